import PyProof.Rows.All
import Wide.All
import OpenK.AllK
import Wide.FinOn
import PySem.Challenge.RW_wr0029_01
open PySem PySem.W PyProof.Rows
set_option Elab.async false
set_option compiler.extract_closed false
set_option maxRecDepth 100000
set_option maxHeartbeats 0
set_option linter.all false
-- Hd
namespace Mine
/-- the statements of the text, one by one -/
def cs (i : Nat) : Stmt := Challenge.pw_wr0029_01.main.body.getD i (.Pass ⟨0, 0, 0, 0⟩)
/-- the program, its statements by number -/
def PC : Program := { Challenge.pw_wr0029_01 with main := { Challenge.pw_wr0029_01.main with body := [cs 0, cs 1, cs 2, cs 3, cs 4, cs 5, cs 6, cs 7, cs 8, cs 9, cs 10, cs 11, cs 12, cs 13, cs 14, cs 15, cs 16, cs 17, cs 18, cs 19, cs 20, cs 21, cs 22, cs 23, cs 24, cs 25, cs 26, cs 27, cs 28, cs 29, cs 30, cs 31, cs 32, cs 33, cs 34, cs 35, cs 36, cs 37, cs 38, cs 39, cs 40, cs 41, cs 42, cs 43, cs 44, cs 45, cs 46, cs 47, cs 48, cs 49, cs 50, cs 51, cs 52, cs 53, cs 54, cs 55, cs 56, cs 57, cs 58, cs 59, cs 60, cs 61, cs 62, cs 63, cs 64, cs 65, cs 66, cs 67, cs 68, cs 69] } }
/-- the row over it -/
def rwm : OpenLaw := by
  refine (?f : ∀ n a f m b w, Challenge.rw_wr0029_01 = ⟨Challenge.pw_wr0029_01, n, a, f, m, b, w⟩ → OpenLaw) _ _ _ _ _ _ (by unfold Challenge.rw_wr0029_01; rfl)
  exact fun n a f m b w _ => ⟨PC, n, a, f, m, b, w⟩
theorem rw_is : Challenge.rw_wr0029_01 = rwm := by rfl
noncomputable abbrev PG : Program := rwm.row.prog
/-- a def of the text -/
noncomputable def td (n : Str) : Arguments × List Stmt × Scope := (PG.theDef n).getD default
noncomputable def ed (P : Params) (k : Str) (t : Tok) (v : Value) : DictEntry := ⟨PyData.keyHash P k, .str k t, v⟩
noncomputable def dcO (es : List DictEntry) (n : Nat) : Obj := { cls := .type "dict", data := .dict es.toArray n }
noncomputable def coO (n f : Str) (t : Tok) (ln na : Int) (a b c : Addr) (u v : Value) (x : Int) (t' : Tok) : Obj := { cls := .type "code", data := .fields #[.str n t, .str n (t + 1), .str f (t + 2), .int ln 0, .int na 0, .int 0 0, .int 0 0, .int 3 0, .ref a, .bool true, .int 181 0, .ref b, .none, u, v, .ref c, .int x 0, .int ln 0, .str f t'] }
noncomputable def fnO (n m : Str) (t : Tok) (c : Addr) : Obj := { cls := .type "function", data := .func (fnOf n n (td n).1 (td n).2.1 (td n).2.2 .none .none .none (.str m t) none (.ref c) .none) }
theorem fn_eq {n m : Str} {t : Tok} {c : Addr} {d : Arguments × List Stmt × Scope} (h : PG.theDef n = some d) : fnO n m t c = ⟨.type "function", none, .func (fnOf n n d.1 d.2.1 d.2.2 .none .none .none (.str m t) none (.ref c) .none), #[]⟩ := by unfold fnO td; rw [h]; rfl
noncomputable def clO (n : Str) (C N : Addr) (bs mro : List Value) (sub : List Value) (b : Addr) (t t' : Tok) : Obj := { cls := .type "type", data := .cls { name := n, bases := bs, mro := .ref C :: (mro ++ [.type "Exception", .type "BaseException", .type "object"]), ns := N, qualname := n, subclasses := sub }, slots := #[some (.ref b), none, some (.str n t), some (.str n t'), some (.builtin "Exception.__new__"), some (.bool true)] }
noncomputable def gl0 (P : Params) : List DictEntry := [ed P (Str.ofString "__name__") 165 (.str (Str.ofString "law_wr0029_01") 484), ed P (Str.ofString "__doc__") 166 (.none), ed P (Str.ofString "__package__") 167 (.none), ed P (Str.ofString "__loader__") 168 (.builtin "__main__.__loader__#opaque"), ed P (Str.ofString "__spec__") 169 (.none), ed P (Str.ofString "__annotations__") 170 (.ref 6)]
noncomputable def gl1 (P : Params) : List DictEntry := [ed P (Str.ofString "__builtins__") 171 (.ref 4), ed P (Str.ofString "__file__") 173 (.str (Str.ofString "/claim/cut.py") 172), ed P (Str.ofString "__cached__") 174 (.none), ed P (Str.ofString "Error") 208 (.ref 24), ed P (Str.ofString "error_reply") 224 (.ref 37), ed P (Str.ofString "error_proto") 240 (.ref 49)]
noncomputable def gl2 (P : Params) : List DictEntry := [ed P (Str.ofString "parse229") 253 (.ref 58), ed P (Str.ofString "ELLIPSIS_MARKER") 257 (.str (Str.ofString "...") 256), ed P (Str.ofString "_ellipsis_match") 269 (.ref 65), ed P (Str.ofString "_strcoll") 279 (.ref 72), ed P (Str.ofString "ENDMARKER") 283 (.int 0 282), ed P (Str.ofString "LPAR") 285 (.int 7 284)]
noncomputable def gl3 (P : Params) : List DictEntry := [ed P (Str.ofString "RPAR") 287 (.int 8 286), ed P (Str.ofString "LSQB") 289 (.int 9 288), ed P (Str.ofString "RSQB") 291 (.int 10 290), ed P (Str.ofString "COLON") 293 (.int 11 292), ed P (Str.ofString "COMMA") 295 (.int 12 294), ed P (Str.ofString "SEMI") 297 (.int 13 296)]
noncomputable def gl4 (P : Params) : List DictEntry := [ed P (Str.ofString "PLUS") 299 (.int 14 298), ed P (Str.ofString "MINUS") 301 (.int 15 300), ed P (Str.ofString "STAR") 303 (.int 16 302), ed P (Str.ofString "SLASH") 305 (.int 17 304), ed P (Str.ofString "VBAR") 307 (.int 18 306), ed P (Str.ofString "AMPER") 309 (.int 19 308)]
noncomputable def gl5 (P : Params) : List DictEntry := [ed P (Str.ofString "LESS") 311 (.int 20 310), ed P (Str.ofString "GREATER") 313 (.int 21 312), ed P (Str.ofString "EQUAL") 315 (.int 22 314), ed P (Str.ofString "DOT") 317 (.int 23 316), ed P (Str.ofString "PERCENT") 319 (.int 24 318), ed P (Str.ofString "LBRACE") 321 (.int 25 320)]
noncomputable def gl6 (P : Params) : List DictEntry := [ed P (Str.ofString "RBRACE") 323 (.int 26 322), ed P (Str.ofString "EQEQUAL") 325 (.int 27 324), ed P (Str.ofString "NOTEQUAL") 327 (.int 28 326), ed P (Str.ofString "LESSEQUAL") 329 (.int 29 328), ed P (Str.ofString "GREATEREQUAL") 331 (.int 30 330), ed P (Str.ofString "TILDE") 333 (.int 31 332)]
noncomputable def gl7 (P : Params) : List DictEntry := [ed P (Str.ofString "CIRCUMFLEX") 335 (.int 32 334), ed P (Str.ofString "LEFTSHIFT") 337 (.int 33 336), ed P (Str.ofString "RIGHTSHIFT") 339 (.int 34 338), ed P (Str.ofString "DOUBLESTAR") 341 (.int 35 340), ed P (Str.ofString "PLUSEQUAL") 343 (.int 36 342), ed P (Str.ofString "MINEQUAL") 345 (.int 37 344)]
noncomputable def gl8 (P : Params) : List DictEntry := [ed P (Str.ofString "STAREQUAL") 347 (.int 38 346), ed P (Str.ofString "SLASHEQUAL") 349 (.int 39 348), ed P (Str.ofString "PERCENTEQUAL") 351 (.int 40 350), ed P (Str.ofString "AMPEREQUAL") 353 (.int 41 352), ed P (Str.ofString "VBAREQUAL") 355 (.int 42 354), ed P (Str.ofString "CIRCUMFLEXEQUAL") 357 (.int 43 356)]
noncomputable def gl9 (P : Params) : List DictEntry := [ed P (Str.ofString "LEFTSHIFTEQUAL") 359 (.int 44 358), ed P (Str.ofString "RIGHTSHIFTEQUAL") 361 (.int 45 360), ed P (Str.ofString "DOUBLESTAREQUAL") 363 (.int 46 362), ed P (Str.ofString "DOUBLESLASH") 365 (.int 47 364), ed P (Str.ofString "DOUBLESLASHEQUAL") 367 (.int 48 366), ed P (Str.ofString "AT") 369 (.int 49 368)]
noncomputable def gl10 (P : Params) : List DictEntry := [ed P (Str.ofString "ATEQUAL") 371 (.int 50 370), ed P (Str.ofString "RARROW") 373 (.int 51 372), ed P (Str.ofString "ELLIPSIS") 375 (.int 52 374), ed P (Str.ofString "COLONEQUAL") 377 (.int 53 376), ed P (Str.ofString "EXCLAMATION") 379 (.int 54 378), ed P (Str.ofString "EXACT_TOKEN_TYPES") 476 (.ref 73)]
noncomputable def gl11 (P : Params) : List DictEntry := [ed P (Str.ofString "ISEOF") 483 (.ref 82), ed P (Str.ofString "_law_ranks") 491 (.ref 87), ed P (Str.ofString "_law_port") 502 (.ref 94), ed P (Str.ofString "_law_spoiled") 515 (.ref 101), ed P (Str.ofString "_law_told") 521 (.ref 106), ed P (Str.ofString "_law_stands") 529 (.ref 113)]
noncomputable def gl12 (P : Params) : List DictEntry := [ed P (Str.ofString "_law_ends") 535 (.ref 118), ed P (Str.ofString "law") 541 (.ref 123)]
noncomputable def gl (P : Params) : List DictEntry := gl0 P ++ (gl1 P ++ (gl2 P ++ (gl3 P ++ (gl4 P ++ (gl5 P ++ (gl6 P ++ (gl7 P ++ (gl8 P ++ (gl9 P ++ (gl10 P ++ (gl11 P ++ (gl12 P))))))))))))
noncomputable def glO (P : Params) : Obj := dcO (gl P) 74
noncomputable def tk0 (P : Params) : List DictEntry := [ed P (Str.ofString "!") 380 (.int 54 378), ed P (Str.ofString "!=") 382 (.int 28 326), ed P (Str.ofString "%") 384 (.int 24 318), ed P (Str.ofString "%=") 386 (.int 40 350), ed P (Str.ofString "&") 388 (.int 19 308), ed P (Str.ofString "&=") 390 (.int 41 352)]
noncomputable def tk1 (P : Params) : List DictEntry := [ed P (Str.ofString "(") 392 (.int 7 284), ed P (Str.ofString ")") 394 (.int 8 286), ed P (Str.ofString "*") 396 (.int 16 302), ed P (Str.ofString "**") 398 (.int 35 340), ed P (Str.ofString "**=") 400 (.int 46 362), ed P (Str.ofString "*=") 402 (.int 38 346)]
noncomputable def tk2 (P : Params) : List DictEntry := [ed P (Str.ofString "+") 404 (.int 14 298), ed P (Str.ofString "+=") 406 (.int 36 342), ed P (Str.ofString ",") 408 (.int 12 294), ed P (Str.ofString "-") 410 (.int 15 300), ed P (Str.ofString "-=") 412 (.int 37 344), ed P (Str.ofString "->") 414 (.int 51 372)]
noncomputable def tk3 (P : Params) : List DictEntry := [ed P (Str.ofString ".") 416 (.int 23 316), ed P (Str.ofString "...") 418 (.int 52 374), ed P (Str.ofString "/") 420 (.int 17 304), ed P (Str.ofString "//") 422 (.int 47 364), ed P (Str.ofString "//=") 424 (.int 48 366), ed P (Str.ofString "/=") 426 (.int 39 348)]
noncomputable def tk4 (P : Params) : List DictEntry := [ed P (Str.ofString ":") 428 (.int 11 292), ed P (Str.ofString ":=") 430 (.int 53 376), ed P (Str.ofString ";") 432 (.int 13 296), ed P (Str.ofString "<") 434 (.int 20 310), ed P (Str.ofString "<<") 436 (.int 33 336), ed P (Str.ofString "<<=") 438 (.int 44 358)]
noncomputable def tk5 (P : Params) : List DictEntry := [ed P (Str.ofString "<=") 440 (.int 29 328), ed P (Str.ofString "=") 442 (.int 22 314), ed P (Str.ofString "==") 444 (.int 27 324), ed P (Str.ofString ">") 446 (.int 21 312), ed P (Str.ofString ">=") 448 (.int 30 330), ed P (Str.ofString ">>") 449 (.int 34 338)]
noncomputable def tk6 (P : Params) : List DictEntry := [ed P (Str.ofString ">>=") 450 (.int 45 360), ed P (Str.ofString "@") 451 (.int 49 368), ed P (Str.ofString "@=") 452 (.int 50 370), ed P (Str.ofString "[") 453 (.int 9 288), ed P (Str.ofString "]") 454 (.int 10 290), ed P (Str.ofString "^") 455 (.int 32 334)]
noncomputable def tk7 (P : Params) : List DictEntry := [ed P (Str.ofString "^=") 456 (.int 43 356), ed P (Str.ofString "{") 457 (.int 25 320), ed P (Str.ofString "|") 458 (.int 18 306), ed P (Str.ofString "|=") 459 (.int 42 354), ed P (Str.ofString "}") 460 (.int 26 322), ed P (Str.ofString "~") 461 (.int 31 332)]
noncomputable def tk (P : Params) : List DictEntry := tk0 P ++ (tk1 P ++ (tk2 P ++ (tk3 P ++ (tk4 P ++ (tk5 P ++ (tk6 P ++ (tk7 P)))))))
noncomputable def tkO (P : Params) : Obj := dcO (tk P) 48
noncomputable def ns23x0 (P : Params) : List DictEntry := [ed P (Str.ofString "__module__") 196 (.str (Str.ofString "cpy313.ftplib") 187), ed P (Str.ofString "__firstlineno__") 200 (.int 2 199), ed P (Str.ofString "__static_attributes__") 201 (.ref 22), ed P (Str.ofString "__weakref__") 203 (.ref 25), ed P (Str.ofString "__doc__") 204 (.none)]
noncomputable def ns23x (P : Params) : List DictEntry := ns23x0 P
noncomputable def ns23xO (P : Params) : Obj := dcO (ns23x P) 3
noncomputable def ns36x0 (P : Params) : List DictEntry := [ed P (Str.ofString "__module__") 216 (.str (Str.ofString "cpy313.ftplib") 187), ed P (Str.ofString "__firstlineno__") 220 (.int 4 219), ed P (Str.ofString "__static_attributes__") 221 (.ref 35), ed P (Str.ofString "__doc__") 222 (.none)]
noncomputable def ns36x (P : Params) : List DictEntry := ns36x0 P
noncomputable def ns36xO (P : Params) : Obj := dcO (ns36x P) 2
noncomputable def ns48x0 (P : Params) : List DictEntry := [ed P (Str.ofString "__module__") 232 (.str (Str.ofString "cpy313.ftplib") 187), ed P (Str.ofString "__firstlineno__") 236 (.int 6 235), ed P (Str.ofString "__static_attributes__") 237 (.ref 47), ed P (Str.ofString "__doc__") 238 (.none)]
noncomputable def ns48x (P : Params) : List DictEntry := ns48x0 P
noncomputable def ns48xO (P : Params) : Obj := dcO (ns48x P) 2
/-- the objects that the law needs, behind the top -/
noncomputable def kf0 (P : Params) : Frag := [(3, glO P), (23, ns23xO P), (24, clO (Str.ofString "Error") 24 23 [.type "Exception"] [] [.ref 37, .ref 49] 15 189 197), (36, ns36xO P), (37, clO (Str.ofString "error_reply") 37 36 [.ref 24] [.ref 24] [] 28 209 217), (48, ns48xO P), (49, clO (Str.ofString "error_proto") 49 48 [.ref 24] [.ref 24] [] 40 225 233), (57, coO (Str.ofString "parse229") (Str.ofString "/claim/cut.py") 241 8 2 52 53 56 (.ref 54) (.ref 55) 251 252)]
noncomputable def kf1 (P : Params) : Frag := [(58, fnO (Str.ofString "parse229") (Str.ofString "cpy313.ftplib") 187 57), (64, coO (Str.ofString "_ellipsis_match") (Str.ofString "/claim/cut.py") 258 27 2 59 60 63 (.ref 61) (.ref 62) 267 268), (65, fnO (Str.ofString "_ellipsis_match") (Str.ofString "cpy313.doctest") 254 64), (71, coO (Str.ofString "_strcoll") (Str.ofString "/claim/cut.py") 272 56 2 66 67 70 (.ref 68) (.ref 69) 277 278), (72, fnO (Str.ofString "_strcoll") (Str.ofString "cpy313.locale") 270 71), (73, tkO P), (81, coO (Str.ofString "ISEOF") (Str.ofString "/claim/cut.py") 477 109 1 76 77 80 (.ref 78) (.ref 79) 481 482), (82, fnO (Str.ofString "ISEOF") (Str.ofString "cpy313.token") 280 81)]
noncomputable def kf2 (P : Params) : Frag := [(86, coO (Str.ofString "_law_ranks") (Str.ofString "/claim/cut.py") 486 112 1 83 84 85 (.none) (.none) 489 490), (87, fnO (Str.ofString "_law_ranks") (Str.ofString "law_wr0029_01") 484 86), (93, coO (Str.ofString "_law_port") (Str.ofString "/claim/cut.py") 492 121 2 88 89 92 (.ref 90) (.ref 91) 500 501), (94, fnO (Str.ofString "_law_port") (Str.ofString "law_wr0029_01") 484 93), (100, coO (Str.ofString "_law_spoiled") (Str.ofString "/claim/cut.py") 503 129 4 95 96 99 (.ref 97) (.ref 98) 513 514), (101, fnO (Str.ofString "_law_spoiled") (Str.ofString "law_wr0029_01") 484 100), (105, coO (Str.ofString "_law_told") (Str.ofString "/claim/cut.py") 516 136 3 102 103 104 (.none) (.none) 519 520), (106, fnO (Str.ofString "_law_told") (Str.ofString "law_wr0029_01") 484 105)]
noncomputable def kf3 (P : Params) : Frag := [(112, coO (Str.ofString "_law_stands") (Str.ofString "/claim/cut.py") 522 151 2 107 108 111 (.ref 109) (.ref 110) 527 528), (113, fnO (Str.ofString "_law_stands") (Str.ofString "law_wr0029_01") 484 112), (117, coO (Str.ofString "_law_ends") (Str.ofString "/claim/cut.py") 530 153 1 114 115 116 (.none) (.none) 533 534), (118, fnO (Str.ofString "_law_ends") (Str.ofString "law_wr0029_01") 484 117), (122, coO (Str.ofString "law") (Str.ofString "/claim/cut.py") 536 163 1 119 120 121 (.none) (.none) 539 540), (123, fnO (Str.ofString "law") (Str.ofString "law_wr0029_01") 484 122)]
noncomputable def KF (P : Params) : Frag := kf0 P ++ (kf1 P ++ (kf2 P ++ (kf3 P)))
noncomputable def KA : List Addr := [3, 23, 24, 36, 37, 48, 49, 57, 58, 64, 65, 71, 72, 73, 81, 82, 86, 87, 93, 94, 100, 101, 105, 106, 112, 113, 117, 118, 122, 123]
noncomputable def lo0 : List Str := [Str.ofString "Error", Str.ofString "error_reply", Str.ofString "error_proto", Str.ofString "parse229", Str.ofString "ELLIPSIS_MARKER", Str.ofString "_ellipsis_match", Str.ofString "_strcoll", Str.ofString "ENDMARKER"]
noncomputable def lo1 : List Str := [Str.ofString "LPAR", Str.ofString "RPAR", Str.ofString "LSQB", Str.ofString "RSQB", Str.ofString "COLON", Str.ofString "COMMA", Str.ofString "SEMI", Str.ofString "PLUS"]
noncomputable def lo2 : List Str := [Str.ofString "MINUS", Str.ofString "STAR", Str.ofString "SLASH", Str.ofString "VBAR", Str.ofString "AMPER", Str.ofString "LESS", Str.ofString "GREATER", Str.ofString "EQUAL"]
noncomputable def lo3 : List Str := [Str.ofString "DOT", Str.ofString "PERCENT", Str.ofString "LBRACE", Str.ofString "RBRACE", Str.ofString "EQEQUAL", Str.ofString "NOTEQUAL", Str.ofString "LESSEQUAL", Str.ofString "GREATEREQUAL"]
noncomputable def lo4 : List Str := [Str.ofString "TILDE", Str.ofString "CIRCUMFLEX", Str.ofString "LEFTSHIFT", Str.ofString "RIGHTSHIFT", Str.ofString "DOUBLESTAR", Str.ofString "PLUSEQUAL", Str.ofString "MINEQUAL", Str.ofString "STAREQUAL"]
noncomputable def lo5 : List Str := [Str.ofString "SLASHEQUAL", Str.ofString "PERCENTEQUAL", Str.ofString "AMPEREQUAL", Str.ofString "VBAREQUAL", Str.ofString "CIRCUMFLEXEQUAL", Str.ofString "LEFTSHIFTEQUAL", Str.ofString "RIGHTSHIFTEQUAL", Str.ofString "DOUBLESTAREQUAL"]
noncomputable def lo6 : List Str := [Str.ofString "DOUBLESLASH", Str.ofString "DOUBLESLASHEQUAL", Str.ofString "AT", Str.ofString "ATEQUAL", Str.ofString "RARROW", Str.ofString "ELLIPSIS", Str.ofString "COLONEQUAL", Str.ofString "EXCLAMATION"]
noncomputable def lo7 : List Str := [Str.ofString "EXACT_TOKEN_TYPES", Str.ofString "ISEOF", Str.ofString "_law_ranks", Str.ofString "_law_port", Str.ofString "_law_spoiled", Str.ofString "_law_told", Str.ofString "_law_stands", Str.ofString "_law_ends"]
/-- the other names of the text -/
noncomputable def LO : List Str := lo0 ++ (lo1 ++ (lo2 ++ (lo3 ++ (lo4 ++ (lo5 ++ (lo6 ++ (lo7)))))))
/-- the text's last def alone -/
noncomputable def VW : Program := { PG with main := { PG.main with body := PG.main.body.drop 69 } }
theorem KA_ok : ∀ P, KA = (KF P).map (·.1) := fun _ => by kernel_rfl
/-- the law's own def -/
noncomputable def dD : { d : DefRec // defOf VW (Str.ofString "law") = some (d, []) } := ⟨_, by with_unfolding_all rfl⟩
theorem dD_is : rwm.row.prog.theDef rwm.row.name = some (dD.1.params, dD.1.body, dD.1.scope) := by kernel_rfl
theorem dD_kw : kwWritten? dD.1.params.kwonlyargs dD.1.params.kw_defaults = some [] := by kernel_rfl
end Mine
open PySem.Spec PySem.Calls
-- Bp
namespace Mine
noncomputable abbrev LZ : List Str := looseW VW LO ++ (recsOf VW).map (·.name) ++ (litsOf VW).map (·.1) ++ (clssOf VW (looseW VW LO)).map (·.name)
end Mine
-- Pl
namespace Mine
structure Wd where
  lv : Nat
  w : World
  mean : ExcName → Option Value
  mg : Str → Option Value
  mb : Str → Option Value
  hf : List Addr := []
  st : Bool := false
  ho : Addr → Option Obj := fun _ => none

/-- the frames of the stack -/
noncomputable def frsA (A : Around) : List Addr := match A.frames with | some l => l.filterMap (·.frame) | none => []
theorem hid_mono {h h' : Heap} {Mu : List Addr} (k : ∀ b o, b ∉ Mu → h.get? b = some o → h'.get? b = some o) : (hideAll h Mu).StaysIn (hideAll h' Mu) := fun b o e => by
  have hb : b ∉ Mu := fun hm => by rw [hideAll_none Mu hm] at e; cases e
  exact hideAll_get _ (k b o hb (of_hideAll _ e)) hb
theorem hid_sub {h : Heap} {Mu Mu' : List Addr} (hs : ∀ a ∈ Mu, a ∈ Mu') : (hideAll h Mu').StaysIn (hideAll h Mu) := fun b o e => by
  have hb : b ∉ Mu' := fun hm => by rw [hideAll_none Mu' hm] at e; cases e
  exact hideAll_get _ (of_hideAll _ e) fun hm => hb (hs _ hm)
theorem hid_le {h : Heap} {Mu : List Addr} : (hideAll h Mu).StaysIn h := fun b o e => of_hideAll _ e
/-- new addresses may be hidden too -/
theorem hid_new {h h' : Heap} {Mu Mu' : List Addr} (k : ∀ b o, b ∉ Mu → h.get? b = some o → h'.get? b = some o) (hn : ∀ a ∈ Mu', a ∈ Mu ∨ h.get? a = none) : (hideAll h Mu).StaysIn (hideAll h' Mu') := fun b o e => by
  have hb : b ∉ Mu := fun hm => by rw [hideAll_none Mu hm] at e; cases e
  have e' := of_hideAll _ e
  refine hideAll_get _ (k b o hb e') fun hm => ?_
  rcases hn b hm with q | q
  · exact hb q
  · rw [q] at e'; cases e'
theorem stays_trans {a b c : Heap} (x : a.StaysIn b) (y : b.StaysIn c) : a.StaysIn c := fun p o e => y p o (x p o e)
theorem stays_refl {a : Heap} : a.StaysIn a := fun _ _ e => e
theorem stays_push {a : Heap} (o : Obj) : a.StaysIn (a.push o) := fun _ _ e => Heap.get?_push_of_some _ e

structure VP where
  p : Heap → Value → Prop
  mono : ∀ {h h' : Heap} {v : Value}, h.StaysIn h' → p h v → p h' v

noncomputable def VsP : List VP → Heap → List Value → Prop
  | [], _, [] => True
  | V :: Vs, h, v :: vs => V.p h v ∧ VsP Vs h vs
  | _, _, _ => False
theorem VsP.mono {h h' : Heap} (k : h.StaysIn h') : ∀ {Vs : List VP} {vs : List Value}, VsP Vs h vs → VsP Vs h' vs
  | [], [], _ => trivial
  | V :: Vs, v :: vs, x => ⟨V.mono k x.1, VsP.mono k x.2⟩
  | [], _ :: _, x => x.elim
  | _ :: _, [], x => x.elim
theorem VsP.length {h : Heap} : ∀ {Vs : List VP} {vs : List Value}, VsP Vs h vs → vs.length = Vs.length
  | [], [], _ => rfl
  | V :: Vs, v :: vs, x => congrArg (· + 1) (VsP.length x.2)
  | [], _ :: _, x => x.elim
  | _ :: _, [], x => x.elim
theorem VsP.append {h : Heap} : ∀ {Vs : List VP} {vs : List Value} {Ws : List VP} {ws : List Value}, VsP Vs h vs → VsP Ws h ws → VsP (Vs ++ Ws) h (vs ++ ws)
  | [], [], _, _, _, y => y
  | V :: Vs, v :: vs, _, _, x, y => ⟨x.1, VsP.append x.2 y⟩
  | [], _ :: _, _, _, x, _ => x.elim
  | _ :: _, [], _, _, x, _ => x.elim
theorem VsP.get {h : Heap} : ∀ {Vs : List VP} {vs : List Value} {i : Nat} {V : VP}, VsP Vs h vs → Vs[i]? = some V → ∃ v, vs[i]? = some v ∧ V.p h v
  | [], [], i, V, _, e => by simp at e
  | V₀ :: Vs, v :: vs, 0, V, x, e => by simp at e; subst e; exact ⟨v, by simp, x.1⟩
  | V₀ :: Vs, v :: vs, i + 1, V, x, e => by simp at e; obtain ⟨u, a, b⟩ := VsP.get x.2 e; exact ⟨u, by simpa using a, b⟩
  | [], _ :: _, _, _, x, _ => x.elim
  | _ :: _, [], _, _, x, _ => x.elim

noncomputable def VI (x : Int) : VP := ⟨fun _ v => ∃ t, v = .int x t, fun _ e => e⟩
noncomputable def VB (x : Bool) : VP := ⟨fun _ v => v = .bool x, fun _ e => e⟩
noncomputable def VS (x : Str) : VP := ⟨fun _ v => ∃ t, v = .str x t, fun _ e => e⟩
noncomputable def VE (u : Value) : VP := ⟨fun _ v => v = u, fun _ e => e⟩
noncomputable def VL (Vs : List VP) : VP := ⟨fun h v => ∃ (a : Addr) (items : List Value), v = .ref a ∧ h.PlainList a items.toArray ∧ VsP Vs h items, fun k ⟨a, its, e, ⟨n, ho⟩, x⟩ => ⟨a, its, e, ⟨n, k _ _ ho⟩, x.mono k⟩⟩
noncomputable def VT (Vs : List VP) : VP := ⟨fun h v => ∃ (a : Addr) (items : List Value), v = .ref a ∧ IsTup h a items.toArray ∧ VsP Vs h items, fun k ⟨a, its, e, ⟨o, ho, r⟩, x⟩ => ⟨a, its, e, ⟨o, k _ _ ho, r⟩, x.mono k⟩⟩

/-- the surroundings of a call -/
structure CtB (c : Nat) (W : Wd) (A : Around) (h : Heap) : Prop where
  X : (KF W.w.params).In h
  T : Top topProg LZ W.mean W.mg W.mb h
  call : ∃ dp un gd cn cs L a ccd cl outer base, A = ktrTop dp un gd cn cs L a ccd cl outer ∧ Below A base (envX cn cs L a ccd cl :: outer) h ∧ cs.kind = .function ∧ dp + W.lv ≤ 400 ∧ un + 10 * W.lv ≤ c
noncomputable abbrev Ct := CtB 1000
theorem below_mono {A : Around} {base h h' : Heap} {l : List Env} (B : Below A base l h) (k : h.StaysIn h') : Below A base l h' :=
  ⟨B.stack, fun b o e => k _ _ (B.stays b o e), B.frames.of_keeps fun b o e _ => ⟨o, k b o e, rfl⟩⟩
theorem CtB.mono {c : Nat} {W : Wd} {A : Around} {h h' : Heap} (x : CtB c W A h) (k : h.StaysIn h') : CtB c W A h' :=
  ⟨x.X.keeps k, x.T.keeps k, let ⟨dp, un, gd, cn, cs, L, a, ccd, cl, outer, base, e, B, r⟩ := x.call; ⟨dp, un, gd, cn, cs, L, a, ccd, cl, outer, base, e, below_mono B k, r⟩⟩
theorem CtB.handled {c : Nat} {W : Wd} {A : Around} {h : Heap} (x : CtB c W A h) : A.handled = none := by
  obtain ⟨dp, un, gd, cn, cs, L, a, ccd, cl, outer, base, e, _⟩ := x.call; rw [e]
theorem CtB.units {W : Wd} {A : Around} {h : Heap} (x : CtB 1000 W A h) : A.units ≤ 1000 := by
  obtain ⟨dp, un, gd, cn, cs, L, a, ccd, cl, outer, base, e, _, _, _, r⟩ := x.call; rw [e]; show un ≤ 1000; omega
theorem CtB.weak {W : Wd} {A : Around} {h : Heap} (x : Ct W A h) : CtB 1005 W A h :=
  ⟨x.X, x.T, let ⟨dp, un, gd, cn, cs, L, a, ccd, cl, outer, base, e, B, k, d, u⟩ := x.call; ⟨dp, un, gd, cn, cs, L, a, ccd, cl, outer, base, e, B, k, d, by omega⟩⟩
theorem CtB.in2 {W : Wd} {A : Around} {h : Heap} (x : Ct W A h) : CtB 1005 W A.in1.in1 h :=
  ⟨x.X, x.T, let ⟨dp, un, gd, cn, cs, L, a, ccd, cl, outer, base, e, B, k, d, u⟩ := x.call; ⟨dp, un + 2, gd, cn, cs, L, a, ccd, cl, outer, base, by rw [e], ⟨B.stack, B.stays, B.frames⟩, k, d, by omega⟩⟩

noncomputable def Look (env : Env) (h : Heap) (x : Str) (v : Value) : Prop :=
  (env.kindOf x = some .local ∧ ∃ m, h.Ns env.locals m ∧ m x = some v) ∨ ((env.kindOf x = some .cell ∨ env.kindOf x = some .free) ∧ ∃ c, env.cells.lookup x = some c ∧ h.IsCell c (some v))
theorem Look.mono {env : Env} {h h' : Heap} {x : Str} {v : Value} (k : h.StaysIn h') : Look env h x v → Look env h' x v
  | .inl ⟨e, m, hn, hm⟩ => .inl ⟨e, m, hn.keeps k, hm⟩
  | .inr ⟨e, c, hc, hv⟩ => .inr ⟨e, c, hc, hv.keeps k⟩

noncomputable abbrev Rho := List (Str × VP)
structure Inv (W : Wd) (A : Around) (env : Env) (Mu : List Addr) (ρ : Rho) (h : Heap) : Prop where
  ct : Ct W A h
  kf : env.scope.kind = .function
  eg : env.globals = mainGlobals
  eb : env.builtins = builtinsNs
  mu : ∀ a ∈ Mu, ∃ o, h.get? a = some o
  cel : ∀ x c, env.cells.lookup x = some c → ∃ o, h.get? c = some o
  vars : ∀ p ∈ ρ, ∃ v, Look env h p.1 v ∧ p.2.p (hideAll h Mu) v
  sta : ∀ a ∈ Mu, (KF W.w.params).lookup a = none
theorem sta_of {K : Frag} {h : Heap} {a : Addr} (X : K.In h) (e : h.get? a = none) : K.lookup a = none := by
  cases q : K.lookup a with
  | none => rfl
  | some o => have := X _ _ q; rw [e] at this; cases this
theorem Inv.mono {W : Wd} {A : Around} {env : Env} {Mu : List Addr} {ρ : Rho} {h h' : Heap} (i : Inv W A env Mu ρ h) (k : h.StaysIn h') : Inv W A env Mu ρ h' :=
  ⟨i.ct.mono k, i.kf, i.eg, i.eb, fun a ha => let ⟨o, e⟩ := i.mu a ha; ⟨o, k _ _ e⟩, fun x c hc => let ⟨o, e⟩ := i.cel x c hc; ⟨o, k _ _ e⟩, fun p hp => let ⟨v, l, q⟩ := i.vars p hp; ⟨v, l.mono k, p.2.mono (hid_mono fun b o _ e => k b o e) q⟩, i.sta⟩
theorem mu_lt {Mu : List Addr} {h : Heap} (hm : ∀ a ∈ Mu, ∃ o, h.get? a = some o) {a : Addr} (ha : a ∈ Mu) : a < h.objs.size := let ⟨_, e⟩ := hm a ha; Heap.lt_size e

/-- an expression's value -/
noncomputable def PE (W : Wd) (env : Env) (ρ : Rho) (e : Expr) (V : VP) : Prop :=
  ∀ (A : Around) (Mu : List Addr) (s : Shared) (Q E : Value → Shared → Prop), Inv W A env Mu ρ s.heap →
    (∀ v h' tk, s.heap.StaysIn h' → V.p (hideAll h' Mu) v → Q v { s with heap := h', toks := tk }) → wpAny (model PG W.w) A (eval e env) Q E s
/-- a test -/
noncomputable def PT (W : Wd) (env : Env) (ρ : Rho) (e : Expr) (b : Bool) : Prop :=
  ∀ (A : Around) (Mu : List Addr) (s : Shared) (Q : Bool → Shared → Prop) (E : Value → Shared → Prop), Inv W A env Mu ρ s.heap →
    (∀ h' tk, s.heap.StaysIn h' → Q b { s with heap := h', toks := tk }) → wpAny (model PG W.w) A (isTrue e env (eval e env)) Q E s
/-- arguments -/
noncomputable def PA (W : Wd) (env : Env) (ρ : Rho) (pos : Pos) (es : List Expr) (Vs : List VP) : Prop :=
  ∀ (A : Around) (Mu : List Addr) (s : Shared) (Q : List Value → Shared → Prop) (E : Value → Shared → Prop), Inv W A env Mu ρ s.heap →
    (∀ vs h' tk, s.heap.StaysIn h' → VsP Vs (hideAll h' Mu) vs → Q vs { s with heap := h', toks := tk }) → wpAny (model PG W.w) A (spliced (backTo pos (starEach es env))) Q E s
/-- a call of a value with arguments -/
noncomputable def FC (W : Wd) (f : Value) (Vs : List VP) (V : VP) : Prop :=
  ∀ (A : Around) (Mu : List Addr) (s : Shared) (vs : List Value) (Q E : Value → Shared → Prop), CtB 1005 W A s.heap → (∀ a ∈ Mu, ∃ o, s.heap.get? a = some o) → VsP Vs (hideAll s.heap Mu) vs →
    (∀ v h' tk, s.heap.StaysIn h' → V.p (hideAll h' Mu) v → Q v { s with heap := h', toks := tk }) → wpAny (model PG W.w) A (call f vs) Q E s
/-- a binary step upon two values -/
noncomputable def F2 (W : Wd) (t : Value → Value → Sem Value) (V₁ V₂ V : VP) : Prop :=
  ∀ (A : Around) (Mu : List Addr) (s : Shared) (a b : Value) (Q E : Value → Shared → Prop), Ct W A s.heap → (∀ a ∈ Mu, ∃ o, s.heap.get? a = some o) → V₁.p (hideAll s.heap Mu) a → V₂.p (hideAll s.heap Mu) b →
    (∀ v h' tk, s.heap.StaysIn h' → V.p (hideAll h' Mu) v → Q v { s with heap := h', toks := tk }) → wpAny (model PG W.w) A (t a b) Q E s

section
variable {W : Wd} {env : Env} {ρ : Rho} {A : Around} {Mu : List Addr}
theorem PE.name {x : Str} {pos : Pos} {V : VP} (hm : (x, V) ∈ ρ) (hd : (x == ("__debug__" : Str)) = false := by decide) (hn : (x == ("__classdict__" : Str)) = false := by decide) : PE W env ρ (.Name x pos) V := by
  intro A Mu s Q E I k
  obtain ⟨v, l, q⟩ := I.vars _ hm
  refine wpAny_Name ?_ hd
  rcases l with ⟨e, m, hns, hv⟩ | ⟨e | e, c, hc, hv⟩
  · exact wpAny_loadName_local I.kf e hns hv (k v s.heap s.toks stays_refl q)
  · exact wpAny_loadName_cell I.kf e hc hv (k v s.heap s.toks stays_refl q)
  · exact wpAny_loadName_free I.kf e hc hv (k v s.heap s.toks stays_refl q) hn
theorem PE.global {x : Str} {pos : Pos} {v : Value} (hk : env.kindOf x = some .globalImplicit) (e : nsIn (KF W.w.params) mainGlobals x = some (some v)) (hd : (x == ("__debug__" : Str)) = false := by decide) : PE W env ρ (.Name x pos) (VE v) := by
  intro A Mu s Q E I k
  refine Name_function_global I.kf hk (loadGlobal_global ?_ (mg_of I.ct.X I.ct.T.g e) (k v s.heap s.toks stays_refl rfl)) hd
  rw [I.eg]; exact I.ct.T.g
theorem PE.builtin {x : Str} {pos : Pos} {v : Value} (hk : env.kindOf x = some .globalImplicit) (e : nsIn (KF W.w.params) mainGlobals x = some none) (hv : bootBuiltins x = some v) (hx : x ≠ "__name__")
    (hd : (x == ("__debug__" : Str)) = false := by decide) : PE W env ρ (.Name x pos) (VE v) := by
  intro A Mu s Q E I k
  refine Name_function_global I.kf hk (loadGlobal_builtin (mg := W.mg) (mb := W.mb) ?_ (mg_none_of I.ct.X I.ct.T.g e) ?_ ((I.ct.T.builtins x hx).trans hv) (k v s.heap s.toks stays_refl rfl)) hd
  · rw [I.eg]; exact I.ct.T.g
  · rw [I.eb]; exact I.ct.T.b
theorem PE.int {i : Int} {k : Nat} {pos : Pos} : PE W env ρ (.Constant (.int i) k pos) (VI i) := fun A Mu s Q E I k => wpAny_Constant_int (k _ s.heap _ stays_refl ⟨_, rfl⟩)
theorem PE.str {x : Str} {k : Nat} {pos : Pos} : PE W env ρ (.Constant (.str x) k pos) (VS x) := fun A Mu s Q E I k => Constant_str (k _ s.heap _ stays_refl ⟨_, rfl⟩)
theorem PE.bool {b : Bool} {k : Nat} {pos : Pos} : PE W env ρ (.Constant (.bool b) k pos) (VB b) := fun A Mu s Q E I k => wpAny_Constant_bool (k _ s.heap s.toks stays_refl rfl)

theorem PE.seq2 {e₁ e₂ : Expr} {V₁ V₂ V : VP} {t : Value → Value → Sem Value} (h₁ : PE W env ρ e₁ V₁) (h₂ : PE W env ρ e₂ V₂) (h : F2 W t V₁ V₂ V)
    {A : Around} {Mu : List Addr} {s : Shared} {Q E : Value → Shared → Prop} (I : Inv W A env Mu ρ s.heap) (k : ∀ v h' tk, s.heap.StaysIn h' → V.p (hideAll h' Mu) v → Q v { s with heap := h', toks := tk }) :
    wpAny (model PG W.w) A (eval e₁ env) (fun a s₁ => wpAny (model PG W.w) A (eval e₂ env) (fun b s₂ => wpAny (model PG W.w) A (t a b) Q E s₂) E s₁) E s :=
  h₁ _ _ _ _ _ I fun a h₁' tk₁ k₁ p₁ => h₂ _ _ _ _ _ (I.mono k₁) fun b h₂' tk₂ k₂ p₂ =>
    h _ Mu _ _ _ _ _ ((I.mono k₁).mono k₂).ct ((I.mono k₁).mono k₂).mu (V₁.mono (hid_mono fun b o _ e => k₂ b o e) p₁) p₂ fun v h₃ tk₃ k₃ p₃ => k v h₃ tk₃ (stays_trans k₁ (stays_trans k₂ k₃)) p₃
theorem PE.binop {l r : Expr} {op : Operator} {pos : Pos} {V₁ V₂ V : VP} (h : F2 W (binaryOp op) V₁ V₂ V) (h₁ : PE W env ρ l V₁) (h₂ : PE W env ρ r V₂) : PE W env ρ (.BinOp l op r pos) V :=
  fun A Mu s Q E I k => wpAny_BinOp (PE.seq2 h₁ h₂ h I k)
theorem PE.compare {l r : Expr} {op : CmpOp} {pos : Pos} {V₁ V₂ V : VP} (h : F2 W (compareOp op) V₁ V₂ V) (h₁ : PE W env ρ l V₁) (h₂ : PE W env ρ r V₂) (hm : behindInMarks op r = false := by with_unfolding_all rfl) : PE W env ρ (.Compare l [op] [r] pos) V :=
  fun A Mu s Q E I k => wpAny_Compare1 (PE.seq2 h₁ h₂ h I k) hm
theorem PE.sub {value slice : Expr} {pos : Pos} {V₁ V₂ V : VP} (h : F2 W (subscriptTail value slice) V₁ V₂ V) (h₁ : PE W env ρ value V₁) (h₂ : PE W env ρ slice V₂) : PE W env ρ (.Subscript value slice pos) V :=
  fun A Mu s Q E I k => Subscript_ (PE.seq2 h₁ h₂ h I k)
theorem PA.nil {pos : Pos} : PA W env ρ pos [] [] := fun A Mu s Q E I k => args_nil (k [] s.heap s.toks stays_refl trivial)
theorem PA.cons {pos : Pos} {e : Expr} {es : List Expr} {V : VP} {Vs : List VP} (h : PE W env ρ e V) (hr : PA W env ρ pos es Vs) (he : starEach (e :: es) env = (false, eval e env) :: starEach es env := by rfl) : PA W env ρ pos (e :: es) (V :: Vs) :=
  fun A Mu s Q E I k => args_cons (h _ _ _ _ _ I fun v h₁ tk₁ k₁ p₁ => hr _ _ _ _ _ (I.mono k₁) fun vs h₂ tk₂ k₂ p₂ =>
    k (v :: vs) h₂ tk₂ (stays_trans k₁ k₂) ⟨V.mono (hid_mono fun b o _ e => k₂ b o e) p₁, p₂⟩) he
end
end Mine
-- Pc
namespace Mine
theorem ns_unique {h : Heap} {a : Addr} {m m' : Str → Option Value} (x : h.Ns a m) (y : h.Ns a m') : m = m' := by
  obtain ⟨o, es, ep, ho, hd, _, hm⟩ := x
  obtain ⟨o', es', ep', ho', hd', _, hm'⟩ := y
  rw [ho] at ho'; cases ho'; rw [hd] at hd'; cases hd'
  funext n; rw [← hm n, ← hm' n]

theorem Inv.step {W : Wd} {A : Around} {cenv : Env} {Mu Ch : List Addr} {ρ : Rho} {g h h' : Heap} {m m' : Str → Option Value} (I : Inv W A cenv Mu ρ h) (cg : Ct W A g) (kg : g.StaysIn h')
    (keep : ∀ b o, b ∉ Ch → h.get? b = some o → h'.get? b = some o) (hCh : ∀ b ∈ Ch, b ∈ Mu ∧ g.get? b = none ∧ ∃ o, h'.get? b = some o) (hcg : ∀ x c, cenv.cells.lookup x = some c → ∃ o, g.get? c = some o)
    (hn : h.Ns cenv.locals m) (hn' : h'.Ns cenv.locals m') (hag : ∀ p ∈ ρ, m' p.1 = m p.1) : Inv W A cenv Mu ρ h' := by
  refine ⟨cg.mono kg, I.kf, I.eg, I.eb, fun a ha => ?_, fun x c hc => let ⟨o, e⟩ := hcg x c hc; ⟨o, kg _ _ e⟩, fun p hp => ?_, I.sta⟩
  · by_cases hc : a ∈ Ch
    · exact (hCh a hc).2.2
    · obtain ⟨o, e⟩ := I.mu a ha; exact ⟨o, keep a o hc e⟩
  · obtain ⟨v, l, q⟩ := I.vars p hp
    refine ⟨v, ?_, p.2.mono (hid_mono fun b o hb e => keep b o (fun hc => hb (hCh b hc).1) e) q⟩
    rcases l with ⟨e, m₀, hns, hv⟩ | ⟨e, c, hc, o, ho, hd⟩
    · refine .inl ⟨e, m', hn', ?_⟩
      rw [hag p hp, ns_unique hn hns]; exact hv
    · refine .inr ⟨e, c, hc, o, keep c o (fun hm => ?_) ho, hd⟩
      obtain ⟨o', e'⟩ := hcg _ _ hc
      rw [(hCh c hm).2.1] at e'; cases e'

theorem Inv.add {W : Wd} {A : Around} {cenv : Env} {Mu : List Addr} {ρ : Rho} {B : Rho} {h : Heap} (I : Inv W A cenv Mu ρ h) (hB : ∀ p ∈ B, ∃ v, Look cenv h p.1 v ∧ p.2.p (hideAll h Mu) v) : Inv W A cenv Mu (B ++ ρ) h :=
  ⟨I.ct, I.kf, I.eg, I.eb, I.mu, I.cel, fun p hp => (List.mem_append.mp hp).elim (hB p) (I.vars p), I.sta⟩
theorem Inv.more {W : Wd} {A : Around} {cenv : Env} {Mu Mu' : List Addr} {ρ : Rho} {h h' : Heap} (I : Inv W A cenv Mu ρ h) (k : h.StaysIn h') (hn : ∀ a ∈ Mu', a ∈ Mu ∨ h.get? a = none) (hm : ∀ a ∈ Mu', ∃ o, h'.get? a = some o) : Inv W A cenv Mu' ρ h' :=
  ⟨I.ct.mono k, I.kf, I.eg, I.eb, hm, fun x c hc => let ⟨o, e⟩ := I.cel x c hc; ⟨o, k _ _ e⟩, fun p hp => let ⟨v, l, q⟩ := I.vars p hp; ⟨v, l.mono k, p.2.mono (hid_new (fun b o _ e => k b o e) hn) q⟩, fun a ha => (hn a ha).elim (I.sta a) (sta_of I.ct.X)⟩

/-- an iterator with its target -/
structure TSrc (W : Wd) (A : Around) (b : Heap) (target : Expr) (cenv : Env) (it : Addr) (fp wr : List Addr) (n : Nat) (St : Nat → Heap → Prop) (xs : List Str) (B : Nat → Rho) : Prop where
  sub : ∀ a ∈ wr, a ∈ fp
  there : ∀ i h, St i h → ∀ a ∈ fp, ∃ o, h.get? a = some o
  frame : ∀ i h h', St i h → (∀ a ∈ fp, ∀ o, h.get? a = some o → h'.get? a = some o) → St i h'
  item : ∀ i (s : Shared) m (Q : Unit → Shared → Prop) (E : Value → Shared → Prop), i < n → St i s.heap → s.heap.Ns cenv.locals m →
    (∀ h' tk m', St (i + 1) h' → h'.Ns cenv.locals m' → (∀ a o, a ∉ wr → a ≠ cenv.locals → s.heap.get? a = some o → h'.get? a = some o) → (∀ x, x ∉ xs → m' x = m x) →
      (∀ p ∈ B i, cenv.kindOf p.1 = some .local ∧ ∃ u, m' p.1 = some u ∧ p.2.p b u) → Q () { s with heap := h', toks := tk }) →
    wpAny (model PG W.w) A (pyNext (.ref it)) (fun r s₁ => match r with
      | none => False
      | some v => wpAny (model PG W.w) A (letOwnedTupleGo target (.ref it) v) (fun _ s₂ => wpAny (model PG W.w) A (assign target cenv v) Q E s₂) E s₁) E s
  done : ∀ (s : Shared) (Q : Option Value → Shared → Prop) (E : Value → Shared → Prop), St n s.heap →
    (∀ h' tk, (∀ a o, a ∉ wr → s.heap.get? a = some o → h'.get? a = some o) → Q none { s with heap := h', toks := tk }) → wpAny (model PG W.w) A (pyNext (.ref it)) Q E s
  self : ∀ i (s : Shared) (Q : Value → Shared → Prop) (E : Value → Shared → Prop), St i s.heap → Q (.ref it) s → wpAny (model PG W.w) A (pyIter (.ref it)) Q E s

noncomputable def turnTree (e target iter : Expr) (ifs : List Expr) (k : Nat) (it acc : Value) (env : Env) (body : Sem Fin → Sem Fin) : Sem Fin := do
  standAt iter.pos
  match ← pyNext it with
  | none => pure (.done .next)
  | some v =>
    letOwnedTupleGo target it v
    assign target env v
    let ok ← forIn ifs true fun c r => if r = true then do let ok ← isTrue c env (eval c env); pure (ForInStep.yield ok) else pure (ForInStep.yield r)
    if ok then body (again (.compLoop e k it acc env)) else again (.compLoop e k it acc env)

noncomputable def lastBody (elt : Expr) (acc : Value) (env : Env) (r : Sem Fin) : Sem Fin := (do let _ ← call (.builtin "list.append") [acc, ← eval elt env] : Sem Unit) >>= fun _ => r
noncomputable def innerBody (e iter' : Expr) (k : Nat) (acc : Value) (env : Env) (r : Sem Fin) : Sem Fin := do
  let x ← eval iter' env
  standAt iter'.pos
  let x ← foldedSetIterable iter' env x
  let _ ← runOwn (.compStart e k (← holding [x] (pyIter x)) acc env) env
  r

example (elt t1 i1 : Expr) (f1 : List Expr) (scope : Scope) (pos : Pos) (it acc : Value) (env : Env) :
    compTurn (.ListComp elt [⟨t1, i1, f1, 0⟩] scope pos) 0 it acc env = turnTree (.ListComp elt [⟨t1, i1, f1, 0⟩] scope pos) t1 i1 f1 0 it acc env (lastBody elt acc env) := by rfl
example (elt t1 i1 t2 i2 : Expr) (f1 f2 : List Expr) (scope : Scope) (pos : Pos) (it acc : Value) (env : Env) :
    compTurn (.ListComp elt [⟨t1, i1, f1, 0⟩, ⟨t2, i2, f2, 0⟩] scope pos) 0 it acc env = turnTree (.ListComp elt [⟨t1, i1, f1, 0⟩, ⟨t2, i2, f2, 0⟩] scope pos) t1 i1 f1 0 it acc env (innerBody (.ListComp elt [⟨t1, i1, f1, 0⟩, ⟨t2, i2, f2, 0⟩] scope pos) i2 1 acc env) := by rfl
example (elt t1 i1 t2 i2 : Expr) (f1 f2 : List Expr) (scope : Scope) (pos : Pos) (it acc : Value) (env : Env) :
    compTurn (.ListComp elt [⟨t1, i1, f1, 0⟩, ⟨t2, i2, f2, 0⟩] scope pos) 1 it acc env = turnTree (.ListComp elt [⟨t1, i1, f1, 0⟩, ⟨t2, i2, f2, 0⟩] scope pos) t2 i2 f2 1 it acc env (lastBody elt acc env) := by rfl

/-- what is done for an item, all tests passed -/
noncomputable def Stage (W : Wd) (A : Around) (g : Heap) (cenv : Env) (D : Addr) (body : Sem Fin → Sem Fin) (xs : List Str) (ρ : Rho) (Zs : List VP) : Prop :=
  ∀ (Mu : List Addr) (s : Shared) m (ys : List Value) (r : Sem Fin) (Q : Fin → Shared → Prop) (E : Value → Shared → Prop), Inv W A cenv Mu ρ s.heap → D ∈ Mu → cenv.locals ∈ Mu → g.StaysIn s.heap → s.heap.PlainList D ys.toArray → ys.length + Zs.length ≤ 10000 → s.heap.Ns cenv.locals m →
    (∀ h' tk m' zs, (∀ a o, a ≠ D → a ≠ cenv.locals → s.heap.get? a = some o → h'.get? a = some o) → h'.PlainList D (ys ++ zs).toArray → VsP Zs (hideAll h' Mu) zs → h'.Ns cenv.locals m' → (∀ x, x ∉ xs → m' x = m x) → wpAny (model PG W.w) A r Q E { s with heap := h', toks := tk }) →
    wpAny (model PG W.w) A (body r) Q E s
/-- the tests -/
noncomputable def PTs (W : Wd) (env : Env) (ρ : Rho) (ifs : List Expr) (b : Bool) : Prop :=
  ∀ (A : Around) (Mu : List Addr) (s : Shared) (Q : Bool → Shared → Prop) (E : Value → Shared → Prop), Inv W A env Mu ρ s.heap →
    (∀ h' tk, s.heap.StaysIn h' → Q b { s with heap := h', toks := tk }) →
    wpAny (model PG W.w) A (forIn ifs true fun c r => if r = true then do let ok ← isTrue c env (eval c env); pure (ForInStep.yield ok) else pure (ForInStep.yield r)) Q E s
theorem PTs.nil {W : Wd} {env : Env} {ρ : Rho} : PTs W env ρ [] true := fun A Mu s Q E I k => wpAny_tests_nil (k s.heap s.toks stays_refl)
theorem PTs.one {W : Wd} {env : Env} {ρ : Rho} {c : Expr} {b : Bool} (h : PT W env ρ c b) : PTs W env ρ [c] b := fun A Mu s Q E I k => wpAny_tests_one (h A Mu s Q E I k)

noncomputable def flat (t : Nat → Bool) (Z : Nat → List VP) : Nat → List VP
  | 0 => []
  | i + 1 => flat t Z i ++ (if t i then Z i else [])
theorem flat_le {t : Nat → Bool} {Z : Nat → List VP} : ∀ {i n : Nat}, i ≤ n → (flat t Z i).length ≤ (flat t Z n).length
  | i, 0, h => by cases Nat.le_zero.mp h; exact Nat.le_refl _
  | i, n + 1, h => by
    rcases Nat.lt_or_ge i (n + 1) with q | q
    · exact Nat.le_trans (flat_le (Nat.le_of_lt_succ q)) (by rw [flat, List.length_append]; exact Nat.le_add_right _ _)
    · cases Nat.le_antisymm h q; exact Nat.le_refl _

theorem turn_item {W : Wd} {A : Around} {b : Heap} {target iter e : Expr} {ifs : List Expr} {k : Nat} {acc : Value} {body : Sem Fin → Sem Fin} {cenv : Env} {it : Addr} {fp wr : List Addr} {n : Nat} {St : Nat → Heap → Prop} {xs : List Str} {B : Nat → Rho}
    (T : TSrc W A b target cenv it fp wr n St xs B) {i : Nat} {s : Shared} {m : Str → Option Value} (hlt : i < n) (hS : St i s.heap) (hN : s.heap.Ns cenv.locals m) {Q : Fin → Shared → Prop} {E : Value → Shared → Prop}
    (h : ∀ h' tk m', St (i + 1) h' → h'.Ns cenv.locals m' → (∀ a o, a ∉ wr → a ≠ cenv.locals → s.heap.get? a = some o → h'.get? a = some o) → (∀ x, x ∉ xs → m' x = m x) →
      (∀ p ∈ B i, cenv.kindOf p.1 = some .local ∧ ∃ u, m' p.1 = some u ∧ p.2.p b u) →
      wpAny (model PG W.w) A (forIn ifs true fun c r => if r = true then do let ok ← isTrue c cenv (eval c cenv); pure (ForInStep.yield ok) else pure (ForInStep.yield r))
        (fun ok s₄ => if ok = true then wpAny (model PG W.w) A (body (again (.compLoop e k (.ref it) acc cenv))) Q E s₄ else wpAny (model PG W.w) A (again (.compLoop e k (.ref it) acc cenv)) Q E s₄) E { s with heap := h', toks := tk }) :
    wpAny (model PG W.w) A (turnTree e target iter ifs k (.ref it) acc cenv body) Q E s := by
  unfold turnTree
  refine wpAny_bind (wpAny_standAt (wpAny_bind ?_))
  refine wpAny_mono (T.item i s m (fun _ s₃ => wpAny (model PG W.w) A (forIn ifs true fun c r => if r = true then do let ok ← isTrue c cenv (eval c cenv); pure (ForInStep.yield ok) else pure (ForInStep.yield r))
        (fun ok s₄ => if ok = true then wpAny (model PG W.w) A (body (again (.compLoop e k (.ref it) acc cenv))) Q E s₄ else wpAny (model PG W.w) A (again (.compLoop e k (.ref it) acc cenv)) Q E s₄) E s₃) E hlt hS hN h) (fun r s₁ h₁ => ?_) fun _ _ x => x
  cases r with
  | none => exact h₁.elim
  | some v =>
    refine wpAny_bind (wpAny_mono h₁ (fun _ s₂ h₂ => wpAny_bind (wpAny_mono h₂ (fun _ s₃ h₃ => wpAny_bind (wpAny_mono h₃ (fun ok s₄ h₄ => ?_) fun _ _ x => x)) fun _ _ x => x)) fun _ _ x => x)
    cases ok <;> exact h₄

theorem clause_run {W : Wd} {A : Around} {g b : Heap} {cenv : Env} {D I : Addr} {e target iter : Expr} {elt : Expr} {gens : List Comprehension} {scope : Scope} {pos : Pos} {ifs : List Expr} {k : Nat} {body : Sem Fin → Sem Fin} {fp wr : List Addr} {n : Nat} {St : Nat → Heap → Prop}
    {xs xs' : List Str} {B : Nat → Rho} {ρ : Rho} {t : Nat → Bool} {Z : Nat → List VP} (he : e = .ListComp elt gens scope pos)
    (T : TSrc W A b target cenv I fp wr n St xs B) (hT : compTurn e k (.ref I) (.ref D) cenv = turnTree e target iter ifs k (.ref I) (.ref D) cenv body)
    (cg : Ct W A g) (hcg : ∀ x c, cenv.cells.lookup x = some c → ∃ o, g.get? c = some o)
    (hD : g.get? D = none) (hC : g.get? cenv.locals = none) (hw : ∀ a ∈ wr, g.get? a = none) (hDf : D ∉ fp) (hCf : cenv.locals ∉ fp) (hDC : D ≠ cenv.locals)
    (htest : ∀ i, i < n → PTs W cenv (B i ++ ρ) ifs (t i)) (hst : ∀ i, i < n → t i = true → Stage W A g cenv D body xs' (B i ++ ρ) (Z i))
    (hρ : ∀ p ∈ ρ, p.1 ∉ xs ∧ p.1 ∉ xs')
    {Mu : List Addr} {s : Shared} {m : Str → Option Value} {ys : List Value} {R : Result → Shared → Prop} (Iv : Inv W A cenv Mu ρ s.heap) (hDM : D ∈ Mu) (hCM : cenv.locals ∈ Mu) (hwM : ∀ a ∈ wr, a ∈ Mu) (kg : g.StaysIn s.heap)
    (hb : b.StaysIn (hideAll s.heap Mu)) (hl : s.heap.PlainList D ys.toArray) (hsz : ys.length + (flat t Z n).length ≤ 10000) (hn : s.heap.Ns cenv.locals m) (h0 : St 0 s.heap)
    (hR : ∀ h' tk m' zs, (∀ a o, a ∉ wr → a ≠ D → a ≠ cenv.locals → s.heap.get? a = some o → h'.get? a = some o) → h'.PlainList D (ys ++ zs).toArray → VsP (flat t Z n) (hideAll h' Mu) zs → h'.Ns cenv.locals m' →
      (∀ x, x ∉ xs ++ xs' → m' x = m x) → R (.ok .next) { s with heap := h', toks := tk }) :
    codeAny (model PG W.w) A (.compLoop e k (.ref I) (.ref D) cenv) R s := by
  subst he
  refine codeAny_loop rfl (fun c s' => ∃ h' tk i m' zs, s' = { s with heap := h', toks := tk } ∧ i ≤ n ∧ c = n + 1 - i ∧ St i h' ∧ h'.PlainList D (ys ++ zs).toArray ∧ VsP (flat t Z i) (hideAll h' Mu) zs ∧ h'.Ns cenv.locals m' ∧ (∀ x, x ∉ xs ++ xs' → m' x = m x) ∧
    (∀ a o, a ∉ wr → a ≠ D → a ≠ cenv.locals → s.heap.get? a = some o → h'.get? a = some o)) ?_ (n + 1)
    ⟨s.heap, s.toks, 0, m, [], rfl, Nat.zero_le _, rfl, h0, by simpa using hl, trivial, hn, fun _ _ => rfl, fun _ _ _ _ _ e => e⟩
  rintro c s' ⟨h', tk, i, m', zs, rfl, hi, rfl, hS, hL, hZ, hN, hag, hk⟩
  show wpAny _ A ((compTurn (.ListComp elt gens scope pos) k (.ref I) (.ref D) cenv).onRaise (fun x => do noteFrame x cenv; theTreesLotGoes x)) _ _ _
  refine wpAny_noted ?_
  rw [hT]
  have chM : ∀ a ∈ D :: cenv.locals :: wr, a ∈ Mu ∧ g.get? a = none := fun a ha => by
    rcases List.mem_cons.mp ha with rfl | ha
    · exact ⟨hDM, hD⟩
    · rcases List.mem_cons.mp ha with rfl | ha
      · exact ⟨hCM, hC⟩
      · exact ⟨hwM a ha, hw a ha⟩
  by_cases hlt : i < n
  · refine turn_item T hlt hS hN ?_
    intro h₂ tk₂ m₂ hS₂ hN₂ hk₂ hag₂ hB
    have kp : ∀ a o, a ∉ D :: cenv.locals :: wr → s.heap.get? a = some o → h₂.get? a = some o := fun a o ha e =>
      hk₂ a o (fun q => ha (.tail _ (.tail _ q))) (fun q => ha (q ▸ .tail _ (.head _))) (hk a o (fun q => ha (.tail _ (.tail _ q))) (fun q => ha (q ▸ .head _)) (fun q => ha (q ▸ .tail _ (.head _))) e)
    have kg₂ : g.StaysIn h₂ := fun a o e => kp a o (fun ha => by rw [(chM a ha).2] at e; cases e) (kg a o e)
    have hL₂ : h₂.PlainList D (ys ++ zs).toArray := hL.at fun o ho => hk₂ D o (fun q => hDf (T.sub _ q)) hDC ho
    have fp₂ := T.there _ _ hS₂
    have ex₂ : ∀ a ∈ D :: cenv.locals :: wr, a ∈ Mu ∧ g.get? a = none ∧ ∃ o, h₂.get? a = some o := fun a ha => by
      refine ⟨(chM a ha).1, (chM a ha).2, ?_⟩
      rcases List.mem_cons.mp ha with rfl | ha
      · obtain ⟨n, ho⟩ := hL₂; exact ⟨_, ho⟩
      · rcases List.mem_cons.mp ha with rfl | ha
        · obtain ⟨o, _, _, ho, _⟩ := hN₂; exact ⟨o, ho⟩
        · exact fp₂ a (T.sub a ha)
    have Iv₂ : Inv W A cenv Mu ρ h₂ := Iv.step cg kg₂ kp ex₂ hcg hn hN₂ fun p hp => (hag₂ p.1 (hρ p hp).1).trans (hag p.1 fun q => (List.mem_append.mp q).elim (hρ p hp).1 (hρ p hp).2)
    have hb₂ : b.StaysIn (hideAll h₂ Mu) := stays_trans hb (hid_mono fun a o ha e => kp a o (fun q => ha (chM a q).1) e)
    have Iv₃ : Inv W A cenv Mu (B i ++ ρ) h₂ := Iv₂.add fun p hp => by
      obtain ⟨e, u, hu, q⟩ := hB p hp
      exact ⟨u, .inl ⟨e, m₂, hN₂, hu⟩, p.2.mono hb₂ q⟩
    have hZ₂ : VsP (flat t Z i) (hideAll h₂ Mu) zs := hZ.mono (hid_mono fun a o ha e => hk₂ a o (fun q => ha (hwM a q)) (fun q => ha (q ▸ hCM)) e)
    refine htest i hlt A Mu _ _ _ Iv₃ fun h₃ tk₃ k₃ => ?_
    have hl3 : (flat t Z (i + 1)).length ≤ (flat t Z n).length := flat_le hlt
    rw [flat, List.length_append] at hl3
    have hzl := hZ.length
    cases hti : t i with
    | false =>
      refine wpAny_pure ⟨rfl, n + 1 - (i + 1), by omega, h₃, tk₃, i + 1, m₂, zs, rfl, hlt, rfl, T.frame _ _ _ hS₂ fun a _ o e => k₃ a o e, ?_, ?_, hN₂.keeps k₃, ?_, ?_⟩
      · exact hL₂.at fun o ho => k₃ _ _ ho
      · rw [flat, hti]; simpa using hZ₂.mono (hid_mono fun a o _ e => k₃ a o e)
      · exact fun x hx => (hag₂ x fun q => hx (List.mem_append_left _ q)).trans (hag x hx)
      · exact fun a o h1 h2 h3 e => k₃ a o (kp a o (by simp [h1, h2, h3]) e)
    | true =>
      rw [hti] at hl3
      simp only [if_true] at hl3 ⊢
      refine hst i hlt hti Mu _ m₂ (ys ++ zs) _ _ _ (Iv₃.mono k₃) hDM hCM (stays_trans kg₂ k₃) ?_ (by rw [List.length_append]; omega) (hN₂.keeps k₃) fun h₄ tk₄ m₄ zs₄ k₄ hL₄ hZ₄ hN₄ hag₄ => ?_
      · exact hL₂.at fun o ho => k₃ _ _ ho
      refine wpAny_pure ⟨rfl, n + 1 - (i + 1), by omega, h₄, tk₄, i + 1, m₄, zs ++ zs₄, rfl, hlt, rfl, T.frame _ _ _ hS₂ fun a ha o e => k₄ a o (fun q => hDf (q ▸ ha)) (fun q => hCf (q ▸ ha)) (k₃ a o e), ?_, ?_, hN₄, ?_, ?_⟩
      · rw [← List.append_assoc]; exact hL₄
      · rw [flat, hti]
        exact VsP.append (hZ₂.mono (hid_mono fun a o ha e => k₄ a o (fun q => ha (q ▸ hDM)) (fun q => ha (q ▸ hCM)) (k₃ a o e))) hZ₄
      · exact fun x hx => (hag₄ x fun q => hx (List.mem_append_right _ q)).trans ((hag₂ x fun q => hx (List.mem_append_left _ q)).trans (hag x hx))
      · exact fun a o h1 h2 h3 e => k₄ a o h2 h3 (k₃ a o (kp a o (by simp [h1, h2, h3]) e))
  · obtain rfl : i = n := Nat.le_antisymm hi (Nat.not_lt.mp hlt)
    unfold turnTree
    refine wpAny_bind (wpAny_standAt (wpAny_bind (T.done _ _ _ hS fun h₂ tk₂ k₂ => ?_)))
    refine wpAny_pure (hR h₂ tk₂ m' zs (fun a o h1 h2 h3 e => k₂ a o h1 (hk a o h1 h2 h3 e)) ?_ (hZ.mono (hid_mono fun a o ha e => k₂ a o (fun q => ha (hwM a q)) e)) ?_ hag)
    · exact hL.at fun o ho => k₂ _ _ (fun q => hDf (T.sub _ q)) ho
    · exact hN.at' fun o e => k₂ _ o (fun q => hCf (T.sub _ q)) e
end Mine
-- Pd
namespace Mine
noncomputable def clStep (env : Env) (cs : List (Str × Addr)) (y : Str × NameKind) : List (Str × Addr) := if y.2 == .free then (match env.cells.lookup y.1 with | some a => (y.1, a) :: cs | none => cs) else cs
noncomputable def clOf (env : Env) (names : List (Str × NameKind)) : List (Str × Addr) := names.foldl (clStep env) []
theorem clStep_free {env : Env} {cs : List (Str × Addr)} {y : Str × NameKind} {a : Addr} (h : (y.2 == NameKind.free) = true) (e : env.cells.lookup y.1 = some a) : clStep env cs y = (y.1, a) :: cs := by unfold clStep; rw [if_pos h, e]
theorem clStep_not {env : Env} {cs : List (Str × Addr)} {y : Str × NameKind} (h : ¬ (y.2 == NameKind.free) = true) : clStep env cs y = cs := by unfold clStep; rw [if_neg h]
theorem closure_fold {env : Env} (f : Str × NameKind → List (Str × Addr) → Sem (ForInStep (List (Str × Addr)))) (hf : ∀ y cs, f y cs = if y.2 == .free then (do let a ← cellOf env y.1; pure (.yield ((y.1, a) :: cs))) else pure (.yield cs)) :
    ∀ (names : List (Str × NameKind)) (cs : List (Str × Addr)), (∀ y ∈ names, y.2 = .free → (env.cells.lookup y.1).isSome = true) → forIn names cs f = (pure (names.foldl (clStep env) cs) : Sem (List (Str × Addr)))
  | [], cs, _ => by rw [List.forIn_nil]; rfl
  | y :: r, cs, h => by
    have hr : ∀ z ∈ r, z.2 = .free → (env.cells.lookup z.1).isSome = true := fun z hz => h z (List.mem_cons_of_mem _ hz)
    have ih := fun cs' => closure_fold f hf r cs' hr
    rw [List.forIn_cons, hf, List.foldl_cons]
    by_cases hk : (y.2 == NameKind.free) = true
    · obtain ⟨a, ha⟩ := Option.isSome_iff_exists.mp (h y List.mem_cons_self (beq_iff_eq.mp hk))
      rw [clStep_free hk ha, if_pos hk, ← ih]
      unfold cellOf
      rw [ha]
      rfl
    · rw [clStep_not hk, if_neg hk, ← ih]
      rfl
theorem closureFor_eq {scope : Scope} {env : Env} (h : ∀ y ∈ scope.names, y.2 = .free → (env.cells.lookup y.1).isSome = true) : closureFor scope env = pure (clOf env scope.names) := by
  unfold closureFor
  dsimp only
  rw [closure_fold (env := env) _ (fun y cs => rfl) scope.names [] h]
  rfl
theorem clOf_sound {env : Env} : ∀ (names : List (Str × NameKind)) (cs : List (Str × Addr)), (∀ p ∈ cs, env.cells.lookup p.1 = some p.2) → ∀ p ∈ names.foldl (clStep env) cs, env.cells.lookup p.1 = some p.2
  | [], _, h => h
  | y :: r, cs, h => by
    rw [List.foldl_cons]
    refine clOf_sound r _ fun p hp => ?_
    unfold clStep at hp
    split at hp
    · split at hp
      · rename_i a ha
        rcases List.mem_cons.mp hp with rfl | hp
        · exact ha
        · exact h p hp
      · exact h p hp
    · exact h p hp
theorem clOf_keep {env : Env} : ∀ (names : List (Str × NameKind)) (cs : List (Str × Addr)) (p : Str × Addr), p ∈ cs → p ∈ names.foldl (clStep env) cs
  | [], _, _, h => h
  | y :: r, cs, p, h => by
    rw [List.foldl_cons]
    refine clOf_keep r _ p ?_
    unfold clStep
    split
    · split
      · exact List.mem_cons_of_mem _ h
      · exact h
    · exact h
theorem clOf_has {env : Env} : ∀ (names : List (Str × NameKind)) (cs : List (Str × Addr)) (x : Str) (c : Addr), (x, NameKind.free) ∈ names → env.cells.lookup x = some c → (x, c) ∈ names.foldl (clStep env) cs
  | y :: r, cs, x, c, h, e => by
    rw [List.foldl_cons]
    rcases List.mem_cons.mp h with rfl | h
    · exact clOf_keep r _ _ (by rw [clStep_free (a := c) rfl e]; exact List.mem_cons_self)
    · exact clOf_has r _ x c h e
theorem lookup_of_mem : ∀ {l : List (Str × Addr)} {x : Str} {c : Addr}, (x, c) ∈ l → ∃ c', l.lookup x = some c'
  | (k, v) :: r, x, c, h => by
    rw [List.lookup_cons]
    cases hb : x == k with
    | true => exact ⟨v, rfl⟩
    | false =>
      rcases List.mem_cons.mp h with e | h
      · cases e; simp at hb
      · exact lookup_of_mem h
theorem clOf_lookup {env : Env} {names : List (Str × NameKind)} {x : Str} {c : Addr} (h : (clOf env names).lookup x = some c) : env.cells.lookup x = some c :=
  clOf_sound names [] (fun _ hp => nomatch hp) _ (mem_of_lookup h)
theorem clOf_free {env : Env} {names : List (Str × NameKind)} {x : Str} {c : Addr} (h : (x, NameKind.free) ∈ names) (e : env.cells.lookup x = some c) : (clOf env names).lookup x = some c := by
  obtain ⟨c', e'⟩ := lookup_of_mem (clOf_has names [] x c h e)
  have := clOf_lookup (env := env) (names := names) e'
  rw [e] at this; cases this; exact e'

theorem codeAny_compStart_at {W : Wd} {A : Around} {R : Result → Shared → Prop} {s : Shared} {elt target iter : Expr} {gens : List Comprehension} {ifs : List Expr} {scope : Scope} {pos : Pos} {k : Nat} {it acc : Value} {env : Env} (hk : gens[k]? = some ⟨target, iter, ifs, 0⟩)
    (h0 : codeAny (model PG W.w) A (.compLoop (.ListComp elt gens scope pos) k it acc env) R s)
    (h : wpAny (model PG W.w) A (pyIter it) (fun it' s' => codeAny (model PG W.w) A (.compLoop (.ListComp elt gens scope pos) k it' acc env) R s')
      (notedBy (model PG W.w) A env fun x s' => R (.error x) s') s) :
    codeAny (model PG W.w) A (.compStart (.ListComp elt gens scope pos) k it acc env) R s := by
  refine codeAny_of_tree ?_
  show wpAny _ A ((compStart (.ListComp elt gens scope pos) k it acc env).onRaise (fun x => do noteFrame x env; standAt theWindowsPlace)) _ _ s
  refine wpAny_notedAt ?_
  unfold compStart
  have hc : (clausesOf (.ListComp elt gens scope pos))[k]? = some ⟨target, iter, ifs, 0⟩ := hk
  rw [hc]
  show wpAny _ A (ask >>= _) _ _ s
  refine wpAny_bind (wpAny_askSetting (wpAny_ite ?_))
  split
  · first
      | exact wpAny_bind (wpAny_pure (wpAny_pure (And.intro rfl h0)))
      | exact wpAny_pure (And.intro rfl h0)
  · first
      | exact wpAny_bind (wpAny_rule (wpAny_bind (wpAny_standAt (wpAny_bind (wpAny_mono h (fun it' s' h' => wpAny_pure (And.intro rfl h')) fun _ _ x => x)))))
      | (refine wpAny_bind (wpAny_rule ?_); show wpAny _ _ (standAt iter.pos >>= _) _ _ s; exact wpAny_bind (wpAny_standAt (wpAny_bind (wpAny_mono h (fun it' s' h' => wpAny_pure (And.intro rfl h')) fun _ _ x => x))))

/-- what an iterable gives -/
noncomputable def Srcs (W : Wd) (V : VP) (target : Expr) (n : Nat) (xs : List Str) (B : Nat → Rho) : Prop :=
  ∀ (A : Around) (Mu : List Addr) (s : Shared) (x : Value) (Q E : Value → Shared → Prop), Ct W A s.heap → (∀ a ∈ Mu, ∃ o, s.heap.get? a = some o) → V.p (hideAll s.heap Mu) x →
    (∀ (I : Addr) h' tk fp wr (St : Nat → Heap → Prop), s.heap.StaysIn h' → (∀ a ∈ wr, s.heap.get? a = none ∧ ∃ o, h'.get? a = some o) → (∀ a ∈ fp, a ∉ Mu ∧ a < h'.objs.size) → St 0 h' →
      (∀ cenv, cenv.scope.kind = .function → (∀ x ∈ xs, cenv.kindOf x = some .local) → cenv.locals ∉ fp → TSrc W A (hideAll s.heap Mu) target cenv I fp wr n St xs B) → Q (.ref I) { s with heap := h', toks := tk }) →
    wpAny (model PG W.w) A (pyIter x) Q E s

/-- an iterable expression -/
noncomputable def ESrc (W : Wd) (env : Env) (ρ : Rho) (iter target : Expr) (n : Nat) (xs : List Str) (B : Nat → Rho) : Prop :=
  ∀ (A : Around) (Mu : List Addr) (s : Shared) (Q E : Value → Shared → Prop), Inv W A env Mu ρ s.heap →
    (∀ (I : Addr) h' tk fp wr (St : Nat → Heap → Prop) (b : Heap), s.heap.StaysIn h' → (∀ a ∈ wr, s.heap.get? a = none ∧ ∃ o, h'.get? a = some o) → (∀ a ∈ fp, a ∉ Mu ∧ a < h'.objs.size) → St 0 h' → b.StaysIn (hideAll h' (wr ++ Mu)) →
      (∀ cenv, cenv.scope.kind = .function → (∀ x ∈ xs, cenv.kindOf x = some .local) → cenv.locals ∉ fp → TSrc W A b target cenv I fp wr n St xs B) → Q (.ref I) { s with heap := h', toks := tk }) →
    wpAny (model PG W.w) A (eval iter env) (fun x s₁ => wpAny (model PG W.w) A (pyIter x) Q E s₁) E s
theorem ESrc.of {W : Wd} {env : Env} {ρ : Rho} {iter target : Expr} {n : Nat} {xs : List Str} {B : Nat → Rho} {V : VP} (h : PE W env ρ iter V) (hs : Srcs W V target n xs B) : ESrc W env ρ iter target n xs B := by
  intro A Mu s Q E I k
  refine h A Mu s _ _ I fun x h₁ tk₁ k₁ p₁ => ?_
  refine hs A Mu { s with heap := h₁, toks := tk₁ } x _ _ (I.mono k₁).ct (I.mono k₁).mu p₁ fun it h₂ tk₂ fp wr St k₂ hw hfp h0 T => ?_
  refine k it h₂ tk₂ fp wr St _ (stays_trans k₁ k₂) (fun a ha => ⟨?_, (hw a ha).2⟩) hfp h0 (hid_new (fun b o _ e => k₂ b o e) fun a ha => (List.mem_append.mp ha).elim (fun q => .inr (hw a q).1) .inl) T
  cases e : s.heap.get? a with
  | none => rfl
  | some o => have e' := k₁ _ _ e; rw [show h₁.get? a = none from (hw a ha).1] at e'; cases e'

section
variable {W : Wd} {A : Around} {g : Heap} {cenv : Env} {D : Addr}
theorem Stage.last {elt : Expr} {ρ : Rho} {V : VP} {xs : List Str} (hDC : D ≠ cenv.locals) (h : PE W cenv ρ elt V) : Stage W A g cenv D (lastBody elt (.ref D) cenv) xs ρ [V] := by
  intro Mu s m ys r Q E Iv hD hC kg hl hsz hn k
  unfold lastBody
  refine wpAny_bind (wpAny_bind (h A Mu s _ _ Iv fun v h₁ tk₁ k₁ p₁ => ?_))
  have hl₁ : h₁.PlainList D ys.toArray := hl.at fun o e => k₁ _ _ e
  refine wpAny_bind (wpAny_list_append_plain (hsz := by rw [List.size_toArray]; have : sizeLine = 16777216 := rfl; omega) hl₁ fun h₂ hl₂ hs₂ => wpAny_pure ?_)
  refine k h₂ tk₁ m [v] (fun a o h1 h2 e => hs₂.extBut a o h1 (k₁ a o e)) (by simpa using hl₂) ⟨?_, trivial⟩ ((hn.keeps k₁).sameBut hs₂ (Ne.symm hDC)) fun _ _ => rfl
  exact V.mono (hid_mono fun a o ha e => hs₂.extBut a o (fun q => ha (q ▸ hD)) e) p₁

theorem Stage.inner {elt target iter : Expr} {ifs : List Expr} {gens : List Comprehension} {scope : Scope} {pos : Pos} {k : Nat} {body : Sem Fin → Sem Fin} {ρ : Rho} {n : Nat} {xs xs' : List Str} {B : Nat → Rho} {t : Nat → Bool} {Z : Nat → List VP}
    (hk : gens[k]? = some ⟨target, iter, ifs, 0⟩) (hes : ESrc W cenv ρ iter target n xs B) (hT : ∀ I, compTurn (.ListComp elt gens scope pos) k (.ref I) (.ref D) cenv = turnTree (.ListComp elt gens scope pos) target iter ifs k (.ref I) (.ref D) cenv body)
    (hkf : cenv.scope.kind = .function) (hloc : ∀ x ∈ xs, cenv.kindOf x = some .local)
    (cg : Ct W A g) (hcg : ∀ x c, cenv.cells.lookup x = some c → ∃ o, g.get? c = some o) (hDg : g.get? D = none) (hCg : g.get? cenv.locals = none) (hDC : D ≠ cenv.locals)
    (htest : ∀ i, i < n → PTs W cenv (B i ++ ρ) ifs (t i)) (hst : ∀ i, i < n → t i = true → Stage W A g cenv D body xs' (B i ++ ρ) (Z i)) (hρ : ∀ p ∈ ρ, p.1 ∉ xs ∧ p.1 ∉ xs')
    (hs : ∀ x, foldedSetIterable iter cenv x = pure x := by intro _; rfl) :
    Stage W A g cenv D (innerBody (.ListComp elt gens scope pos) iter k (.ref D) cenv) (xs ++ xs') ρ (flat t Z n) := by
  intro Mu s m ys r Q E Iv hD hC kg hl hsz hn kk
  unfold innerBody
  refine wpAny_bind (wpAny_mono (Q := fun x s₁ => wpAny (model PG W.w) A (pyIter x) (fun it s₂ => wpAny (model PG W.w) A (runOwn (.compStart (.ListComp elt gens scope pos) k it (.ref D) cenv) cenv) (fun _ s₃ => wpAny (model PG W.w) A r Q E s₃) E s₂) E s₁)
    (hes A Mu s _ _ Iv fun I h₂ tk₂ fp wr St b k₂ hw hfp h0 hb T => ?_) (fun x s₁ h₁ => wpAny_bind (wpAny_standAt ?_)) fun _ _ x => x)
  rotate_left
  · rw [hs]
    exact wpAny_bind (wpAny_pure (wpAny_bind (wpAny_holding (wpAny_mono h₁ (fun it s₂ h₂ => wpAny_bind h₂) fun _ _ x => x))))
  have hCf : cenv.locals ∉ fp := fun q => (hfp _ q).1 hC
  have T' := T cenv hkf hloc hCf
  have kg₂ : g.StaysIn h₂ := stays_trans kg k₂
  have hwg : ∀ a ∈ wr, g.get? a = none := fun a ha => by
    cases e : g.get? a with
    | none => rfl
    | some o => have e' := kg _ _ e; rw [(hw a ha).1] at e'; cases e'
  refine wpAny_runOwn ?_
  have loop : ∀ sx : Shared, sx.heap = h₂ → sx = { s with heap := h₂, toks := sx.toks } → codeAny (model PG W.w) (A.mark none) (.compLoop (.ListComp elt gens scope pos) k (.ref I) (.ref D) cenv) (fun r' s' => match r' with | .ok f => wpAny (model PG W.w) A r Q E s' | .error e => cameBackBy (model PG W.w) A cenv E e s') sx := by
    intro sx hsx hsx'
    rw [show A.mark none = A by cases A; rfl]
    refine clause_run (Mu := wr ++ Mu) (ρ := ρ) rfl T' (hT I) cg hcg hDg hCg hwg (fun q => (hfp _ q).1 hD) hCf hDC htest hst hρ (m := m) (ys := ys)
      (by rw [hsx]; exact Iv.more k₂ (fun a ha => (List.mem_append.mp ha).elim (fun q => .inr (hw a q).1) .inl) fun a ha => (List.mem_append.mp ha).elim (fun q => (hw a q).2) fun q => let ⟨o, e⟩ := Iv.mu a q; ⟨o, k₂ _ _ e⟩)
      (List.mem_append_right _ hD) (List.mem_append_right _ hC) (fun a ha => List.mem_append_left _ ha) (hsx ▸ kg₂) (by rw [hsx]; exact hb)
      (by rw [hsx]; exact hl.at fun o e => k₂ _ _ e) hsz (by rw [hsx]; exact hn.keeps k₂) (hsx ▸ h0) fun h₃ tk₃ m₃ zs k₃ hl₃ hz₃ hn₃ ag₃ => ?_
    have e3 : ({ sx with heap := h₃, toks := tk₃ } : Shared) = { s with heap := h₃, toks := tk₃ } := by rw [hsx']
    rw [e3]
    refine kk h₃ tk₃ m₃ zs (fun a o h1 h2 e => k₃ a o (fun q => ?_) h1 h2 (by rw [hsx]; exact k₂ _ _ e)) hl₃ (hz₃.mono (hid_sub fun a ha => List.mem_append_right _ ha)) hn₃ ag₃
    rw [(hw a q).1] at e; cases e
  refine codeAny_compStart_at hk (loop _ rfl rfl) ?_
  rw [show A.mark none = A by cases A; rfl] at loop ⊢
  exact T'.self 0 _ _ _ h0 (loop _ rfl rfl)

theorem comp_core {env : Env} {ρ ρ' : Rho} {elt target iter : Expr} {ifs : List Expr} {rest : List Comprehension} {scope : Scope} {pos : Pos} {body : Addr → Addr → Sem Fin → Sem Fin} {n : Nat} {xs xs' : List Str} {B : Nat → Rho} {t : Nat → Bool} {Z : Nat → List VP}
    (hfree : ∀ y ∈ scope.names, y.2 = .free → (env.cells.lookup y.1).isSome = true) (hkind : scope.kind = .function) (hnc : ∀ y ∈ scope.names, y.2 ≠ .cell) (hnames : ∀ y ∈ scope.names, y.2 = .local → scope.names.lookup y.1 = some .local)
    (hloc : ∀ x ∈ xs, scope.names.lookup x = some .local)
    (hes : ESrc W env ρ iter target n xs B)
    (hcap : ∀ p ∈ ρ', p ∈ ρ ∧ (p.1, NameKind.free) ∈ scope.names ∧ (env.kindOf p.1 ≠ some .local) ∧ ((relabel scope env).names.lookup p.1 = some .cell ∨ (relabel scope env).names.lookup p.1 = some .free))
    (hT : ∀ I D C, compTurn (.ListComp elt (⟨target, iter, ifs, 0⟩ :: rest) scope pos) 0 (.ref I) (.ref D) (compEnvC scope (clOf env scope.names) C env) = turnTree (.ListComp elt (⟨target, iter, ifs, 0⟩ :: rest) scope pos) target iter ifs 0 (.ref I) (.ref D) (compEnvC scope (clOf env scope.names) C env) (body D C))
    (htest : ∀ C i, i < n → PTs W (compEnvC scope (clOf env scope.names) C env) (B i ++ ρ') ifs (t i))
    (hst : ∀ A g D C i, i < n → t i = true → Ct W A g → (∀ x c, (clOf env scope.names).lookup x = some c → ∃ o, g.get? c = some o) → g.get? D = none → g.get? C = none → D ≠ C → Stage W A g (compEnvC scope (clOf env scope.names) C env) D (body D C) xs' (B i ++ ρ') (Z i))
    (hρ : ∀ p ∈ ρ', p.1 ∉ xs ∧ p.1 ∉ xs') (hsz : (flat t Z n).length ≤ 10000)
    {A : Around} {Mu : List Addr} {s : Shared} {E : Value → Shared → Prop} {RR : Value → Addr → Result → Shared → Prop} (Iv : Inv W A env Mu ρ s.heap)
    (kk : ∀ D C h' tk m zs, s.heap.get? D = none → s.heap.get? C = none → D ≠ C → s.heap.StaysIn h' → h'.PlainList D (List.toArray zs) → VsP (flat t Z n) (hideAll h' (C :: Mu)) zs → h'.Ns C m → RR (.ref D) C (.ok .next) { s with heap := h', toks := tk }) :
    wpAny (model PG W.w) A (eval iter env) (fun x s₁ => wpAny (model PG W.w) A (pyIter x) (fun it s₂ => wpAny (model PG W.w) A (newList []) (fun acc s₃ =>
      wpAny (model PG W.w) A (newFunctionEnv scope env.globals (clOf env scope.names) [] env.qual none .none (some env)) (fun cenv s₄ =>
        codeAny (model PG W.w) A (.compStart (.ListComp elt (⟨target, iter, ifs, 0⟩ :: rest) scope pos) 0 it acc { cenv with scope := relabel scope env }) (RR acc cenv.locals) s₄) E s₃) E s₂) E s₁) E s := by
  refine hes A Mu s _ _ Iv fun I h₂ tk₂ fp wr St b k₂ hw hfp h0 hb T => ?_
  have Iv₂ := Iv.mono k₂
  refine wpAny_newObj_type (wpAny_newFunctionEnv hnc (by intro y hy; simp at hy) (fun h₃ hns₃ hsb₃ => ?_) hkind)
  dsimp only at hns₃ hsb₃ ⊢
  generalize hH2 : h₂.push { cls := .type "list", dict := none, data := .seq ([] : List Value).toArray } = H2 at hns₃ hsb₃ ⊢
  have hC : H2.objs.size = h₂.objs.size + 1 := by rw [← hH2, Heap.size_push]
  have hDC : h₂.objs.size ≠ H2.objs.size := by rw [hC]; exact Nat.ne_of_lt (Nat.lt_succ_self _)
  have below : ∀ a, a < h₂.objs.size → a ≠ H2.objs.size ∧ a ≠ h₂.objs.size := fun a ha => ⟨by rw [hC]; exact Nat.ne_of_lt (Nat.lt_succ_of_lt ha), Nat.ne_of_lt ha⟩
  have k₃ : h₂.StaysIn h₃ := fun b o e => hsb₃.extBut b o (below b (Heap.lt_size e)).1 (Heap.get?_push_of_some _ (hH2 ▸ Heap.get?_push_of_some _ e))
  have hacc : h₃.PlainList h₂.objs.size #[] := ⟨_, hsb₃.extBut _ _ hDC (Heap.get?_push_of_some _ (hH2 ▸ Heap.get?_push_size _ rfl))⟩
  have none_at : ∀ a, h₂.objs.size ≤ a → h₂.get? a = none := fun a ha => by
    cases e : h₂.get? a with
    | none => rfl
    | some o' => exact absurd (Heap.lt_size e) (Nat.not_lt.mpr ha)
  have hDn := none_at h₂.objs.size (Nat.le_refl _)
  have hCn := none_at H2.objs.size (by rw [hC]; exact Nat.le_succ _)
  -- the ground: the heap ahead of the iterator
  have hg1 : ∀ a, h₂.get? a = none → s.heap.get? a = none := fun a e => by
    cases e' : s.heap.get? a with
    | none => rfl
    | some o' => have := k₂ _ _ e'; rw [e] at this; cases this
  generalize hcenv : compEnvC scope (clOf env scope.names) H2.objs.size env = cenv at *
  have hcl : cenv.locals = H2.objs.size := by rw [← hcenv]; rfl
  have hcc : cenv.cells = clOf env scope.names := by rw [← hcenv]; rfl
  have hcs : cenv.scope = relabel scope env := by rw [← hcenv]; rfl
  have hckf : cenv.scope.kind = .function := by rw [hcs]; exact hkind
  have hlt : ∀ a ∈ fp, a < h₂.objs.size := fun a ha => (hfp a ha).2
  have hDf : h₂.objs.size ∉ fp := fun q => (below _ (hlt _ q)).2 rfl
  have hCf : cenv.locals ∉ fp := fun q => (below _ (hlt _ q)).1 hcl
  have hcloc : ∀ x ∈ xs, cenv.kindOf x = some .local := fun x hx => by
    show cenv.scope.names.lookup x = _
    rw [hcs]; exact lookup_relabel_local (hloc x hx)
  have T' := T cenv hckf hcloc hCf
  have hcg : ∀ x c, cenv.cells.lookup x = some c → ∃ o, s.heap.get? c = some o := fun x c e => by rw [hcc] at e; exact Iv.cel x c (clOf_lookup e)
  have hdx : (h₂.objs.size : Addr) ≠ cenv.locals := by rw [hcl]; exact hDC
  have exMu : ∀ a ∈ (h₂.objs.size :: cenv.locals :: wr ++ Mu : List Addr), ∃ o, h₃.get? a = some o := fun a ha => by
    rcases List.mem_append.mp ha with ha | ha
    · rcases List.mem_cons.mp ha with rfl | ha
      · obtain ⟨n, e⟩ := hacc; exact ⟨_, e⟩
      · rcases List.mem_cons.mp ha with rfl | ha
        · obtain ⟨o, _, _, e, _⟩ := hns₃; rw [hcl]; exact ⟨o, e⟩
        · obtain ⟨o, e⟩ := (hw a ha).2; exact ⟨o, k₃ _ _ e⟩
    · obtain ⟨o, e⟩ := Iv₂.mu a ha; exact ⟨o, k₃ _ _ e⟩
  have newMu : ∀ a ∈ (h₂.objs.size :: cenv.locals :: wr ++ Mu : List Addr), a ∈ Mu ∨ s.heap.get? a = none := fun a ha => by
    rcases List.mem_append.mp ha with ha | ha
    · rcases List.mem_cons.mp ha with rfl | ha
      · exact .inr (hg1 _ hDn)
      · rcases List.mem_cons.mp ha with rfl | ha
        · exact .inr (hg1 _ (hcl ▸ hCn))
        · exact .inr (hw a ha).1
    · exact .inl ha
  have Ic : Inv W A cenv (h₂.objs.size :: cenv.locals :: wr ++ Mu) ρ' h₃ := by
    refine ⟨(Iv₂.ct).mono k₃, hckf, by rw [← hcenv]; exact Iv.eg, by rw [← hcenv]; exact Iv.eb, exMu, fun x c e => ?_, fun p hp => ?_, fun a ha => (newMu a ha).elim (Iv.sta a) (sta_of Iv.ct.X)⟩
    · obtain ⟨o, e'⟩ := hcg x c e; exact ⟨o, k₃ _ _ (k₂ _ _ e')⟩
    · obtain ⟨h1, h2, h3, h4⟩ := hcap p hp
      obtain ⟨v, l, q⟩ := Iv.vars p h1
      refine ⟨v, ?_, p.2.mono (hid_new (fun b o _ e => k₃ _ _ (k₂ b o e)) newMu) q⟩
      rcases l with ⟨e, _⟩ | ⟨_, c, hc, hv⟩
      · exact absurd e h3
      · refine .inr ⟨?_, c, ?_, (hv.keeps k₂).keeps k₃⟩
        · show cenv.scope.names.lookup p.1 = _ ∨ cenv.scope.names.lookup p.1 = _
          rw [hcs]; exact h4
        · rw [hcc]; exact clOf_free h2 hc
  have hbb : b.StaysIn (hideAll h₃ (h₂.objs.size :: cenv.locals :: wr ++ Mu)) := stays_trans hb (hid_new (fun b o _ e => k₃ b o e) fun a ha => by
    rcases List.mem_append.mp ha with ha | ha
    · rcases List.mem_cons.mp ha with rfl | ha
      · exact .inr hDn
      · rcases List.mem_cons.mp ha with rfl | ha
        · exact .inr (hcl ▸ hCn)
        · exact .inl (List.mem_append_left _ ha)
    · exact .inl (List.mem_append_right _ ha))
  have loop : ∀ sx : Shared, sx.heap = h₃ → sx = { s with heap := h₃, toks := sx.toks } → codeAny (model PG W.w) A (.compLoop (.ListComp elt (⟨target, iter, ifs, 0⟩ :: rest) scope pos) 0 (.ref I) (.ref h₂.objs.size) cenv) (RR (.ref h₂.objs.size) H2.objs.size) sx := by
    intro sx hsx hsx'
    refine clause_run (g := s.heap) (Mu := h₂.objs.size :: cenv.locals :: wr ++ Mu) (ρ := ρ') (xs' := xs') (t := t) (Z := Z) (body := body h₂.objs.size H2.objs.size) rfl T' (by rw [← hcenv]; exact hT _ _ _) Iv.ct hcg (hg1 _ hDn) (hg1 _ (hcl ▸ hCn)) (fun a ha => (hw a ha).1) hDf hCf hdx
      (fun i hi => by rw [← hcenv]; exact htest _ i hi) (fun i hi ht => by rw [← hcenv]; exact hst A s.heap _ _ i hi ht Iv.ct (fun x c e => hcg x c (hcc ▸ e)) (hg1 _ hDn) (hg1 _ hCn) hDC) hρ (m := fun x => List.lookup x []) (ys := [])
      (by rw [hsx]; exact Ic) (List.mem_append_left _ (.head _)) (List.mem_append_left _ (.tail _ (.head _))) (fun a ha => List.mem_append_left _ (.tail _ (.tail _ ha))) (by rw [hsx]; exact stays_trans k₂ k₃)
      (by rw [hsx]; exact hbb) (by rw [hsx]; exact hacc) (by simpa using hsz) (by rw [hsx, hcl]; exact hns₃) (by rw [hsx]; exact T'.frame _ _ _ h0 fun a _ o e => k₃ _ _ e) fun h₄ tk₄ m₄ zs k₄ hl₄ hz₄ hn₄ _ => ?_
    have e3 : ({ sx with heap := h₄, toks := tk₄ } : Shared) = { s with heap := h₄, toks := tk₄ } := by rw [hsx']
    rw [e3]
    have fin : ∀ a o, a ∉ wr → a ≠ h₂.objs.size → a ≠ H2.objs.size → h₃.get? a = some o → h₄.get? a = some o := fun a o h1 h2 h3 e =>
      k₄ a o h1 h2 (fun q => h3 (q.trans hcl)) (by rw [hsx]; exact e)
    have sn : ∀ a, h₂.get? a = none → s.heap.get? a = none := hg1
    refine kk h₂.objs.size H2.objs.size h₄ tk₄ m₄ zs (sn _ hDn) (sn _ hCn) hDC (fun a o e => ?_) (by simpa using hl₄) (hz₄.mono (hid_sub fun a ha => ?_)) (hcl ▸ hn₄)
    · have e₂ := k₂ _ _ e
      refine fin a o (fun q => ?_) (below a (Heap.lt_size e₂)).2 (below a (Heap.lt_size e₂)).1 (k₃ _ _ e₂)
      rw [(hw a q).1] at e; cases e
    · rcases List.mem_cons.mp ha with rfl | ha
      · exact List.mem_append_left _ (.tail _ (by rw [hcl]; exact .head _))
      · exact List.mem_append_right _ ha
  show codeAny (model PG W.w) A (.compStart (.ListComp elt (⟨target, iter, ifs, 0⟩ :: rest) scope pos) 0 (.ref I) (.ref h₂.objs.size) (compEnvC scope (clOf env scope.names) H2.objs.size env)) (RR (.ref h₂.objs.size) H2.objs.size) _
  rw [hcenv]
  exact codeAny_compStart_at rfl (loop _ rfl rfl) (T'.self 0 _ _ _ (T'.frame _ _ _ h0 fun a _ o e => k₃ _ _ e) (loop _ rfl rfl))

theorem PE.listcomp {env : Env} {ρ ρ' : Rho} {elt target iter : Expr} {ifs : List Expr} {rest : List Comprehension} {scope : Scope} {pos : Pos} {body : Addr → Addr → Sem Fin → Sem Fin} {n : Nat} {xs xs' : List Str} {B : Nat → Rho} {t : Nat → Bool} {Z : Nat → List VP}
    (hfree : ∀ y ∈ scope.names, y.2 = .free → (env.cells.lookup y.1).isSome = true) (hkind : scope.kind = .function) (hnc : ∀ y ∈ scope.names, y.2 ≠ .cell) (hnames : ∀ y ∈ scope.names, y.2 = .local → scope.names.lookup y.1 = some .local)
    (hloc : ∀ x ∈ xs, scope.names.lookup x = some .local)
    (hes : ESrc W env ρ iter target n xs B)
    (hcap : ∀ p ∈ ρ', p ∈ ρ ∧ (p.1, NameKind.free) ∈ scope.names ∧ (env.kindOf p.1 ≠ some .local) ∧ ((relabel scope env).names.lookup p.1 = some .cell ∨ (relabel scope env).names.lookup p.1 = some .free))
    (hT : ∀ I D C, compTurn (.ListComp elt (⟨target, iter, ifs, 0⟩ :: rest) scope pos) 0 (.ref I) (.ref D) (compEnvC scope (clOf env scope.names) C env) = turnTree (.ListComp elt (⟨target, iter, ifs, 0⟩ :: rest) scope pos) target iter ifs 0 (.ref I) (.ref D) (compEnvC scope (clOf env scope.names) C env) (body D C))
    (htest : ∀ C i, i < n → PTs W (compEnvC scope (clOf env scope.names) C env) (B i ++ ρ') ifs (t i))
    (hst : ∀ A g D C i, i < n → t i = true → Ct W A g → (∀ x c, (clOf env scope.names).lookup x = some c → ∃ o, g.get? c = some o) → g.get? D = none → g.get? C = none → D ≠ C → Stage W A g (compEnvC scope (clOf env scope.names) C env) D (body D C) xs' (B i ++ ρ') (Z i))
    (hρ : ∀ p ∈ ρ', p.1 ∉ xs ∧ p.1 ∉ xs') (hsz : (flat t Z n).length ≤ 10000)
    (hs : ∀ x, foldedSetIterable iter env x = pure x := by intro _; rfl) :
    PE W env ρ (.ListComp elt (⟨target, iter, ifs, 0⟩ :: rest) scope pos) (VL (flat t Z n)) := by
  intro A Mu s Q E Iv kk
  rw [eval_ListComp]
  refine wpAny_comprehension_free (use := none) rfl hs (closureFor_eq hfree) hkind hnames (comp_core (RR := fun acc C => compPost (model PG W.w) A E none Q acc C) hfree hkind hnc hnames hloc hes hcap hT htest hst hρ hsz Iv fun D C h₄ tk₄ m₄ zs hD hC hDC k₄ hl₄ hz₄ hn₄ => ?_)
  refine ⟨m₄, hn₄, fun h₅ hs₅ => ?_⟩
  have hDM : D ∉ Mu := fun q => by obtain ⟨o, e⟩ := Iv.mu D q; rw [hD] at e; cases e
  refine kk (.ref D) h₅ tk₄ (fun a o e => hs₅.extBut a o (fun q => by rw [q, hC] at e; cases e) (k₄ a o e)) ⟨D, zs, rfl, ?_, ?_⟩
  · obtain ⟨n₄, ho⟩ := hl₄
    exact ⟨n₄, hideAll_get _ (hs₅.extBut _ _ hDC ho) hDM⟩
  · exact hz₄.mono (stays_trans (hid_mono (Mu := C :: Mu) fun a o ha e => hs₅.extBut a o (fun q => ha (q ▸ .head _)) e) (hid_sub fun a ha => .tail _ ha))
end
end Mine
-- Pe
namespace Mine
noncomputable def VU : VP := ⟨fun _ _ => True, fun _ e => e⟩
noncomputable def vAt (Vs : List VP) (i : Nat) : VP := Vs.getD i VU
theorem VsP.at {h : Heap} {Vs : List VP} {vs : List Value} (x : VsP Vs h vs) {i : Nat} {v : Value} (e : vs[i]? = some v) : (vAt Vs i).p h v := by
  unfold vAt
  cases q : Vs[i]? with
  | none => rw [List.getD_eq_getElem?_getD, q]; exact trivial
  | some V =>
    obtain ⟨u, a, b⟩ := x.get q
    rw [e] at a; cases a
    rw [List.getD_eq_getElem?_getD, q]; exact b

theorem TSrc.ofWalks {W : Wd} {A : Around} {b : Heap} {cenv : Env} {x : Str} {px : Pos} {I : Addr} {fp wr : List Addr} {n : Nat} {P : Nat → Value → Prop} {St : Nat → Heap → Prop} {V : Nat → VP}
    (Wk : Walks PG W.w A I fp wr n P St) (there : ∀ i h, St i h → ∀ a ∈ fp, ∃ o, h.get? a = some o) (hkf : cenv.scope.kind = .function) (hx : cenv.kindOf x = some .local) (hCf : cenv.locals ∉ fp) (hP : ∀ i v, i < n → P i v → (V i).p b v) :
    TSrc W A b (.Name x px) cenv I fp wr n St [x] (fun i => [(x, V i)]) where
  sub := Wk.sub
  there := there
  frame := Wk.frame
  item := fun i s m Q E hi hS hN k => by
    refine Wk.item i s _ _ hi hS fun v h' tk hv hS' hk => ?_
    show wpAny (model PG W.w) A (pure ()) (fun _ s₂ => wpAny (model PG W.w) A (assign (.Name x px) cenv v) Q E s₂) E _
    refine wpAny_pure (wpAny_assign_Name (wpAny_storeName_local hx (hN.at' fun o e => hk _ o (fun q => hCf (Wk.sub _ q)) e) (fun h₂ hn₂ hs₂ => ?_) (by rw [hkf]; rfl)))
    refine k h₂ _ _ (Wk.frame _ _ _ hS' fun a ha o e => hs₂.extBut a o (fun q => hCf (q ▸ ha)) e) hn₂ (fun a o h1 h2 e => hs₂.extBut a o h2 (hk a o h1 e)) (fun y hy => if_neg fun q => hy (by rw [q]; exact .head _)) fun p hp => ?_
    cases hp with
    | head => exact ⟨hx, v, if_pos rfl, hP i v hi hv⟩
    | tail _ q => cases q
  done := Wk.done
  self := Wk.self

theorem TSrc.ofWalksU {W : Wd} {A : Around} {b : Heap} {cenv : Env} {x y : Str} {px py tp : Pos} {tk₀ : Nat} {I : Addr} {fp wr : List Addr} {n : Nat} {Pt : Nat → Array Value → Prop} {St : Nat → Heap → Prop} {Mid : Nat → Addr → Heap → Prop} {U V : Nat → VP}
    (Wk : WalksU PG W.w A I fp wr n Pt St Mid) (hh : A.handled = none) (there : ∀ i h, St i h → ∀ a ∈ fp, ∃ o, h.get? a = some o) (hkf : cenv.scope.kind = .function) (hx : cenv.kindOf x = some .local) (hy : cenv.kindOf y = some .local) (hxy : x ≠ y) (hCf : cenv.locals ∉ fp)
    (hP : ∀ i vs, i < n → Pt i vs → ∃ u v, vs = #[u, v] ∧ (U i).p b u ∧ (V i).p b v) :
    TSrc W A b (.Tuple [.Name x px, .Name y py] tk₀ tp) cenv I fp wr n St [x, y] (fun i => [(x, U i), (y, V i)]) where
  sub := Wk.sub
  there := there
  frame := Wk.frame
  item := fun i s m Q E hi hS hN k => by
    refine Wk.item i s _ _ hi hS fun T vals h' tk hv hT hM hk => ?_
    obtain ⟨u, v, rfl, pu, pv⟩ := hP i _ hi hv
    refine Wk.go _ _ _ i T _ _ _ hM fun h₂ hS₂ hk₂ => ?_
    have hT₂ : IsTup h₂ T #[u, v] := let ⟨o, ho, r⟩ := hT; ⟨o, hk₂ _ _ (Wk.apart _ _ _ hM) ho, r⟩
    refine assign_Tuple_tuple hh hT₂ rfl rfl fun h₃ he => ?_
    have k₃ : ∀ a o, h₂.get? a = some o → h₃.get? a = some o := fun a o e => he a o (Nat.ne_of_lt (Heap.lt_size e)) e
    have hCw : cenv.locals ∉ wr := fun q => hCf (Wk.sub _ q)
    refine assignInOrder_cons (wpAny_assign_Name (wpAny_storeName_local hx (((hN.at' fun o e => hk _ o hCw e).at' fun o e => hk₂ _ o hCw e).at' fun o e => k₃ _ o e) (fun h₄ hn₄ hs₄ => ?_) (by rw [hkf]; rfl)))
    refine assignInOrder_cons (wpAny_assign_Name (wpAny_storeName_local hy hn₄ (fun h₅ hn₅ hs₅ => ?_) (by rw [hkf]; rfl)))
    refine assignInOrder_nil ?_
    have k₅ : ∀ a o, a ≠ cenv.locals → h₂.get? a = some o → h₅.get? a = some o := fun a o ha e => hs₅.extBut a o ha (hs₄.extBut a o ha (k₃ a o e))
    refine k h₅ _ _ (Wk.frame _ _ _ hS₂ fun a ha o e => k₅ a o (fun q => hCf (q ▸ ha)) e) hn₅ (fun a o h1 h2 e => k₅ a o h2 (hk₂ a o h1 (hk a o h1 e))) (fun z hz => ?_) fun p hp => ?_
    · rw [if_neg fun q => hz (by rw [q]; exact .tail _ (.head _)), if_neg fun q => hz (by rw [q]; exact .head _)]
    · cases hp with
      | head => exact ⟨hx, u, by rw [if_neg hxy, if_pos rfl], pu⟩
      | tail _ q =>
        cases q with
        | head => exact ⟨hy, v, if_pos rfl, pv⟩
        | tail _ q => cases q
  done := Wk.done
  self := Wk.self

theorem Srcs.list {W : Wd} {x : Str} {px : Pos} {Vs : List VP} : Srcs W (VL Vs) (.Name x px) Vs.length [x] (fun i => [(x, vAt Vs i)]) := by
  intro A Mu s v Q E ct mu p k
  obtain ⟨a, items, rfl, hl, hv⟩ := p
  have hl' : s.heap.IsList a items.toArray := (hl.at fun o e => hid_le _ _ e : s.heap.PlainList a items.toArray).isList
  have haM : a ∉ Mu := fun q => by obtain ⟨n, ho⟩ := hl; rw [hideAll_none Mu q] at ho; cases ho
  have halt : a < s.heap.objs.size := let ⟨o, ho, _⟩ := hl'; Heap.lt_size ho
  refine wpAny_pyIter_list hl' ?_
  have hn : s.heap.get? s.heap.objs.size = none := stays_refl.fresh
  have Wk := Walks.list (prog := PG) (w := W.w) (A := A) ct.handled s.heap.objs.size a (Nat.ne_of_lt halt) items.toArray
  rw [show items.toArray.size = Vs.length by rw [List.size_toArray, hv.length]] at Wk
  refine k s.heap.objs.size _ s.toks [s.heap.objs.size, a] [s.heap.objs.size] _ (stays_push _) (fun b hb => ?_) (fun b hb => ?_) ⟨⟨_, Heap.get?_push_size _ rfl, rfl, rfl⟩, hl'.push _⟩ fun cenv hkf hx hCf =>
    TSrc.ofWalks Wk (fun i h st b hb => ?_) hkf (hx _ (.head _)) hCf fun i v hi hP => VsP.at hv (by simpa using hP)
  · cases hb with
    | head => exact ⟨hn, _, Heap.get?_push_size _ rfl⟩
    | tail _ q => cases q
  · rw [Heap.size_push]
    rcases List.mem_cons.mp hb with rfl | hb
    · exact ⟨fun q => (by obtain ⟨o, e⟩ := mu _ q; rw [hn] at e; cases e), Nat.lt_succ_self _⟩
    · cases List.mem_singleton.mp hb; exact ⟨haM, Nat.lt_succ_of_lt halt⟩
  · rcases List.mem_cons.mp hb with rfl | hb
    · obtain ⟨o, e, _⟩ := st.1; exact ⟨o, e⟩
    · cases List.mem_singleton.mp hb; obtain ⟨o, e, _⟩ := st.2; exact ⟨o, e⟩

noncomputable def VR (a : Int) (n : Nat) : VP := ⟨fun h v => ∃ r b t u w, v = .ref r ∧ IsRange h r a b 1 t u w ∧ Builtin.Range.small a b 1 = true ∧ Builtin.Range.rangeSize a b 1 = (n : Int), fun k ⟨r, b, t, u, w, e, x, y⟩ => ⟨r, b, t, u, w, e, k _ _ x, y⟩⟩
theorem Srcs.range {W : Wd} {x : Str} {px : Pos} {a : Int} {n : Nat} : Srcs W (VR a n) (.Name x px) n [x] (fun i => [(x, VI (a + (i : Int) * 1))]) := by
  intro A Mu s v Q E ct mu p k
  obtain ⟨r, b, t, u, w, rfl, hr, hsm, hsz⟩ := p
  have hr' : IsRange s.heap r a b 1 t u w := hid_le _ _ hr
  have hn : s.heap.get? s.heap.objs.size = none := stays_refl.fresh
  refine wpAny_pyIter_range hr' hsm ?_
  have Wk := Walks.range (prog := PG) (w := W.w) (A := A) ct.handled s.heap.objs.size a 1 n
  have e0 : IsRangeIter (s.heap.push { cls := .type "range_iterator", data := .fields #[rawInt a, rawInt (Builtin.Range.rangeSize a b 1), rawInt 1] }) s.heap.objs.size (a + ((0 : Nat) : Int) * 1) ((n : Int) - ((0 : Nat) : Int)) 1 := by
    have e := Heap.get?_push_size (h := s.heap) (o := { cls := .type "range_iterator", data := .fields #[rawInt a, rawInt (Builtin.Range.rangeSize a b 1), rawInt 1] }) (by rfl)
    rw [hsz] at e ⊢
    simpa using e
  refine k s.heap.objs.size _ s.toks [s.heap.objs.size] [s.heap.objs.size] _ (stays_push _) (fun b hb => ?_) (fun b hb => ?_) e0 fun cenv hkf hx hCf =>
    TSrc.ofWalks Wk (fun i h st b hb => ?_) hkf (hx _ (.head _)) hCf fun i v hi hP => hP
  · cases List.mem_singleton.mp hb; exact ⟨hn, _, Heap.get?_push_size _ rfl⟩
  · cases List.mem_singleton.mp hb
    rw [Heap.size_push]
    exact ⟨fun q => (by obtain ⟨o, e⟩ := mu _ q; rw [hn] at e; cases e), Nat.lt_succ_self _⟩
  · cases List.mem_singleton.mp hb; exact ⟨_, st⟩

noncomputable def vp2 (Us : List VP) (Vs : List VP) : List VP := List.zipWith (fun U V => VT [U, V]) Us Vs
theorem Srcs.pairs {W : Wd} {x y : Str} {px py tp : Pos} {k₀ : Nat} {Us Vs : List VP} (hlen : Us.length = Vs.length) (hxy : x ≠ y) :
    Srcs W (VL (vp2 Us Vs)) (.Tuple [.Name x px, .Name y py] k₀ tp) Us.length [x, y] (fun i => [(x, vAt Us i), (y, vAt Vs i)]) := by
  intro A Mu s v Q E ct mu p k
  obtain ⟨a, items, rfl, hl, hv⟩ := p
  have hl' : s.heap.IsList a items.toArray := (hl.at fun o e => hid_le _ _ e : s.heap.PlainList a items.toArray).isList
  have haM : a ∉ Mu := fun q => by obtain ⟨n, ho⟩ := hl; rw [hideAll_none Mu q] at ho; cases ho
  have halt : a < s.heap.objs.size := let ⟨o, ho, _⟩ := hl'; Heap.lt_size ho
  have hn : s.heap.get? s.heap.objs.size = none := stays_refl.fresh
  have hlen' : items.length = Us.length := by rw [hv.length]; simp [vp2, hlen]
  -- each item a tuple
  have each : ∀ j, j < Us.length → ∃ (T : Addr) (u v : Value), items[j]? = some (.ref T) ∧ IsTup (hideAll s.heap Mu) T #[u, v] ∧ (vAt Us j).p (hideAll s.heap Mu) u ∧ (vAt Vs j).p (hideAll s.heap Mu) v := fun j hj => by
    have hjV : j < Vs.length := hlen ▸ hj
    obtain ⟨w, hw, T, its, rfl, ht, hvs⟩ := hv.get (i := j) (V := VT [Us[j], Vs[j]]) (by rw [vp2, List.getElem?_zipWith, List.getElem?_eq_getElem hj, List.getElem?_eq_getElem hjV])
    match its, hvs with
    | [u, v], hvs =>
      refine ⟨T, u, v, hw, ht, ?_, ?_⟩
      · rw [show vAt Us j = Us[j] by simp [vAt, hj]]; exact hvs.1
      · rw [show vAt Vs j = Vs[j] by simp [vAt, hjV]]; exact hvs.2.1
    | [], hvs => exact hvs.elim
    | [_], hvs => exact hvs.2.elim
    | _ :: _ :: _ :: _, hvs => exact hvs.2.2.elim
  let Ts : Nat → Addr := fun j => if h : j < Us.length then (each j h).choose else 0
  let vals : Nat → Array Value := fun j => if h : j < Us.length then #[(each j h).choose_spec.choose, (each j h).choose_spec.choose_spec.choose] else #[]
  have sp : ∀ j, j < Us.length → items[j]? = some (.ref (Ts j)) ∧ IsTup (hideAll s.heap Mu) (Ts j) (vals j) ∧ ∃ u v, vals j = #[u, v] ∧ (vAt Us j).p (hideAll s.heap Mu) u ∧ (vAt Vs j).p (hideAll s.heap Mu) v := fun j hj => by
    have q := (each j hj).choose_spec.choose_spec.choose_spec
    simp only [Ts, vals, hj, dif_pos]
    exact ⟨q.1, q.2.1, _, _, rfl, q.2.2⟩
  refine wpAny_pyIter_list hl' ?_
  have hsz : items.toArray.size = Us.length := by rw [List.size_toArray, hlen']
  have tupS : ∀ j, j < Us.length → IsTup s.heap (Ts j) (vals j) := fun j hj => let ⟨o, ho, r⟩ := (sp j hj).2.1; ⟨o, hid_le _ _ ho, r⟩
  have tlt : ∀ j, j < Us.length → Ts j < s.heap.objs.size ∧ Ts j ∉ Mu := fun j hj => by
    obtain ⟨o, ho, _⟩ := tupS j hj
    obtain ⟨o', ho', _⟩ := (sp j hj).2.1
    exact ⟨Heap.lt_size ho, fun q => by rw [hideAll_none Mu q] at ho'; cases ho'⟩
  have Wk := WalksU.listOfTuples (prog := PG) (w := W.w) (A := A) ct.handled s.heap.objs.size a (Nat.ne_of_lt halt) items.toArray Ts vals (fun j hj => by rw [hsz] at hj; simpa using (sp j hj).1) (fun j hj => by rw [hsz] at hj; exact Nat.ne_of_lt (tlt j hj).1)
  rw [hsz] at Wk
  have h00 : ∀ j, j < Us.length → (s.heap.push { cls := .type "list_iterator", data := .fields #[.ref a, .int 0 0] }).IsTuple (Ts j) (vals j) := fun j hj => (tupS j hj).keeps (stays_push _)
  refine k s.heap.objs.size _ s.toks _ [s.heap.objs.size] _ (stays_push _) (fun b hb => ?_) (fun b hb => ?_) ⟨⟨_, Heap.get?_push_size _ rfl, rfl, rfl⟩, hl'.push _, hsz ▸ h00⟩ fun cenv hkf hx hCf =>
    TSrc.ofWalksU Wk ct.handled (fun i h st b hb => ?_) hkf (hx _ (.head _)) (hx _ (.tail _ (.head _))) hxy hCf fun i v hi hP => ?_
  · cases List.mem_singleton.mp hb; exact ⟨hn, _, Heap.get?_push_size _ rfl⟩
  · rw [Heap.size_push]
    rcases List.mem_cons.mp hb with rfl | hb
    · exact ⟨fun q => (by obtain ⟨o, e⟩ := mu _ q; rw [hn] at e; cases e), Nat.lt_succ_self _⟩
    · rcases List.mem_cons.mp hb with rfl | hb
      · exact ⟨haM, Nat.lt_succ_of_lt halt⟩
      · obtain ⟨j, hj, rfl⟩ := List.mem_map.mp hb
        have hj : j < Us.length := by have q := List.mem_range.mp hj; first | exact q | (rw [hsz] at q; exact q)
        exact ⟨(tlt j hj).2, Nat.lt_succ_of_lt (tlt j hj).1⟩
  · rcases List.mem_cons.mp hb with rfl | hb
    · obtain ⟨o, e, _⟩ := st.1; exact ⟨o, e⟩
    · rcases List.mem_cons.mp hb with rfl | hb
      · obtain ⟨o, e, _⟩ := st.2.1; exact ⟨o, e⟩
      · obtain ⟨j, hj, rfl⟩ := List.mem_map.mp hb
        obtain ⟨o, e, _⟩ := st.2.2 j (by have q := List.mem_range.mp hj; first | exact q | (rw [hsz]; exact q) | (rw [hsz] at q; exact q)); exact ⟨o, e⟩
  · obtain rfl : v = vals i := hP
    exact (sp i hi).2.2
end Mine
-- Pg
namespace Mine
section
variable {W : Wd} {env : Env} {ρ : Rho}
theorem F2.add {x y : Int} : F2 W (binaryOp .Add) (VI x) (VI y) (VI (x + y)) := by
  rintro A Mu s _ _ Q E ct mu ⟨t, rfl⟩ ⟨u, rfl⟩ k; exact PyProof.Rows.add_int (k _ s.heap _ stays_refl ⟨_, rfl⟩)
theorem F2.sub {x y : Int} : F2 W (binaryOp .Sub) (VI x) (VI y) (VI (x - y)) := by
  rintro A Mu s _ _ Q E ct mu ⟨t, rfl⟩ ⟨u, rfl⟩ k; exact PyProof.Rows.sub_int (k _ s.heap _ stays_refl ⟨_, rfl⟩)
theorem F2.mul {x y : Int} (hm : IntMulOk x y) : F2 W (binaryOp .Mult) (VI x) (VI y) (VI (x * y)) := by
  rintro A Mu s _ _ Q E ct mu ⟨t, rfl⟩ ⟨u, rfl⟩ k; exact PyProof.Rows.mul_int (hm := hm) (k _ s.heap _ stays_refl ⟨_, rfl⟩)
theorem F2.mod {x y : Int} (hy : y ≠ 0) : F2 W (binaryOp .Mod) (VI x) (VI y) (VI (x.fmod y)) := by
  rintro A Mu s _ _ Q E ct mu ⟨t, rfl⟩ ⟨u, rfl⟩ k; exact PyProof.Rows.mod_int hy (k _ s.heap _ stays_refl ⟨_, rfl⟩)
theorem F2.eqI {x y : Int} : F2 W (compareOp .Eq) (VI x) (VI y) (VB (x == y)) := by
  rintro A Mu s _ _ Q E ct mu ⟨t, rfl⟩ ⟨u, rfl⟩ k; exact PyProof.Rows.eq_int (k _ s.heap s.toks stays_refl rfl)
theorem F2.neI {x y : Int} : F2 W (compareOp .NotEq) (VI x) (VI y) (VB (x != y)) := by
  rintro A Mu s _ _ Q E ct mu ⟨t, rfl⟩ ⟨u, rfl⟩ k; exact PyProof.Rows.ne_int (k _ s.heap s.toks stays_refl rfl)
theorem F2.ltI {x y : Int} : F2 W (compareOp .Lt) (VI x) (VI y) (VB (decide (x < y))) := by
  rintro A Mu s _ _ Q E ct mu ⟨t, rfl⟩ ⟨u, rfl⟩ k; exact PyProof.Rows.lt_int (k _ s.heap s.toks stays_refl rfl)
theorem F2.gtI {x y : Int} : F2 W (compareOp .Gt) (VI x) (VI y) (VB (decide (y < x))) := by
  rintro A Mu s _ _ Q E ct mu ⟨t, rfl⟩ ⟨u, rfl⟩ k; exact PyProof.Rows.gt_int (k _ s.heap s.toks stays_refl rfl)
theorem F2.geI {x y : Int} : F2 W (compareOp .GtE) (VI x) (VI y) (VB (decide (y ≤ x))) := by
  rintro A Mu s _ _ Q E ct mu ⟨t, rfl⟩ ⟨u, rfl⟩ k; exact PyProof.Rows.ge_int (k _ s.heap s.toks stays_refl rfl)
theorem F2.eqS {x y : Str} : F2 W (compareOp .Eq) (VS x) (VS y) (VB (x == y)) := by
  rintro A Mu s _ _ Q E ct mu ⟨t, rfl⟩ ⟨u, rfl⟩ k; exact PyProof.Rows.eq_str (k _ s.heap s.toks stays_refl rfl)
theorem F2.neS {x y : Str} : F2 W (compareOp .NotEq) (VS x) (VS y) (VB (x != y)) := by
  rintro A Mu s _ _ Q E ct mu ⟨t, rfl⟩ ⟨u, rfl⟩ k; exact PyProof.Rows.ne_str (k _ s.heap s.toks stays_refl rfl)
theorem F2.addS {x y : Str} (hsz : x.length + y.length ≤ 1000) : F2 W (binaryOp .Add) (VS x) (VS y) (VS (x ++ y)) := by
  rintro A Mu s _ _ Q E ct mu ⟨t, rfl⟩ ⟨u, rfl⟩ k; exact PyProof.Rows.add_str (fun t' tk => k _ s.heap _ stays_refl ⟨_, rfl⟩) (Nat.le_trans hsz (by decide))
theorem F2.mulS {x : Str} {n : Int} (h : MulOk x n) : F2 W (binaryOp .Mult) (VS x) (VI n) (VS (Txt.mul x n)) := by
  rintro A Mu s _ _ Q E ct mu ⟨t, rfl⟩ ⟨u, rfl⟩ k; exact SB.mul h (fun t' tk => k _ s.heap _ stays_refl ⟨_, rfl⟩)
theorem F2.isB {x y : Bool} : F2 W (compareOp .Is) (VB x) (VB y) (VB (x == y)) := by
  rintro A Mu s _ _ Q E ct mu rfl rfl k; exact PyProof.Rows.is_bool (k _ s.heap s.toks stays_refl rfl)
theorem F2.isNotB {x y : Bool} : F2 W (compareOp .IsNot) (VB x) (VB y) (VB (!(x == y))) := by
  rintro A Mu s _ _ Q E ct mu rfl rfl k
  refine (show wpAny (model PG W.w) A (compareOp .IsNot (.bool x) (.bool y)) Q E s from ?_)
  first
    | exact PyProof.Rows.isNot_bool (k _ s.heap s.toks stays_refl rfl)
    | (show wpAny _ A (do return .bool (!(← isSame (.bool x) (.bool y)))) Q E s
       exact wpAny_bind (wpAny_pure (wpAny_pure (k _ s.heap s.toks stays_refl (by cases x <;> cases y <;> rfl)))))

theorem PT.value {e : Expr} {b : Bool} (h : PE W env ρ e (VB b)) (he : ∀ whole, isTrue e env whole = (do let v ← whole; standAt e.pos; holding [v] (truthy v)) := by intro _; rfl) : PT W env ρ e b :=
  fun A Mu s Q E I k => wpAny_isTrue_value (h A Mu s _ _ I fun v h' tk k' p => by cases p; exact wpAny_truthy_bool (k h' tk k')) (he _)
theorem PT.valueI {e : Expr} {i : Int} (h : PE W env ρ e (VI i)) (he : ∀ whole, isTrue e env whole = (do let v ← whole; standAt e.pos; holding [v] (truthy v)) := by intro _; rfl) : PT W env ρ e (i != 0) :=
  fun A Mu s Q E I k => wpAny_isTrue_value (h A Mu s _ _ I fun v h' tk k' p => by obtain ⟨t, rfl⟩ := p; exact PySem.P.truthy_int (k h' tk k')) (he _)
theorem PT.cmp {l r : Expr} {op : CmpOp} {pos : Pos} {V₁ V₂ : VP} {b : Bool} (h : F2 W (compareOp op) V₁ V₂ (VB b)) (h₁ : PE W env ρ l V₁) (h₂ : PE W env ρ r V₂) (hm : behindInMarks op r = false := by with_unfolding_all rfl) : PT W env ρ (.Compare l [op] [r] pos) b :=
  fun A Mu s Q E I k => wpAny_isTrue_Compare1 (PE.seq2 (W := W) (t := fun a b => compareOp op a b) (Q := fun c s₃ => wpAny (model PG W.w) A (truthy c) Q E s₃) h₁ h₂ h I fun v h' tk k' p => by cases p; exact wpAny_truthy_bool (k h' tk k')) hm
noncomputable def PAll (W : Wd) (env : Env) (ρ : Rho) (es : List Expr) (b : Bool) : Prop :=
  ∀ (A : Around) (Mu : List Addr) (s : Shared) (Q : Bool → Shared → Prop) (E : Value → Shared → Prop), Inv W A env Mu ρ s.heap →
    (∀ h' tk, s.heap.StaysIn h' → Q b { s with heap := h', toks := tk }) → wpAny (model PG W.w) A (allTrue .And es env) Q E s
theorem PAll.nil : PAll W env ρ [] true := fun A Mu s Q E I k => wpAny_allTrue_And_nil (k s.heap s.toks stays_refl)
theorem PAll.cons {e : Expr} {es : List Expr} {a b : Bool} (h : PT W env ρ e a) (hr : a = true → PAll W env ρ es b) : PAll W env ρ (e :: es) (a && b) := fun A Mu s Q E I k =>
  wpAny_allTrue_And_cons (h A Mu s _ _ I fun h' tk k' => by
    cases a with
    | false => exact k h' tk k'
    | true => exact hr rfl A Mu { s with heap := h', toks := tk } Q E (I.mono k') fun h₂ tk₂ k₂ => k h₂ tk₂ (stays_trans k' k₂))
theorem PT.and {es : List Expr} {pos : Pos} {b : Bool} (h : PAll W env ρ es b) : PT W env ρ (.BoolOp .And es pos) b := fun A Mu s Q E I k => wpAny_isTrue_BoolOp (h A Mu s Q E I k)
noncomputable def PAny (W : Wd) (env : Env) (ρ : Rho) (es : List Expr) (b : Bool) : Prop :=
  ∀ (A : Around) (Mu : List Addr) (s : Shared) (Q : Bool → Shared → Prop) (E : Value → Shared → Prop), Inv W A env Mu ρ s.heap →
    (∀ h' tk, s.heap.StaysIn h' → Q b { s with heap := h', toks := tk }) → wpAny (model PG W.w) A (allTrue .Or es env) Q E s
theorem PAny.nil : PAny W env ρ [] false := fun A Mu s Q E I k => wpAny_allTrue_Or_nil (k s.heap s.toks stays_refl)
theorem PAny.cons {e : Expr} {es : List Expr} {a b : Bool} (h : PT W env ρ e a) (hr : a = false → PAny W env ρ es b) : PAny W env ρ (e :: es) (a || b) := fun A Mu s Q E I k =>
  wpAny_allTrue_Or_cons (h A Mu s _ _ I fun h' tk k' => by
    cases a with
    | true => exact k h' tk k'
    | false => exact hr rfl A Mu { s with heap := h', toks := tk } Q E (I.mono k') fun h₂ tk₂ k₂ => k h₂ tk₂ (stays_trans k' k₂))
theorem PT.or {es : List Expr} {pos : Pos} {b : Bool} (h : PAny W env ρ es b) : PT W env ρ (.BoolOp .Or es pos) b := fun A Mu s Q E I k => wpAny_isTrue_BoolOp (h A Mu s Q E I k)
theorem PT.not {e : Expr} {pos : Pos} {b : Bool} (h : PT W env ρ e b) : PT W env ρ (.UnaryOp .Not e pos) (!b) := fun A Mu s Q E I k => wpAny_isTrue_Not (h A Mu s _ _ I k)
theorem PE.ifexp {test body orelse : Expr} {pos : Pos} {b : Bool} {V : VP} (ht : PT W env ρ test b) (h1 : b = true → PE W env ρ body V) (h2 : b = false → PE W env ρ orelse V) : PE W env ρ (.IfExp test body orelse pos) V :=
  fun A Mu s Q E I k => wpAny_IfExp (ht A Mu s _ _ I fun h' tk k' => by
    cases b with
    | true => exact h1 rfl A Mu { s with heap := h', toks := tk } Q E (I.mono k') fun v h₂ tk₂ k₂ p => k v h₂ tk₂ (stays_trans k' k₂) p
    | false => exact h2 rfl A Mu { s with heap := h', toks := tk } Q E (I.mono k') fun v h₂ tk₂ k₂ p => k v h₂ tk₂ (stays_trans k' k₂) p)
theorem PE.neg {e : Expr} {pos : Pos} {x : Int} (h : PE W env ρ e (VI x)) : PE W env ρ (.UnaryOp .USub e pos) (VI (-x)) := fun A Mu s Q E I k =>
  wpAny_UnaryOp (h A Mu s _ _ I fun v h' tk k' p => by obtain ⟨t, rfl⟩ := p; exact PyProof.Rows.neg_int (k _ h' _ k' ⟨_, rfl⟩))

/-- displays -/
theorem hid_push {h : Heap} {Mu : List Addr} {o : Obj} (mu : ∀ a ∈ Mu, ∃ o, h.get? a = some o) (hf : o.isFreed = false := by rfl) : (hideAll (h.push o) Mu).get? h.objs.size = some o :=
  hideAll_get _ (Heap.get?_push_size _ hf) fun q => Nat.lt_irrefl _ (mu_lt mu q)
theorem PE.tuple {es : List Expr} {k₀ : Nat} {pos : Pos} {Vs : List VP} (h : PA W env ρ pos es Vs) (hl : Vs.length ≤ 1000) : PE W env ρ (.Tuple es k₀ pos) (VT Vs) := fun A Mu s Q E I k =>
  wpAny_Tuple (h A Mu s _ _ I fun vs h' tk k' p => ⟨by rw [p.length]; exact Nat.le_trans hl (by decide), k _ _ tk (stays_trans k' (stays_push _)) ⟨_, vs, rfl, ⟨_, hid_push (I.mono k').mu, rfl, _, rfl⟩, p.mono (hid_mono fun b o _ e => stays_push _ b o e)⟩⟩)
theorem PE.list {es : List Expr} {pos : Pos} {Vs : List VP} (h : PA W env ρ pos es Vs) (hl : Vs.length ≤ 1000) : PE W env ρ (.List es pos) (VL Vs) := fun A Mu s Q E I k =>
  wpAny_List (h A Mu s _ _ I fun vs h' tk k' p => ⟨by rw [p.length]; exact Nat.le_trans hl (by decide), k _ _ tk (stays_trans k' (stays_push _)) ⟨_, vs, rfl, ⟨_, hid_push (I.mono k').mu⟩, p.mono (hid_mono fun b o _ e => stays_push _ b o e)⟩⟩)

/-- calls -/
theorem PE.calldef {x : Str} {px pos : Pos} {e : Expr} {es : List Expr} {f : Addr} {Vs : List VP} {V : VP} (hn : PE W env ρ (.Name x px) (VE (.ref f))) (hk : keepIn (KF W.w.params) (.ref f) = true) (ha : PA W env ρ pos (e :: es) Vs) (hf : FC W (.ref f) Vs V)
    (he : starEach (e :: es) env = (false, eval e env) :: starEach es env := by rfl) (hp : (backTo pos (starEach es env)).any (·.1) = false := by rfl) : PE W env ρ (.Call (.Name x px) (e :: es) [] pos) V := fun A Mu s Q E I k =>
  Call_ (hn A Mu s _ _ I fun v h₁ tk₁ k₁ p₁ => by
    cases p₁
    refine callWith_K (I.mono k₁).ct.X hk (ha A Mu { s with heap := h₁, toks := tk₁ } _ _ (I.mono k₁) fun vs h₂ tk₂ k₂ p₂ => ⟨((I.mono k₁).mono k₂).ct.X, ?_⟩) he hp
    exact hf A Mu _ vs Q E ((I.mono k₁).mono k₂).ct.weak ((I.mono k₁).mono k₂).mu p₂ fun v h₃ tk₃ k₃ p₃ => k v h₃ tk₃ (stays_trans k₁ (stays_trans k₂ k₃)) p₃)
theorem PE.callb {x : Str} {px pos : Pos} {e : Expr} {es : List Expr} {id : String} {Vs : List VP} {V : VP} (hn : PE W env ρ (.Name x px) (VE (.builtin id))) (ha : PA W env ρ pos (e :: es) Vs) (hf : FC W (.builtin id) Vs V)
    (he : starEach (e :: es) env = (false, eval e env) :: starEach es env := by rfl) (hp : (backTo pos (starEach es env)).any (·.1) = false := by rfl) : PE W env ρ (.Call (.Name x px) (e :: es) [] pos) V := fun A Mu s Q E I k =>
  Call_ (hn A Mu s _ _ I fun v h₁ tk₁ k₁ p₁ => by
    cases p₁
    refine PyProof.Rows.callWith_builtin1 (ha A Mu { s with heap := h₁, toks := tk₁ } _ _ (I.mono k₁) fun vs h₂ tk₂ k₂ p₂ => ?_) he hp
    exact hf A Mu _ vs Q E ((I.mono k₁).mono k₂).ct.weak ((I.mono k₁).mono k₂).mu p₂ fun v h₃ tk₃ k₃ p₃ => k v h₃ tk₃ (stays_trans k₁ (stays_trans k₂ k₃)) p₃)
theorem PE.callt {x : Str} {px pos : Pos} {e : Expr} {es : List Expr} {T : String} {Vs : List VP} {V : VP} (hn : PE W env ρ (.Name x px) (VE (.type T))) (ha : PA W env ρ pos (e :: es) Vs) (hf : FC W (.type T) Vs V)
    (he : starEach (e :: es) env = (false, eval e env) :: starEach es env := by rfl) (hp : (backTo pos (starEach es env)).any (·.1) = false := by rfl) : PE W env ρ (.Call (.Name x px) (e :: es) [] pos) V := fun A Mu s Q E I k =>
  Call_ (hn A Mu s _ _ I fun v h₁ tk₁ k₁ p₁ => by
    cases p₁
    refine PyProof.Rows.callWith_type1 (ha A Mu { s with heap := h₁, toks := tk₁ } _ _ (I.mono k₁) fun vs h₂ tk₂ k₂ p₂ => ?_) he hp
    exact hf A Mu _ vs Q E ((I.mono k₁).mono k₂).ct.weak ((I.mono k₁).mono k₂).mu p₂ fun v h₃ tk₃ k₃ p₃ => k v h₃ tk₃ (stays_trans k₁ (stays_trans k₂ k₃)) p₃)

theorem PE.method {o e : Expr} {es : List Expr} {name : Str} {apos pos : Pos} {T id : String} {U : VP} {Vs : List VP} {V : VP} (hT : ∀ (s : Shared) (Mu : List Addr) v, U.p (hideAll s.heap Mu) v → s.TypeIs v T ∧ ∀ a, v = .ref a → ∃ ob, s.heap.get? a = some ob ∧ ob.dict = none)
    (pa : PlainAttrs T) (slot : Slot T name id) (hty : typeOf (.builtin id) = pure (.type "method_descriptor")) (ho : PE W env ρ o U) (ha : PA W env ρ pos (e :: es) Vs) (hf : FC W (.builtin id) (U :: Vs) V)
    (hbase : attributeBase o name env (eval o env) = eval o env := by rfl)
    (hfew : ((backTo pos (starEach (e :: es) env)).all (fun x => !x.1) && (backToKw pos (keywordEach [] env)).all (fun x => x.1.isSome) && decide ((e :: es).length + ([] : List Keyword).length + (if ([] : List Keyword).isEmpty then 0 else 1) < 30)) = true := by rfl)
    (hline : (apos.endLine == pos.line) = true := by rfl)
    (he : starEach (e :: es) env = (false, eval e env) :: starEach es env := by rfl) (hp : (backTo pos (starEach es env)).any (·.1) = false := by rfl) : PE W env ρ (.Call (.Attribute o name apos) (e :: es) [] pos) V := fun A Mu s Q E I k =>
  wpAny_Call_method_lateS hbase hfew hline (ho A Mu s _ _ I fun v h₁ tk₁ k₁ p₁ => by
    obtain ⟨t1, t2⟩ := hT { s with heap := h₁, toks := tk₁ } Mu v p₁
    refine ⟨T, id, pa, slot, hty, t1, t2, PyProof.Rows.callWith_method1 (ha A Mu { s with heap := h₁, toks := tk₁ } _ _ (I.mono k₁) fun vs h₂ tk₂ k₂ p₂ => ?_) he hp⟩
    exact hf A Mu _ (v :: vs) Q E ((I.mono k₁).mono k₂).ct.weak ((I.mono k₁).mono k₂).mu ⟨U.mono (hid_mono fun b o _ e => k₂ b o e) p₁, p₂⟩ fun v h₃ tk₃ k₃ p₃ => k v h₃ tk₃ (stays_trans k₁ (stays_trans k₂ k₃)) p₃)
theorem tyS {x : Str} (s : Shared) (Mu : List Addr) (v : Value) (h : (VS x).p (hideAll s.heap Mu) v) : s.TypeIs v "str" ∧ ∀ a, v = .ref a → ∃ ob, s.heap.get? a = some ob ∧ ob.dict = none := by
  obtain ⟨t, rfl⟩ := h; exact ⟨typeIs_str _ _ _, fun a e => by cases e⟩
theorem tyL {Vs : List VP} (s : Shared) (Mu : List Addr) (v : Value) (h : (VL Vs).p (hideAll s.heap Mu) v) : s.TypeIs v "list" ∧ ∀ a, v = .ref a → ∃ ob, s.heap.get? a = some ob ∧ ob.dict = none := by
  obtain ⟨a, its, rfl, ⟨n, ho⟩, _⟩ := h
  exact ⟨⟨_, hid_le _ _ ho, rfl⟩, fun b e => by cases e; exact ⟨_, hid_le _ _ ho, rfl⟩⟩

/-- a subscript by a slice of a list -/
theorem vs_ints : ∀ {ns : List Int} {h : Heap} {vs : List Value}, VsP (ns.map VI) h vs → IntsAre vs ns
  | [], _, [], _ => .nil
  | n :: ns, h, v :: vs, x => by obtain ⟨t, rfl⟩ := x.1; exact .cons n t (vs_ints x.2)
  | [], _, _ :: _, x => x.elim
  | _ :: _, _, [], x => x.elim
theorem vs_strs : ∀ {ss : List Str} {h : Heap} {vs : List Value}, VsP (ss.map VS) h vs → ∃ l : List (Str × Tok), vs = strValues l ∧ l.map (·.1) = ss
  | [], _, [], _ => ⟨[], rfl, rfl⟩
  | n :: ns, h, v :: vs, x => by
    obtain ⟨t, rfl⟩ := x.1
    obtain ⟨l, rfl, e⟩ := vs_strs x.2
    exact ⟨(n, t) :: l, rfl, by simp [e]⟩
  | [], _, _ :: _, x => x.elim
  | _ :: _, _, [], x => x.elim
theorem ints_vs : ∀ {ns : List Int} {h : Heap} {vs : List Value}, IntsAre vs ns → VsP (ns.map VI) h vs
  | _, _, _, .nil => trivial
  | _, _, _, .cons n t r => ⟨⟨t, rfl⟩, ints_vs r⟩
theorem VL.isList {Vs : List VP} {s : Shared} {Mu : List Addr} {v : Value} (h : (VL Vs).p (hideAll s.heap Mu) v) : ∃ a its, v = .ref a ∧ s.heap.PlainList a its.toArray ∧ VsP Vs (hideAll s.heap Mu) its := by
  obtain ⟨a, its, rfl, ⟨n, ho⟩, x⟩ := h; exact ⟨a, its, rfl, ⟨n, hid_le _ _ ho⟩, x⟩

theorem FC.len {Vs : List VP} (hl : Vs.length ≤ 100000) : FC W (.builtin "len") [VL Vs] (VI Vs.length) := by
  intro A Mu s vs Q E ct mu p k
  match vs, p with
  | [v], p =>
    obtain ⟨a, its, rfl, hp, x⟩ := VL.isList p.1
    refine call_len_list hp.isList (by rw [List.size_toArray, x.length]; omega) (k _ s.heap _ stays_refl ⟨s.toks + 1, by rw [List.size_toArray, x.length]⟩)
  | [], p => exact p.elim
  | _ :: _ :: _, p => exact p.2.elim
theorem FC.count {ns : List Int} {c : Int} : FC W (.builtin "list.count") [VL (ns.map VI), VI c] (VI (ns.count c : Nat)) := by
  intro A Mu s vs Q E ct mu p k
  match vs, p with
  | [v, u], p =>
    obtain ⟨a, its, rfl, hp, x⟩ := VL.isList p.1
    obtain ⟨t, rfl⟩ := p.2.1
    exact count_list_ints hp.isList (vs_ints x) (k _ s.heap _ stays_refl ⟨_, rfl⟩)
  | [], p => exact p.elim
  | [_], p => exact p.2.elim
  | _ :: _ :: _ :: _, p => exact p.2.2.elim
theorem FC.join {x : Str} {ss : List Str} (hok : JoinOk x ss = true) : FC W (.builtin "str.join") [VS x, VL (ss.map VS)] (VS (Txt.join x ss)) := by
  intro A Mu s vs Q E ct mu p k
  match vs, p with
  | [u, v], p =>
    obtain ⟨t, rfl⟩ := p.1
    obtain ⟨a, its, rfl, hp, y⟩ := VL.isList p.2.1
    obtain ⟨l, rfl, e⟩ := vs_strs y
    exact SC.join hp.isList e hok fun t' tk => k _ s.heap _ stays_refl ⟨_, rfl⟩
  | [], p => exact p.elim
  | [_], p => exact p.2.elim
  | _ :: _ :: _ :: _, p => exact p.2.2.elim
theorem FC.abs {x : Int} : FC W (.builtin "abs") [VI x] (VI (if x < 0 then -x else x)) := by
  intro A Mu s vs Q E ct mu p k
  match vs, p with
  | [v], p =>
    obtain ⟨t, rfl⟩ := p.1
    exact call_abs_int fun u tk => k _ s.heap _ stays_refl ⟨_, rfl⟩
  | [], p => exact p.elim
  | _ :: _ :: _, p => exact p.2.elim
theorem FC.min {x y : Int} : FC W (.builtin "min") [VI x, VI y] (VI (if y < x then y else x)) := by
  intro A Mu s vs Q E ct mu p k
  match vs, p with
  | [v, u], p =>
    obtain ⟨t, rfl⟩ := p.1
    obtain ⟨t', rfl⟩ := p.2.1
    refine min_two_ints ct.handled fun h' tk k' => k _ h' tk k' ?_
    split
    · exact ⟨_, rfl⟩
    · exact ⟨_, rfl⟩
  | [], p => exact p.elim
  | [_], p => exact p.2.elim
  | _ :: _ :: _ :: _, p => exact p.2.2.elim
end
end Mine
-- Ph
namespace Mine
section
variable {W : Wd} {env : Env} {ρ : Rho}
theorem F2.itemL {value slice : Expr} {Vs : List VP} {k : Int} {V : VP} (h0 : 0 ≤ k) (hk : k < 10000) (hV : Vs[k.toNat]? = some V)
    (hs : ∀ l u, subscripted slice false (.ref l) (.int k u) = operate [.ref l, .int k u] (getItem (.ref l) (.int k u)) := by intro _ _; with_unfolding_all rfl)
    (hg : ∀ l r, letTemporaryGo value (.ref l) r = pure () := by intro _ _; with_unfolding_all rfl) : F2 W (subscriptTail value slice) (VL Vs) (VI k) V := by
  intro A Mu s a b Q E ct mu pa pb kk
  obtain ⟨l, its, rfl, hp, x⟩ := VL.isList pa
  obtain ⟨u, rfl⟩ := pb
  obtain ⟨v, hv, pv⟩ := x.get hV
  exact subscriptTail_builtin hp.isList.typeIs slot_list_getitem.lookup (wpAny_getItem_list hp.isList h0 (by omega) (by simpa using hv) (kk v s.heap s.toks stays_refl pv)) (hs l u) (hg l)
theorem F2.itemLneg {value slice : Expr} {Vs : List VP} {k : Int} {V : VP} (h0 : k < 0) (h1 : -(Vs.length : Int) ≤ k) (hk : -10000 ≤ k) (hV : Vs[(k + Vs.length).toNat]? = some V)
    (hs : ∀ l u, subscripted slice false (.ref l) (.int k u) = operate [.ref l, .int k u] (getItem (.ref l) (.int k u)) := by intro _ _; with_unfolding_all rfl)
    (hg : ∀ l r, letTemporaryGo value (.ref l) r = pure () := by intro _ _; with_unfolding_all rfl) : F2 W (subscriptTail value slice) (VL Vs) (VI k) V := by
  intro A Mu s a b Q E ct mu pa pb kk
  obtain ⟨l, its, rfl, hp, x⟩ := VL.isList pa
  obtain ⟨u, rfl⟩ := pb
  obtain ⟨v, hv, pv⟩ := x.get hV
  exact subscriptTail_builtin hp.isList.typeIs slot_list_getitem.lookup (wpAny_getItem_list_neg hp.isList h0 (by rw [List.size_toArray, x.length]; exact h1) (by omega) (by rw [List.size_toArray, x.length]; simpa using hv) (kk v s.heap s.toks stays_refl pv)) (hs l u) (hg l)

/-- a dict by texts -/
noncomputable def VD (F : Str → Option VP) : VP := ⟨fun h v => ∃ d o es ep, v = .ref d ∧ (d == sysModules) = false ∧ h.get? d = some o ∧ o.ExactDict ∧ o.data = .dict es ep ∧ (es.all fun e => isExactStrKey e.key) = true ∧ ∀ k V, F k = some V → ∃ u, findBy (fun k v => v.isStr k) es k = some u ∧ V.p h u,
  fun st ⟨d, o, es, ep, e, lo, ho, r1, r2, r3, r4⟩ => ⟨d, o, es, ep, e, lo, st _ _ ho, r1, r2, r3, fun k V hk => let ⟨u, a, b⟩ := r4 k V hk; ⟨u, a, V.mono st b⟩⟩⟩
theorem F2.itemD {value slice : Expr} {F : Str → Option VP} {k : Str} {V : VP} (hV : F k = some V)
    (hs : ∀ l u, subscripted slice false (.ref l) (.str k u) = operate [.ref l, .str k u] (getItem (.ref l) (.str k u)) := by intro _ _; with_unfolding_all rfl)
    (hg : ∀ l r, letTemporaryGo value (.ref l) r = pure () := by intro _ _; with_unfolding_all rfl) : F2 W (subscriptTail value slice) (VD F) (VS k) V := by
  intro A Mu s a b Q E ct mu pa pb kk
  obtain ⟨d, o, es, ep, rfl, lo, ho, hc, hd, hex, hF⟩ := pa
  obtain ⟨tk, rfl⟩ := pb
  obtain ⟨u, hu, pu⟩ := hF k V hV
  have ho := hid_le _ _ ho
  have hT : s.TypeIs (.ref d) "dict" := ⟨o, ho, hc.1⟩
  refine subscriptTail_builtin hT slot_dict_getitem.lookup ?_ (hs d tk) (hg d)
  unfold getItem
  try with_reducible refine wpAny_holding ?_
  refine wpAny_bind (wpAny_sequenceKey hT (by decide) ?_)
  refine wpAny_bind (wpAny_callSpecial?_slot (name := Str.ofString "__getitem__") hT slot_dict_getitem
    (wpAny_call_entry slot_dict_getitem hT entry_dict_getitem ?_ (args_dict_getitem _ _)))
  show wpAny _ _ (dictGet d (.str k tk) >>= _) _ _ s
  refine wpAny_bind ?_
  unfold dictGet
  try with_reducible refine wpAny_holding ?_
  refine wpAny_bind (wpAny_pyHash_str (wpAny_bind (KTD.kt_dictFind_strs (s := { s with toks := s.toks + 1 }) ho hd hex ?_)))
  rw [findBy_of_findIdx?] at hu
  cases hi : es.findIdx? fun e => e.key.isStr k with
  | none => rw [hi] at hu; cases hu
  | some i =>
    rw [hi] at hu
    refine wpAny_bind (wpAny_dictEntries (s := { s with toks := s.toks + 1 }) ho hd (wpAny_pure ?_))
    rw [show es[i]?.map (·.val) = some u from hu]
    exact wpAny_pure ⟨u, rfl, wpAny_pure (kk u s.heap _ stays_refl pu)⟩

theorem FC.strI {n : Int} (h : n.natAbs.log2 < 1920) : FC W (.type "str") [VI n] (VS (Str.ofString (toString n))) := by
  intro A Mu s vs Q E ct mu p k
  match vs, p with
  | [v], p =>
    obtain ⟨t, rfl⟩ := p.1
    exact PySem.P.str_of_int h (k _ s.heap _ stays_refl ⟨_, rfl⟩)
  | [], p => exact p.elim
  | _ :: _ :: _, p => exact p.2.elim

theorem rsize (a : Int) (n : Nat) : Builtin.Range.rangeSize a (a + n) 1 = (n : Int) := by
  rw [rangeSize_one]; split <;> omega
theorem FC.range1 {n : Nat} (hn : n < 100000) : FC W (.type "range") [VI n] (VR 0 n) := by
  intro A Mu s vs Q E ct mu p k
  match vs, p with
  | [v], p =>
    obtain ⟨t, rfl⟩ := p.1
    exact call_range_1 (k _ _ _ (stays_push _) ⟨_, (n : Int), _, _, _, rfl, hid_push mu, small_one (by omega) (by omega) (by omega) (by omega), by simpa using rsize 0 n⟩)
  | [], p => exact p.elim
  | _ :: _ :: _, p => exact p.2.elim
theorem FC.range2 {a : Int} {n : Nat} (hn : n < 100000) (ha : 0 ≤ a) (ha' : a < 100000) : FC W (.type "range") [VI a, VI (a + n)] (VR a n) := by
  intro A Mu s vs Q E ct mu p k
  match vs, p with
  | [v, u], p =>
    obtain ⟨t, rfl⟩ := p.1
    obtain ⟨t', rfl⟩ := p.2.1
    exact call_range_2 (k _ _ _ (stays_push _) ⟨_, (a + n : Int), _, _, _, rfl, hid_push mu, small_one (by omega) (by omega) (by omega) (by omega), rsize a n⟩)
  | [], p => exact p.elim
  | [_], p => exact p.2.elim
  | _ :: _ :: _ :: _, p => exact p.2.2.elim
theorem F2.eqIs {ns ms : List Int} : F2 W (compareOp .Eq) (VL (ns.map VI)) (VL (ms.map VI)) (VB (decide (ns = ms))) := by
  intro A Mu s a b Q E ct mu pa pb k
  obtain ⟨l, its, rfl, hp, x⟩ := VL.isList pa
  obtain ⟨l', its', rfl, hp', x'⟩ := VL.isList pb
  exact eq_intsK hp.isList (vs_ints x) hp'.isList (vs_ints x') (by have := ct.units; have := cLine_is; omega) (k _ s.heap s.toks stays_refl rfl)
theorem vs_strsAre : ∀ {ss : List Str} {h : Heap} {vs : List Value}, VsP (ss.map VS) h vs → StrsAre vs ss
  | [], _, [], _ => .nil
  | n :: ns, h, v :: vs, x => by obtain ⟨t, rfl⟩ := x.1; exact .cons n t (vs_strsAre x.2)
  | [], _, _ :: _, x => x.elim
  | _ :: _, _, [], x => x.elim
theorem ne_lt_idxOf {c : Str} : ∀ {ss : List Str} {j : Nat}, j < ss.idxOf c → ∀ (h : j < ss.length), (ss[j] == c) = false
  | x :: r, j, hj, h => by
    rw [List.idxOf_cons] at hj
    cases hb : (x == c) with
    | true => rw [hb] at hj; cases hj
    | false =>
      cases j with
      | zero => exact hb
      | succ j => rw [hb] at hj; exact ne_lt_idxOf (ss := r) (Nat.lt_of_succ_lt_succ hj) (Nat.lt_of_succ_lt_succ h)
theorem FC.index {ss : List Str} {c : Str} (hc : c ∈ ss) (hl : ss.length ≤ 10000) : FC W (.builtin "list.index") [VL (ss.map VS), VS c] (VI (ss.idxOf c : Nat)) := by
  intro A Mu s vs Q E ct mu p k
  match vs, p with
  | [v, u], p =>
    obtain ⟨a, its, rfl, ⟨n, ho⟩, x⟩ := VL.isList p.1
    obtain ⟨t, rfl⟩ := p.2.1
    have hS := vs_strsAre x
    have hlen : its.length = ss.length := by rw [x.length, List.length_map]
    have hj : ss.idxOf c < ss.length := List.idxOf_lt_length_iff.mpr hc
    have at' : ∀ j (h1 : j < its.length) (h2 : j < ss.length), isStrOf c its[j] = (ss[j] == c) := fun j h1 h2 => by
      obtain ⟨u, hu, t', e⟩ := x.get (i := j) (V := VS ss[j]) (by rw [List.getElem?_map, List.getElem?_eq_getElem h2]; rfl)
      rw [List.getElem?_eq_getElem h1] at hu; cases hu
      rw [e]; rfl
    refine call_meets PySem.F.slot_list_index ⟨_, ho, rfl⟩ PySem.F.entry_list_index (PySem.F.args_list_index_2 _ _)
      (PySem.SeqAt.list_indexAt a its.toArray n none #[] (.str c t) (isStrOf c) (ss.idxOf c) (by simpa [hlen] using hj) (by omega) ?_ ?_) ⟨ho, fun y hy => (eq_isStrOf c t hS y (by simpa using hy)).at _ _, k _ s.heap _ stays_refl ⟨_, rfl⟩⟩
    · show isStrOf c its[ss.idxOf c] = true
      rw [at' _ (by omega) hj]
      simpa using List.getElem_idxOf hj
    · intro j hjs hlt
      show isStrOf c its[j] = false
      rw [at' j (by simpa using hjs) (by omega)]
      exact ne_lt_idxOf hlt _
  | [], p => exact p.elim
  | [_], p => exact p.2.elim
  | _ :: _ :: _ :: _, p => exact p.2.2.elim

theorem VsP.take {h : Heap} : ∀ {Vs : List VP} {vs : List Value} (n : Nat), VsP Vs h vs → VsP (Vs.take n) h (vs.take n)
  | _, _, 0, _ => trivial
  | [], [], _ + 1, _ => trivial
  | V :: Vs, v :: vs, n + 1, x => ⟨x.1, VsP.take n x.2⟩
  | [], _ :: _, _ + 1, x => x.elim
  | _ :: _, [], _ + 1, x => x.elim
theorem PE.sliceTo {value up : Expr} {p pos : Pos} {Vs : List VP} {k : Int} {n : Nat} (hv : PE W env ρ value (VL Vs)) (hu : PE W env ρ up (VI k)) (hk : k = n ∨ (k = -(n : Int) ∧ 1 ≤ n)) (hl : Vs.length ≤ 2000000)
    (ht : ∀ o r, letTemporaryGo value o r = pure () := by intro _ _; rfl) : PE W env ρ (.Subscript value (.Slice none (some up) none p) pos) (VL (Vs.take (if k < 0 then Vs.length - n else n))) := by
  intro A Mu s Q E I kk
  refine wpAny_Subscript_list_slice (hv A Mu s _ _ I fun o h₁ tk₁ k₁ p₁ => ?_) ht
  show wpAny _ A (pure Value.none) _ _ _
  refine wpAny_pure ?_
  show wpAny _ A (eval up env) _ _ _
  refine hu A Mu { s with heap := h₁, toks := tk₁ } _ _ (I.mono k₁) fun u h₂ tk₂ k₂ p₂ => ?_
  obtain ⟨t, rfl⟩ := p₂
  obtain ⟨l, its, rfl, ⟨n₀, ho⟩, x⟩ := p₁
  have ho₂ := k₂ _ _ (hid_le _ _ ho)
  have hlen := x.length
  have mu₂ := ((I.mono k₁).mono k₂).mu
  refine ⟨l, its.toArray, none, some k, rfl, ⟨_, ho₂, rfl, _, rfl⟩, by rw [List.size_toArray, hlen]; exact Nat.le_trans hl (by decide), .none, .int k t, kk _ _ tk₂ (stays_trans k₁ (stays_trans k₂ (stays_trans (stays_push _) (stays_push _)))) ?_⟩
  have e : slicePick its.toArray none (some k) none = (its.take (if k < 0 then Vs.length - n else n)).toArray := by
    rcases hk with rfl | ⟨rfl, h1⟩
    · rw [if_neg (by omega), slicePick_upto']
    · rw [if_pos (by omega), slicePick_butLast _ _ h1, List.size_toArray, hlen]
  rw [e]
  have mu₃ : ∀ a ∈ Mu, ∃ o, (h₂.push { cls := .type "slice", data := .fields #[Value.none, .int k t, .none] }).get? a = some o := fun a ha => let ⟨o, q⟩ := mu₂ a ha; ⟨o, stays_push _ _ _ q⟩
  have hp := hid_push (h := h₂.push { cls := .type "slice", data := .fields #[Value.none, .int k t, .none] }) (Mu := Mu) (o := { cls := .type "list", data := .seq (its.take (if k < 0 then Vs.length - n else n)).toArray }) mu₃ rfl
  rw [Heap.size_push] at hp
  refine ⟨_, _, rfl, ⟨0, hp⟩, VsP.take _ (x.mono (hid_mono fun b o _ q => stays_push _ _ _ (stays_push _ _ _ (k₂ _ _ q))))⟩

theorem F2.addL {Vs Us : List VP} (hl : Vs.length + Us.length ≤ 10000) : F2 W (binaryOp .Add) (VL Vs) (VL Us) (VL (Vs ++ Us)) := by
  intro A Mu s a b Q E ct mu pa pb k
  obtain ⟨l, its, rfl, ⟨n, ho⟩, x⟩ := VL.isList pa
  obtain ⟨l', its', rfl, ⟨n', ho'⟩, x'⟩ := VL.isList pb
  refine PySem.P.add_list ho ho' (k _ _ s.toks (stays_push _) ⟨_, its ++ its', rfl, ⟨0, ?_⟩, VsP.append (x.mono (hid_mono fun b o _ q => stays_push _ _ _ q)) (x'.mono (hid_mono fun b o _ q => stays_push _ _ _ q))⟩) (by simp only [List.size_toArray, x.length, x'.length]; exact Nat.le_trans hl (by decide))
  have := hid_push (h := s.heap) (o := { cls := .type "list", data := .seq (its.toArray ++ its'.toArray) }) mu rfl
  simpa using this
theorem F2.mulL6 {V : VP} : F2 W (binaryOp .Mult) (VL [V]) (VI 6) (VL [V, V, V, V, V, V]) := by
  intro A Mu s a b Q E ct mu pa pb k
  obtain ⟨l, its, rfl, ⟨n₀, ho⟩, x⟩ := VL.isList pa
  obtain ⟨u, rfl⟩ := pb
  match its, x with
  | [v], x =>
    refine wpAny_binaryOp_repeat_ref (T := "list") (U := "int") (by decide) ⟨_, ho, rfl⟩ (fun s' => typeIs_int s' 6 u) noFill_list_mul F.fills_int_mul F.slot_int_rmul repeat_list F.slot_int_index.lookup
      (call_meets F.slot_int_rmul (typeIs_int s 6 u) F.entry_int_rmul (F.args_int_rmul_2 _ _) (int___rmul___int_list 6 u l #[v] n₀)
        ⟨ho, rfl, ⟨_, ho, rfl⟩, call_meets F.slot_list_mul ⟨_, ho, rfl⟩ F.entry_list_mul (F.args_list_mul_2 _ _)
          (AutoListH.list___mul___list_int_3 l #[v] n₀ 6 u (by simp [Builtin.List.listFitsIndex]) (by show ¬ (1 * 6 > (2 ^ 63 - 1) / 8); decide) (by simp [Builtin.List.listTooLong, sizeLine]))
          ⟨ho, k _ _ s.toks (stays_push _) ⟨_, [v, v, v, v, v, v], rfl, ⟨0, hid_push mu rfl⟩, ?_⟩⟩⟩)
    have p : ∀ o, V.p (hideAll (s.heap.push o) Mu) v := fun o => V.mono (hid_mono fun b o' _ q => stays_push o _ _ q) x.1
    exact ⟨p _, p _, p _, p _, p _, p _, trivial⟩
  | [], x => exact x.elim
  | _ :: _ :: _, x => exact x.2.elim

/-- a dict by numbers, read by get -/
noncomputable def VDI (F : Int → Option VP) : VP := ⟨fun h v => ∃ d f, v = .ref d ∧ (d == sysModules) = false ∧ h.MapOf (intKind PG W.w) d f ∧ ∀ k, match F k with | some V => ∃ u, f k = some u ∧ V.p h u | none => f k = none,
  fun st ⟨d, f, e, lo, ⟨o, es, ep, ho, r⟩, hF⟩ => ⟨d, f, e, lo, ⟨o, es, ep, st _ _ ho, r⟩, fun k => by
    have := hF k
    cases q : F k with
    | none => rw [q] at this; exact this
    | some V => rw [q] at this; obtain ⟨u, a, b⟩ := this; exact ⟨u, a, V.mono st b⟩⟩⟩
end
end Mine
-- Pi
namespace Mine
section
variable {M : Model} {A : Around} {E : Value → Shared → Prop} {s : Shared}
theorem upd_keep {h : Heap} {a : Addr} {f : Obj → Obj} {b : Addr} {o : Obj} (hb : b ≠ a) (e : h.get? b = some o) : (h.update a f).get? b = some o := ((Heap.SameBut.update h a f).2 b hb).trans e

structure SkEnv (vs : List Value) (Kp : Nat → Value → Prop) (Srt : List Value → Array Keyed → Prop) (M : Model) (A : Around) : Prop where
  h2 : 2 ≤ vs.length
  h64 : vs.length < 64
  kind : ∀ keys : List Value, keys.length = vs.length → (∀ i u, keys[i]? = some u → Kp i u) → keyKind' keys.toArray = pure oneType'
  run : ∀ keys : List Value, keys.length = vs.length → (∀ i u, keys[i]? = some u → Kp i u) → ∀ (s' : Shared) (E : Value → Shared → Prop), wpS M A E s' sortRuns' (fun _ st' => (arrOf st').Perm (keys.toArray.zip vs.toArray) ∧ failedOf st' = none ∧ Srt keys (arrOf st')) (SortSt.mk' oneType' (keys.toArray.zip vs.toArray) #[] 7 none)
noncomputable def SkOut (vs : List Value) (Kp : Nat → Value → Prop) (Srt : List Value → Array Keyed → Prop) (out : Array Value) : Prop :=
  ∃ (keys : List Value) (xs : Array Keyed), keys.length = vs.length ∧ (∀ i u, keys[i]? = some u → Kp i u) ∧ xs.Perm (keys.toArray.zip vs.toArray) ∧ Srt keys xs ∧ out = xs.map (·.2)

theorem sk_end {vs : List Value} {Kp : Nat → Value → Prop} {Srt : List Value → Array Keyed → Prop} (S : SkEnv vs Kp Srt M A) {keys : List Value} (hl : keys.length = vs.length) (hK : ∀ i u, keys[i]? = some u → Kp i u) {a kS : Addr} {e e1 : Nat} {P : PySem.Fin → Shared → Prop}
    (nk : s.heap.get? kS = some (seqObj "list" keys.toArray e)) (na : s.heap.get? a = some (seqObj "list" #[] e1)) (hka : kS ≠ a)
    (h : ∀ h' out c, (∀ b o, b ≠ kS → b ≠ a → s.heap.get? b = some o → h'.get? b = some o) → h'.get? a = some (seqObj "list" out c) → SkOut vs Kp Srt out → P (.done (.ret .none)) { s with heap := h' }) :
    wpAny M A (ksk_end a false vs.toArray e1 (.ref kS) keys.toArray) P E s := by
  unfold ksk_end
  try dsimp only
  have h2 : ¬ vs.toArray.size < 2 := by rw [List.size_toArray]; have := S.h2; omega
  rw [if_neg h2, if_neg h2]
  show wpAny M A (keyKind' keys.toArray >>= _) P E s
  rw [S.kind keys hl hK]
  refine wpAny_bind (wpAny_pure ?_)
  refine wpAny_bind (wpAny_mono (S.run keys hl hK s E) ?_ fun _ _ e => e)
  rintro ⟨⟨⟩, st'⟩ s' ⟨rfl, hp, hf, hs⟩
  try dsimp only
  have hzs : (arrOf st').size = vs.length := by rw [hp.size_eq, Array.size_zip, List.size_toArray, List.size_toArray, hl, Nat.min_self]
  have na1 : (s'.heap.update kS (Obj.mapSeq fun _ => (#[] : Array Value))).get? a = some (seqObj "list" #[] e1) := upd_keep hka.symm na
  obtain ⟨c2, hc2⟩ : ∃ c2, ((s'.heap.update kS (Obj.mapSeq fun _ => (#[] : Array Value))).update a (Obj.mapSeq fun _ => (arrOf st').map (·.2))).get? a = some (seqObj "list" ((arrOf st').map (·.2)) c2) := ⟨_, get?_update_seq na1 fun _ => (arrOf st').map (·.2)⟩
  unfold ksk_tail
  try dsimp only
  have h64 := S.h64
  refine wpAny_bind (listUpdate_at nk rfl ?_ (by rw [List.size_toArray, hl, sizeLine_eq]; omega) (Nat.zero_le _))
  refine wpAny_bind (wpAny_letGo ?_)
  refine wpAny_bind (seqEpoch_at na1 rfl ?_)
  refine wpAny_bind (listUpdate_at na1 rfl ?_ (Nat.zero_le _) (by simp only [Bool.false_eq_true, if_false, Array.size_map, hzs]; rw [sizeLine_eq]; omega))
  rw [hf]
  simp only [bne_self_eq_false, Bool.false_eq_true, if_false]
  refine wpAny_pure (h _ _ c2 (fun b o h1 h2 e => upd_keep h2 (upd_keep h1 e)) hc2 ⟨keys, arrOf st', hl, hK, hp, hs, rfl⟩)

theorem sk_sort {vs : List Value} {Kp : Nat → Value → Prop} {Srt : List Value → Array Keyed → Prop} (S : SkEnv vs Kp Srt M A) {f : Value} {a : Addr} {n : Nat} {P : PySem.Fin → Shared → Prop} (ho : s.heap.get? a = some (seqObj "list" vs.toArray n))
    (turn : ∀ i v, vs[i]? = some v → ∀ h tk, (∀ b o, b ≠ a → s.heap.get? b = some o → h.get? b = some o) → ∀ (Q E : Value → Shared → Prop), (∀ u h' tk', h.StaysIn h' → Kp i u → Q u { s with heap := h', toks := tk' }) → wpAny M A (call f [v]) Q E { s with heap := h, toks := tk })
    (h : ∀ h' tk out c, (∀ b o, b ≠ a → s.heap.get? b = some o → h'.get? b = some o) → h'.get? a = some (seqObj "list" out c) → SkOut vs Kp Srt out → P (.done (.ret .none)) { s with heap := h', toks := tk }) :
    wpAny M A (ksk_tree a f false) P E s := by
  have ha : a < s.heap.objs.size := Heap.lt_size ho
  have h64 := S.h64
  obtain ⟨e1, ho1⟩ : ∃ e1, (s.heap.update a (Obj.mapSeq fun _ => (#[] : Array Value))).get? a = some (seqObj "list" #[] e1) := ⟨_, get?_update_seq ho fun _ => #[]⟩
  unfold ksk_tree
  refine wpAny_bind (listItems_at ho rfl ?_)
  refine wpAny_bind (listUpdate_at ho rfl ?_ (by rw [List.size_toArray, sizeLine_eq]; omega) (Nat.zero_le _))
  refine wpAny_bind (seqEpoch_at ho1 rfl ?_)
  refine wpAny_bind (wpAny_newTuple ?_ (by show vs.length ≤ _; rw [sizeLine_eq]; omega))
  refine wpAny_bind (wpAny_newList ?_ (Nat.zero_le _))
  refine wpAny_holding ?_
  generalize hH : ((s.heap.update a (Obj.mapSeq fun _ => (#[] : Array Value))).push (seqObj "tuple" vs.toArray 0)) = H
  have hHs : H.objs.size = s.heap.objs.size + 1 := by rw [← hH, size_push', Heap.size_update]
  have hka : H.objs.size ≠ a := by rw [hHs]; exact Nat.ne_of_gt (Nat.lt_succ_of_lt ha)
  have kH : ∀ b o, b ≠ a → s.heap.get? b = some o → H.get? b = some o := fun b o hb e => hH ▸ Heap.get?_push_of_some _ (upd_keep hb e)
  have naH : H.get? a = some (seqObj "list" #[] e1) := hH ▸ Heap.get?_push_of_some _ ho1
  show wpAny M A (ksk_rest a f false vs.toArray e1 (.ref H.objs.size)) P E { s with heap := H.push (seqObj "list" #[] 0) }
  unfold ksk_rest
  refine wpAny_bind (wpAny_rule ?_)
  first
    | rw [List.forIn_toArray]
    | (rw [← Array.forIn_toList]; simp only [List.toList_toArray])
    | rw [← Array.forIn_toList]
  refine wpAny_bind (ksk_fold (fun i s' => ∃ h' tk kA e, s' = { s with heap := h', toks := tk } ∧ (∀ b o, b ≠ a → s.heap.get? b = some o → h'.get? b = some o) ∧ h'.get? H.objs.size = some (seqObj "list" (List.toArray kA) e) ∧ h'.get? a = some (seqObj "list" #[] e1) ∧ kA.length = i ∧ (∀ j u, kA[j]? = some u → Kp j u)) vs 0 _
    ⟨_, _, [], 0, rfl, fun b o hb e => Heap.get?_push_of_some _ (kH b o hb e), Heap.get?_push_size _ rfl, Heap.get?_push_of_some _ naH, rfl, by simp⟩ ?step ?done)
  case step =>
    rintro j x s' hx ⟨h', tk, kA, e, rfl, hk, nk, na, hlen, hK⟩
    simp only [Nat.zero_add] at hlen hK ⊢
    have hj : j < vs.length := (List.getElem?_eq_some_iff.mp hx).1
    refine wpAny_bind (wpAny_attempt (turn j x hx h' tk hk _ _ fun u h₂ tk₂ k₂ hu => ?_))
    try dsimp only
    have nk2 := k₂ _ _ nk
    obtain ⟨c2, hc2⟩ : ∃ c2, (h₂.update H.objs.size (Obj.mapSeq (·.push u))).get? H.objs.size = some (seqObj "list" ((List.toArray kA).push u) c2) := ⟨_, get?_update_seq nk2 (·.push u)⟩
    refine wpAny_bind (listUpdate_at nk2 rfl ?_ (by rw [List.size_toArray, hlen, sizeLine_eq]; omega) (by rw [Array.size_push, List.size_toArray, hlen, sizeLine_eq]; omega))
    refine wpAny_pure ⟨rfl, _, _, kA ++ [u], c2, rfl, fun b o hb eb => ?_, by rw [hc2]; simp, upd_keep hka.symm (k₂ _ _ na), by simp [hlen], fun i w hw => ?_⟩
    · have hbk : b ≠ H.objs.size := fun q => by rw [q, Heap.get?_none_of_le (by rw [hHs]; exact Nat.le_succ _)] at eb; cases eb
      exact upd_keep hbk (k₂ _ _ (hk b o hb eb))
    · by_cases hi : i < kA.length
      · rw [List.getElem?_append_left hi] at hw; exact hK i w hw
      · rw [List.getElem?_append_right (by omega)] at hw
        have : i = j := by
          have : i - kA.length = 0 := by
            rcases Nat.eq_zero_or_pos (i - kA.length) with q | q
            · exact q
            · obtain ⟨m, hm⟩ := Nat.exists_eq_succ_of_ne_zero (Nat.ne_of_gt q); rw [hm] at hw; simp at hw
          omega
        subst this
        rw [show i - kA.length = 0 by omega] at hw
        simp at hw; subst hw; exact hu
  case done =>
    rintro s' ⟨h', tk, kA, e, rfl, hk, nk, na, hlen, hK⟩
    refine wpAny_bind (listItems_at nk rfl ?_)
    exact sk_end (s := { s with heap := h', toks := tk }) S (by simpa using hlen) hK nk na hka fun h₂ out c k₂ ha₂ ho₂ => h h₂ tk out c (fun b o hb eb => k₂ b o (fun q => by rw [q, Heap.get?_none_of_le (by rw [hHs]; exact Nat.le_succ _)] at eb; cases eb) hb (hk b o hb eb)) ha₂ ho₂
end

section
variable {prog : Program} {w : World} {A : Around} {E : Value → Shared → Prop} {s : Shared}
theorem sk_sorted {vs : List Value} {Kp : Nat → Value → Prop} {Srt : List Value → Array Keyed → Prop} {f : Value} (ht : ∀ x, Builtin.«list.sort» ⟨[.ref x], [(Str.ofString "key", f)]⟩ = ksk_tree x f false) (S : SkEnv vs Kp Srt (model prog w) A.in1.in1) {l : Addr} {Q : Value → Shared → Prop} (hl : s.heap.IsList l vs.toArray)
    (turn : ∀ i v, vs[i]? = some v → ∀ h tk, s.heap.StaysIn h → ∀ (Q E : Value → Shared → Prop), (∀ u h' tk', h.StaysIn h' → Kp i u → Q u { s with heap := h', toks := tk' }) → wpAny (model prog w) A.in1.in1 (call f [v]) Q E { s with heap := h, toks := tk })
    (h : ∀ D h' tk out, s.heap.StaysIn h' → s.heap.get? D = none → h'.PlainList D out → SkOut vs Kp Srt out → Q (.ref D) { s with heap := h', toks := tk }) :
    wpAny (model prog w) A (call (.builtin "sorted") [.ref l] [(Str.ofString "key", f)]) Q E s := by
  have h64 := S.h64
  refine call_function_entry_kw kind_sorted plain_sorted entry_sorted (ksk_s1 _ _) ?_
  unfold Builtin.«sorted»
  refine wpAny_bind (m := checkCount "sorted" 1 1 _) (wpAny_pure ?_)
  refine wpAny_bind (collect_list hl ?_ (by rw [sizeLine_eq]; omega))
  refine wpAny_bind (wpAny_newList ?_ (by rw [sizeLine_eq]; omega))
  have hsz : ((s.heap.push (seqObj "list" #[] 0)).update s.heap.objs.size (Obj.mapSeq (· ++ vs.toArray))).objs.size = s.heap.objs.size + 1 := by
    rw [Heap.size_update, size_push']
  have hoL : (((s.heap.push (seqObj "list" #[] 0)).update s.heap.objs.size (Obj.mapSeq (· ++ vs.toArray))).push (seqObj "list" vs.toArray 0)).get? (s.heap.objs.size + 1) = some (seqObj "list" vs.toArray 0) := by
    rw [← hsz]; exact Heap.get?_push_size _ rfl
  have keep : s.heap.StaysIn (((s.heap.push (seqObj "list" #[] 0)).update s.heap.objs.size (Obj.mapSeq (· ++ vs.toArray))).push (seqObj "list" vs.toArray 0)) := fun b o q => by
    have hlt : b < s.heap.objs.size := Heap.lt_size q
    exact Heap.get?_push_of_some _ (upd_keep (Nat.ne_of_lt hlt) (Heap.get?_push_of_some _ q))
  show wpAny _ _ _ _ _ { s with heap := ((s.heap.push (seqObj "list" #[] 0)).update s.heap.objs.size (Obj.mapSeq (· ++ vs.toArray))).push (seqObj "list" vs.toArray 0) }
  rw [hsz]
  refine wpAny_bind (wpAny_holding (wpAny_call_entry_kw slot_list_sort ⟨_, hoL, rfl⟩ entry_list_sort ?body (ksk_l1 _ _)))
  case body =>
    have ht' := ht (s.heap.objs.size + 1)
    show wpAny (model prog w) A.in1.in1 (Builtin.«list.sort» ⟨[.ref (s.heap.objs.size + 1)], [(Str.ofString "key", f)]⟩) _ _ _
    rw [ht']
    have keep' : ∀ h, (∀ b o, b ≠ s.heap.objs.size + 1 → (((s.heap.push (seqObj "list" #[] 0)).update s.heap.objs.size (Obj.mapSeq (· ++ vs.toArray))).push (seqObj "list" vs.toArray 0)).get? b = some o → h.get? b = some o) → s.heap.StaysIn h := fun h hk b o q =>
      hk b o (Nat.ne_of_lt (Nat.lt_succ_of_lt (Heap.lt_size q))) (keep b o q)
    refine sk_sort (s := { s with heap := ((s.heap.push (seqObj "list" #[] 0)).update s.heap.objs.size (Obj.mapSeq (· ++ vs.toArray))).push (seqObj "list" vs.toArray 0) }) S hoL (fun i v hv h₂ tk₂ hk Q' E' k => turn i v hv h₂ tk₂ (keep' h₂ hk) Q' E' k) fun h' tk out c hk ha hout => ⟨_, rfl, ?_⟩
    exact wpAny_pure ⟨_, rfl, h _ h' tk out (keep' h' hk) (Heap.get?_none_of_le (Nat.le_succ _)) ⟨c, ha⟩ hout⟩
end
end Mine
-- Pf
namespace Mine
noncomputable def Own (W : Wd) (env : Env) (b : Addr) : Prop := b = env.locals ∨ (∃ x, env.cells.lookup x = some b) ∨ b ∈ W.hf
structure FS (W : Wd) (g0 : Heap) (A : Around) (env : Env) : Prop where
  X : (KF W.w.params).In g0
  T : Top topProg LZ W.mean W.mg W.mb g0
  call : ∃ dp un gd cn cs L a ccd cl outer base A₀ gB, A = ktrTop dp un gd cn cs L a ccd cl outer ∧ env = envX cn cs L a ccd cl ∧ g0 = hideAll gB W.hf ∧ (∀ b ∈ W.hf, b ∈ outer.filterMap (·.frame)) ∧ Below A₀ base outer gB ∧ A₀.deeper env = A ∧ cs.kind = .function ∧ dp + W.lv ≤ 400 ∧ un + 10 * W.lv ≤ 1000
structure FInv (W : Wd) (g0 : Heap) (A : Around) (env : Env) (Mu : List Addr) (ρ : Rho) (h : Heap) : Prop where
  S : FS W g0 A env
  keep : g0.StaysIn h
  above : g0.objs.size ≤ env.locals
  ns : ∃ m, h.Ns env.locals m
  lm : env.locals ∈ Mu
  mu : ∀ a ∈ Mu, g0.get? a = none ∧ ∃ o, h.get? a = some o
  cel : ∀ x c, env.cells.lookup x = some c → c ∈ Mu ∧ ∃ v, h.IsCell c v
  apart : ∀ x y c, env.cells.lookup x = some c → env.cells.lookup y = some c → x = y
  vars : ∀ p ∈ ρ, ∃ v, Look env h p.1 v ∧ p.2.p (hideAll h Mu) v
  hfm : ∀ b ∈ W.hf, b ∈ Mu
  fr : ∀ b ∈ W.hf, ∃ o sl, W.ho b = some o ∧ h.get? b = some { o with slots := sl } ∧ ∀ vs, o.data ≠ .fields vs
  hap : env.locals ∉ W.hf ∧ ∀ x c, env.cells.lookup x = some c → c ∉ W.hf
  sa : W.st = true → ∀ b ∈ frsA A, b = env.locals ∨ b ∈ W.hf
section
variable {W : Wd} {g0 : Heap} {A : Around} {env : Env} {Mu : List Addr} {ρ ρ' : Rho} {h h' : Heap}
theorem funFrames_to {h h' base : Heap} : ∀ {l : List Env}, h.FunFrames base l → (∀ L ∈ l.filterMap (·.frame), ∀ o, h.get? L = some o → (∀ vs, o.data ≠ .fields vs) → ∃ o', h'.get? L = some o' ∧ ∀ vs, o'.data ≠ .fields vs) → h'.FunFrames base l
  | [], _, _ => trivial
  | env :: rest, ⟨hk, ⟨L, o, hf, hn, ho, hd⟩, hr⟩, k => by
    have hL : L ∈ (env :: rest).filterMap (·.frame) := by rw [List.filterMap_cons, hf]; exact .head _
    obtain ⟨o', ho', hd'⟩ := k L hL o ho hd
    exact ⟨hk, ⟨L, o', hf, hn, ho', hd'⟩, funFrames_to hr fun b hb => k b (by rw [List.filterMap_cons, hf]; exact .tail _ hb)⟩
theorem FInv.inv (I : FInv W g0 A env Mu ρ h) : Inv W A env Mu ρ h := by
  obtain ⟨dp, un, gd, cn, cs, L, a, ccd, cl, outer, base, A₀, gB, rfl, rfl, hg, hsub, B, hd, hk, h1, h2⟩ := I.S.call
  obtain ⟨m, hns⟩ := I.ns
  have kB : ∀ b o, b ∉ W.hf → gB.get? b = some o → h.get? b = some o := fun b o hb e => I.keep b o (hg ▸ hideAll_get _ e hb)
  have st : base.StaysIn h := fun b o e => kB b o (fun q => by rw [(B.frames.mem (hsub b q)).1] at e; cases e) (B.stays b o e)
  have hnew : base.get? L = none := by
    cases hq : base.get? L with
    | none => rfl
    | some o =>
      have h3 := Heap.lt_size (B.stays L o hq)
      have h4 : g0.objs.size ≤ L := I.above
      rw [hg, hideAll_size] at h4
      exact absurd (Nat.lt_of_lt_of_le h3 h4) (Nat.lt_irrefl _)
  refine ⟨⟨I.S.X.keeps I.keep, I.S.T.keeps I.keep, dp, un, gd, cn, cs, L, a, ccd, cl, outer, base, rfl, ?_, hk, h1, h2⟩, hk, rfl, rfl, fun a ha => (I.mu a ha).2, fun x c e => (I.mu c (I.cel x c e).1).2, I.vars, fun a ha => sta_of I.S.X (I.mu a ha).1⟩
  have := (⟨Around.frames_deeper B.stack, st, .cons (by rw [hk]; decide) rfl hns hnew (funFrames_to B.frames fun b _ o e hd' => by
    by_cases hb : b ∈ W.hf
    · obtain ⟨o', sl, _, e', q⟩ := I.fr b hb; exact ⟨_, e', q⟩
    · exact ⟨o, kB b o hb e, hd'⟩)⟩ : Below (A₀.deeper (envX cn cs L a ccd cl)) base (envX cn cs L a ccd cl :: outer) h)
  rw [hd] at this; exact this
noncomputable def FrK (W : Wd) (h : Heap) : Prop := ∀ b ∈ W.hf, ∃ o sl, W.ho b = some o ∧ h.get? b = some { o with slots := sl }
theorem FInv.frK (I : FInv W g0 A env Mu ρ h) : FrK W h := fun b hb => let ⟨o, sl, z, e, _⟩ := I.fr b hb; ⟨o, sl, z, e⟩
theorem FInv.ownM (I : FInv W g0 A env Mu ρ h) {b : Addr} (q : Own W env b) : b ∈ Mu := by
  rcases q with rfl | ⟨x, e⟩ | q
  · exact I.lm
  · exact (I.cel x b e).1
  · exact I.hfm b q
theorem FInv.mono (I : FInv W g0 A env Mu ρ h) (k : h.StaysIn h') : FInv W g0 A env Mu ρ h' :=
  ⟨I.S, stays_trans I.keep k, I.above, let ⟨m, e⟩ := I.ns; ⟨m, e.keeps k⟩, I.lm, fun a ha => let ⟨e, o, q⟩ := I.mu a ha; ⟨e, o, k _ _ q⟩, fun x c e => let ⟨q, v, u⟩ := I.cel x c e; ⟨q, v, u.keeps k⟩, I.apart,
    fun p hp => let ⟨v, l, q⟩ := I.vars p hp; ⟨v, l.mono k, p.2.mono (hid_mono fun b o _ e => k b o e) q⟩, I.hfm, fun b hb => let ⟨o, sl, z0, e, q⟩ := I.fr b hb; ⟨o, sl, z0, k _ _ e, q⟩, I.hap, I.sa⟩
/-- objects that are mutable, but no frame and no cell, have changed -/
theorem FInv.off {Ch : List Addr} (I : FInv W g0 A env Mu ρ h) (k : ∀ b o, b ∉ Ch → h.get? b = some o → h'.get? b = some o) (hP : ∀ P ∈ Ch, P ∈ Mu ∧ ¬ Own W env P ∧ ∃ o, h'.get? P = some o) : FInv W g0 A env Mu ρ h' := by
  have hL : env.locals ∉ Ch := fun q => (hP _ q).2.1 (.inl rfl)
  have hc : ∀ x c, env.cells.lookup x = some c → c ∉ Ch := fun x c e q => (hP _ q).2.1 (.inr (.inl ⟨x, e⟩))
  have hns : ∀ m, h.Ns env.locals m → h'.Ns env.locals m := fun m e => e.at' fun o q => k _ o hL q
  have hcl : ∀ x c v, env.cells.lookup x = some c → h.IsCell c v → h'.IsCell c v := fun x c v e ⟨o, q, r⟩ => ⟨o, k _ _ (hc x c e) q, r⟩
  refine ⟨I.S, fun b o e => k b o (fun z => by rw [(I.mu b (hP b z).1).1] at e; cases e) (I.keep b o e), I.above, let ⟨m, e⟩ := I.ns; ⟨m, hns m e⟩, I.lm, fun a ha => ⟨(I.mu a ha).1, ?_⟩, fun x c e => let ⟨q, v, u⟩ := I.cel x c e; ⟨q, v, hcl x c v e u⟩, I.apart, fun p hp => ?_, I.hfm, fun b hb => let ⟨o, sl, z0, e, q⟩ := I.fr b hb; ⟨o, sl, z0, k _ _ (fun z => (hP _ z).2.1 (.inr (.inr hb))) e, q⟩, I.hap, I.sa⟩
  · by_cases z : a ∈ Ch
    · exact (hP a z).2.2
    · obtain ⟨_, o, q⟩ := I.mu a ha; exact ⟨o, k _ _ z q⟩
  · obtain ⟨v, l, q⟩ := I.vars p hp
    refine ⟨v, ?_, p.2.mono (hid_mono fun b o hb e => k b o (fun z => hb (hP b z).1) e) q⟩
    rcases l with ⟨e, m, hn, hv⟩ | ⟨e, c, hx, hv⟩
    · exact .inl ⟨e, m, hns m hn, hv⟩
    · exact .inr ⟨e, c, hx, hcl _ _ _ hx hv⟩
/-- objects that were hidden and are of no more use have changed or gone -/
theorem FInv.drop {Ch Mu' : List Addr} (I : FInv W g0 A env Mu ρ h) (k : ∀ b o, b ∉ Ch → h.get? b = some o → h'.get? b = some o) (hP : ∀ P ∈ Ch, P ∈ Mu ∧ ¬ Own W env P) (hs : ∀ a ∈ Mu', a ∈ Mu ∧ a ∉ Ch) (hO : ∀ {b}, Own W env b → b ∈ Mu') : FInv W g0 A env Mu' ρ h' := by
  have hL : env.locals ∉ Ch := fun q => (hP _ q).2 (.inl rfl)
  have hc : ∀ x c, env.cells.lookup x = some c → c ∉ Ch := fun x c e q => (hP _ q).2 (.inr (.inl ⟨x, e⟩))
  have hns : ∀ m, h.Ns env.locals m → h'.Ns env.locals m := fun m e => e.at' fun o q => k _ o hL q
  have hcl : ∀ x c v, env.cells.lookup x = some c → h.IsCell c v → h'.IsCell c v := fun x c v e ⟨o, q, r⟩ => ⟨o, k _ _ (hc x c e) q, r⟩
  refine ⟨I.S, fun b o e => k b o (fun z => by rw [(I.mu b (hP b z).1).1] at e; cases e) (I.keep b o e), I.above, let ⟨m, e⟩ := I.ns; ⟨m, hns m e⟩, hO (.inl rfl), fun a ha => ⟨(I.mu a (hs a ha).1).1, let ⟨_, o, q⟩ := I.mu a (hs a ha).1; ⟨o, k _ _ (hs a ha).2 q⟩⟩, fun x c e => let ⟨q, v, u⟩ := I.cel x c e; ⟨hO (.inr (.inl ⟨x, e⟩)), v, hcl x c v e u⟩, I.apart, fun p hp => ?_, fun b hb => hO (.inr (.inr hb)), fun b hb => let ⟨o, sl, z0, e, q⟩ := I.fr b hb; ⟨o, sl, z0, k _ _ (fun z => (hP _ z).2 (.inr (.inr hb))) e, q⟩, I.hap, I.sa⟩
  obtain ⟨v, l, q⟩ := I.vars p hp
  refine ⟨v, ?_, p.2.mono (stays_trans (hid_mono fun b o hb e => k b o (fun z => hb (hP b z).1) e) (hid_sub fun a ha => (hs a ha).1)) q⟩
  rcases l with ⟨e, m, hn, hv⟩ | ⟨e, c, hx, hv⟩
  · exact .inl ⟨e, m, hns m hn, hv⟩
  · exact .inr ⟨e, c, hx, hcl _ _ _ hx hv⟩
theorem FInv.sub (I : FInv W g0 A env Mu ρ h) (hs : ∀ p ∈ ρ', p ∈ ρ) : FInv W g0 A env Mu ρ' h := ⟨I.S, I.keep, I.above, I.ns, I.lm, I.mu, I.cel, I.apart, fun p hp => I.vars p (hs p hp), I.hfm, I.fr, I.hap, I.sa⟩
theorem FInv.bare {Mu' : List Addr} (I : FInv W g0 A env Mu ρ h) (hs : ∀ a ∈ Mu', a ∈ Mu) (hO : ∀ {b}, Own W env b → b ∈ Mu') : FInv W g0 A env Mu' ρ h :=
  ⟨I.S, I.keep, I.above, I.ns, hO (.inl rfl), fun a ha => I.mu a (hs a ha), fun x c e => ⟨hO (.inr (.inl ⟨x, e⟩)), (I.cel x c e).2⟩, I.apart, fun p hp => let ⟨v, l, q⟩ := I.vars p hp; ⟨v, l, p.2.mono (hid_sub hs) q⟩, fun b hb => hO (.inr (.inr hb)), I.fr, I.hap, I.sa⟩
/-- more that is hidden: new addresses -/
theorem FInv.more {Mu' : List Addr} (I : FInv W g0 A env Mu ρ h) (k : h.StaysIn h') (hn : ∀ a ∈ Mu', a ∈ Mu ∨ (h.get? a = none ∧ ∃ o, h'.get? a = some o)) (hs : ∀ a ∈ Mu, a ∈ Mu') : FInv W g0 A env Mu' ρ h' :=
  ⟨I.S, stays_trans I.keep k, I.above, let ⟨m, e⟩ := I.ns; ⟨m, e.keeps k⟩, hs _ I.lm, fun a ha => (hn a ha).elim (fun q => let ⟨e, o, z⟩ := I.mu a q; ⟨e, o, k _ _ z⟩) (fun q => ⟨(by
      cases e : g0.get? a with
      | none => rfl
      | some o => have := I.keep _ _ e; rw [q.1] at this; cases this), q.2⟩), fun x c e => let ⟨q, v, u⟩ := I.cel x c e; ⟨hs _ q, v, u.keeps k⟩, I.apart,
    fun p hp => let ⟨v, l, q⟩ := I.vars p hp; ⟨v, l.mono k, p.2.mono (hid_new (fun b o _ e => k b o e) fun a ha => (hn a ha).elim .inl fun q => .inr q.1) q⟩, fun b hb => hs _ (I.hfm b hb), fun b hb => let ⟨o, sl, z0, e, q⟩ := I.fr b hb; ⟨o, sl, z0, k _ _ e, q⟩, I.hap, I.sa⟩

theorem FInv.kf (I : FInv W g0 A env Mu ρ h) : env.scope.kind = .function := I.inv.kf
theorem FInv.store {s : Shared} {x : Str} {V : VP} {v : Value} {Q : Unit → Shared → Prop} {E : Value → Shared → Prop} (I : FInv W g0 A env Mu ρ s.heap) (hk : env.kindOf x = some .local ∨ (env.kindOf x = some .cell ∧ (env.cells.lookup x).isSome = true)) (hv : V.p (hideAll s.heap Mu) v)
    (hρ : ∀ p ∈ ρ', p = (x, V) ∨ (p ∈ ρ ∧ p.1 ≠ x)) (k : ∀ h' tk, (∀ b o, ¬ Own W env b → s.heap.get? b = some o → h'.get? b = some o) → FInv W g0 A env Mu ρ' h' → Q () { s with heap := h', toks := tk }) :
    wpAny (model PG W.w) A (storeName env x v) Q E s := by
  obtain ⟨m, hns⟩ := I.ns
  rcases hk with hl | ⟨hl, hc⟩
  · refine wpAny_storeName_local hl hns (fun h' hn' hs' => ?_) (by rw [I.kf]; rfl)
    have kp : ∀ b o, b ≠ env.locals → s.heap.get? b = some o → h'.get? b = some o := fun b o hb e => hs'.extBut b o hb e
    have cne : ∀ c w, s.heap.IsCell c w → c ≠ env.locals := fun c w ⟨o, e, hd⟩ q => by
      obtain ⟨o', es, ep, e', hd', _⟩ := hns
      rw [q, e'] at e; cases e; rw [hd] at hd'; cases hd'
    refine k h' _ (fun b o hb e => kp b o (fun q => hb (.inl q)) e) ⟨I.S, fun b o e => kp b o (fun q => by rw [q, (I.mu _ I.lm).1] at e; cases e) (I.keep b o e), I.above, ⟨_, hn'⟩, I.lm, fun a ha => ⟨(I.mu a ha).1, ?_⟩,
      fun y c e => let ⟨q, w, u⟩ := I.cel y c e; ⟨q, w, let ⟨o, z, r⟩ := u; ⟨o, kp _ _ (cne c w u) z, r⟩⟩, I.apart, fun p hp => ?_, I.hfm, fun b hb => let ⟨o, sl, z0, e, q⟩ := I.fr b hb; ⟨o, sl, z0, kp _ _ (fun z => I.hap.1 (z ▸ hb)) e, q⟩, I.hap, I.sa⟩
    · by_cases z : a = env.locals
      · obtain ⟨o, _, _, e, _⟩ := hn'; exact ⟨o, z ▸ e⟩
      · obtain ⟨_, o, e⟩ := I.mu a ha; exact ⟨o, kp _ _ z e⟩
    · have hm : (hideAll s.heap Mu).StaysIn (hideAll h' Mu) := hid_mono fun b o hb e => kp b o (fun q => hb (q ▸ I.lm)) e
      rcases hρ p hp with rfl | ⟨hp, hne⟩
      · exact ⟨v, .inl ⟨hl, _, hn', if_pos rfl⟩, V.mono hm hv⟩
      · obtain ⟨u, l, q⟩ := I.vars p hp
        refine ⟨u, ?_, p.2.mono hm q⟩
        rcases l with ⟨e, m₀, hm₀, hu⟩ | ⟨e, c, hx, hu⟩
        · exact .inl ⟨e, _, hn', by rw [if_neg hne, ns_unique hns hm₀]; exact hu⟩
        · exact .inr ⟨e, c, hx, let ⟨o, z, r⟩ := hu; ⟨o, kp _ _ (cne c _ hu) z, r⟩⟩
  · obtain ⟨c, hc⟩ := Option.isSome_iff_exists.mp hc
    obtain ⟨hcM, v₀, hv₀⟩ := I.cel x c hc
    refine wpAny_storeName_cell I.kf hl hc hv₀ fun h' hc' hs' => ?_
    have kp : ∀ b o, b ≠ c → s.heap.get? b = some o → h'.get? b = some o := fun b o hb e => hs'.extBut b o hb e
    have hLc : env.locals ≠ c := fun q => by
      obtain ⟨o, e, hd⟩ := hv₀
      obtain ⟨o', es, ep, e', hd', _⟩ := hns
      rw [q, e] at e'; cases e'; rw [hd] at hd'; cases hd'
    have hns' := hns.sameBut hs' hLc
    have hcells : ∀ y d w, env.cells.lookup y = some d → y ≠ x → s.heap.IsCell d w → h'.IsCell d w := fun y d w e hy ⟨o, z, r⟩ => ⟨o, kp _ _ (fun q => hy (I.apart y x c (q ▸ e) hc)) z, r⟩
    refine k h' s.toks (fun b o hb e => kp b o (fun q => hb (.inr (.inl ⟨x, q ▸ hc⟩))) e) ⟨I.S, fun b o e => kp b o (fun q => by rw [q, (I.mu _ hcM).1] at e; cases e) (I.keep b o e), I.above, ⟨_, hns'⟩, I.lm, fun a ha => ⟨(I.mu a ha).1, ?_⟩,
      fun y d e => ⟨(I.cel y d e).1, ?_⟩, I.apart, fun p hp => ?_, I.hfm, fun b hb => let ⟨o, sl, z0, e, q⟩ := I.fr b hb; ⟨o, sl, z0, kp _ _ (fun z => I.hap.2 _ _ hc (z ▸ hb)) e, q⟩, I.hap, I.sa⟩
    · by_cases z : a = c
      · obtain ⟨o, e, _⟩ := hc'; exact ⟨o, z ▸ e⟩
      · obtain ⟨_, o, e⟩ := I.mu a ha; exact ⟨o, kp _ _ z e⟩
    · by_cases z : y = x
      · rw [z, hc] at e; cases e; exact ⟨_, hc'⟩
      · obtain ⟨_, w, u⟩ := I.cel y d e; exact ⟨w, hcells y d w e z u⟩
    · have hm : (hideAll s.heap Mu).StaysIn (hideAll h' Mu) := hid_mono fun b o hb e => kp b o (fun q => hb (q ▸ hcM)) e
      rcases hρ p hp with rfl | ⟨hp, hne⟩
      · exact ⟨v, .inr ⟨.inl hl, c, hc, hc'⟩, V.mono hm hv⟩
      · obtain ⟨u, l, q⟩ := I.vars p hp
        refine ⟨u, ?_, p.2.mono hm q⟩
        rcases l with ⟨e, m₀, hm₀, hu⟩ | ⟨e, d, hx, hu⟩
        · exact .inl ⟨e, _, hns', by rw [ns_unique hns hm₀]; exact hu⟩
        · exact .inr ⟨e, d, hx, hcells _ _ _ hx hne hu⟩
end

/-- statements -/
noncomputable def PX (W : Wd) (env : Env) (st : Stmt) (ρ ρ' : Rho) : Prop := ∀ (g0 : Heap) (A : Around) (Mu : List Addr) (s : Shared) (Q : Flow → Shared → Prop) (E : Value → Shared → Prop), FInv W g0 A env Mu ρ s.heap →
  (∀ h' tk, (∀ b o, ¬ Own W env b → s.heap.get? b = some o → h'.get? b = some o) → FInv W g0 A env Mu ρ' h' → Q .next { s with heap := h', toks := tk }) → wpAny (model PG W.w) A (exec st env) Q E s
noncomputable def PS (W : Wd) (env : Env) (sts : List Stmt) (ρ ρ' : Rho) : Prop := ∀ (g0 : Heap) (A : Around) (Mu : List Addr) (s : Shared) (Q : Flow → Shared → Prop) (E : Value → Shared → Prop), FInv W g0 A env Mu ρ s.heap →
  (∀ h' tk, (∀ b o, ¬ Own W env b → s.heap.get? b = some o → h'.get? b = some o) → FInv W g0 A env Mu ρ' h' → Q .next { s with heap := h', toks := tk }) → wpAny (model PG W.w) A (execs sts env) Q E s
section
variable {W : Wd} {env : Env} {ρ ρ' ρ'' : Rho}
theorem PS.nil : PS W env [] ρ ρ := fun g0 A Mu s Q E I k => wpAny_execs_nil (k s.heap s.toks (fun _ _ _ e => e) I)
theorem PS.cons {st : Stmt} {sts : List Stmt} (h : PX W env st ρ ρ') (hr : PS W env sts ρ' ρ'') : PS W env (st :: sts) ρ ρ'' := fun g0 A Mu s Q E I k =>
  wpAny_execs_cons (h g0 A Mu s _ _ I fun h' tk k' I' => hr g0 A Mu { s with heap := h', toks := tk } _ _ I' fun h₂ tk₂ k₂ I₂ => k h₂ tk₂ (fun b o hb e => k₂ b o hb (k' b o hb e)) I₂)
noncomputable abbrev Kd (env : Env) (x : Str) : Prop := env.kindOf x = some .local ∨ (env.kindOf x = some .cell ∧ (env.cells.lookup x).isSome = true)
theorem PX.assign {x : Str} {px pos : Pos} {e : Expr} {V : VP} (he : PE W env ρ e V) (hk : Kd env x) (hρ : ∀ p ∈ ρ', p = (x, V) ∨ (p ∈ ρ ∧ p.1 ≠ x)) (hs : swapsWith e (some (.Name x px)) pos.line env = pure false := by rfl) : PX W env (.Assign [.Name x px] e pos) ρ ρ' := fun g0 A Mu s Q E I k =>
  wpAny_Assign_Name (he A Mu s _ _ I.inv fun v h₁ tk₁ k₁ p₁ => (I.mono k₁).store (s := { s with heap := h₁, toks := tk₁ }) hk p₁ hρ fun h₂ tk₂ k₂ I₂ => k h₂ tk₂ (fun b o hb e => k₂ b o hb (k₁ b o e)) I₂) hs
theorem PX.aug {x : Str} {px pos : Pos} {op : Operator} {e : Expr} {U V V' : VP} (hx : (x, U) ∈ ρ) (hk : env.kindOf x = some .local) (he : PE W env ρ e V) (hop : F2 W (inplaceOp op) U V V') (hρ : ∀ p ∈ ρ', p = (x, V') ∨ (p ∈ ρ ∧ p.1 ≠ x)) : PX W env (.AugAssign (.Name x px) op e pos) ρ ρ' := fun g0 A Mu s Q E I k =>
  wpAny_AugAssign_Name (by
    obtain ⟨u, l, q⟩ := I.vars _ hx
    rcases l with ⟨_, m, hns, hu⟩ | ⟨e | e, _⟩
    · refine wpAny_loadName_local I.kf hk hns hu ?_
      refine he A Mu s _ _ I.inv fun v h₁ tk₁ k₁ p₁ => ?_
      refine hop A Mu { s with heap := h₁, toks := tk₁ } u v _ _ (I.mono k₁).inv.ct (I.mono k₁).inv.mu (U.mono (hid_mono fun b o _ e => k₁ b o e) q) p₁ fun r h₂ tk₂ k₂ p₂ => ?_
      exact ((I.mono k₁).mono k₂).store (s := { s with heap := h₂, toks := tk₂ }) (.inl hk) p₂ hρ fun h₃ tk₃ k₃ I₃ => k h₃ tk₃ (fun b o hb e => k₃ b o hb (k₂ b o (k₁ b o e))) I₃
    · have e' : some NameKind.local = some NameKind.cell := hk.symm.trans e
      cases e'
    · have e' : some NameKind.local = some NameKind.free := hk.symm.trans e
      cases e')
theorem PX.ite {test : Expr} {body orelse : List Stmt} {pos : Pos} {b : Bool} (ht : PT W env ρ test b) (h1 : b = true → PS W env body ρ ρ') (h2 : b = false → PS W env orelse ρ ρ') : PX W env (.If test body orelse pos) ρ ρ' := fun g0 A Mu s Q E I k =>
  wpAny_If (ht A Mu s _ _ I.inv fun h₁ tk₁ k₁ => by
    cases b with
    | true => exact h1 rfl g0 A Mu { s with heap := h₁, toks := tk₁ } Q E (I.mono k₁) fun h₂ tk₂ k₂ I₂ => k h₂ tk₂ (fun b o hb e => k₂ b o hb (k₁ b o e)) I₂
    | false => exact h2 rfl g0 A Mu { s with heap := h₁, toks := tk₁ } Q E (I.mono k₁) fun h₂ tk₂ k₂ I₂ => k h₂ tk₂ (fun b o hb e => k₂ b o hb (k₁ b o e)) I₂)
theorem PX.weak {st : Stmt} (h : PX W env st ρ ρ') (hs : ∀ p ∈ ρ'', p ∈ ρ') : PX W env st ρ ρ'' := fun g0 A Mu s Q E I k => h g0 A Mu s Q E I fun h' tk k' I' => k h' tk k' (I'.sub hs)
theorem PS.weak {sts : List Stmt} (h : PS W env sts ρ ρ') (hs : ∀ p ∈ ρ'', p ∈ ρ') : PS W env sts ρ ρ'' := fun g0 A Mu s Q E I k => h g0 A Mu s Q E I fun h' tk k' I' => k h' tk k' (I'.sub hs)

theorem FInv.pin {g0 : Heap} {A : Around} {Mu : List Addr} {h : Heap} (I : FInv W g0 A env Mu ρ h) {b : Addr} (hb : h.get? b = none) : ¬ Own W env b := fun q => by
  obtain ⟨_, o, e⟩ := I.mu _ (I.ownM q); rw [hb] at e; cases e

/-- a comprehension stored in a local name -/
theorem PX.assignComp {y : Str} {py cpos : Pos} {ρc : Rho} {elt target iter : Expr} {ifs : List Expr} {rest : List Comprehension} {scope : Scope} {pos : Pos} {body : Addr → Addr → Sem Fin → Sem Fin} {n : Nat} {xs xs' : List Str} {B : Nat → Rho} {t : Nat → Bool} {Z : Nat → List VP}
    (hfree : ∀ y ∈ scope.names, y.2 = .free → (env.cells.lookup y.1).isSome = true) (hkind : scope.kind = .function) (hnc : ∀ y ∈ scope.names, y.2 ≠ .cell) (hnames : ∀ y ∈ scope.names, y.2 = .local → scope.names.lookup y.1 = some .local)
    (hloc : ∀ x ∈ xs, scope.names.lookup x = some .local)
    (hes : ESrc W env ρ iter target n xs B)
    (hcap : ∀ p ∈ ρc, p ∈ ρ ∧ (p.1, NameKind.free) ∈ scope.names ∧ (env.kindOf p.1 ≠ some .local) ∧ ((relabel scope env).names.lookup p.1 = some .cell ∨ (relabel scope env).names.lookup p.1 = some .free))
    (hT : ∀ I D C, compTurn (.ListComp elt (⟨target, iter, ifs, 0⟩ :: rest) scope pos) 0 (.ref I) (.ref D) (compEnvC scope (clOf env scope.names) C env) = turnTree (.ListComp elt (⟨target, iter, ifs, 0⟩ :: rest) scope pos) target iter ifs 0 (.ref I) (.ref D) (compEnvC scope (clOf env scope.names) C env) (body D C))
    (htest : ∀ C i, i < n → PTs W (compEnvC scope (clOf env scope.names) C env) (B i ++ ρc) ifs (t i))
    (hst : ∀ A g D C i, i < n → t i = true → Ct W A g → (∀ x c, (clOf env scope.names).lookup x = some c → ∃ o, g.get? c = some o) → g.get? D = none → g.get? C = none → D ≠ C → Stage W A g (compEnvC scope (clOf env scope.names) C env) D (body D C) xs' (B i ++ ρc) (Z i))
    (hρ : ∀ p ∈ ρc, p.1 ∉ xs ∧ p.1 ∉ xs') (hsz : (flat t Z n).length ≤ 10000)
    (hk : Kd env y) (hρ' : ∀ p ∈ ρ', p = (y, VL (flat t Z n)) ∨ (p ∈ ρ ∧ p.1 ≠ y))
    (hsw : swapsWith (.ListComp elt (⟨target, iter, ifs, 0⟩ :: rest) scope pos) (some (.Name y py)) cpos.line env = pure true := by rfl)
    (hs : ∀ x, foldedSetIterable iter env x = pure x := by intro _; rfl) :
    PX W env (.Assign [.Name y py] (.ListComp elt (⟨target, iter, ifs, 0⟩ :: rest) scope pos) cpos) ρ ρ' := by
  intro g0 A Mu s Q E I kk
  rw [exec_Assign_Name_used _ _ _ _ hsw]
  refine wpAny_bind (wpAny_standAt (wpAny_bind ?_))
  show wpAny _ A (do let _ ← comprehension (.ListComp elt (⟨target, iter, ifs, 0⟩ :: rest) scope pos) scope env _ (newList []) false (eval iter env) (some (PySem.assign (.Name y py) env))) _ _ s
  refine wpAny_bind (wpAny_mono (wpAny_comprehension_free (use := some (PySem.assign (.Name y py) env)) (Q := fun _ s' => Q .next s') rfl hs (closureFor_eq hfree) hkind hnames
    (comp_core (RR := fun acc C => compPost (model PG W.w) A E (some (PySem.assign (.Name y py) env)) (fun _ s' => Q .next s') acc C) hfree hkind hnc hnames hloc hes hcap hT htest hst hρ hsz I.inv fun D C h₄ tk₄ m₄ zs hD hC hDC k₄ hl₄ hz₄ hn₄ => ?_)) (fun _ s' hq => wpAny_pure (wpAny_pure hq)) fun _ _ e => e)
  show wpAny _ A (PySem.assign (.Name y py) env (.ref D)) _ _ _
  have exC : ∃ o, h₄.get? C = some o := let ⟨o, _, _, e, _⟩ := hn₄; ⟨o, e⟩
  have I₄ : FInv W g0 A env (C :: Mu) ρ h₄ := I.more k₄ (fun a ha => by
    rcases List.mem_cons.mp ha with rfl | ha
    · exact .inr ⟨hC, exC⟩
    · exact .inl ha) fun a ha => .tail _ ha
  have hDM : D ∉ C :: Mu := fun q => by
    rcases List.mem_cons.mp q with rfl | q
    · exact hDC rfl
    · obtain ⟨_, o, e⟩ := I.mu D q; rw [hD] at e; cases e
  refine wpAny_assign_Name (I₄.store (s := { s with heap := h₄, toks := tk₄ }) (ρ' := ρ') (V := VL (flat t Z n)) hk ⟨D, zs, rfl, hl₄.at fun o e => hideAll_get _ e hDM, hz₄⟩ hρ' fun h₅ tk₅ k₅ I₅ => ?_)
  have hCo : ¬ Own W env C := I.pin hC
  have hn₅ : h₅.Ns C m₄ := hn₄.at' fun o e => k₅ _ o hCo e
  refine ⟨m₄, hn₅, fun h₆ hs₆ => ?_⟩
  have hCM : C ∉ Mu := fun q => by obtain ⟨_, o, e⟩ := I.mu C q; rw [hC] at e; cases e
  have I₆ : FInv W g0 A env Mu ρ' h₆ := I₅.drop (Ch := [C]) (fun b o hb e => hs₆.extBut b o (fun q => hb (q ▸ .head _)) e) (fun P hP => by
    cases List.mem_singleton.mp hP
    exact ⟨.head _, hCo⟩) (fun a ha => ⟨.tail _ ha, fun q => hCM (List.mem_singleton.mp q ▸ ha)⟩) I.ownM
  refine kk h₆ tk₅ (fun b o hb e => hs₆.extBut b o (fun q => by rw [q, hC] at e; cases e) (k₅ b o hb (k₄ b o e))) I₆
end
end Mine
-- Pj
namespace Mine
/-- iterators by their values -/
noncomputable def WSrc (W : Wd) (V : VP) (n : Nat) (U : Nat → VP) : Prop :=
  ∀ (A : Around) (Mu : List Addr) (s : Shared) (x : Value) (Q E : Value → Shared → Prop), Ct W A s.heap → (∀ a ∈ Mu, ∃ o, s.heap.get? a = some o) → V.p (hideAll s.heap Mu) x →
    (∀ (I : Addr) h' tk fp wr (P : Nat → Value → Prop) (St : Nat → Heap → Prop), s.heap.StaysIn h' → (∀ a ∈ wr, s.heap.get? a = none ∧ ∃ o, h'.get? a = some o) → (∀ a ∈ fp, a ∉ Mu ∧ a < h'.objs.size) → St 0 h' →
      Walks PG W.w A I fp wr n P St → (∀ i h, St i h → ∀ a ∈ fp, ∃ o, h.get? a = some o) → (∀ i v, i < n → P i v → (U i).p (hideAll s.heap Mu) v) → Q (.ref I) { s with heap := h', toks := tk }) →
    wpAny (model PG W.w) A (pyIter x) Q E s
theorem WSrc.list {W : Wd} {Vs : List VP} : WSrc W (VL Vs) Vs.length (vAt Vs) := by
  intro A Mu s v Q E ct mu p k
  obtain ⟨a, items, rfl, hl, hv⟩ := p
  have hl' : s.heap.IsList a items.toArray := (hl.at fun o e => hid_le _ _ e : s.heap.PlainList a items.toArray).isList
  have haM : a ∉ Mu := fun q => by obtain ⟨n, ho⟩ := hl; rw [hideAll_none Mu q] at ho; cases ho
  have halt : a < s.heap.objs.size := let ⟨o, ho, _⟩ := hl'; Heap.lt_size ho
  refine wpAny_pyIter_list hl' ?_
  have hn : s.heap.get? s.heap.objs.size = none := stays_refl.fresh
  have Wk := Walks.list (prog := PG) (w := W.w) (A := A) ct.handled s.heap.objs.size a (Nat.ne_of_lt halt) items.toArray
  rw [show items.toArray.size = Vs.length by rw [List.size_toArray, hv.length]] at Wk
  refine k s.heap.objs.size _ s.toks [s.heap.objs.size, a] [s.heap.objs.size] _ _ (stays_push _) (fun b hb => ?_) (fun b hb => ?_) ⟨⟨_, Heap.get?_push_size _ rfl, rfl, rfl⟩, hl'.push _⟩ Wk (fun i h st b hb => ?_) fun i v hi hP => VsP.at hv (by simpa using hP)
  · cases hb with
    | head => exact ⟨hn, _, Heap.get?_push_size _ rfl⟩
    | tail _ q => cases q
  · rw [Heap.size_push]
    rcases List.mem_cons.mp hb with rfl | hb
    · exact ⟨fun q => (by obtain ⟨o, e⟩ := mu _ q; rw [hn] at e; cases e), Nat.lt_succ_self _⟩
    · cases List.mem_singleton.mp hb; exact ⟨haM, Nat.lt_succ_of_lt halt⟩
  · rcases List.mem_cons.mp hb with rfl | hb
    · obtain ⟨o, e, _⟩ := st.1; exact ⟨o, e⟩
    · cases List.mem_singleton.mp hb; obtain ⟨o, e, _⟩ := st.2; exact ⟨o, e⟩
theorem WSrc.range {W : Wd} {a : Int} {n : Nat} : WSrc W (VR a n) n (fun i => VI (a + (i : Int) * 1)) := by
  intro A Mu s v Q E ct mu p k
  obtain ⟨r, b, t, u, w, rfl, hr, hsm, hsz⟩ := p
  have hr' : IsRange s.heap r a b 1 t u w := hid_le _ _ hr
  have hn : s.heap.get? s.heap.objs.size = none := stays_refl.fresh
  refine wpAny_pyIter_range hr' hsm ?_
  have Wk := Walks.range (prog := PG) (w := W.w) (A := A) ct.handled s.heap.objs.size a 1 n
  have e0 : IsRangeIter (s.heap.push { cls := .type "range_iterator", data := .fields #[rawInt a, rawInt (Builtin.Range.rangeSize a b 1), rawInt 1] }) s.heap.objs.size (a + ((0 : Nat) : Int) * 1) ((n : Int) - ((0 : Nat) : Int)) 1 := by
    have e := Heap.get?_push_size (h := s.heap) (o := { cls := .type "range_iterator", data := .fields #[rawInt a, rawInt (Builtin.Range.rangeSize a b 1), rawInt 1] }) (by rfl)
    rw [hsz] at e ⊢
    simpa using e
  refine k s.heap.objs.size _ s.toks [s.heap.objs.size] [s.heap.objs.size] _ _ (stays_push _) (fun b hb => ?_) (fun b hb => ?_) e0 Wk (fun i h st b hb => ?_) fun i v hi hP => hP
  · cases List.mem_singleton.mp hb; exact ⟨hn, _, Heap.get?_push_size _ rfl⟩
  · cases List.mem_singleton.mp hb
    rw [Heap.size_push]
    exact ⟨fun q => (by obtain ⟨o, e⟩ := mu _ q; rw [hn] at e; cases e), Nat.lt_succ_self _⟩
  · cases List.mem_singleton.mp hb; exact ⟨_, st⟩

section
variable {W : Wd} {env : Env} {ρ ρ' : Rho}
theorem forLoop_gen {prog : Program} {w : World} {A : Around} {R : Result → Shared → Prop} {s : Shared} {target it body orelse env} (I : Nat → Shared → Prop)
    (turn : ∀ n s, I n s → wpAny (model prog w) A (pyNext it) (fun r s₁ => match r with
      | none => wpAny (model prog w) A (execs orelse env) (fun f s₃ => R (.ok f) s₃) (notedBy (model prog w) A env fun e s' => R (.error e) s') s₁
      | some v => wpAny (model prog w) A (letOwnedTupleGo target it v) (fun _ s₁' => wpAny (model prog w) A (assign target env v) (fun _ s₂ => wpAny (model prog w) A (execs body env) (fun f s₃ => match f with
          | .next | .cont => ∃ m, m < n ∧ I m s₃
          | .brk => R (.ok .next) s₃
          | .ret v => R (.ok (.ret v)) s₃) (notedBy (model prog w) A env fun e s' => R (.error e) s') s₂) (notedBy (model prog w) A env fun e s' => R (.error e) s') s₁') (notedBy (model prog w) A env fun e s' => R (.error e) s') s₁) (notedBy (model prog w) A env fun e s' => R (.error e) s') s)
    (n : Nat) (h : I n s) : codeAny (model prog w) A (.forLoop target it body orelse env) R s := by
  refine codeAny_loop' rfl I (fun n s hI => ?_) n h
  show wpAny _ _ ((forTurn target it body orelse env).onRaise (fun x => do noteFrame x env; theTreesLotGoes x)) _ _ s
  refine wpAny_noted ?_
  simp only [forTurn]
  refine wpAny_bind (wpAny_standAt (wpAny_bind (wpAny_onRaise (wpAny_mono (turn n s hI) (fun r s₁ h₁ => ?_) fun _ _ h' => wpAny_standAt h'))))
  cases r with
  | none => exact wpAny_pure (.inr ⟨rfl, codeAny_block h₁⟩)
  | some v =>
    refine wpAny_bind (wpAny_mono h₁ (fun _ s₁' h₁' => ?_) fun _ _ h' => h')
    refine wpAny_bind (wpAny_mono h₁' (fun _ s₂ h₂ => wpAny_bind (wpAny_mono h₂ (fun f s₃ h₃ => ?_) fun _ _ h' => h')) fun _ _ h' => h')
    cases f with
    | next => exact wpAny_pure (.inl ⟨rfl, h₃⟩)
    | cont => exact wpAny_pure (.inl ⟨rfl, h₃⟩)
    | brk => exact wpAny_pure h₃
    | ret v => exact wpAny_pure h₃

/-- a for over a list or a range: the state by the turn -/
theorem PX.forW {x : Str} {px pos : Pos} {iter : Expr} {body : List Stmt} {V : VP} {n : Nat} {U : Nat → VP} (R : Nat → Rho) (hi : PE W env ρ iter V) (hw : WSrc W V n U) (hk : Kd env x) (h0 : ∀ p ∈ R 0, p ∈ ρ) (hx : ∀ i, ∀ p ∈ R i, p.1 ≠ x)
    (hb : ∀ i, i < n → PS W env body ((x, U i) :: R i) (R (i + 1))) (hs : ∀ x, foldedSetIterable iter env x = pure x := by intro _; rfl) : PX W env (.For (.Name x px) iter body [] pos) ρ (R n) := by
  intro g0 A Mu s Q E I kk
  refine wpAny_For (hi A Mu s _ _ I.inv fun v h₁ tk₁ k₁ p₁ => ?_) hs
  have I₁ := I.mono k₁
  refine hw A Mu { s with heap := h₁, toks := tk₁ } v _ _ I₁.inv.ct I₁.inv.mu p₁ fun it h₂ tk₂ fp wr P St k₂ hwr hfp hSt Wk there hP => ?_
  have pin : ∀ a ∈ wr, ¬ Own W env a := fun a ha => I₁.pin (hwr a ha).1
  have pinf : ∀ a ∈ fp, ¬ Own W env a := fun a ha q => (hfp a ha).1 (I₁.ownM q)
  have I₂ : FInv W g0 A env (wr ++ Mu) (R 0) h₂ := (I₁.more k₂ (fun a ha => (List.mem_append.mp ha).elim (fun q => .inr (hwr a q)) .inl) fun a ha => List.mem_append_right _ ha).sub h0
  have hb₂ : (hideAll h₁ Mu).StaysIn (hideAll h₂ (wr ++ Mu)) := hid_new (fun b o _ e => k₂ b o e) fun a ha => (List.mem_append.mp ha).elim (fun q => .inr (hwr a q).1) .inl
  refine forLoop_gen (fun c s' => ∃ h' tk i, s' = { s with heap := h', toks := tk } ∧ i ≤ n ∧ c = n + 1 - i ∧ St i h' ∧ FInv W g0 A env (wr ++ Mu) (R i) h' ∧ (∀ b o, ¬ Own W env b → b ∉ wr → h₁.get? b = some o → h'.get? b = some o) ∧ (hideAll h₁ Mu).StaysIn (hideAll h' (wr ++ Mu))) ?_ (n + 1)
    ⟨h₂, tk₂, 0, rfl, Nat.zero_le _, rfl, hSt, I₂, fun b o _ _ e => k₂ b o e, hb₂⟩
  rintro c s' ⟨h', tk, i, rfl, hi', rfl, hS, Iv, hk', hb'⟩
  by_cases hlt : i < n
  · refine Wk.item i _ _ _ hlt hS fun v h₃ tk₃ hv hS₃ hk₃ => ?_
    show wpAny _ A (pure ()) _ _ _
    refine wpAny_pure (wpAny_assign_Name ?_)
    have I₃ : FInv W g0 A env (wr ++ Mu) (R i) h₃ := Iv.off (Ch := wr) hk₃ fun a ha => ⟨List.mem_append_left _ ha, pin a ha, there _ _ hS₃ a (Wk.sub _ ha)⟩
    have hb₃ : (hideAll h₁ Mu).StaysIn (hideAll h₃ (wr ++ Mu)) := stays_trans hb' (hid_mono fun b o hb e => hk₃ b o (fun q => hb (List.mem_append_left _ q)) e)
    refine I₃.store (s := { s with heap := h₃, toks := tk₃ }) (V := U i) (ρ' := (x, U i) :: R i) hk ((U i).mono hb₃ (hP i v hlt hv)) (fun p hp => (List.mem_cons.mp hp).elim .inl fun q => .inr ⟨q, hx i p q⟩) fun h₄ tk₄ k₄ I₄ => ?_
    refine hb i hlt g0 A _ { s with heap := h₄, toks := tk₄ } _ _ I₄ fun h₅ tk₅ k₅ I₅ => ?_
    have off5 : ∀ b o, ¬ Own W env b → h₃.get? b = some o → h₅.get? b = some o := fun b o hb e => k₅ b o hb (k₄ b o hb e)
    refine ⟨n + 1 - (i + 1), by omega, h₅, tk₅, i + 1, rfl, hlt, rfl, Wk.frame _ _ _ hS₃ fun a ha o e => off5 a o (pinf a ha) e, I₅, fun b o hb hw' e => off5 b o hb (hk₃ b o hw' (hk' b o hb hw' e)), ?_⟩
    refine stays_trans hb₃ (hid_mono fun b o hb e => off5 b o (fun q => hb (I₃.ownM q)) e)
  · obtain rfl : i = n := Nat.le_antisymm hi' (Nat.not_lt.mp hlt)
    refine Wk.done _ _ _ hS fun h₃ tk₃ hk₃ => ?_
    refine wpAny_execs_nil ?_
    refine kk h₃ tk₃ (fun b o hb e => ?_) (Iv.drop (Ch := wr) hk₃ (fun a ha => ⟨List.mem_append_left _ ha, pin a ha⟩) (fun a ha => ⟨List.mem_append_right _ ha, fun q => ?_⟩) I.ownM)
    · have e₁ := k₁ b o e
      have hbw : b ∉ wr := fun q => by rw [show h₁.get? b = none from (hwr b q).1] at e₁; cases e₁
      exact hk₃ b o hbw (hk' b o hb hbw e₁)
    · obtain ⟨_, o, e⟩ := I₁.mu a ha
      rw [show h₁.get? a = none from (hwr a q).1] at e; cases e

theorem PX.while {test : Expr} {body : List Stmt} {pos : Pos} {n : Nat} (R : Nat → Rho) (h0 : ∀ p ∈ R 0, p ∈ ρ) (ht : ∀ i, i ≤ n → PT W env (R i) test (decide (i < n))) (hb : ∀ i, i < n → PS W env body (R i) (R (i + 1))) : PX W env (.While test body [] pos) ρ (R n) := by
  intro g0 A Mu s Q E I kk
  refine wpAny_While ?_
  refine codeAny_whileLoop (fun c s' => ∃ h' tk i, s' = { s with heap := h', toks := tk } ∧ i ≤ n ∧ c = n + 1 - i ∧ FInv W g0 A env Mu (R i) h' ∧ (∀ b o, ¬ Own W env b → s.heap.get? b = some o → h'.get? b = some o)) ?_ (n + 1) ⟨s.heap, s.toks, 0, rfl, Nat.zero_le _, rfl, I.sub h0, fun _ _ _ e => e⟩
  rintro c s' ⟨h', tk, i, rfl, hi, rfl, Iv, hk⟩
  refine ht i hi A Mu { s with heap := h', toks := tk } _ _ Iv.inv fun h₁ tk₁ k₁ => ?_
  by_cases hlt : i < n
  · rw [decide_eq_true hlt, if_pos rfl]
    exact hb i hlt g0 A Mu { s with heap := h₁, toks := tk₁ } _ _ (Iv.mono k₁) fun h₂ tk₂ k₂ I₂ => ⟨n + 1 - (i + 1), by omega, h₂, tk₂, i + 1, rfl, hlt, rfl, I₂, fun b o hb e => k₂ b o hb (k₁ b o (hk b o hb e))⟩
  · obtain rfl : i = n := Nat.le_antisymm hi (Nat.not_lt.mp hlt)
    rw [decide_eq_false hlt, if_neg (by decide)]
    exact wpAny_execs_nil (kk h₁ tk₁ (fun b o hb e => k₁ b o (hk b o hb e)) (Iv.mono k₁))

/-- two names at once -/
theorem PX.assign2 {x y : Str} {px py tpos pos : Pos} {k₀ : Nat} {e : Expr} {U V : VP} (he : PE W env ρ e (VT [U, V])) (hx : Kd env x) (hy : Kd env y) (hxy : x ≠ y) (hρ : ∀ p ∈ ρ', p = (x, U) ∨ p = (y, V) ∨ (p ∈ ρ ∧ p.1 ≠ x ∧ p.1 ≠ y))
    (hs : swapsWithSole [.Tuple [.Name x px, .Name y py] k₀ tpos] e pos.line env = pure false := by rfl) (hw : swappedStores [.Tuple [.Name x px, .Name y py] k₀ tpos] e env = pure none := by rfl) : PX W env (.Assign [.Tuple [.Name x px, .Name y py] k₀ tpos] e pos) ρ ρ' := fun g0 A Mu s Q E I k =>
  PyProof.Rows.Assign_Tuple (he A Mu s _ _ I.inv fun v h₁ tk₁ k₁ p₁ => by
    obtain ⟨T, its, rfl, ⟨o, ho, hc, hd⟩, hv⟩ := p₁
    match its, hv with
    | [u, w], hv =>
      have I₁ := I.mono k₁
      refine assign_Tuple_tuple I₁.inv.ct.handled ⟨o, hid_le _ _ ho, hc, hd⟩ rfl rfl fun h₂ he₂ => ?_
      have k₂ : h₁.StaysIn h₂ := fun b o e => he₂ b o (Nat.ne_of_lt (Heap.lt_size e)) e
      have m₂ : (hideAll h₁ Mu).StaysIn (hideAll h₂ Mu) := hid_mono fun b o _ e => k₂ b o e
      refine assignInOrder_cons (wpAny_assign_Name ((I₁.mono k₂).store (s := { s with heap := h₂, toks := tk₁ }) (V := U) (ρ' := (x, U) :: ρ.filter (fun p => p.1 != x)) hx (U.mono m₂ hv.1) (fun p hp => ?_) fun h₃ tk₃ k₃ I₃ => ?_))
      · rcases List.mem_cons.mp hp with rfl | hp
        · exact .inl rfl
        · obtain ⟨a, b⟩ := List.mem_filter.mp hp
          exact .inr ⟨a, by simpa using b⟩
      have m₃ : (hideAll h₂ Mu).StaysIn (hideAll h₃ Mu) := hid_mono fun b o hb e => k₃ b o (fun q => hb (I.ownM q)) e
      refine assignInOrder_cons (wpAny_assign_Name (I₃.store (s := { s with heap := h₃, toks := tk₃ }) (V := V) (ρ' := ρ') hy (V.mono m₃ (V.mono m₂ hv.2.1)) (fun p hp => ?_) fun h₄ tk₄ k₄ I₄ => ?_))
      · rcases hρ p hp with rfl | rfl | ⟨a, b, c⟩
        · exact .inr ⟨.head _, hxy⟩
        · exact .inl rfl
        · exact .inr ⟨.tail _ (List.mem_filter.mpr ⟨a, by simpa using b⟩), c⟩
      exact assignInOrder_nil (k h₄ tk₄ (fun b o hb e => k₄ b o hb (k₃ b o hb (k₂ b o (k₁ b o e)))) I₄)
    | [], hv => exact hv.elim
    | [_], hv => exact hv.2.elim
    | _ :: _ :: _ :: _, hv => exact hv.2.2.elim) hs hw
end
end Mine
-- Pk
namespace Mine
noncomputable def Wd.downF (W : Wd) (F : List Addr) (st : Bool) (ho : Addr → Option Obj) : Wd := { W with lv := W.lv - 1, hf := F, st := st, ho := ho }
noncomputable abbrev Wd.down (W : Wd) : Wd := W.downF [] false fun _ => none
noncomputable abbrev defEnv (qual : Str) (scope : Scope) (L f : Addr) (cd : Value) : Env := envX qual scope L f cd (cellsFrom (L + 1) scope.names [])
noncomputable def zipRho (xs : List Str) (Vs : List VP) : Rho := xs.zip Vs

theorem bindL_mem {kindOf : Str → Option NameKind} {n : Str} {v : Value} (hl : kindOf n = some .local) : ∀ (binds : List (Str × Value)) (m : Str → Option Value), (n, v) ∈ binds → (binds.map (·.1)).Nodup → bindL kindOf binds m n = some v := by
  have aux : ∀ (binds : List (Str × Value)) (m : Str → Option Value), n ∉ binds.map (·.1) → bindL kindOf binds m n = m n := by
    intro binds
    induction binds with
    | nil => intro m _; rfl
    | cons p r ih =>
      intro m hn
      obtain ⟨k, w⟩ := p
      simp only [List.map_cons, List.mem_cons, not_or] at hn
      unfold bindL
      rw [ih _ hn.2]
      split
      · exact if_neg hn.1
      · rfl
  intro binds
  induction binds with
  | nil => intro m h _; cases h
  | cons p r ih =>
    intro m h hnd
    obtain ⟨k, w⟩ := p
    rw [List.map_cons, List.nodup_cons] at hnd
    rcases List.mem_cons.mp h with e | h
    · cases e
      unfold bindL
      rw [if_pos hl, aux r _ hnd.1, if_pos rfl]
    · unfold bindL; exact ih _ h hnd.2
theorem bindC_mem {kindOf : Str → Option NameKind} {n : Str} {v : Value} (hl : kindOf n ≠ some .local) : ∀ (binds : List (Str × Value)) (m : Str → Option Value), (n, v) ∈ binds → (binds.map (·.1)).Nodup → bindC kindOf binds m n = some v := by
  have aux : ∀ (binds : List (Str × Value)) (m : Str → Option Value), n ∉ binds.map (·.1) → bindC kindOf binds m n = m n := by
    intro binds
    induction binds with
    | nil => intro m _; rfl
    | cons p r ih =>
      intro m hn
      obtain ⟨k, w⟩ := p
      simp only [List.map_cons, List.mem_cons, not_or] at hn
      unfold bindC
      rw [ih _ hn.2]
      split
      · rfl
      · exact if_neg hn.1
  intro binds
  induction binds with
  | nil => intro m h _; cases h
  | cons p r ih =>
    intro m h hnd
    obtain ⟨k, w⟩ := p
    rw [List.map_cons, List.nodup_cons] at hnd
    rcases List.mem_cons.mp h with e | h
    · cases e
      unfold bindC
      rw [if_neg hl, aux r _ hnd.1, if_pos rfl]
    · unfold bindC; exact ih _ h hnd.2

theorem vs_zip : ∀ {xs : List Str} {Vs : List VP} {h : Heap} {vs : List Value}, VsP Vs h vs → ∀ p ∈ zipRho xs Vs, ∃ v, (p.1, v) ∈ xs.zip vs ∧ p.2.p h v
  | [], _, _, _, _, p, hp => by simp [zipRho] at hp
  | x :: xs, [], h, [], _, p, hp => by simp [zipRho] at hp
  | x :: xs, V :: Vs, h, v :: vs, y, p, hp => by
    rcases List.mem_cons.mp (show p ∈ (x, V) :: zipRho xs Vs from hp) with rfl | hp
    · exact ⟨v, .head _, y.1⟩
    · obtain ⟨u, a, b⟩ := vs_zip y.2 p hp; exact ⟨u, .tail _ a, b⟩
  | _ :: _, [], _, _ :: _, y, _, _ => y.elim
  | _ :: _, _ :: _, _, [], y, _, _ => y.elim

/-- a call of a def of the text -/
theorem call_defF {W : Wd} {A : Around} {gB : Heap} {s : Shared} {f : Addr} {oc : Value} {od : Option Addr} {osl : Array (Option Value)} {name qual : Str} {params : Arguments} {body : List Stmt} {scope : Scope} {dV kV doc pm cdv ct : Value} {an : Option Addr} {vs : List Value} {Vs : List VP} {xs : List Str} {X MuC : List Addr} {Q E : Value → Shared → Prop}
    (F : List Addr) (st : Bool) (ho' : Addr → Option Obj) (hho : ∀ b ∈ F, ho' b = gB.get? b) (hst : st = true → ∀ b ∈ frsA A, b ∈ F) (hlv : 1 ≤ W.lv) (ct5 : CtB 1005 W A gB) (X0 : (KF W.w.params).In (hideAll gB F)) (T0 : Top topProg LZ W.mean W.mg W.mb (hideAll gB F)) (hF : ∀ l, A.frames = some l → ∀ b ∈ F, b ∈ l.filterMap (·.frame)) (hFX : ∀ b ∈ F, b ∈ X) (kg : gB.StaysIn s.heap) (hgs : gB.objs.size ≤ s.heap.objs.size) (ho : (KF W.w.params).lookup f = some ⟨oc, od, .func (fnOf name qual params body scope dV kV doc pm an cdv ct), osl⟩) (hcd : codeIn (KF W.w.params) cdv qual = true)
    (hbind : bindArgs (fnOf name qual params body scope dV kV doc pm an cdv ct) ⟨vs, []⟩ = pure (xs.zip vs)) (hxs : xs.Nodup) (hlen : vs.length = xs.length)
    (hkind : ∀ n, ∀ x ∈ xs, scope.names.lookup x = some .local ∨ (scope.names.lookup x = some .cell ∧ ((cellsFrom n scope.names []).lookup x).isSome = true)) (hnd : ((cellsFrom 0 scope.names []).map (·.1)).Nodup)
    (hv : VsP Vs (hideAll s.heap MuC) vs) (hX : ∀ a ∈ X, a ∈ MuC ∧ (hideAll gB F).get? a = none ∧ ∃ o, s.heap.get? a = some o)
    (hco : scope.isCoroutine = false) (hgen : scope.isGenerator = false) (hk : scope.kind = .function)
    (h : ∀ L h₁ tk, s.heap.StaysIn h₁ → FInv (W.downF F st ho') (hideAll gB F) (A.deeper (defEnv qual scope L f cdv)) (defEnv qual scope L f cdv) (X ++ L :: (cellsFrom (L + 1) scope.names []).map (·.2)) (zipRho xs Vs) h₁ → (∀ b, b ∉ F → Own (W.downF F st ho') (defEnv qual scope L f cdv) b → s.heap.get? b = none) → ∀ (E' : Value → Shared → Prop),
      wpAny (model PG W.w) (A.deeper (defEnv qual scope L f cdv)) (execs body (defEnv qual scope L f cdv)) (fun fl s' => Q (match fl with | .ret v => v | _ => .none) s') E' { s with heap := h₁, toks := tk }) :
    wpAny (model PG W.w) A (call (.ref f) vs) Q E s := by
  obtain ⟨dp, un, gd, cn, cs, L₀, a₀, ccd, cl, outer, base, rfl, B, hkc, h1, h2⟩ := ct5.call
  refine wpAny_call ?_
  refine codeAny_call_function (by show dp < recursionLimit; have : recursionLimit = 1000 := rfl; omega) (kg _ _ (ct5.X _ _ ho)) rfl hco hgen rfl ((codeRec_of ct5.X hcd).keeps kg) ?_
  rw [hbind]
  refine wpAny_pure ?_
  refine wpAny_newFunctionEnv_cells hk (fun y hy => hkind _ _ (List.of_mem_zip hy).1) fun env' he s' x => ?_
  subst he
  refine ⟨((ct5.T.nolimit.keeps kg).keeps x.toInCall.keep), codeAny_func ?_⟩
  obtain ⟨h₁, tk, rfl, hk₁⟩ := x.done
  have hnn : (xs.zip vs).map (·.1) = xs := by rw [List.map_fst_zip]; omega
  have hcells := x.cell
  have fresh : ∀ b, s.heap.objs.size ≤ b → s.heap.get? b = none := fun b hb => Heap.get?_none_of_le hb
  have hab := x.above
  have cex : ∀ n c, (n, c) ∈ cellsFrom (s.heap.objs.size + 1) scope.names [] → ∃ v, h₁.IsCell c v := fun n c hm => ⟨_, hcells n c (lookup_of_mem_nodup (cellsFrom_names scope.names 0 (s.heap.objs.size + 1) [] [] rfl ▸ hnd) hm)⟩
  have fr : ∀ a, a ∈ s.heap.objs.size :: (cellsFrom (s.heap.objs.size + 1) scope.names []).map (·.2) → s.heap.get? a = none := fun a ha => by
    rcases List.mem_cons.mp ha with rfl | ha
    · exact fresh _ (Nat.le_refl _)
    · obtain ⟨⟨n, c⟩, hm, rfl⟩ := List.mem_map.mp ha
      exact fresh _ (Nat.le_of_lt (hab n c hm))
  have ex : ∀ a, a ∈ s.heap.objs.size :: (cellsFrom (s.heap.objs.size + 1) scope.names []).map (·.2) → ∃ o, h₁.get? a = some o := fun a ha => by
    rcases List.mem_cons.mp ha with rfl | ha
    · obtain ⟨o, _, _, e, _⟩ := x.toInCall.ns; exact ⟨o, e⟩
    · obtain ⟨⟨n, c⟩, hm, rfl⟩ := List.mem_map.mp ha
      obtain ⟨_, o, e, _⟩ := cex n c hm; exact ⟨o, e⟩
  have gn : ∀ a, s.heap.get? a = none → (hideAll gB F).get? a = none := fun a e => by
    cases q : (hideAll gB F).get? a with
    | none => rfl
    | some o => rw [kg _ _ (of_hideAll _ q)] at e; cases e
  have hsub := hF _ B.stack
  have fF : ∀ b ∈ F, ∃ o, gB.get? b = some o ∧ ∀ vs, o.data ≠ .fields vs := fun b hb => (B.frames.mem (hsub b hb)).2
  have nF : ∀ b, s.heap.get? b = none → b ∉ F := fun b e q => by obtain ⟨o, e', _⟩ := fF b q; rw [kg _ _ e'] at e; cases e
  refine h s.heap.objs.size h₁ tk hk₁ ⟨⟨X0, T0, dp + 1, un + 3, gd, qual, scope, s.heap.objs.size, f, cdv, _, _, base, _, gB, rfl, rfl, rfl, hsub, B, rfl, hk, ?_, ?_⟩, stays_trans hid_le (stays_trans kg hk₁), ?_, ⟨_, x.toInCall.ns⟩, ?_, fun a ha => ?_, fun y c e => ?_, fun y z c e1 e2 => ?_, fun p hp => ?_, fun b hb => List.mem_append_left _ (hFX b hb), fun b hb => let ⟨o, e, q⟩ := fF b hb; ⟨o, o.slots, (hho b hb).trans e, hk₁ _ _ (kg _ _ e), q⟩, ⟨nF _ (fresh _ (Nat.le_refl _)), fun y c e => nF _ (fr c (.tail _ (List.mem_map.mpr ⟨_, mem_of_lookup e, rfl⟩)))⟩, fun hs b hb => ?_⟩ (fun b hbF hb => ?_) _
  · show dp + 1 + (W.lv - 1) ≤ 400; omega
  · show un + 3 + 10 * (W.lv - 1) ≤ 1000; omega
  · rw [hideAll_size]; exact hgs
  · exact List.mem_append_right _ (.head _)
  · rcases List.mem_append.mp ha with ha | ha
    · exact ⟨(hX a ha).2.1, let ⟨o, e⟩ := (hX a ha).2.2; ⟨o, hk₁ _ _ e⟩⟩
    · exact ⟨gn a (fr a ha), ex a ha⟩
  · exact ⟨List.mem_append_right _ (.tail _ (List.mem_map.mpr ⟨_, mem_of_lookup e, rfl⟩)), cex y c (mem_of_lookup e)⟩
  · exact name_of_addr x.apart (mem_of_lookup e1) (mem_of_lookup e2)
  · obtain ⟨v, hm, pv⟩ := vs_zip (xs := xs) hv p hp
    refine ⟨v, ?_, p.2.mono (hid_new (fun b o _ e => hk₁ b o e) fun a ha => (List.mem_append.mp ha).elim (fun q => .inl (hX a q).1) fun q => .inr (fr a q)) pv⟩
    rcases hkind (s.heap.objs.size + 1) p.1 (List.of_mem_zip hm).1 with hl | ⟨hl, hc⟩
    · exact .inl ⟨hl, _, x.toInCall.ns, bindL_mem hl _ _ hm (by rw [hnn]; exact hxs)⟩
    · obtain ⟨c, hc⟩ := Option.isSome_iff_exists.mp hc
      refine .inr ⟨.inl hl, c, hc, ?_⟩
      have := hcells p.1 c hc
      have e9 := bindC_mem (v := v) (kindOf := (defEnv qual scope s.heap.objs.size f cdv).kindOf) (n := p.1) (by show scope.names.lookup p.1 ≠ _; rw [hl]; decide) (xs.zip vs) (fun _ => none) hm (by rw [hnn]; exact hxs)
      exact e9 ▸ this
  · have hfr : frsA ((ktrTop dp un gd cn cs L₀ a₀ ccd cl outer).deeper (defEnv qual scope s.heap.objs.size f cdv)) = s.heap.objs.size :: frsA (ktrTop dp un gd cn cs L₀ a₀ ccd cl outer) := rfl
    rw [hfr] at hb
    rcases List.mem_cons.mp hb with rfl | hb
    · exact .inl rfl
    · exact .inr (hst hs b hb)
  · rcases hb with rfl | ⟨y, e⟩ | hb
    · exact fr _ (.head _)
    · exact fr _ (.tail _ (List.mem_map.mpr ⟨_, mem_of_lookup e, rfl⟩))
    · exact absurd hb hbF
/-- the same without stamped frames -/
theorem call_def {W : Wd} {A : Around} {g0 : Heap} {s : Shared} {f : Addr} {oc : Value} {od : Option Addr} {osl : Array (Option Value)} {name qual : Str} {params : Arguments} {body : List Stmt} {scope : Scope} {dV kV doc pm cdv ct : Value} {an : Option Addr} {vs : List Value} {Vs : List VP} {xs : List Str} {X MuC : List Addr} {Q E : Value → Shared → Prop}
    (hlv : 1 ≤ W.lv) (ct5 : CtB 1005 W A g0) (kg : g0.StaysIn s.heap) (hgs : g0.objs.size ≤ s.heap.objs.size) (ho : (KF W.w.params).lookup f = some ⟨oc, od, .func (fnOf name qual params body scope dV kV doc pm an cdv ct), osl⟩) (hcd : codeIn (KF W.w.params) cdv qual = true)
    (hbind : bindArgs (fnOf name qual params body scope dV kV doc pm an cdv ct) ⟨vs, []⟩ = pure (xs.zip vs)) (hxs : xs.Nodup) (hlen : vs.length = xs.length)
    (hkind : ∀ n, ∀ x ∈ xs, scope.names.lookup x = some .local ∨ (scope.names.lookup x = some .cell ∧ ((cellsFrom n scope.names []).lookup x).isSome = true)) (hnd : ((cellsFrom 0 scope.names []).map (·.1)).Nodup)
    (hv : VsP Vs (hideAll s.heap MuC) vs) (hX : ∀ a ∈ X, a ∈ MuC ∧ g0.get? a = none ∧ ∃ o, s.heap.get? a = some o)
    (hco : scope.isCoroutine = false) (hgen : scope.isGenerator = false) (hk : scope.kind = .function)
    (h : ∀ L h₁ tk, s.heap.StaysIn h₁ → FInv W.down g0 (A.deeper (defEnv qual scope L f cdv)) (defEnv qual scope L f cdv) (X ++ L :: (cellsFrom (L + 1) scope.names []).map (·.2)) (zipRho xs Vs) h₁ → (∀ b, Own W.down (defEnv qual scope L f cdv) b → s.heap.get? b = none) → ∀ (E' : Value → Shared → Prop),
      wpAny (model PG W.w) (A.deeper (defEnv qual scope L f cdv)) (execs body (defEnv qual scope L f cdv)) (fun fl s' => Q (match fl with | .ret v => v | _ => .none) s') E' { s with heap := h₁, toks := tk }) :
    wpAny (model PG W.w) A (call (.ref f) vs) Q E s :=
  call_defF (gB := g0) [] false (fun _ => none) (fun b hb => by cases hb) (fun h => by cases h) hlv ct5 ct5.X ct5.T (fun _ _ b hb => by cases hb) (fun b hb => by cases hb) kg hgs ho hcd hbind hxs hlen hkind hnd hv hX hco hgen hk fun L h₁ tk k I hown E' => h L h₁ tk k I (fun b q => hown b (fun z => by cases z) q) E'

/-- the fixed side conditions of a comprehension, in one look -/
noncomputable def compChk (env : Env) (scope : Scope) (xs : List Str) : Bool :=
  scope.kind == .function && (scope.names.all fun y => !(y.2 == .free) || (env.cells.lookup y.1).isSome) && (scope.names.all fun y => !(y.2 == .cell)) && (scope.names.all fun y => !(y.2 == .local) || scope.names.lookup y.1 == some .local) && (xs.all fun x => scope.names.lookup x == some .local)
noncomputable def capChk (env : Env) (scope : Scope) (xs xs' ns : List Str) : Bool :=
  ns.all fun n => (scope.names.any fun y => y.1 == n && y.2 == .free) && !(env.kindOf n == some .local) && ((relabel scope env).names.lookup n == some .cell || (relabel scope env).names.lookup n == some .free) && !(xs.any fun x => x == n) && !(xs'.any fun x => x == n)
section
variable {env : Env} {scope : Scope} {xs xs' : List Str}
theorem chk1 (h : compChk env scope xs = true) : (∀ y ∈ scope.names, y.2 = .free → (env.cells.lookup y.1).isSome = true) ∧ scope.kind = .function ∧ (∀ y ∈ scope.names, y.2 ≠ .cell) ∧ (∀ y ∈ scope.names, y.2 = .local → scope.names.lookup y.1 = some .local) ∧ ∀ x ∈ xs, scope.names.lookup x = some .local := by
  unfold compChk at h
  simp only [Bool.and_eq_true, List.all_eq_true, Bool.or_eq_true, Bool.not_eq_true', beq_iff_eq] at h
  obtain ⟨⟨⟨⟨h1, h2⟩, h3⟩, h4⟩, h5⟩ := h
  refine ⟨fun y hy e => (h2 y hy).resolve_left (by rw [e]; simp), h1, fun y hy e => by have := h3 y hy; rw [e] at this; simp at this, fun y hy e => (h4 y hy).resolve_left (by rw [e]; simp), h5⟩
theorem chk2 {ρ ρc : Rho} (h : capChk env scope xs xs' (ρc.map (·.1)) = true) (hs : ∀ p ∈ ρc, p ∈ ρ) :
    (∀ p ∈ ρc, p ∈ ρ ∧ (p.1, NameKind.free) ∈ scope.names ∧ (env.kindOf p.1 ≠ some .local) ∧ ((relabel scope env).names.lookup p.1 = some .cell ∨ (relabel scope env).names.lookup p.1 = some .free)) ∧ ∀ p ∈ ρc, p.1 ∉ xs ∧ p.1 ∉ xs' := by
  unfold capChk at h
  rw [List.all_eq_true] at h
  have key : ∀ p ∈ ρc, _ := fun p hp => h p.1 (List.mem_map_of_mem hp)
  simp only [Bool.and_eq_true, Bool.or_eq_true, Bool.not_eq_true', beq_iff_eq, List.any_eq_true, beq_eq_false_iff_ne, List.any_eq_false] at key
  refine ⟨fun p hp => ?_, fun p hp => ?_⟩
  · obtain ⟨⟨⟨⟨⟨y, hy, e1, e2⟩, h2⟩, h3⟩, h4⟩, h5⟩ := key p hp
    refine ⟨hs p hp, ?_, h2, h3⟩
    obtain ⟨a, b⟩ := y
    cases e1; cases e2; exact hy
  · obtain ⟨⟨⟨_, _⟩, h4⟩, h5⟩ := key p hp
    exact ⟨fun q => h4 _ q rfl, fun q => h5 _ q rfl⟩
end
section
variable {W : Wd} {env : Env} {ρ ρ' : Rho}
theorem PE.comp {ρc : Rho} {elt target iter : Expr} {ifs : List Expr} {rest : List Comprehension} {scope : Scope} {pos : Pos} {body : Addr → Addr → Sem Fin → Sem Fin} {n : Nat} {xs : List Str} (xs' : List Str) {B : Nat → Rho} (t : Nat → Bool) (Z : Nat → List VP)
    (hes : ESrc W env ρ iter target n xs B) (hc : compChk env scope xs = true) (hcap : capChk env scope xs xs' (ρc.map (·.1)) = true) (hs' : ∀ p ∈ ρc, p ∈ ρ)
    (hT : ∀ I D C, compTurn (.ListComp elt (⟨target, iter, ifs, 0⟩ :: rest) scope pos) 0 (.ref I) (.ref D) (compEnvC scope (clOf env scope.names) C env) = turnTree (.ListComp elt (⟨target, iter, ifs, 0⟩ :: rest) scope pos) target iter ifs 0 (.ref I) (.ref D) (compEnvC scope (clOf env scope.names) C env) (body D C))
    (htest : ∀ C i, i < n → PTs W (compEnvC scope (clOf env scope.names) C env) (B i ++ ρc) ifs (t i))
    (hst : ∀ A g D C i, i < n → t i = true → Ct W A g → (∀ x c, (clOf env scope.names).lookup x = some c → ∃ o, g.get? c = some o) → g.get? D = none → g.get? C = none → D ≠ C → Stage W A g (compEnvC scope (clOf env scope.names) C env) D (body D C) xs' (B i ++ ρc) (Z i))
    (hsz : (flat t Z n).length ≤ 10000) (hs : ∀ x, foldedSetIterable iter env x = pure x := by intro _; rfl) :
    PE W env ρ (.ListComp elt (⟨target, iter, ifs, 0⟩ :: rest) scope pos) (VL (flat t Z n)) :=
  let ⟨a, b, c, e, f⟩ := chk1 hc
  let ⟨g, k⟩ := chk2 hcap hs'
  PE.listcomp a b c e f hes g hT htest hst k hsz hs
theorem PX.comp {y : Str} {py cpos : Pos} {ρc : Rho} {elt target iter : Expr} {ifs : List Expr} {rest : List Comprehension} {scope : Scope} {pos : Pos} {body : Addr → Addr → Sem Fin → Sem Fin} {n : Nat} {xs : List Str} (xs' : List Str) {B : Nat → Rho} (t : Nat → Bool) (Z : Nat → List VP)
    (hes : ESrc W env ρ iter target n xs B) (hc : compChk env scope xs = true) (hcap : capChk env scope xs xs' (ρc.map (·.1)) = true) (hs' : ∀ p ∈ ρc, p ∈ ρ)
    (hT : ∀ I D C, compTurn (.ListComp elt (⟨target, iter, ifs, 0⟩ :: rest) scope pos) 0 (.ref I) (.ref D) (compEnvC scope (clOf env scope.names) C env) = turnTree (.ListComp elt (⟨target, iter, ifs, 0⟩ :: rest) scope pos) target iter ifs 0 (.ref I) (.ref D) (compEnvC scope (clOf env scope.names) C env) (body D C))
    (htest : ∀ C i, i < n → PTs W (compEnvC scope (clOf env scope.names) C env) (B i ++ ρc) ifs (t i))
    (hst : ∀ A g D C i, i < n → t i = true → Ct W A g → (∀ x c, (clOf env scope.names).lookup x = some c → ∃ o, g.get? c = some o) → g.get? D = none → g.get? C = none → D ≠ C → Stage W A g (compEnvC scope (clOf env scope.names) C env) D (body D C) xs' (B i ++ ρc) (Z i))
    (hsz : (flat t Z n).length ≤ 10000) (hk : Kd env y) (hρ' : ∀ p ∈ ρ', p = (y, VL (flat t Z n)) ∨ (p ∈ ρ ∧ p.1 ≠ y))
    (hsw : swapsWith (.ListComp elt (⟨target, iter, ifs, 0⟩ :: rest) scope pos) (some (.Name y py)) cpos.line env = pure true := by kernel_rfl) (hs : ∀ x, foldedSetIterable iter env x = pure x := by intro _; rfl) :
    PX W env (.Assign [.Name y py] (.ListComp elt (⟨target, iter, ifs, 0⟩ :: rest) scope pos) cpos) ρ ρ' :=
  let ⟨a, b, c, e, f⟩ := chk1 hc
  let ⟨g, k⟩ := chk2 hcap hs'
  PX.assignComp a b c e f hes g hT htest hst k hsz hk hρ' hsw hs
theorem Stage.in {A : Around} {g : Heap} {D C : Addr} {cl : List (Str × Addr)} {scope' : Scope} {elt target iter : Expr} {ifs : List Expr} {gens : List Comprehension} {scope : Scope} {pos : Pos} {k : Nat} {body : Sem Fin → Sem Fin} {n : Nat} {xs : List Str} (xs' : List Str) {B : Nat → Rho} (t : Nat → Bool) (Z : Nat → List VP)
    (hk : gens[k]? = some ⟨target, iter, ifs, 0⟩) (hes : ESrc W (compEnvC scope' cl C env) ρ iter target n xs B) (hT : ∀ I, compTurn (.ListComp elt gens scope pos) k (.ref I) (.ref D) (compEnvC scope' cl C env) = turnTree (.ListComp elt gens scope pos) target iter ifs k (.ref I) (.ref D) (compEnvC scope' cl C env) body)
    (hkf : (compEnvC scope' cl C env).scope.kind = .function) (hloc : (xs.all fun x => (compEnvC scope' cl C env).scope.names.lookup x == some .local) = true)
    (cg : Ct W A g) (hcg : ∀ x c, cl.lookup x = some c → ∃ o, g.get? c = some o) (hDg : g.get? D = none) (hCg : g.get? C = none) (hDC : D ≠ C)
    (htest : ∀ i, i < n → PTs W (compEnvC scope' cl C env) (B i ++ ρ) ifs (t i)) (hst : ∀ i, i < n → t i = true → Stage W A g (compEnvC scope' cl C env) D body xs' (B i ++ ρ) (Z i)) (hρ : ((ρ.map (·.1)).all fun n => !(xs.any fun x => x == n) && !(xs'.any fun x => x == n)) = true)
    (hs : ∀ x, foldedSetIterable iter (compEnvC scope' cl C env) x = pure x := by intro _; rfl) :
    Stage W A g (compEnvC scope' cl C env) D (innerBody (.ListComp elt gens scope pos) iter k (.ref D) (compEnvC scope' cl C env)) (xs ++ xs') ρ (flat t Z n) := by
  refine Stage.inner hk hes hT hkf (fun x hx => beq_iff_eq.mp (List.all_eq_true.mp hloc x hx)) cg hcg hDg hCg hDC htest hst (fun p hp => ?_) hs
  have := List.all_eq_true.mp hρ p.1 (List.mem_map_of_mem hp)
  simp only [Bool.and_eq_true, Bool.not_eq_true', List.any_eq_false, beq_iff_eq] at this
  exact ⟨fun q => this.1 _ q rfl, fun q => this.2 _ q rfl⟩
end
theorem ESrc.list {W : Wd} {env : Env} {ρ : Rho} {iter : Expr} {x : Str} {px : Pos} {Vs : List VP} {n : Nat} (h : PE W env ρ iter (VL Vs)) (hn : Vs.length = n) : ESrc W env ρ iter (.Name x px) n [x] (fun i => [(x, vAt Vs i)]) := by
  subst hn; exact ESrc.of h Srcs.list
theorem ESrc.range {W : Wd} {env : Env} {ρ : Rho} {iter : Expr} {x : Str} {px : Pos} {a : Int} {n : Nat} (h : PE W env ρ iter (VR a n)) : ESrc W env ρ iter (.Name x px) n [x] (fun i => [(x, VI (a + (i : Int) * 1))]) := ESrc.of h Srcs.range
theorem ESrc.pairs {W : Wd} {env : Env} {ρ : Rho} {iter : Expr} {x y : Str} {px py tp : Pos} {k₀ : Nat} {Us Vs : List VP} {n : Nat} (h : PE W env ρ iter (VL (vp2 Us Vs))) (hlen : Us.length = n) (hlen2 : Vs.length = n) (hxy : x ≠ y) :
    ESrc W env ρ iter (.Tuple [.Name x px, .Name y py] k₀ tp) n [x, y] (fun i => [(x, vAt Us i), (y, vAt Vs i)]) := by
  subst hlen; exact ESrc.of h (Srcs.pairs hlen2.symm hxy)
theorem PT.of {W : Wd} {env : Env} {ρ : Rho} {e : Expr} {b b' : Bool} (h : PT W env ρ e b) (e' : b = b') : PT W env ρ e b' := e' ▸ h
theorem PE.of {W : Wd} {env : Env} {ρ : Rho} {e : Expr} {V V' : VP} (h : PE W env ρ e V) (e' : V = V') : PE W env ρ e V' := e' ▸ h
theorem flat_len {t : Nat → Bool} {Z : Nat → List VP} {m : Nat} : ∀ {n : Nat}, (∀ i, i < n → (Z i).length ≤ m) → (flat t Z n).length ≤ n * m
  | 0, _ => Nat.zero_le _
  | n + 1, h => by
    have ih := flat_len (t := t) (Z := Z) (m := m) (n := n) fun i hi => h i (Nat.lt_succ_of_lt hi)
    have := h n (Nat.lt_succ_self n)
    rw [flat, List.length_append, Nat.succ_mul]
    split
    · omega
    · simp only [List.length_nil]; omega
theorem flat_map {α : Type} {t : Nat → Bool} {Z : Nat → List VP} {w : Nat → List α} {f : α → VP} : ∀ {n : Nat}, (∀ i, i < n → t i = true → Z i = (w i).map f) → flat t Z n = ((List.range n).flatMap fun i => if t i then w i else []).map f
  | 0, _ => rfl
  | n + 1, h => by
    rw [flat, flat_map (w := w) (f := f) fun i hi => h i (Nat.lt_succ_of_lt hi), List.range_succ, List.flatMap_append, List.map_append]
    congr 1
    cases ht : t n with
    | true => simp [ht, h n (Nat.lt_succ_self n) ht]
    | false => simp [ht]
end Mine
-- Pm
namespace Mine
section
variable {W : Wd} {env : Env} {ρ ρ' : Rho}
theorem forU_core {g0 : Heap} {A : Around} {Mu : List Addr} {s : Shared} {Q : Flow → Shared → Prop} {E : Value → Shared → Prop} {x y : Str} {px py tp : Pos} {k₀ : Nat} {body : List Stmt} {n : Nat} {Us Vs : Nat → VP} (R : Nat → Rho) {ea : Addr} {fp wr : List Addr} {Pt : Nat → Array Value → Prop} {St : Nat → Heap → Prop} {Mid : Nat → Addr → Heap → Prop} {h₂ h₃ : Heap} {tk₂ : Nat}
    (I₂ : FInv W g0 A env Mu ρ h₂) (k12 : s.heap.StaysIn h₂) (hk₃ : h₂.StaysIn h₃) (Wk : WalksU PG W.w A ea fp wr n Pt St Mid) (hwr : ∀ a ∈ wr, h₂.get? a = none ∧ ∃ o, h₃.get? a = some o) (pinf : ∀ a ∈ fp, ¬ Own W env a) (there : ∀ i h, St i h → ∀ a ∈ fp, ∃ o, h.get? a = some o) (hSt : St 0 h₃)
    (hP : ∀ i vals, i < n → Pt i vals → ∃ u v, vals = #[u, v] ∧ (Us i).p (hideAll h₂ Mu) u ∧ (Vs i).p (hideAll h₂ Mu) v)
    (hx : Kd env x) (hy : Kd env y) (hxy : x ≠ y) (h0 : ∀ p ∈ R 0, p ∈ ρ) (hxy' : ∀ i, ∀ p ∈ R i, p.1 ≠ x ∧ p.1 ≠ y) (hb : ∀ i, i < n → PS W env body ((y, Vs i) :: (x, Us i) :: R i) (R (i + 1)))
    (kk : ∀ h' tk, (∀ b o, ¬ Own W env b → s.heap.get? b = some o → h'.get? b = some o) → FInv W g0 A env Mu (R n) h' → Q .next { s with heap := h', toks := tk }) :
    codeAny (model PG W.w) A (.forLoop (.Tuple [.Name x px, .Name y py] k₀ tp) (.ref ea) body [] env) (fun r s' => match r with | .ok f => Q f s' | .error e => cameBackBy (model PG W.w) A env E e s') { s with heap := h₃, toks := tk₂ } := by
  have pin : ∀ a ∈ wr, ¬ Own W env a := fun a ha => I₂.pin (hwr a ha).1
  have I₃ : FInv W g0 A env (wr ++ Mu) (R 0) h₃ := (I₂.more hk₃ (fun a ha => (List.mem_append.mp ha).elim (fun q => .inr (hwr a q)) .inl) fun a ha => List.mem_append_right _ ha).sub h0
  have hb₃ : (hideAll h₂ Mu).StaysIn (hideAll h₃ (wr ++ Mu)) := hid_new (fun b o _ e => hk₃ b o e) fun a ha => (List.mem_append.mp ha).elim (fun q => .inr (hwr a q).1) .inl
  refine forLoop_gen (fun c s' => ∃ h' tk i, s' = { s with heap := h', toks := tk } ∧ i ≤ n ∧ c = n + 1 - i ∧ St i h' ∧ FInv W g0 A env (wr ++ Mu) (R i) h' ∧ (∀ b o, ¬ Own W env b → b ∉ wr → h₂.get? b = some o → h'.get? b = some o) ∧ (hideAll h₂ Mu).StaysIn (hideAll h' (wr ++ Mu))) ?_ (n + 1)
    ⟨h₃, tk₂, 0, rfl, Nat.zero_le _, rfl, hSt, I₃, fun b o _ _ e => hk₃ b o e, hb₃⟩
  rintro c s' ⟨h', tk, i, rfl, hi', rfl, hS, Iv, hk', hb'⟩
  by_cases hlt' : i < n
  · refine Wk.item i _ _ _ hlt' hS fun T vals h₄ tk₄ hPt hT hM hk₄ => ?_
    obtain ⟨u', u, rfl, hu', hu⟩ := hP i vals hlt' hPt
    refine Wk.go _ _ _ i T _ _ _ hM fun h₅ hS₅ hk₅ => ?_
    have hT₅ : IsTup h₅ T #[u', u] := let ⟨o, ho, r⟩ := hT; ⟨o, hk₅ _ _ (Wk.apart _ _ _ hM) ho, r⟩
    refine assign_Tuple_tuple I₂.inv.ct.handled hT₅ rfl rfl fun h₆ he₆ => ?_
    have k₆ : h₅.StaysIn h₆ := fun b o e => he₆ b o (Nat.ne_of_lt (Heap.lt_size e)) e
    have off6 : ∀ b o, b ∉ wr → h'.get? b = some o → h₆.get? b = some o := fun b o hb e => k₆ _ _ (hk₅ b o hb (hk₄ b o hb e))
    have hS₆ : St (i + 1) h₆ := Wk.frame _ _ _ hS₅ fun a _ o e => k₆ _ _ e
    have I₆ : FInv W g0 A env (wr ++ Mu) (R i) h₆ := Iv.off (Ch := wr) off6 fun a ha => ⟨List.mem_append_left _ ha, pin a ha, there _ _ hS₆ a (Wk.sub _ ha)⟩
    have hb₆ : (hideAll h₂ Mu).StaysIn (hideAll h₆ (wr ++ Mu)) := stays_trans hb' (hid_mono fun b o hb e => off6 b o (fun q => hb (List.mem_append_left _ q)) e)
    refine assignInOrder_cons (wpAny_assign_Name (I₆.store (s := { s with heap := h₆, toks := tk₄ }) (V := Us i) (ρ' := (x, Us i) :: R i) hx ((Us i).mono hb₆ hu') (fun p hp => (List.mem_cons.mp hp).elim .inl fun q => .inr ⟨q, (hxy' i p q).1⟩) fun h₇ tk₇ k₇ I₇ => ?_))
    have m₇ : (hideAll h₆ (wr ++ Mu)).StaysIn (hideAll h₇ (wr ++ Mu)) := hid_mono fun b o hb e => k₇ b o (fun q => hb (I₆.ownM q)) e
    refine assignInOrder_cons (wpAny_assign_Name (I₇.store (s := { s with heap := h₇, toks := tk₇ }) (V := Vs i) (ρ' := (y, Vs i) :: (x, Us i) :: R i) hy ((Vs i).mono m₇ ((Vs i).mono hb₆ hu)) (fun p hp => (List.mem_cons.mp hp).elim .inl fun q => .inr ⟨q, by
      rcases List.mem_cons.mp q with rfl | q
      · exact hxy
      · exact (hxy' i p q).2⟩) fun h₈ tk₈ k₈ I₈ => ?_))
    refine assignInOrder_nil ?_
    refine hb i hlt' g0 A _ { s with heap := h₈, toks := tk₈ } _ _ I₈ fun h₉ tk₉ k₉ I₉ => ?_
    have off9 : ∀ b o, ¬ Own W env b → h₆.get? b = some o → h₉.get? b = some o := fun b o hb e => k₉ b o hb (k₈ b o hb (k₇ b o hb e))
    refine ⟨n + 1 - (i + 1), by omega, h₉, tk₉, i + 1, rfl, hlt', rfl, Wk.frame _ _ _ hS₆ fun a ha o e => off9 a o (pinf a ha) e, I₉, fun b o hb hw' e => off9 b o hb (off6 b o hw' (hk' b o hb hw' e)), ?_⟩
    refine stays_trans hb₆ (hid_mono fun b o hb e => off9 b o (fun q => hb (I₆.ownM q)) e)
  · obtain rfl : i = n := Nat.le_antisymm hi' (Nat.not_lt.mp hlt')
    refine Wk.done _ _ _ hS fun h₄ tk₄ hk₄ => ?_
    refine wpAny_execs_nil ?_
    refine kk h₄ tk₄ (fun b o hb e => ?_) (Iv.drop (Ch := wr) hk₄ (fun a ha => ⟨List.mem_append_left _ ha, pin a ha⟩) (fun a ha => ⟨List.mem_append_right _ ha, fun q => ?_⟩) I₂.ownM)
    · have e₁ := k12 b o e
      have hbw : b ∉ wr := fun q => by rw [(hwr b q).1] at e₁; cases e₁
      exact hk₄ b o hbw (hk' b o hb hbw e₁)
    · obtain ⟨_, o, e⟩ := I₂.mu a ha
      rw [(hwr a q).1] at e; cases e

theorem PX.forEnum {x y ename : Str} {px py tp ep cp pos : Pos} {k₀ : Nat} {arg : Expr} {body : List Stmt} {Vs : List VP} (R : Nat → Rho) (hn : PE W env ρ (.Name ename ep) (VE (.type "enumerate"))) (ha : PE W env ρ arg (VL Vs)) (hx : Kd env x) (hy : Kd env y) (hxy : x ≠ y)
    (h0 : ∀ p ∈ R 0, p ∈ ρ) (hxy' : ∀ i, ∀ p ∈ R i, p.1 ≠ x ∧ p.1 ≠ y) (hb : ∀ i, i < Vs.length → PS W env body ((y, vAt Vs i) :: (x, VI (i : Int)) :: R i) (R (i + 1)))
    (he : starEach [arg] env = (false, eval arg env) :: starEach [] env := by rfl)
    (hs : ∀ v, foldedSetIterable (.Call (.Name ename ep) [arg] [] cp) env v = pure v := by intro _; rfl) : PX W env (.For (.Tuple [.Name x px, .Name y py] k₀ tp) (.Call (.Name ename ep) [arg] [] cp) body [] pos) ρ (R Vs.length) := by
  intro g0 A Mu s Q E I kk
  refine wpAny_For (Call_ (hn A Mu s _ _ I.inv fun v h₁ tk₁ k₁ p₁ => ?_)) hs
  cases p₁
  refine PyProof.Rows.callWith_type1 (PA.cons ha PA.nil he A Mu { s with heap := h₁, toks := tk₁ } _ _ (I.inv.mono k₁) fun vs h₂ tk₂ k₂ p₂ => ?_) he rfl
  match vs, p₂ with
  | [v], p₂ =>
    obtain ⟨l, its, rfl, hp, hv⟩ := VL.isList (s := { s with heap := h₂, toks := tk₂ }) p₂.1
    have I₂ := (I.mono k₁).mono k₂
    have k12 : s.heap.StaysIn h₂ := stays_trans k₁ k₂
    refine call_enumerate_list (s := { s with heap := h₂, toks := tk₂ }) hp.isList fun h₃ hE hIt hsz hk₃ => ?_
    have hl3 : h₃.IsList l its.toArray := (hp.at fun o e => hk₃ _ _ e : h₃.PlainList l its.toArray).isList
    have hlt : l < h₂.objs.size := let ⟨o, e, _⟩ := hp.isList; Heap.lt_size e
    have Wk := (WalksT.enumerate (prog := PG) (w := W.w) (A := A) I₂.inv.ct.handled (h₂.objs.size + 1) h₂.objs.size l (Nat.succ_ne_self _) (Nat.ne_of_lt (Nat.lt_succ_of_lt hlt)) (Nat.ne_of_lt hlt) its.toArray).toU
    have hn' : its.toArray.size = Vs.length := by rw [List.size_toArray, hv.length]
    rw [hn'] at Wk
    have hwr : ∀ a ∈ [h₂.objs.size + 1, h₂.objs.size], h₂.get? a = none ∧ ∃ o, h₃.get? a = some o := fun a ha => by
      rcases List.mem_cons.mp ha with rfl | ha
      · exact ⟨Heap.get?_none_of_le (Nat.le_succ _), _, hE⟩
      · cases List.mem_singleton.mp ha; obtain ⟨o, e, _⟩ := hIt; exact ⟨Heap.get?_none_of_le (Nat.le_refl _), o, e⟩
    have hlM : l ∉ Mu := fun q => by
      obtain ⟨a, its', e, ⟨n, ho⟩, _⟩ := p₂.1
      cases e; rw [hideAll_none Mu q] at ho; cases ho
    have pinl : ¬ Own W env l := fun q => hlM (I₂.ownM q)
    refine Wk.self 0 _ _ _ ⟨⟨_, hE⟩, hIt, hl3⟩ ?_
    refine forU_core (s := s) R I₂ k12 hk₃ Wk hwr (fun a ha => ?_) (fun i h st a ha => ?_) ⟨⟨_, hE⟩, hIt, hl3⟩ (fun i vals hi hP => ?_) hx hy hxy h0 hxy' hb kk
    · rcases List.mem_cons.mp ha with rfl | ha
      · exact I₂.pin (hwr _ (.head _)).1
      · rcases List.mem_cons.mp ha with rfl | ha
        · exact I₂.pin (hwr _ (.tail _ (.head _))).1
        · cases List.mem_singleton.mp ha; exact pinl
    · obtain ⟨⟨old, e1⟩, ⟨o2, e2, _⟩, ⟨o3, e3, _⟩⟩ := st
      rcases List.mem_cons.mp ha with rfl | ha
      · exact ⟨_, e1⟩
      · rcases List.mem_cons.mp ha with rfl | ha
        · exact ⟨_, e2⟩
        · cases List.mem_singleton.mp ha; exact ⟨_, e3⟩
    · obtain ⟨t, u, hu, rfl⟩ := hP
      exact ⟨_, u, rfl, ⟨t, rfl⟩, VsP.at hv (by simpa using hu)⟩
  | [], p₂ => exact p₂.elim
  | _ :: _ :: _, p₂ => exact p₂.2.elim
theorem PE.nm (i : Nat) {x : Str} {pos : Pos} {V : VP} (h : ρ[i]? = some (x, V)) (hd : (x == ("__debug__" : Str)) = false := by decide) (hn : (x == ("__classdict__" : Str)) = false := by decide) : PE W env ρ (.Name x pos) V := PE.name (List.mem_of_getElem? h) hd hn
noncomputable def pick (ρ : Rho) (is : List Nat) : Rho := is.filterMap (ρ[·]?)
theorem pick_mem {ρ : Rho} {is : List Nat} : ∀ p ∈ pick ρ is, p ∈ ρ := fun p hp => by
  obtain ⟨i, _, e⟩ := List.mem_filterMap.mp hp
  exact List.mem_of_getElem? e
theorem up {ρ₀ : Rho} {x : Str} {V : VP} (is : List Nat) (h : pick ρ is = ρ₀) (hn : (ρ₀.all fun p => !(p.1 == x)) = true) : ∀ p ∈ (x, V) :: ρ₀, p = (x, V) ∨ (p ∈ ρ ∧ p.1 ≠ x) := fun p hp => by
  subst h
  rcases List.mem_cons.mp hp with rfl | hp
  · exact .inl rfl
  · exact .inr ⟨pick_mem p hp, by simpa using List.all_eq_true.mp hn p hp⟩
theorem up2 {ρ₀ : Rho} {x y : Str} {U V : VP} (is : List Nat) (h : pick ρ is = ρ₀) (hn : (ρ₀.all fun p => !(p.1 == x) && !(p.1 == y)) = true) : ∀ p ∈ (x, U) :: (y, V) :: ρ₀, p = (x, U) ∨ p = (y, V) ∨ (p ∈ ρ ∧ p.1 ≠ x ∧ p.1 ≠ y) := fun p hp => by
  subst h
  rcases List.mem_cons.mp hp with rfl | hp
  · exact .inl rfl
  · rcases List.mem_cons.mp hp with rfl | hp
    · exact .inr (.inl rfl)
    · exact .inr (.inr ⟨pick_mem p hp, by simpa using List.all_eq_true.mp hn p hp⟩)
theorem sub (is : List Nat) (h : pick ρ is = ρ') : ∀ p ∈ ρ', p ∈ ρ := by subst h; exact pick_mem
theorem F2.iadd {x y : Int} : F2 W (inplaceOp .Add) (VI x) (VI y) (VI (x + y)) := by
  rintro A Mu s _ _ Q E ct mu ⟨t, rfl⟩ ⟨u, rfl⟩ k; exact wpAny_iadd_int (k _ s.heap _ stays_refl ⟨_, rfl⟩)
theorem mulOk {x y : Int} (hx' : x.natAbs < 2 ^ 60) : IntMulOk x y := IntMulOk.of_left (by
  unfold Builtin.Int.intBits
  split
  · exact Nat.zero_le _
  · by_cases h0 : x.natAbs = 0
    · rw [h0]; decide
    · have := (Nat.log2_lt h0).mpr hx'
      omega)
/-- the pairs of a comprehension with two clauses as pairs of lists -/
theorem flat_eq {t : Nat → Bool} {Z : Nat → List VP} : ∀ n, flat t Z n = (List.range n).flatMap fun i => if t i then Z i else []
  | 0 => rfl
  | n + 1 => by rw [flat, flat_eq n, List.range_succ, List.flatMap_append]; simp
theorem vp2_map {α : Type} (l : List α) (f g : α → VP) : vp2 (l.map f) (l.map g) = l.map fun x => VT [f x, g x] := by
  unfold vp2; induction l with
  | nil => rfl
  | cons x r ih => simp [ih]
theorem PX.assign2s {x y : Str} {px py tpos pos : Pos} {k₀ : Nat} {e : Expr} {U V : VP} (he : PE W env ρ e (VT [U, V])) (hx : Kd env x) (hy : Kd env y) (hxy : x ≠ y) (hρ : ∀ p ∈ ρ', p = (x, U) ∨ p = (y, V) ∨ (p ∈ ρ ∧ p.1 ≠ x ∧ p.1 ≠ y))
    (hs : swapsWithSole [.Tuple [.Name x px, .Name y py] k₀ tpos] e pos.line env = pure false) (hw : swappedStores [.Tuple [.Name x px, .Name y py] k₀ tpos] e env = pure (some [x, y])) : PX W env (.Assign [.Tuple [.Name x px, .Name y py] k₀ tpos] e pos) ρ ρ' := fun g0 A Mu s Q E I k =>
  PyProof.Rows.Assign_Tuple_swapped (names := [x, y]) (he A Mu s _ _ I.inv fun v h₁ tk₁ k₁ p₁ => by
    obtain ⟨T, its, rfl, ⟨o, ho, hc, hd⟩, hv⟩ := p₁
    match its, hv with
    | [u, w], hv =>
      have I₁ := I.mono k₁
      refine PyProof.Rows.unpackItems_tuple (s := { s with heap := h₁, toks := tk₁ }) (items := #[u, w]) I₁.inv.ct.handled ⟨o, hid_le _ _ ho, hc, hd⟩ fun h₂ he₂ => ?_
      have k₂ : h₁.StaysIn h₂ := fun b o e => he₂ b o (Nat.ne_of_lt (Heap.lt_size e)) e
      have m₂ : (hideAll h₁ Mu).StaysIn (hideAll h₂ Mu) := hid_mono fun b o _ e => k₂ b o e
      refine assignInOrder_cons (PyProof.Rows.bindName_ ((I₁.mono k₂).store (s := { s with heap := h₂, toks := tk₁ }) (V := V) (ρ' := (y, V) :: ρ.filter (fun p => p.1 != y)) hy (V.mono m₂ hv.2.1) (fun p hp => ?_) fun h₃ tk₃ k₃ I₃ => ?_))
      · rcases List.mem_cons.mp hp with rfl | hp
        · exact .inl rfl
        · obtain ⟨a, b⟩ := List.mem_filter.mp hp
          exact .inr ⟨a, by simpa using b⟩
      have m₃ : (hideAll h₂ Mu).StaysIn (hideAll h₃ Mu) := hid_mono fun b o hb e => k₃ b o (fun q => hb (I.ownM q)) e
      refine assignInOrder_cons (PyProof.Rows.bindName_ (I₃.store (s := { s with heap := h₃, toks := tk₃ }) (V := U) (ρ' := ρ') hx (U.mono m₃ (U.mono m₂ hv.1)) (fun p hp => ?_) fun h₄ tk₄ k₄ I₄ => ?_))
      · rcases hρ p hp with rfl | rfl | ⟨a, b, c⟩
        · exact .inl rfl
        · exact .inr ⟨.head _, Ne.symm hxy⟩
        · exact .inr ⟨.tail _ (List.mem_filter.mpr ⟨a, by simpa using c⟩), b⟩
      exact assignInOrder_nil (k h₄ tk₄ (fun b o hb e => k₄ b o hb (k₃ b o hb (k₂ b o (k₁ b o e)))) I₄)
    | [], hv => exact hv.elim
    | [_], hv => exact hv.2.elim
    | _ :: _ :: _ :: _, hv => exact hv.2.2.elim) hs hw
end
end Mine
-- Pn
namespace Mine
section
variable {W : Wd} {env : Env} {ρ ρ' : Rho}
/-- statements that end with a return -/
noncomputable def PRa (g0 : Heap) (W : Wd) (env : Env) (sts : List Stmt) (ρ : Rho) (V : VP) : Prop := ∀ (A : Around) (Mu : List Addr) (s : Shared) (Q : Flow → Shared → Prop) (E : Value → Shared → Prop), FInv W g0 A env Mu ρ s.heap →
  (∀ v h' tk, (∀ b o, ¬ Own W env b → s.heap.get? b = some o → h'.get? b = some o) → FrK W h' → V.p h' v → Q (.ret v) { s with heap := h', toks := tk }) → wpAny (model PG W.w) A (execs sts env) Q E s
noncomputable def PR (W : Wd) (env : Env) (sts : List Stmt) (ρ : Rho) (V : VP) : Prop := ∀ g0, PRa g0 W env sts ρ V
theorem PRa.cons {g0 : Heap} {st : Stmt} {sts : List Stmt} {V : VP} (h : PX W env st ρ ρ') (hr : PRa g0 W env sts ρ' V) : PRa g0 W env (st :: sts) ρ V := fun A Mu s Q E I k =>
  wpAny_execs_cons (h g0 A Mu s _ _ I fun h' tk k' I' => hr A Mu { s with heap := h', toks := tk } _ _ I' fun v h₂ tk₂ k₂ r₂ p₂ => k v h₂ tk₂ (fun b o hb e => k₂ b o hb (k' b o hb e)) r₂ p₂)
theorem PR.cons {st : Stmt} {sts : List Stmt} {V : VP} (h : PX W env st ρ ρ') (hr : PR W env sts ρ' V) : PR W env (st :: sts) ρ V := fun g0 => (hr g0).cons h
theorem PRa.ret {g0 : Heap} {e : Expr} {pos : Pos} {sts : List Stmt} {U V : VP} (he : PE W env ρ e U) (hu : ∀ h v, U.p h v → V.p h v) : PRa g0 W env (.Return (some e) pos :: sts) ρ V := fun A Mu s Q E I k =>
  wpAny_execs_cons (wpAny_Return_some (he A Mu s _ _ I.inv fun v h₁ tk₁ k₁ p₁ => k v h₁ tk₁ (fun b o _ e => k₁ b o e) (I.mono k₁).frK (V.mono hid_le (hu _ _ p₁))))
theorem PR.ret {e : Expr} {pos : Pos} {sts : List Stmt} {V : VP} (he : PE W env ρ e V) : PR W env (.Return (some e) pos :: sts) ρ V := fun g0 => PRa.ret he fun _ _ h => h
theorem PR.of {sts : List Stmt} {V V' : VP} (h : PR W env sts ρ V) (e : V = V') : PR W env sts ρ V' := e ▸ h

/-- a call of a def that changes nothing of ours and whose answer is a plain value -/
theorem FC.ofDef {f : Addr} {oc : Value} {od : Option Addr} {osl : Array (Option Value)} {name qual : Str} {params : Arguments} {body : List Stmt} {scope : Scope} {dV kV doc pm cdv ct : Value} {an : Option Addr} {Vs : List VP} {V : VP} {xs : List Str}
    (hlv : 1 ≤ W.lv) (ho : (KF W.w.params).lookup f = some ⟨oc, od, .func (fnOf name qual params body scope dV kV doc pm an cdv ct), osl⟩) (hcd : codeIn (KF W.w.params) cdv qual = true)
    (hbind : ∀ vs : List Value, vs.length = xs.length → bindArgs (fnOf name qual params body scope dV kV doc pm an cdv ct) ⟨vs, []⟩ = pure (xs.zip vs)) (hxs : xs.Nodup) (hlen : Vs.length = xs.length)
    (hkind : ∀ n, ∀ x ∈ xs, scope.names.lookup x = some .local ∨ (scope.names.lookup x = some .cell ∧ ((cellsFrom n scope.names []).lookup x).isSome = true)) (hnd : ((cellsFrom 0 scope.names []).map (·.1)).Nodup)
    (hco : scope.isCoroutine = false) (hgen : scope.isGenerator = false) (hk : scope.kind = .function) {V' : Heap → VP} (hflat : ∀ g0 h Mu v, (∀ a ∈ Mu, ∃ o, g0.get? a = some o) → (V' g0).p h v → V.p (hideAll h Mu) v)
    (h : ∀ L g0, PRa g0 W.down (defEnv qual scope L f cdv) body (zipRho xs Vs) (V' g0)) : FC W (.ref f) Vs V := by
  intro A Mu s vs Q E ct mu p k
  refine call_def (X := []) (MuC := Mu) (g0 := s.heap) hlv ct stays_refl (Nat.le_refl _) ho hcd (hbind vs (by rw [p.length, hlen])) hxs (by rw [p.length, hlen]) hkind hnd p (fun a ha => by cases ha) hco hgen hk fun L h₁ tk k₁ I hown E' => ?_
  refine h L _ _ _ { s with heap := h₁, toks := tk } _ _ I fun v h₂ tk₂ k₂ _ p₂ => ?_
  exact k v h₂ tk₂ (fun b o e => k₂ b o (fun q => by rw [hown b q] at e; cases e) (k₁ b o e)) (hflat _ _ _ _ mu p₂)
end
end Mine
-- Pp
namespace Mine
section
variable {W : Wd} {env : Env} {ρ : Rho}
theorem F2.floordiv {x y : Int} (hy : y ≠ 0) (hp : Builtin.divisionGoesByPylong x y = false) : F2 W (binaryOp .FloorDiv) (VI x) (VI y) (VI (x.fdiv y)) := by
  rintro A Mu s _ _ Q E ct mu ⟨t, rfl⟩ ⟨u, rfl⟩ k; exact PyProof.Rows.floordiv_int hy (k _ s.heap _ stays_refl ⟨_, rfl⟩) (.inl hp)
theorem FC.lenS {x : Str} (h : x.length ≤ 1000) : FC W (.builtin "len") [VS x] (VI x.length) := by
  intro A Mu s vs Q E ct mu p k
  match vs, p with
  | [v], p =>
    obtain ⟨t, rfl⟩ := p.1
    exact PySem.P.len_str (by omega) (k _ s.heap _ stays_refl ⟨_, rfl⟩)
  | [], p => exact p.elim
  | _ :: _ :: _, p => exact p.2.elim
/-- two lists in step -/
theorem ESrc.zip {e : Expr} {es : List Expr} {zx : Str} {zp pos px py tp : Pos} {k₀ : Nat} {x y : Str} {Us Vs : List VP} {n : Nat} (hn : PE W env ρ (.Name zx zp) (VE (.type "zip"))) (ha : PA W env ρ pos (e :: es) [VL Us, VL Vs]) (hl : min Us.length Vs.length = n) (hxy : x ≠ y)
    (he : starEach (e :: es) env = (false, eval e env) :: starEach es env := by rfl) (hp : (backTo pos (starEach es env)).any (·.1) = false := by rfl) :
    ESrc W env ρ (.Call (.Name zx zp) (e :: es) [] pos) (.Tuple [.Name x px, .Name y py] k₀ tp) n [x, y] (fun i => [(x, vAt Us i), (y, vAt Vs i)]) := by
  intro A Mu s Q E I k
  refine Call_ (hn A Mu s _ _ I fun v h₁ tk₁ k₁ p₁ => ?_)
  cases p₁
  refine PyProof.Rows.callWith_type1 (ha A Mu { s with heap := h₁, toks := tk₁ } _ _ (I.mono k₁) fun vs h₂ tk₂ k₂ p₂ => ?_) he hp
  match vs, p₂ with
  | [v, u], p₂ =>
    obtain ⟨l1, xs, rfl, hp1, hv1⟩ := VL.isList (s := { s with heap := h₂, toks := tk₂ }) p₂.1
    obtain ⟨l2, ys, rfl, hp2, hv2⟩ := VL.isList (s := { s with heap := h₂, toks := tk₂ }) p₂.2.1
    have I₂ := (I.mono k₁).mono k₂
    have k12 : s.heap.StaysIn h₂ := stays_trans k₁ k₂
    have lM : ∀ (l : Addr) {Vs : List VP}, (VL Vs).p (hideAll h₂ Mu) (.ref l) → l ∉ Mu := fun l Vs q h => by
      obtain ⟨a, its', e, ⟨n, ho⟩, _⟩ := q
      cases e; rw [hideAll_none Mu h] at ho; cases ho
    have lt1 : l1 < h₂.objs.size := let ⟨o, e, _⟩ := hp1.isList; Heap.lt_size e
    have lt2 : l2 < h₂.objs.size := let ⟨o, e, _⟩ := hp2.isList; Heap.lt_size e
    refine call_zip_2 (s := { s with heap := h₂, toks := tk₂ }) hp1.isList hp2.isList fun h₃ hz hTI hTO hi1 hi2 hsz hk₃ => ?_
    have hl1 : h₃.IsList l1 xs.toArray := (hp1.at fun o e => hk₃ _ _ e : h₃.PlainList l1 xs.toArray).isList
    have hl2 : h₃.IsList l2 ys.toArray := (hp2.at fun o e => hk₃ _ _ e : h₃.PlainList l2 ys.toArray).isList
    have Wk := (WalksT.zip2 (prog := PG) (w := W.w) (A := A) I₂.ct.handled _ _ _ _ _ _ _ (zipApart_new lt1 lt2) xs.toArray ys.toArray).toU
    have hn' : min xs.toArray.size ys.toArray.size = n := by rw [List.size_toArray, List.size_toArray, hv1.length, hv2.length, hl]
    rw [hn'] at Wk
    have st0 := (⟨hz, hTI, ⟨_, _, hTO⟩, hi1, hi2, hl1, hl2⟩ : IsZip h₃ (h₂.objs.size + 4) (h₂.objs.size + 2) (h₂.objs.size + 3) .none ∧ IsPair h₃ (h₂.objs.size + 2) (.ref h₂.objs.size) (.ref (h₂.objs.size + 1)) ∧ (∃ a b, IsPair h₃ (h₂.objs.size + 3) a b) ∧ h₃.IsListIter h₂.objs.size l1 0 ∧ h₃.IsListIter (h₂.objs.size + 1) l2 0 ∧ h₃.IsList l1 xs.toArray ∧ h₃.IsList l2 ys.toArray)
    have new : ∀ a, h₂.objs.size ≤ a → s.heap.get? a = none := fun a ha => by
      cases q : s.heap.get? a with
      | none => rfl
      | some o => have := k12 _ _ q; rw [Heap.get?_none_of_le ha] at this; cases this
    have ex0 : ∀ a ∈ [h₂.objs.size + 4, h₂.objs.size + 3, h₂.objs.size, h₂.objs.size + 1], s.heap.get? a = none ∧ ∃ o, h₃.get? a = some o := fun a ha => by
      obtain ⟨o1, e1, _⟩ := hi1
      obtain ⟨o2, e2, _⟩ := hi2
      rcases List.mem_cons.mp ha with rfl | ha
      · exact ⟨new _ (Nat.le_add_right _ _), _, hz⟩
      rcases List.mem_cons.mp ha with rfl | ha
      · exact ⟨new _ (Nat.le_add_right _ _), _, hTO⟩
      rcases List.mem_cons.mp ha with rfl | ha
      · exact ⟨new _ (Nat.le_refl _), _, e1⟩
      · cases List.mem_singleton.mp ha; exact ⟨new _ (Nat.le_add_right _ _), _, e2⟩
    have nM : ∀ a, h₂.objs.size ≤ a → a ∉ Mu := fun a ha q => Nat.lt_irrefl _ (Nat.lt_of_lt_of_le (mu_lt I₂.mu q) ha)
    refine Wk.self 0 _ _ _ st0 ?_
    refine k _ h₃ tk₂ _ _ _ (hideAll h₂ Mu) (stays_trans k12 hk₃) ex0 (fun a ha => ?_) st0 (hid_new (fun b o _ e => hk₃ b o e) fun a ha => (List.mem_append.mp ha).elim (fun q => .inr ?_) .inl) fun cenv hkf hx hCf =>
      TSrc.ofWalksU Wk I₂.ct.handled (fun i h st b hb => ?_) hkf (hx _ (.head _)) (hx _ (.tail _ (.head _))) hxy hCf fun i v hi hP => ?_
    · show a ∉ Mu ∧ a < h₃.objs.size
      have hsz : h₃.objs.size = h₂.objs.size + 5 := hsz
      rw [hsz]
      rcases List.mem_cons.mp ha with rfl | ha
      · exact ⟨nM _ (Nat.le_add_right _ _), Nat.add_lt_add_left (by decide) _⟩
      rcases List.mem_cons.mp ha with rfl | ha
      · exact ⟨nM _ (Nat.le_add_right _ _), Nat.add_lt_add_left (by decide) _⟩
      rcases List.mem_cons.mp ha with rfl | ha
      · exact ⟨nM _ (Nat.le_add_right _ _), Nat.add_lt_add_left (by decide) _⟩
      rcases List.mem_cons.mp ha with rfl | ha
      · exact ⟨nM _ (Nat.le_refl _), Nat.lt_add_of_pos_right (by decide)⟩
      rcases List.mem_cons.mp ha with rfl | ha
      · exact ⟨nM _ (Nat.le_add_right _ _), Nat.add_lt_add_left (by decide) _⟩
      rcases List.mem_cons.mp ha with rfl | ha
      · exact ⟨lM _ p₂.1, Nat.lt_of_lt_of_le lt1 (Nat.le_add_right _ _)⟩
      · cases List.mem_singleton.mp ha; exact ⟨lM _ p₂.2.1, Nat.lt_of_lt_of_le lt2 (Nat.le_add_right _ _)⟩
    · refine Heap.get?_none_of_le ?_
      rcases List.mem_cons.mp q with rfl | q
      · exact Nat.le_add_right _ _
      rcases List.mem_cons.mp q with rfl | q
      · exact Nat.le_add_right _ _
      rcases List.mem_cons.mp q with rfl | q
      · exact Nat.le_refl _
      · cases List.mem_singleton.mp q; exact Nat.le_add_right _ _
    · obtain ⟨z1, z2, ⟨_, _, z3⟩, ⟨o4, z4, _⟩, ⟨o5, z5, _⟩, ⟨o6, z6, _⟩, ⟨o7, z7, _⟩⟩ := st
      rcases List.mem_cons.mp hb with rfl | hb
      · exact ⟨_, z1⟩
      rcases List.mem_cons.mp hb with rfl | hb
      · exact ⟨_, z2⟩
      rcases List.mem_cons.mp hb with rfl | hb
      · exact ⟨_, z3⟩
      rcases List.mem_cons.mp hb with rfl | hb
      · exact ⟨_, z4⟩
      rcases List.mem_cons.mp hb with rfl | hb
      · exact ⟨_, z5⟩
      rcases List.mem_cons.mp hb with rfl | hb
      · exact ⟨_, z6⟩
      · cases List.mem_singleton.mp hb; exact ⟨_, z7⟩
    · obtain ⟨a, b, h1, h2, rfl⟩ := hP
      exact ⟨a, b, rfl, VsP.at hv1 (by simpa using h1), VsP.at hv2 (by simpa using h2)⟩
  | [], p₂ => exact p₂.elim
  | [_], p₂ => exact p₂.2.elim
  | _ :: _ :: _ :: _, p₂ => exact p₂.2.2.elim

/-- the table of the tokens -/
noncomputable def tokD (P : Params) : { o // (KF P).lookup 73 = some o } := ⟨tkO P, by with_unfolding_all rfl⟩
noncomputable def tokEs (P : Params) : List DictEntry := match (tokD P).1.data with | .dict es _ => es.toList | _ => []
noncomputable def tokEp (P : Params) : Nat := match (tokD P).1.data with | .dict _ ep => ep | _ => 0
noncomputable def keyS : Value → Str | .str x _ => x | _ => ⟨#[]⟩
noncomputable def keyT : Value → Tok | .str _ t => t | _ => 0
noncomputable def tokL (P : Params) : List (Str × Tok × Value) := (tokEs P).map fun e => (keyS e.key, keyT e.key, e.val)
theorem tokL_es (P : Params) : ((tokL P).map fun x => (⟨PyData.keyHash P x.1, .str x.1 x.2.1, x.2.2⟩ : DictEntry)) = tokEs P := by kernel_rfl
theorem tok_data (P : Params) : (tokD P).1.data = .dict (tokEs P).toArray (tokEp P) := by kernel_rfl
theorem tok_cls (P : Params) : (tokD P).1.ExactDict := ⟨by kernel_rfl, by kernel_rfl, by kernel_rfl⟩
noncomputable def tokKv (P : Params) : List (Str × Value) := (tokL P).map fun x => (x.1, x.2.2)
noncomputable def tokK (P : Params) : List Str := (tokKv P).map (·.1)
noncomputable def ndB : List Str → Bool
  | [] => true
  | x :: r => r.all (fun y => !(x == y)) && ndB r
theorem ndB_nodup : ∀ {l : List Str}, ndB l = true → l.Nodup
  | [], _ => List.nodup_nil
  | x :: r, h => by
    unfold ndB at h
    rw [Bool.and_eq_true] at h
    refine List.nodup_cons.mpr ⟨fun q => ?_, ndB_nodup h.2⟩
    have := List.all_eq_true.mp h.1 x q
    simp at this
theorem tokK_nd (P : Params) : (tokK P).Nodup := ndB_nodup (by kernel_rfl)
theorem tok_pairs {P : Program} {w : World} : ∀ l : List (Str × Tok × Value), Pairs (strKind P w) (l.map fun x => (⟨PyData.keyHash w.params x.1, .str x.1 x.2.1, x.2.2⟩ : DictEntry)) (l.map fun x => (x.1, x.2.2))
  | [] => .nil
  | x :: r => .cons (by show Value.isStrOf x.1 (.str x.1 x.2.1) = true; simp [Value.isStrOf]) rfl (tok_pairs r)
theorem tok_dictAt {h : Heap} (X : (KF W.w.params).In h) : h.DictAt (strKind PG W.w) 73 (tokKv W.w.params) (tokEp W.w.params) := by
  refine ⟨_, _, X _ _ (tokD W.w.params).2, tok_cls _, tok_data _, fun e he => ?_, ?_, tokK_nd _⟩
  · have he : e ∈ tokEs W.w.params := by simpa using he
    rw [← tokL_es] at he
    obtain ⟨x, hx, rfl⟩ := List.mem_map.mp he
    exact ⟨x.1, by show Value.isStrOf x.1 (.str x.1 x.2.1) = true; simp [Value.isStrOf], rfl⟩
  · rw [List.toList_toArray, ← tokL_es]; exact tok_pairs _
theorem ESrc.tok {n : Nat} {x nx : Str} {np px : Pos} {ks : List Str} (hn : PE W env ρ (.Name nx np) (VE (.ref 73))) (hk : tokK W.w.params = ks) (hl : ks.length = n) : ESrc W env ρ (.Name nx np) (.Name x px) n [x] (fun i => [(x, VS (ks.getD i ⟨#[]⟩))]) := by
  intro A Mu s Q E I k
  refine hn A Mu s _ _ I fun v h₁ tk₁ k₁ p₁ => ?_
  cases p₁
  have I₁ := I.mono k₁
  have hd := tok_dictAt (W := W) I₁.ct.X
  have lt := hd.lt_size
  have hkl : (tokKv W.w.params).length = n := by rw [← hl, ← hk, tokK, List.length_map]
  have hn0 : h₁.get? h₁.objs.size = none := stays_refl.fresh
  have nM : h₁.objs.size ∉ Mu := fun q => Nat.lt_irrefl _ (mu_lt I₁.mu q)
  have sM : (73 : Addr) ∉ Mu := fun q => by have := I₁.sta _ q; rw [(tokD W.w.params).2] at this; cases this
  refine wpAny_pyIter_dict (s := { s with heap := h₁, toks := tk₁ }) (by decide) hd ?_
  have Wk := Walks.dictKeys (prog := PG) (w := W.w) (A := A) (knd := strKind PG W.w) I₁.ct.handled h₁.objs.size 73 (Nat.ne_of_lt lt) (tokKv W.w.params) (tokEp W.w.params)
  rw [hkl] at Wk ⊢
  refine k h₁.objs.size _ tk₁ [h₁.objs.size, 73] [h₁.objs.size] _ (hideAll h₁ Mu) (stays_trans k₁ (stays_push _)) (fun b hb => ?_) (fun b hb => ?_) ⟨⟨_, Heap.get?_push_size _ rfl, rfl, rfl⟩, hd.push _⟩ (hid_new (fun b o _ e => stays_push _ b o e) fun a ha => (List.mem_append.mp ha).elim (fun q => .inr (List.mem_singleton.mp q ▸ hn0)) .inl) fun cenv hkf hx hCf =>
    TSrc.ofWalks Wk (fun i h st b hb => ?_) hkf (hx _ (.head _)) hCf fun i v hi hP => ?_
  · cases List.mem_singleton.mp hb
    refine ⟨?_, _, Heap.get?_push_size _ rfl⟩
    cases q : s.heap.get? h₁.objs.size with
    | none => rfl
    | some o => have := k₁ _ _ q; rw [hn0] at this; cases this
  · show b ∉ Mu ∧ b < (h₁.push _).objs.size
    rw [Heap.size_push]
    rcases List.mem_cons.mp hb with rfl | hb
    · exact ⟨nM, Nat.lt_succ_self _⟩
    · cases List.mem_singleton.mp hb; exact ⟨sM, Nat.lt_succ_of_lt lt⟩
  · obtain ⟨⟨o, e, _⟩, ⟨o', _, e', _⟩⟩ := st
    rcases List.mem_cons.mp hb with rfl | hb
    · exact ⟨_, e⟩
    · cases List.mem_singleton.mp hb; exact ⟨_, e'⟩
  · obtain ⟨key, y, hy, his⟩ := hP
    obtain ⟨t, rfl⟩ := Value.isStrOf_shape his
    have : ks[i]? = some key := by rw [← hk, tokK, List.getElem?_map, hy]; rfl
    rw [List.getD_eq_getElem?_getD, this]; exact ⟨t, rfl⟩
theorem F2.itemTok {value slice : Expr} {k : Str} {n : Int} (hV : ∃ u, findBy (fun k v => v.isStr k) (tokEs W.w.params).toArray k = some (.int n u)) (hex : ((tokEs W.w.params).toArray.all fun e => isExactStrKey e.key) = true)
    (hs : ∀ l u, subscripted slice false (.ref l) (.str k u) = operate [.ref l, .str k u] (getItem (.ref l) (.str k u)) := by intro _ _; with_unfolding_all rfl)
    (hg : ∀ l r, letTemporaryGo value (.ref l) r = pure () := by intro _ _; with_unfolding_all rfl) : F2 W (subscriptTail value slice) (VE (.ref 73)) (VS k) (VI n) := by
  intro A Mu s a b Q E ct mu pa pb kk
  cases pa
  obtain ⟨tk, rfl⟩ := pb
  obtain ⟨u, hu⟩ := hV
  have ho := ct.X _ _ (tokD W.w.params).2
  have hT : s.TypeIs (.ref 73) "dict" := ⟨_, ho, (tok_cls _).1⟩
  refine subscriptTail_builtin hT slot_dict_getitem.lookup ?_ (hs 73 tk) (hg 73)
  unfold getItem
  try with_reducible refine wpAny_holding ?_
  refine wpAny_bind (wpAny_sequenceKey hT (by decide) ?_)
  refine wpAny_bind (wpAny_callSpecial?_slot (name := Str.ofString "__getitem__") hT slot_dict_getitem
    (wpAny_call_entry slot_dict_getitem hT entry_dict_getitem ?_ (args_dict_getitem _ _)))
  show wpAny _ _ (dictGet 73 (.str k tk) >>= _) _ _ s
  refine wpAny_bind ?_
  unfold dictGet
  try with_reducible refine wpAny_holding ?_
  refine wpAny_bind (wpAny_pyHash_str (wpAny_bind (KTD.kt_dictFind_strs (s := { s with toks := s.toks + 1 }) ho (tok_data _) hex ?_)))
  rw [findBy_of_findIdx?] at hu
  cases hi : (tokEs W.w.params).toArray.findIdx? fun e => e.key.isStr k with
  | none => rw [hi] at hu; cases hu
  | some i =>
    rw [hi] at hu
    refine wpAny_bind (wpAny_dictEntries (s := { s with toks := s.toks + 1 }) ho (tok_data _) (wpAny_pure ?_))
    rw [show (tokEs W.w.params).toArray[i]?.map (·.val) = some (.int n u) from hu]
    exact wpAny_pure ⟨_, rfl, wpAny_pure (kk _ s.heap _ stays_refl ⟨_, rfl⟩)⟩
end
end Mine
-- Pq
namespace Mine
noncomputable def VA (U V : VP) : VP := ⟨fun h v => U.p h v ∧ V.p h v, fun k x => ⟨U.mono k x.1, V.mono k x.2⟩⟩
/-- a fact about the objects Ps alone -/
noncomputable def Stb (Ps : List Addr) (J : Heap → Prop) : Prop := ∀ h h' : Heap, (∀ a ∈ Ps, ∀ o, h.get? a = some o → h'.get? a = some o) → J h → J h'
noncomputable def less (Mu Ps : List Addr) : List Addr := Mu.filter fun a => !Ps.contains a
theorem mem_less {Mu Ps : List Addr} {a : Addr} : a ∈ less Mu Ps ↔ a ∈ Mu ∧ a ∉ Ps := by unfold less; simp
/-- a table of a code object, as it has grown -/
noncomputable def GrJ (P : Addr) (h : Heap) : Prop := ∃ ps, h.get? P = some (tabObj ps)
theorem GrJ.stb {P : Addr} : Stb [P] (GrJ P) := fun h h' e ⟨ps, x⟩ => ⟨ps, e P (.head _) _ x⟩
noncomputable def Zt (a : Addr) (o : Obj) : Prop := (a = 84 ∨ a = 120) → ∃ ps, o = tabObj ps
theorem zt_big {a : Addr} {o : Obj} (h : 123 < a) : Zt a o := fun q => by rcases q with rfl | rfl <;> exact absurd h (by decide)
theorem zt_gr {P a : Addr} {o : Obj} {h : Heap} (x : GrJ P h) (ha : a ∈ [P]) (e : h.get? a = some o) : Zt a o := fun _ => by
  cases List.mem_singleton.mp ha
  obtain ⟨ps, x⟩ := x
  rw [x] at e; cases e; exact ⟨ps, rfl⟩
section
variable {W : Wd} {env : Env} {ρ ρ' ρ'' : Rho} {g0 h : Heap} {A : Around} {Mu Ps : List Addr} {J J' J'' : Heap → Prop}
theorem PE.weak {e : Expr} {U V : VP} (h : PE W env ρ e U) (hu : ∀ h v, U.p h v → V.p h v) : PE W env ρ e V := fun A Mu s Q E I k => h A Mu s Q E I fun v h' tk k' p => k v h' tk k' (hu _ _ p)
/-- the changing objects are seen as they stand -/
theorem FInv.reveal (I : FInv W g0 A env Mu ρ h) (hP : ∀ a ∈ Ps, a ∈ Mu ∧ ¬ Own W env a) (st : Stb Ps J) (hJ : J h) (hre : ∀ p ∈ ρ', p ∈ ρ ∨ ∃ P, (p.1, VE (.ref P)) ∈ ρ ∧ ∀ h, J h → p.2.p h (.ref P)) : FInv W g0 A env (less Mu Ps) ρ' h := by
  have I' := I.bare (Mu' := less Mu Ps) (fun a ha => (mem_less.mp ha).1) fun q => mem_less.mpr ⟨I.ownM q, fun z => (hP _ z).2 q⟩
  refine ⟨I'.S, I'.keep, I'.above, I'.ns, I'.lm, I'.mu, I'.cel, I'.apart, fun p hp => ?_, I'.hfm, I'.fr, I'.hap, I'.sa⟩
  rcases hre p hp with q | ⟨P, q, hq⟩
  · exact I'.vars p q
  · obtain ⟨v, l, e⟩ := I'.vars _ q
    cases e
    exact ⟨_, l, hq _ (st h _ (fun a ha o e => hideAll_get _ e fun z => (mem_less.mp z).2 ha) hJ)⟩

noncomputable def PXJ (W : Wd) (env : Env) (Ps : List Addr) (st : Stmt) (ρ : Rho) (J : Heap → Prop) (ρ' : Rho) (J' : Heap → Prop) : Prop := ∀ (g0 : Heap) (A : Around) (Mu : List Addr) (s : Shared) (Q : Flow → Shared → Prop) (E : Value → Shared → Prop), (∀ a ∈ Ps, a ∈ Mu ∧ ¬ Own W env a) → FInv W g0 A env Mu ρ s.heap → J s.heap →
  (∀ h' tk, (∀ b o, ¬ Own W env b → b ∉ Ps → s.heap.get? b = some o → h'.get? b = some o) → FInv W g0 A env Mu ρ' h' → J' h' → Q .next { s with heap := h', toks := tk }) → wpAny (model PG W.w) A (exec st env) Q E s
noncomputable def PSJ (W : Wd) (env : Env) (Ps : List Addr) (sts : List Stmt) (ρ : Rho) (J : Heap → Prop) (ρ' : Rho) (J' : Heap → Prop) : Prop := ∀ (g0 : Heap) (A : Around) (Mu : List Addr) (s : Shared) (Q : Flow → Shared → Prop) (E : Value → Shared → Prop), (∀ a ∈ Ps, a ∈ Mu ∧ ¬ Own W env a) → FInv W g0 A env Mu ρ s.heap → J s.heap →
  (∀ h' tk, (∀ b o, ¬ Own W env b → b ∉ Ps → s.heap.get? b = some o → h'.get? b = some o) → FInv W g0 A env Mu ρ' h' → J' h' → Q .next { s with heap := h', toks := tk }) → wpAny (model PG W.w) A (execs sts env) Q E s
theorem PSJ.nil : PSJ W env Ps [] ρ J ρ J := fun g0 A Mu s Q E hP I hJ k => wpAny_execs_nil (k s.heap s.toks (fun _ _ _ _ e => e) I hJ)
theorem PSJ.cons {st : Stmt} {sts : List Stmt} (h : PXJ W env Ps st ρ J ρ' J') (hr : PSJ W env Ps sts ρ' J' ρ'' J'') : PSJ W env Ps (st :: sts) ρ J ρ'' J'' := fun g0 A Mu s Q E hP I hJ k =>
  wpAny_execs_cons (h g0 A Mu s _ _ hP I hJ fun h' tk k' I' hJ' => hr g0 A Mu { s with heap := h', toks := tk } _ _ hP I' hJ' fun h₂ tk₂ k₂ I₂ hJ₂ => k h₂ tk₂ (fun b o hb hb' e => k₂ b o hb hb' (k' b o hb hb' e)) I₂ hJ₂)
theorem PSJ.weak {sts : List Stmt} (h : PSJ W env Ps sts ρ J ρ' J') (hs : ∀ p ∈ ρ'', p ∈ ρ') : PSJ W env Ps sts ρ J ρ'' J' := fun g0 A Mu s Q E hP I hJ k => h g0 A Mu s Q E hP I hJ fun h' tk k' I' hJ' => k h' tk k' (I'.sub hs) hJ'
theorem PXJ.of {st : Stmt} (h : PX W env st ρ ρ') (sb : Stb Ps J) : PXJ W env Ps st ρ J ρ' J := fun g0 A Mu s Q E hP I hJ k => by
  refine h g0 A Mu s Q E I fun h' tk k' I' => k h' tk (fun b o hb _ e => k' b o hb e) I' (sb _ _ (fun a ha o e => k' a o (hP a ha).2 e) hJ)
/-- an if whose test sees the changing objects -/
theorem PXJ.ite {test : Expr} {body orelse : List Stmt} {pos : Pos} {b : Bool} (sb : Stb Ps J) (ρr : Rho) (hre : ∀ p ∈ ρr, p ∈ ρ ∨ ∃ P, (p.1, VE (.ref P)) ∈ ρ ∧ ∀ h, J h → p.2.p h (.ref P)) (ht : PT W env ρr test b) (h1 : b = true → PSJ W env Ps body ρ J ρ' J') (h2 : b = false → PSJ W env Ps orelse ρ J ρ' J') : PXJ W env Ps (.If test body orelse pos) ρ J ρ' J' := fun g0 A Mu s Q E hP I hJ k =>
  wpAny_If (ht A _ s _ _ (I.reveal hP sb hJ hre).inv fun h₁ tk₁ k₁ => by
    have J₁ := sb _ _ (fun a _ o e => k₁ a o e) hJ
    cases b with
    | true => exact h1 rfl g0 A Mu { s with heap := h₁, toks := tk₁ } Q E hP (I.mono k₁) J₁ fun h₂ tk₂ k₂ I₂ => k h₂ tk₂ (fun b o hb hb' e => k₂ b o hb hb' (k₁ b o e)) I₂
    | false => exact h2 rfl g0 A Mu { s with heap := h₁, toks := tk₁ } Q E hP (I.mono k₁) J₁ fun h₂ tk₂ k₂ I₂ => k h₂ tk₂ (fun b o hb hb' e => k₂ b o hb hb' (k₁ b o e)) I₂)
/-- statements that end with a return, with changing objects -/
noncomputable def PRJ (g0 : Heap) (W : Wd) (env : Env) (Ps : List Addr) (sts : List Stmt) (ρ : Rho) (J : Heap → Prop) (V : VP) : Prop := ∀ (A : Around) (Mu : List Addr) (s : Shared) (Q : Flow → Shared → Prop) (E : Value → Shared → Prop), (∀ a ∈ Ps, a ∈ Mu ∧ ¬ Own W env a) → FInv W g0 A env Mu ρ s.heap → J s.heap →
  (∀ v h' tk, (∀ b o, ¬ Own W env b → b ∉ Ps → s.heap.get? b = some o → h'.get? b = some o) → (∀ a ∈ Ps, ∃ o, h'.get? a = some o ∧ Zt a o) → FrK W h' → V.p h' v → Q (.ret v) { s with heap := h', toks := tk }) → wpAny (model PG W.w) A (execs sts env) Q E s
theorem PRJ.cons {st : Stmt} {sts : List Stmt} {V : VP} (h : PXJ W env Ps st ρ J ρ' J') (hr : PRJ g0 W env Ps sts ρ' J' V) : PRJ g0 W env Ps (st :: sts) ρ J V := fun A Mu s Q E hP I hJ k =>
  wpAny_execs_cons (h g0 A Mu s _ _ hP I hJ fun h' tk k' I' hJ' => hr A Mu { s with heap := h', toks := tk } _ _ hP I' hJ' fun v h₂ tk₂ k₂ x₂ r₂ p₂ => k v h₂ tk₂ (fun b o hb hb' e => k₂ b o hb hb' (k' b o hb hb' e)) x₂ r₂ p₂)
/-- from here on nothing changes -/
theorem PRJ.reveal {sts : List Stmt} {V : VP} (hZ : ∀ h, J h → ∀ a ∈ Ps, ∀ o, h.get? a = some o → Zt a o) (sb : Stb Ps J) (hre : ∀ p ∈ ρ', p ∈ ρ ∨ ∃ P, (p.1, VE (.ref P)) ∈ ρ ∧ ∀ h, J h → p.2.p h (.ref P)) (h : (∀ a ∈ Ps, g0.get? a = none) → PRa g0 W env sts ρ' V) : PRJ g0 W env Ps sts ρ J V := fun A Mu s Q E hP I hJ k =>
  h (fun a ha => (I.mu a (hP a ha).1).1) A _ s Q E (I.reveal hP sb hJ hre) fun v h' tk k' r p => k v h' tk (fun b o hb _ e => k' b o hb e) (fun a ha => let ⟨_, o, e⟩ := I.mu a (hP a ha).1; ⟨o, k' a o (hP a ha).2 e, hZ _ hJ a ha o e⟩) r p

theorem PXJ.and {Ps₂ : List Addr} {J₂ : Heap → Prop} {st : Stmt} (h : PXJ W env Ps st ρ J ρ' J') (sb : Stb Ps₂ J₂) (hd : ∀ a ∈ Ps₂, a ∉ Ps) : PXJ W env (Ps ++ Ps₂) st ρ (fun h => J h ∧ J₂ h) ρ' (fun h => J' h ∧ J₂ h) := fun g0 A Mu s Q E hP I hJ k =>
  h g0 A Mu s Q E (fun a ha => hP a (List.mem_append_left _ ha)) I hJ.1 fun h' tk k' I' hJ' => k h' tk (fun b o hb hn e => k' b o hb (fun q => hn (List.mem_append_left _ q)) e) I' ⟨hJ', sb _ _ (fun a ha o e => k' a o (hP a (List.mem_append_right _ ha)).2 (hd a ha) e) hJ.2⟩
theorem PRJ.of {sts : List Stmt} {V : VP} (h : PRJ g0 W env [] sts ρ (fun _ => True) V) : PRa g0 W env sts ρ V := fun A Mu s Q E I k => h A Mu s Q E (fun _ h => by cases h) I trivial fun v h' tk k' _ r p => k v h' tk (fun b o hb e => k' b o hb (fun q => by cases q) e) r p
theorem PRJ.imp {sts : List Stmt} {V : VP} (h : PRJ g0 W env Ps sts ρ J' V) (hi : ∀ h, J h → J' h) : PRJ g0 W env Ps sts ρ J V := fun A Mu s Q E hP I hJ k => h A Mu s Q E hP I (hi _ hJ) k
/-- a new object that is to change -/
theorem newAt {y : Str} {py cpos : Pos} {e : Expr} {sts : List Stmt} {V : VP} {J₁ : Addr → Heap → Prop} (hk : Kd env y) (hf : ∀ p ∈ ρ', p.1 ≠ y ∧ p ∈ ρ) (sb₂ : Stb Ps J)
    (he : ∀ (A : Around) (s : Shared) (Q E : Value → Shared → Prop), (∀ (o : Obj), o.isFreed = false → (∀ h h', (∀ x, h.get? s.heap.objs.size = some x → h'.get? s.heap.objs.size = some x) → J₁ s.heap.objs.size h → J₁ s.heap.objs.size h') → J₁ s.heap.objs.size (s.heap.push o) → Q (.ref s.heap.objs.size) { s with heap := s.heap.push o }) → wpAny (model PG W.w) A (eval e env) Q E s)
    (hs : swapsWith e (some (.Name y py)) cpos.line env = pure false)
    (h : ∀ P, 123 < P → P ∉ Ps → PRJ g0 W env ([P] ++ Ps) sts ((y, VE (.ref P)) :: ρ') (fun h => J₁ P h ∧ J h) V) : PRJ g0 W env Ps (.Assign [.Name y py] e cpos :: sts) ρ J V := by
  intro A Mu s Q E hPs I hJ₂ k
  refine wpAny_execs_cons (wpAny_Assign_Name (he A s _ _ fun o hfr sb hJ => ?_) hs)
  have hn : s.heap.get? s.heap.objs.size = none := stays_refl.fresh
  have hg := Heap.get?_push_size s.heap hfr
  have hbig : 123 < s.heap.objs.size := by
    have : ∃ o, (KF W.w.params).lookup 123 = some o := ⟨_, by with_unfolding_all rfl⟩
    obtain ⟨o, ho⟩ := this
    exact Heap.lt_size (I.keep _ _ (I.S.X _ _ ho))
  have I₁ : FInv W g0 A env (s.heap.objs.size :: Mu) ρ (s.heap.push o) := I.more (stays_push _) (fun a ha => (List.mem_cons.mp ha).elim (fun q => .inr (q ▸ ⟨hn, _, hg⟩)) .inl) fun a ha => .tail _ ha
  have hO : ¬ Own W env s.heap.objs.size := I.pin hn
  have hnP : s.heap.objs.size ∉ Ps := fun q => by obtain ⟨_, o, e⟩ := I.mu _ (hPs _ q).1; rw [hn] at e; cases e
  refine I₁.store (s := { s with heap := s.heap.push o }) (ρ' := (y, VE (.ref s.heap.objs.size)) :: ρ') (V := VE (.ref s.heap.objs.size)) hk rfl (fun p hp => (List.mem_cons.mp hp).elim .inl fun q => .inr ⟨(hf p q).2, (hf p q).1⟩) fun h₂ tk₂ k₂ I₂ => ?_
  refine h s.heap.objs.size hbig hnP A _ { s with heap := h₂, toks := tk₂ } _ _ (fun a ha => ?_) I₂ ⟨sb _ _ (fun x e => k₂ _ x hO e) hJ, sb₂ _ _ (fun a ha x e => k₂ _ x (hPs a ha).2 (stays_push _ _ _ e)) hJ₂⟩ fun v h₃ tk₃ k₃ x₃ r₃ p₃ => ?_
  · rcases List.mem_cons.mp ha with rfl | ha
    · exact ⟨.head _, hO⟩
    · exact ⟨.tail _ (hPs a ha).1, (hPs a ha).2⟩
  refine k v h₃ tk₃ (fun b x hb hnp e => k₃ b x hb (fun q => ?_) (k₂ b x hb (stays_push _ _ _ e))) (fun a ha => x₃ a (List.mem_append_right _ ha)) r₃ p₃
  rcases List.mem_cons.mp q with rfl | q
  · rw [hn] at e; cases e
  · exact hnp q
end
end Mine
-- Pr
namespace Mine
section
variable {W : Wd} {env : Env} {ρ ρ' ρ'' : Rho} {Ps : List Addr} {J J' J'' : Heap → Prop}
theorem PXJ.forW {x : Str} {px pos : Pos} {iter : Expr} {body : List Stmt} {V : VP} {n : Nat} {U : Nat → VP} (R : Nat → Rho) (G : Nat → Heap → Prop) (sb : ∀ i, Stb Ps (G i)) (hi : PE W env ρ iter V) (hw : WSrc W V n U) (hk : Kd env x) (h0 : ∀ p ∈ R 0, p ∈ ρ) (hx : ∀ i, ∀ p ∈ R i, p.1 ≠ x)
    (hb : ∀ i, i < n → PSJ W env Ps body ((x, U i) :: R i) (G i) (R (i + 1)) (G (i + 1))) (hs : ∀ x, foldedSetIterable iter env x = pure x := by intro _; rfl) : PXJ W env Ps (.For (.Name x px) iter body [] pos) ρ (G 0) (R n) (G n) := by
  intro g0 A Mu s Q E hPs I hJ kk
  refine wpAny_For (hi A Mu s _ _ I.inv fun v h₁ tk₁ k₁ p₁ => ?_) hs
  have I₁ := I.mono k₁
  have J₁ := sb 0 _ _ (fun a _ o e => k₁ a o e) hJ
  refine hw A Mu { s with heap := h₁, toks := tk₁ } v _ _ I₁.inv.ct I₁.inv.mu p₁ fun it h₂ tk₂ fp wr P St k₂ hwr hfp hSt Wk there hP => ?_
  have pin : ∀ a ∈ wr, ¬ Own W env a := fun a ha => I₁.pin (hwr a ha).1
  have pinf : ∀ a ∈ fp, ¬ Own W env a := fun a ha q => (hfp a ha).1 (I₁.ownM q)
  have apf : ∀ a ∈ fp, a ∉ Ps := fun a ha q => (hfp a ha).1 (hPs a q).1
  have hPs' : ∀ a ∈ Ps, a ∈ wr ++ Mu ∧ ¬ Own W env a := fun a ha => ⟨List.mem_append_right _ (hPs a ha).1, (hPs a ha).2⟩
  have apw : ∀ a ∈ Ps, a ∉ wr := fun a ha q => apf a (Wk.sub _ q) ha
  have I₂ : FInv W g0 A env (wr ++ Mu) (R 0) h₂ := (I₁.more k₂ (fun a ha => (List.mem_append.mp ha).elim (fun q => .inr (hwr a q)) .inl) fun a ha => List.mem_append_right _ ha).sub h0
  have hb₂ : (hideAll h₁ Mu).StaysIn (hideAll h₂ (wr ++ Mu)) := hid_new (fun b o _ e => k₂ b o e) fun a ha => (List.mem_append.mp ha).elim (fun q => .inr (hwr a q).1) .inl
  refine forLoop_gen (fun c s' => ∃ h' tk i, s' = { s with heap := h', toks := tk } ∧ i ≤ n ∧ c = n + 1 - i ∧ St i h' ∧ FInv W g0 A env (wr ++ Mu) (R i) h' ∧ G i h' ∧ (∀ b o, ¬ Own W env b → b ∉ wr → b ∉ Ps → h₁.get? b = some o → h'.get? b = some o) ∧ (hideAll h₁ Mu).StaysIn (hideAll h' (wr ++ Mu))) ?_ (n + 1)
    ⟨h₂, tk₂, 0, rfl, Nat.zero_le _, rfl, hSt, I₂, sb 0 _ _ (fun a _ o e => k₂ a o e) J₁, fun b o _ _ _ e => k₂ b o e, hb₂⟩
  rintro c s' ⟨h', tk, i, rfl, hi', rfl, hS, Iv, hG, hk', hb'⟩
  by_cases hlt : i < n
  · refine Wk.item i _ _ _ hlt hS fun v h₃ tk₃ hv hS₃ hk₃ => ?_
    show wpAny _ A (pure ()) _ _ _
    refine wpAny_pure (wpAny_assign_Name ?_)
    have I₃ : FInv W g0 A env (wr ++ Mu) (R i) h₃ := Iv.off (Ch := wr) hk₃ fun a ha => ⟨List.mem_append_left _ ha, pin a ha, there _ _ hS₃ a (Wk.sub _ ha)⟩
    have hb₃ : (hideAll h₁ Mu).StaysIn (hideAll h₃ (wr ++ Mu)) := stays_trans hb' (hid_mono fun b o hb e => hk₃ b o (fun q => hb (List.mem_append_left _ q)) e)
    have G₃ : G i h₃ := sb i _ _ (fun a ha o e => hk₃ a o (apw a ha) e) hG
    refine I₃.store (s := { s with heap := h₃, toks := tk₃ }) (V := U i) (ρ' := (x, U i) :: R i) hk ((U i).mono hb₃ (hP i v hlt hv)) (fun p hp => (List.mem_cons.mp hp).elim .inl fun q => .inr ⟨q, hx i p q⟩) fun h₄ tk₄ k₄ I₄ => ?_
    refine hb i hlt g0 A _ { s with heap := h₄, toks := tk₄ } _ _ hPs' I₄ (sb i _ _ (fun a ha o e => k₄ a o (hPs a ha).2 e) G₃) fun h₅ tk₅ k₅ I₅ G₅ => ?_
    have off5 : ∀ b o, ¬ Own W env b → b ∉ Ps → h₃.get? b = some o → h₅.get? b = some o := fun b o hb hp e => k₅ b o hb hp (k₄ b o hb e)
    refine ⟨n + 1 - (i + 1), by omega, h₅, tk₅, i + 1, rfl, hlt, rfl, Wk.frame _ _ _ hS₃ fun a ha o e => off5 a o (pinf a ha) (apf a ha) e, I₅, G₅, fun b o hb hw' hp e => off5 b o hb hp (hk₃ b o hw' (hk' b o hb hw' hp e)), ?_⟩
    refine stays_trans hb₃ (hid_mono fun b o hb e => off5 b o (fun q => hb (I₃.ownM q)) (fun q => hb (hPs' b q).1) e)
  · obtain rfl : i = n := Nat.le_antisymm hi' (Nat.not_lt.mp hlt)
    refine Wk.done _ _ _ hS fun h₄ tk₄ hk₄ => ?_
    refine wpAny_execs_nil ?_
    refine kk h₄ tk₄ (fun b o hb hp e => ?_) (Iv.drop (Ch := wr) hk₄ (fun a ha => ⟨List.mem_append_left _ ha, pin a ha⟩) (fun a ha => ⟨List.mem_append_right _ ha, fun q => ?_⟩) I₁.ownM) (sb i _ _ (fun a ha o e => hk₄ a o (apw a ha) e) hG)
    · have e₁ := k₁ b o e
      have hbw : b ∉ wr := fun q => by rw [(hwr b q).1] at e₁; cases e₁
      exact hk₄ b o hbw (hk' b o hb hbw hp e₁)
    · obtain ⟨_, o, e⟩ := I₁.mu a ha
      rw [(hwr a q).1] at e; cases e

/-- a dict that changes: its pairs, and what they stand for -/
noncomputable def KvP {K : Type} : List (K × VP) → Heap → List (K × Value) → Prop
  | [], _, [] => True
  | (k, V) :: r, h, (k', v) :: r' => k = k' ∧ V.p h v ∧ KvP r h r'
  | _, _, _ => False
noncomputable def Flt (V : VP) : Prop := ∀ h h' v, V.p h v → V.p h' v
theorem KvP.flat {K : Type} {h h' : Heap} : ∀ {l : List (K × VP)} {r : List (K × Value)}, (∀ p ∈ l, Flt p.2) → KvP l h r → KvP l h' r
  | [], [], _, _ => trivial
  | (k, V) :: l, (k', v) :: r, hf, x => ⟨x.1, hf _ (.head _) _ _ _ x.2.1, KvP.flat (fun p hp => hf p (.tail _ hp)) x.2.2⟩
  | [], _ :: _, _, x => x.elim
  | _ :: _, [], _, x => x.elim
theorem KvP.append {K : Type} {h : Heap} {k : K} {V : VP} {v : Value} (hv : V.p h v) : ∀ {l : List (K × VP)} {r : List (K × Value)}, KvP l h r → KvP (l ++ [(k, V)]) h (r ++ [(k, v)])
  | [], [], _ => ⟨rfl, hv, trivial⟩
  | (k, V) :: l, (k', v) :: r, x => ⟨x.1, x.2.1, KvP.append hv x.2.2⟩
  | [], _ :: _, x => x.elim
  | _ :: _, [], x => x.elim
theorem KvP.keys {K : Type} {h : Heap} : ∀ {l : List (K × VP)} {r : List (K × Value)}, KvP l h r → r.map (·.1) = l.map (·.1)
  | [], [], _ => rfl
  | (k, V) :: l, (k', v) :: r, x => by rw [List.map_cons, List.map_cons, KvP.keys x.2.2]; show k' :: _ = k :: _; rw [x.1]
  | [], _ :: _, x => x.elim
  | _ :: _, [], x => x.elim
noncomputable def DJ {K : Type} [DecidableEq K] (knd : (w : World) → KeyKind PG w K) (w : World) (P : Addr) (l : List (K × VP)) (h : Heap) : Prop := ∃ kvs, h.DictOf (knd w) P kvs ∧ KvP l h kvs
theorem DJ.stb {K : Type} [DecidableEq K] {knd : (w : World) → KeyKind PG w K} {w : World} {P : Addr} {l : List (K × VP)} (hf : ∀ p ∈ l, Flt p.2) : Stb [P] (DJ knd w P l) := fun h h' k ⟨kvs, hd, hv⟩ => by
  obtain ⟨o, es, ep, ho, r⟩ := hd
  exact ⟨kvs, ⟨o, es, ep, k P (.head _) o ho, r⟩, hv.flat hf⟩
/-- D[k] = e for a key that is new -/
theorem PXJ.dictSet {K : Type} [DecidableEq K] {knd : (w : World) → KeyKind PG w K} {P : Addr} {l : List (K × VP)} {dn : Str} {dp ip pos : Pos} {ie e : Expr} {k : K} {KV V : VP} (hP : Ps = [P]) (hf : ∀ p ∈ l, Flt p.2) (hV : Flt V) (hl : l.length ≤ 100) (hnew : k ∉ l.map (·.1)) (he : PE W env ρ e V) (hdn : PE W env ρ (.Name dn dp) (VE (.ref P))) (hi : PE W env ρ ie KV) (hkey : ∀ h v, KV.p h v → (knd W.w).is k v = true)
    (hs : swapsWith e (some (.Subscript (.Name dn dp) ie ip)) pos.line env = pure false := by rfl) : PXJ W env Ps (.Assign [.Subscript (.Name dn dp) ie ip] e pos) ρ (DJ knd W.w P l) ρ (DJ knd W.w P (l ++ [(k, V)])) := by
  subst hP
  intro g0 A Mu s Q E hPs I hJ kk
  refine wpAny_Assign_Subscript (he A Mu s _ _ I.inv fun v h₁ tk₁ k₁ p₁ => hdn A Mu { s with heap := h₁, toks := tk₁ } _ _ (I.mono k₁).inv fun dv h₂ tk₂ k₂ p₂ => hi A Mu { s with heap := h₂, toks := tk₂ } _ _ ((I.mono k₁).mono k₂).inv fun iv h₃ tk₃ k₃ p₃ => ?_) hs
  cases p₂
  have I₃ := ((I.mono k₁).mono k₂).mono k₃
  obtain ⟨kvs, hd, hv⟩ := DJ.stb hf _ _ (fun a _ o e => k₃ _ _ (k₂ _ _ (k₁ _ _ e))) hJ
  have hlen : kvs.length = l.length := by rw [← List.length_map (f := (·.1)), hv.keys, List.length_map]
  refine wpAny_setItem_pairs (s := { s with heap := h₃, toks := tk₃ }) (hsz := by rw [hlen]; exact Nat.le_trans hl (by decide)) (hkey _ _ p₃) hd fun h₄ hd₄ hs₄ => ?_
  have e : stored kvs k v = kvs ++ [(k, v)] := by
    unfold stored
    rw [if_neg]
    intro q
    obtain ⟨x, hx, hx'⟩ := List.any_eq_true.mp q
    exact hnew (hv.keys ▸ (of_decide_eq_true hx') ▸ List.mem_map_of_mem hx)
  rw [e] at hd₄
  refine kk h₄ _ (fun b o hb hp e => hs₄.extBut b o (fun q => hp (List.mem_singleton.mpr q)) (k₃ _ _ (k₂ _ _ (k₁ _ _ e)))) (I₃.off (Ch := [P]) (fun b o hb e => hs₄.extBut b o (fun q => hb (List.mem_singleton.mpr q)) e) fun a ha => ?_) ⟨_, hd₄, KvP.append (hV _ _ _ p₁) (hv.flat hf)⟩
  cases List.mem_singleton.mp ha
  obtain ⟨o, es, ep, ho, _⟩ := hd₄
  exact ⟨(hPs _ (.head _)).1, (hPs _ (.head _)).2, o, ho⟩
/-- the dict read as it stands -/
theorem kv_at {K : Type} [DecidableEq K] {h : Heap} : ∀ {l : List (K × VP)} {r : List (K × Value)}, KvP l h r → ∀ {k : K} {V : VP}, (l.find? fun p => p.1 = k).map (·.2) = some V → ∃ v, valueAt r k = some v ∧ V.p h v
  | (k', V') :: l, (k'', v) :: r, x, k, V, e => by
    obtain ⟨rfl, hv, x⟩ := x
    unfold valueAt
    by_cases q : k' = k
    · subst q; simp at e; subst e; exact ⟨v, by simp, hv⟩
    · rw [List.find?_cons_of_neg (by simpa using q)] at e
      obtain ⟨u, a, b⟩ := kv_at x e
      exact ⟨u, by unfold valueAt at a; simp [q, a], b⟩
  | [], [], _, _, _, e => by cases e
  | [], _ :: _, x, _, _, _ => x.elim
  | _ :: _, [], x, _, _, _ => x.elim
end
end Mine
-- Pt
namespace Mine
section
variable {W : Wd} {env : Env} {ρ ρ' ρ'' : Rho}
theorem KvP.mono {K : Type} {h h' : Heap} (st : h.StaysIn h') : ∀ {l : List (K × VP)} {r : List (K × Value)}, KvP l h r → KvP l h' r
  | [], [], _ => trivial
  | (k, V) :: l, (k', v) :: r, x => ⟨x.1, V.mono st x.2.1, KvP.mono st x.2.2⟩
  | [], _ :: _, x => x.elim
  | _ :: _, [], x => x.elim
/-- a dict by its pairs -/
noncomputable def VDJ {K : Type} [DecidableEq K] (knd : (w : World) → KeyKind PG w K) (w : World) (l : List (K × VP)) : VP :=
  ⟨fun h v => ∃ P, v = .ref P ∧ (P == sysModules) = false ∧ DJ knd w P l h, fun st ⟨P, e, lo, kvs, ⟨o, es, ep, ho, r⟩, hv⟩ => ⟨P, e, lo, kvs, ⟨o, es, ep, st _ _ ho, r⟩, hv.mono st⟩⟩
noncomputable abbrev sK (w : World) : KeyKind PG w Str := PySem.strKind PG w
noncomputable abbrev iK (w : World) : KeyKind PG w Int := PySem.intKind PG w
theorem isStr_eq (k : Str) (v : Value) : Value.isStrOf k v = v.isStr k := by cases v <;> rfl
theorem vdj_of {K : Type} [DecidableEq K] {knd : (w : World) → KeyKind PG w K} {w : World} {P : Addr} {l : List (K × VP)} {h : Heap} (hP : 123 < P) (hd : DJ knd w P l h) : (VDJ knd w l).p h (.ref P) :=
  ⟨P, rfl, beq_eq_false_iff_ne.mpr (fun q => by subst q; exact absurd hP (by decide)), hd⟩
theorem VDJ.vd {l : List (Str × VP)} {F : Str → Option VP} (hF : ∀ k V, F k = some V → (l.find? fun p => p.1 = k).map (·.2) = some V) (h : Heap) (v : Value) (p : (VDJ sK W.w l).p h v) : (VD F).p h v := by
  obtain ⟨P, rfl, lo, kvs, hd, hv⟩ := p
  obtain ⟨o, es, ep, ho, hc, hdat, hk, hm⟩ := hd.mapOf
  refine ⟨P, o, es, ep, rfl, lo, ho, hc, hdat, ?_, fun k V e => ?_⟩
  · rw [Array.all_eq_true_iff_forall_mem]
    intro e he
    obtain ⟨k, hk, _⟩ := hk e he
    obtain ⟨t, q⟩ := Value.isStrOf_shape hk
    rw [q]; rfl
  · obtain ⟨u, a, b⟩ := kv_at hv (hF k V e)
    refine ⟨u, ?_, b⟩
    have e : (fun (k : Str) (v : Value) => v.isStr k) = Value.isStrOf := by funext k v; exact (isStr_eq k v).symm
    rw [e, ← a, ← hm k]; rfl
theorem PE.dict0 {K : Type} [DecidableEq K] {knd : (w : World) → KeyKind PG w K} {pos : Pos} : PE W env ρ (.Dict [] [] pos) (VDJ knd W.w []) := fun A Mu s Q E I k => by
  refine wpAny_Dict_empty (k _ _ s.toks (stays_push _) ⟨_, rfl, ?_, [], ?_, trivial⟩)
  · have : ∃ o, (KF W.w.params).lookup 123 = some o := ⟨_, by with_unfolding_all rfl⟩
    obtain ⟨o, ho⟩ := this
    have : 123 < s.heap.objs.size := Heap.lt_size (I.ct.X _ _ ho)
    exact beq_eq_false_iff_ne.mpr (fun q => by rw [q] at this; exact absurd this (by decide))
  · obtain ⟨o, es, ep, ho, r⟩ := Heap.DictOf.new (knd := knd W.w) s.heap
    rw [Heap.get?_push_size _ rfl] at ho
    exact ⟨o, es, ep, ho ▸ hid_push I.mu rfl, r⟩
theorem F2.eqD {K : Type} [DecidableEq K] {knd : (w : World) → KeyKind PG w K} {l r : List (K × VP)} (hl : l.length ≠ r.length) : F2 W (compareOp .Eq) (VDJ knd W.w l) (VDJ knd W.w r) (VB false) := by
  rintro A Mu s _ _ Q E ct mu ⟨P, rfl, lo, kvs, ⟨o, es, ep, ho, ra⟩, hv⟩ ⟨P', rfl, lo', kvs', ⟨o', es', ep', ho', ra'⟩, hv'⟩ k
  have l1 : kvs.length = l.length := by rw [← List.length_map (f := (·.1)), hv.keys, List.length_map]
  have l2 : kvs'.length = r.length := by rw [← List.length_map (f := (·.1)), hv'.keys, List.length_map]
  refine keq_eq (r := false) lo lo' (⟨o, es, ep, hid_le _ _ ho, ra⟩ : s.heap.DictOf (knd W.w) P kvs) (⟨o', es', ep', hid_le _ _ ho', ra'⟩ : s.heap.DictOf (knd W.w) P' kvs') (by have := ct.units; have := cLine_is; omega) (fun e => absurd (l1.symm.trans (e.trans l2)) hl) ?_
  rw [Bool.and_false]; exact k _ s.heap s.toks stays_refl rfl
theorem FC.get {K : Type} [DecidableEq K] {knd : (w : World) → KeyKind PG w K} {l : List (K × VP)} {k : K} {KV D V : VP} (hkey : ∀ h v, KV.p h v → (knd W.w).is k v = true) (hV : ((l.find? fun p => p.1 = k).map (·.2) = some V) ∨ (k ∉ l.map (·.1) ∧ D = V)) : FC W (.builtin "dict.get") [VDJ knd W.w l, KV, D] V := by
  intro A Mu s vs Q E ct mu p kk
  match vs, p with
  | [v, u, z], p =>
    obtain ⟨⟨P, rfl, lo, kvs, ⟨o, es, ep, ho, r⟩, hv⟩, pk, pd, _⟩ := p
    have hd : s.heap.DictOf (knd W.w) P kvs := ⟨o, es, ep, hid_le _ _ ho, r⟩
    refine call_meetsIn PySem.F.slot_dict_get hd.typeIs PySem.F.entry_dict_get (PySem.F.args_dict_get_3 _ _ _) (meets_dict_get_default (knd W.w) P (hkey _ _ pk) lo z) ⟨_, hd.mapOf, kk _ s.heap _ stays_refl ?_⟩
    rcases hV with e | ⟨hn, rfl⟩
    · obtain ⟨u, a, b⟩ := kv_at hv e
      rw [a]; exact b
    · have : valueAt kvs k = none := by
        unfold valueAt
        rw [Option.map_eq_none_iff, List.find?_eq_none]
        intro x hx q
        exact hn (hv.keys ▸ (of_decide_eq_true q) ▸ List.mem_map_of_mem hx)
      rw [this]; exact pd
  | [], p => exact p.elim
  | [_], p => exact p.2.elim
  | [_, _], p => exact p.2.2.elim
  | _ :: _ :: _ :: _ :: _, p => exact p.2.2.2.elim
theorem tyD {K : Type} [DecidableEq K] {knd : (w : World) → KeyKind PG w K} {w : World} {l : List (K × VP)} (s : Shared) (Mu : List Addr) (v : Value) (h : (VDJ knd w l).p (hideAll s.heap Mu) v) : s.TypeIs v "dict" ∧ ∀ a, v = .ref a → ∃ ob, s.heap.get? a = some ob ∧ ob.dict = none := by
  obtain ⟨P, rfl, lo, kvs, ⟨o, es, ep, ho, hc, _⟩, hv⟩ := h
  exact ⟨⟨_, hid_le _ _ ho, hc.1⟩, fun b e => by cases e; exact ⟨_, hid_le _ _ ho, hc.2.1⟩⟩
/-- x = {} and what follows -/
theorem PRJ.newDict {g0 : Heap} {Ps : List Addr} {J : Heap → Prop} {K : Type} [DecidableEq K] {knd : (w : World) → KeyKind PG w K} {y : Str} {py dpos cpos : Pos} {sts : List Stmt} {V : VP} (hk : Kd env y) (hf : ∀ p ∈ ρ', p.1 ≠ y ∧ p ∈ ρ) (sb : Stb Ps J)
    (h : ∀ P, 123 < P → P ∉ Ps → PRJ g0 W env ([P] ++ Ps) sts ((y, VE (.ref P)) :: ρ') (fun h => DJ knd W.w P [] h ∧ J h) V) (hs : swapsWith (.Dict [] [] dpos) (some (.Name y py)) cpos.line env = pure false := by rfl) : PRJ g0 W env Ps (.Assign [.Name y py] (.Dict [] [] dpos) cpos :: sts) ρ J V :=
  newAt (J₁ := fun P => DJ knd W.w P []) hk hf sb (fun A s Q E k => wpAny_Dict_empty (k _ rfl (fun h h' e hJ => DJ.stb (fun _ q => by cases q) h h' (fun a ha o q => by cases List.mem_singleton.mp ha; exact e o q) hJ) ⟨[], Heap.DictOf.new s.heap, trivial⟩)) hs h
end
end Mine
-- Pu
namespace Mine
section
variable {W : Wd} {env : Env} {ρ ρ' ρ'' : Rho}
/-- a list that changes -/
noncomputable def LJ (P : Addr) (l : List VP) (h : Heap) : Prop := ∃ its : List Value, h.PlainList P its.toArray ∧ VsP l h its
theorem VsP.flat {h h' : Heap} : ∀ {l : List VP} {r : List Value}, (∀ V ∈ l, Flt V) → VsP l h r → VsP l h' r
  | [], [], _, _ => trivial
  | V :: l, v :: r, hf, x => ⟨hf _ (.head _) _ _ _ x.1, VsP.flat (fun p hp => hf p (.tail _ hp)) x.2⟩
  | [], _ :: _, _, x => x.elim
  | _ :: _, [], _, x => x.elim
theorem LJ.stb {P : Addr} {l : List VP} (hf : ∀ V ∈ l, Flt V) : Stb [P] (LJ P l) := fun h h' k ⟨its, ⟨n, ho⟩, hv⟩ => ⟨its, ⟨n, k P (.head _) _ ho⟩, hv.flat hf⟩
theorem LJ.vl {P : Addr} {l : List VP} {h : Heap} (x : LJ P l h) : (VL l).p h (.ref P) := let ⟨its, a, b⟩ := x; ⟨P, its, rfl, a, b⟩
theorem PRJ.newL {g0 : Heap} {Ps : List Addr} {J : Heap → Prop} {y : Str} {py dpos cpos : Pos} {sts : List Stmt} {V : VP} (hk : Kd env y) (hf : ∀ p ∈ ρ', p.1 ≠ y ∧ p ∈ ρ) (sb : Stb Ps J)
    (h : ∀ P, 123 < P → P ∉ Ps → PRJ g0 W env ([P] ++ Ps) sts ((y, VE (.ref P)) :: ρ') (fun h => LJ P [] h ∧ J h) V) (hs : swapsWith (.List [] dpos) (some (.Name y py)) cpos.line env = pure false := by rfl) : PRJ g0 W env Ps (.Assign [.Name y py] (.List [] dpos) cpos :: sts) ρ J V :=
  newAt (J₁ := fun P => LJ P []) hk hf sb (fun A s Q E k => wpAny_List (args_nil ⟨by decide, k _ rfl (fun h h' e hJ => LJ.stb (fun _ q => by cases q) h h' (fun a ha o q => by cases List.mem_singleton.mp ha; exact e o q) hJ) ⟨[], ⟨0, Heap.get?_push_size _ rfl⟩, trivial⟩⟩)) hs h
/-- y = [a comprehension], a list that is to change -/
theorem PRJ.newComp {g0 : Heap} {Ps : List Addr} {J : Heap → Prop} {sts : List Stmt} {V : VP} {y : Str} {py cpos : Pos} {ρc : Rho} {elt target iter : Expr} {ifs : List Expr} {rest : List Comprehension} {scope : Scope} {pos : Pos} {body : Addr → Addr → Sem Fin → Sem Fin} {n : Nat} {xs : List Str} (xs' : List Str) {B : Nat → Rho} (t : Nat → Bool) (Z : Nat → List VP)
    (hes : ESrc W env ρ iter target n xs B) (hc : compChk env scope xs = true) (hcapc : capChk env scope xs xs' (ρc.map (·.1)) = true) (hsub : ∀ p ∈ ρc, p ∈ ρ)
    (hT : ∀ I D C, compTurn (.ListComp elt (⟨target, iter, ifs, 0⟩ :: rest) scope pos) 0 (.ref I) (.ref D) (compEnvC scope (clOf env scope.names) C env) = turnTree (.ListComp elt (⟨target, iter, ifs, 0⟩ :: rest) scope pos) target iter ifs 0 (.ref I) (.ref D) (compEnvC scope (clOf env scope.names) C env) (body D C))
    (htest : ∀ C i, i < n → PTs W (compEnvC scope (clOf env scope.names) C env) (B i ++ ρc) ifs (t i))
    (hst : ∀ A g D C i, i < n → t i = true → Ct W A g → (∀ x c, (clOf env scope.names).lookup x = some c → ∃ o, g.get? c = some o) → g.get? D = none → g.get? C = none → D ≠ C → Stage W A g (compEnvC scope (clOf env scope.names) C env) D (body D C) xs' (B i ++ ρc) (Z i))
    (hsz : (flat t Z n).length ≤ 10000) (hflt : ∀ V ∈ flat t Z n, Flt V) (hk : Kd env y) (hf : ∀ p ∈ ρ', p.1 ≠ y ∧ p ∈ ρ) (sb : Stb Ps J)
    (h : ∀ P, P ∉ Ps → PRJ g0 W env ([P] ++ Ps) sts ((y, VE (.ref P)) :: ρ') (fun h => LJ P (flat t Z n) h ∧ J h) V)
    (hsw : swapsWith (.ListComp elt (⟨target, iter, ifs, 0⟩ :: rest) scope pos) (some (.Name y py)) cpos.line env = pure true := by kernel_rfl)
    (hs : ∀ x, foldedSetIterable iter env x = pure x := by intro _; rfl) : PRJ g0 W env Ps (.Assign [.Name y py] (.ListComp elt (⟨target, iter, ifs, 0⟩ :: rest) scope pos) cpos :: sts) ρ J V := by
  obtain ⟨hfree, hkind, hnc, hnames, hloc⟩ := chk1 hc
  obtain ⟨hcap, hρ⟩ := chk2 hcapc hsub
  intro A Mu s Q E hPs I hJ kk
  refine wpAny_execs_cons ?_
  rw [exec_Assign_Name_used _ _ _ _ hsw]
  refine wpAny_bind (wpAny_standAt (wpAny_bind ?_))
  show wpAny _ A (do let _ ← comprehension (.ListComp elt (⟨target, iter, ifs, 0⟩ :: rest) scope pos) scope env _ (newList []) false (eval iter env) (some (PySem.assign (.Name y py) env))) _ _ s
  refine wpAny_bind (wpAny_mono (wpAny_comprehension_free (use := some (PySem.assign (.Name y py) env)) (Q := fun _ s' => wpAny (model PG W.w) A (execs sts env) Q E s') rfl hs (closureFor_eq hfree) hkind hnames
    (comp_core (RR := fun acc C => compPost (model PG W.w) A E (some (PySem.assign (.Name y py) env)) (fun _ s' => wpAny (model PG W.w) A (execs sts env) Q E s') acc C) hfree hkind hnc hnames hloc hes hcap hT htest hst hρ hsz I.inv fun D C h₄ tk₄ m₄ zs hD hC hDC k₄ hl₄ hz₄ hn₄ => ?_)) (fun _ s' hq => wpAny_pure (wpAny_pure hq)) fun _ _ e => e)
  show wpAny _ A (PySem.assign (.Name y py) env (.ref D)) _ _ _
  have exC : ∃ o, h₄.get? C = some o := let ⟨o, _, _, e, _⟩ := hn₄; ⟨o, e⟩
  have exD : ∃ o, h₄.get? D = some o := let ⟨_, e⟩ := hl₄; ⟨_, e⟩
  have I₄ : FInv W g0 A env (C :: D :: Mu) ρ h₄ := I.more k₄ (fun a ha => by
    rcases List.mem_cons.mp ha with rfl | ha
    · exact .inr ⟨hC, exC⟩
    · rcases List.mem_cons.mp ha with rfl | ha
      · exact .inr ⟨hD, exD⟩
      · exact .inl ha) fun a ha => .tail _ (.tail _ ha)
  have hCo : ¬ Own W env C := I.pin hC
  have hDo : ¬ Own W env D := I.pin hD
  refine wpAny_assign_Name (I₄.store (s := { s with heap := h₄, toks := tk₄ }) (ρ' := (y, VE (.ref D)) :: ρ') (V := VE (.ref D)) hk rfl (fun p hp => (List.mem_cons.mp hp).elim .inl fun q => .inr ⟨(hf p q).2, (hf p q).1⟩) fun h₅ tk₅ k₅ I₅ => ?_)
  have hn₅ : h₅.Ns C m₄ := hn₄.at' fun o e => k₅ _ o hCo e
  refine ⟨m₄, hn₅, fun h₆ hs₆ => ?_⟩
  have hCM : C ∉ D :: Mu := fun q => by
    rcases List.mem_cons.mp q with q | q
    · exact hDC q.symm
    · obtain ⟨_, o, e⟩ := I.mu C q; rw [hC] at e; cases e
  have I₆ : FInv W g0 A env (D :: Mu) ((y, VE (.ref D)) :: ρ') h₆ := I₅.drop (Ch := [C]) (fun b o hb e => hs₆.extBut b o (fun q => hb (q ▸ .head _)) e) (fun P hP => by
    cases List.mem_singleton.mp hP
    exact ⟨.head _, hCo⟩) (fun a ha => ⟨.tail _ ha, fun q => hCM (List.mem_singleton.mp q ▸ ha)⟩) fun q => .tail _ (I.ownM q)
  have nP : D ∉ Ps := fun q => by obtain ⟨_, o, e⟩ := I.mu D (hPs _ q).1; rw [hD] at e; cases e
  have st6 : ∀ b o, ¬ Own W env b → s.heap.get? b = some o → h₆.get? b = some o := fun b o hb e => hs₆.extBut b o (fun q => by rw [q, hC] at e; cases e) (k₅ b o hb (k₄ b o e))
  refine h D nP A _ { s with heap := h₆, toks := tk₅ } _ _ (fun a ha => ?_) I₆ ⟨⟨zs, (hl₄.at fun o e => k₅ _ o hDo e : h₅.PlainList D zs.toArray).at fun o e => hs₆.extBut _ o hDC e, hz₄.flat hflt⟩, sb _ _ (fun a ha o e => st6 a o (hPs a ha).2 e) hJ⟩ fun v h₇ tk₇ k₇ x₇ r₇ p₇ => ?_
  · rcases List.mem_cons.mp ha with rfl | ha
    · exact ⟨.head _, hDo⟩
    · exact ⟨.tail _ (hPs a ha).1, (hPs a ha).2⟩
  refine kk v h₇ tk₇ (fun b o hb hnp e => k₇ b o hb (fun q => ?_) (st6 b o hb e)) (fun a ha => x₇ a (List.mem_append_right _ ha)) r₇ p₇
  rcases List.mem_cons.mp q with rfl | q
  · rw [hD] at e; cases e
  · exact hnp q
end
end Mine
-- Pv
namespace Mine
section
variable {W : Wd} {env : Env} {ρ ρ' ρ'' : Rho}
theorem VsP.erase {h : Heap} : ∀ {l : List VP} {r : List Value} (k : Nat), VsP l h r → VsP (l.eraseIdx k) h (r.eraseIdx k)
  | [], [], k, _ => by cases k <;> exact trivial
  | V :: l, v :: r, 0, x => x.2
  | V :: l, v :: r, k + 1, x => ⟨x.1, VsP.erase k x.2⟩
  | [], _ :: _, _, x => x.elim
  | _ :: _, [], _, x => x.elim
/-- row.append(signs.pop(k)) -/
theorem PXJ.appPop {R S : Addr} {rl sl : List VP} {rn sn an pn : Str} {rp sp apos ppos cpos cpos' pos : Pos} {ke : Expr} {k : Int} {V : VP} (hRS : R ≠ S) (hfr : ∀ V ∈ rl, Flt V) (hfs : ∀ V ∈ sl, Flt V) (hlr : rl.length ≤ 1000) (hls : sl.length ≤ 1000) (hV : Flt V)
    (hr : PE W env ρ (.Name rn rp) (VE (.ref R))) (hS : PE W env ρ (.Name sn sp) (VE (.ref S))) (ρr : Rho) (hre : ∀ p ∈ ρr, p ∈ ρ ∨ ∃ P, (p.1, VE (.ref P)) ∈ ρ ∧ ∀ h, (LJ R rl h ∧ LJ S sl h) → p.2.p h (.ref P)) (hke : PE W env ρr ke (VI k)) (h0 : 0 ≤ k) (hsl : sl[k.toNat]? = some V)
    (ean : an = Str.ofString "append") (epn : pn = Str.ofString "pop")
    (hi : interactive env = false := by rfl) (hsw : swapsWith (.Call (.Attribute (.Name rn rp) an apos) [.Call (.Attribute (.Name sn sp) pn ppos) [ke] [] cpos'] [] cpos) none pos.line env = pure false := by rfl)
    (hb1 : attributeBase (.Name rn rp) an env (eval (.Name rn rp) env) = eval (.Name rn rp) env := by rfl)
    (hb2 : attributeBase (.Name sn sp) pn env (eval (.Name sn sp) env) = eval (.Name sn sp) env := by rfl)
    (hf1 : ((backTo cpos (starEach [.Call (.Attribute (.Name sn sp) pn ppos) [ke] [] cpos'] env)).all (fun x => !x.1) && (backToKw cpos (keywordEach [] env)).all (fun x => x.1.isSome) && decide (([Expr.Call (.Attribute (.Name sn sp) pn ppos) [ke] [] cpos'] : List Expr).length + ([] : List Keyword).length + (if ([] : List Keyword).isEmpty then 0 else 1) < 30)) = true := by rfl)
    (hf2 : ((backTo cpos' (starEach [ke] env)).all (fun x => !x.1) && (backToKw cpos' (keywordEach [] env)).all (fun x => x.1.isSome) && decide (([ke] : List Expr).length + ([] : List Keyword).length + (if ([] : List Keyword).isEmpty then 0 else 1) < 30)) = true := by rfl)
    (hl1 : (apos.endLine == cpos.line) = true := by rfl) (hl2 : (ppos.endLine == cpos'.line) = true := by rfl)
    (he1 : starEach [.Call (.Attribute (.Name sn sp) pn ppos) [ke] [] cpos'] env = (false, eval (.Call (.Attribute (.Name sn sp) pn ppos) [ke] [] cpos') env) :: starEach [] env := by rfl)
    (he2 : starEach [ke] env = (false, eval ke env) :: starEach [] env := by rfl) (hp1 : (backTo cpos (starEach [] env)).any (·.1) = false := by rfl) (hp2 : (backTo cpos' (starEach [] env)).any (·.1) = false := by rfl) :
    PXJ W env [R, S] (.Expr (.Call (.Attribute (.Name rn rp) an apos) [.Call (.Attribute (.Name sn sp) pn ppos) [ke] [] cpos'] [] cpos) pos) ρ (fun h => LJ R rl h ∧ LJ S sl h) ρ (fun h => LJ R (rl ++ [V]) h ∧ LJ S (sl.eraseIdx k.toNat) h) := by
  subst ean epn
  intro g0 A Mu s Q E hP I hJ kk
  have sb : Stb [R, S] (fun h => LJ R rl h ∧ LJ S sl h) := fun h h' e x => ⟨LJ.stb hfr h h' (fun a ha => e a (by cases List.mem_singleton.mp ha; exact .head _)) x.1, LJ.stb hfs h h' (fun a ha => e a (by cases List.mem_singleton.mp ha; exact .tail _ (.head _))) x.2⟩
  have exR : ∀ {h}, LJ R rl h → ∃ o, h.get? R = some o := fun ⟨_, ⟨_, e⟩, _⟩ => ⟨_, e⟩
  refine wpAny_Expr ?_ hi hsw
  refine wpAny_Call_method_lateS hb1 hf1 hl1 (hr A Mu s _ _ I.inv fun v h₁ tk₁ k₁ p₁ => ?_)
  cases p₁
  obtain ⟨⟨rits, ⟨rn, hro⟩, rv⟩, ⟨sits, ⟨sn', hso⟩, sv⟩⟩ := sb _ _ (fun a _ o e => k₁ a o e) hJ
  refine ⟨"list", "list.append", F.plainAttrs_list, F.slot_list_append, F.type_list_append, ⟨_, hro, rfl⟩, fun b e => by cases e; exact ⟨_, hro, rfl⟩, PyProof.Rows.callWith_method1 (args_cons ?_ he1) he1 hp1⟩
  refine wpAny_Call_method_lateS hb2 hf2 hl2 (hS A Mu { s with heap := h₁, toks := tk₁ } _ _ (I.mono k₁).inv fun v h₂ tk₂ k₂ p₂ => ?_)
  cases p₂
  have hso2 := k₂ _ _ hso
  refine ⟨"list", "list.pop", F.plainAttrs_list, F.slot_list_pop, F.type_list_pop, ⟨_, hso2, rfl⟩, fun b e => by cases e; exact ⟨_, hso2, rfl⟩, PyProof.Rows.callWith_method1 (args_cons ?_ he2) he2 hp2⟩
  have J₂ : LJ R rl h₂ ∧ LJ S sl h₂ := sb _ _ (fun a _ o e => k₂ _ _ (k₁ a o e)) hJ
  have I₂ := (I.mono k₁).mono k₂
  refine hke A _ { s with heap := h₂, toks := tk₂ } _ _ (I₂.reveal hP sb J₂ hre).inv fun v h₃ tk₃ k₃ p₃ => ?_
  obtain ⟨t, rfl⟩ := p₃
  refine args_nil ?_
  have hso3 := k₃ _ _ hso2
  have hro3 := k₃ _ _ (k₂ _ _ hro)
  obtain ⟨y, hy, py⟩ := sv.get hsl
  have hkl : k.toNat < sits.length := (List.getElem?_eq_some_iff.mp hy).1
  have hsl' := sv.length
  have hrl' := rv.length
  refine call_meets PySem.F.slot_list_pop ⟨_, hso3, rfl⟩ PySem.F.entry_list_pop (PySem.F.args_list_pop_2 _ _) (PySem.MeetsSeq.list_pop_at S sits.toArray sn' k t k.toNat y ?_ (seqIndex_of h0 (by rw [List.size_toArray]; omega)) (by simpa using hy) (by rw [List.size_toArray, hsl']; exact Nat.le_trans hls (by decide))) ⟨hso3, ?_⟩
  · unfold Builtin.List.listFitsIndex; rw [Bool.and_eq_true, decide_eq_true_eq, decide_eq_true_eq]; omega
  have hso4 := get?_update_seq (c := "list") hso3 (fun xs => xs.eraseIdxIfInBounds k.toNat)
  have hro4 : (h₃.update S (Obj.mapSeq fun xs => xs.eraseIdxIfInBounds k.toNat)).get? R = _ := upd_keep hRS hro3
  refine args_nil ?_
  refine wpAny_list_append_plain (hsz := by rw [List.size_toArray, hrl']; exact Nat.le_trans hlr (by decide)) ⟨_, hro4⟩ fun h₅ hl₅ hs₅ => ?_
  have kp : ∀ b o, b ∉ [R, S] → h₃.get? b = some o → h₅.get? b = some o := fun b o hb e => hs₅.extBut b o (fun q => hb (q ▸ .head _)) (upd_keep (fun q => hb (q ▸ .tail _ (.head _))) e)
  have hso5 := hs₅.extBut S _ (Ne.symm hRS) hso4
  have I₅ : FInv W g0 A env Mu ρ h₅ := (I₂.mono k₃).off (Ch := [R, S]) kp fun a ha => ⟨(hP a ha).1, (hP a ha).2, by
    rcases List.mem_cons.mp ha with rfl | ha
    · obtain ⟨_, e⟩ := hl₅; exact ⟨_, e⟩
    · cases List.mem_singleton.mp ha; exact ⟨_, hso5⟩⟩
  have pl : h₅.PlainList S (sits.eraseIdx k.toNat).toArray := by
    have : sits.toArray.eraseIdxIfInBounds k.toNat = (sits.eraseIdx k.toNat).toArray := by simp
    rw [this] at hso5; exact ⟨_, hso5⟩
  refine kk h₅ _ (fun b o hb hp e => kp b o hp (k₃ _ _ (k₂ _ _ (k₁ _ _ e)))) I₅ ⟨⟨rits ++ [y], by simpa using hl₅, VsP.append (rv.flat hfr) ⟨hV _ _ _ py, trivial⟩⟩, ⟨sits.eraseIdx k.toNat, pl, (VsP.erase _ sv).flat fun V hV => hfs V (List.mem_of_mem_eraseIdx hV)⟩⟩
/-- some of the changing objects have come to rest -/
theorem PRJ.rest {g0 : Heap} {Ps Ps₂ : List Addr} {J J₂ : Heap → Prop} {sts : List Stmt} {V : VP} (hZ : ∀ h, J h → ∀ a ∈ Ps, ∀ o, h.get? a = some o → Zt a o) (sb : Stb Ps J) (hd : ∀ a ∈ Ps₂, a ∉ Ps) (hre : ∀ p ∈ ρ', p ∈ ρ ∨ ∃ P, (p.1, VE (.ref P)) ∈ ρ ∧ ∀ h, J h → p.2.p h (.ref P)) (h : (∀ a ∈ Ps, g0.get? a = none) → PRJ g0 W env Ps₂ sts ρ' J₂ V) : PRJ g0 W env (Ps ++ Ps₂) sts ρ (fun h => J h ∧ J₂ h) V := fun A Mu s Q E hP I hJ k =>
  h (fun a ha => (I.mu a (hP a (List.mem_append_left _ ha)).1).1) A _ s Q E (fun a ha => ⟨mem_less.mpr ⟨(hP a (List.mem_append_right _ ha)).1, hd a ha⟩, (hP a (List.mem_append_right _ ha)).2⟩) (I.reveal (fun a ha => hP a (List.mem_append_left _ ha)) sb hJ.1 hre) hJ.2 fun v h' tk k' x' r p => k v h' tk (fun b o hb hn e => k' b o hb (fun q => hn (List.mem_append_right _ q)) e) (fun a ha => (List.mem_append.mp ha).elim (fun q => let ⟨_, o, e⟩ := I.mu a (hP a ha).1; ⟨o, k' a o (hP a ha).2 (fun z => hd a z q) e, hZ _ hJ.1 a q o e⟩) (x' a)) r p
theorem PRJ.weak {g0 : Heap} {Ps : List Addr} {J : Heap → Prop} {sts : List Stmt} {V : VP} (hs : ∀ p ∈ ρ', p ∈ ρ) (h : PRJ g0 W env Ps sts ρ' J V) : PRJ g0 W env Ps sts ρ J V := fun A Mu s Q E hP I hJ k => h A Mu s Q E hP (I.sub hs) hJ k
end
end Mine
-- Px
namespace Mine
/-- a call of a lambda of one parameter -/
theorem lam_call {W : Wd} {A : Around} {s : Shared} {f c' : Addr} {name qual : Str} {params : Arguments} {body : Expr} {scope : Scope} {clos : List (Str × Addr)} {pm ctv v : Value} {x : Str} {V U : VP} {Mu : List Addr} {ρc : Rho} {Q E : Value → Shared → Prop}
    (hlv : 1 ≤ W.lv) (ct : CtB 1005 W A s.heap) (ho : s.heap.get? f = some (kla_obj name qual params body scope clos pm c' ctv)) (hcd : s.heap.CodeRec (.ref c') qual) (hbind : bindArgs (kla_fn name qual params body scope clos pm (.ref c') ctv) ⟨[v], []⟩ = pure [(x, v)])
    (hx : scope.names.lookup x = some .local) (hcell : ∀ y ∈ scope.names, y.2 ≠ .cell) (hco : scope.isCoroutine = false) (hgen : scope.isGenerator = false) (hk : scope.kind = .function)
    (mu : ∀ a ∈ Mu, ∃ o, s.heap.get? a = some o) (sta : ∀ a ∈ Mu, (KF W.w.params).lookup a = none) (hcl : ∀ y c, clos.lookup y = some c → ∃ o, s.heap.get? c = some o) (hv : V.p (hideAll s.heap Mu) v)
    (cap : ∀ p ∈ ρc, p.1 ≠ x ∧ scope.names.lookup p.1 = some .free ∧ ∃ c u, clos.lookup p.1 = some c ∧ s.heap.IsCell c (some u) ∧ p.2.p (hideAll s.heap Mu) u)
    (hb : ∀ L', PE W.down (envX qual scope L' f (.ref c') clos) ((x, V) :: ρc) body U)
    (k : ∀ u h' tk, s.heap.StaysIn h' → U.p h' u → Q u { s with heap := h', toks := tk }) : wpAny (model PG W.w) A (call (.ref f) [v]) Q E s := by
  obtain ⟨dp, un, gd, cn, cs, L₀, a₀, ccd, cl, outer, base, rfl, B, hkc, h1, h2⟩ := ct.call
  refine wpAny_call (kla_callFunE (by show dp < recursionLimit; have : recursionLimit = 1000 := rfl; omega) ho rfl hco hgen rfl hcd ?_)
  rw [hbind]
  refine wpAny_pure (wpAny_newFunctionEnv hcell (fun y hy => by cases List.mem_singleton.mp hy; exact hx) (fun h₁ hns hsb => ⟨ct.T.nolimit.fresh _ hsb, ?_⟩) hk)
  show codeAny _ _ (.expr body (envX qual scope s.heap.objs.size f (.ref c') clos)) _ _
  have hk₁ : s.heap.StaysIn h₁ := fun b o e => hsb.extBut b o (Nat.ne_of_lt (Heap.lt_size e)) (Heap.get?_push_of_some _ e)
  have fresh : s.heap.get? s.heap.objs.size = none := stays_refl.fresh
  have Ict : Ct W.down ((ktrTop dp un gd cn cs L₀ a₀ ccd cl outer).deeper (envX qual scope s.heap.objs.size f (.ref c') clos)) h₁ := by
    refine ⟨ct.X.keeps hk₁, ct.T.keeps hk₁, dp + 1, un + 3, gd, qual, scope, s.heap.objs.size, f, .ref c', clos, _, base, rfl, ?_, hk, ?_, ?_⟩
    · exact pushX (env := envX qual scope s.heap.objs.size f (.ref c') clos) B (⟨hns, hk₁, Nat.le_refl _⟩ : Fr s.heap s.heap.objs.size h₁ _) rfl hk
    · show dp + 1 + (W.lv - 1) ≤ 400; omega
    · show un + 3 + 10 * (W.lv - 1) ≤ 1000; omega
  have hm : (hideAll s.heap Mu).StaysIn (hideAll h₁ (s.heap.objs.size :: Mu)) := hid_new (fun b o _ e => hk₁ b o e) fun a ha => (List.mem_cons.mp ha).elim (fun q => .inr (q ▸ fresh)) .inl
  have Iv : Inv W.down ((ktrTop dp un gd cn cs L₀ a₀ ccd cl outer).deeper (envX qual scope s.heap.objs.size f (.ref c') clos)) (envX qual scope s.heap.objs.size f (.ref c') clos) (s.heap.objs.size :: Mu) ((x, V) :: ρc) h₁ := by
    refine ⟨Ict, hk, rfl, rfl, fun a ha => ?_, fun y c e => let ⟨o, z⟩ := hcl y c e; ⟨o, hk₁ _ _ z⟩, fun p hp => ?_, fun a ha => ?_⟩
    · rcases List.mem_cons.mp ha with rfl | ha
      · obtain ⟨o, _, _, e, _⟩ := hns; exact ⟨o, e⟩
      · obtain ⟨o, e⟩ := mu a ha; exact ⟨o, hk₁ _ _ e⟩
    · rcases List.mem_cons.mp hp with rfl | hp
      · exact ⟨v, .inl ⟨hx, _, hns, by simp⟩, V.mono hm hv⟩
      · obtain ⟨_, hf, c, u, hc, hu, pu⟩ := cap p hp
        exact ⟨u, .inr ⟨.inr hf, c, hc, hu.keeps hk₁⟩, p.2.mono hm pu⟩
    · rcases List.mem_cons.mp ha with rfl | ha
      · exact sta_of ct.X fresh
      · exact sta a ha
  refine kla_codeExpr ?_
  refine hb _ _ _ { s with heap := h₁, toks := s.toks + 1 } _ _ Iv fun u h₂ tk₂ k₂ p₂ => ?_
  exact k u h₂ tk₂ (stays_trans hk₁ k₂) (U.mono hid_le p₂)
noncomputable def lamChk (env : Env) (scope : Scope) (x : Str) (ns : List Str) : Bool := ns.all fun n => scope.names.lookup n == some .free && !(n == x) && !(env.kindOf n == some .local) && scope.names.any fun y => y.1 == n && y.2 == .free
section
variable {W : Wd} {env : Env} {ρ ρ' ρc : Rho}
/-- y = sorted(row, key=lambda x: body) -/
theorem PXJ.sortKey {P c : Addr} {y sn x : Str} {py sp cpos pos lpos : Pos} {rowE body : Expr} {kw : Keyword} {params : Arguments} {scope : Scope} {Vs Os : List VP} {U : Nat → VP} {Srt : List Value → Array Keyed → Prop}
    (hkw : kw.value = .Lambda params body scope lpos) (hlv : 1 ≤ W.lv) (hcode : env.code = .ref c) (hCH : ∀ h, (KF W.w.params).In h → CodeHd h c P)
    (hc : compChk env scope [x] = true) (hl : lamChk env scope x (ρc.map (·.1)) = true) (hsub : ∀ p ∈ ρc, p ∈ ρ) (hco : scope.isCoroutine = false) (hgen : scope.isGenerator = false)
    (hbind : ∀ name qual pm cdv ctv v, bindArgs (kla_fn name qual params body scope (clOf env scope.names) pm cdv ctv) ⟨[v], []⟩ = pure [(x, v)]) (hdef : defaultsOf params env = ([], []))
    (hsn : PE W env ρ (.Name sn sp) (VE (.builtin "sorted"))) (hrow : PE W env ρ rowE (VL Vs))
    (hb : ∀ f c' L' i, i < Vs.length → PE W.down (envX (env.qual ++ "<lambda>") scope L' f (.ref c') (clOf env scope.names)) ((x, vAt Vs i) :: ρc) body (U i))
    (hS : ∀ vs : List Value, vs.length = Vs.length → ∀ A, SkEnv vs (fun i u => ∃ h, (U i).p h u) Srt (model PG W.w) A)
    (hout : ∀ h vs out, VsP Vs h vs → SkOut vs (fun i u => ∃ h, (U i).p h u) Srt out → VsP Os h out.toList)
    (hk : Kd env y) (hρ : ∀ p ∈ ρ', p = (y, VL Os) ∨ (p ∈ ρ ∧ p.1 ≠ y))
    (hs : swapsWith (.Call (.Name sn sp) [rowE] [kw] cpos) (some (.Name y py)) pos.line env = pure false)
    (he : eval (.Call (.Name sn sp) [rowE] [kw] cpos) env = (do callWith cpos (← eval (.Name sn sp) env) [] (backTo cpos (starEach [rowE] env)) (backToKw cpos (keywordEach [kw] env))))
    (hkey : backToKw cpos (keywordEach [kw] env) = [(some (Str.ofString "key"), do let v ← eval kw.value env; standAt cpos; pure v)])
    (hst : starEach [rowE] env = (false, eval rowE env) :: starEach [] env) (hba : backTo cpos (starEach [rowE] env) = (false, eval rowE env) :: backTo cpos (starEach [] env)) (hpl : (backTo cpos (starEach [rowE] env)).any (·.1) = false) :
    PXJ W env [P] (.Assign [.Name y py] (.Call (.Name sn sp) [rowE] [kw] cpos) pos) ρ (fun h => h.get? P = some (tabObj #[])) ρ' (GrJ P) := by
  obtain ⟨hfree, hkind, hnc, hnames, hloc⟩ := chk1 hc
  intro g0 A Mu s Q E hP I hJ kk
  refine wpAny_Assign_Name ?_ hs
  rw [he]
  refine wpAny_bind (hsn A Mu s _ _ I.inv fun v h₁ tk₁ k₁ p₁ => ?_)
  cases p₁
  refine callWith_kw (PA.cons hrow PA.nil hst A Mu { s with heap := h₁, toks := tk₁ } _ _ (I.mono k₁).inv fun vs h₂ tk₂ k₂ p₂ => ?_) hba hpl (by rw [hkey]; rfl) (by rw [hkey]; rfl)
  rw [hkey]
  match vs, p₂ with
  | [], p₂ => exact p₂.elim
  | _ :: _ :: _, p₂ => exact p₂.2.elim
  | [v], p₂ =>
  obtain ⟨l, its, rfl, hpl, hv⟩ := VL.isList (s := { s with heap := h₂, toks := tk₂ }) p₂.1
  have I₂ := (I.mono k₁).mono k₂
  have k12 : s.heap.StaysIn h₂ := stays_trans k₁ k₂
  refine evalAll_cons ?_
  rw [hkw]
  have T := I₂.inv.ct.T
  have hJ₂ := k12 _ _ hJ
  obtain ⟨bm, ob, b1, b2, b3, b4, b5, b6⟩ := T.bmain
  have hgP : mainGlobals ≠ P := fun q => by
    obtain ⟨o, es, ep, e, hd, _⟩ := T.g
    rw [q] at e; rw [show h₂.get? P = some (tabObj #[]) from hJ₂] at e; cases e; cases hd
  have hbP : bm ≠ P := fun q => by rw [q] at b3; rw [show h₂.get? P = some (tabObj #[]) from hJ₂] at b3; cases b3; cases b4
  have hbG : bm ≠ mainGlobals := fun q => by
    obtain ⟨o, es, ep, e, hd, _⟩ := T.g
    rw [q, e] at b3; cases b3; rw [hd] at b6; cases b6
  refine wpAny_bind (kla_eval hdef (kla_makeFunction (s := { s with heap := h₂, toks := tk₂ }) (mg := W.mg) (closureFor_eq hfree) I₂.inv.eg T.g hcode (hCH _ I₂.inv.ct.X) hJ₂ trivial rfl hgP ⟨bm, ob, b1, b2, hbG, hbP, b3, b4, b5, b6⟩ fun c' ctv h₃ tk₃ hx hge hlt hrec htb => ?_))
  refine wpAny_bind (wpAny_standAt (wpAny_pure (evalAll_nil ?_)))
  let f := h₃.objs.size
  generalize hob : kla_obj "<lambda>" (env.qual ++ "<lambda>") params body scope (clOf env scope.names) ((W.mg "__name__").getD .none) c' ctv = ob
  have hfre : ob.isFreed = false := by rw [← hob]; rfl
  have kH : ∀ b o, b ∉ [P] → h₂.get? b = some o → (h₃.push ob).get? b = some o := fun b o hb e => stays_push _ _ _ (hx b o (fun q => hb (q ▸ .head _)) e)
  have I₃ : FInv W g0 A env Mu ρ (h₃.push ob) := I₂.off (Ch := [P]) kH fun a ha => by
    cases List.mem_singleton.mp ha
    exact ⟨(hP _ (.head _)).1, (hP _ (.head _)).2, _, stays_push _ _ _ htb⟩
  have hnl : l ∉ Mu := fun q => by
    obtain ⟨a, its', e, ⟨n, ho⟩, _⟩ := p₂.1
    cases e; rw [hideAll_none Mu q] at ho; cases ho
  have hplH : (h₃.push ob).PlainList l its.toArray := hpl.at fun o e => kH _ _ (fun q => hnl (List.mem_singleton.mp q ▸ (hP _ (.head _)).1)) e
  have hmH : (hideAll h₂ Mu).StaysIn (hideAll (h₃.push ob) Mu) := hid_mono fun b o hb e => kH b o (fun q => hb (List.mem_singleton.mp q ▸ (hP _ (.head _)).1)) e
  have hfo : (h₃.push ob).get? f = some ob := Heap.get?_push_size _ hfre
  have hlen := hv.length
  show wpAny _ A (call (.builtin "sorted") [.ref l] [(Str.ofString "key", .ref f)]) _ _ { s with heap := h₃.push ob, toks := tk₃ }
  refine sk_sorted (s := { s with heap := h₃.push ob, toks := tk₃ }) (ksk_t1 f) (hS its hlen _) hplH.isList (fun i v hiv h tk hh Q' E' kq => ?_) fun D h' tk out st hD hplD ho => ?_
  · have I₄ := I₃.mono hh
    refine lam_call (W := W) (A := A.in1.in1) (s := { s with heap := h, toks := tk }) (V := vAt Vs i) (U := U i) (Mu := Mu) (ρc := ρc) hlv I₄.inv.ct.in2 ((hh _ _ hfo).trans (by rw [← hob])) ((hrec.keeps (stays_push _)).keeps hh) (hbind _ _ _ _ _ v) (hloc x (.head _)) hnc hco hgen hkind I₄.inv.mu I₄.inv.sta (fun y c e => ?_) ((vAt Vs i).mono (stays_trans hmH (hid_mono fun b o _ e => hh b o e)) (VsP.at hv hiv)) (fun p hp => ?_) (fun L' => hb f c' L' i (by rw [← hlen]; exact (List.getElem?_eq_some_iff.mp hiv).1)) fun u h' tk' k' pu => kq u h' tk' k' ⟨h', pu⟩
    · obtain ⟨_, w, o, e', _⟩ := I₄.cel y c (clOf_lookup e); exact ⟨o, e'⟩
    · have := List.all_eq_true.mp hl p.1 (List.mem_map_of_mem hp)
      simp only [Bool.and_eq_true, Bool.not_eq_true', beq_iff_eq, List.any_eq_true, beq_eq_false_iff_ne] at this
      obtain ⟨⟨⟨h1, h2⟩, h3⟩, y, hy, h4, h5⟩ := this
      obtain ⟨u, l', pu⟩ := I₄.vars p (hsub p hp)
      rcases l' with ⟨e, _⟩ | ⟨_, c₂, hc₂, hu⟩
      · exact absurd e h3
      · obtain ⟨ya, yb⟩ := y
        cases h4; cases h5
        exact ⟨h2, h1, c₂, u, clOf_free hy hc₂, hu, pu⟩
  · have hDM : D ∉ Mu := fun q => by obtain ⟨_, o, e⟩ := I₃.mu D q; rw [show (h₃.push ob).get? D = none from hD] at e; cases e
    refine (I₃.mono st).store (s := { s with heap := h', toks := tk }) (V := VL Os) hk ⟨D, out.toList, rfl, ?_, hout _ _ _ (hv.mono (stays_trans hmH (hid_mono fun b o _ e => st b o e))) ho⟩ hρ fun h₅ tk₅ k₅ I₅ => kk h₅ tk₅ (fun b o hb hn e => k₅ b o hb (st _ _ (kH b o hn (k12 _ _ e)))) I₅ ⟨_, k₅ P _ (hP _ (.head _)).2 (st _ _ (stays_push _ _ _ htb))⟩
    rw [Array.toArray_toList]
    exact hplD.at fun o e => hideAll_get _ e hDM
end
end Mine
-- Py
namespace Mine
noncomputable def keyAt (keys vs : List Value) (i : Nat) : Keyed := (keys.getD i .none, vs.getD i .none)
theorem zip_keyAt : ∀ {keys vs : List Value}, keys.length = vs.length → keys.zip vs = (List.range vs.length).map (keyAt keys vs) := fun {keys vs} h => by
  apply List.ext_getElem?
  intro i
  by_cases hi : i < vs.length
  · have hk : i < keys.length := h ▸ hi
    rw [List.getElem?_eq_getElem (by rw [List.length_zip, h, Nat.min_self]; exact hi), List.getElem_zip, List.getElem?_map, List.getElem?_range hi]
    simp [keyAt, hi, hk]
  · rw [List.getElem?_eq_none (by rw [List.length_zip, h, Nat.min_self]; omega), List.getElem?_eq_none (by simp; omega)]
theorem sk_perm {vs keys : List Value} (hl : keys.length = vs.length) {xs : Array Keyed} (hp : xs.Perm (keys.toArray.zip vs.toArray)) {le : Keyed → Keyed → Prop} (hs : xs.toList.Pairwise le) {q : List Nat} (hq : q.Perm (List.range vs.length))
    (hst : (q.map (keyAt keys vs)).Pairwise fun a b => le a b ∧ ¬ le b a) : xs.toList = q.map (keyAt keys vs) := by
  have p1 : xs.toList.Perm (q.map (keyAt keys vs)) := by
    have := Array.perm_iff_toList_perm.mp hp
    rw [Array.toList_zip, List.toList_toArray, List.toList_toArray, zip_keyAt hl] at this
    exact this.trans (hq.map _).symm
  refine List.Perm.eq_of_pairwise (le := le) (fun a b ha hb h1 h2 => ?_) hs (hst.imp And.left) p1
  have ha := p1.mem_iff.mp ha
  obtain ⟨i, hi, rfl⟩ := List.getElem_of_mem ha
  obtain ⟨j, hj, rfl⟩ := List.getElem_of_mem hb
  rcases Nat.lt_trichotomy i j with h | h | h
  · exact absurd h2 ((List.pairwise_iff_getElem.mp hst i j hi hj h).2)
  · subst h; rfl
  · exact absurd h1 ((List.pairwise_iff_getElem.mp hst j i hj hi h).2)
theorem VsP.pick {h : Heap} {Vs : List VP} {vs : List Value} (x : VsP Vs h vs) : ∀ {q : List Nat}, (∀ i ∈ q, i < vs.length) → VsP (q.map (vAt Vs)) h (q.map fun i => vs.getD i .none)
  | [], _ => trivial
  | i :: q, hq => ⟨VsP.at x (by simp [hq i (.head _)]), VsP.pick x fun j hj => hq j (.tail _ hj)⟩
theorem sk_out {vs : List Value} {Kp : Nat → Value → Prop} {le : Keyed → Keyed → Prop} {out : Array Value} (ho : SkOut vs Kp (fun _ xs => xs.toList.Pairwise le) out) {q : List Nat} (hq : q.Perm (List.range vs.length))
    (hst : ∀ keys : List Value, keys.length = vs.length → (∀ i u, keys[i]? = some u → Kp i u) → (q.map (keyAt keys vs)).Pairwise fun a b => le a b ∧ ¬ le b a) : out.toList = q.map fun i => vs.getD i .none := by
  obtain ⟨keys, xs, h1, h2, h3, h4, rfl⟩ := ho
  rw [Array.toList_map, sk_perm h1 h3 h4 hq (hst keys h1 h2), List.map_map]; rfl
theorem sk_outP {h : Heap} {Vs : List VP} {vs : List Value} (hv : VsP Vs h vs) {Kp : Nat → Value → Prop} {le : Keyed → Keyed → Prop} {out : Array Value} (ho : SkOut vs Kp (fun _ xs => xs.toList.Pairwise le) out) {q : List Nat} (hq : q.Perm (List.range Vs.length))
    (hst : ∀ keys : List Value, keys.length = vs.length → (∀ i u, keys[i]? = some u → Kp i u) → (q.map (keyAt keys vs)).Pairwise fun a b => le a b ∧ ¬ le b a) : VsP (q.map (vAt Vs)) h out.toList := by
  have hl := hv.length
  rw [sk_out ho (hl ▸ hq) hst]
  exact VsP.pick hv fun i hi => by have := List.mem_range.mp (hq.mem_iff.mp hi); omega
theorem pw_map {α β : Type} {f : α → β} {R : β → β → Prop} {S : α → α → Prop} {l : List α} (h : l.Pairwise S) (hi : ∀ a ∈ l, ∀ b ∈ l, S a b → R (f a) (f b)) : (l.map f).Pairwise R := by
  rw [List.pairwise_map]
  exact h.imp_of_mem fun ha hb => hi _ ha _ hb
/-- int keys -/
noncomputable abbrev leN (a b : Keyed) : Prop := numOf a.1 ≤ numOf b.1
theorem skEnv_int {M : Model} {A : Around} (κ : Nat → Int) (vs : List Value) (h2 : 2 ≤ vs.length) (h64 : vs.length < 64) {prog : Program} {w : World} (hM : M = model prog w) : SkEnv vs (fun i u => ∃ h, (VI (κ i)).p h u) (fun _ xs => xs.toList.Pairwise leN) M A := by
  subst hM
  have kints : ∀ keys : List Value, (∀ i u, keys[i]? = some u → ∃ h, (VI (κ i)).p h u) → ∃ kz, IntsAre keys kz := fun keys hK => by
    have : ∀ (keys : List Value), (∀ u ∈ keys, ∃ n t, u = .int n t) → ∃ kz, IntsAre keys kz := by
      intro keys
      induction keys with
      | nil => exact fun _ => ⟨[], .nil⟩
      | cons u r ih =>
        intro h
        obtain ⟨n, t, rfl⟩ := h u (.head _)
        obtain ⟨kz, hk⟩ := ih fun v hv => h v (.tail _ hv)
        exact ⟨n :: kz, .cons n t hk⟩
    refine this keys fun u hu => ?_
    obtain ⟨i, hi, rfl⟩ := List.getElem_of_mem hu
    obtain ⟨_, t, e⟩ := hK i _ (List.getElem?_eq_getElem hi)
    exact ⟨_, t, e⟩
  refine ⟨h2, h64, fun keys hl hK => ?_, fun keys hl hK s' E => ?_⟩
  · obtain ⟨kz, hk⟩ := kints keys hK
    exact ksk_kind (keys := keys.toArray) (kz := kz) (by simpa using hk) (by simp [hl]; exact h2)
  · obtain ⟨kz, hk⟩ := kints keys hK
    have hz : (keys.toArray.zip vs.toArray).size = vs.length := by simp [hl]
    refine wpS_sortRuns (a₀ := keys.toArray.zip vs.toArray) (ksk_intKeys (kz := kz) (by simpa using hk)) ⟨Array.Perm.refl _, rfl, rfl, rfl⟩ (by rw [hz]; exact h2) (by rw [hz]; exact h64) fun st' hp hf hs => ⟨hp, hf, ?_⟩
    have hsz : (arrOf st').size = (keys.toArray.zip vs.toArray).size := hp.size_eq
    rw [List.pairwise_iff_getElem]
    intro i j hi hj hij
    have := hs i j (Nat.le_of_lt hij) (by rw [← hsz]; simpa using hj)
    have e : ∀ k (hk : k < (arrOf st').toList.length), K (arrOf st') k = numOf (arrOf st').toList[k].1 := fun k hk => by
      unfold K
      rw [Array.getElem?_eq_getElem (by simpa using hk)]; simp
    rw [e i hi, e j hj] at this; exact this
noncomputable def strL : Value → List Nat
  | .str x _ => x.cps.toList
  | _ => []
noncomputable abbrev leS (a b : Keyed) : Prop := ¬ strL b.1 < strL a.1
theorem skEnv_str {M : Model} {A : Around} (κ : Nat → Str) (vs : List Value) (h2 : 2 ≤ vs.length) (h64 : vs.length < 64) {prog : Program} {w : World} (hM : M = model prog w) : SkEnv vs (fun i u => ∃ h, (VS (κ i)).p h u) (fun _ xs => xs.toList.Pairwise leS) M A := by
  subst hM
  have kstrs : ∀ keys : List Value, (∀ i u, keys[i]? = some u → ∃ h, (VS (κ i)).p h u) → ∃ kz, StrsAre keys kz := fun keys hK => by
    have : ∀ (keys : List Value), (∀ u ∈ keys, ∃ n t, u = .str n t) → ∃ kz, StrsAre keys kz := by
      intro keys
      induction keys with
      | nil => exact fun _ => ⟨[], .nil⟩
      | cons u r ih =>
        intro h
        obtain ⟨n, t, rfl⟩ := h u (.head _)
        obtain ⟨kz, hk⟩ := ih fun v hv => h v (.tail _ hv)
        exact ⟨n :: kz, .cons n t hk⟩
    refine this keys fun u hu => ?_
    obtain ⟨i, hi, rfl⟩ := List.getElem_of_mem hu
    obtain ⟨_, t, e⟩ := hK i _ (List.getElem?_eq_getElem hi)
    exact ⟨_, t, e⟩
  refine ⟨h2, h64, fun keys hl hK => ?_, fun keys hl hK s' E => ?_⟩
  · obtain ⟨kz, hk⟩ := kstrs keys hK
    match keys, hl, hk with
    | [], hl, _ => have : vs.length = 0 := hl.symm; omega
    | [_], hl, _ => have : vs.length = 1 := hl.symm; omega
    | v₁ :: v₂ :: r, _, hk => exact keyKind_strs hk
  · obtain ⟨kz, hk⟩ := kstrs keys hK
    have hz : (keys.toArray.zip vs.toArray).size = vs.length := by simp [hl]
    have hks : PyProof.Rows.KeysOf PyProof.Rows.strKind (keys.toArray.zip vs.toArray) := by
      intro p hp
      rw [ksk_zip] at hp
      obtain ⟨x, y⟩ := p
      have hx := (List.of_mem_zip hp).1
      obtain ⟨i, hi, e⟩ := List.getElem_of_mem hx
      obtain ⟨_, t, e'⟩ := hK i x (by rw [← e]; exact List.getElem?_eq_getElem hi)
      exact ⟨(κ i).cps.toList, by rw [e']⟩
    refine wpS_sortRunsK (κ := PyProof.Rows.strKind) (a₀ := keys.toArray.zip vs.toArray) strKind_oneLt hks ⟨Array.Perm.refl _, rfl, rfl, rfl⟩ (by rw [hz]; exact h2) (by rw [hz]; exact h64) fun st' hp hf hs => ⟨hp, hf, ?_⟩
    have hsz : (arrOf st').size = (keys.toArray.zip vs.toArray).size := hp.size_eq
    rw [List.pairwise_iff_getElem]
    intro i j hi hj hij
    have := hs i j (Nat.le_of_lt hij) (by rw [← hsz]; simpa using hj)
    have e : ∀ k (hk : k < (arrOf st').toList.length), KK PyProof.Rows.strKind (arrOf st') k = strL (arrOf st').toList[k].1 := fun k hk => by
      unfold KK
      rw [Array.getElem?_eq_getElem (by simpa using hk)]
      rw [Array.getElem_toList]
      show (PyProof.Rows.strKind.keyOf ((arrOf st')[k]'(by simpa using hk)).1).getD PyProof.Rows.strKind.dflt = _
      generalize ((arrOf st')[k]'(by simpa using hk)).1 = v
      cases v <;> rfl
    rw [e i hi, e j hj] at this
    exact of_decide_eq_false this
end Mine
-- Pw
namespace Mine
/-- frames may be stamped: their data stay -/
structure Stamp (F : List Addr) (h h' : Heap) : Prop where
  keep : ∀ b o, b ∉ F → h.get? b = some o → h'.get? b = some o
  data : ∀ b ∈ F, ∀ o, h.get? b = some o → ∃ sl, h'.get? b = some { o with slots := sl }
theorem Stamp.of {F : List Addr} {h h' : Heap} (k : h.StaysIn h') : Stamp F h h' := ⟨fun b o _ e => k b o e, fun b _ o e => ⟨o.slots, k b o e⟩⟩
theorem Stamp.trans {F : List Addr} {a b c : Heap} (x : Stamp F a b) (y : Stamp F b c) : Stamp F a c :=
  ⟨fun p o hp e => y.keep p o hp (x.keep p o hp e), fun p hp o e => let ⟨sl, e1⟩ := x.data p hp o e; let ⟨sl2, e2⟩ := y.data p hp _ e1; ⟨sl2, e2⟩⟩
/-- a call that may stamp the frames of the stack; its answer is a plain value -/
noncomputable def FCs (W : Wd) (f : Value) (Vs : List VP) (V : VP) : Prop :=
  ∀ (A : Around) (Mu : List Addr) (s : Shared) (vs : List Value) (Q E : Value → Shared → Prop), CtB 1005 W A s.heap → (KF W.w.params).In (hideAll s.heap (frsA A)) → Top topProg LZ W.mean W.mg W.mb (hideAll s.heap (frsA A)) → (∀ a ∈ Mu, ∃ o, s.heap.get? a = some o) → (∀ b ∈ frsA A, b ∈ Mu) → VsP Vs (hideAll s.heap Mu) vs →
    (∀ v h' tk, Stamp (frsA A) s.heap h' → V.p h' v → Q v { s with heap := h', toks := tk }) → wpAny (model PG W.w) A (call f vs) Q E s
section
variable {W : Wd} {g0 : Heap} {A : Around} {env : Env} {Mu : List Addr} {ρ ρ' : Rho} {h h' : Heap}
/-- all the frames of the stack are ours or may be stamped -/
noncomputable def AllF (W : Wd) (A : Around) (env : Env) : Prop := ∀ b ∈ frsA A, Own W env b
theorem FInv.stamp (I : FInv W g0 A env Mu ρ h) (hA : ∀ b ∈ frsA A, b = env.locals ∨ b ∈ W.hf) (k : Stamp (frsA A) h h') : FInv W g0 A env Mu ρ h' := by
  have own : ∀ b ∈ frsA A, Own W env b := fun b hb => (hA b hb).elim .inl fun q => .inr (.inr q)
  have dat : ∀ b o, h.get? b = some o → ∃ sl, h'.get? b = some { o with slots := sl } := fun b o e => by
    by_cases q : b ∈ frsA A
    · exact k.data b q o e
    · exact ⟨o.slots, k.keep b o q e⟩
  have cel : ∀ x c, env.cells.lookup x = some c → c ∉ frsA A := fun x c e q => by
    rcases hA c q with z | z
    · obtain ⟨_, v, o, e1, hd⟩ := I.cel x c e
      obtain ⟨m, o', es, ep, e2, hd', _⟩ := I.ns
      rw [z, e2] at e1; cases e1; rw [hd] at hd'; cases hd'
    · exact I.hap.2 x c e z
  have hns : ∀ m, h.Ns env.locals m → h'.Ns env.locals m := fun m ⟨o, es, ep, e, hd, r⟩ => by
    obtain ⟨sl, e'⟩ := dat _ _ e
    exact ⟨_, es, ep, e', hd, r⟩
  have hcl : ∀ x c v, env.cells.lookup x = some c → h.IsCell c v → h'.IsCell c v := fun x c v e ⟨o, q, r⟩ => ⟨o, k.keep _ _ (cel x c e) q, r⟩
  have hm : (hideAll h Mu).StaysIn (hideAll h' Mu) := hid_mono fun b o hb e => k.keep b o (fun q => hb (I.ownM (own b q))) e
  refine ⟨I.S, fun b o e => k.keep b o (fun q => by rw [(I.mu b (I.ownM (own b q))).1] at e; cases e) (I.keep b o e), I.above, let ⟨m, e⟩ := I.ns; ⟨m, hns m e⟩, I.lm, fun a ha => ⟨(I.mu a ha).1, let ⟨_, o, e⟩ := I.mu a ha; let ⟨sl, e'⟩ := dat a o e; ⟨_, e'⟩⟩, fun x c e => let ⟨q, v, u⟩ := I.cel x c e; ⟨q, v, hcl x c v e u⟩, I.apart, fun p hp => ?_, I.hfm, fun b hb => ?_, I.hap, I.sa⟩
  · obtain ⟨v, l, q⟩ := I.vars p hp
    refine ⟨v, ?_, p.2.mono hm q⟩
    rcases l with ⟨e, m, hn, hv⟩ | ⟨e, c, hx, hv⟩
    · exact .inl ⟨e, m, hns m hn, hv⟩
    · exact .inr ⟨e, c, hx, hcl _ _ _ hx hv⟩
  · obtain ⟨o, sl0, z0, e, q⟩ := I.fr b hb
    obtain ⟨sl, e'⟩ := dat b _ e
    exact ⟨o, sl, z0, e', q⟩
theorem FInv.frsM (I : FInv W g0 A env Mu ρ h) (hst : W.st = true) : ∀ b ∈ frsA A, Own W env b := fun b hb => (I.sa hst b hb).elim .inl fun q => .inr (.inr q)
/-- an expression that may stamp the frames -/
noncomputable def PEs (W : Wd) (env : Env) (ρ : Rho) (e : Expr) (V : VP) : Prop :=
  ∀ (g0 : Heap) (A : Around) (Mu : List Addr) (s : Shared) (Q E : Value → Shared → Prop), FInv W g0 A env Mu ρ s.heap →
    (∀ v h' tk, FInv W g0 A env Mu ρ h' → (∀ b o, ¬ Own W env b → s.heap.get? b = some o → h'.get? b = some o) → V.p h' v → Q v { s with heap := h', toks := tk }) → wpAny (model PG W.w) A (eval e env) Q E s
theorem PEs.call {x : Str} {px pos : Pos} {e : Expr} {es : List Expr} {f : Addr} {Vs : List VP} {V : VP} (hst : W.st = true) (hn : PE W env ρ (.Name x px) (VE (.ref f))) (hk : keepIn (KF W.w.params) (.ref f) = true) (ha : PA W env ρ pos (e :: es) Vs) (hf : FCs W (.ref f) Vs V)
    (he : starEach (e :: es) env = (false, eval e env) :: starEach es env := by rfl) (hp : (backTo pos (starEach es env)).any (·.1) = false := by rfl) : PEs W env ρ (.Call (.Name x px) (e :: es) [] pos) V := fun g0 A Mu s Q E I k =>
  Call_ (hn A Mu s _ _ I.inv fun v h₁ tk₁ k₁ p₁ => by
    cases p₁
    refine callWith_K (I.mono k₁).inv.ct.X hk (ha A Mu { s with heap := h₁, toks := tk₁ } _ _ (I.mono k₁).inv fun vs h₂ tk₂ k₂ p₂ => ⟨((I.mono k₁).mono k₂).inv.ct.X, ?_⟩) he hp
    have I₂ := (I.mono k₁).mono k₂
    have st0 : g0.StaysIn (hideAll h₂ (frsA A)) := fun b o e => hideAll_get _ (I₂.keep b o e) fun q => by rw [(I₂.mu b (I₂.ownM (I₂.frsM hst b q))).1] at e; cases e
    exact hf A Mu _ vs Q E I₂.inv.ct.weak (I₂.S.X.keeps st0) (I₂.S.T.keeps st0) I₂.inv.mu (fun b hb => I₂.ownM (I₂.frsM hst b hb)) p₂ fun v h₃ tk₃ k₃ p₃ => k v h₃ tk₃ (I₂.stamp (I₂.sa hst) k₃) (fun b o hb e => k₃.keep b o (fun q => hb (I₂.frsM hst b q)) (k₂ _ _ (k₁ _ _ e))) p₃)
theorem PX.assignS {x : Str} {px pos : Pos} {e : Expr} {V : VP} (he : PEs W env ρ e V) (hV : Flt V) (hk : Kd env x) (hρ : ∀ p ∈ ρ', p = (x, V) ∨ (p ∈ ρ ∧ p.1 ≠ x)) (hs : swapsWith e (some (.Name x px)) pos.line env = pure false := by rfl) : PX W env (.Assign [.Name x px] e pos) ρ ρ' := fun g0 A Mu s Q E I k =>
  wpAny_Assign_Name (he g0 A Mu s _ _ I fun v h₁ tk₁ I₁ k₁ p₁ => I₁.store (s := { s with heap := h₁, toks := tk₁ }) hk (hV _ _ _ p₁) hρ fun h₂ tk₂ k₂ I₂ => k h₂ tk₂ (fun b o hb e => k₂ b o hb (k₁ b o hb e)) I₂) hs
theorem PX.iteS {l r : Expr} {op : CmpOp} {cpos pos : Pos} {body orelse : List Stmt} {V₁ V₂ : VP} {b : Bool} (hl : PEs W env ρ l V₁) (fl : Flt V₁) (h : F2 W (compareOp op) V₁ V₂ (VB b)) (h₂ : PE W env ρ r V₂) (h1 : b = true → PS W env body ρ ρ') (h2 : b = false → PS W env orelse ρ ρ') (hm : behindInMarks op r = false := by with_unfolding_all rfl) : PX W env (.If (.Compare l [op] [r] cpos) body orelse pos) ρ ρ' := fun g0 A Mu s Q E I k =>
  wpAny_If (wpAny_isTrue_Compare1 (hl g0 A Mu s _ _ I fun a h₁ tk₁ I₁ k₁ p₁ => h₂ A Mu { s with heap := h₁, toks := tk₁ } _ _ I₁.inv fun c h₃ tk₃ k₃ p₃ =>
    h A Mu { s with heap := h₃, toks := tk₃ } a c _ _ (I₁.mono k₃).inv.ct (I₁.mono k₃).inv.mu (fl _ _ _ p₁) p₃ fun v h₄ tk₄ k₄ p₄ => by
      cases p₄
      refine wpAny_truthy_bool ?_
      have I₄ := (I₁.mono k₃).mono k₄
      have kk : ∀ x o, ¬ Own W env x → s.heap.get? x = some o → h₄.get? x = some o := fun x o hx e => k₄ _ _ (k₃ _ _ (k₁ x o hx e))
      cases b with
      | true => exact h1 rfl g0 A Mu { s with heap := h₄, toks := tk₄ } Q E I₄ fun h₅ tk₅ k₅ I₅ => k h₅ tk₅ (fun x o hx e => k₅ x o hx (kk x o hx e)) I₅
      | false => exact h2 rfl g0 A Mu { s with heap := h₄, toks := tk₄ } Q E I₄ fun h₅ tk₅ k₅ I₅ => k h₅ tk₅ (fun x o hx e => k₅ x o hx (kk x o hx e)) I₅) hm)
/-- a call of a def of the text that may stamp the frames -/
theorem FCs.ofDef {f : Addr} {oc : Value} {od : Option Addr} {osl : Array (Option Value)} {name qual : Str} {params : Arguments} {body : List Stmt} {scope : Scope} {dV kV doc pm cdv ct : Value} {an : Option Addr} {Vs : List VP} {V : VP} {xs : List Str}
    (hlv : 1 ≤ W.lv) (ho : (KF W.w.params).lookup f = some ⟨oc, od, .func (fnOf name qual params body scope dV kV doc pm an cdv ct), osl⟩) (hcd : codeIn (KF W.w.params) cdv qual = true)
    (hbind : ∀ vs : List Value, vs.length = xs.length → bindArgs (fnOf name qual params body scope dV kV doc pm an cdv ct) ⟨vs, []⟩ = pure (xs.zip vs)) (hxs : xs.Nodup) (hlen : Vs.length = xs.length)
    (hkind : ∀ n, ∀ x ∈ xs, scope.names.lookup x = some .local ∨ (scope.names.lookup x = some .cell ∧ ((cellsFrom n scope.names []).lookup x).isSome = true)) (hnd : ((cellsFrom 0 scope.names []).map (·.1)).Nodup)
    (hco : scope.isCoroutine = false) (hgen : scope.isGenerator = false) (hk : scope.kind = .function)
    (hV : Flt V) (h : ∀ F ho L g0, PRa g0 (W.downF F true ho) (defEnv qual scope L f cdv) body (zipRho xs Vs) V) : FCs W (.ref f) Vs V := by
  intro A Mu s vs Q E ct X0 T0 mu fm p k
  refine call_defF (gB := s.heap) (X := frsA A) (MuC := Mu) (frsA A) true (fun b => s.heap.get? b) (fun _ _ => rfl) (fun _ b hb => hb) hlv ct X0 T0 (fun l e b hb => by unfold frsA at hb; rw [e] at hb; exact hb) (fun b hb => hb) stays_refl (Nat.le_refl _) ho hcd (hbind vs (by rw [p.length, hlen])) hxs (by rw [p.length, hlen]) hkind hnd p (fun a ha => ⟨fm a ha, hideAll_none _ ha, mu a (fm a ha)⟩) hco hgen hk fun L h₁ tk k₁ I hown E' => ?_
  refine h (frsA A) (fun b => s.heap.get? b) L _ _ _ { s with heap := h₁, toks := tk } _ _ I fun v h₂ tk₂ k₂ r₂ p₂ => ?_
  refine k v h₂ tk₂ ⟨fun b o hb e => k₂ b o (fun q => by rw [hown b hb q] at e; cases e) (k₁ b o e), fun b hb o e => ?_⟩ p₂
  obtain ⟨o', sl, z, e'⟩ := r₂ b hb
  have z : s.heap.get? b = some o' := z
  rw [e] at z; cases z
  exact ⟨sl, e'⟩
end
end Mine
-- Qa
namespace Mine
open Builtin Builtin.Str StrLaws
section
variable {W : Wd} {env : Env} {ρ : Rho}
/-- a part of a slice -/
noncomputable def PO (W : Wd) (env : Env) (ρ : Rho) : Option Expr → Option Int → Prop
  | none, none => True
  | some e, some i => PE W env ρ e (VI i)
  | _, _ => False
theorem PO.run {A : Around} {Mu : List Addr} {s : Shared} {lo : Option Expr} {l : Option Int} {Q E : Value → Shared → Prop} (h : PO W env ρ lo l) (I : Inv W A env Mu ρ s.heap)
    (k : ∀ (lt : Option (Int × Tok)) h' tk, s.heap.StaysIn h' → lt.map (·.1) = l → Q (partValue lt) { s with heap := h', toks := tk }) : wpAny (model PG W.w) A (evalPart lo env) Q E s :=
  match lo, l, h with
  | none, none, _ => wpAny_pure (k none s.heap s.toks stays_refl rfl)
  | some e, some i, h => PE.sliceAux h I k
where
  PE.sliceAux {A : Around} {Mu : List Addr} {s : Shared} {e : Expr} {i : Int} {Q E : Value → Shared → Prop} (h : PE W env ρ e (VI i)) (I : Inv W A env Mu ρ s.heap)
    (k : ∀ (lt : Option (Int × Tok)) h' tk, s.heap.StaysIn h' → lt.map (·.1) = some i → Q (partValue lt) { s with heap := h', toks := tk }) : wpAny (model PG W.w) A (eval e env) Q E s :=
    h A Mu s Q E I fun v h' tk k' p => by
      obtain ⟨t, rfl⟩ := p
      exact k (some (i, t)) h' tk k' rfl
theorem PE.sliceS {value : Expr} {lo hi : Option Expr} {p pos : Pos} {x y : Str} {l u : Option Int} (hv : PE W env ρ value (VS x)) (hl : PO W env ρ lo l) (hu : PO W env ρ hi u) (hy : Txt.slice x l u = y) (hsz : x.length ≤ 1000000)
    (ht : ∀ o r, letTemporaryGo value o r = pure () := by intro _ _; rfl) : PE W env ρ (.Subscript value (.Slice lo hi none p) pos) (VS y) := by
  intro A Mu s Q E I kk
  subst hy
  refine wpAny_Subscript_str_slice (hv A Mu s _ _ I fun o h₁ tk₁ k₁ p₁ => hl.run (I.mono k₁) fun lt h₂ tk₂ k₂ e₂ => hu.run ((I.mono k₁).mono k₂) fun ut h₃ tk₃ k₃ e₃ => ?_) ht
  obtain ⟨t, rfl⟩ := p₁
  subst e₂ e₃
  refine ⟨x, t, lt, ut, rfl, rfl, rfl, post_val_or_str ⟨Nat.le_trans (Txt.slice_le x (lt.map (·.1)) (ut.map (·.1))) (Nat.le_trans hsz (by decide)), fun t' k => ?_⟩⟩
  exact kk _ _ _ (stays_trans k₁ (stays_trans k₂ (stays_trans k₃ (stays_push _)))) ⟨_, rfl⟩
theorem F2.itemS {value slice : Expr} {x y : Str} {i : Int} (h0 : -(x.length : Int) ≤ i) (h1 : i < x.length) (hsz : x.length ≤ 1000000) (hy : Txt.item x i = y)
    (hs : ∀ t u, subscripted slice false (.str x t) (.int i u) = operate [.str x t, .int i u] (getItem (.str x t) (.int i u)) := by intro _ _; with_unfolding_all rfl)
    (hg : ∀ t r, letTemporaryGo value (.str x t) r = pure () := by intro _ _; with_unfolding_all rfl) : F2 W (subscriptTail value slice) (VS x) (VI i) (VS y) := by
  rintro A Mu s a b Q E ct mu ⟨t, rfl⟩ ⟨u, rfl⟩ kk
  subst hy
  exact item_str (fitsSsize_of (N := 9223372036854775808) (by omega) (by omega) (Int.le_refl _)) h0 h1 (fun _ => kk _ s.heap _ stays_refl ⟨_, rfl⟩) (hs t u) (hg t)
theorem F2.itemT {value slice : Expr} {Vs : List VP} {k : Nat} {V : VP} (hk : k < 100) (hV : Vs[k]? = some V)
    (hs : ∀ l u, subscripted slice false (.ref l) (.int (k : Int) u) = operate [.ref l, .int (k : Int) u] (getItem (.ref l) (.int (k : Int) u)) := by intro _ _; with_unfolding_all rfl)
    (hg : ∀ l r, letTemporaryGo value (.ref l) r = pure () := by intro _ _; with_unfolding_all rfl) : F2 W (subscriptTail value slice) (VT Vs) (VI k) V := by
  rintro A Mu s a b Q E ct mu ⟨l, its, rfl, ⟨o, ho, hc, hd⟩, x⟩ ⟨u, rfl⟩ kk
  obtain ⟨v, hv, pv⟩ := x.get hV
  have hlt := (List.getElem?_eq_some_iff.mp hv).1
  refine item_tuple (j := k) (x := v) ⟨o, hid_le _ _ ho, hc, hd⟩ (by omega) (by omega) ?_ (by simpa using hv) (kk v s.heap s.toks stays_refl pv) (hs l u) (hg l)
  unfold seqIndex?
  simp only [List.size_toArray]
  have e1 : ¬ ((k : Int) < 0) := by omega
  have e2 : (k : Int) < (its.length : Int) := by omega
  simp [e1, hlt]
theorem FC.find {x y : Str} : FC W (.builtin "str.find") [VS x, VS y] (VI (Txt.find x y)) := by
  intro A Mu s vs Q E ct mu p k
  match vs, p with
  | [u, v], p =>
    obtain ⟨t, rfl⟩ := p.1
    obtain ⟨t', rfl⟩ := p.2.1
    exact SC.find (k _ s.heap _ stays_refl ⟨_, rfl⟩)
  | [], p => exact p.elim
  | [_], p => exact p.2.elim
  | _ :: _ :: _ :: _, p => exact p.2.2.elim
theorem FC.find3 {x y : Str} {i : Int} : FC W (.builtin "str.find") [VS x, VS y, VI i] (VI (Txt.find3 x y i)) := by
  intro A Mu s vs Q E ct mu p k
  match vs, p with
  | [u, v, z], p =>
    obtain ⟨t, rfl⟩ := p.1
    obtain ⟨t', rfl⟩ := p.2.1
    obtain ⟨t'', rfl⟩ := p.2.2.1
    exact SC.find3 (k _ s.heap _ stays_refl ⟨_, rfl⟩)
  | [], p => exact p.elim
  | [_], p => exact p.2.elim
  | [_, _], p => exact p.2.2.elim
  | _ :: _ :: _ :: _ :: _, p => exact p.2.2.2.elim
theorem vs_ofStrs {h : Heap} : ∀ (l : List (Str × Tok)), VsP ((l.map (·.1)).map VS) h (strValues l)
  | [] => trivial
  | p :: r => ⟨⟨_, rfl⟩, vs_ofStrs r⟩
theorem FC.split {x y : Str} (hy : (y.length == 0) = false) (hsz : x.length ≤ 1000000) : FC W (.builtin "str.split") [VS x, VS y] (VL ((Txt.split x y).map VS)) := by
  intro A Mu s vs Q E ct mu p k
  match vs, p with
  | [u, v], p =>
    obtain ⟨t, rfl⟩ := p.1
    obtain ⟨t', rfl⟩ := p.2.1
    have fin : ∀ (l : List (Str × Tok)) (tk : Nat), l.map (·.1) = Txt.split x y → Q (.ref s.heap.objs.size) { s with heap := s.heap.push { cls := .type "list", data := .seq (strValues l).toArray }, toks := tk } := fun l tk e =>
      k _ _ tk (stays_push _) ⟨_, strValues l, rfl, ⟨0, hid_push (Mu := Mu) mu rfl⟩, e ▸ vs_ofStrs l⟩
    have hn : (partsBetween x (occurrences x y 0 x.length (x.length + 1)) y.length).length ≤ sizeLine := by
      have e1 := StrLaws.occ_length_le x y 0 x.length (x.length + 1)
      have : (1000000 : Nat) + 10 ≤ sizeLine := by decide
      rw [length_partsBetween]; omega
    have hl : x.length + 1 ≤ sizeLine := by
      have : (1000000 : Nat) + 10 ≤ sizeLine := by decide
      omega
    cases h1 : (decide (x.length < y.length) || decide (strKind x < strKind y))
    · cases hf : (occurrences x y 0 x.length (x.length + 1)).isEmpty
      · refine call_meets F.slot_str_split (typeIs_str _ _ _) F.entry_str_split (F.args_str_split_2 _ _) (meets_str_split_sep x y t t' h1 hy hf (by omega) hn) ?_
        show wants Q E _ { s with toks := _, heap := s.heap.push { cls := .type "list", data := .seq (strsFrom s.toks (partsBetween x (occurrences x y 0 x.length (x.length + 1)) y.length)).toArray } }
        rw [strsFrom_eq]
        refine fin (numbered s.toks _) _ ((numbered_texts _ _).trans ?_)
        unfold Txt.split
        rw [if_neg (ne_true_of_eq_false h1), if_neg (ne_true_of_eq_false hf)]
      · refine call_meets F.slot_str_split (typeIs_str _ _ _) F.entry_str_split (F.args_str_split_2 _ _) (meets_str_split_not_found x y t t' h1 hy hf) (fin [(x, t)] s.toks ?_)
        unfold Txt.split
        rw [if_neg (ne_true_of_eq_false h1), if_pos hf]; rfl
    · refine call_meets F.slot_str_split (typeIs_str _ _ _) F.entry_str_split (F.args_str_split_2 _ _) (meets_str_split_cannot_occur x y t t' h1) (fin [(x, t)] s.toks ?_)
      unfold Txt.split
      rw [if_pos h1]; rfl
  | [], p => exact p.elim
  | [_], p => exact p.2.elim
  | _ :: _ :: _ :: _, p => exact p.2.2.elim
theorem FC.intS {x : Str} {n : Int} (hn : PySem.intText? x = some n) (hl : x.length ≤ 640) : FC W (.type "int") [VS x] (VI n) := by
  intro A Mu s vs Q E ct mu p k
  match vs, p with
  | [v], p =>
    obtain ⟨t, rfl⟩ := p.1
    exact KIN.call_text hn hl (k _ s.heap _ stays_refl ⟨_, rfl⟩)
  | [], p => exact p.elim
  | _ :: _ :: _, p => exact p.2.elim
theorem FC.isiInt {n : Int} : FC W (.builtin "isinstance") [VI n, VE (.type "int")] (VB true) := by
  intro A Mu s vs Q E ct mu p k
  match vs, p with
  | [u, v], p =>
    obtain ⟨t, rfl⟩ := p.1
    obtain rfl := p.2.1
    exact call_isinstance_yes (typeIs_int s n t) (by rfl) (by rw [isSubtype_type]; kernel_rfl) (k _ s.heap _ stays_refl rfl)
  | [], p => exact p.elim
  | [_], p => exact p.2.elim
  | _ :: _ :: _ :: _, p => exact p.2.2.elim
end
end Mine
-- Qb
namespace Mine
/-- a call of a def of the text; what it raises is seen -/
theorem call_defE {W : Wd} {A : Around} {gB : Heap} {s : Shared} {f : Addr} {oc : Value} {od : Option Addr} {osl : Array (Option Value)} {name qual : Str} {params : Arguments} {body : List Stmt} {scope : Scope} {dV kV doc pm cdv ct : Value} {an : Option Addr} {vs : List Value} {Vs : List VP} {xs : List Str} {X MuC : List Addr} {Q E : Value → Shared → Prop}
    (F : List Addr) (st : Bool) (ho' : Addr → Option Obj) (hho : ∀ b ∈ F, ho' b = gB.get? b) (hst : st = true → ∀ b ∈ frsA A, b ∈ F) (hlv : 1 ≤ W.lv) (ct5 : CtB 1005 W A gB) (X0 : (KF W.w.params).In (hideAll gB F)) (T0 : Top topProg LZ W.mean W.mg W.mb (hideAll gB F)) (hF : ∀ l, A.frames = some l → ∀ b ∈ F, b ∈ l.filterMap (·.frame)) (hFX : ∀ b ∈ F, b ∈ X) (kg : gB.StaysIn s.heap) (hgs : gB.objs.size ≤ s.heap.objs.size) (ho : (KF W.w.params).lookup f = some ⟨oc, od, .func (fnOf name qual params body scope dV kV doc pm an cdv ct), osl⟩) (hcd : codeIn (KF W.w.params) cdv qual = true)
    (hbind : bindArgs (fnOf name qual params body scope dV kV doc pm an cdv ct) ⟨vs, []⟩ = pure (xs.zip vs)) (hxs : xs.Nodup) (hlen : vs.length = xs.length)
    (hkind : ∀ n, ∀ x ∈ xs, scope.names.lookup x = some .local ∨ (scope.names.lookup x = some .cell ∧ ((cellsFrom n scope.names []).lookup x).isSome = true)) (hnd : ((cellsFrom 0 scope.names []).map (·.1)).Nodup)
    (hv : VsP Vs (hideAll s.heap MuC) vs) (hX : ∀ a ∈ X, a ∈ MuC ∧ (hideAll gB F).get? a = none ∧ ∃ o, s.heap.get? a = some o)
    (hco : scope.isCoroutine = false) (hgen : scope.isGenerator = false) (hk : scope.kind = .function)
    (h : ∀ L h₁ tk, s.heap.StaysIn h₁ → FInv (W.downF F st ho') (hideAll gB F) (A.deeper (defEnv qual scope L f cdv)) (defEnv qual scope L f cdv) (X ++ L :: (cellsFrom (L + 1) scope.names []).map (·.2)) (zipRho xs Vs) h₁ → (∀ b, b ∉ F → Own (W.downF F st ho') (defEnv qual scope L f cdv) b → s.heap.get? b = none) → 
      wpAny (model PG W.w) (A.deeper (defEnv qual scope L f cdv)) (execs body (defEnv qual scope L f cdv)) (fun fl s' => Q (match fl with | .ret v => v | _ => .none) s')
        (fun e s' => wpAny (model PG W.w) (A.deeper (defEnv qual scope L f cdv)) (leaving (defEnv qual scope L f cdv) e) (fun _ s'' => E e s'') (fun e' s'' => E e' s'') s') { s with heap := h₁, toks := tk }) :
    wpAny (model PG W.w) A (call (.ref f) vs) Q E s := by
  obtain ⟨dp, un, gd, cn, cs, L₀, a₀, ccd, cl, outer, base, rfl, B, hkc, h1, h2⟩ := ct5.call
  refine wpAny_call ?_
  refine codeAny_call_function (by show dp < recursionLimit; have : recursionLimit = 1000 := rfl; omega) (kg _ _ (ct5.X _ _ ho)) rfl hco hgen rfl ((codeRec_of ct5.X hcd).keeps kg) ?_
  rw [hbind]
  refine wpAny_pure ?_
  refine wpAny_newFunctionEnv_cells hk (fun y hy => hkind _ _ (List.of_mem_zip hy).1) fun env' he s' x => ?_
  subst he
  refine ⟨((ct5.T.nolimit.keeps kg).keeps x.toInCall.keep), codeAny_func ?_⟩
  obtain ⟨h₁, tk, rfl, hk₁⟩ := x.done
  have hnn : (xs.zip vs).map (·.1) = xs := by rw [List.map_fst_zip]; omega
  have hcells := x.cell
  have fresh : ∀ b, s.heap.objs.size ≤ b → s.heap.get? b = none := fun b hb => Heap.get?_none_of_le hb
  have hab := x.above
  have cex : ∀ n c, (n, c) ∈ cellsFrom (s.heap.objs.size + 1) scope.names [] → ∃ v, h₁.IsCell c v := fun n c hm => ⟨_, hcells n c (lookup_of_mem_nodup (cellsFrom_names scope.names 0 (s.heap.objs.size + 1) [] [] rfl ▸ hnd) hm)⟩
  have fr : ∀ a, a ∈ s.heap.objs.size :: (cellsFrom (s.heap.objs.size + 1) scope.names []).map (·.2) → s.heap.get? a = none := fun a ha => by
    rcases List.mem_cons.mp ha with rfl | ha
    · exact fresh _ (Nat.le_refl _)
    · obtain ⟨⟨n, c⟩, hm, rfl⟩ := List.mem_map.mp ha
      exact fresh _ (Nat.le_of_lt (hab n c hm))
  have ex : ∀ a, a ∈ s.heap.objs.size :: (cellsFrom (s.heap.objs.size + 1) scope.names []).map (·.2) → ∃ o, h₁.get? a = some o := fun a ha => by
    rcases List.mem_cons.mp ha with rfl | ha
    · obtain ⟨o, _, _, e, _⟩ := x.toInCall.ns; exact ⟨o, e⟩
    · obtain ⟨⟨n, c⟩, hm, rfl⟩ := List.mem_map.mp ha
      obtain ⟨_, o, e, _⟩ := cex n c hm; exact ⟨o, e⟩
  have gn : ∀ a, s.heap.get? a = none → (hideAll gB F).get? a = none := fun a e => by
    cases q : (hideAll gB F).get? a with
    | none => rfl
    | some o => rw [kg _ _ (of_hideAll _ q)] at e; cases e
  have hsub := hF _ B.stack
  have fF : ∀ b ∈ F, ∃ o, gB.get? b = some o ∧ ∀ vs, o.data ≠ .fields vs := fun b hb => (B.frames.mem (hsub b hb)).2
  have nF : ∀ b, s.heap.get? b = none → b ∉ F := fun b e q => by obtain ⟨o, e', _⟩ := fF b q; rw [kg _ _ e'] at e; cases e
  refine h s.heap.objs.size h₁ tk hk₁ ⟨⟨X0, T0, dp + 1, un + 3, gd, qual, scope, s.heap.objs.size, f, cdv, _, _, base, _, gB, rfl, rfl, rfl, hsub, B, rfl, hk, ?_, ?_⟩, stays_trans hid_le (stays_trans kg hk₁), ?_, ⟨_, x.toInCall.ns⟩, ?_, fun a ha => ?_, fun y c e => ?_, fun y z c e1 e2 => ?_, fun p hp => ?_, fun b hb => List.mem_append_left _ (hFX b hb), fun b hb => let ⟨o, e, q⟩ := fF b hb; ⟨o, o.slots, (hho b hb).trans e, hk₁ _ _ (kg _ _ e), q⟩, ⟨nF _ (fresh _ (Nat.le_refl _)), fun y c e => nF _ (fr c (.tail _ (List.mem_map.mpr ⟨_, mem_of_lookup e, rfl⟩)))⟩, fun hs b hb => ?_⟩ (fun b hbF hb => ?_)
  · show dp + 1 + (W.lv - 1) ≤ 400; omega
  · show un + 3 + 10 * (W.lv - 1) ≤ 1000; omega
  · rw [hideAll_size]; exact hgs
  · exact List.mem_append_right _ (.head _)
  · rcases List.mem_append.mp ha with ha | ha
    · exact ⟨(hX a ha).2.1, let ⟨o, e⟩ := (hX a ha).2.2; ⟨o, hk₁ _ _ e⟩⟩
    · exact ⟨gn a (fr a ha), ex a ha⟩
  · exact ⟨List.mem_append_right _ (.tail _ (List.mem_map.mpr ⟨_, mem_of_lookup e, rfl⟩)), cex y c (mem_of_lookup e)⟩
  · exact name_of_addr x.apart (mem_of_lookup e1) (mem_of_lookup e2)
  · obtain ⟨v, hm, pv⟩ := vs_zip (xs := xs) hv p hp
    refine ⟨v, ?_, p.2.mono (hid_new (fun b o _ e => hk₁ b o e) fun a ha => (List.mem_append.mp ha).elim (fun q => .inl (hX a q).1) fun q => .inr (fr a q)) pv⟩
    rcases hkind (s.heap.objs.size + 1) p.1 (List.of_mem_zip hm).1 with hl | ⟨hl, hc⟩
    · exact .inl ⟨hl, _, x.toInCall.ns, bindL_mem hl _ _ hm (by rw [hnn]; exact hxs)⟩
    · obtain ⟨c, hc⟩ := Option.isSome_iff_exists.mp hc
      refine .inr ⟨.inl hl, c, hc, ?_⟩
      have := hcells p.1 c hc
      have e9 := bindC_mem (v := v) (kindOf := (defEnv qual scope s.heap.objs.size f cdv).kindOf) (n := p.1) (by show scope.names.lookup p.1 ≠ _; rw [hl]; decide) (xs.zip vs) (fun _ => none) hm (by rw [hnn]; exact hxs)
      exact e9 ▸ this
  · have hfr : frsA ((ktrTop dp un gd cn cs L₀ a₀ ccd cl outer).deeper (defEnv qual scope s.heap.objs.size f cdv)) = s.heap.objs.size :: frsA (ktrTop dp un gd cn cs L₀ a₀ ccd cl outer) := rfl
    rw [hfr] at hb
    rcases List.mem_cons.mp hb with rfl | hb
    · exact .inl rfl
    · exact .inr (hst hs b hb)
  · rcases hb with rfl | ⟨y, e⟩ | hb
    · exact fr _ (.head _)
    · exact fr _ (.tail _ (List.mem_map.mpr ⟨_, mem_of_lookup e, rfl⟩))
    · exact absurd hb hbF

section
variable {W : Wd} {env : Env} {ρ ρ' : Rho}
/-- the frames of a stack hold over any base that has none of them -/
theorem funFrames_any {h base base' : Heap} : ∀ {l : List Env}, h.FunFrames base l → (∀ L ∈ l.filterMap (·.frame), base'.get? L = none) → h.FunFrames base' l
  | [], _, _ => trivial
  | env :: rest, ⟨hk, ⟨L, o, hf, _, ho, hd⟩, hr⟩, k => by
    refine ⟨hk, ⟨L, o, hf, k L ?_, ho, hd⟩, funFrames_any hr fun b hb => k b ?_⟩
    · rw [List.filterMap_cons, hf]; exact .head _
    · rw [List.filterMap_cons, hf]; exact .tail _ hb
/-- statements that end with a raise of a class of the text -/
noncomputable def PRr (g0 : Heap) (W : Wd) (env : Env) (sts : List Stmt) (ρ : Rho) (C : Addr) (r : Str) : Prop := ∀ (A : Around) (Mu : List Addr) (s : Shared) (Q : Flow → Shared → Prop) (E : Value → Shared → Prop), FInv W g0 A env Mu ρ s.heap →
  (∀ e h h' tk t, (∀ b o, ¬ Own W env b → s.heap.get? b = some o → h.get? b = some o) → FInv W g0 A env Mu [] h → Heap.MadeExcOf h h' e (.ref C) [.str r t] → E (.ref e) { s with heap := h', toks := tk }) → wpAny (model PG W.w) A (execs sts env) Q E s
theorem PRr.cons {g0 : Heap} {st : Stmt} {sts : List Stmt} {C : Addr} {r : Str} (h : PX W env st ρ ρ') (hr : PRr g0 W env sts ρ' C r) : PRr g0 W env (st :: sts) ρ C r := fun A Mu s Q E I k =>
  wpAny_execs_cons (h g0 A Mu s _ _ I fun h' tk k' I' => hr A Mu { s with heap := h', toks := tk } _ _ I' fun e h h'' tk₂ t k₂ J M => k e h h'' tk₂ t (fun b o hb q => k₂ b o hb (k' b o hb q)) J M)
theorem PRr.no {g0 : Heap} {test : Expr} {body sts : List Stmt} {pos : Pos} {C : Addr} {r : Str} (ht : PT W env ρ test false) (h : PRr g0 W env sts ρ C r) : PRr g0 W env (.If test body [] pos :: sts) ρ C r := fun A Mu s Q E I k =>
  wpAny_execs_cons (wpAny_If (ht A Mu s _ _ I.inv fun h₁ tk₁ k₁ => wpAny_execs_nil (h A Mu { s with heap := h₁, toks := tk₁ } _ _ (I.mono k₁) fun e h h' tk t k' J M => k e h h' tk t (fun b o hb q => k' b o hb (k₁ _ _ q)) J M)))
theorem PRr.yes {g0 : Heap} {test : Expr} {body sts : List Stmt} {pos : Pos} {C : Addr} {r : Str} (ht : PT W env ρ test true) (h : PRr g0 W env body ρ C r) : PRr g0 W env (.If test body [] pos :: sts) ρ C r := fun A Mu s Q E I k =>
  wpAny_execs_cons (wpAny_If (ht A Mu s _ _ I.inv fun h₁ tk₁ k₁ => h A Mu { s with heap := h₁, toks := tk₁ } _ _ (I.mono k₁) fun e h h' tk t k' J M => k e h h' tk t (fun b o hb q => k' b o hb (k₁ _ _ q)) J M))
theorem PRr.raise {g0 : Heap} {x y : Str} {np yp cpos pos : Pos} {sts : List Stmt} {C : Addr} {r : Str} (hx : env.kindOf x = some .globalImplicit) (hg : nsIn (KF W.w.params) mainGlobals x = some (some (.ref C)))
    (q : excIn (KF W.w.params) C [.type "Exception", .type "BaseException", .type "object"] "Exception.__new__" = true) (hy : PE W env ρ (.Name y yp) (VS r))
    (hd : (x == ("__debug__" : Str)) = false := by decide)
    (he : starEach [.Name y yp] env = (false, eval (.Name y yp) env) :: starEach [] env := by rfl) : PRr g0 W env (.Raise (some (.Call (.Name x np) [.Name y yp] [] cpos)) none pos :: sts) ρ C r := fun A Mu s Q E I k => by
  have I₀ := I.inv
  have O := own_of_in I₀.ct.X (topRead_of I₀.ct.T) hg q
  obtain ⟨tl, N, nm, qn, bs, hdct, sn, sub, ab, col, dd, k0, k1, k2, k3, k5, mN, hC, hN, hni, T⟩ := O.obj
  refine wpAny_execs_cons (wpAny_Raise_call_subT (C := C) (nm := nm) (q := qn) (N := N) (bs := bs) (bm := tl) (hdct := hdct) (sn := sn) (sub := sub) (ab := ab) (col := col) (dd := dd) (k0 := k0) (k1 := k1) (k2 := k2) (k3 := k3) (k5 := k5)
    PySem.F.excBase_Exception (mN := mN) (T.hasType PySem.F.excBase_Exception.hasBase) I₀.ct.handled (by rw [he]; rfl) hni (PE.global hx hg hd A Mu s _ _ I₀ fun v h₁ tk₁ k₁ p₁ => ?_))
  cases p₁
  refine ⟨rfl, ?_⟩
  rw [he]
  refine Calls.evalArgs_plain ?_
  refine Calls.spliced_cons (hy A Mu { s with heap := h₁, toks := tk₁ } _ _ (I₀.mono k₁) fun v h₂ tk₂ k₂ p₂ => ?_)
  obtain ⟨t, rfl⟩ := p₂
  refine Calls.spliced_nil ⟨rfl, (show 1 ≤ sizeLine from by decide), k₂ _ _ (k₁ _ _ hC), (hN.keeps k₁).keeps k₂, (T.keeps k₁).keeps k₂, fun h' e M => ?_⟩
  exact k e h₂ h' tk₂ t (fun b o _ z => k₂ _ _ (k₁ _ _ z)) (((I.mono k₁).mono k₂).sub fun p hp => by cases hp) M
/-- a call of a def that raises -/
noncomputable def FCr (W : Wd) (f : Value) (Vs : List VP) (C : Addr) (r : Str) : Prop :=
  ∀ (A : Around) (Mu : List Addr) (s : Shared) (vs : List Value) (Q E : Value → Shared → Prop), CtB 1005 W A s.heap → (∀ a ∈ Mu, ∃ o, s.heap.get? a = some o) → VsP Vs (hideAll s.heap Mu) vs →
    (∀ l e t u h' tk, A.frames = some l → Heap.FlyingW (hideAll s.heap (frsA A)) l e (.ref C) (.ref t) h' → h'.TupAt t [.str r u] → s.heap.get? e = none → s.heap.UpToSlots h' → E (.ref e) { s with heap := h', toks := tk }) → wpAny (model PG W.w) A (call f vs) Q E s
theorem FCr.ofDef {f : Addr} {oc : Value} {od : Option Addr} {osl : Array (Option Value)} {name qual : Str} {params : Arguments} {body : List Stmt} {scope : Scope} {dV kV doc pm cdv ct : Value} {an : Option Addr} {Vs : List VP} {C : Addr} {r : Str} {xs : List Str}
    (hlv : 1 ≤ W.lv) (ho : (KF W.w.params).lookup f = some ⟨oc, od, .func (fnOf name qual params body scope dV kV doc pm an cdv ct), osl⟩) (hcd : codeIn (KF W.w.params) cdv qual = true)
    (hbind : ∀ vs : List Value, vs.length = xs.length → bindArgs (fnOf name qual params body scope dV kV doc pm an cdv ct) ⟨vs, []⟩ = pure (xs.zip vs)) (hxs : xs.Nodup) (hlen : Vs.length = xs.length)
    (hkind : ∀ n, ∀ x ∈ xs, scope.names.lookup x = some .local ∨ (scope.names.lookup x = some .cell ∧ ((cellsFrom n scope.names []).lookup x).isSome = true)) (hnd : ((cellsFrom 0 scope.names []).map (·.1)).Nodup)
    (hco : scope.isCoroutine = false) (hgen : scope.isGenerator = false) (hk : scope.kind = .function)
    (h : ∀ L g0, PRr g0 W.down (defEnv qual scope L f cdv) body (zipRho xs Vs) C r) : FCr W (.ref f) Vs C r := by
  intro A Mu s vs Q E ct mu p k
  refine call_defE (X := []) (MuC := Mu) (gB := s.heap) [] false (fun _ => none) (fun b hb => by cases hb) (fun h => by cases h) hlv ct ct.X ct.T (fun _ _ b hb => by cases hb) (fun b hb => by cases hb) stays_refl (Nat.le_refl _) ho hcd (hbind vs (by rw [p.length, hlen])) hxs (by rw [p.length, hlen]) hkind hnd p (fun a ha => by cases ha) hco hgen hk fun L h₁ tk k₁ I hown => ?_
  refine h L _ _ _ { s with heap := h₁, toks := tk } _ _ I fun e h₂ h₃ tk₃ t k₂ J M => ?_
  have kk : s.heap.StaysIn h₂ := fun b o e => k₂ b o (fun q => by rw [hown b (fun z => by cases z) q] at e; cases e) (k₁ b o e)
  obtain ⟨dp, un, gd, cn, cs, L₀, a₀, ccd, cl, outer, base, rfl, B, hkc, d1, d2⟩ := ct.call
  have Bi := J.inv.ct.call
  obtain ⟨dp', un', gd', cn', cs', L', a', ccd', cl', outer', base', he, B', _⟩ := Bi
  have hL : s.heap.get? L = none := hown L (fun z => by cases z) (.inl rfl)
  have fr : ((ktrTop dp un gd cn cs L₀ a₀ ccd cl outer).deeper (defEnv qual scope L f cdv)).frames = some (defEnv qual scope L f cdv :: envX cn cs L₀ a₀ ccd cl :: outer) := rfl
  have B'' := B'.frames
  have hst := B'.stack
  rw [fr] at hst
  injection hst with hst
  rw [← hst] at B''
  have gn : ∀ b, b ∈ frsA (ktrTop dp un gd cn cs L₀ a₀ ccd cl outer) → (hideAll s.heap (frsA (ktrTop dp un gd cn cs L₀ a₀ ccd cl outer))).get? b = none := fun b hb => hideAll_none _ hb
  refine wpAny_leaves_madeW (base := hideAll s.heap (frsA (ktrTop dp un gd cn cs L₀ a₀ ccd cl outer))) fr rfl (fun b o q => kk b o (of_hideAll _ q)) (funFrames_any B'' fun b hb => ?_) M fun h₄ t₄ x1 x2 x3 x4 => ?_
  · rw [List.filterMap_cons] at hb
    rcases List.mem_cons.mp (show b ∈ L :: _ from hb) with rfl | hb
    · cases q : (hideAll s.heap (frsA (ktrTop dp un gd cn cs L₀ a₀ ccd cl outer))).get? b with
      | none => rfl
      | some o => rw [of_hideAll _ q] at hL; cases hL
    · exact gn b hb
  · refine k _ e t₄ t h₄ tk₃ rfl x1 x2 ?_ (((Heap.UpToSlots.of_keeps kk).trans (Heap.UpToSlots.of_keeps M.keeps)).trans x4)
    cases q : s.heap.get? e with
    | none => rfl
    | some o => have := kk _ _ q; rw [M.new] at this; cases this
end
end Mine
-- Em0
namespace Mine
noncomputable abbrev DOTS : Str := Str.ofString "..."
noncomputable abbrev NO : Str := Str.ofString ""
noncomputable def find4 (x y : Str) (i j : Int) : Int := match Builtin.Str.occurrences x y (fromIndex x.length i) (min (fromIndex x.length j) x.length) 1 with
  | k :: _ => (k : Int)
  | [] => -1
open Builtin Builtin.Str in
theorem gives_find4 (x y : Str) (i j : Int) (t u v z : Tok) : Gives (Builtin.«str.find» ⟨[.str x t, .str y u, .int i v, .int j z], []⟩) (.int (find4 x y i j)) := by
  unfold find4
  show Gives (match Builtin.Str.occurrences x y (fromIndex x.length i) (min (fromIndex x.length j) x.length) 1 with | k :: _ => retInt k | [] => (do rule "str.find.not-found"; retInt (-1))) _
  cases Builtin.Str.occurrences x y (fromIndex x.length i) (min (fromIndex x.length j) x.length) 1 with
  | nil => exact .rule (.of_eq rfl)
  | cons k _ => exact .of_eq rfl
theorem call_find4 {prog : Program} {w : World} {A : Around} {E : Value → Shared → Prop} {s : Shared} {x y : Str} {t u v z : Tok} {i j : Int} {Q : Value → Shared → Prop}
    (hq : Q (.int (find4 x y i j) s.toks) { s with toks := s.toks + 1 }) : wpAny (model prog w) A (call (.builtin "str.find") [.str x t, .str y u, .int i v, .int j z]) Q E s :=
  call_gives F.slot_str_find (typeIs_str _ _ _) F.entry_str_find (F.args_str_find_4 _ _ _ _) (gives_find4 x y i j t u v z) hq
noncomputable def loopF (got : Str) (e : Int) : List Str → Int → Bool
  | [], _ => true
  | w :: r, s => if find4 got w s e < 0 then false else loopF got e r (find4 got w s e + w.length)
theorem loop_stop {got w : Str} {s e : Int} {r : List Str} (h : find4 got w s e < 0) : loopF got e (w :: r) s = false := if_pos h
theorem loop_go {got w : Str} {s e : Int} {r : List Str} (h : ¬ find4 got w s e < 0) : loopF got e (w :: r) s = loopF got e r (find4 got w s e + w.length) := if_neg h
noncomputable def emG (p q got : Str) : Bool := loopF got got.length [NO, p, q, NO] 0
end Mine
-- Sp1
namespace Mine
open Builtin Builtin.Str StrLaws
noncomputable def ch (a : Nat) : Str := ⟨#[a]⟩
noncomputable def tx (l : List Nat) : Str := ⟨l.toArray⟩
theorem tx_len (l : List Nat) : (tx l).length = l.length := rfl
theorem dots_eq : DOTS = ⟨#[46,46,46]⟩ := by decide +kernel
theorem no_eq : NO = ⟨#[]⟩ := by decide +kernel
theorem kind_pos (x : Str) : ¬ (Builtin.Str.strKind x < 1) := by
  unfold Builtin.Str.strKind; split
  · decide
  · split <;> decide
theorem kind_dots : Builtin.Str.strKind (tx [46,46,46]) = 1 := by decide +kernel
theorem sub_tx (l y : List Nat) (i : Nat) : subAt (tx l) (tx y) i = true ↔ (l.drop i).take y.length = y := by
  rw [subAt_eq, beq_iff_eq]; exact Iff.rfl
/-- parts with three dots between them -/
noncomputable def jd : List (List Nat) → List Nat
  | [] => []
  | [p] => p
  | p :: q :: r => p ++ 46 :: 46 :: 46 :: jd (q :: r)
theorem at3 {l : List Nat} {k : Nat} : At (tx l) (tx [46,46,46]) (tx l).length k ↔ ∃ t, l.drop k = 46 :: 46 :: 46 :: t := by
  unfold At
  rw [sub_tx]
  constructor
  · rintro ⟨_, e⟩
    refine ⟨(l.drop k).drop 3, ?_⟩
    have := List.take_append_drop 3 (l.drop k)
    rw [show (l.drop k).take 3 = [46,46,46] from e] at this
    exact this.symm
  · rintro ⟨t, e⟩
    refine ⟨?_, by rw [e]; rfl⟩
    have := congrArg List.length e
    rw [List.length_drop] at this
    show k + 3 ≤ l.length
    simp at this; omega
theorem at3_in {l p t : List Nat} {a k : Nat} (hp : 46 ∉ p) (e : l.drop a = p ++ t) (h1 : a ≤ k) (h2 : k < a + p.length) : ¬ At (tx l) (tx [46,46,46]) (tx l).length k := by
  rw [at3]
  rintro ⟨u, h⟩
  have e2 : l.drop k = p.drop (k - a) ++ t := by
    rw [show k = a + (k - a) by omega, ← List.drop_drop, e, List.drop_append_of_le_length (by omega), Nat.add_sub_cancel_left]
  have e3 : p.drop (k - a) ≠ [] := fun q => by have := congrArg List.length q; simp at this; omega
  obtain ⟨x, r, e4⟩ := List.exists_cons_of_ne_nil e3
  rw [h, e4, List.cons_append] at e2
  have e5 : 46 ∈ p.drop (k - a) := by rw [e4, ← (List.cons.inj e2).1]; exact List.mem_cons_self
  exact hp (List.mem_of_mem_drop e5)
theorem sub_part {l p t : List Nat} {a : Nat} (e : l.drop a = p ++ t) : strSub (tx l) a (a + p.length) = tx p := by
  apply Str.ext'
  apply Array.toList_inj.mp
  rw [strSub_toList, show (tx l).cps.toList = l from rfl, e, Nat.add_sub_cancel_left, List.take_left]; rfl
theorem parts_dots {l : List Nat} : ∀ {segs : List (List Nat)} {cuts : List Nat} {a f : Nat}, ChainG (tx l) (tx [46,46,46]) (tx l).length a cuts f → (∀ k, f ≤ k → ¬ At (tx l) (tx [46,46,46]) (tx l).length k) →
    (∀ p ∈ segs, 46 ∉ p) → segs ≠ [] → a ≤ l.length → l.drop a = jd segs → partsFrom (tx l) 3 a cuts = segs.map tx
  | [], _, _, _, _, _, _, h, _, _ => absurd rfl h
  | [p], [], a, f, _, _, _, _, ha, e => by
    have e' : l.drop a = p ++ [] := by rw [e]; simp [jd]
    have hl : a + p.length = (tx l).length := by
      have := congrArg List.length e'
      rw [List.length_drop, List.append_nil] at this
      show _ = l.length; omega
    show [strSub (tx l) a (tx l).length] = [tx p]
    rw [← hl, sub_part e']
  | [p], c :: r, a, f, hc, _, hf, _, ha, e => by
    have e' : l.drop a = p ++ [] := by rw [e]; simp [jd]
    have hA := hc.2.1
    have hlt : c < a + p.length := by
      have := congrArg List.length e'
      rw [List.length_drop, List.append_nil] at this
      have h2 : c + 3 ≤ l.length := hA.1
      omega
    exact absurd hA (at3_in (hf p (.head _)) e' hc.1 hlt)
  | p :: q :: r, cuts, a, f, hc, hn, hf, _, ha, e => by
    have e' : l.drop a = p ++ (46 :: 46 :: 46 :: jd (q :: r)) := e
    have hA : At (tx l) (tx [46,46,46]) (tx l).length (a + p.length) := at3.mpr ⟨jd (q :: r), by rw [← List.drop_drop, e', List.drop_left]⟩
    match cuts, hc with
    | [], hc =>
      have : f = a := hc
      exact absurd hA (hn _ (by omega))
    | c :: cs, hc =>
      have hcp : c = a + p.length := by
        rcases Nat.lt_trichotomy c (a + p.length) with h | h | h
        · exact absurd hc.2.1 (at3_in (hf p (.head _)) e' hc.1 h)
        · exact h
        · exact absurd hA (hc.2.2.1 _ (Nat.le_add_right _ _) h)
      subst hcp
      show strSub (tx l) a (a + p.length) :: partsFrom (tx l) 3 (a + p.length + 3) cs = tx p :: (q :: r).map tx
      rw [sub_part e', parts_dots (a := a + p.length + 3) hc.2.2.2 hn (fun x hx => hf x (.tail _ hx)) (List.cons_ne_nil _ _) hA.1 (by rw [← List.drop_drop, ← List.drop_drop, e', List.drop_left]; rfl)]
theorem split_dots {m : List Nat} {p q : List Nat} {r : List (List Nat)} (hf : ∀ x ∈ p :: q :: r, 46 ∉ x) (e : jd (p :: q :: r) = m) : Txt.split (tx m) DOTS = (p :: q :: r).map tx ∧ (occurrences (tx m) DOTS 0 (tx m).length 1).isEmpty = false := by
  rw [show DOTS = tx [46,46,46] from dots_eq]
  have hA : At (tx m) (tx [46,46,46]) (tx m).length p.length := at3.mpr ⟨jd (q :: r), by rw [← e, jd, List.drop_left]⟩
  obtain ⟨f, hG, hn⟩ := occ_tight (tx m) (tx [46,46,46]) (show 1 ≤ 3 by decide)
  constructor
  · have h1 : (decide ((tx m).length < (tx [46,46,46]).length) || decide (strKind (tx m) < strKind (tx [46,46,46]))) = false := by
      rw [kind_dots, decide_eq_false (kind_pos _), decide_eq_false (by have := hA.1; omega)]; rfl
    unfold Txt.split
    rw [h1, if_neg (by decide)]
    cases hc : occurrences (tx m) (tx [46,46,46]) 0 (tx m).length ((tx m).length + 1) with
    | nil =>
      rw [hc] at hG
      have : f = 0 := hG
      exact absurd hA (hn _ (by omega))
    | cons c cs =>
      rw [if_neg (by simp), partsBetween_eq]
      rw [hc] at hG
      exact parts_dots hG hn hf (List.cons_ne_nil _ _) (Nat.zero_le _) e.symm
  · rcases occ_head (tx m) (tx [46,46,46]) 1 (Nat.le_refl _) with ⟨_, h⟩ | ⟨i, r, h, _⟩
    · exact absurd hA (h _)
    · rw [h]; rfl
end Mine
-- Lb
namespace Mine
noncomputable def lawD : { t // PG.theDef (Str.ofString "law") = some t } := ⟨_, by with_unfolding_all rfl⟩
noncomputable abbrev lawEnv (L : Addr) (cd : Value) : Env := defEnv (Str.ofString "law") lawD.1.2.2 L 123 cd
noncomputable abbrev nm (x : String) : Str := Str.ofString x
theorem g_stands (P : Params) : nsIn (KF P) mainGlobals (nm "_law_stands") = some (some (.ref 113)) := by kernel_rfl
theorem k_stands (P : Params) : keepIn (KF P) (.ref 113) = true := by kernel_rfl
theorem g_len (P : Params) : nsIn (KF P) mainGlobals (nm "len") = some none := by kernel_rfl
theorem b_len : bootBuiltins (nm "len") = some (.builtin "len") := by rfl
theorem g_abs (P : Params) : nsIn (KF P) mainGlobals (nm "abs") = some none := by kernel_rfl
theorem b_abs : bootBuiltins (nm "abs") = some (.builtin "abs") := by rfl
theorem g_range (P : Params) : nsIn (KF P) mainGlobals (nm "range") = some none := by kernel_rfl
theorem b_range : bootBuiltins (nm "range") = some (.type "range") := by rfl
theorem g_enum (P : Params) : nsIn (KF P) mainGlobals (nm "enumerate") = some none := by kernel_rfl
theorem b_enum : bootBuiltins (nm "enumerate") = some (.type "enumerate") := by rfl
theorem g_min (P : Params) : nsIn (KF P) mainGlobals (nm "min") = some none := by kernel_rfl
theorem b_min : bootBuiltins (nm "min") = some (.builtin "min") := by rfl
theorem g_eof (P : Params) : nsIn (KF P) mainGlobals (nm "ISEOF") = some (some (.ref 82)) := by kernel_rfl
theorem k_eof (P : Params) : keepIn (KF P) (.ref 82) = true := by kernel_rfl

/-- the row: six signs with their ranks -/
structure Dt where
  cs : List Nat
  p : List Nat
  cl : cs.length = 6
  pl : p.length = 6
  nd : cs.Nodup
noncomputable def Dt.c (d : Dt) (i : Nat) : Nat := d.cs.getD i 0
noncomputable def Dt.r (d : Dt) (i : Nat) : Nat := d.p.getD i 0
noncomputable def Dt.S (d : Dt) (i : Nat) : VP := VS (ch (d.c i))
noncomputable def Dt.RW (d : Dt) : List VP := d.cs.map fun c => VS (ch c)
noncomputable def Dt.rank (d : Dt) (k : Str) : Option VP := (d.cs.findIdx? fun c => ch c == k).map fun i => VI (d.r i)
noncomputable def Dt.txt (d : Dt) (l : List Nat) : Str := ⟨(l.map d.c).toArray⟩
noncomputable abbrev six : List Nat := [0, 1, 2, 3, 4, 5]
noncomputable def Dt.q (d : Dt) (k : Nat) : Nat := d.p.idxOf k
noncomputable def Dt.OR (d : Dt) : List VP := six.map fun k => d.S (d.q k)
theorem ch_inj {a b : Nat} (h : ch a = ch b) : a = b := by simpa [ch] using h
theorem Dt.c_inj (d : Dt) {i j : Nat} (hi : i < 6) (hj : j < 6) (h : d.c i = d.c j) : i = j := by
  have h1 : i < d.cs.length := by rw [d.cl]; exact hi
  have h2 : j < d.cs.length := by rw [d.cl]; exact hj
  unfold Dt.c at h
  rw [List.getD_eq_getElem?_getD, List.getD_eq_getElem?_getD, List.getElem?_eq_getElem h1, List.getElem?_eq_getElem h2, Option.getD_some, Option.getD_some] at h
  exact (List.getElem_inj d.nd).mp h
theorem Dt.ch_eq (d : Dt) {i j : Nat} (hi : i < 6) (hj : j < 6) : (ch (d.c i) == ch (d.c j)) = (i == j) := by
  by_cases h : i = j
  · subst h; simp
  · have : ch (d.c i) ≠ ch (d.c j) := fun q => h (d.c_inj hi hj (ch_inj q))
    rw [beq_eq_false_iff_ne.mpr this, beq_eq_false_iff_ne.mpr h]
theorem Dt.rank_at (d : Dt) {i : Nat} (hi : i < 6) : d.rank (ch (d.c i)) = some (VI (d.r i)) := by
  have h1 : i < d.cs.length := by rw [d.cl]; exact hi
  have : d.cs.findIdx? (fun c => ch c == ch (d.c i)) = some i := by
    rw [List.findIdx?_eq_some_iff_getElem]
    refine ⟨h1, ?_, fun j hj => ?_⟩
    · simp [Dt.c, h1]
    · intro q
      have e := ch_inj (beq_iff_eq.mp q)
      have hj6 : j < 6 := Nat.lt_trans hj hi
      have := d.c_inj hj6 hi (by rw [← e]; simp [Dt.c, Nat.lt_trans hj h1])
      omega
  rw [Dt.rank, this]; rfl
theorem Dt.rw_len (d : Dt) : d.RW.length = 6 := by simp [Dt.RW, d.cl]
theorem Dt.rw_get (d : Dt) {i : Nat} (hi : i < 6) : d.RW[i]? = some (d.S i) := by
  have h1 : i < d.cs.length := by rw [d.cl]; exact hi
  simp [Dt.RW, Dt.S, Dt.c, h1]
theorem vAt_of {Vs : List VP} {i : Nat} {V : VP} (h : Vs[i]? = some V) : vAt Vs i = V := by rw [vAt, List.getD_eq_getElem?_getD, h]; rfl
theorem Dt.rw_at (d : Dt) {i : Nat} (hi : i < 6) : vAt d.RW i = d.S i := vAt_of (d.rw_get hi)
theorem Dt.or_get (d : Dt) {k : Nat} (hk : k < 6) : d.OR[k]? = some (d.S (d.q k)) := by
  match k, hk with
  | 0, _ => rfl | 1, _ => rfl | 2, _ => rfl | 3, _ => rfl | 4, _ => rfl | 5, _ => rfl

/-- what the called defs do -/
structure LawC (W : Wd) (d : Dt) : Prop where
  st2 : ∀ (l : List Nat) i j, l.length ≤ 100 → l.Nodup → (∀ x ∈ l, x < 6) → i ∈ l → j ∈ l → FC W (.ref 113) [VL [d.S i, d.S j], VS (d.txt l)] (VB (decide (l.idxOf i < l.idxOf j)))
  st3 : ∀ i j k, i < 6 → j < 6 → k < 6 → FC W (.ref 113) [VL [d.S i, d.S j, d.S k], VS (d.txt six)] (VB (decide (i < j) && decide (j < k)))
  eof : ∀ x : Int, FC W (.ref 82) [VI x] (VB (decide (x = 0)))
theorem six_idx {i : Nat} (h : i < 6) : six.idxOf i = i := by
  match i, h with
  | 0, _ => rfl | 1, _ => rfl | 2, _ => rfl | 3, _ => rfl | 4, _ => rfl | 5, _ => rfl
theorem six_mem {i : Nat} (h : i < 6) : i ∈ six := by
  match i, h with
  | 0, _ => decide | 1, _ => decide | 2, _ => decide | 3, _ => decide | 4, _ => decide | 5, _ => decide
theorem LawC.st2' {W : Wd} {d : Dt} (C : LawC W d) {i j : Nat} (hi : i < 6) (hj : j < 6) : FC W (.ref 113) [VL [d.S i, d.S j], VS (d.txt six)] (VB (decide (i < j))) := by
  have := C.st2 six i j (by decide) (by decide) (by decide) (six_mem hi) (six_mem hj)
  rw [six_idx hi, six_idx hj] at this; exact this

/-- the pairs that stand wrong -/
noncomputable def wlP (p : List Nat) : List (Nat × Nat) := (List.range 6).flatMap fun i => (List.range 6).flatMap fun j => if decide (p.getD j 0 ≤ p.getD i 0) && decide (i < j) then [(i, j)] else []
noncomputable def Dt.W1 (d : Dt) : List VP := (wlP d.p).map fun x => d.S x.1
noncomputable def Dt.W2 (d : Dt) : List VP := (wlP d.p).map fun x => d.S x.2
theorem wl_lt {p : List Nat} : ∀ x ∈ wlP p, x.1 < 6 ∧ x.2 < 6 := fun x hx => by
  obtain ⟨i, hi, h⟩ := List.mem_flatMap.mp hx
  obtain ⟨j, hj, h⟩ := List.mem_flatMap.mp h
  split at h
  · cases List.mem_singleton.mp h; exact ⟨List.mem_range.mp hi, List.mem_range.mp hj⟩
  · cases h
theorem wl_eq (d : Dt) : flat (fun _ => true) (fun i => flat (fun j => decide ((d.r j : Int) ≤ d.r i) && decide (i < j)) (fun j => [VT [d.S i, d.S j]]) 6) 6 = vp2 d.W1 d.W2 := by
  rw [Dt.W1, Dt.W2, vp2_map, flat_eq, wlP, List.map_flatMap]
  congr 1; funext i
  rw [if_pos rfl, flat_eq, List.map_flatMap]
  congr 1; funext j
  have e : decide ((d.r j : Int) ≤ d.r i) = decide (d.p.getD j 0 ≤ d.p.getD i 0) := by
    show decide (((d.p.getD j 0 : Nat) : Int) ≤ ((d.p.getD i 0 : Nat) : Int)) = _
    simp only [Int.ofNat_le]
  rw [e]; split <;> rfl

noncomputable def law9 : { t // lawD.1.2.1[9]? = some t } := ⟨_, by with_unfolding_all rfl⟩
noncomputable def law10 : { t // lawD.1.2.1[10]? = some t } := ⟨_, by with_unfolding_all rfl⟩
noncomputable def law11 : { t // lawD.1.2.1[11]? = some t } := ⟨_, by with_unfolding_all rfl⟩
noncomputable def law12 : { t // lawD.1.2.1[12]? = some t } := ⟨_, by with_unfolding_all rfl⟩
noncomputable def law13 : { t // lawD.1.2.1[13]? = some t } := ⟨_, by with_unfolding_all rfl⟩
noncomputable def law14 : { t // lawD.1.2.1[14]? = some t } := ⟨_, by with_unfolding_all rfl⟩
noncomputable def law15 : { t // lawD.1.2.1[15]? = some t } := ⟨_, by with_unfolding_all rfl⟩
noncomputable def law16 : { t // lawD.1.2.1[16]? = some t } := ⟨_, by with_unfolding_all rfl⟩
noncomputable def law17 : { t // lawD.1.2.1[17]? = some t } := ⟨_, by with_unfolding_all rfl⟩
noncomputable def law18 : { t // lawD.1.2.1[18]? = some t } := ⟨_, by with_unfolding_all rfl⟩
section
variable (W : Wd) (L : Addr) (cd : Value) (d : Dt)
noncomputable abbrev rho8 : Rho := [(nm "row", VL d.RW), (nm "rank", VD d.rank), (nm "text", VS (d.txt six)), (nm "order", VL d.OR)]
noncomputable abbrev rho9 : Rho := (nm "wrong", VL (vp2 d.W1 d.W2)) :: rho8 d
theorem law9_x (C : LawC W d) : PX W (lawEnv L cd) law9.1 (rho8 d) (rho9 d) := by
  rw [rho9, ← wl_eq]
  refine PX.comp (ρc := pick (rho8 d) [0, 1, 2]) (n := 6) [nm "low"] (fun _ => true) (fun i => flat (fun j => decide ((d.r j : Int) ≤ d.r i) && decide (i < j)) (fun j => [VT [d.S i, d.S j]]) 6)
    (body := fun D C => innerBody _ _ 1 (.ref D) (compEnvC _ _ C _)) (ESrc.list (PE.nm 0 rfl) d.rw_len) (by kernel_rfl) (by kernel_rfl) pick_mem (fun I D C => rfl) (fun C i hi => PTs.nil) (fun A g D C' i hi _ cg hcg hD hC hDC => ?_) ?hsz (.inl (by kernel_rfl)) (up [0, 1, 2, 3] rfl (by kernel_rfl))
  · refine Stage.in (xs := [nm "low"]) (body := lastBody _ (.ref D) _) [] _ _ rfl (ESrc.list (PE.nm 1 rfl) d.rw_len) (fun I => rfl) (by kernel_rfl) (by kernel_rfl) cg hcg hD hC hDC (fun j hj => ?_) (fun j hj _ => ?_) (by kernel_rfl)
    · rw [d.rw_at hi, d.rw_at hj]
      refine PTs.one ((PT.and (PAll.cons (PT.cmp F2.geI (PE.sub (F2.itemD (d.rank_at hi)) (PE.nm 3 rfl) (PE.nm 1 rfl)) (PE.sub (F2.itemD (d.rank_at hj)) (PE.nm 3 rfl) (PE.nm 0 rfl)))
        fun _ => PAll.cons (PT.value (PE.calldef (PE.global (by kernel_rfl) (g_stands _)) (k_stands _) (PA.cons (PE.list (PA.cons (PE.nm 1 rfl) (PA.cons (PE.nm 0 rfl) PA.nil)) (Nat.le_of_ble_eq_true rfl)) (PA.cons (PE.nm 4 rfl) PA.nil)) (C.st2' hi hj))) fun _ => PAll.nil)).of (by rw [Bool.and_true]))
    · rw [d.rw_at hi, d.rw_at hj]
      exact Stage.last hDC (PE.tuple (PA.cons (PE.nm 1 rfl) (PA.cons (PE.nm 0 rfl) PA.nil)) (Nat.le_of_ble_eq_true rfl))
  · exact Nat.le_trans (flat_len (m := 6) fun i _ => Nat.le_trans (flat_len (m := 1) fun j _ => Nat.le_refl _) (by decide)) (by decide)

theorem law10_x : PX W (lawEnv L cd) law10.1 (rho9 d) ((nm "threes", VI 0) :: (nm "away", VI 0) :: rho9 d) :=
  PX.assign2 (PE.tuple (PA.cons PE.int (PA.cons PE.int PA.nil)) (Nat.le_of_ble_eq_true rfl)) (.inl (by kernel_rfl)) (.inl (by kernel_rfl)) (by decide) (up2 [0, 1, 2, 3, 4] rfl (by kernel_rfl)) (by kernel_rfl) (by kernel_rfl)
end
end Mine
-- Lh
namespace Mine
noncomputable def law0 : { t // lawD.1.2.1[0]? = some t } := ⟨_, by with_unfolding_all rfl⟩
noncomputable def law1 : { t // lawD.1.2.1[1]? = some t } := ⟨_, by with_unfolding_all rfl⟩
noncomputable def law2 : { t // lawD.1.2.1[2]? = some t } := ⟨_, by with_unfolding_all rfl⟩
noncomputable def law3 : { t // lawD.1.2.1[3]? = some t } := ⟨_, by with_unfolding_all rfl⟩
theorem g_zip (P : Params) : nsIn (KF P) mainGlobals (nm "zip") = some none := by kernel_rfl
theorem b_zip : bootBuiltins (nm "zip") = some (.type "zip") := by rfl
theorem g_tok (P : Params) : nsIn (KF P) mainGlobals (nm "EXACT_TOKEN_TYPES") = some (some (.ref 73)) := by kernel_rfl
noncomputable def leads : List Int := [1498, 3, 15, 13, 10, 4]
noncomputable def xsP (ns : List Int) : List Int := ns.take 6 ++ [0, 0, 0, 0, 0, 0]
noncomputable def numI (ns : List Int) (i : Nat) : Int := leads.getD i 0 + ((xsP ns).getD i 0).fmod 1000000
noncomputable def sgn : List Nat := [33, 37, 38, 40, 41, 42, 43, 44, 45, 47, 58, 59, 60, 61, 62, 64, 91, 93, 94, 123, 124, 125, 126]
theorem vi_flt {x : Int} : Flt (VI x) := fun _ _ _ h => h
theorem vs_flt {x : Str} : Flt (VS x) := fun _ _ _ h => h
section
variable (W : Wd) (L : Addr) (cd : Value) (ns : List Int)
noncomputable abbrev rho0 : Rho := [(nm "script", VL (ns.map VI))]
noncomputable abbrev rho1 : Rho := [(nm "numbers", VL ((List.range 6).map fun i => VI (numI ns i)))]
theorem vAtI {l : List Int} {i : Nat} (h : i < l.length) : vAt (l.map VI) i = VI (l.getD i 0) := vAt_of (by simp [h])
theorem law0_x (hn : ns.length ≤ 2000000) : PX W (lawEnv L cd) law0.1 (rho0 ns) (rho1 ns) := by
  have hx : VL ((ns.map VI).take 6 ++ [VI 0, VI 0, VI 0, VI 0, VI 0, VI 0]) = VL ((xsP ns).map VI) := by rw [xsP, List.map_append, List.map_take]; rfl
  have e1 : VL (flat (fun _ => true) (fun i => [VI (numI ns i)]) 6) = VL ((List.range 6).map fun i => VI (numI ns i)) := by
    rw [flat_eq]; rfl
  refine PX.comp (ρc := pick _ []) (n := 6) [] (fun _ => true) (fun i => [VI (numI ns i)])
      (body := fun D C => lastBody _ (.ref D) _) (ESrc.zip (Us := leads.map VI) (Vs := (xsP ns).map VI) (PE.builtin (by kernel_rfl) (g_zip _) b_zip (by decide))
        (PA.cons (PE.list (PA.cons PE.int (PA.cons PE.int (PA.cons PE.int (PA.cons PE.int (PA.cons PE.int (PA.cons PE.int PA.nil)))))) (Nat.le_of_ble_eq_true rfl)) (PA.cons (PE.of (PE.binop (F2.addL ?_) (PE.of (PE.sliceTo (n := 6) (PE.nm 0 rfl) PE.int (.inl rfl) (by rw [List.length_map]; exact hn)) (V' := VL ((ns.map VI).take 6)) (by rfl)) (PE.binop F2.mulL6 (PE.list (PA.cons PE.int PA.nil) (Nat.le_of_ble_eq_true rfl)) PE.int)) hx) PA.nil)) ?_ (by decide)) (by kernel_rfl) (by kernel_rfl) pick_mem (fun I D C => rfl) (fun C k hk => PTs.nil) (fun A g D C k hk _ _ _ _ _ hDC => ?_) (Nat.le_of_ble_eq_true rfl) (.inl (by kernel_rfl)) (by rw [e1]; exact up [] rfl (by kernel_rfl))
  · simp; omega
  · simp [leads, xsP]
  · have h1 : k < leads.length := hk
    have h2 : k < (xsP ns).length := by simp [xsP]; omega
    rw [vAtI h1, vAtI h2]
    exact Stage.last hDC (PE.binop F2.add (PE.nm 0 rfl) (PE.binop (F2.mod (by decide)) (PE.nm 1 rfl) PE.int))
noncomputable def tkS (P : Params) (i : Nat) : Str := (tokK P).getD i ⟨#[]⟩
noncomputable def tkT (P : Params) (i : Nat) : Bool := (((tkS P i).length : Int) == 1) && ((tkS P i != Str.ofString ".") && true)
theorem tok_len (P : Params) : (tokK P).length = 48 := by kernel_rfl
theorem tok_short (P : Params) : ((List.range 48).all fun i => Nat.ble (tkS P i).length 3) = true := by kernel_rfl
theorem tok_sgn (P : Params) : flat (tkT P) (fun i => [VS (tkS P i)]) 48 = sgn.map fun c => VS (ch c) := by kernel_rfl
theorem law1_j {g0 : Heap} {Ps : List Addr} {J : Heap → Prop} {V : VP} {sts : List Stmt} (sb : Stb Ps J) (h : ∀ S, S ∉ Ps → PRJ g0 W (lawEnv L cd) ([S] ++ Ps) sts ((nm "signs", VE (.ref S)) :: rho1 ns) (fun h => LJ S (sgn.map fun c => VS (ch c)) h ∧ J h) V) :
    PRJ g0 W (lawEnv L cd) Ps (law1.1 :: sts) (rho1 ns) J V := by
  refine PRJ.newComp (ρc := pick _ []) (n := 48) [] (tkT W.w.params) (fun i => [VS (tkS W.w.params i)])
      (body := fun D C => lastBody _ (.ref D) _) (ESrc.tok (PE.global (by kernel_rfl) (g_tok _)) rfl (tok_len _)) (by kernel_rfl) (by kernel_rfl) pick_mem (fun I D C => rfl) (fun C k hk => ?_) (fun A g D C k hk _ _ _ _ _ hDC => ?_) ?_ ?_ (.inl (by kernel_rfl)) (ρ' := rho1 ns) ?_ sb (fun S hS => ?_)
  · refine PTs.one ((PT.and (PAll.cons (PT.cmp F2.eqI (PE.callb (PE.builtin (by kernel_rfl) (g_len _) b_len (by decide)) (PA.cons (PE.nm 0 rfl) PA.nil) (FC.lenS ?_)) PE.int) fun _ => PAll.cons (PT.cmp F2.neS (PE.nm 0 rfl) PE.str) fun _ => PAll.nil)).of rfl)
    exact Nat.le_trans (Nat.le_of_ble_eq_true (List.all_eq_true.mp (tok_short W.w.params) k (List.mem_range.mpr hk))) (by decide)
  · exact Stage.last hDC (PE.nm 0 rfl)
  · rw [tok_sgn]; exact Nat.le_of_ble_eq_true rfl
  · rw [tok_sgn]; intro V hV; obtain ⟨c, _, rfl⟩ := List.mem_map.mp hV; exact vs_flt
  · intro p hp; cases List.mem_singleton.mp hp; exact ⟨show (nm "numbers" : Str) ≠ nm "signs" by decide, .head _⟩
  · rw [tok_sgn]; exact h S hS
/-- the signs that are left, and the row, after i turns -/
noncomputable def kP (ns : List Int) (i : Nat) : Nat := ((numI ns i).fmod ((23 - i : Nat) : Int)).toNat
noncomputable def sgP (ns : List Int) : Nat → List Nat
  | 0 => sgn
  | i + 1 => (sgP ns i).eraseIdx (kP ns i)
noncomputable def csP (ns : List Int) : Nat → List Nat
  | 0 => []
  | i + 1 => csP ns i ++ [(sgP ns i).getD (kP ns i) 0]
theorem kP_lt {i : Nat} (h : i < 23) : kP ns i < 23 - i := by
  have h1 := Int.fmod_lt_of_pos (numI ns i) (show (0 : Int) < ((23 - i : Nat) : Int) by omega)
  have h2 := Int.fmod_nonneg_of_pos (numI ns i) (show (0 : Int) < ((23 - i : Nat) : Int) by omega)
  unfold kP; omega
theorem sgP_len : ∀ {i : Nat}, i ≤ 23 → (sgP ns i).length = 23 - i
  | 0, _ => rfl
  | i + 1, h => by
    have ih := sgP_len (i := i) (by omega)
    have := kP_lt ns (i := i) (by omega)
    rw [sgP, List.length_eraseIdx, ih, if_pos this]; omega
theorem csP_len : ∀ i, (csP ns i).length = i
  | 0 => rfl
  | i + 1 => by rw [csP, List.length_append, csP_len i]; rfl
theorem g_len' : True := trivial
theorem erase_map {α β : Type} (f : α → β) : ∀ (l : List α) (k : Nat), (l.map f).eraseIdx k = (l.eraseIdx k).map f
  | [], k => by cases k <;> rfl
  | a :: l, 0 => rfl
  | a :: l, k + 1 => by show f a :: _ = f a :: _; rw [erase_map f l k]
noncomputable abbrev chV (l : List Nat) : List VP := l.map fun c => VS (ch c)
theorem chV_flt {l : List Nat} : ∀ V ∈ chV l, Flt V := fun V hV => by obtain ⟨c, _, rfl⟩ := List.mem_map.mp hV; exact vs_flt
noncomputable def law3s : { t // lawD.1.2.1[3]? = some t } := law3
theorem law3_j {R S : Addr} (hRS : R ≠ S) : PXJ W (lawEnv L cd) [R, S] law3.1 [(nm "row", VE (.ref R)), (nm "signs", VE (.ref S)), (nm "numbers", VL ((List.range 6).map fun i => VI (numI ns i)))]
    (fun h => LJ R (chV (csP ns 0)) h ∧ LJ S (chV (sgP ns 0)) h) [(nm "row", VE (.ref R)), (nm "signs", VE (.ref S)), (nm "numbers", VL ((List.range 6).map fun i => VI (numI ns i)))] (fun h => LJ R (chV (csP ns 6)) h ∧ LJ S (chV (sgP ns 6)) h) := by
  refine PXJ.forW (n := 6) (fun _ => [(nm "row", VE (.ref R)), (nm "signs", VE (.ref S)), (nm "numbers", VL ((List.range 6).map fun i => VI (numI ns i)))]) (fun i h => LJ R (chV (csP ns i)) h ∧ LJ S (chV (sgP ns i)) h) (fun i h h' e x => ⟨LJ.stb chV_flt h h' (fun a ha => e a (by cases List.mem_singleton.mp ha; exact .head _)) x.1, LJ.stb chV_flt h h' (fun a ha => e a (by cases List.mem_singleton.mp ha; exact .tail _ (.head _))) x.2⟩)
    (PE.nm 2 rfl) (WSrc.list (Vs := (List.range 6).map fun i => VI (numI ns i))) (.inl (by kernel_rfl)) (fun _ h => h) (fun i p hp => ?_) (fun i hi => ?_)
  · rcases List.mem_cons.mp hp with rfl | hp
    · show nm "row" ≠ nm "number"; decide
    · rcases List.mem_cons.mp hp with rfl | hp
      · show nm "signs" ≠ nm "number"; decide
      · cases List.mem_singleton.mp hp; show nm "numbers" ≠ nm "number"; decide
  · have hsl := sgP_len ns (i := i) (by omega)
    have hk := kP_lt ns (i := i) (by omega)
    have h0 : 0 ≤ (numI ns i).fmod ((23 - i : Nat) : Int) := Int.fmod_nonneg_of_pos _ (by omega)
    have e1 : chV (csP ns i) ++ [VS (ch ((sgP ns i).getD (kP ns i) 0))] = chV (csP ns (i + 1)) := by
      show _ = List.map _ (csP ns i ++ [_]); rw [List.map_append]; rfl
    have e2 : (chV (sgP ns i)).eraseIdx (kP ns i) = chV (sgP ns (i + 1)) := by
      show (List.map _ (sgP ns i)).eraseIdx (kP ns i) = List.map _ ((sgP ns i).eraseIdx (kP ns i)); rw [erase_map]
    rw [← e1, ← e2]
    have v : vAt ((List.range 6).map fun i => VI (numI ns i)) i = VI (numI ns i) := vAt_of (by simp [hi])
    rw [v]
    refine PSJ.weak (PSJ.cons (PXJ.appPop (k := (numI ns i).fmod ((23 - i : Nat) : Int)) (V := VS (ch ((sgP ns i).getD (kP ns i) 0))) hRS chV_flt chV_flt (by rw [List.length_map, csP_len]; omega) (by rw [List.length_map, hsl]; omega) vs_flt (PE.nm 1 rfl) (PE.nm 2 rfl)
      [(nm "number", VI (numI ns i)), (nm "signs", VL (chV (sgP ns i)))] (fun p hp => ?_) (PE.of (PE.binop (F2.mod ?_) (PE.nm 0 rfl) (PE.callb (PE.builtin (by kernel_rfl) (g_len _) b_len (by decide)) (PA.cons (PE.nm 1 rfl) PA.nil) (FC.len (by rw [List.length_map, hsl]; omega)))) (by rw [List.length_map, hsl])) h0 ?_ rfl rfl) PSJ.nil) (fun p hp => .tail _ hp)
    · rcases List.mem_cons.mp hp with rfl | hp
      · exact .inl (.head _)
      · cases List.mem_singleton.mp hp; exact .inr ⟨S, .tail _ (.tail _ (.head _)), fun h x => x.2.vl⟩
    · rw [List.length_map, hsl]; omega
    · show (chV (sgP ns i))[kP ns i]? = _
      rw [List.getElem?_map, List.getElem?_eq_getElem (by omega)]; simp [hsl, hk]
end
end Mine
-- Lc
namespace Mine
/-- plain reckonings over the ranks -/
noncomputable def cntP (t : Nat → Bool) (n : Nat) : Nat := (flat t (fun _ => [VU]) n).length
noncomputable def abP (p : List Nat) (j : Nat) : Nat := cntP (fun k => ((wlP p).getD k (0, 0)).2 == j) (wlP p).length
noncomputable def blP (p : List Nat) (j : Nat) : Nat := cntP (fun k => ((wlP p).getD k (0, 0)).1 == j) (wlP p).length
noncomputable def thP (p : List Nat) : Nat → Nat
  | 0 => 0
  | i + 1 => thP p i + abP p i * blP p i
noncomputable def awP (p : List Nat) : Nat → Nat
  | 0 => 0
  | i + 1 => awP p i + ((p.getD i 0 : Int) - (i : Int)).natAbs
noncomputable def qP (p : List Nat) (k : Nat) : Nat := p.idxOf k
noncomputable def flP (p : List Nat) : Nat := (flat (fun _ => true) (fun k => flat (fun _ => true) (fun m => flat (fun n => decide (qP p k < qP p m) && decide (qP p m < qP p n)) (fun _ => [VI 1]) m) k) 6).length
noncomputable def plP (p : List Nat) (i : Nat) : Nat → Nat
  | 0 => p.getD i 0
  | j + 1 => p.getD (plP p i j) 0
noncomputable def snP (p : List Nat) (i : Nat) : Nat := ((List.range 7).find? fun j => decide (plP p i j ≤ i)).getD 0
noncomputable def rgP (p : List Nat) : Nat → Nat
  | 0 => 0
  | i + 1 => rgP p i + (if plP p i (snP p i) = i then 1 else 0)

theorem flat_cnt {t : Nat → Bool} {Z : Nat → List VP} : ∀ {n : Nat}, (∀ i, i < n → (Z i).length = 1) → (flat t Z n).length = cntP t n
  | 0, _ => rfl
  | n + 1, h => by
    have ih := flat_cnt (t := t) (Z := Z) (n := n) fun i hi => h i (Nat.lt_succ_of_lt hi)
    unfold cntP at *
    rw [flat, flat, List.length_append, List.length_append, ih]
    split
    · rw [h n (Nat.lt_succ_self n)]; rfl
    · rfl
theorem cnt_le {t : Nat → Bool} {n : Nat} : cntP t n ≤ n := Nat.le_trans (flat_len (m := 1) fun _ _ => Nat.le_refl _) (by omega)
theorem wl_len {p : List Nat} : (wlP p).length ≤ 36 := by
  unfold wlP
  have key : ∀ (f : Nat → List (Nat × Nat)) (m n : Nat), (∀ i, (f i).length ≤ m) → ((List.range n).flatMap f).length ≤ n * m := by
    intro f m n h
    induction n with
    | zero => simp
    | succ n ih =>
      rw [List.range_succ, List.flatMap_append, List.length_append, Nat.succ_mul, show ([n].flatMap f) = f n by simp]
      exact Nat.add_le_add ih (h n)
  refine Nat.le_trans (key _ 6 6 fun i => Nat.le_trans (key _ 1 6 fun j => ?_) (by decide)) (by decide)
  split <;> simp

structure PlainC (p : List Nat) : Prop where
  lt : ∀ i, i < 6 → p.getD i 0 < 6
  qlt : ∀ i, i < 6 → qP p i < 6
  g : ∀ i, i < 6 → (p.getD i 0 : Int) - (i : Int) = (blP p i : Int) - (abP p i : Int)
  falls : flP p = thP p 6
  pl : ∀ i, i < 6 → ∀ j, j ≤ snP p i → plP p i j < 6 ∧ decide (i < plP p i j) = decide (j < snP p i)
section
variable (W : Wd) (L : Addr) (cd : Value) (d : Dt)
theorem Dt.w1_at {k : Nat} (hk : k < (wlP d.p).length) : vAt d.W1 k = d.S ((wlP d.p).getD k (0, 0)).1 ∧ vAt d.W2 k = d.S ((wlP d.p).getD k (0, 0)).2 := by
  constructor
  · exact vAt_of (by simp [Dt.W1, hk])
  · exact vAt_of (by simp [Dt.W2, hk])
theorem wl_at {p : List Nat} {k : Nat} (hk : k < (wlP p).length) : ((wlP p).getD k (0, 0)).1 < 6 ∧ ((wlP p).getD k (0, 0)).2 < 6 := by
  have : (wlP p).getD k (0, 0) = (wlP p)[k] := by simp [hk]
  rw [this]; exact wl_lt _ (List.getElem_mem hk)
noncomputable abbrev R11 (i : Nat) : Rho := (nm "threes", VI (thP d.p i : Nat)) :: (nm "away", VI (awP d.p i : Nat)) :: rho9 d
theorem law11_x (P : PlainC d.p) : PX W (lawEnv L cd) law11.1 (R11 d 0) (R11 d 6) := by
  rw [show R11 d 6 = R11 d d.RW.length by rw [d.rw_len]]
  refine PX.forEnum (R11 d) (PE.builtin (by kernel_rfl) (g_enum _) b_enum (by decide)) (PE.nm 3 rfl) (.inl (by kernel_rfl)) (.inr ⟨by kernel_rfl, by kernel_rfl⟩) (by decide) (fun _ h => h)
    (fun i p hp => by
      have : ((R11 d i).all fun p => !(p.1 == nm "place") && !(p.1 == nm "sign")) = true := by kernel_rfl
      simpa using List.all_eq_true.mp this p hp) (fun i hi => ?_)
  rw [d.rw_len] at hi
  rw [d.rw_at hi]
  refine PS.cons (PX.assign (PE.of (PE.callb (PE.builtin (by kernel_rfl) (g_len _) b_len (by decide)) (PA.cons (PE.comp (ρc := pick _ [0]) (n := (wlP d.p).length) [] (fun k => ((wlP d.p).getD k (0, 0)).2 == i) (fun k => [d.S ((wlP d.p).getD k (0, 0)).1])
      (body := fun D C => lastBody _ (.ref D) _) (ESrc.pairs (PE.nm 4 rfl) (by simp [Dt.W1]) (by simp [Dt.W2]) (by decide)) (by kernel_rfl) (by kernel_rfl) pick_mem (fun I D C => rfl) (fun C k hk => ?_) (fun A g D C k hk _ _ _ _ _ hDC => ?_) (Nat.le_trans (flat_len (m := 1) fun _ _ => Nat.le_refl _) (Nat.le_trans (Nat.mul_le_mul_right 1 wl_len) (by decide)))) PA.nil) (FC.len (Nat.le_trans (flat_len (m := 1) fun _ _ => Nat.le_refl _) (Nat.le_trans (Nat.mul_le_mul_right 1 wl_len) (by decide))))) (V' := VI (abP d.p i : Nat)) (by rw [flat_cnt fun _ _ => rfl]; rfl)) (.inl (by kernel_rfl)) (up [0, 1, 2, 3, 4, 5, 6, 7, 8] rfl (by kernel_rfl)) (by kernel_rfl)) ?_
  · rw [(d.w1_at hk).1, (d.w1_at hk).2]
    exact PTs.one (PT.of (PT.cmp F2.eqS (PE.nm 1 rfl) (PE.nm 2 rfl)) (d.ch_eq (wl_at hk).2 hi))
  · rw [(d.w1_at hk).1, (d.w1_at hk).2]
    exact Stage.last hDC (PE.nm 0 rfl)
  refine PS.cons (PX.assign (PE.of (PE.callb (PE.builtin (by kernel_rfl) (g_len _) b_len (by decide)) (PA.cons (PE.comp (ρc := pick _ [1]) (n := (wlP d.p).length) [] (fun k => ((wlP d.p).getD k (0, 0)).1 == i) (fun k => [d.S ((wlP d.p).getD k (0, 0)).2])
      (body := fun D C => lastBody _ (.ref D) _) (ESrc.pairs (PE.nm 5 rfl) (by simp [Dt.W1]) (by simp [Dt.W2]) (by decide)) (by kernel_rfl) (by kernel_rfl) pick_mem (fun I D C => rfl) (fun C k hk => ?_) (fun A g D C k hk _ _ _ _ _ hDC => ?_) (Nat.le_trans (flat_len (m := 1) fun _ _ => Nat.le_refl _) (Nat.le_trans (Nat.mul_le_mul_right 1 wl_len) (by decide)))) PA.nil) (FC.len (Nat.le_trans (flat_len (m := 1) fun _ _ => Nat.le_refl _) (Nat.le_trans (Nat.mul_le_mul_right 1 wl_len) (by decide))))) (V' := VI (blP d.p i : Nat)) (by rw [flat_cnt fun _ _ => rfl]; rfl)) (.inl (by kernel_rfl)) (up [0, 1, 2, 3, 4, 5, 6, 7, 8, 9] rfl (by kernel_rfl)) (by kernel_rfl)) ?_
  · rw [(d.w1_at hk).1, (d.w1_at hk).2]
    exact PTs.one (PT.of (PT.cmp F2.eqS (PE.nm 0 rfl) (PE.nm 2 rfl)) (d.ch_eq (wl_at hk).1 hi))
  · rw [(d.w1_at hk).1, (d.w1_at hk).2]
    exact Stage.last hDC (PE.nm 1 rfl)
  refine PS.cons (PX.ite (b := false) (PT.of (PT.cmp F2.neI (PE.binop F2.sub (PE.sub (F2.itemD (d.rank_at hi)) (PE.nm 8 rfl) (PE.nm 2 rfl)) (PE.nm 3 rfl)) (PE.binop F2.sub (PE.nm 0 rfl) (PE.nm 1 rfl))) ?_) (fun h => by cases h) (fun _ => PS.nil)) ?_
  · have := P.g i hi
    show ((d.p.getD i 0 : Int) - (i : Int) != (blP d.p i : Int) - (abP d.p i : Int)) = false
    rw [this]; simp
  refine PS.cons (PX.aug (List.mem_of_getElem? (i := 4) rfl) (by kernel_rfl) (PE.binop (F2.mul (mulOk ?_)) (PE.nm 1 rfl) (PE.nm 0 rfl)) F2.iadd (up [0, 1, 2, 3, 5, 6, 7, 8, 9, 10] rfl (by kernel_rfl))) ?_
  · have := cnt_le (t := fun k => ((wlP d.p).getD k (0, 0)).2 == i) (n := (wlP d.p).length)
    have h2 := wl_len (p := d.p)
    show (abP d.p i : Int).natAbs < 2 ^ 60
    unfold abP
    omega
  refine PS.cons (PX.aug (List.mem_of_getElem? (i := 5) rfl) (by kernel_rfl) (PE.callb (PE.builtin (by kernel_rfl) (g_abs _) b_abs (by decide)) (PA.cons (PE.binop F2.sub (PE.sub (F2.itemD (d.rank_at hi)) (PE.nm 8 rfl) (PE.nm 3 rfl)) (PE.nm 4 rfl)) PA.nil) FC.abs) F2.iadd (up [0, 1, 2, 3, 4, 6, 7, 8, 9, 10] rfl (by kernel_rfl))) ?_
  have e1 : ((thP d.p i : Nat) : Int) + ((abP d.p i : Nat) : Int) * ((blP d.p i : Nat) : Int) = ((thP d.p (i + 1) : Nat) : Int) := by
    show _ = ((thP d.p i + abP d.p i * blP d.p i : Nat) : Int); push_cast; rfl
  have e2 : ((awP d.p i : Nat) : Int) + (if ((d.r i : Nat) : Int) - (i : Int) < 0 then -(((d.r i : Nat) : Int) - (i : Int)) else ((d.r i : Nat) : Int) - (i : Int)) = ((awP d.p (i + 1) : Nat) : Int) := by
    show _ = ((awP d.p i + ((d.p.getD i 0 : Int) - (i : Int)).natAbs : Nat) : Int)
    have : ((d.r i : Nat) : Int) = (d.p.getD i 0 : Int) := rfl
    rw [this]; push_cast; split <;> omega
  rw [e1, e2]
  exact PS.weak PS.nil (sub [1, 0, 6, 7, 8, 9, 10] rfl)
end
end Mine
-- Ld
namespace Mine
theorem ESrc.range0 {W : Wd} {env : Env} {ρ : Rho} {iter : Expr} {x : Str} {px : Pos} {n : Nat} (h : PE W env ρ iter (VR 0 n)) : ESrc W env ρ iter (.Name x px) n [x] (fun i => [(x, VI (i : Int))]) := by
  have := ESrc.range (W := W) (x := x) (px := px) h
  simp only [Int.mul_one, Int.zero_add] at this
  exact this
theorem WSrc.range0 {W : Wd} {n : Nat} : WSrc W (VR 0 n) n (fun i => VI (i : Int)) := by
  have := WSrc.range (W := W) (a := 0) (n := n)
  simp only [Int.mul_one, Int.zero_add] at this
  exact this
section
variable (W : Wd) (L : Addr) (cd : Value) (d : Dt)
theorem law12_x (C : LawC W d) (P : PlainC d.p) : PX W (lawEnv L cd) law12.1 (R11 d 6) ((nm "falls", VL (flat (fun _ => true) (fun k => flat (fun _ => true) (fun m => flat (fun n => decide (qP d.p k < qP d.p m) && decide (qP d.p m < qP d.p n)) (fun _ => [VI 1]) m) k) 6)) :: R11 d 6) := by
  refine PX.comp (ρc := pick (R11 d 6) [5, 6]) (n := 6) [nm "m", nm "n"] (fun _ => true) (fun k => flat (fun _ => true) (fun m => flat (fun n => decide (qP d.p k < qP d.p m) && decide (qP d.p m < qP d.p n)) (fun _ => [VI 1]) m) k)
    (body := fun D C => innerBody _ _ 1 (.ref D) (compEnvC _ _ C _)) (ESrc.range0 (PE.callt (PE.builtin (by kernel_rfl) (g_range _) b_range (by decide)) (PA.cons PE.int PA.nil) (FC.range1 (n := 6) (by decide)))) (by kernel_rfl) (by kernel_rfl) pick_mem (fun I D C => rfl) (fun C k hk => PTs.nil) (fun A g D C' k hk _ cg hcg hD hC hDC => ?_) ?hsz (.inl (by kernel_rfl)) (up [0, 1, 2, 3, 4, 5, 6] rfl (by kernel_rfl))
  · refine Stage.in (xs := [nm "m"]) (body := innerBody _ _ 2 (.ref D) (compEnvC _ _ C' _)) [nm "n"] (fun _ => true) _ rfl (ESrc.range0 (PE.callt (PE.builtin (by kernel_rfl) (g_range _) b_range (by decide)) (PA.cons (PE.nm 0 rfl) PA.nil) (FC.range1 (n := k) (by omega)))) (fun I => rfl) (by kernel_rfl) (by kernel_rfl) cg hcg hD hC hDC (fun m hm => PTs.nil) (fun m hm _ => ?_) (by kernel_rfl)
    refine Stage.in (xs := [nm "n"]) (body := lastBody _ (.ref D) _) [] _ _ rfl (ESrc.range0 (PE.callt (PE.builtin (by kernel_rfl) (g_range _) b_range (by decide)) (PA.cons (PE.nm 0 rfl) PA.nil) (FC.range1 (n := m) (by omega)))) (fun I => rfl) (by kernel_rfl) (by kernel_rfl) cg hcg hD hC hDC (fun n hn => ?_) (fun n hn _ => Stage.last hDC PE.int) (by kernel_rfl)
    have hm6 : m < 6 := Nat.lt_trans hm hk
    have hn6 : n < 6 := Nat.lt_trans hn hm6
    have oi : ∀ (j : Nat), j < 6 → d.OR[((j : Int)).toNat]? = some (d.S (d.q j)) := fun j hj => by rw [Int.toNat_natCast]; exact d.or_get hj
    refine PTs.one (PT.value (PE.calldef (PE.global (by kernel_rfl) (g_stands _)) (k_stands _) (PA.cons (PE.list (PA.cons (PE.sub (F2.itemL (Int.natCast_nonneg _) (by omega) (oi k hk)) (PE.nm 4 rfl) (PE.nm 2 rfl)) (PA.cons (PE.sub (F2.itemL (Int.natCast_nonneg _) (by omega) (oi m hm6)) (PE.nm 4 rfl) (PE.nm 1 rfl)) (PA.cons (PE.sub (F2.itemL (Int.natCast_nonneg _) (by omega) (oi n hn6)) (PE.nm 4 rfl) (PE.nm 0 rfl)) PA.nil))) (Nat.le_of_ble_eq_true rfl)) (PA.cons (PE.nm 3 rfl) PA.nil))
      (C.st3 (d.q k) (d.q m) (d.q n) (P.qlt k hk) (P.qlt m hm6) (P.qlt n hn6))))
  · refine Nat.le_trans (flat_len (m := 36) fun k hk => Nat.le_trans (flat_len (m := 6) fun m hm => Nat.le_trans (flat_len (m := 1) fun n _ => Nat.le_refl _) (by omega)) (by omega)) (by decide)

theorem law13_x (P : PlainC d.p) {V : VP} (hV : V = VL (flat (fun _ => true) (fun k => flat (fun _ => true) (fun m => flat (fun n => decide (qP d.p k < qP d.p m) && decide (qP d.p m < qP d.p n)) (fun _ => [VI 1]) m) k) 6)) : PX W (lawEnv L cd) law13.1 ((nm "falls", V) :: R11 d 6) (R11 d 6) := by
  subst hV
  refine PX.weak (PX.ite (b := false) (PT.of (PT.cmp F2.neI (PE.callb (PE.builtin (by kernel_rfl) (g_len _) b_len (by decide)) (PA.cons (PE.nm 0 rfl) PA.nil) (FC.len ?_)) (PE.nm 1 rfl)) ?_) (fun h => by cases h) (fun _ => PS.nil)) (sub [1, 2, 3, 4, 5, 6, 7] rfl)
  · refine Nat.le_trans (flat_len (m := 36) fun k hk => Nat.le_trans (flat_len (m := 6) fun m hm => Nat.le_trans (flat_len (m := 1) fun n _ => Nat.le_refl _) (by omega)) (by omega)) (by decide)
  · have := P.falls
    show ((flP d.p : Int) != (thP d.p 6 : Int)) = false
    rw [this]; simp

noncomputable abbrev rho13 : Rho := [(nm "wrong", VL (vp2 d.W1 d.W2)), (nm "away", VI (awP d.p 6 : Nat))] ++ rho8 d
noncomputable abbrev R15 (i : Nat) : Rho := (nm "rings", VI (rgP d.p i : Nat)) :: rho13 d
theorem law14_x : PX W (lawEnv L cd) law14.1 (R11 d 6) (R15 d 0) :=
  PX.assign (V := VI ((rgP d.p 0 : Nat) : Int)) PE.int (.inl (by kernel_rfl)) (up [2, 1, 3, 4, 5, 6] rfl (by kernel_rfl)) (by kernel_rfl)

theorem law15_x (C : LawC W d) (P : PlainC d.p) : PX W (lawEnv L cd) law15.1 (R15 d 0) (R15 d 6) := by
  refine PX.forW (R15 d) (PE.callt (PE.builtin (by kernel_rfl) (g_range _) b_range (by decide)) (PA.cons PE.int PA.nil) (FC.range1 (n := 6) (by decide))) WSrc.range0 (.inl (by kernel_rfl)) (fun _ h => h) (fun i p hp => by
      have : ((R15 d i).all fun p => !(p.1 == nm "start")) = true := by kernel_rfl
      simpa using List.all_eq_true.mp this p hp) (fun i hi => ?_)
  have rwi : ∀ (j : Nat), j < 6 → d.RW[((j : Int)).toNat]? = some (d.S j) := fun j hj => by rw [Int.toNat_natCast]; exact d.rw_get hj
  refine PS.cons (PX.assign (V := VI ((plP d.p i 0 : Nat) : Int)) (PE.sub (F2.itemD (d.rank_at hi)) (PE.nm 5 rfl) (PE.sub (F2.itemL (Int.natCast_nonneg _) (by omega) (rwi i hi)) (PE.nm 4 rfl) (PE.nm 0 rfl))) (.inl (by kernel_rfl)) (up [0, 1, 2, 3, 4, 5, 6, 7] rfl (by kernel_rfl)) (by kernel_rfl)) ?_
  refine PS.cons (PX.while (n := snP d.p i) (fun j => (nm "place", VI ((plP d.p i j : Nat) : Int)) :: (nm "start", VI (i : Int)) :: R15 d i) (fun _ h => h) (fun j hj => PT.of (PT.cmp F2.gtI (PE.nm 0 rfl) (PE.nm 1 rfl)) ?_) (fun j hj => ?_)) ?_
  · rw [← (P.pl i hi j hj).2]; simp
  · have h6 := (P.pl i hi j (Nat.le_of_lt hj)).1
    exact PS.cons (PX.assign (V := VI ((plP d.p i (j + 1) : Nat) : Int)) (PE.sub (F2.itemD (d.rank_at h6)) (PE.nm 6 rfl) (PE.sub (F2.itemL (Int.natCast_nonneg _) (by omega) (rwi _ h6)) (PE.nm 5 rfl) (PE.nm 0 rfl))) (.inl (by kernel_rfl)) (up [1, 2, 3, 4, 5, 6, 7, 8] rfl (by kernel_rfl)) (by kernel_rfl)) PS.nil
  have e : ((rgP d.p i : Nat) : Int) + (if plP d.p i (snP d.p i) = i then 1 else 0) = ((rgP d.p (i + 1) : Nat) : Int) := by
    show _ = ((rgP d.p i + (if plP d.p i (snP d.p i) = i then 1 else 0) : Nat) : Int)
    split <;> push_cast <;> rfl
  refine PS.cons (ρ' := R15 d (i + 1)) (PX.ite (b := decide (plP d.p i (snP d.p i) = i)) (PT.of (PT.cmp F2.isB (PE.calldef (PE.global (by kernel_rfl) (g_eof _)) (k_eof _) (PA.cons (PE.binop F2.sub (PE.nm 1 rfl) (PE.nm 0 rfl)) PA.nil) (C.eof _)) PE.bool) ?_) (fun h => ?_) fun h => ?_) PS.nil
  · rw [show decide ((i : Int) - ((plP d.p i (snP d.p i) : Nat) : Int) = 0) = decide (plP d.p i (snP d.p i) = i) from decide_eq_decide.mpr (by omega)]
    cases decide (plP d.p i (snP d.p i) = i) <;> rfl
  · rw [if_pos (of_decide_eq_true h)] at e
    refine PS.cons (PX.aug (V' := VI ((rgP d.p (i + 1) : Nat) : Int)) (List.mem_of_getElem? (i := 2) rfl) (by kernel_rfl) PE.int (by rw [← e]; exact F2.iadd) (up [3, 4, 5, 6, 7, 8] rfl (by kernel_rfl))) PS.nil
  · have hne := of_decide_eq_false h
    rw [if_neg hne, Int.add_zero] at e
    refine PS.cons (ρ' := R15 d (i + 1)) (PX.ite (b := false) (PT.of (PT.cmp F2.isNotB (PE.calldef (PE.global (by kernel_rfl) (g_eof _)) (k_eof _) (PA.cons (PE.binop F2.sub (PE.nm 0 rfl) (PE.nm 1 rfl)) PA.nil) (C.eof _)) PE.bool) ?_) (fun h => by cases h) fun _ => ?_) PS.nil
    · rw [show decide (((plP d.p i (snP d.p i) : Nat) : Int) - (i : Int) = 0) = false from decide_eq_false (by omega)]; rfl
    · show PS W (lawEnv L cd) [] _ ((nm "rings", VI ((rgP d.p (i + 1) : Nat) : Int)) :: rho13 d)
      rw [← e]
      exact PS.weak PS.nil (sub [2, 3, 4, 5, 6, 7, 8] rfl)
end
end Mine
-- Le
namespace Mine
theorem empty_s : Str.ofString "" = ⟨#[]⟩ := by kernel_rfl
theorem app_s (a b : Array Nat) : (⟨a⟩ : Str) ++ (⟨b⟩ : Str) = ⟨a ++ b⟩ := rfl
theorem join_ch : ∀ l : List Nat, Txt.join (Str.ofString "") (l.map ch) = ⟨l.toArray⟩ := fun l => by
  show Builtin.Str.glued (Str.ofString "") _ = _
  rw [StrLaws.glued_eq_join, empty_s]
  induction l with
  | nil => rfl
  | cons a r ih =>
    cases r with
    | nil => rfl
    | cons b r =>
      show ch a ++ ⟨#[]⟩ ++ Str.join ⟨#[]⟩ ((b :: r).map ch) = _
      rw [ih, ch, app_s, app_s]; simp
theorem joinOk_ch {l : List Nat} {x : Str} (h : l.length ≤ 1000) (hx : x.length ≤ 16) : JoinOk x (l.map ch) = true := by
  refine joinOk_of_weight ?_ hx
  have : ((l.map ch).map (·.length)).sum = l.length := by
    induction l with
    | nil => rfl
    | cons a r ih => rw [List.map_cons, List.map_cons, List.sum_cons, ih (Nat.le_trans (Nat.le_succ _) h), List.length_cons]; show 1 + _ = _; omega
  rw [this, List.length_map]; omega
theorem Dt.join (d : Dt) (l : List Nat) : Txt.join (Str.ofString "") (l.map fun k => ch (d.c k)) = d.txt l := by
  rw [show (l.map fun k => ch (d.c k)) = (l.map d.c).map ch by rw [List.map_map]; rfl, join_ch]; rfl
theorem Dt.joinOk (d : Dt) {l : List Nat} (h : l.length ≤ 1000) : JoinOk (Str.ofString "") (l.map fun k => ch (d.c k)) = true := by
  rw [show (l.map fun k => ch (d.c k)) = (l.map d.c).map ch by rw [List.map_map]; rfl]
  exact joinOk_ch (by rw [List.length_map]; exact h) (by rw [empty_s]; decide)
noncomputable def toP (p : List Nat) (i : Nat) : Nat := qP p (5 - i)
noncomputable def nxP (p : List Nat) (i : Nat) (l : List Nat) : List Nat := (l.take (5 - i)).map fun x => if x == toP p i then l.getD (5 - i) 0 else x
noncomputable def lfP (p : List Nat) : Nat → List Nat
  | 0 => six
  | i + 1 => nxP p i (lfP p i)
noncomputable def laP (p : List Nat) (i : Nat) : Nat := (lfP p i).getD (5 - i) 0
noncomputable def hiP (p : List Nat) (l : List Nat) (a : Nat) : Nat := cntP (fun k => decide (p.getD a 0 < p.getD (l.getD k 0) 0) && decide (l.idxOf (l.getD k 0) < l.idxOf a)) l.length
noncomputable def loP (p : List Nat) (l : List Nat) (a : Nat) : Nat := cntP (fun k => decide (p.getD (l.getD k 0) 0 < p.getD a 0) && decide (l.idxOf a < l.idxOf (l.getD k 0))) l.length
noncomputable def lsP (p : List Nat) : Nat → Nat
  | 0 => 0
  | i + 1 => lsP p i + (if laP p i = toP p i then 0 else min (hiP p (lfP p (i + 1)) (laP p i)) (loP p (lfP p (i + 1)) (laP p i)))
structure PlainL (p : List Nat) : Prop where
  len : ∀ i, i ≤ 5 → (lfP p i).length = 6 - i
  nd : ∀ i, i ≤ 5 → (lfP p i).Nodup
  lt : ∀ i, i ≤ 5 → ∀ x ∈ lfP p i, x < 6
  mem : ∀ i, i < 5 → laP p i ≠ toP p i → laP p i ∈ lfP p (i + 1)
  fin : (awP p 6 : Int) = (wlP p).length + 6 - rgP p 6 + 2 * lsP p 5
theorem PlainL.la {p : List Nat} (P : PlainL p) {i : Nat} (hi : i < 5) : (lfP p i)[5 - i]? = some (laP p i) ∧ laP p i < 6 := by
  have hl := P.len i (Nat.le_of_lt hi)
  have h : 5 - i < (lfP p i).length := by omega
  have e : laP p i = (lfP p i)[5 - i] := by simp [laP, h]
  exact ⟨by rw [e]; exact List.getElem?_eq_getElem h, by rw [e]; exact P.lt i (Nat.le_of_lt hi) _ (List.getElem_mem h)⟩
section
variable (W : Wd) (L : Addr) (cd : Value) (d : Dt)
theorem Dt.rw_six : d.RW = six.map d.S := by
  apply List.ext_getElem?
  intro i
  by_cases hi : i < 6
  · rw [d.rw_get hi]
    match i, hi with
    | 0, _ => rfl | 1, _ => rfl | 2, _ => rfl | 3, _ => rfl | 4, _ => rfl | 5, _ => rfl
  · rw [List.getElem?_eq_none (by rw [d.rw_len]; omega), List.getElem?_eq_none (by simp; omega)]
theorem flat_one {F : Nat → VP} (n : Nat) : flat (fun _ => true) (fun k => [F k]) n = (List.range n).map F := by
  rw [flat_eq]
  induction n with
  | zero => rfl
  | succ n ih => rw [List.range_succ, List.flatMap_append, List.map_append, ih]; rfl
theorem range_getD {α : Type} {l : List Nat} {F : Nat → α} : ∀ {n : Nat}, n ≤ l.length → (List.range n).map (fun k => F (l.getD k 0)) = (l.take n).map F := fun {n} h => by
  apply List.ext_getElem?
  intro k
  by_cases hk : k < n
  · have : k < l.length := by omega
    simp [hk, this]
  · simp [hk]; exact Nat.le_trans (Nat.min_le_left _ _) (Nat.not_lt.mp hk)
noncomputable abbrev lfV (i : Nat) : List VP := (lfP d.p i).map d.S
noncomputable abbrev rho16 : Rho := R15 d 6
noncomputable abbrev R17 (i : Nat) : Rho := (nm "lesser", VI (lsP d.p i : Nat)) :: (nm "left", VL (lfV d i)) :: rho16 d
noncomputable abbrev RA (i : Nat) : Rho := (nm "left", VL (lfV d (i + 1))) :: (nm "top", d.S (toP d.p i)) :: (nm "last", d.S (laP d.p i)) :: (nm "lesser", VI (lsP d.p i : Nat)) :: rho16 d
noncomputable abbrev RB (i : Nat) : Rho := (nm "short", VS (d.txt (lfP d.p (i + 1)))) :: RA d i
theorem law16_x : PX W (lawEnv L cd) law16.1 (R15 d 6) (R17 d 0) :=
  PX.assign2s (V := VL (lfV d 0)) (PE.tuple (PA.cons (PE.int (i := ((lsP d.p 0 : Nat) : Int))) (PA.cons (PE.of (PE.nm 3 rfl) (by rw [d.rw_six]; rfl)) PA.nil)) (Nat.le_of_ble_eq_true rfl)) (.inl (by kernel_rfl)) (.inl (by kernel_rfl)) (by decide) (up2 [0, 1, 2, 3, 4, 5, 6] rfl (by kernel_rfl)) (by kernel_rfl) (by kernel_rfl)
theorem law17_x (C : LawC W d) (P : PlainC d.p) (Q : PlainL d.p) : PX W (lawEnv L cd) law17.1 (R17 d 0) (R17 d 5) := by
  refine PX.while (R17 d) (fun _ h => h) (fun i hi => PT.of (PT.cmp F2.gtI (PE.callb (PE.builtin (by kernel_rfl) (g_len _) b_len (by decide)) (PA.cons (PE.nm 1 rfl) PA.nil) (FC.len ?_)) PE.int) ?_) (fun i hi => ?_)
  · rw [List.length_map, Q.len i hi]; omega
  · rw [List.length_map, Q.len i hi]; exact decide_eq_decide.mpr (by omega)
  have hl := Q.len i (Nat.le_of_lt hi)
  have hl' := Q.len (i + 1) hi
  obtain ⟨la1, la2⟩ := Q.la hi
  have to6 : toP d.p i < 6 := P.qlt _ (by omega)
  have lv : (lfV d i).length = 6 - i := by rw [List.length_map, hl]
  refine PS.cons (PX.assign2 (U := d.S (toP d.p i)) (V := d.S (laP d.p i)) (PE.tuple (PA.cons (PE.sub (F2.itemL (k := ((5 - i : Nat) : Int)) (Int.natCast_nonneg _) (by omega) (by rw [Int.toNat_natCast]; exact d.or_get (by omega))) (PE.nm 8 rfl) (PE.of (PE.binop F2.sub (PE.callb (PE.builtin (by kernel_rfl) (g_len _) b_len (by decide)) (PA.cons (PE.nm 1 rfl) PA.nil) (FC.len ?_)) PE.int) ?_))
    (PA.cons (PE.sub (F2.itemLneg (by decide) ?_ (by decide) ?_) (PE.nm 1 rfl) (PE.neg PE.int)) PA.nil)) (Nat.le_of_ble_eq_true rfl)) (.inr ⟨by kernel_rfl, by kernel_rfl⟩) (.inr ⟨by kernel_rfl, by kernel_rfl⟩) (by decide) (up2 [0, 1, 2, 3, 4, 5, 6, 7, 8] rfl (by kernel_rfl)) (by kernel_rfl) (by kernel_rfl)) ?_
  · rw [lv]; omega
  · rw [lv]; congr 1; omega
  · rw [lv]; omega
  · rw [lv, show (-1 + ((6 - i : Nat) : Int)).toNat = 5 - i by omega, List.getElem?_map, la1]; rfl
  -- the row without its last one
  have sig : ∀ k, k < 5 - i → vAt ((lfV d i).take (5 - i)) k = d.S ((lfP d.p i).getD k 0) ∧ (lfP d.p i).getD k 0 < 6 := fun k hk => by
    have hk' : k < (lfP d.p i).length := by omega
    have e : (lfP d.p i).getD k 0 = (lfP d.p i)[k] := by simp [hk']
    refine ⟨vAt_of ?_, by rw [e]; exact Q.lt i (Nat.le_of_lt hi) _ (List.getElem_mem hk')⟩
    rw [List.getElem?_take, if_pos hk, List.getElem?_map, List.getElem?_eq_getElem hk', e]; rfl
  have e1 : flat (fun _ => true) (fun k => [d.S (if (lfP d.p i).getD k 0 == toP d.p i then laP d.p i else (lfP d.p i).getD k 0)]) (5 - i) = lfV d (i + 1) := by
    rw [flat_one]
    show _ = (nxP d.p i (lfP d.p i)).map d.S
    rw [nxP, List.map_map]
    exact range_getD (F := fun x => d.S (if x == toP d.p i then laP d.p i else x)) (by omega)
  refine PS.cons (ρ' := RA d i) (PX.comp (ρc := pick _ [0, 1]) (n := 5 - i) [] (fun _ => true) (fun k => [d.S (if (lfP d.p i).getD k 0 == toP d.p i then laP d.p i else (lfP d.p i).getD k 0)])
      (body := fun D C => lastBody _ (.ref D) _) (ESrc.list (Vs := (lfV d i).take (5 - i)) (PE.of (PE.sliceTo (n := 1) (PE.nm 3 rfl) (PE.neg PE.int) (.inr ⟨by decide, by decide⟩) (by rw [lv]; omega)) ?_) ?_) (by kernel_rfl) (by kernel_rfl) pick_mem (fun I D C => rfl) (fun C k hk => PTs.nil) (fun A g D C k hk _ _ _ _ _ hDC => Stage.last hDC ?_) ?_ (.inl (by kernel_rfl)) (by rw [e1]; exact up [0, 1, 2, 4, 5, 6, 7, 8, 9, 10] rfl (by kernel_rfl))) ?_
  · rw [lv, if_pos (by decide)]; congr 2; omega
  · rw [List.length_take, lv]; omega
  · rw [(sig k hk).1]
    have h6 := (sig k hk).2
    refine PE.ifexp (b := (lfP d.p i).getD k 0 == toP d.p i) (PT.of (PT.cmp F2.eqS (PE.nm 0 rfl) (PE.nm 1 rfl)) (d.ch_eq h6 to6)) (fun h => ?_) fun h => ?_
    · rw [if_pos h]; exact PE.nm 2 rfl
    · rw [if_neg (by rw [h]; decide)]; exact PE.nm 0 rfl
  · exact Nat.le_trans (flat_len (m := 1) fun _ _ => Nat.le_refl _) (by omega)
  have sig' : ∀ k, k < 5 - i → vAt (lfV d (i + 1)) k = d.S ((lfP d.p (i + 1)).getD k 0) ∧ (lfP d.p (i + 1)).getD k 0 < 6 ∧ (lfP d.p (i + 1)).getD k 0 ∈ lfP d.p (i + 1) := fun k hk => by
    have hk' : k < (lfP d.p (i + 1)).length := by omega
    have e : (lfP d.p (i + 1)).getD k 0 = (lfP d.p (i + 1))[k] := by simp [hk']
    refine ⟨vAt_of ?_, by rw [e]; exact Q.lt (i + 1) hi _ (List.getElem_mem hk'), by rw [e]; exact List.getElem_mem hk'⟩
    rw [List.getElem?_map, List.getElem?_eq_getElem hk', e]; rfl
  have lv' : (lfV d (i + 1)).length = 5 - i := by rw [List.length_map, hl']; omega
  refine PS.cons (ρ' := R17 d (i + 1)) (PX.ite (b := !(laP d.p i == toP d.p i)) (PT.of (PT.cmp F2.neS (PE.nm 2 rfl) (PE.nm 1 rfl)) ?_) (fun h => ?_) fun h => ?_) PS.nil
  · show (!(ch (d.c (laP d.p i)) == ch (d.c (toP d.p i)))) = _
    rw [d.ch_eq la2 to6]
  · have hne : laP d.p i ≠ toP d.p i := by simpa using h
    have hla := Q.mem i hi hne
    refine PS.cons (ρ' := RB d i) (PX.assign (V := VS (d.txt (lfP d.p (i + 1)))) (PE.of (PE.method tyS F.plainAttrs_str F.slot_str_join F.type_str_join PE.str (PA.cons (PE.of (PE.nm 0 rfl) (V' := VL (((lfP d.p (i + 1)).map fun k => ch (d.c k)).map VS)) (by rw [List.map_map]; rfl)) PA.nil) (FC.join (ss := (lfP d.p (i + 1)).map fun k => ch (d.c k)) (d.joinOk (by omega)))) (by rw [d.join])) (.inr ⟨by kernel_rfl, by kernel_rfl⟩) (up [0, 1, 2, 3, 4, 5, 6, 7, 8, 9, 10] rfl (by kernel_rfl)) (by kernel_rfl)) ?_
    refine PS.cons (PX.comp (ρc := pick _ [0, 3, 9]) (n := 5 - i) [] (fun k => decide (d.p.getD (laP d.p i) 0 < d.p.getD ((lfP d.p (i + 1)).getD k 0) 0) && decide ((lfP d.p (i + 1)).idxOf ((lfP d.p (i + 1)).getD k 0) < (lfP d.p (i + 1)).idxOf (laP d.p i))) (fun k => [d.S ((lfP d.p (i + 1)).getD k 0)])
      (body := fun D C => lastBody _ (.ref D) _) (ESrc.list (PE.nm 1 rfl) lv') (by kernel_rfl) (by kernel_rfl) pick_mem (fun I D C => rfl) (fun C' k hk => ?_) (fun A g D C' k hk _ _ _ _ _ hDC => Stage.last hDC ?_) (Nat.le_trans (flat_len (m := 1) fun _ _ => Nat.le_refl _) (by omega)) (.inl (by kernel_rfl)) (up [0, 1, 2, 3, 4, 5, 6, 7, 8, 9, 10, 11] rfl (by kernel_rfl))) ?_
    · obtain ⟨a, b, c⟩ := sig' k hk
      rw [a]
      refine PTs.one ((PT.and (PAll.cons (PT.cmp F2.gtI (PE.sub (F2.itemD (d.rank_at b)) (PE.nm 3 rfl) (PE.nm 0 rfl)) (PE.sub (F2.itemD (d.rank_at la2)) (PE.nm 3 rfl) (PE.nm 2 rfl)))
        fun _ => PAll.cons (PT.value (PE.calldef (PE.global (by kernel_rfl) (g_stands _)) (k_stands _) (PA.cons (PE.list (PA.cons (PE.nm 0 rfl) (PA.cons (PE.nm 2 rfl) PA.nil)) (Nat.le_of_ble_eq_true rfl)) (PA.cons (PE.nm 1 rfl) PA.nil)) (C.st2 _ _ _ (by omega) (Q.nd (i + 1) hi) (Q.lt (i + 1) hi) c hla))) fun _ => PAll.nil)).of ?_)
      rw [Bool.and_true]; congr 1
      exact decide_eq_decide.mpr (by show ((d.p.getD (laP d.p i) 0 : Nat) : Int) < ((d.p.getD ((lfP d.p (i + 1)).getD k 0) 0 : Nat) : Int) ↔ _; omega)
    · rw [(sig' k hk).1]; exact PE.nm 0 rfl
    refine PS.cons (PX.comp (ρc := pick _ [1, 4, 10]) (n := 5 - i) [] (fun k => decide (d.p.getD ((lfP d.p (i + 1)).getD k 0) 0 < d.p.getD (laP d.p i) 0) && decide ((lfP d.p (i + 1)).idxOf (laP d.p i) < (lfP d.p (i + 1)).idxOf ((lfP d.p (i + 1)).getD k 0))) (fun k => [d.S ((lfP d.p (i + 1)).getD k 0)])
      (body := fun D C => lastBody _ (.ref D) _) (ESrc.list (PE.nm 2 rfl) lv') (by kernel_rfl) (by kernel_rfl) pick_mem (fun I D C => rfl) (fun C' k hk => ?_) (fun A g D C' k hk _ _ _ _ _ hDC => Stage.last hDC ?_) (Nat.le_trans (flat_len (m := 1) fun _ _ => Nat.le_refl _) (by omega)) (.inl (by kernel_rfl)) (up [0, 1, 2, 3, 4, 5, 6, 7, 8, 9, 10, 11, 12] rfl (by kernel_rfl))) ?_
    · obtain ⟨a, b, c⟩ := sig' k hk
      rw [a]
      refine PTs.one ((PT.and (PAll.cons (PT.cmp F2.ltI (PE.sub (F2.itemD (d.rank_at b)) (PE.nm 3 rfl) (PE.nm 0 rfl)) (PE.sub (F2.itemD (d.rank_at la2)) (PE.nm 3 rfl) (PE.nm 2 rfl)))
        fun _ => PAll.cons (PT.value (PE.calldef (PE.global (by kernel_rfl) (g_stands _)) (k_stands _) (PA.cons (PE.list (PA.cons (PE.nm 2 rfl) (PA.cons (PE.nm 0 rfl) PA.nil)) (Nat.le_of_ble_eq_true rfl)) (PA.cons (PE.nm 1 rfl) PA.nil)) (C.st2 _ _ _ (by omega) (Q.nd (i + 1) hi) (Q.lt (i + 1) hi) hla c))) fun _ => PAll.nil)).of ?_)
      rw [Bool.and_true]; congr 1
      exact decide_eq_decide.mpr (by show ((d.p.getD ((lfP d.p (i + 1)).getD k 0) 0 : Nat) : Int) < ((d.p.getD (laP d.p i) 0 : Nat) : Int) ↔ _; omega)
    · rw [(sig' k hk).1]; exact PE.nm 0 rfl
    refine PS.cons (PX.aug (V' := VI ((lsP d.p (i + 1) : Nat) : Int)) (List.mem_of_getElem? (i := 6) rfl) (by kernel_rfl) (PE.callb (PE.builtin (by kernel_rfl) (g_min _) b_min (by decide)) (PA.cons (PE.callb (PE.builtin (by kernel_rfl) (g_len _) b_len (by decide)) (PA.cons (PE.nm 1 rfl) PA.nil) (FC.len ?_)) (PA.cons (PE.callb (PE.builtin (by kernel_rfl) (g_len _) b_len (by decide)) (PA.cons (PE.nm 0 rfl) PA.nil) (FC.len ?_)) PA.nil)) FC.min) ?_ (up [0, 1, 2, 3, 4, 5, 7, 8, 9, 10, 11, 12, 13] rfl (by kernel_rfl))) (PS.weak PS.nil (sub [0, 4, 7, 8, 9, 10, 11, 12, 13] rfl))
    · exact Nat.le_trans (flat_len (m := 1) fun _ _ => Nat.le_refl _) (by omega)
    · exact Nat.le_trans (flat_len (m := 1) fun _ _ => Nat.le_refl _) (by omega)
    · rw [flat_cnt fun _ _ => rfl, flat_cnt fun _ _ => rfl]
      have e : ((lsP d.p (i + 1) : Nat) : Int) = (lsP d.p i : Nat) + (if ((loP d.p (lfP d.p (i + 1)) (laP d.p i) : Nat) : Int) < (hiP d.p (lfP d.p (i + 1)) (laP d.p i) : Nat) then ((loP d.p (lfP d.p (i + 1)) (laP d.p i) : Nat) : Int) else (hiP d.p (lfP d.p (i + 1)) (laP d.p i) : Nat)) := by
        show ((lsP d.p i + (if laP d.p i = toP d.p i then 0 else min (hiP d.p (lfP d.p (i + 1)) (laP d.p i)) (loP d.p (lfP d.p (i + 1)) (laP d.p i))) : Nat) : Int) = _
        rw [if_neg hne]
        split <;> omega
      rw [e, hiP, loP, hl', show 6 - (i + 1) = 5 - i by omega]
      exact F2.iadd
  · have he : laP d.p i = toP d.p i := by simpa using h
    have e : lsP d.p (i + 1) = lsP d.p i := by
      show lsP d.p i + _ = _
      rw [if_pos he]; rfl
    rw [R17, e]
    exact PS.weak PS.nil (sub [3, 0, 4, 5, 6, 7, 8, 9, 10] rfl)
end
end Mine
-- Lf
namespace Mine
section
variable (W : Wd) (L : Addr) (cd : Value) (d : Dt)
theorem w12_len : (vp2 d.W1 d.W2).length = (wlP d.p).length := by rw [Dt.W1, Dt.W2, vp2_map, List.length_map]
theorem law18_r (Q : PlainL d.p) : PR W (lawEnv L cd) [law18.1] (R17 d 5) (VB true) := by
  refine PR.ret (PE.of (PE.compare F2.eqI (PE.nm 4 rfl) (PE.binop F2.add (PE.binop F2.sub (PE.binop F2.add (PE.callb (PE.builtin (by kernel_rfl) (g_len _) b_len (by decide)) (PA.cons (PE.nm 3 rfl) PA.nil) (FC.len ?_)) PE.int) (PE.nm 2 rfl)) (PE.binop (F2.mul (mulOk (by decide))) PE.int (PE.nm 0 rfl)))) ?_)
  · rw [w12_len]; exact Nat.le_trans wl_len (by decide)
  · rw [w12_len]
    have := Q.fin
    rw [show ((awP d.p 6 : Int) == ((wlP d.p).length : Int) + 6 - (rgP d.p 6 : Int) + 2 * (lsP d.p 5 : Int)) = true from by rw [this]; simp]
theorem law_tail (C : LawC W d) (P : PlainC d.p) (Q : PlainL d.p) : PR W (lawEnv L cd) (lawD.1.2.1.drop 9) (rho8 d) (VB true) := by
  refine PR.of (V := VB true) ?_ rfl
  show PR W (lawEnv L cd) [law9.1, law10.1, law11.1, law12.1, law13.1, law14.1, law15.1, law16.1, law17.1, law18.1] _ _
  exact PR.cons (law9_x W L cd d C) (PR.cons (law10_x W L cd d) (PR.cons (law11_x W L cd d P) (PR.cons (law12_x W L cd d C P) (PR.cons (law13_x W L cd d P rfl) (PR.cons (law14_x W L cd d) (PR.cons (law15_x W L cd d C P) (PR.cons (law16_x W L cd d) (PR.cons (law17_x W L cd d C P Q) (law18_r W L cd d Q)))))))))
end
end Mine
-- Ra
namespace Mine
open Builtin Builtin.Str StrLaws
section
variable {W : Wd} {env : Env} {ρ ρ' : Rho} {g0 : Heap} {V : VP}
theorem F2.notInS {x y : Str} : F2 W (compareOp .NotIn) (VS y) (VS x) (VB (!(!(Builtin.Str.occurrences x y 0 x.length 1).isEmpty))) := by
  rintro A Mu s _ _ Q E ct mu ⟨t, rfl⟩ ⟨u, rfl⟩ k; exact PyProof.Rows.notIn_str (k _ s.heap s.toks stays_refl rfl)
theorem PT.valueS {e : Expr} {x : Str} (hx : x.length ≤ 1000000) (h : PE W env ρ e (VS x)) (he : ∀ whole, isTrue e env whole = (do let v ← whole; standAt e.pos; holding [v] (truthy v)) := by intro _; rfl) : PT W env ρ e ((x.length : Int) != 0) :=
  fun A Mu s Q E I k => wpAny_isTrue_value (h A Mu s _ _ I fun v h' tk k' p => by obtain ⟨t, rfl⟩ := p; exact PySem.P.truthy_str (by omega) (k h' _ k')) (he _)
theorem FC.s2 {id : String} {x y : Str} {b : Bool} (h : ∀ (A : Around) (s : Shared) (t u : Tok) (Q E : Value → Shared → Prop), Q (.bool b) s → wpAny (model PG W.w) A (call (.builtin id) [.str x t, .str y u]) Q E s) : FC W (.builtin id) [VS x, VS y] (VB b) := by
  intro A Mu s vs Q E ct mu p k
  match vs, p with
  | [u, v], p =>
    obtain ⟨t, rfl⟩ := p.1
    obtain ⟨t', rfl⟩ := p.2.1
    exact h A s t t' Q E (k _ s.heap s.toks stays_refl rfl)
  | [], p => exact p.elim
  | [_], p => exact p.2.elim
  | _ :: _ :: _ :: _, p => exact p.2.2.elim
theorem FC.startswith {x y : Str} : FC W (.builtin "str.startswith") [VS x, VS y] (VB (Txt.startswith x y)) := FC.s2 fun A s t u Q E h => SC.startswith h
theorem FC.endswith {x y : Str} : FC W (.builtin "str.endswith") [VS x, VS y] (VB (Txt.endswith x y)) := FC.s2 fun A s t u Q E h => SC.endswith h
theorem FC.find4 {x y : Str} {i j : Int} : FC W (.builtin "str.find") [VS x, VS y, VI i, VI j] (VI (find4 x y i j)) := by
  intro A Mu s vs Q E ct mu p k
  match vs, p with
  | [u, v, a, b], p =>
    obtain ⟨t, rfl⟩ := p.1
    obtain ⟨t', rfl⟩ := p.2.1
    obtain ⟨t'', rfl⟩ := p.2.2.1
    obtain ⟨t''', rfl⟩ := p.2.2.2.1
    exact call_find4 (k _ s.heap _ stays_refl ⟨_, rfl⟩)
  | [], p => exact p.elim
  | [_], p => exact p.2.elim
  | [_, _], p => exact p.2.2.elim
  | [_, _, _], p => exact p.2.2.2.elim
  | _ :: _ :: _ :: _ :: _ :: _, p => exact p.2.2.2.2.elim
theorem PX.assert {test : Expr} {msg : Option Expr} {pos : Pos} (h : PT W env ρ test true) : PX W env (.Assert test msg pos) ρ ρ := fun g0 A Mu s Q E I k =>
  wpAny_Assert_holds (h A Mu s _ _ I.inv fun h' tk k' => ⟨rfl, k h' tk (fun b o _ e => k' b o e) (I.mono k')⟩)
section
variable {Ps : List Addr} {J : Heap → Prop}
theorem PXJ.assignR {x : Str} {px pos : Pos} {e : Expr} {U : VP} (sb : Stb Ps J) (ρr : Rho) (hre : ∀ p ∈ ρr, p ∈ ρ ∨ ∃ P, (p.1, VE (.ref P)) ∈ ρ ∧ ∀ h, J h → p.2.p h (.ref P)) (he : PE W env ρr e U) (hU : Flt U) (hk : Kd env x) (hρ : ∀ p ∈ ρ', p = (x, U) ∨ (p ∈ ρ ∧ p.1 ≠ x))
    (hs : swapsWith e (some (.Name x px)) pos.line env = pure false := by rfl) : PXJ W env Ps (.Assign [.Name x px] e pos) ρ J ρ' J := fun g0 A Mu s Q E hP I hJ k =>
  wpAny_Assign_Name (he A _ s _ _ (I.reveal hP sb hJ hre).inv fun v h₁ tk₁ k₁ p₁ => (I.mono k₁).store (s := { s with heap := h₁, toks := tk₁ }) hk (hU _ _ _ p₁) hρ fun h₂ tk₂ k₂ I₂ => k h₂ tk₂ (fun b o hb _ e => k₂ b o hb (k₁ b o e)) I₂ (sb _ _ (fun a ha o e => k₂ a o (hP a ha).2 (k₁ _ _ e)) hJ)) hs
theorem PXJ.assertR {test : Expr} {msg : Option Expr} {pos : Pos} (sb : Stb Ps J) (ρr : Rho) (hre : ∀ p ∈ ρr, p ∈ ρ ∨ ∃ P, (p.1, VE (.ref P)) ∈ ρ ∧ ∀ h, J h → p.2.p h (.ref P)) (ht : PT W env ρr test true) : PXJ W env Ps (.Assert test msg pos) ρ J ρ J := fun g0 A Mu s Q E hP I hJ k =>
  wpAny_Assert_holds (ht A _ s _ _ (I.reveal hP sb hJ hre).inv fun h' tk k' => ⟨rfl, k h' tk (fun b o _ _ e => k' b o e) (I.mono k') (sb _ _ (fun a _ o e => k' a o e) hJ)⟩)
theorem PRJ.ifT {test : Expr} {body orelse sts : List Stmt} {pos : Pos} (sb : Stb Ps J) (ρr : Rho) (hre : ∀ p ∈ ρr, p ∈ ρ ∨ ∃ P, (p.1, VE (.ref P)) ∈ ρ ∧ ∀ h, J h → p.2.p h (.ref P)) (ht : PT W env ρr test true) (h : PRJ g0 W env Ps body ρ J V) : PRJ g0 W env Ps (.If test body orelse pos :: sts) ρ J V := fun A Mu s Q E hP I hJ k =>
  wpAny_execs_cons (wpAny_If (ht A _ s _ _ (I.reveal hP sb hJ hre).inv fun h₁ tk₁ k₁ => h A Mu { s with heap := h₁, toks := tk₁ } _ _ hP (I.mono k₁) (sb _ _ (fun a _ o e => k₁ a o e) hJ) fun v h₂ tk₂ k₂ x r p => k v h₂ tk₂ (fun b o hb hn e => k₂ b o hb hn (k₁ b o e)) x r p))
theorem PRJ.ifF {test : Expr} {body orelse sts : List Stmt} {pos : Pos} (sb : Stb Ps J) (ρr : Rho) (hre : ∀ p ∈ ρr, p ∈ ρ ∨ ∃ P, (p.1, VE (.ref P)) ∈ ρ ∧ ∀ h, J h → p.2.p h (.ref P)) (ht : PT W env ρr test false) (h : PRJ g0 W env Ps orelse ρ J V) : PRJ g0 W env Ps (.If test body orelse pos :: sts) ρ J V := fun A Mu s Q E hP I hJ k =>
  wpAny_execs_cons (wpAny_If (ht A _ s _ _ (I.reveal hP sb hJ hre).inv fun h₁ tk₁ k₁ => h A Mu { s with heap := h₁, toks := tk₁ } _ _ hP (I.mono k₁) (sb _ _ (fun a _ o e => k₁ a o e) hJ) fun v h₂ tk₂ k₂ x r p => k v h₂ tk₂ (fun b o hb hn e => k₂ b o hb hn (k₁ b o e)) x r p))
end
/-- del ws[i] -/
theorem PXJ.del {P : Addr} {l : List VP} {n : Str} {np spos pos : Pos} {ie : Expr} {i : Int} {k : Nat} (hf : ∀ V ∈ l, Flt V) (hl : l.length ≤ 1000) (hn : PE W env ρ (.Name n np) (VE (.ref P))) (hi : PE W env ρ ie (VI i)) (hfit : Builtin.List.listFitsIndex i = true) (hk : seqIndex? i l.length = some k) :
    PXJ W env [P] (.Delete [.Subscript (.Name n np) ie spos] pos) ρ (LJ P l) ρ (LJ P (l.eraseIdx k)) := fun g0 A Mu s Q E hP I hJ kk => by
  refine wpAny_Delete (wpAny_deleteEach_cons (wpAny_delete_Subscript (hn A Mu s _ _ I.inv fun v h₁ tk₁ k₁ p₁ => ?_)))
  cases p₁
  refine hi A Mu { s with heap := h₁, toks := tk₁ } _ _ (I.mono k₁).inv fun v h₂ tk₂ k₂ p₂ => ?_
  obtain ⟨t, rfl⟩ := p₂
  have I₂ := (I.mono k₁).mono k₂
  obtain ⟨its, ⟨m, hpl⟩, hv⟩ := LJ.stb hf _ _ (fun a _ o e => k₂ _ _ (k₁ a o e)) hJ
  have hlen := hv.length
  refine wpAny_delItem_plain (s := { s with heap := h₂, toks := tk₂ }) (items := its.toArray) ⟨m, hpl⟩ hfit (k := k) (by rw [List.size_toArray, hlen]; exact hk) (fun h₃ hp₃ hs₃ => ?_) (by rw [List.size_toArray, hlen]; exact Nat.le_trans hl (by decide))
  refine wpAny_deleteEach_nil ?_
  have kp : ∀ b o, b ∉ [P] → h₂.get? b = some o → h₃.get? b = some o := fun b o hb e => hs₃.extBut b o (fun q => hb (q ▸ .head _)) e
  have I₃ : FInv W g0 A env Mu ρ h₃ := I₂.off (Ch := [P]) kp fun a ha => ⟨(hP a ha).1, (hP a ha).2, by cases List.mem_singleton.mp ha; obtain ⟨_, e⟩ := hp₃; exact ⟨_, e⟩⟩
  refine kk h₃ tk₂ (fun b o hb hn e => kp b o hn (k₂ _ _ (k₁ _ _ e))) I₃ ⟨its.eraseIdx k, by simpa using hp₃, (VsP.erase k hv).flat fun V hV => hf V (List.mem_of_mem_eraseIdx hV)⟩
/-- y = x.split(sp), a list that is to change -/
theorem split_new {A : Around} {s : Shared} {x y : Str} {t t' : Tok} {Q E : Value → Shared → Prop} (hy : (y.length == 0) = false) (hsz : x.length ≤ 1000000)
    (k : ∀ (l : List (Str × Tok)) (tk : Nat), l.map (·.1) = Txt.split x y → Q (.ref s.heap.objs.size) { s with heap := s.heap.push { cls := .type "list", data := .seq (strValues l).toArray }, toks := tk }) : wpAny (model PG W.w) A (call (.builtin "str.split") [.str x t, .str y t']) Q E s := by
  have hn : (Builtin.Str.partsBetween x (Builtin.Str.occurrences x y 0 x.length (x.length + 1)) y.length).length ≤ sizeLine := by
    have e1 := StrLaws.occ_length_le x y 0 x.length (x.length + 1)
    have : (1000000 : Nat) + 10 ≤ sizeLine := by decide
    rw [length_partsBetween]; omega
  have hl : x.length + 1 ≤ sizeLine := by
    have : (1000000 : Nat) + 10 ≤ sizeLine := by decide
    omega
  cases h1 : (decide (x.length < y.length) || decide (Builtin.Str.strKind x < Builtin.Str.strKind y))
  · cases hf : (Builtin.Str.occurrences x y 0 x.length (x.length + 1)).isEmpty
    · refine call_meets F.slot_str_split (typeIs_str _ _ _) F.entry_str_split (F.args_str_split_2 _ _) (meets_str_split_sep x y t t' h1 hy hf (by omega) hn) ?_
      show wants Q E _ { s with toks := _, heap := s.heap.push { cls := .type "list", data := .seq (strsFrom s.toks (Builtin.Str.partsBetween x (Builtin.Str.occurrences x y 0 x.length (x.length + 1)) y.length)).toArray } }
      rw [strsFrom_eq]
      refine k (numbered s.toks _) _ ((numbered_texts _ _).trans ?_)
      unfold Txt.split
      rw [if_neg (ne_true_of_eq_false h1), if_neg (ne_true_of_eq_false hf)]
    · refine call_meets F.slot_str_split (typeIs_str _ _ _) F.entry_str_split (F.args_str_split_2 _ _) (meets_str_split_not_found x y t t' h1 hy hf) (k [(x, t)] s.toks ?_)
      unfold Txt.split
      rw [if_neg (ne_true_of_eq_false h1), if_pos hf]; rfl
  · refine call_meets F.slot_str_split (typeIs_str _ _ _) F.entry_str_split (F.args_str_split_2 _ _) (meets_str_split_cannot_occur x y t t' h1) (k [(x, t)] s.toks ?_)
    unfold Txt.split
    rw [if_pos h1]; rfl
end
end Mine
-- Rb
namespace Mine
section
variable {W : Wd} {env : Env} {ρ ρ' : Rho} {g0 : Heap} {V : VP}
theorem PRa.newSplit {y : Str} {py apos pos cpos : Pos} {o e : Expr} {x sp : Str} {sts : List Stmt} (ho : PE W env ρ o (VS x)) (he0 : PE W env ρ e (VS sp)) (hsp : (sp.length == 0) = false) (hsz : x.length ≤ 1000000) (hk : Kd env y) (hf : ∀ p ∈ ρ', p.1 ≠ y ∧ p ∈ ρ)
    (h : ∀ P, 123 < P → PRJ g0 W env [P] sts ((y, VE (.ref P)) :: ρ') (LJ P ((Txt.split x sp).map VS)) V)
    (hs : swapsWith (.Call (.Attribute o (Str.ofString "split") apos) [e] [] pos) (some (.Name y py)) cpos.line env = pure false := by rfl)
    (hbase : attributeBase o (Str.ofString "split") env (eval o env) = eval o env := by rfl)
    (hfew : ((backTo pos (starEach [e] env)).all (fun x => !x.1) && (backToKw pos (keywordEach [] env)).all (fun x => x.1.isSome) && decide (([e] : List Expr).length + ([] : List Keyword).length + (if ([] : List Keyword).isEmpty then 0 else 1) < 30)) = true := by rfl)
    (hline : (apos.endLine == pos.line) = true := by rfl) (he : starEach [e] env = (false, eval e env) :: starEach [] env := by rfl) (hp : (backTo pos (starEach [] env)).any (·.1) = false := by rfl) :
    PRa g0 W env (.Assign [.Name y py] (.Call (.Attribute o (Str.ofString "split") apos) [e] [] pos) cpos :: sts) ρ V := by
  intro A Mu s Q E I k
  refine wpAny_execs_cons (wpAny_Assign_Name (wpAny_Call_method_lateS hbase hfew hline (ho A Mu s _ _ I.inv fun v h₁ tk₁ k₁ p₁ => ?_)) hs)
  obtain ⟨t, rfl⟩ := p₁
  refine ⟨"str", "str.split", F.plainAttrs_str, F.slot_str_split, F.type_str_split, typeIs_str _ _ _, fun a e => (by cases e), PyProof.Rows.callWith_method1 (args_cons (he0 A Mu { s with heap := h₁, toks := tk₁ } _ _ (I.mono k₁).inv fun v h₂ tk₂ k₂ p₂ => args_nil ?_) he) he hp⟩
  obtain ⟨t', rfl⟩ := p₂
  refine split_new (s := { s with heap := h₂, toks := tk₂ }) hsp hsz fun l tk el => ?_
  have I₂ := (I.mono k₁).mono k₂
  have hg := Heap.get?_push_size h₂ (show ({ cls := .type "list", data := .seq (strValues l).toArray } : Obj).isFreed = false from rfl)
  have hn : h₂.get? h₂.objs.size = none := stays_refl.fresh
  have hbig : 123 < h₂.objs.size := by
    have : ∃ o, (KF W.w.params).lookup 123 = some o := ⟨_, by with_unfolding_all rfl⟩
    obtain ⟨o, ho⟩ := this
    exact Heap.lt_size (I₂.keep _ _ (I.S.X _ _ ho))
  have I₃ : FInv W g0 A env (h₂.objs.size :: Mu) ρ (h₂.push { cls := .type "list", data := .seq (strValues l).toArray }) := I₂.more (stays_push _) (fun a ha => (List.mem_cons.mp ha).elim (fun q => .inr (q ▸ ⟨hn, _, hg⟩)) .inl) fun a ha => .tail _ ha
  have hO : ¬ Own W env h₂.objs.size := I₂.pin hn
  refine I₃.store (s := { s with heap := h₂.push { cls := .type "list", data := .seq (strValues l).toArray }, toks := tk }) (ρ' := (y, VE (.ref h₂.objs.size)) :: ρ') (V := VE (.ref h₂.objs.size)) hk rfl (fun p hp => (List.mem_cons.mp hp).elim .inl fun q => .inr ⟨(hf p q).2, (hf p q).1⟩) fun h₄ tk₄ k₄ I₄ => ?_
  refine h h₂.objs.size hbig A _ { s with heap := h₄, toks := tk₄ } _ _ (fun a ha => ?_) I₄ ⟨strValues l, ⟨0, k₄ _ _ hO hg⟩, el ▸ vs_ofStrs l⟩ fun v h₅ tk₅ k₅ x₅ r₅ p₅ => ?_
  · cases List.mem_singleton.mp ha; exact ⟨.head _, hO⟩
  exact k v h₅ tk₅ (fun b o hb e => k₅ b o hb (fun q => by
    cases List.mem_singleton.mp q
    have := k₂ _ _ (k₁ _ _ e)
    rw [hn] at this; cases this) (k₄ b o hb (stays_push _ _ _ (k₂ _ _ (k₁ _ _ e))))) r₅ p₅
/-- a for that may return in a turn -/
theorem PRa.forRet {x : Str} {px pos : Pos} {iter : Expr} {body sts : List Stmt} {U0 : VP} {n m : Nat} {U : Nat → VP} (R : Nat → Rho) (hi : PE W env ρ iter U0) (hw : WSrc W U0 n U) (hk : Kd env x) (h0 : ∀ p ∈ R 0, p ∈ ρ) (hx : ∀ i, ∀ p ∈ R i, p.1 ≠ x)
    (hm : m ≤ n) (hb : ∀ i, i < m → PS W env body ((x, U i) :: R i) (R (i + 1))) (hret : m < n → PRa g0 W env body ((x, U m) :: R m) V) (hend : m = n → PRa g0 W env sts (R n) V)
    (hs : ∀ x, foldedSetIterable iter env x = pure x := by intro _; rfl) : PRa g0 W env (.For (.Name x px) iter body [] pos :: sts) ρ V := by
  intro A Mu s Q E I kk
  refine wpAny_execs_cons (wpAny_For (hi A Mu s _ _ I.inv fun v h₁ tk₁ k₁ p₁ => ?_) hs)
  have I₁ := I.mono k₁
  refine hw A Mu { s with heap := h₁, toks := tk₁ } v _ _ I₁.inv.ct I₁.inv.mu p₁ fun it h₂ tk₂ fp wr P St k₂ hwr hfp hSt Wk there hP => ?_
  have pin : ∀ a ∈ wr, ¬ Own W env a := fun a ha => I₁.pin (hwr a ha).1
  have pinf : ∀ a ∈ fp, ¬ Own W env a := fun a ha q => (hfp a ha).1 (I₁.ownM q)
  have nwr : ∀ b o, h₁.get? b = some o → b ∉ wr := fun b o e q => by rw [show h₁.get? b = none from (hwr b q).1] at e; cases e
  have I₂ : FInv W g0 A env (wr ++ Mu) (R 0) h₂ := (I₁.more k₂ (fun a ha => (List.mem_append.mp ha).elim (fun q => .inr (hwr a q)) .inl) fun a ha => List.mem_append_right _ ha).sub h0
  have hb₂ : (hideAll h₁ Mu).StaysIn (hideAll h₂ (wr ++ Mu)) := hid_new (fun b o _ e => k₂ b o e) fun a ha => (List.mem_append.mp ha).elim (fun q => .inr (hwr a q).1) .inl
  refine forLoop_gen (fun c s' => ∃ h' tk i, s' = { s with heap := h', toks := tk } ∧ i ≤ m ∧ c = n + 1 - i ∧ St i h' ∧ FInv W g0 A env (wr ++ Mu) (R i) h' ∧ (∀ b o, ¬ Own W env b → b ∉ wr → h₁.get? b = some o → h'.get? b = some o) ∧ (hideAll h₁ Mu).StaysIn (hideAll h' (wr ++ Mu))) ?_ (n + 1)
    ⟨h₂, tk₂, 0, rfl, Nat.zero_le _, rfl, hSt, I₂, fun b o _ _ e => k₂ b o e, hb₂⟩
  rintro c s' ⟨h', tk, i, rfl, hi', rfl, hS, Iv, hk', hb'⟩
  by_cases hlt : i < n
  · refine Wk.item i _ _ _ hlt hS fun v h₃ tk₃ hv hS₃ hk₃ => ?_
    show wpAny _ A (pure ()) _ _ _
    refine wpAny_pure (wpAny_assign_Name ?_)
    have I₃ : FInv W g0 A env (wr ++ Mu) (R i) h₃ := Iv.off (Ch := wr) hk₃ fun a ha => ⟨List.mem_append_left _ ha, pin a ha, there _ _ hS₃ a (Wk.sub _ ha)⟩
    have hb₃ : (hideAll h₁ Mu).StaysIn (hideAll h₃ (wr ++ Mu)) := stays_trans hb' (hid_mono fun b o hb e => hk₃ b o (fun q => hb (List.mem_append_left _ q)) e)
    refine I₃.store (s := { s with heap := h₃, toks := tk₃ }) (V := U i) (ρ' := (x, U i) :: R i) hk ((U i).mono hb₃ (hP i v hlt hv)) (fun p hp => (List.mem_cons.mp hp).elim .inl fun q => .inr ⟨q, hx i p q⟩) fun h₄ tk₄ k₄ I₄ => ?_
    have e4 : ∀ b o, ¬ Own W env b → h₁.get? b = some o → h₄.get? b = some o := fun b o hb e => k₄ b o hb (hk₃ b o (nwr b o e) (hk' b o hb (nwr b o e) e))
    by_cases him : i < m
    · refine hb i him g0 A _ { s with heap := h₄, toks := tk₄ } _ _ I₄ fun h₅ tk₅ k₅ I₅ => ?_
      have off5 : ∀ b o, ¬ Own W env b → h₃.get? b = some o → h₅.get? b = some o := fun b o hb e => k₅ b o hb (k₄ b o hb e)
      exact ⟨n + 1 - (i + 1), by omega, h₅, tk₅, i + 1, rfl, him, rfl, Wk.frame _ _ _ hS₃ fun a ha o e => off5 a o (pinf a ha) e, I₅, fun b o hb hw' e => off5 b o hb (hk₃ b o hw' (hk' b o hb hw' e)), stays_trans hb₃ (hid_mono fun b o hb e => off5 b o (fun q => hb (I₃.ownM q)) e)⟩
    · obtain rfl : i = m := Nat.le_antisymm hi' (Nat.not_lt.mp him)
      exact hret hlt A _ { s with heap := h₄, toks := tk₄ } _ _ I₄ fun v h₅ tk₅ k₅ r₅ p₅ => kk v h₅ tk₅ (fun b o hb e => k₅ b o hb (e4 b o hb (k₁ _ _ e))) r₅ p₅
  · have e1 : i = n := by omega
    have e2 : m = n := by omega
    subst e1
    refine Wk.done _ _ _ hS fun h₃ tk₃ hk₃ => wpAny_execs_nil ?_
    refine hend e2 A _ { s with heap := h₃, toks := tk₃ } _ _ (Iv.drop (Ch := wr) hk₃ (fun a ha => ⟨List.mem_append_left _ ha, pin a ha⟩) (fun a ha => ⟨List.mem_append_right _ ha, fun q => ?_⟩) I.ownM) fun v h₅ tk₅ k₅ r₅ p₅ => kk v h₅ tk₅ (fun b o hb e => k₅ b o hb (hk₃ b o (nwr b o (k₁ _ _ e)) (hk' b o hb (nwr b o (k₁ _ _ e)) (k₁ _ _ e)))) r₅ p₅
    obtain ⟨_, o, e⟩ := I₁.mu a ha
    exact nwr a o e q
end
end Mine
-- Rc
namespace Mine
theorem PRa.iff {W : Wd} {env : Env} {ρ : Rho} {g0 : Heap} {test : Expr} {body sts : List Stmt} {pos : Pos} {b : Bool} {V : VP} (ht : PT W env ρ test b) (h1 : b = true → PRa g0 W env body ρ V) (h2 : b = false → PRa g0 W env sts ρ V) : PRa g0 W env (.If test body [] pos :: sts) ρ V := fun A Mu s Q E I k =>
  wpAny_execs_cons (wpAny_If (ht A Mu s _ _ I.inv fun h₁ tk₁ k₁ => by
    cases b with
    | true => exact h1 rfl A Mu { s with heap := h₁, toks := tk₁ } _ _ (I.mono k₁) fun v h₂ tk₂ k₂ r₂ p₂ => k v h₂ tk₂ (fun b o hb e => k₂ b o hb (k₁ b o e)) r₂ p₂
    | false => exact wpAny_execs_nil (h2 rfl A Mu { s with heap := h₁, toks := tk₁ } Q E (I.mono k₁) fun v h₂ tk₂ k₂ r₂ p₂ => k v h₂ tk₂ (fun b o hb e => k₂ b o hb (k₁ b o e)) r₂ p₂)))
noncomputable def emD : { t // PG.theDef (Str.ofString "_ellipsis_match") = some t } := ⟨_, by with_unfolding_all rfl⟩
noncomputable abbrev emEnv (L : Addr) : Env := defEnv (nm "_ellipsis_match") emD.1.2.2 L 65 (.ref 64)
theorem em_fn (P : Params) : ∃ oc od osl doc pm an ct name, (KF P).lookup 65 = some ⟨oc, od, .func (fnOf name (nm "_ellipsis_match") emD.1.1 emD.1.2.1 emD.1.2.2 .none .none doc pm an (.ref 64) ct), osl⟩ := ⟨_, _, _, _, _, _, _, _, (by with_unfolding_all rfl : (KF P).lookup 65 = some (fnO _ _ _ _)).trans (congrArg some (fn_eq emD.2))⟩
theorem em_code (P : Params) : codeIn (KF P) (.ref 64) (nm "_ellipsis_match") = true := by kernel_rfl
theorem g_mark (P : Params) : nsIn (KF P) mainGlobals (nm "ELLIPSIS_MARKER") = some (some (.str DOTS 256)) := by kernel_rfl
/-- where the first turn stops that does not find its part -/
noncomputable def stF (got : Str) (e : Int) (ps : List Str) (s : Int) : Nat → Int
  | 0 => s
  | i + 1 => find4 got (ps.getD i NO) (stF got e ps s i) e + ((ps.getD i NO).length : Nat)
theorem stF_cons (got : Str) (e : Int) (p : Str) (ps : List Str) (s : Int) : ∀ i, stF got e (p :: ps) s (i + 1) = stF got e ps (find4 got p s e + (p.length : Nat)) i
  | 0 => rfl
  | i + 1 => by rw [stF, stF_cons got e p ps s i]; rfl
theorem loop_cases (got : Str) (e : Int) : ∀ (ps : List Str) (s : Int), (loopF got e ps s = true ∧ ∀ i, i < ps.length → ¬ find4 got (ps.getD i NO) (stF got e ps s i) e < 0) ∨
    (loopF got e ps s = false ∧ ∃ m, m < ps.length ∧ (∀ i, i < m → ¬ find4 got (ps.getD i NO) (stF got e ps s i) e < 0) ∧ find4 got (ps.getD m NO) (stF got e ps s m) e < 0)
  | [], s => .inl ⟨rfl, fun i hi => by cases hi⟩
  | p :: ps, s => by
    by_cases h : find4 got p s e < 0
    · exact .inr ⟨loop_stop h, 0, Nat.succ_pos _, fun i hi => (by cases hi), h⟩
    · rcases loop_cases got e ps (find4 got p s e + (p.length : Nat)) with ⟨a, b⟩ | ⟨a, m, hm, b, c⟩
      · refine .inl ⟨(loop_go h).trans a, fun i hi => ?_⟩
        cases i with
        | zero => exact h
        | succ i => rw [stF_cons]; exact b i (Nat.lt_of_succ_lt_succ hi)
      · refine .inr ⟨(loop_go h).trans a, m + 1, Nat.succ_lt_succ hm, fun i hi => ?_, by rw [stF_cons]; exact c⟩
        cases i with
        | zero => exact h
        | succ i => rw [stF_cons]; exact b i (Nat.lt_of_succ_lt_succ hi)
section
variable {W : Wd} {L : Addr} {g0 : Heap} {want got : Str} {ps : List Str} {s e : Int}
noncomputable abbrev emR0 (want got : Str) : Rho := [(nm "want", VS want), (nm "got", VS got)]
noncomputable abbrev emR2 (got : Str) (ps : List Str) (s e : Int) : Rho := [(nm "startpos", VI s), (nm "endpos", VI e), (nm "ws", VL (ps.map VS)), (nm "got", VS got)]
/-- the loop and what stands behind it -/
theorem em_tail (hl : ∀ i, i < ps.length → (ps.getD i NO).length ≤ 1000) : PRa g0 W (emEnv L) (emD.1.2.1.drop 9) (emR2 got ps s e) (VB (loopF got e ps s)) := by
  have hR : ∀ i, ∀ p ∈ emR2 got ps (stF got e ps s i) e, p.1 ≠ nm "w" := fun i p hp => by
    have : ((emR2 got ps (stF got e ps s i) e).all fun p => !(p.1 == nm "w")) = true := by kernel_rfl
    simpa using List.all_eq_true.mp this p hp
  have hv : ∀ i, i < ps.length → vAt (ps.map VS) i = VS (ps.getD i NO) := fun i hi => vAt_of (by rw [List.getElem?_map, List.getD_eq_getElem?_getD, List.getElem?_eq_getElem hi]; rfl)
  have key : ∀ m b, m ≤ ps.length → (∀ i, i < m → ¬ find4 got (ps.getD i NO) (stF got e ps s i) e < 0) → (m < ps.length → find4 got (ps.getD m NO) (stF got e ps s m) e < 0 ∧ b = false) → (m = ps.length → b = true) → PRa g0 W (emEnv L) (emD.1.2.1.drop 9) (emR2 got ps s e) (VB b) := fun m b hm ok stop fin => by
    refine PRa.forRet (n := (ps.map VS).length) (m := m) (fun i => emR2 got ps (stF got e ps s i) e) (PE.nm 2 rfl) WSrc.list (.inl (by kernel_rfl)) (fun _ h => h) hR (by rw [List.length_map]; exact hm) (fun i hi => ?_) (fun h => ?_) (fun h => ?_)
    · rw [hv i (by omega)]
      refine PS.cons (ρ' := (nm "startpos", VI (find4 got (ps.getD i NO) (stF got e ps s i) e)) :: (nm "w", VS (ps.getD i NO)) :: (emR2 got ps s e).drop 1) (PX.assign (PE.method tyS F.plainAttrs_str F.slot_str_find F.type_str_find (PE.nm 4 rfl) (PA.cons (PE.nm 0 rfl) (PA.cons (PE.nm 1 rfl) (PA.cons (PE.nm 2 rfl) PA.nil))) FC.find4) (.inl (by kernel_rfl)) (up [0, 2, 3, 4] rfl (by kernel_rfl)) (by kernel_rfl)) ?_
      refine PS.cons (PX.ite (b := false) (PT.of (PT.cmp F2.ltI (PE.nm 0 rfl) PE.int) (decide_eq_false (ok i hi))) (fun h => by cases h) (fun _ => PS.nil)) ?_
      exact PS.cons (PX.weak (PX.aug (List.mem_of_getElem? (i := 0) rfl) (by kernel_rfl) (PE.callb (PE.builtin (by kernel_rfl) (g_len _) b_len (by decide)) (PA.cons (PE.nm 1 rfl) PA.nil) (FC.lenS (hl i (by omega)))) F2.iadd (up [2, 3, 4] rfl (by kernel_rfl))) (fun _ h => h)) PS.nil
    · rw [List.length_map] at h
      rw [hv m h]
      obtain ⟨h1, rfl⟩ := stop h
      refine PRa.cons (ρ' := (nm "startpos", VI (find4 got (ps.getD m NO) (stF got e ps s m) e)) :: (nm "w", VS (ps.getD m NO)) :: (emR2 got ps s e).drop 1) (PX.assign (PE.method tyS F.plainAttrs_str F.slot_str_find F.type_str_find (PE.nm 4 rfl) (PA.cons (PE.nm 0 rfl) (PA.cons (PE.nm 1 rfl) (PA.cons (PE.nm 2 rfl) PA.nil))) FC.find4) (.inl (by kernel_rfl)) (up [0, 2, 3, 4] rfl (by kernel_rfl)) (by kernel_rfl)) ?_
      exact PRa.iff (b := true) (PT.of (PT.cmp F2.ltI (PE.nm 0 rfl) PE.int) (decide_eq_true h1)) (fun _ => PRa.ret PE.bool fun _ _ h => h) (fun h => by cases h)
    · rw [fin (by rw [List.length_map] at h; exact h)]
      exact PRa.ret PE.bool fun _ _ h => h
  rcases loop_cases got e ps s with ⟨a, b⟩ | ⟨a, m, hm, b, c⟩
  · exact key ps.length _ (Nat.le_refl _) b (fun h => absurd h (Nat.lt_irrefl _)) fun _ => a
  · exact key m _ (Nat.le_of_lt hm) b (fun _ => ⟨c, a⟩) fun h => absurd hm (by omega)
theorem em_A (hin : (Builtin.Str.occurrences want DOTS 0 want.length 1).isEmpty = true) : PRa g0 W (emEnv L) emD.1.2.1 (emR0 want got) (VB (want == got)) :=
  PRa.iff (b := true) (PT.of (PT.cmp F2.notInS (PE.weak (PE.global (by kernel_rfl) (g_mark _)) (V := VS DOTS) fun _ _ h => ⟨_, h⟩) (PE.nm 0 rfl)) (by rw [hin]; rfl)) (fun _ => PRa.ret (PE.compare F2.eqS (PE.nm 0 rfl) (PE.nm 1 rfl)) fun _ _ h => h) (fun h => by cases h)
variable {V : VP} {P : Addr}
noncomputable abbrev emR (got : Str) (P : Addr) (s e : Int) : Rho := [(nm "ws", VE (.ref P)), (nm "startpos", VI s), (nm "endpos", VI e), (nm "got", VS got)]
noncomputable abbrev emS (got : Str) (ps : List Str) (s e : Int) : Rho := [(nm "ws", VL (ps.map VS)), (nm "startpos", VI s), (nm "endpos", VI e), (nm "got", VS got)]
theorem fl_s {l : List Str} : ∀ V ∈ l.map VS, Flt V := fun V hV => by obtain ⟨x, _, rfl⟩ := List.mem_map.mp hV; exact fun _ _ _ h => h
theorem em_sb : Stb [P] (LJ P (ps.map VS)) := LJ.stb fl_s
theorem em_re : ∀ p ∈ emS got ps s e, p ∈ emR got P s e ∨ ∃ P', (p.1, VE (.ref P')) ∈ emR got P s e ∧ ∀ h, LJ P (ps.map VS) h → p.2.p h (.ref P') := fun p hp => by
  rcases List.mem_cons.mp hp with rfl | hp
  · exact .inr ⟨P, .head _, fun h x => x.vl⟩
  · exact .inl (.tail _ hp)
theorem em_keep {w : Str} : ∀ p ∈ (nm "w", VS w) :: emR got P s e, p ∈ (nm "w", VS w) :: emR got P s e ∨ ∃ P', (p.1, VE (.ref P')) ∈ (nm "w", VS w) :: emR got P s e ∧ ∀ h, LJ P (ps.map VS) h → p.2.p h (.ref P') := fun p hp => .inl hp
noncomputable def emL (got : Str) (s e : Int) (ps : List Str) : Bool := !decide (e < s) && loopF got e ps s
noncomputable def emE (got : Str) (s : Int) (l : List Str) (q : Str) : Bool := if q.length = 0 then emL got s (got.length : Nat) (l ++ [q]) else Txt.endswith got q && emL got s ((got.length : Nat) - (q.length : Nat)) l
noncomputable def emF (got p : Str) (l : List Str) (q : Str) : Bool := if p.length = 0 then emE got 0 (p :: l) q else Txt.startswith got p && emE got (p.length : Nat) l q
/-- the test of the two ends, and the loop -/
theorem em_fin (hP : 123 < P) (hl : ∀ p ∈ ps, p.length ≤ 1000) : PRJ g0 W (emEnv L) [P] (emD.1.2.1.drop 8) (emR got P s e) (LJ P (ps.map VS)) (VB (emL got s e ps)) := by
  refine PRJ.reveal (ρ' := emR2 got ps s e) (fun _ _ a ha _ _ => zt_big (by cases List.mem_singleton.mp ha; exact hP)) em_sb (fun p hp => em_re p (sub [1, 2, 0, 3] rfl p hp)) fun _ => ?_
  refine PRa.iff (b := decide (e < s)) (PT.of (PT.cmp F2.gtI (PE.nm 0 rfl) (PE.nm 1 rfl)) rfl) (fun h => PRa.ret PE.bool fun _ _ q => ?_) fun h => ?_
  · unfold emL; rw [h]; exact q
  · unfold emL; rw [h]; exact em_tail fun i hi => hl _ (by rw [List.getD_eq_getElem?_getD, List.getElem?_eq_getElem hi]; exact List.getElem_mem hi)
/-- return False, the list as it is -/
theorem em_false {ρ : Rho} {sts : List Stmt} {k : Nat} {p pos : Pos} (hP : 123 < P) : PRJ g0 W (emEnv L) [P] (.Return (some (.Constant (.bool false) k p)) pos :: sts) ρ (LJ P (ps.map VS)) (VB false) :=
  PRJ.reveal (ρ' := []) (fun _ _ a ha _ _ => zt_big (by cases List.mem_singleton.mp ha; exact hP)) em_sb (fun p hp => by cases hp) fun _ => PRa.ret PE.bool fun _ _ h => h
theorem F2.isub {x y : Int} : F2 W (inplaceOp .Sub) (VI x) (VI y) (VI (x - y)) := by
  rintro A Mu s _ _ Q E ct mu ⟨t, rfl⟩ ⟨u, rfl⟩ k; exact AutoIntOps.isub_0 (k _ s.heap _ stays_refl ⟨_, rfl⟩)
theorem si_k {n k : Nat} (hk : k < n) : seqIndex? (k : Int) n = some k := by
  have h1 : ¬ ((k : Int) < 0) := by omega
  unfold seqIndex?
  simp only [if_neg h1]
  rw [if_pos (by simp; omega)]; rfl
theorem si_neg {n : Nat} : seqIndex? (-1) (n + 1) = some n := by
  have h1 : (-1 : Int) < 0 := by decide
  have e1 : ((-1 : Int) + ((n + 1 : Nat) : Int)) = (n : Nat) := by omega
  unfold seqIndex?
  simp only [if_pos h1, e1]
  rw [if_pos (by simp; omega)]; rfl
theorem PXJ.delE {W : Wd} {env : Env} {ρ : Rho} {P : Addr} {l l' : List VP} {n : Str} {np spos pos : Pos} {ie : Expr} {i : Int} {k : Nat} (hf : ∀ V ∈ l, Flt V) (hl : l.length ≤ 1000) (hn : PE W env ρ (.Name n np) (VE (.ref P))) (hi : PE W env ρ ie (VI i)) (hfit : Builtin.List.listFitsIndex i = true) (hk : seqIndex? i l.length = some k) (he : l.eraseIdx k = l') :
    PXJ W env [P] (.Delete [.Subscript (.Name n np) ie spos] pos) ρ (LJ P l) ρ (LJ P l') := he ▸ PXJ.del hf hl hn hi hfit hk
theorem em_v {q : Str} {pos : Pos} (hq : q.length ≤ 1000) (h0 : q.length ≠ 0) : PT W (emEnv L) ((nm "w", VS q) :: emR got P s e) (.Name (nm "w") pos) true := PT.of (PT.valueS (by omega) (PE.nm 0 rfl)) (bne_iff_ne.mpr fun h => h0 (by omega))
theorem em_z {q : Str} {pos : Pos} (h0 : q.length = 0) : PT W (emEnv L) ((nm "w", VS q) :: emR got P s e) (.Name (nm "w") pos) false := PT.of (PT.valueS (by omega) (PE.nm 0 rfl)) (by rw [h0]; rfl)
theorem em_last {q : Str} {l : List Str} (hP : 123 < P) (hl : ∀ p ∈ l ++ [q], p.length ≤ 1000) (hn : (l ++ [q]).length ≤ 1000) : PRJ g0 W (emEnv L) [P] (emD.1.2.1.drop 6) (emR got P s (got.length : Nat)) (LJ P ((l ++ [q]).map VS)) (VB (emE got s l q)) := by
  have hq : q.length ≤ 1000 := hl q (List.mem_append_right _ (.head _))
  have hm : ((l ++ [q]).map VS).length = l.length + 1 := by rw [List.length_map, List.length_append]; rfl
  refine PRJ.cons (ρ' := (nm "w", VS q) :: emR got P s (got.length : Nat)) (PXJ.assignR em_sb (emS got (l ++ [q]) s (got.length : Nat)) em_re (PE.sub (F2.itemLneg (k := -1) (V := VS q) (by decide) (by rw [hm]; omega) (by decide) ?_) (PE.nm 0 rfl) (PE.neg (x := 1) PE.int)) (fun _ _ _ h => h) (.inl (by kernel_rfl)) (up [0, 1, 2, 3] rfl (by kernel_rfl)) (by kernel_rfl)) ?_
  · rw [hm, show ((-1 : Int) + ((l.length + 1 : Nat) : Int)).toNat = l.length by omega, List.map_append, List.getElem?_append_right (by rw [List.length_map]; exact Nat.le_refl _), List.length_map, Nat.sub_self]; rfl
  unfold emE
  by_cases h0 : q.length = 0
  · rw [if_pos h0]
    exact PRJ.cons (ρ' := emR got P s (got.length : Nat)) (PXJ.ite (b := false) em_sb _ em_keep (em_z h0) (fun h => by cases h) fun _ => PSJ.weak PSJ.nil (sub [1, 2, 3, 4] rfl)) (em_fin hP hl)
  · rw [if_neg h0]
    cases hb : Txt.endswith got q
    · exact PRJ.ifT em_sb _ em_keep (em_v hq h0) (PRJ.ifF em_sb _ em_keep (PT.of (PT.value (PE.method tyS F.plainAttrs_str F.slot_str_endswith F.type_str_endswith (PE.nm 4 rfl) (PA.cons (PE.nm 0 rfl) PA.nil) FC.endswith)) hb) (em_false hP))
    · refine PRJ.cons (ρ' := emR got P s ((got.length : Nat) - (q.length : Nat))) (J' := LJ P (l.map VS)) (PXJ.ite (b := true) em_sb _ em_keep (em_v hq h0) (fun _ => ?_) fun h => by cases h) (em_fin hP fun p h => hl p (List.mem_append_left _ h))
      refine PSJ.cons (ρ' := emR got P s ((got.length : Nat) - (q.length : Nat))) (J' := LJ P (l.map VS)) (PXJ.ite (b := true) em_sb _ em_keep (PT.of (PT.value (PE.method tyS F.plainAttrs_str F.slot_str_endswith F.type_str_endswith (PE.nm 4 rfl) (PA.cons (PE.nm 0 rfl) PA.nil) FC.endswith)) hb) (fun _ => ?_) fun h => by cases h) PSJ.nil
      refine PSJ.cons (ρ' := (nm "endpos", VI ((got.length : Nat) - (q.length : Nat))) :: [(nm "ws", VE (.ref P)), (nm "startpos", VI s), (nm "got", VS got)]) (PXJ.of (PX.aug (List.mem_of_getElem? (i := 3) rfl) (by kernel_rfl) (PE.callb (PE.builtin (by kernel_rfl) (g_len _) b_len (by decide)) (PA.cons (PE.nm 0 rfl) PA.nil) (FC.lenS hq)) F2.isub (up [1, 2, 4] rfl (by kernel_rfl))) em_sb) ?_
      exact PSJ.weak (PSJ.cons (PXJ.delE (l := (l ++ [q]).map VS) (k := l.length) fl_s (by rw [List.length_map]; exact hn) (PE.nm 1 rfl) (PE.neg (x := 1) PE.int) (by decide) (by rw [hm]; exact si_neg) (by rw [List.map_append, ← List.length_map (f := VS), List.eraseIdx_append_of_length_le (Nat.le_refl _), Nat.sub_self]; exact List.append_nil _)) PSJ.nil) (sub [1, 2, 0, 3] rfl)
theorem em_first {p q : Str} {l : List Str} (hP : 123 < P) (hl : ∀ x ∈ p :: (l ++ [q]), x.length ≤ 1000) (hn : (p :: (l ++ [q])).length ≤ 1000) : PRJ g0 W (emEnv L) [P] (emD.1.2.1.drop 4) (emR got P 0 (got.length : Nat)) (LJ P ((p :: (l ++ [q])).map VS)) (VB (emF got p l q)) := by
  have hq : p.length ≤ 1000 := hl p (.head _)
  refine PRJ.cons (ρ' := (nm "w", VS p) :: emR got P 0 (got.length : Nat)) (PXJ.assignR em_sb (emS got (p :: (l ++ [q])) 0 (got.length : Nat)) em_re (PE.sub (F2.itemL (k := 0) (V := VS p) (by decide) (by decide) rfl) (PE.nm 0 rfl) PE.int) (fun _ _ _ h => h) (.inl (by kernel_rfl)) (up [0, 1, 2, 3] rfl (by kernel_rfl)) (by kernel_rfl)) ?_
  unfold emF
  by_cases h0 : p.length = 0
  · rw [if_pos h0]
    exact PRJ.cons (ρ' := emR got P 0 (got.length : Nat)) (PXJ.ite (b := false) em_sb _ em_keep (em_z h0) (fun h => by cases h) fun _ => PSJ.weak PSJ.nil (sub [1, 2, 3, 4] rfl)) (em_last (l := p :: l) hP hl hn)
  · rw [if_neg h0]
    cases hb : Txt.startswith got p
    · exact PRJ.ifT em_sb _ em_keep (em_v hq h0) (PRJ.ifF em_sb _ em_keep (PT.of (PT.value (PE.method tyS F.plainAttrs_str F.slot_str_startswith F.type_str_startswith (PE.nm 4 rfl) (PA.cons (PE.nm 0 rfl) PA.nil) FC.startswith)) hb) (em_false hP))
    · refine PRJ.cons (ρ' := emR got P (p.length : Nat) (got.length : Nat)) (J' := LJ P ((l ++ [q]).map VS)) (PXJ.ite (b := true) em_sb _ em_keep (em_v hq h0) (fun _ => ?_) fun h => by cases h) (em_last hP (fun x h => hl x (.tail _ h)) (Nat.le_of_succ_le hn))
      refine PSJ.cons (ρ' := emR got P (p.length : Nat) (got.length : Nat)) (J' := LJ P ((l ++ [q]).map VS)) (PXJ.ite (b := true) em_sb _ em_keep (PT.of (PT.value (PE.method tyS F.plainAttrs_str F.slot_str_startswith F.type_str_startswith (PE.nm 4 rfl) (PA.cons (PE.nm 0 rfl) PA.nil) FC.startswith)) hb) (fun _ => ?_) fun h => by cases h) PSJ.nil
      refine PSJ.cons (ρ' := (nm "startpos", VI (p.length : Nat)) :: [(nm "ws", VE (.ref P)), (nm "endpos", VI (got.length : Nat)), (nm "got", VS got)]) (PXJ.of (PX.assign (PE.callb (PE.builtin (by kernel_rfl) (g_len _) b_len (by decide)) (PA.cons (PE.nm 0 rfl) PA.nil) (FC.lenS hq)) (.inl (by kernel_rfl)) (up [1, 3, 4] rfl (by kernel_rfl)) (by kernel_rfl)) em_sb) ?_
      exact PSJ.weak (PSJ.cons (PXJ.delE (l := (p :: (l ++ [q])).map VS) (k := 0) fl_s (by rw [List.length_map]; exact hn) (PE.nm 1 rfl) (PE.int (i := 0)) (by decide) (si_k (k := 0) (Nat.succ_pos _)) rfl) PSJ.nil) (sub [1, 0, 2, 3] rfl)
theorem em_body {p q : Str} {l : List Str} (hin : (Builtin.Str.occurrences want DOTS 0 want.length 1).isEmpty = false) (hs : Txt.split want DOTS = p :: (l ++ [q])) (hl : ∀ x ∈ p :: (l ++ [q]), x.length ≤ 1000) (hn : (p :: (l ++ [q])).length ≤ 1000) (hw : want.length ≤ 1000000) (hg : got.length ≤ 1000) : PRa g0 W (emEnv L) emD.1.2.1 (emR0 want got) (VB (emF got p l q)) := by
  refine PRa.iff (b := false) (PT.of (PT.cmp F2.notInS (PE.weak (PE.global (by kernel_rfl) (g_mark _)) (V := VS DOTS) fun _ _ h => ⟨_, h⟩) (PE.nm 0 rfl)) (by rw [hin]; rfl)) (fun h => by cases h) fun _ => ?_
  refine PRa.newSplit (ρ' := [(nm "got", VS got)]) (PE.nm 0 rfl) (PE.weak (PE.global (by kernel_rfl) (g_mark _)) (V := VS DOTS) fun _ _ h => ⟨_, h⟩) (by kernel_rfl) hw (.inl (by kernel_rfl)) (fun p hp => ?_) fun P hP => ?_
  · cases List.mem_singleton.mp hp; exact ⟨show nm "got" ≠ nm "ws" by decide, .tail _ (.head _)⟩
  rw [hs]
  refine PRJ.cons (PXJ.assertR em_sb [(nm "ws", VL ((p :: (l ++ [q])).map VS))] (fun p hp => ?_) (PT.of (PT.cmp F2.geI (PE.callb (PE.builtin (by kernel_rfl) (g_len _) b_len (by decide)) (PA.cons (PE.nm 0 rfl) PA.nil) (FC.len (by rw [List.length_map]; omega))) PE.int) (by rw [List.length_map]; exact decide_eq_true (by simp; omega)))) ?_
  · cases List.mem_singleton.mp hp; exact .inr ⟨P, .head _, fun h x => x.vl⟩
  refine PRJ.cons (PXJ.of (PX.assign2s (ρ' := [(nm "startpos", VI 0), (nm "endpos", VI got.length), (nm "ws", VE (.ref P)), (nm "got", VS got)]) (PE.tuple (PA.cons PE.int (PA.cons (PE.callb (PE.builtin (by kernel_rfl) (g_len _) b_len (by decide)) (PA.cons (PE.nm 1 rfl) PA.nil) (FC.lenS hg)) PA.nil)) (Nat.le_of_ble_eq_true rfl)) (.inl (by kernel_rfl)) (.inl (by kernel_rfl)) (by decide) (up2 [0, 1] rfl (by kernel_rfl)) (by kernel_rfl) (by kernel_rfl)) em_sb) ?_
  exact PRJ.weak (sub [2, 0, 1, 3] rfl) (em_first hP hl hn)
theorem em_of (hlv : 1 ≤ W.lv) {b : Bool} (h : ∀ L g0, PRa g0 W.down (emEnv L) emD.1.2.1 (emR0 want got) (VB b)) : FC W (.ref 65) [VS want, VS got] (VB b) := by
  obtain ⟨oc, od, osl, doc, pm, an, ct, name, ho⟩ := em_fn W.w.params
  refine FC.ofDef (xs := [nm "want", nm "got"]) (V' := fun _ => VB b) hlv ho (em_code _) (fun vs hl => ?_) (by decide) rfl (fun n x hx => .inl ?_) (of_decide_eq_true (by with_unfolding_all rfl)) rfl rfl rfl (fun _ _ _ _ _ h => h) h
  · match vs, hl with
    | [a, b], _ => rfl
  · rcases List.mem_cons.mp hx with rfl | hx
    · kernel_rfl
    · cases List.mem_singleton.mp hx; kernel_rfl
/-- no dots in it -/
theorem FC.em_eq (hlv : 1 ≤ W.lv) (hin : (Builtin.Str.occurrences want DOTS 0 want.length 1).isEmpty = true) : FC W (.ref 65) [VS want, VS got] (VB (want == got)) := em_of hlv fun L g0 => em_A hin
theorem FC.em (hlv : 1 ≤ W.lv) {p q : Str} {l : List Str} (hin : (Builtin.Str.occurrences want DOTS 0 want.length 1).isEmpty = false) (hs : Txt.split want DOTS = p :: (l ++ [q])) (hl : ∀ x ∈ p :: (l ++ [q]), x.length ≤ 1000) (hn : (p :: (l ++ [q])).length ≤ 1000) (hw : want.length ≤ 1000000) (hg : got.length ≤ 1000) : FC W (.ref 65) [VS want, VS got] (VB (emF got p l q)) := em_of hlv fun L g0 => em_body hin hs hl hn hw hg
end
end Mine
-- Sl
namespace Mine
open Builtin Builtin.Str StrLaws
theorem occ_head_to (x y : Str) (lo hi limit : Nat) (hl : 1 ≤ limit) :
    (occurrences x y lo hi limit = [] ∧ ∀ i, lo ≤ i → ¬ At x y hi i) ∨
    ∃ i r, occurrences x y lo hi limit = i :: r ∧ lo ≤ i ∧ At x y hi i ∧ ∀ k, lo ≤ k → k < i → ¬ At x y hi k := by
  rw [occ_eq]
  rcases occ_first x y hi limit hl (List.range' lo (hi + 1 - lo)) lo (fun i hi => by have := List.mem_range'_1.mp hi; omega) with ⟨h0, hn⟩ | ⟨pre, a, post, e, h0, ha, hn⟩
  · refine .inl ⟨by rw [h0], fun i hlo hi' => ?_⟩
    exact hn i (by have := hi'.1; rw [List.mem_range'_1]; omega) hi'
  · have hs := range'_split_from e
    refine .inr ⟨a, ((forIn (List.range' lo (hi + 1 - lo)) ((#[] : Array Nat), lo) (occBody x y hi limit)).run.fst.toList).tail, ?_, hs.1, ha, fun k hk0 hk => hn k (hs.2 k hk0 hk)⟩
    generalize (forIn (List.range' lo (hi + 1 - lo)) ((#[] : Array Nat), lo) (occBody x y hi limit)).run.fst = arr at h0
    have h1 : arr.toList[0]? = some a := by simpa using h0
    cases hL : arr.toList with
    | nil => rw [hL] at h1; cases h1
    | cons b t => rw [hL] at h1; simp at h1; rw [h1]; rfl
theorem from_nat {n i : Nat} : fromIndex n (i : Int) = i := by unfold fromIndex; rw [if_neg (by omega)]; omega
theorem min_nat {n j : Nat} (h : j ≤ n) : min (fromIndex n (j : Int)) n = j := by rw [from_nat]; exact Nat.min_eq_left h
/-- the first place at or behind lo where y stands -/
theorem find_at {x y : Str} {lo hi i : Nat} (hh : hi ≤ x.length) (hlo : lo ≤ i) (ha : At x y hi i) (hn : ∀ k, lo ≤ k → k < i → ¬ At x y hi k) : find4 x y lo hi = i := by
  unfold find4
  rw [from_nat, min_nat hh]
  rcases occ_head_to x y lo hi 1 (Nat.le_refl _) with ⟨_, h⟩ | ⟨j, r, e, h1, h2, h3⟩
  · exact absurd ha (h i hlo)
  · rw [e]
    have : j = i := by
      rcases Nat.lt_trichotomy j i with h | h | h
      · exact absurd h2 (hn j h1 h)
      · exact h
      · exact absurd ha (h3 i hlo h)
    rw [this]
theorem find_no {x y : Str} {lo hi : Nat} (hh : hi ≤ x.length) (hn : ∀ k, lo ≤ k → ¬ At x y hi k) : find4 x y lo hi = -1 := by
  unfold find4
  rw [from_nat, min_nat hh]
  rcases occ_head_to x y lo hi 1 (Nat.le_refl _) with ⟨e, h⟩ | ⟨j, r, e, h1, h2, h3⟩
  · rw [e]
  · exact absurd h2 (hn j h1)
theorem at_no {x : Str} {hi i : Nat} (h : i ≤ hi) : At x NO hi i := by
  rw [no_eq]; refine ⟨h, ?_⟩
  unfold subAt
  show (x.cps.extract i (i + 0) == #[]) = true
  simp
  exact Nat.min_le_left _ _
theorem at_ch {l : List Nat} {a hi i : Nat} : At (tx l) (ch a) hi i ↔ i + 1 ≤ hi ∧ l[i]? = some a := by
  unfold At
  refine and_congr Iff.rfl ?_
  unfold subAt
  show (l.toArray.extract i (i + 1) == #[a]) = true ↔ _
  rw [beq_iff_eq]
  constructor
  · intro e
    have := congrArg (·[0]?) e
    simpa [Array.getElem?_extract] using this
  · intro e
    obtain ⟨h, e⟩ := List.getElem?_eq_some_iff.mp e
    apply Array.ext_getElem?
    intro k
    cases k with
    | zero => simp [Array.getElem?_extract, h, e]
    | succ k => simp [Array.getElem?_extract]; exact Nat.le_trans (Nat.min_le_left _ _) (Nat.le_add_left _ _)
theorem loop_no {x : Str} {r : List Str} {lo hi : Nat} (hh : hi ≤ x.length) (h : lo ≤ hi) : loopF x hi (NO :: r) lo = loopF x hi r lo := by
  rw [loopF, find_at hh (Nat.le_refl lo) (at_no h) (fun k h1 h2 => by omega), if_neg (by omega)]
  congr 1
theorem at_idx {l : List Nat} {a hi i : Nat} (hn : l.Nodup) (hm : a ∈ l) : At (tx l) (ch a) hi i ↔ i + 1 ≤ hi ∧ i = l.idxOf a := by
  rw [at_ch]
  refine and_congr Iff.rfl ?_
  have hj := List.idxOf_lt_length_iff.mpr hm
  constructor
  · intro e
    obtain ⟨h, e⟩ := List.getElem?_eq_some_iff.mp e
    exact (List.getElem_inj hn).mp (e.trans (List.getElem_idxOf hj).symm)
  · rintro rfl
    rw [List.getElem?_eq_getElem hj, List.getElem_idxOf]
theorem loop_ch {l : List Nat} {a : Nat} {r : List Str} {lo : Nat} (hn : l.Nodup) (hm : a ∈ l) : loopF (tx l) (tx l).length (ch a :: r) lo = (decide (lo ≤ l.idxOf a) && loopF (tx l) (tx l).length r (l.idxOf a + 1 : Nat)) := by
  have hj := List.idxOf_lt_length_iff.mpr hm
  rw [loopF]
  by_cases h : lo ≤ l.idxOf a
  · rw [find_at (i := l.idxOf a) (Nat.le_refl _) h ((at_idx hn hm).mpr ⟨hj, rfl⟩) (fun k h1 h2 h3 => by have := ((at_idx hn hm).mp h3).2; omega), if_neg (by omega), decide_eq_true h, Bool.true_and]
    rfl
  · rw [find_no (Nat.le_refl _) (fun k h1 h2 => by have := ((at_idx hn hm).mp h2).2; omega), if_pos (by decide), decide_eq_false h]; rfl
theorem loop_nil {x : Str} {e s : Int} : loopF x e [] s = true := rfl
theorem emG_tx {l : List Nat} {a b : Nat} (hn : l.Nodup) (ha : a ∈ l) (hb : b ∈ l) : emG (ch a) (ch b) (tx l) = decide (l.idxOf a < l.idxOf b) := by
  have hj := List.idxOf_lt_length_iff.mpr hb
  unfold emG
  rw [show (0 : Int) = ((0 : Nat) : Int) from rfl, loop_no (Nat.le_refl _) (Nat.zero_le _), loop_ch hn ha, loop_ch hn hb, loop_no (Nat.le_refl _) (by rw [tx_len]; exact hj), loop_nil]
  simp [Nat.lt_iff_add_one_le]
theorem emH_tx {l : List Nat} {a b c : Nat} (hn : l.Nodup) (ha : a ∈ l) (hb : b ∈ l) (hc : c ∈ l) : loopF (tx l) (tx l).length [NO, ch a, ch b, ch c, NO] 0 = (decide (l.idxOf a < l.idxOf b) && decide (l.idxOf b < l.idxOf c)) := by
  have hj := List.idxOf_lt_length_iff.mpr hc
  rw [show (0 : Int) = ((0 : Nat) : Int) from rfl, loop_no (Nat.le_refl _) (Nat.zero_le _), loop_ch hn ha, loop_ch hn hb, loop_ch hn hc, loop_no (Nat.le_refl _) (by rw [tx_len]; exact hj), loop_nil]
  simp [Nat.lt_iff_add_one_le]
end Mine
-- Rd
namespace Mine
section
variable {W : Wd}
theorem FC.ofDef2 {f : Addr} {oc : Value} {od : Option Addr} {osl : Array (Option Value)} {name qual a b : Str} {body : List Stmt} {scope : Scope} {doc pm cdv ct : Value} {an : Option Addr} {V1 V2 V : VP} {params : Arguments}
    (hlv : 1 ≤ W.lv) (ho : (KF W.w.params).lookup f = some ⟨oc, od, .func (fnOf name qual params body scope .none .none doc pm an cdv ct), osl⟩) (hcd : codeIn (KF W.w.params) cdv qual = true)
    (hbind : ∀ u v, bindArgs (fnOf name qual params body scope .none .none doc pm an cdv ct) ⟨[u, v], []⟩ = pure [(a, u), (b, v)]) (hxs : [a, b].Nodup) (ha : scope.names.lookup a = some .local) (hb : scope.names.lookup b = some .local) (hnd : ((cellsFrom 0 scope.names []).map (·.1)).Nodup)
    (hco : scope.isCoroutine = false) (hgen : scope.isGenerator = false) (hk : scope.kind = .function) {V' : Heap → VP} (hflat : ∀ g0 h Mu v, (∀ a ∈ Mu, ∃ o, g0.get? a = some o) → (V' g0).p h v → V.p (hideAll h Mu) v)
    (h : ∀ L g0, PRa g0 W.down (defEnv qual scope L f cdv) body [(a, V1), (b, V2)] (V' g0)) : FC W (.ref f) [V1, V2] V := by
  refine FC.ofDef (xs := [a, b]) hlv ho hcd (fun vs hl => ?_) hxs rfl (fun n x hx => .inl ?_) hnd hco hgen hk hflat h
  · match vs, hl with
    | [u, v], _ => exact hbind u v
  · rcases List.mem_cons.mp hx with rfl | hx
    · exact ha
    · cases List.mem_singleton.mp hx; exact hb
noncomputable def sc (a b : Str) : Int := b2i (decide (b.cps.toList < a.cps.toList)) - b2i (decide (a.cps.toList < b.cps.toList))
noncomputable def scD : { t // PG.theDef (Str.ofString "_strcoll") = some t } := ⟨_, by with_unfolding_all rfl⟩
theorem sc_fn (P : Params) : ∃ oc od osl doc pm an ct name, (KF P).lookup 72 = some ⟨oc, od, .func (fnOf name (nm "_strcoll") scD.1.1 scD.1.2.1 scD.1.2.2 .none .none doc pm an (.ref 71) ct), osl⟩ := ⟨_, _, _, _, _, _, _, _, (by with_unfolding_all rfl : (KF P).lookup 72 = some (fnO _ _ _ _)).trans (congrArg some (fn_eq scD.2))⟩
theorem sc_code (P : Params) : codeIn (KF P) (.ref 71) (nm "_strcoll") = true := by kernel_rfl
theorem F2.gtS {x y : Str} : F2 W (compareOp .Gt) (VS x) (VS y) (VB (decide (y.cps.toList < x.cps.toList))) := by
  rintro A Mu s _ _ Q E ct mu ⟨t, rfl⟩ ⟨u, rfl⟩ k; exact PySem.P.gt_str (k _ s.heap s.toks stays_refl rfl)
theorem F2.ltS {x y : Str} : F2 W (compareOp .Lt) (VS x) (VS y) (VB (decide (x.cps.toList < y.cps.toList))) := by
  rintro A Mu s _ _ Q E ct mu ⟨t, rfl⟩ ⟨u, rfl⟩ k; exact PySem.P.lt_str (k _ s.heap s.toks stays_refl rfl)
theorem F2.subB {x y : Bool} : F2 W (binaryOp .Sub) (VB x) (VB y) (VI (b2i x - b2i y)) := by
  rintro A Mu s _ _ Q E ct mu rfl rfl k; exact PyProof.Rows.sub_bool (k _ s.heap _ stays_refl ⟨_, rfl⟩)
theorem FC.strcoll (hlv : 1 ≤ W.lv) {a b : Str} : FC W (.ref 72) [VS a, VS b] (VI (sc a b)) := by
  obtain ⟨oc, od, osl, doc, pm, an, ct, name, ho⟩ := sc_fn W.w.params
  exact FC.ofDef2 (V' := fun _ => VI (sc a b)) hlv ho (sc_code _) (fun _ _ => rfl) (by decide) (by kernel_rfl) (by kernel_rfl) (of_decide_eq_true (by with_unfolding_all rfl)) rfl rfl rfl (fun _ _ _ _ _ h => h) fun L g0 =>
    PRa.ret (PE.binop F2.subB (PE.compare F2.gtS (PE.nm 0 rfl) (PE.nm 1 rfl)) (PE.compare F2.ltS (PE.nm 0 rfl) (PE.nm 1 rfl))) fun _ _ h => h
noncomputable def eoD : { t // PG.theDef (Str.ofString "ISEOF") = some t } := ⟨_, by with_unfolding_all rfl⟩
theorem eo_fn (P : Params) : ∃ oc od osl doc pm an ct name, (KF P).lookup 82 = some ⟨oc, od, .func (fnOf name (nm "ISEOF") eoD.1.1 eoD.1.2.1 eoD.1.2.2 .none .none doc pm an (.ref 81) ct), osl⟩ := ⟨_, _, _, _, _, _, _, _, (by with_unfolding_all rfl : (KF P).lookup 82 = some (fnO _ _ _ _)).trans (congrArg some (fn_eq eoD.2))⟩
theorem eo_code (P : Params) : codeIn (KF P) (.ref 81) (nm "ISEOF") = true := by kernel_rfl
theorem g_endm (P : Params) : ∃ t, nsIn (KF P) mainGlobals (nm "ENDMARKER") = some (some (.int 0 t)) := ⟨_, by with_unfolding_all rfl⟩
theorem FC.iseof (hlv : 1 ≤ W.lv) {x : Int} : FC W (.ref 82) [VI x] (VB (x == 0)) := by
  obtain ⟨oc, od, osl, doc, pm, an, ct, name, ho⟩ := eo_fn W.w.params
  obtain ⟨u, hu⟩ := g_endm W.down.w.params
  refine FC.ofDef (xs := [nm "x"]) (V' := fun _ => VB (x == 0)) hlv ho (eo_code _) (fun vs hl => ?_) (by decide) rfl (fun n y hy => .inl ?_) (of_decide_eq_true (by with_unfolding_all rfl)) rfl rfl rfl (fun _ _ _ _ _ h => h) fun L g0 =>
    PRa.ret (PE.compare F2.eqI (PE.nm 0 rfl) (PE.weak (PE.global (by kernel_rfl) hu) (V := VI 0) fun _ _ h => ⟨_, h⟩)) fun _ _ h => h
  · match vs, hl with
    | [a], _ => rfl
  · cases List.mem_singleton.mp hy; kernel_rfl
noncomputable def ldD : { t // PG.theDef (Str.ofString "_law_stands") = some t } := ⟨_, by with_unfolding_all rfl⟩
theorem ld_fn (P : Params) : ∃ oc od osl doc pm an ct name, (KF P).lookup 113 = some ⟨oc, od, .func (fnOf name (nm "_law_stands") ldD.1.1 ldD.1.2.1 ldD.1.2.2 .none .none doc pm an (.ref 112) ct), osl⟩ := ⟨_, _, _, _, _, _, _, _, (by with_unfolding_all rfl : (KF P).lookup 113 = some (fnO _ _ _ _)).trans (congrArg some (fn_eq ldD.2))⟩
theorem ld_code (P : Params) : codeIn (KF P) (.ref 112) (nm "_law_stands") = true := by kernel_rfl
theorem g_em (P : Params) : nsIn (KF P) mainGlobals (nm "_ellipsis_match") = some (some (.ref 65)) := by kernel_rfl
theorem k_em (P : Params) : keepIn (KF P) (.ref 65) = true := by kernel_rfl
theorem FC.stands (hlv : 1 ≤ W.lv) {ss : List Str} {want got : Str} {b : Bool} (hj : JoinOk DOTS ss = true) (hw : DOTS ++ Txt.join DOTS ss ++ DOTS = want) (h1 : (DOTS ++ Txt.join DOTS ss).length + 3 ≤ 1000) (h : FC W.down (.ref 65) [VS want, VS got] (VB b)) : FC W (.ref 113) [VL (ss.map VS), VS got] (VB b) := by
  obtain ⟨oc, od, osl, doc, pm, an, ct, name, ho⟩ := ld_fn W.w.params
  subst hw
  have h2 : DOTS.length + (Txt.join DOTS ss).length ≤ 1000 := by
    have e : (DOTS ++ Txt.join DOTS ss).length = DOTS.length + (Txt.join DOTS ss).length := Array.size_append
    omega
  exact FC.ofDef2 (V' := fun _ => VB b) hlv ho (ld_code _) (fun _ _ => rfl) (by decide) (by kernel_rfl) (by kernel_rfl) (of_decide_eq_true (by with_unfolding_all rfl)) rfl rfl rfl (fun _ _ _ _ _ h => h) fun L g0 =>
    PRa.ret (PE.compare F2.isB (PE.calldef (PE.global (by kernel_rfl) (g_em _)) (k_em _) (PA.cons (PE.binop (F2.addS h1) (PE.binop (F2.addS h2) PE.str (PE.method tyS F.plainAttrs_str F.slot_str_join F.type_str_join PE.str (PA.cons (PE.nm 0 rfl) PA.nil) (FC.join hj))) PE.str) (PA.cons (PE.nm 1 rfl) PA.nil)) h) PE.bool) fun _ _ q => by rw [beq_true] at q; exact q
/-- _ellipsis_match over parts -/
theorem FC.emT (hlv : 1 ≤ W.lv) {m p q : List Nat} {l : List (List Nat)} {got : Str} (hf : ∀ x ∈ p :: (l ++ [q]), 46 ∉ x) (e : jd (p :: (l ++ [q])) = m) (hm : m.length ≤ 900) (hg : got.length ≤ 1000) : FC W (.ref 65) [VS (tx m), VS got] (VB (emF got (tx p) (l.map tx) (tx q))) := by
  have hs : Txt.split (tx m) DOTS = tx p :: (l.map tx ++ [tx q]) ∧ (Builtin.Str.occurrences (tx m) DOTS 0 (tx m).length 1).isEmpty = false := by
    cases l with
    | nil => exact split_dots (r := []) hf e
    | cons a r => have := split_dots (r := r ++ [q]) hf e; rw [List.map_cons, List.map_cons, List.map_append] at this; exact this
  have h1 : (tx m).length ≤ 900 := hm
  refine FC.em hlv hs.2 hs.1 (fun x hx => ?_) ?_ (Nat.le_trans h1 (by decide)) hg
  · rw [← hs.1] at hx
    have := part_short hx; omega
  · rw [← hs.1]
    have := split_le (tx m) DOTS; omega
/-- dots about and between signs -/
theorem FC.stT (hlv : 2 ≤ W.lv) {ss : List Nat} {m : List Nat} {got : Str} (hf : ∀ x ∈ [] :: (ss.map (fun a => [a]) ++ [[]]), 46 ∉ x) (hw : DOTS ++ Txt.join DOTS (ss.map ch) ++ DOTS = tx m) (hj : JoinOk DOTS (ss.map ch) = true) (h1 : (DOTS ++ Txt.join DOTS (ss.map ch)).length + 3 ≤ 1000) (e : jd ([] :: (ss.map (fun a => [a]) ++ [[]])) = m) (hm : m.length ≤ 900) (hg : got.length ≤ 1000) :
    FC W (.ref 113) [VL ((ss.map ch).map VS), VS got] (VB (loopF got got.length (NO :: (ss.map ch ++ [NO])) 0)) := by
  have h := FC.emT (W := W.down) (by show 1 ≤ W.lv - 1; omega) (got := got) hf e hm hg
  have e2 : emF got (tx []) ((ss.map fun a => [a]).map tx) (tx []) = loopF got got.length (NO :: (ss.map ch ++ [NO])) 0 := by
    rw [List.map_map, no_eq]
    show (!decide ((got.length : Int) < 0) && _) = _
    rw [decide_eq_false (by omega)]; rfl
  rw [e2] at h
  exact FC.stands (by omega) hj hw h1 h
end
end Mine
-- Lg
namespace Mine
theorem Dt.map_idx (d : Dt) : ∀ {l : List Nat} {i : Nat}, (∀ x ∈ l, x < 6) → i < 6 → (l.map d.c).idxOf (d.c i) = l.idxOf i
  | [], _, _, _ => rfl
  | x :: r, i, h, hi => by
    rw [List.map_cons, List.idxOf_cons, List.idxOf_cons, d.map_idx (fun y hy => h y (.tail _ hy)) hi]
    by_cases e : x = i
    · subst e; simp
    · have : d.c x ≠ d.c i := fun q => e (d.c_inj (h x (.head _)) hi q)
      rw [beq_eq_false_iff_ne.mpr this, beq_eq_false_iff_ne.mpr e]
theorem Dt.map_nd (d : Dt) : ∀ {l : List Nat}, (∀ x ∈ l, x < 6) → l.Nodup → (l.map d.c).Nodup
  | [], _, _ => List.nodup_nil
  | x :: r, h, n => by
    rw [List.nodup_cons] at n
    rw [List.map_cons, List.nodup_cons]
    refine ⟨fun q => ?_, d.map_nd (fun y hy => h y (.tail _ hy)) n.2⟩
    obtain ⟨y, hy, e⟩ := List.mem_map.mp q
    exact n.1 (d.c_inj (h y (.tail _ hy)) (h x (.head _)) e ▸ hy)
theorem lawC (W : Wd) (hlv : 2 ≤ W.lv) (d : Dt) (hne : ∀ i, i < 6 → d.c i ≠ 46) : LawC W d where
  st2 l i j hl hn h6 hi hj := by
    have h := FC.stT (W := W) hlv (ss := [d.c i, d.c j]) (m := [46,46,46,d.c i,46,46,46,d.c j,46,46,46]) (got := d.txt l) (by simp; exact ⟨Ne.symm (hne i (h6 i hi)), Ne.symm (hne j (h6 j hj))⟩) (by kernel_rfl) rfl (Nat.le_of_ble_eq_true rfl) rfl (Nat.le_of_ble_eq_true rfl) (by show (l.map d.c).toArray.size ≤ 1000; simp; omega)
    rw [show loopF (d.txt l) (d.txt l).length (NO :: ([d.c i, d.c j].map ch ++ [NO])) 0 = emG (ch (d.c i)) (ch (d.c j)) (tx (l.map d.c)) from rfl, emG_tx (d.map_nd h6 hn) (List.mem_map_of_mem hi) (List.mem_map_of_mem hj), d.map_idx h6 (h6 i hi), d.map_idx h6 (h6 j hj)] at h
    exact h
  st3 i j k hi hj hk := by
    have h6 : ∀ x ∈ six, x < 6 := by decide
    have h := FC.stT (W := W) hlv (ss := [d.c i, d.c j, d.c k]) (m := [46,46,46,d.c i,46,46,46,d.c j,46,46,46,d.c k,46,46,46]) (got := d.txt six) (by simp; exact ⟨Ne.symm (hne i hi), Ne.symm (hne j hj), Ne.symm (hne k hk)⟩) (by kernel_rfl) rfl (Nat.le_of_ble_eq_true rfl) rfl (Nat.le_of_ble_eq_true rfl) (Nat.le_of_ble_eq_true rfl)
    rw [show loopF (d.txt six) (d.txt six).length (NO :: ([d.c i, d.c j, d.c k].map ch ++ [NO])) 0 = loopF (tx (six.map d.c)) (tx (six.map d.c)).length [NO, ch (d.c i), ch (d.c j), ch (d.c k), NO] 0 from rfl, emH_tx (d.map_nd h6 (by decide)) (List.mem_map_of_mem (six_mem hi)) (List.mem_map_of_mem (six_mem hj)) (List.mem_map_of_mem (six_mem hk)), d.map_idx h6 hi, d.map_idx h6 hj, d.map_idx h6 hk, six_idx hi, six_idx hj, six_idx hk] at h
    exact h
  eof x := FC.iseof (by omega)
end Mine
-- Ll
namespace Mine
noncomputable def okC (p : List Nat) : Bool := ((List.range 6).all fun i => decide (p.getD i 0 < 6) && (decide (qP p i < 6) && (decide ((p.getD i 0 : Int) - (i : Int) = (blP p i : Int) - (abP p i : Int)) && (List.range (snP p i + 1)).all fun j => decide (plP p i j < 6) && (decide (i < plP p i j) == decide (j < snP p i))))) && (flP p == thP p 6)
noncomputable def okL (p : List Nat) : Bool := ((List.range 6).all fun i => decide ((lfP p i).length = 6 - i) && (decide (lfP p i).Nodup && ((lfP p i).all (fun x => decide (x < 6)) && (!decide (i < 5) || (laP p i == toP p i || (lfP p (i + 1)).contains (laP p i)))))) && decide ((awP p 6 : Int) = (wlP p).length + 6 - rgP p 6 + 2 * lsP p 5)
theorem plainC_of {p : List Nat} (h : okC p = true) : PlainC p := by
  unfold okC at h
  rw [Bool.and_eq_true, List.all_eq_true] at h
  obtain ⟨h, hf⟩ := h
  have H := fun i (hi : i < 6) => h i (List.mem_range.mpr hi)
  simp only [Bool.and_eq_true, decide_eq_true_eq, List.all_eq_true, List.mem_range, beq_iff_eq] at H hf
  exact ⟨fun i hi => (H i hi).1, fun i hi => (H i hi).2.1, fun i hi => (H i hi).2.2.1, hf, fun i hi j hj => (H i hi).2.2.2 j (by omega)⟩
theorem plainL_of {p : List Nat} (h : okL p = true) : PlainL p := by
  unfold okL at h
  rw [Bool.and_eq_true, List.all_eq_true] at h
  obtain ⟨h, hf⟩ := h
  have H := fun i (hi : i ≤ 5) => h i (List.mem_range.mpr (Nat.lt_succ_of_le hi))
  simp only [Bool.and_eq_true, decide_eq_true_eq, List.all_eq_true, Bool.or_eq_true, Bool.not_eq_true', decide_eq_false_iff_not, beq_iff_eq, List.contains_iff_mem] at H hf
  refine ⟨fun i hi => (H i hi).1, fun i hi => (H i hi).2.1, fun i hi => (H i hi).2.2.1, fun i hi hne => ?_, hf⟩
  rcases (H i (Nat.le_of_lt hi)).2.2.2 with q | q | q
  · exact absurd hi q
  · exact absurd q hne
  · exact q
noncomputable def okFrom : Nat → List Nat → List Nat → Bool
  | 0, pre, _ => okC pre && okL pre
  | n + 1, pre, rest => rest.all fun x => okFrom n (pre ++ [x]) (rest.erase x)
theorem okFrom_of : ∀ {n : Nat} {pre rest : List Nat}, okFrom n pre rest = true → ∀ l : List Nat, l.length = n → l.Nodup → (∀ x ∈ l, x ∈ rest) → okC (pre ++ l) = true ∧ okL (pre ++ l) = true
  | 0, pre, rest, h, l, hl, _, _ => by
    cases List.eq_nil_of_length_eq_zero hl
    rw [List.append_nil]; unfold okFrom at h; simpa using h
  | n + 1, pre, rest, h, [], hl, _, _ => by cases hl
  | n + 1, pre, rest, h, x :: l, hl, hn, hm => by
    unfold okFrom at h
    rw [List.nodup_cons] at hn
    have := okFrom_of (List.all_eq_true.mp h x (hm x (.head _))) l (Nat.succ.inj hl) hn.2 (fun y hy => (List.mem_erase_of_ne (fun (q : y = x) => hn.1 (q ▸ hy))).mpr (hm y (.tail _ hy)))
    rwa [List.append_assoc] at this
theorem ok01 : okFrom 4 [0, 1] ((six.erase 0).erase 1) = true := by decide +kernel
theorem ok02 : okFrom 4 [0, 2] ((six.erase 0).erase 2) = true := by decide +kernel
theorem ok03 : okFrom 4 [0, 3] ((six.erase 0).erase 3) = true := by decide +kernel
theorem ok04 : okFrom 4 [0, 4] ((six.erase 0).erase 4) = true := by decide +kernel
theorem ok05 : okFrom 4 [0, 5] ((six.erase 0).erase 5) = true := by decide +kernel
theorem ok10 : okFrom 4 [1, 0] ((six.erase 1).erase 0) = true := by decide +kernel
theorem ok12 : okFrom 4 [1, 2] ((six.erase 1).erase 2) = true := by decide +kernel
theorem ok13 : okFrom 4 [1, 3] ((six.erase 1).erase 3) = true := by decide +kernel
theorem ok14 : okFrom 4 [1, 4] ((six.erase 1).erase 4) = true := by decide +kernel
theorem ok15 : okFrom 4 [1, 5] ((six.erase 1).erase 5) = true := by decide +kernel
theorem ok20 : okFrom 4 [2, 0] ((six.erase 2).erase 0) = true := by decide +kernel
theorem ok21 : okFrom 4 [2, 1] ((six.erase 2).erase 1) = true := by decide +kernel
theorem ok23 : okFrom 4 [2, 3] ((six.erase 2).erase 3) = true := by decide +kernel
theorem ok24 : okFrom 4 [2, 4] ((six.erase 2).erase 4) = true := by decide +kernel
theorem ok25 : okFrom 4 [2, 5] ((six.erase 2).erase 5) = true := by decide +kernel
theorem ok30 : okFrom 4 [3, 0] ((six.erase 3).erase 0) = true := by decide +kernel
theorem ok31 : okFrom 4 [3, 1] ((six.erase 3).erase 1) = true := by decide +kernel
theorem ok32 : okFrom 4 [3, 2] ((six.erase 3).erase 2) = true := by decide +kernel
theorem ok34 : okFrom 4 [3, 4] ((six.erase 3).erase 4) = true := by decide +kernel
theorem ok35 : okFrom 4 [3, 5] ((six.erase 3).erase 5) = true := by decide +kernel
theorem ok40 : okFrom 4 [4, 0] ((six.erase 4).erase 0) = true := by decide +kernel
theorem ok41 : okFrom 4 [4, 1] ((six.erase 4).erase 1) = true := by decide +kernel
theorem ok42 : okFrom 4 [4, 2] ((six.erase 4).erase 2) = true := by decide +kernel
theorem ok43 : okFrom 4 [4, 3] ((six.erase 4).erase 3) = true := by decide +kernel
theorem ok45 : okFrom 4 [4, 5] ((six.erase 4).erase 5) = true := by decide +kernel
theorem ok50 : okFrom 4 [5, 0] ((six.erase 5).erase 0) = true := by decide +kernel
theorem ok51 : okFrom 4 [5, 1] ((six.erase 5).erase 1) = true := by decide +kernel
theorem ok52 : okFrom 4 [5, 2] ((six.erase 5).erase 2) = true := by decide +kernel
theorem ok53 : okFrom 4 [5, 3] ((six.erase 5).erase 3) = true := by decide +kernel
theorem ok54 : okFrom 4 [5, 4] ((six.erase 5).erase 4) = true := by decide +kernel
theorem okAB : ∀ a b : Nat, a < 6 → b < 6 → a ≠ b → okFrom 4 [a, b] ((six.erase a).erase b) = true
  | 0, 0, _, _, h => absurd rfl h
  | 0, 1, _, _, _ => ok01
  | 0, 2, _, _, _ => ok02
  | 0, 3, _, _, _ => ok03
  | 0, 4, _, _, _ => ok04
  | 0, 5, _, _, _ => ok05
  | 1, 0, _, _, _ => ok10
  | 1, 1, _, _, h => absurd rfl h
  | 1, 2, _, _, _ => ok12
  | 1, 3, _, _, _ => ok13
  | 1, 4, _, _, _ => ok14
  | 1, 5, _, _, _ => ok15
  | 2, 0, _, _, _ => ok20
  | 2, 1, _, _, _ => ok21
  | 2, 2, _, _, h => absurd rfl h
  | 2, 3, _, _, _ => ok23
  | 2, 4, _, _, _ => ok24
  | 2, 5, _, _, _ => ok25
  | 3, 0, _, _, _ => ok30
  | 3, 1, _, _, _ => ok31
  | 3, 2, _, _, _ => ok32
  | 3, 3, _, _, h => absurd rfl h
  | 3, 4, _, _, _ => ok34
  | 3, 5, _, _, _ => ok35
  | 4, 0, _, _, _ => ok40
  | 4, 1, _, _, _ => ok41
  | 4, 2, _, _, _ => ok42
  | 4, 3, _, _, _ => ok43
  | 4, 4, _, _, h => absurd rfl h
  | 4, 5, _, _, _ => ok45
  | 5, 0, _, _, _ => ok50
  | 5, 1, _, _, _ => ok51
  | 5, 2, _, _, _ => ok52
  | 5, 3, _, _, _ => ok53
  | 5, 4, _, _, _ => ok54
  | 5, 5, _, _, h => absurd rfl h
  | 0, _ + 6, _, h, _ => absurd h (Nat.not_lt.mpr (Nat.le_add_left 6 _))
  | 1, _ + 6, _, h, _ => absurd h (Nat.not_lt.mpr (Nat.le_add_left 6 _))
  | 2, _ + 6, _, h, _ => absurd h (Nat.not_lt.mpr (Nat.le_add_left 6 _))
  | 3, _ + 6, _, h, _ => absurd h (Nat.not_lt.mpr (Nat.le_add_left 6 _))
  | 4, _ + 6, _, h, _ => absurd h (Nat.not_lt.mpr (Nat.le_add_left 6 _))
  | 5, _ + 6, _, h, _ => absurd h (Nat.not_lt.mpr (Nat.le_add_left 6 _))
  | _ + 6, _, h, _, _ => absurd h (Nat.not_lt.mpr (Nat.le_add_left 6 _))
theorem plain_all {p : List Nat} (hl : p.length = 6) (hn : p.Nodup) (h6 : ∀ x ∈ p, x < 6) : PlainC p ∧ PlainL p := by
  match p, hl, hn, h6 with
  | a :: b :: l, hl, hn, h6 =>
    rw [List.nodup_cons, List.nodup_cons] at hn
    have hab : a ≠ b := fun q => hn.1 (q ▸ List.mem_cons_self ..)
    have h := okFrom_of (okAB a b (h6 a (.head _)) (h6 b (.tail _ (.head _))) hab) l (Nat.succ.inj (Nat.succ.inj hl)) hn.2.2 fun y hy => (List.mem_erase_of_ne (fun (q : y = b) => hn.2.1 (q ▸ hy))).mpr ((List.mem_erase_of_ne (fun (q : y = a) => hn.1 (q ▸ List.mem_cons_of_mem _ hy))).mpr (six_mem (h6 y (.tail _ (.tail _ hy)))))
    exact ⟨plainC_of h.1, plainL_of h.2⟩
end Mine
-- Lq
namespace Mine
noncomputable def cntLt (X : List Nat) (x : Nat) : Nat := X.countP fun y => decide (y < x)
theorem cntLt_mono {X : List Nat} {x y : Nat} (h : x ≤ y) : cntLt X x ≤ cntLt X y := List.countP_mono_left fun z _ hz => by simp at hz ⊢; omega
theorem cntLt_lt {x y : Nat} (hxy : x < y) : ∀ {X : List Nat}, x ∈ X → cntLt X x < cntLt X y
  | a :: r, h => by
    unfold cntLt
    rw [List.countP_cons, List.countP_cons]
    rcases List.mem_cons.mp h with rfl | h
    · have := cntLt_mono (X := r) (Nat.le_of_lt hxy)
      unfold cntLt at this
      simp [hxy]; omega
    · have := cntLt_lt hxy h
      unfold cntLt at this
      have : (if decide (a < x) = true then 1 else 0) ≤ (if decide (a < y) = true then 1 else 0) := by
        by_cases q : a < x
        · simp [q, Nat.lt_trans q hxy]
        · simp [q]
      omega
theorem cntLt_iff {X : List Nat} {x y : Nat} (hx : x ∈ X) (hy : y ∈ X) : cntLt X x < cntLt X y ↔ x < y := by
  constructor
  · intro h
    rcases Nat.lt_or_ge x y with q | q
    · exact q
    · have := cntLt_mono (X := X) q; omega
  · exact fun h => cntLt_lt h hx
noncomputable def rkP (X : List Nat) : List Nat := X.map (cntLt X)
theorem rkP_nd {X : List Nat} (hn : X.Nodup) : (rkP X).Nodup := by
  unfold rkP List.Nodup
  rw [List.pairwise_map]
  refine hn.imp_of_mem fun {a b} ha hb hab q => ?_
  rcases Nat.lt_trichotomy a b with h | h | h
  · have := cntLt_lt h ha; omega
  · exact hab h
  · have := cntLt_lt h hb; omega
theorem rkP_lt {X : List Nat} : ∀ x ∈ rkP X, x < X.length := fun x hx => by
  obtain ⟨y, hy, rfl⟩ := List.mem_map.mp hx
  exact Nat.lt_of_lt_of_le (cntLt_lt (Nat.lt_succ_self y) hy) List.countP_le_length
/-- six different numbers below six are all of them -/
theorem six_all {l : List Nat} (hl : l.length = 6) (hn : l.Nodup) (h6 : ∀ x ∈ l, x < 6) : l.Perm (List.range 6) := by
  refine (List.perm_ext_iff_of_nodup hn List.nodup_range).mpr fun a => ⟨fun h => List.mem_range.mpr (h6 a h), fun h => ?_⟩
  have := (plain_all hl hn h6).1.qlt a (List.mem_range.mp h)
  exact List.idxOf_lt_length_iff.mp (by rw [hl]; exact this)
theorem qP_at {p : List Nat} (hl : p.length = 6) (hn : p.Nodup) (h6 : ∀ x ∈ p, x < 6) {k : Nat} (hk : k < 6) : p.getD (qP p k) 0 = k ∧ qP p k < 6 := by
  have h := (plain_all hl hn h6).1.qlt k hk
  have h' : p.idxOf k < p.length := by rw [hl]; exact h
  refine ⟨?_, h⟩
  unfold qP
  rw [List.getD_eq_getElem?_getD, List.getElem?_eq_getElem h', List.getElem_idxOf]; rfl
theorem qP_perm {p : List Nat} (hl : p.length = 6) (hn : p.Nodup) (h6 : ∀ x ∈ p, x < 6) : (six.map (qP p)).Perm (List.range 6) := by
  refine six_all rfl ?_ fun x hx => ?_
  · have hs : six.Nodup := by decide
    unfold List.Nodup
    rw [List.pairwise_map]
    refine hs.imp_of_mem fun {a b} ha hb hab q => ?_
    have h6' : ∀ x ∈ six, x < 6 := by decide
    have e1 := (qP_at hl hn h6 (h6' a ha)).1
    have e2 := (qP_at hl hn h6 (h6' b hb)).1
    rw [q, e2] at e1; exact hab e1.symm
  · obtain ⟨k, hk, rfl⟩ := List.mem_map.mp hx
    have h6' : ∀ x ∈ six, x < 6 := by decide
    exact (qP_at hl hn h6 (h6' k hk)).2
/-- the tokens' numbers, and how their texts stand -/
noncomputable def numT : List Nat := [54, 24, 19, 7, 8, 16, 14, 12, 15, 17, 11, 13, 20, 22, 21, 49, 9, 10, 32, 25, 18, 26, 31]
noncomputable def rkT : List Nat := [19, 13, 9, 20, 21, 6, 4, 2, 5, 7, 1, 3, 10, 12, 11, 18, 22, 0, 17, 14, 8, 15, 16]
noncomputable def numC (c : Nat) : Nat := numT.getD (sgn.idxOf c) 0
noncomputable def rkC (c : Nat) : Nat := rkT.getD (sgn.idxOf c) 0
noncomputable def kS (c : Nat) : Str := Str.ofString (toString ((numC c : Nat) : Int))
theorem rk_inj : (sgn.all fun a => sgn.all fun b => !(rkC a == rkC b) || a == b) = true := by decide +kernel
theorem kS_lt : (sgn.all fun a => sgn.all fun b => decide ((kS a).cps.toList < (kS b).cps.toList) == decide (rkC a < rkC b)) = true := by decide +kernel
theorem num_tok (P : Params) : (sgn.all fun c => match findBy (fun (k : Str) v => v.isStr k) (tokEs P).toArray (ch c) with | some (.int n _) => n == ((numC c : Nat) : Int) | _ => false) = true := by kernel_rfl
theorem tok_exact (P : Params) : ((tokEs P).toArray.all fun e => isExactStrKey e.key) = true := by kernel_rfl
theorem rkC_inj {a b : Nat} (ha : a ∈ sgn) (hb : b ∈ sgn) (h : rkC a = rkC b) : a = b := by
  have := List.all_eq_true.mp (List.all_eq_true.mp rk_inj a ha) b hb
  simpa [h] using this
theorem kS_iff {a b : Nat} (ha : a ∈ sgn) (hb : b ∈ sgn) : (kS a).cps.toList < (kS b).cps.toList ↔ rkC a < rkC b := by
  have := List.all_eq_true.mp (List.all_eq_true.mp kS_lt a ha) b hb
  simpa using this
theorem num_at {P : Params} {c : Nat} (hc : c ∈ sgn) : ∃ u, findBy (fun (k : Str) v => v.isStr k) (tokEs P).toArray (ch c) = some (.int (numC c : Nat) u) := by
  have := List.all_eq_true.mp (num_tok P) c hc
  split at this
  · rename_i n u e
    rw [beq_iff_eq] at this
    exact ⟨u, by rw [e, this]⟩
  · cases this
theorem sc_eq {a b : Nat} (ha : a ∈ sgn) (hb : b ∈ sgn) : sc (kS a) (kS b) = if rkC b < rkC a then 1 else if rkC a < rkC b then -1 else 0 := by
  unfold sc
  have e1 := kS_iff hb ha
  have e2 := kS_iff ha hb
  by_cases h1 : rkC b < rkC a
  · have h2 : ¬ rkC a < rkC b := by omega
    rw [decide_eq_true (e1.mpr h1), decide_eq_false (fun q => h2 (e2.mp q)), if_pos h1]; rfl
  · by_cases h2 : rkC a < rkC b
    · rw [decide_eq_false (fun q => h1 (e1.mp q)), decide_eq_true (e2.mpr h2), if_neg h1, if_pos h2]; rfl
    · rw [decide_eq_false (fun q => h1 (e1.mp q)), decide_eq_false (fun q => h2 (e2.mp q)), if_neg h1, if_neg h2]; rfl
end Mine
-- Lr
namespace Mine
theorem FC.sortedI {W : Wd} {ns ms : List Int} (hp : ms.Perm ns) (hs : ms.Pairwise (· ≤ ·)) (hl : ns.length < 64) : FC W (.builtin "sorted") [VL (ns.map VI)] (VL (ms.map VI)) := by
  intro A Mu s vs Q E ct mu p k
  match vs, p with
  | [v], p =>
    obtain ⟨l, its, rfl, hpl, hv⟩ := VL.isList p.1
    have hlen : its.length = ns.length := by rw [hv.length, List.length_map]
    refine sorted_ints hpl.isList (vs_ints hv) (by omega) fun out ns' a1 a2 a3 => ?_
    obtain ⟨e, he⟩ := sortedAll_at s.heap its out
    have : ns' = ms := List.Perm.eq_of_pairwise (le := (· ≤ ·)) (fun a b _ _ h1 h2 => Int.le_antisymm h1 h2) a3 hs (a2.trans hp.symm)
    subst this
    have hn : s.heap.objs.size + 1 ∉ Mu := fun q => Nat.lt_irrefl _ (Nat.lt_of_succ_lt (mu_lt mu q))
    refine k _ _ s.toks (fun b o q => sortedAll_old q) ⟨_, out.toList, rfl, ⟨e, hideAll_get _ (by rw [he, Array.toArray_toList]) hn⟩, ints_vs a1⟩
  | [], p => exact p.elim
  | _ :: _ :: _, p => exact p.2.elim
noncomputable def rkD : { t // PG.theDef (Str.ofString "_law_ranks") = some t } := ⟨_, by with_unfolding_all rfl⟩
noncomputable abbrev rkEnv (L : Addr) : Env := defEnv (nm "_law_ranks") rkD.1.2.2 L 87 (.ref 86)
noncomputable def rk0 : { t // rkD.1.2.1[0]? = some t } := ⟨_, by with_unfolding_all rfl⟩
noncomputable def rk1 : { t // rkD.1.2.1[1]? = some t } := ⟨_, by with_unfolding_all rfl⟩
noncomputable def rk2 : { t // rkD.1.2.1[2]? = some t } := ⟨_, by with_unfolding_all rfl⟩
noncomputable def rk3 : { t // rkD.1.2.1[3]? = some t } := ⟨_, by with_unfolding_all rfl⟩
theorem g_strcoll (P : Params) : nsIn (KF P) mainGlobals (nm "_strcoll") = some (some (.ref 72)) := by kernel_rfl
theorem k_strcoll (P : Params) : keepIn (KF P) (.ref 72) = true := by kernel_rfl
theorem g_str (P : Params) : nsIn (KF P) mainGlobals (nm "str") = some none := by kernel_rfl
theorem b_str : bootBuiltins (nm "str") = some (.type "str") := by rfl
theorem g_sorted (P : Params) : nsIn (KF P) mainGlobals (nm "sorted") = some none := by kernel_rfl
theorem b_sorted : bootBuiltins (nm "sorted") = some (.builtin "sorted") := by rfl
section
variable (W : Wd) (L : Addr) (d : Dt)
/-- the told answers of one sign -/
noncomputable def toldP (X : List Nat) (x : Nat) : List Int := X.map fun y => if y < x then 1 else if x < y then -1 else 0
noncomputable def pairsP (i : Nat) : List (Str × VP) := (List.range i).map fun j => (ch (d.c j), VI (d.r j : Nat))
structure RkOk : Prop where
  sg : ∀ i, i < 6 → d.c i ∈ sgn
  pe : d.p = rkP (d.cs.map rkC)
theorem RkOk.r {d : Dt} (K : RkOk d) {i : Nat} (hi : i < 6) : d.r i = cntLt (d.cs.map rkC) (rkC (d.c i)) := by
  have h1 : i < d.cs.length := by rw [d.cl]; exact hi
  unfold Dt.r Dt.c
  rw [K.pe, rkP]; simp [h1]
theorem RkOk.xn {d : Dt} (K : RkOk d) : (d.cs.map rkC).Nodup := by
  unfold List.Nodup
  rw [List.pairwise_map]
  refine d.nd.imp_of_mem fun {a b} ha hb hab q => hab (rkC_inj ?_ ?_ q)
  · obtain ⟨j, hj, rfl⟩ := List.getElem_of_mem ha
    have := K.sg j (by rw [← d.cl]; exact hj)
    rwa [Dt.c, List.getD_eq_getElem?_getD, List.getElem?_eq_getElem hj] at this
  · obtain ⟨j, hj, rfl⟩ := List.getElem_of_mem hb
    have := K.sg j (by rw [← d.cl]; exact hj)
    rwa [Dt.c, List.getD_eq_getElem?_getD, List.getElem?_eq_getElem hj] at this
theorem RkOk.pn {d : Dt} (K : RkOk d) : d.p.Nodup := by rw [K.pe]; exact rkP_nd K.xn
theorem RkOk.p6 {d : Dt} (K : RkOk d) : ∀ x ∈ d.p, x < 6 := fun x hx => by
  rw [K.pe] at hx
  have := rkP_lt x hx
  rwa [List.length_map, d.cl] at this
theorem RkOk.plain {d : Dt} (K : RkOk d) : PlainC d.p ∧ PlainL d.p := plain_all d.pl K.pn K.p6
theorem RkOk.q {d : Dt} (K : RkOk d) {k : Nat} (hk : k < 6) : d.r (d.q k) = k ∧ d.q k < 6 := qP_at d.pl K.pn K.p6 hk
theorem RkOk.qp {d : Dt} (K : RkOk d) : (six.map d.q).Perm (List.range 6) := qP_perm d.pl K.pn K.p6
theorem str_tok {W : Wd} {env : Env} {ρ : Rho} {c : Nat} {sp ep pos ppos : Pos} {e : Expr} (hc : c ∈ sgn) (hs : PE W env ρ (.Name (nm "str") sp) (VE (.type "str"))) (he : PE W env ρ (.Name (nm "EXACT_TOKEN_TYPES") ep) (VE (.ref 73))) (hn : PE W env ρ e (VS (ch c)))
    (h1 : ∀ l u, subscripted e false (.ref l) (.str (ch c) u) = operate [.ref l, .str (ch c) u] (getItem (.ref l) (.str (ch c) u)) := by intro _ _; with_unfolding_all rfl)
    (he' : starEach [.Subscript (.Name (nm "EXACT_TOKEN_TYPES") ep) e ppos] env = (false, eval (.Subscript (.Name (nm "EXACT_TOKEN_TYPES") ep) e ppos) env) :: starEach [] env := by rfl) (hp : (backTo pos (starEach [] env)).any (·.1) = false := by rfl) :
    PE W env ρ (.Call (.Name (nm "str") sp) [.Subscript (.Name (nm "EXACT_TOKEN_TYPES") ep) e ppos] [] pos) (VS (kS c)) := by
  refine PE.callt hs (PA.cons (PE.sub (F2.itemTok (num_at hc) (tok_exact _) h1 (by intro _ _; with_unfolding_all rfl)) he hn) PA.nil he') (FC.strI ?_) he' hp
  have : (numC c) < 100 := by
    unfold numC
    have : ∀ k, numT.getD k 0 < 100 := fun k => by
      by_cases hk : k < numT.length
      · have h := List.all_eq_true.mp (show (numT.all fun x => decide (x < 100)) = true by decide) numT[k] (List.getElem_mem hk)
        simpa [hk] using h
      · simp [List.getElem?_eq_none (Nat.not_lt.mp hk)]
    exact this _
  have h2 : ((numC c : Nat) : Int).natAbs = numC c := rfl
  rw [h2]
  by_cases h0 : numC c = 0
  · rw [h0]; decide
  · exact Nat.lt_of_lt_of_le ((Nat.log2_lt h0).mpr (show numC c < 2 ^ 7 by omega)) (by decide)
theorem told_sum {x : Nat} : ∀ X : List Nat, cntLt X x + X.count x + X.countP (fun y => decide (x < y)) = X.length
  | [] => rfl
  | a :: r => by
    have ih := told_sum (x := x) r
    unfold cntLt at *
    rw [List.countP_cons, List.countP_cons, List.count_cons, List.length_cons, ← ih]
    rcases Nat.lt_trichotomy a x with h | h | h
    · have h1 : ¬ x < a := by omega
      have h2 : ¬ a = x := by omega
      simp [h, h1, h2]; omega
    · subst h; simp; omega
    · have h1 : ¬ a < x := by omega
      have h2 : ¬ a = x := by omega
      simp [h, h1, h2]; omega
theorem dummy_ms : True := trivial
noncomputable def msP (r : Nat) : List Int := List.replicate (5 - r) (-1) ++ [0] ++ List.replicate r 1
theorem told_count {X : List Nat} {x : Nat} (a : Int) : (toldP X x).count a = if a = 1 then cntLt X x else if a = 0 then X.count x else if a = -1 then X.countP (fun y => decide (x < y)) else 0 := by
  unfold toldP cntLt
  rw [List.count_eq_countP, List.countP_map, List.count_eq_countP]
  by_cases h1 : a = 1
  · subst h1
    rw [if_pos rfl]
    refine List.countP_congr fun y _ => ?_
    simp only [Function.comp]
    by_cases q : y < x
    · simp [q]
    · by_cases q2 : x < y
      · simp [q, q2]
      · simp [q, q2]
  · rw [if_neg h1]
    by_cases h0 : a = 0
    · subst h0
      rw [if_pos rfl]
      refine List.countP_congr fun y _ => ?_
      simp only [Function.comp]
      by_cases q : y < x
      · have : ¬ y = x := by omega
        simp [q, this]
      · by_cases q2 : x < y
        · have : ¬ y = x := by omega
          simp [q, q2, this]
        · have : y = x := by omega
          simp [q, q2, this]
    · rw [if_neg h0]
      by_cases hm : a = -1
      · subst hm
        rw [if_pos rfl]
        refine List.countP_congr fun y _ => ?_
        simp only [Function.comp]
        by_cases q : y < x
        · have : ¬ x < y := by omega
          simp [q, this]
        · by_cases q2 : x < y
          · simp [q, q2]
          · simp [q, q2]
      · rw [if_neg hm, List.countP_eq_zero]
        intro y _
        simp only [Function.comp]
        by_cases q : y < x
        · simp [q]; exact fun e => h1 e.symm
        · by_cases q2 : x < y
          · simp [q, q2]; exact fun e => hm e.symm
          · simp [q, q2]; exact fun e => h0 e.symm
theorem told_perm {X : List Nat} (hl : X.length = 6) (hn : X.Nodup) {x : Nat} (hx : x ∈ X) : (msP (cntLt X x)).Perm (toldP X x) := by
  have h1 : X.count x = 1 := Nat.le_antisymm (List.nodup_iff_count.mp hn x) (List.count_pos_iff.mpr hx)
  have hs := told_sum (x := x) X
  rw [List.perm_iff_count]
  intro a
  rw [told_count]
  unfold msP
  rw [List.count_append, List.count_append, List.count_replicate, List.count_replicate, List.count_singleton]
  by_cases e1 : a = 1
  · subst e1; simp
  · by_cases e0 : a = 0
    · subst e0; simp [h1]
    · by_cases em : a = -1
      · subst em; simp; omega
      · have a1 : ¬ (1 : Int) = a := fun q => e1 q.symm
        have a0 : ¬ (0 : Int) = a := fun q => e0 q.symm
        have am : ¬ (-1 : Int) = a := fun q => em q.symm
        simp [e1, e0, em, a1, a0, am]
theorem ms_all : ((List.range 6).all fun r => decide ((msP r).Pairwise (· ≤ ·)) && (JoinOk (Str.ofString "") ((msP r).map fun n => Str.ofString (toString n)) && decide (Txt.join (Str.ofString "") ((msP r).map fun n => Str.ofString (toString n)) = Txt.mul (Str.ofString "-1") (5 - (r : Int)) ++ Str.ofString "0" ++ Txt.mul (Str.ofString "1") (r : Int)))) = true := by decide +kernel
theorem msP_len {r : Nat} (h : r < 6) : (msP r).length = 6 := by unfold msP; simp; omega
theorem msP_ball : ((List.range 6).all fun r => (msP r).all fun n => decide (n.natAbs ≤ 1)) = true := by decide +kernel
theorem msP_small {r : Nat} (h : r < 6) (j : Nat) : ((msP r).getD j 0).natAbs.log2 < 1920 := by
  have : ((msP r).getD j 0).natAbs ≤ 1 := by
    by_cases hj : j < (msP r).length
    · have := List.all_eq_true.mp (List.all_eq_true.mp msP_ball r (List.mem_range.mpr h)) (msP r)[j] (List.getElem_mem hj)
      simpa [hj] using this
    · simp [List.getElem?_eq_none (Nat.not_lt.mp hj)]
  have c : ((msP r).getD j 0).natAbs = 0 ∨ ((msP r).getD j 0).natAbs = 1 := by omega
  rcases c with c | c <;> rw [c] <;> decide
theorem range_getDI {α : Type} {l : List Int} {F : Int → α} : (List.range l.length).map (fun k => F (l.getD k 0)) = l.map F := by
  apply List.ext_getElem?
  intro k
  by_cases hk : k < l.length
  · simp [hk]
  · simp [hk]
theorem ms_sz : ((List.range 6).all fun r => decide ((Txt.mul (Str.ofString "-1") (5 - (r : Int)) ++ Str.ofString "0").length + (Txt.mul (Str.ofString "1") (r : Int)).length ≤ 1000) && decide ((Txt.mul (Str.ofString "-1") (5 - (r : Int))).length + (Str.ofString "0").length ≤ 1000)) = true := by decide +kernel
theorem ms_size {r : Nat} (h : r < 6) : (Txt.mul (Str.ofString "-1") (5 - (r : Int)) ++ Str.ofString "0").length + (Txt.mul (Str.ofString "1") (r : Int)).length ≤ 1000 := by
  have := List.all_eq_true.mp ms_sz r (List.mem_range.mpr h)
  rw [Bool.and_eq_true] at this; exact of_decide_eq_true this.1
theorem ms_size2 {r : Nat} (h : r < 6) : (Txt.mul (Str.ofString "-1") (5 - (r : Int))).length + (Str.ofString "0").length ≤ 1000 := by
  have := List.all_eq_true.mp ms_sz r (List.mem_range.mpr h)
  rw [Bool.and_eq_true] at this; exact of_decide_eq_true this.2
theorem mulOkS (x : Str) {n : Int} (h0 : 0 ≤ n) (h5 : n ≤ 5) (hx : x.length ≤ 2) : MulOk x n := by
  have c : n = 0 ∨ n = 1 ∨ n = 2 ∨ n = 3 ∨ n = 4 ∨ n = 5 := by omega
  have t : ∀ k, k ≤ 10 → Builtin.Str.tooLong k = false := fun k hk => decide_eq_false (by show ¬ k > sizeLine; have : sizeLine = 16777216 := rfl; omega)
  rcases c with rfl | rfl | rfl | rfl | rfl | rfl
  · exact ⟨by decide, fun h => absurd (by decide) h, fun h => absurd (by decide) h⟩
  · exact ⟨by decide, fun _ h => by simp at h, fun _ h => by simp at h⟩
  · exact ⟨by decide, fun _ _ => by have : ((2 : Int) ^ 63 - 1) / 2 = 4611686018427387903 := by decide
                                    omega, fun _ _ => t _ (by show x.length * 2 ≤ 10; omega)⟩
  · exact ⟨by decide, fun _ _ => by have : ((2 : Int) ^ 63 - 1) / 3 = 3074457345618258602 := by decide
                                    omega, fun _ _ => t _ (by show x.length * 3 ≤ 10; omega)⟩
  · exact ⟨by decide, fun _ _ => by have : ((2 : Int) ^ 63 - 1) / 4 = 2305843009213693951 := by decide
                                    omega, fun _ _ => t _ (by show x.length * 4 ≤ 10; omega)⟩
  · exact ⟨by decide, fun _ _ => by have : ((2 : Int) ^ 63 - 1) / 5 = 1844674407370955161 := by decide
                                    omega, fun _ _ => t _ (by show x.length * 5 ≤ 10; omega)⟩
theorem Dt.cs_get (d : Dt) {i : Nat} (hi : i < 6) : d.cs[i]? = some (d.c i) := by
  have h1 : i < d.cs.length := by rw [d.cl]; exact hi
  simp [Dt.c, h1]
theorem Dt.cs_six (d : Dt) : d.cs = (List.range 6).map d.c := by
  apply List.ext_getElem?
  intro i
  by_cases hi : i < 6
  · rw [d.cs_get hi, List.getElem?_map, List.getElem?_range hi]; rfl
  · rw [List.getElem?_eq_none (by rw [d.cl]; omega), List.getElem?_eq_none (by simp; omega)]
theorem pairs_find (d : Dt) {j : Nat} : ∀ {n : Nat}, j < n → n ≤ 6 → ((pairsP d n).find? fun p => p.1 = ch (d.c j)).map (·.2) = some (VI (d.r j : Nat))
  | n + 1, hj, hn => by
    unfold pairsP
    rw [List.range_succ, List.map_append, List.find?_append]
    by_cases h : j < n
    · have ih := pairs_find d (n := n) h (by omega)
      unfold pairsP at ih
      cases q : ((List.range n).map fun j => ((ch (d.c j), VI (d.r j : Nat)) : Str × VP)).find? fun p => p.1 = ch (d.c j) with
      | none => rw [q] at ih; cases ih
      | some z => rw [q] at ih; exact ih
    · have hjn : j = n := by omega
      subst hjn
      have : (((List.range j).map fun i => ((ch (d.c i), VI (d.r i : Nat)) : Str × VP)).find? fun p => p.1 = ch (d.c j)) = none := by
        rw [List.find?_eq_none]
        intro p hp q
        obtain ⟨i, hi, rfl⟩ := List.mem_map.mp hp
        have hi := List.mem_range.mp hi
        have := d.c_inj (by omega) (by omega) (ch_inj (of_decide_eq_true q))
        omega
      rw [this]; simp
theorem pairs_new (d : Dt) {n : Nat} (hn : n < 6) : ch (d.c n) ∉ (pairsP d n).map (·.1) := fun q => by
  obtain ⟨p, hp, e⟩ := List.mem_map.mp q
  obtain ⟨i, hi, rfl⟩ := List.mem_map.mp hp
  have hi := List.mem_range.mp hi
  have := d.c_inj (by omega) hn (ch_inj e)
  omega
theorem pairs_succ (d : Dt) (n : Nat) : pairsP d n ++ [(ch (d.c n), VI (d.r n : Nat))] = pairsP d (n + 1) := by
  unfold pairsP; rw [List.range_succ, List.map_append]; rfl
theorem pairs_flt (d : Dt) {n : Nat} : ∀ p ∈ pairsP d n, Flt p.2 := fun p hp => by
  obtain ⟨i, _, rfl⟩ := List.mem_map.mp hp; exact vi_flt
noncomputable abbrev XsP (d : Dt) : List Nat := d.cs.map rkC
noncomputable abbrev TJ (Pr : Addr) (h : Heap) : Prop := h.get? Pr = some (tabObj #[])
theorem tj_stb {Pr : Addr} : Stb [Pr] (TJ Pr) := fun h h' e x => e Pr (.head _) _ x
noncomputable abbrev rkR (P : Addr) : Rho := [(nm "ranks", VE (.ref P)), (nm "row", VL d.RW)]
theorem rk1_j {P Pr : Addr} (hlv : 1 ≤ W.lv) (hP : 123 < P) (hPr : Pr ≠ P) (K : RkOk d) : PXJ W (rkEnv L) ([P] ++ [Pr]) rk1.1 (rkR d P) (fun h => DJ sK W.w P (pairsP d 0) h ∧ TJ Pr h) (rkR d P) (fun h => DJ sK W.w P (pairsP d 6) h ∧ TJ Pr h) := by
  have sbG : ∀ i, Stb ([P] ++ [Pr]) (fun h => DJ sK W.w P (pairsP d i) h ∧ TJ Pr h) := fun i h h' e x => ⟨DJ.stb (pairs_flt d) h h' (fun a ha => e a (List.mem_append_left _ ha)) x.1, e Pr (List.mem_append_right _ (.head _)) _ x.2⟩
  rw [show (fun h => DJ sK W.w P (pairsP d 6) h ∧ TJ Pr h) = (fun h => DJ sK W.w P (pairsP d d.RW.length) h ∧ TJ Pr h) by rw [d.rw_len]]
  refine PXJ.forW (fun _ => rkR d P) (fun i h => DJ sK W.w P (pairsP d i) h ∧ TJ Pr h) sbG (PE.nm 1 rfl) WSrc.list (.inr ⟨by kernel_rfl, by kernel_rfl⟩) (fun _ h => h) (fun i p hp => ?_) (fun i hi => ?_)
  · rcases List.mem_cons.mp hp with rfl | hp
    · show nm "ranks" ≠ nm "sign"; decide
    · cases List.mem_singleton.mp hp; show nm "row" ≠ nm "sign"; decide
  rw [d.rw_len] at hi
  rw [d.rw_at hi]
  have ci := K.sg i hi
  have Xn : (XsP d).Nodup := K.xn
  have Xl : (XsP d).length = 6 := by rw [List.length_map, d.cl]
  have Xi : rkC (d.c i) ∈ XsP d := List.mem_map_of_mem (List.mem_of_getElem? (d.cs_get hi))
  have ri := K.r hi
  have r6 : d.r i < 6 := by rw [ri, ← Xl]; exact rkP_lt _ (List.mem_map_of_mem Xi)
  have et : flat (fun _ => true) (fun j => [VI (sc (kS (d.c i)) (kS (d.c j)))]) 6 = (toldP (XsP d) (rkC (d.c i))).map VI := by
    rw [flat_one, toldP, XsP, d.cs_six, List.map_map, List.map_map, List.map_map]
    refine List.map_congr_left fun j hj => ?_
    have hj := List.mem_range.mp hj
    show VI _ = VI _
    rw [sc_eq ci (K.sg j hj)]
  refine PSJ.cons (ρ' := (nm "told", VL ((toldP (XsP d) (rkC (d.c i))).map VI)) :: (nm "sign", d.S i) :: rkR d P) (PXJ.of (PX.comp (ρc := pick _ [0]) (n := 6) [] (fun _ => true) (fun j => [VI (sc (kS (d.c i)) (kS (d.c j)))])
      (body := fun D C => lastBody _ (.ref D) _) (ESrc.list (PE.nm 2 rfl) d.rw_len) (by kernel_rfl) (by kernel_rfl) pick_mem (fun I D C => rfl) (fun C k hk => PTs.nil) (fun A g D C j hj _ _ _ _ _ hDC => ?_) ?_ (.inl (by kernel_rfl)) (by rw [et]; exact up [0, 1, 2] rfl (by kernel_rfl))) (sbG i)) ?_
  · rw [d.rw_at hj]
    exact Stage.last hDC (PE.calldef (PE.global (by kernel_rfl) (g_strcoll _)) (k_strcoll _) (PA.cons (str_tok ci (PE.builtin (by kernel_rfl) (g_str _) b_str (by decide)) (PE.global (by kernel_rfl) (g_tok _)) (PE.nm 1 rfl)) (PA.cons (str_tok (K.sg j hj) (PE.builtin (by kernel_rfl) (g_str _) b_str (by decide)) (PE.global (by kernel_rfl) (g_tok _)) (PE.nm 0 rfl)) PA.nil)) (FC.strcoll hlv))
  · exact Nat.le_of_ble_eq_true rfl
  have ec : (toldP (XsP d) (rkC (d.c i))).count 1 = d.r i := by rw [told_count, if_pos rfl, ri]
  refine PSJ.cons (PXJ.and (PXJ.dictSet (k := ch (d.c i)) (V := VI (d.r i : Nat)) (KV := d.S i) rfl (pairs_flt d) vi_flt (by unfold pairsP; simp; omega) (pairs_new d hi) (PE.of (PE.method tyL F.plainAttrs_list F.slot_list_count F.type_list_count (PE.nm 0 rfl) (PA.cons PE.int PA.nil) FC.count) (by rw [ec])) (PE.nm 2 rfl) (PE.nm 1 rfl) (fun h v p => by obtain ⟨t, rfl⟩ := p; show Value.isStrOf _ (.str _ t) = true; simp [Value.isStrOf])) tj_stb (fun a ha => by cases List.mem_singleton.mp ha; exact fun q => hPr (List.mem_singleton.mp q))) ?_
  rw [pairs_succ]
  have ms := List.all_eq_true.mp ms_all (d.r i) (List.mem_range.mpr r6)
  rw [Bool.and_eq_true, Bool.and_eq_true, decide_eq_true_eq, decide_eq_true_eq] at ms
  obtain ⟨ms1, ms2, ms3⟩ := ms
  refine PSJ.cons (PXJ.ite (b := false) (sbG (i + 1)) [(nm "told", VL ((toldP (XsP d) (rkC (d.c i))).map VI)), (nm "sign", d.S i), (nm "ranks", VD fun k => if k = ch (d.c i) then some (VI (d.r i : Nat)) else none)] (fun p hp => ?_) (PT.of (PT.cmp F2.neS (PE.method tyS F.plainAttrs_str F.slot_str_join F.type_str_join PE.str (PA.cons (PE.of (PE.comp (ρc := pick _ []) (n := (msP (d.r i)).length) [] (fun _ => true) (fun j => [VS (Str.ofString (toString ((msP (d.r i)).getD j 0)))])
      (body := fun D C => lastBody _ (.ref D) _) (ESrc.list (Vs := (msP (d.r i)).map VI) (PE.callb (PE.builtin (by kernel_rfl) (g_sorted _) b_sorted (by decide)) (PA.cons (PE.nm 0 rfl) PA.nil) (FC.sortedI (by rw [ri]; exact told_perm Xl Xn Xi) ms1 ?_)) (List.length_map _)) (by kernel_rfl) (by kernel_rfl) pick_mem (fun I D C => rfl) (fun C k hk => PTs.nil) (fun A g D C j hj _ _ _ _ _ hDC => ?_) ?_) (V' := VL (((msP (d.r i)).map fun n => Str.ofString (toString n)).map VS)) ?_) PA.nil) (FC.join ms2))
      (PE.binop (F2.addS ?_) (PE.binop (F2.addS ?_) (PE.binop (F2.mulS (mulOkS _ ?_ ?_ ?_)) PE.str (PE.binop F2.sub PE.int (PE.sub (F2.itemD (if_pos rfl)) (PE.nm 2 rfl) (PE.nm 1 rfl)))) PE.str) (PE.binop (F2.mulS (mulOkS _ ?_ ?_ ?_)) PE.str (PE.sub (F2.itemD (if_pos rfl)) (PE.nm 2 rfl) (PE.nm 1 rfl))))) ?_) (fun h => by cases h) (fun _ => PSJ.weak PSJ.nil (ρ'' := rkR d P) (sub [2, 3] rfl))) PSJ.nil
  · rcases List.mem_cons.mp hp with rfl | hp
    · exact .inl (.head _)
    rcases List.mem_cons.mp hp with rfl | hp
    · exact .inl (.tail _ (.head _))
    · cases List.mem_singleton.mp hp
      refine .inr ⟨P, .tail _ (.tail _ (.head _)), fun h x => VDJ.vd (W := W) (fun k V e => ?_) h _ (vdj_of hP x.1)⟩
      split at e
      · rename_i hk; cases e; rw [hk]; exact pairs_find d (Nat.lt_succ_self i) hi
      · cases e
  · rw [toldP, List.length_map, Xl]; decide
  · rw [vAtI hj]
    exact Stage.last hDC (PE.callt (PE.builtin (by kernel_rfl) (g_str _) b_str (by decide)) (PA.cons (PE.nm 0 rfl) PA.nil) (FC.strI (msP_small r6 j)))
  · exact Nat.le_trans (flat_len (m := 1) fun _ _ => Nat.le_refl _) (by have := msP_len r6; omega)
  · rw [flat_one, List.map_map]
    have := range_getDI (l := msP (d.r i)) (F := fun n => VS (Str.ofString (toString n)))
    rw [this]; rfl
  · exact ms_size r6
  · exact ms_size2 r6
  · omega
  · omega
  · exact Nat.le_of_ble_eq_true (by kernel_rfl)
  · omega
  · omega
  · exact Nat.le_of_ble_eq_true (by kernel_rfl)
  · rw [ms3]; simp
theorem code86 (h : Heap) (P : Params) (X : (KF P).In h) : CodeHd h 86 84 := ⟨_, _, _, _, _, _, _, _, _, X _ _ (by with_unfolding_all rfl), rfl, rfl, rfl, rfl, rfl, rfl, rfl, rfl, by decide⟩
theorem rk2_j (hlv : 1 ≤ W.lv) (K : RkOk d) {V : VP} : PXJ W (rkEnv L) [84] rk2.1 [(nm "ranks", V), (nm "row", VL d.RW)] (TJ 84) [(nm "order", VL d.OR), (nm "ranks", V)] (GrJ 84) := by
  have q6 : ∀ k ∈ six, d.q k < 6 := fun k hk => (K.q (List.mem_range.mp ((show six = List.range 6 by decide) ▸ hk))).2
  refine PXJ.sortKey (x := nm "sign") (ρc := pick _ []) (Vs := d.RW) (U := fun i => VS (kS (d.c i))) (c := 86) (Srt := fun _ xs => xs.toList.Pairwise leS) rfl hlv rfl (fun h X => code86 h _ X) (by kernel_rfl) (by kernel_rfl) pick_mem rfl rfl (fun _ _ _ _ _ _ => rfl) rfl (PE.builtin (by kernel_rfl) (g_sorted _) b_sorted (by decide)) (PE.nm 1 rfl) (fun f c' L' i hi => ?_)
    (fun vs hvs A => skEnv_str (fun i => kS (d.c i)) vs (by rw [hvs, d.rw_len]; decide) (by rw [hvs, d.rw_len]; decide) rfl) (fun h vs out hv ho => ?_) (.inl (by kernel_rfl)) (up [0] rfl (by kernel_rfl)) (by kernel_rfl) rfl rfl rfl rfl rfl
  · rw [d.rw_len] at hi
    rw [d.rw_at hi]
    exact str_tok (K.sg i hi) (PE.builtin (by kernel_rfl) (g_str _) b_str (by decide)) (PE.global (by kernel_rfl) (g_tok _)) (PE.nm 0 rfl)
  · have hl := hv.length
    rw [d.rw_len] at hl
    have := sk_outP (le := leS) hv ho (q := six.map d.q) (by rw [d.rw_len]; exact K.qp) (fun keys hk hK => ?_)
    · rw [List.map_map] at this
      rw [Dt.OR, show six.map (fun k => d.S (d.q k)) = six.map (vAt d.RW ∘ d.q) from List.map_congr_left fun k hk => (d.rw_at (q6 k hk)).symm]
      exact this
    · rw [List.pairwise_map, List.pairwise_map]
      have hs : six.Pairwise (· < ·) := by decide
      refine hs.imp_of_mem fun {a b} ha hb hab => ?_
      have ka : ∀ k ∈ six, strL (keyAt keys vs (d.q k)).1 = (kS (d.c (d.q k))).cps.toList := fun k hk' => by
        have h6 := q6 k hk'
        have hlt : d.q k < keys.length := by omega
        obtain ⟨_, t, e⟩ := hK (d.q k) _ (List.getElem?_eq_getElem hlt)
        simp [keyAt, hlt, e, strL]
      have a6 : a < 6 := List.mem_range.mp ((show six = List.range 6 by decide) ▸ ha)
      have b6 : b < 6 := List.mem_range.mp ((show six = List.range 6 by decide) ▸ hb)
      have lt : (kS (d.c (d.q a))).cps.toList < (kS (d.c (d.q b))).cps.toList := by
        rw [kS_iff (K.sg _ (q6 a ha)) (K.sg _ (q6 b hb)), ← cntLt_iff (X := d.cs.map rkC) (List.mem_map_of_mem (List.mem_of_getElem? (d.cs_get (q6 a ha)))) (List.mem_map_of_mem (List.mem_of_getElem? (d.cs_get (q6 b hb)))), ← K.r (q6 a ha), ← K.r (q6 b hb), (K.q a6).1, (K.q b6).1]
        exact hab
      unfold leS
      rw [ka a ha, ka b hb]
      exact ⟨fun q => List.lt_irrefl _ (List.lt_trans q lt), fun q => q lt⟩
theorem rank_find (d : Dt) (k : Str) (V : VP) (e : d.rank k = some V) : ((pairsP d 6).find? fun p => p.1 = k).map (·.2) = some V := by
  unfold Dt.rank at e
  cases q : d.cs.findIdx? fun c => ch c == k with
  | none => rw [q] at e; cases e
  | some i =>
    rw [q] at e
    obtain ⟨hi, h1, _⟩ := List.findIdx?_eq_some_iff_getElem.mp q
    have hi6 : i < 6 := by rw [← d.cl]; exact hi
    have : k = ch (d.c i) := by rw [← beq_iff_eq.mp h1]; simp [Dt.c, hi]
    rw [this, pairs_find d hi6 (Nat.le_refl _)]; exact e
/-- what _law_ranks hands back -/
noncomputable def VRk (W : Wd) (d : Dt) (g : Heap) : VP := ⟨fun h v => ∃ P, v = .ref P ∧ g.get? P = none ∧ P ≠ 84 ∧ (VDJ sK W.w (pairsP d 6)).p h v, fun k ⟨P, e, a, b, c⟩ => ⟨P, e, a, b, (VDJ sK W.w (pairsP d 6)).mono k c⟩⟩
theorem rk_body {g0 : Heap} (hlv : 1 ≤ W.lv) (K : RkOk d) : PRJ g0 W (rkEnv L) [84] rkD.1.2.1 (zipRho [nm "row"] [VL d.RW]) (TJ 84) (VRk W d g0) := by
  show PRJ g0 W (rkEnv L) [84] [rk0.1, rk1.1, rk2.1, rk3.1] [(nm "row", VL d.RW)] (TJ 84) (VRk W d g0)
  refine PRJ.newDict (knd := sK) (ρ' := [(nm "row", VL d.RW)]) (.inr ⟨by kernel_rfl, by kernel_rfl⟩) (fun p hp => ?_) tj_stb (fun P hP hPn => ?_) (by kernel_rfl)
  · cases List.mem_singleton.mp hp; exact ⟨show nm "row" ≠ nm "ranks" by decide, .head _⟩
  have hne : (84 : Addr) ≠ P := fun q => hPn (List.mem_singleton.mpr q.symm)
  refine PRJ.cons (rk1_j W L d hlv hP hne K) ?_
  refine PRJ.rest (Ps := [P]) (Ps₂ := [84]) (J₂ := TJ 84) (ρ' := [(nm "ranks", VA (VE (.ref P)) (VDJ sK W.w (pairsP d 6))), (nm "row", VL d.RW)]) (fun h _ a ha o _ => zt_big (by cases List.mem_singleton.mp ha; exact hP)) (DJ.stb (pairs_flt d)) (fun a ha q => by cases List.mem_singleton.mp ha; exact hne (List.mem_singleton.mp q)) (fun p hp => ?_) (fun hg => ?_)
  · rcases List.mem_cons.mp hp with rfl | hp
    · exact .inr ⟨P, .head _, fun h x => ⟨rfl, vdj_of hP x⟩⟩
    · cases List.mem_singleton.mp hp; exact .inl (.tail _ (.head _))
  refine PRJ.cons (rk2_j W L d hlv K) ?_
  refine PRJ.reveal (ρ' := [(nm "order", VL d.OR), (nm "ranks", VA (VE (.ref P)) (VDJ sK W.w (pairsP d 6)))]) (fun h x a ha o e => zt_gr x ha e) GrJ.stb (fun p hp => .inl hp) fun _ => ?_
  have eo : flat (fun _ => true) (fun k => [VI (d.r (d.q k) : Nat)]) 6 = ([0, 1, 2, 3, 4, 5] : List Int).map VI := by
    rw [flat_one]
    show [VI (d.r (d.q 0) : Nat), VI (d.r (d.q 1) : Nat), VI (d.r (d.q 2) : Nat), VI (d.r (d.q 3) : Nat), VI (d.r (d.q 4) : Nat), VI (d.r (d.q 5) : Nat)] = _
    rw [(K.q (k := 0) (by decide)).1, (K.q (k := 1) (by decide)).1, (K.q (k := 2) (by decide)).1, (K.q (k := 3) (by decide)).1, (K.q (k := 4) (by decide)).1, (K.q (k := 5) (by decide)).1]
    rfl
  refine PRa.ret (U := VA (VE (.ref P)) (VDJ sK W.w (pairsP d 6))) (PE.ifexp (b := true) (PT.of (PT.cmp (F2.eqIs (ns := [0, 1, 2, 3, 4, 5]) (ms := [0, 1, 2, 3, 4, 5])) (PE.of (PE.comp (ρc := pick _ [1]) (n := 6) [] (fun _ => true) (fun k => [VI (d.r (d.q k) : Nat)])
      (body := fun D C => lastBody _ (.ref D) _) (ESrc.list (PE.nm 0 rfl) rfl) (by kernel_rfl) (by kernel_rfl) pick_mem (fun I D C => rfl) (fun C k hk => PTs.nil) (fun A g D C k hk _ _ _ _ _ hDC => ?_) (Nat.le_of_ble_eq_true rfl)) (congrArg VL eo)) (PE.list (PA.cons PE.int (PA.cons PE.int (PA.cons PE.int (PA.cons PE.int (PA.cons PE.int (PA.cons PE.int PA.nil)))))) (Nat.le_of_ble_eq_true rfl))) (by decide)) (fun _ => PE.nm 1 rfl) (fun h => by cases h)) fun h v p => ?_
  · rw [vAt_of (d.or_get hk)]
    exact Stage.last hDC (PE.sub (F2.itemD (d.rank_at (K.q hk).2)) (PE.weak (PE.nm 1 rfl) fun h v p => VDJ.vd (rank_find d) h v p.2) (PE.nm 0 rfl))
  · obtain ⟨p1, p2⟩ := p
    exact ⟨P, p1, hg P (.head _), fun q => hne q.symm, p2⟩
end
end Mine
-- Ls
namespace Mine
theorem FInv.hid {W : Wd} {g0 : Heap} {A : Around} {env : Env} {Mu : List Addr} {ρ : Rho} {h : Heap} (I : FInv W g0 A env Mu ρ h) {P : Addr} (hP : P ∈ Mu ∧ ¬ Own W env P) : FInv W g0 A env (less Mu [P]) [] (hideAll h [P]) := by
  have st : g0.StaysIn (hideAll h [P]) := fun b o e => hideAll_get _ (I.keep b o e) (fun q => by
    cases List.mem_singleton.mp q; rw [(I.mu P hP.1).1] at e; cases e)
  have nO : ∀ {b}, Own W env b → b ∉ [P] := fun q z => hP.2 (List.mem_singleton.mp z ▸ q)
  obtain ⟨m, hns⟩ := I.ns
  refine ⟨I.S, st, I.above, ⟨m, hns.at' fun o e => hideAll_get _ e (nO (.inl rfl))⟩, mem_less.mpr ⟨I.lm, nO (.inl rfl)⟩, fun a ha => ?_, fun x c e => ?_, I.apart, fun p hp => (by cases hp), fun b hb => mem_less.mpr ⟨I.hfm b hb, nO (.inr (.inr hb))⟩, fun b hb => ?_, I.hap, I.sa⟩
  · obtain ⟨a1, a2⟩ := mem_less.mp ha
    obtain ⟨z, o, e⟩ := I.mu a a1
    exact ⟨z, o, hideAll_get _ e a2⟩
  · obtain ⟨q, v, o, e', r⟩ := I.cel x c e
    exact ⟨mem_less.mpr ⟨q, nO (.inr (.inl ⟨x, e⟩))⟩, v, o, hideAll_get _ e' (nO (.inr (.inl ⟨x, e⟩))), r⟩
  · obtain ⟨o, sl, z, e, q⟩ := I.fr b hb; exact ⟨o, sl, z, hideAll_get _ e (nO (.inr (.inr hb))), q⟩
theorem FInv.ctHid {W : Wd} {g0 : Heap} {A : Around} {env : Env} {Mu : List Addr} {ρ : Rho} {h : Heap} (I : FInv W g0 A env Mu ρ h) {P : Addr} (hP : P ∈ Mu ∧ ¬ Own W env P) : Ct W A (hideAll h [P]) := (I.hid hP).inv.ct
noncomputable def law4 : { t // lawD.1.2.1[4]? = some t } := ⟨_, by with_unfolding_all rfl⟩
noncomputable def law5 : { t // lawD.1.2.1[5]? = some t } := ⟨_, by with_unfolding_all rfl⟩
noncomputable def law6 : { t // lawD.1.2.1[6]? = some t } := ⟨_, by with_unfolding_all rfl⟩
noncomputable def law7 : { t // lawD.1.2.1[7]? = some t } := ⟨_, by with_unfolding_all rfl⟩
noncomputable def law8 : { t // lawD.1.2.1[8]? = some t } := ⟨_, by with_unfolding_all rfl⟩
theorem g_ranks (P : Params) : nsIn (KF P) mainGlobals (nm "_law_ranks") = some (some (.ref 87)) := by kernel_rfl
theorem k_ranks (P : Params) : keepIn (KF P) (.ref 87) = true := by kernel_rfl
theorem rk_fn (P : Params) : ∃ oc od osl doc pm an ct name, (KF P).lookup 87 = some ⟨oc, od, .func (fnOf name (nm "_law_ranks") rkD.1.1 rkD.1.2.1 rkD.1.2.2 .none .none doc pm an (.ref 86) ct), osl⟩ := ⟨_, _, _, _, _, _, _, _, (by with_unfolding_all rfl : (KF P).lookup 87 = some (fnO _ _ _ _)).trans (congrArg some (fn_eq rkD.2))⟩
theorem rk_code (P : Params) : codeIn (KF P) (.ref 86) (nm "_law_ranks") = true := by kernel_rfl
section
variable (W : Wd) (L : Addr) (d : Dt) (ns : List Int)
noncomputable abbrev rho4 : Rho := [(nm "row", VL d.RW), (nm "numbers", VL ((List.range 6).map fun i => VI (numI ns i)))]
noncomputable abbrev rho5 : Rho := (nm "rank", VDJ sK W.w (pairsP d 6)) :: rho4 d ns
theorem law4_j (hlv : 2 ≤ W.lv) (K : RkOk d) : PXJ W (lawEnv L (.ref 122)) [84] law4.1 (rho4 d ns) (TJ 84) (rho5 W d ns) (GrJ 84) := by
  intro g0 A Mu s Q E hP I hJ kk
  refine wpAny_Assign_Name (Call_ (PE.global (by kernel_rfl) (g_ranks _) (by decide) A Mu s _ _ I.inv fun v h₁ tk₁ k₁ p₁ => ?_))
  cases p₁
  refine callWith_K (I.mono k₁).inv.ct.X (k_ranks _) (PA.cons (PE.nm 0 rfl) PA.nil rfl A Mu { s with heap := h₁, toks := tk₁ } _ _ (I.mono k₁).inv fun vs h₂ tk₂ k₂ p₂ => ⟨((I.mono k₁).mono k₂).inv.ct.X, ?_⟩)
  have I₂ := (I.mono k₁).mono k₂
  have k12 : s.heap.StaysIn h₂ := stays_trans k₁ k₂
  have hT₂ := k12 _ _ hJ
  obtain ⟨oc, od, osl, doc, pm, an, ct, name, ho⟩ := rk_fn W.w.params
  have hlen := p₂.length
  refine call_def (s := { s with heap := h₂, toks := tk₂ }) (W := W) (A := A) (g0 := hideAll h₂ [84]) (X := [84]) (MuC := Mu) (Vs := [VL d.RW]) (xs := [nm "row"]) (by omega) (I₂.ctHid (hP _ (.head _))).weak hid_le (Nat.le_of_eq (hideAll_size _ _)) ho (rk_code _) ?_ (by decide) hlen ?_ ?_ p₂ (fun a ha => ?_) rfl rfl rfl fun L' h₃ tk₃ k₃ I₃ hown E' => ?_
  · match vs, hlen with
    | [v], _ => rfl
  · intro n x hx
    cases List.mem_singleton.mp hx
    exact .inl (by kernel_rfl)
  · exact of_decide_eq_true (by with_unfolding_all rfl)
  · cases List.mem_singleton.mp ha
    exact ⟨(hP _ (.head _)).1, hideAll_none _ (.head _), _, hT₂⟩
  · refine rk_body W.down L' d (g0 := hideAll h₂ [84]) (by show 1 ≤ W.lv - 1; omega) K _ _ { s with heap := h₃, toks := tk₃ } _ _ (fun a ha => ?_) I₃ (k₃ _ _ hT₂) fun v h₄ tk₄ k₄ x₄ _ p₄ => ?_
    · cases List.mem_singleton.mp ha
      exact ⟨List.mem_append_left _ (.head _), fun q => by have := hown _ q; rw [show h₂.get? 84 = none from this] at hT₂; cases hT₂⟩
    · obtain ⟨P, rfl, hg, hne, P', e, lo, kvs, ⟨o, es, ep, ho, r⟩, hv⟩ := p₄
      cases e
      have hg2 : h₂.get? P = none := by
        cases q : h₂.get? P with
        | none => rfl
        | some o' => rw [hideAll_get _ q (fun z => hne (List.mem_singleton.mp z))] at hg; cases hg
      have hPM : P ∉ Mu := fun q => by obtain ⟨_, o', e⟩ := I₂.mu P q; rw [hg2] at e; cases e
      have kp : ∀ b o, b ∉ [84] → h₂.get? b = some o → h₄.get? b = some o := fun b o hb e => k₄ b o (fun q => by rw [show h₂.get? b = none from hown b q] at e; cases e) hb (k₃ b o e)
      have I₄ : FInv W g0 A (lawEnv L (.ref 122)) Mu (rho4 d ns) h₄ := I₂.off (Ch := [84]) kp fun a ha => ⟨(hP a ha).1, (hP a ha).2, let ⟨o, e, _⟩ := x₄ a ha; ⟨o, e⟩⟩
      refine I₄.store (s := { s with heap := h₄, toks := tk₄ }) (V := VDJ sK W.w (pairsP d 6)) (ρ' := rho5 W d ns) (.inr ⟨by kernel_rfl, by kernel_rfl⟩) ⟨P, rfl, lo, kvs, ⟨o, es, ep, hideAll_get _ ho hPM, r⟩, hv.flat (pairs_flt d)⟩ (up [0, 1] rfl (by kernel_rfl)) fun h₅ tk₅ k₅ I₅ => kk h₅ tk₅ (fun b o hb hn e => k₅ b o hb (kp b o hn (k12 _ _ e))) I₅ (let ⟨_, e, z⟩ := x₄ 84 (.head _); let ⟨ps, q⟩ := z (.inl rfl); ⟨ps, k₅ 84 _ (hP 84 (.head _)).2 (q ▸ e)⟩)
end
end Mine
-- Lt
namespace Mine
theorem code122 (h : Heap) (P : Params) (X : (KF P).In h) : CodeHd h 122 120 := ⟨_, _, _, _, _, _, _, _, _, X _ _ (by with_unfolding_all rfl), rfl, rfl, rfl, rfl, rfl, rfl, rfl, rfl, by decide⟩
theorem g_told (P : Params) : nsIn (KF P) mainGlobals (nm "_law_told") = some (some (.ref 106)) := by kernel_rfl
theorem k_told (P : Params) : keepIn (KF P) (.ref 106) = true := by kernel_rfl
theorem g_ends (P : Params) : nsIn (KF P) mainGlobals (nm "_law_ends") = some (some (.ref 118)) := by kernel_rfl
theorem k_ends (P : Params) : keepIn (KF P) (.ref 118) = true := by kernel_rfl
structure LawD (W : Wd) (d : Dt) (sh : Int) : Prop where
  told : FCs W (.ref 106) [VL d.RW, VL d.OR, VI sh] (VS (d.txt six))
  ends : FC W (.ref 118) [VS (d.txt six)] (VB true)
section
variable (W : Wd) (L : Addr) (d : Dt) (ns : List Int)
noncomputable abbrev lwEnv (L : Addr) : Env := lawEnv L (.ref 122)
theorem law5_x : PX W (lwEnv L) law5.1 (rho5 W d ns) (rho5 W d ns) :=
  PX.ite (b := false) (PT.cmp (F2.eqD (knd := sK) (l := pairsP d 6) (r := []) (by unfold pairsP; simp)) (PE.nm 0 rfl) PE.dict0) (fun h => by cases h) (fun _ => PS.nil)
noncomputable abbrev rho6 : Rho := (nm "order", VL d.OR) :: rho5 W d ns
theorem law6_j (hlv : 1 ≤ W.lv) (K : RkOk d) : PXJ W (lwEnv L) [120] law6.1 (rho5 W d ns) (TJ 120) (rho6 W d ns) (GrJ 120) := by
  have q6 : ∀ k ∈ six, d.q k < 6 := fun k hk => (K.q (List.mem_range.mp ((show six = List.range 6 by decide) ▸ hk))).2
  refine PXJ.sortKey (x := nm "sign") (ρc := pick _ [0]) (Vs := d.RW) (U := fun i => VI (d.r i : Nat)) (c := 122) (Srt := fun _ xs => xs.toList.Pairwise leN) rfl hlv rfl (fun h X => code122 h _ X) (by kernel_rfl) (by kernel_rfl) pick_mem rfl rfl (fun _ _ _ _ _ _ => rfl) rfl (PE.builtin (by kernel_rfl) (g_sorted _) b_sorted (by decide)) (PE.nm 1 rfl) (fun f c' L' i hi => ?_)
    (fun vs hvs A => skEnv_int (fun i => ((d.r i : Nat) : Int)) vs (by rw [hvs, d.rw_len]; decide) (by rw [hvs, d.rw_len]; decide) rfl) (fun h vs out hv ho => ?_) (.inr ⟨by kernel_rfl, by kernel_rfl⟩) (up [0, 1, 2] rfl (by kernel_rfl)) (by kernel_rfl) rfl rfl rfl rfl rfl
  · rw [d.rw_len] at hi
    rw [d.rw_at hi]
    exact PE.sub (F2.itemD (d.rank_at hi)) (PE.weak (PE.nm 1 rfl) fun h v p => VDJ.vd (W := W) (rank_find d) h v p) (PE.nm 0 rfl)
  · have hl := hv.length
    rw [d.rw_len] at hl
    have := sk_outP (le := leN) hv ho (q := six.map d.q) (by rw [d.rw_len]; exact K.qp) (fun keys hk hK => ?_)
    · rw [List.map_map] at this
      rw [Dt.OR, show six.map (fun k => d.S (d.q k)) = six.map (vAt d.RW ∘ d.q) from List.map_congr_left fun k hk => (d.rw_at (q6 k hk)).symm]
      exact this
    · rw [List.pairwise_map, List.pairwise_map]
      have hs : six.Pairwise (· < ·) := by decide
      refine hs.imp_of_mem fun {a b} ha hb hab => ?_
      have ka : ∀ k ∈ six, numOf (keyAt keys vs (d.q k)).1 = (k : Int) := fun k hk' => by
        have h6 := q6 k hk'
        have hlt : d.q k < keys.length := by omega
        obtain ⟨_, t, e⟩ := hK (d.q k) _ (List.getElem?_eq_getElem hlt)
        have k6 : k < 6 := List.mem_range.mp ((show six = List.range 6 by decide) ▸ hk')
        rw [(K.q k6).1] at e
        simp [keyAt, hlt, e, numOf]
      unfold leN
      rw [ka a ha, ka b hb]
      omega
theorem law7_x (hst : W.st = true) (C : LawD W d ((numI ns 0).fdiv 23)) (hp : Builtin.divisionGoesByPylong (numI ns 0) 23 = false) : PX W (lwEnv L) law7.1 (rho6 W d ns) ((nm "text", VS (d.txt six)) :: rho6 W d ns) :=
  PX.assignS (PEs.call hst (PE.global (by kernel_rfl) (g_told _)) (k_told _) (PA.cons (PE.nm 2 rfl) (PA.cons (PE.nm 0 rfl) (PA.cons (PE.binop (F2.floordiv (x := numI ns 0) (by decide) hp) (PE.sub (F2.itemL (k := 0) (by decide) (by decide) rfl) (PE.nm 3 rfl) PE.int) PE.int) PA.nil))) C.told) vs_flt (.inr ⟨by kernel_rfl, by kernel_rfl⟩) (up [0, 1, 2, 3] rfl (by kernel_rfl)) (by kernel_rfl)
theorem law8_x {sh : Int} (C : LawD W d sh) : PX W (lwEnv L) law8.1 ((nm "text", VS (d.txt six)) :: rho6 W d ns) ((nm "text", VS (d.txt six)) :: rho6 W d ns) := by
  have er : VL d.RW = VL ((six.map fun k => ch (d.c k)).map VS) := by rw [d.rw_six]; rfl
  refine PX.ite (b := false) (PT.of (PT.or (PAny.cons (PT.cmp F2.neS (PE.nm 0 rfl) (PE.method tyS F.plainAttrs_str F.slot_str_join F.type_str_join PE.str (PA.cons (PE.of (PE.nm 3 rfl) er) PA.nil) (FC.join (d.joinOk (by decide))))) fun _ => PAny.cons (PT.not (PT.value (PE.calldef (PE.global (by kernel_rfl) (g_ends _)) (k_ends _) (PA.cons (PE.nm 0 rfl) PA.nil) C.ends))) fun _ => PAny.nil)) ?_) (fun h => by cases h) (fun _ => PS.nil)
  rw [d.join]; simp
end
end Mine
-- Lu
namespace Mine
theorem PRa.conv {W : Wd} {env : Env} {ρ ρ' : Rho} {g0 : Heap} {sts : List Stmt} {V : VP} (hc : ∀ p ∈ ρ', ∃ U, (p.1, U) ∈ ρ ∧ ∀ h v, U.p h v → p.2.p h v) (h : PRa g0 W env sts ρ' V) : PRa g0 W env sts ρ V := fun A Mu s Q E I k =>
  h A Mu s Q E ⟨I.S, I.keep, I.above, I.ns, I.lm, I.mu, I.cel, I.apart, fun p hp => let ⟨U, hU, hi⟩ := hc p hp; let ⟨v, l, q⟩ := I.vars _ hU; ⟨v, l, hi _ _ q⟩, I.hfm, I.fr, I.hap, I.sa⟩ k
theorem erase_perm : ∀ {l : List Nat} {k : Nat}, k < l.length → (l.getD k 0 :: l.eraseIdx k).Perm l
  | a :: l, 0, _ => by simp
  | a :: l, k + 1, h => by
    have ih := erase_perm (l := l) (k := k) (Nat.lt_of_succ_lt_succ h)
    show ((a :: l).getD (k + 1) 0 :: a :: l.eraseIdx k).Perm (a :: l)
    rw [show (a :: l).getD (k + 1) 0 = l.getD k 0 by simp]
    exact (List.Perm.swap a (l.getD k 0) _).trans (ih.cons a)
theorem row_perm (ns : List Int) : ∀ {i : Nat}, i ≤ 6 → (csP ns i ++ sgP ns i).Perm sgn
  | 0, _ => List.Perm.refl _
  | i + 1, h => by
    have ih := row_perm ns (i := i) (by omega)
    have hk := kP_lt ns (i := i) (by omega)
    have hl := sgP_len ns (i := i) (by omega)
    show ((csP ns i ++ [(sgP ns i).getD (kP ns i) 0]) ++ (sgP ns i).eraseIdx (kP ns i)).Perm sgn
    rw [List.append_assoc]
    exact ((erase_perm (by omega)).append_left _).trans ih
theorem csP_nd (ns : List Int) : (csP ns 6).Nodup := by
  have := (row_perm ns (i := 6) (Nat.le_refl _)).nodup_iff.mpr (show sgn.Nodup by decide)
  exact (List.nodup_append.mp this).1
theorem csP_sgn (ns : List Int) : ∀ x ∈ csP ns 6, x ∈ sgn := fun x hx => (row_perm ns (i := 6) (Nat.le_refl _)).mem_iff.mp (List.mem_append_left _ hx)
/-- the row of a script -/
noncomputable def dOf (ns : List Int) : Dt where
  cs := csP ns 6
  p := rkP ((csP ns 6).map rkC)
  cl := csP_len ns 6
  pl := by rw [rkP, List.length_map, List.length_map]; exact csP_len ns 6
  nd := csP_nd ns
theorem dOf_ok (ns : List Int) : RkOk (dOf ns) := ⟨fun i hi => by
  have h1 : i < (csP ns 6).length := by rw [csP_len]; exact hi
  refine csP_sgn ns _ ?_
  have : (dOf ns).c i = (csP ns 6)[i] := by simp [Dt.c, dOf, h1]
  rw [this]; exact List.getElem_mem h1, rfl⟩
theorem dOf_ne (ns : List Int) : ∀ i, i < 6 → (dOf ns).c i ≠ 46 := fun i hi q => by
  have := (dOf_ok ns).sg i hi
  rw [q] at this; exact absurd this (by decide)
theorem num0 (ns : List Int) : 1498 ≤ numI ns 0 ∧ numI ns 0 < 1001498 := by
  have h1 := Int.fmod_lt_of_pos ((xsP ns).getD 0 0) (show (0 : Int) < 1000000 by decide)
  have h2 := Int.fmod_nonneg_of_pos ((xsP ns).getD 0 0) (show (0 : Int) < 1000000 by decide)
  have : numI ns 0 = 1498 + ((xsP ns).getD 0 0).fmod 1000000 := rfl
  omega
noncomputable def shP (ns : List Int) : Int := (numI ns 0).fdiv 23
theorem shP_in (ns : List Int) : 65 ≤ shP ns ∧ shP ns < 43544 := by
  have ⟨a, b⟩ := num0 ns
  unfold shP
  rw [Int.fdiv_eq_ediv_of_nonneg _ (by decide)]
  omega
section
variable (W : Wd) (L : Addr) (ns : List Int)
theorem law_body {g0 : Heap} (hn : ns.length ≤ 2000000) (hlv : 2 ≤ W.lv) (hst : W.st = true) (D : LawD W (dOf ns) (shP ns)) : PRJ g0 W (lwEnv L) ([84] ++ [120]) lawD.1.2.1 [(nm "script", VL (ns.map VI))] (fun h => TJ 84 h ∧ TJ 120 h) (VB true) := by
  have K := dOf_ok ns
  have C := lawC W hlv (dOf ns) (dOf_ne ns)
  have sbT : Stb ([84] ++ [120]) (fun h => TJ 84 h ∧ TJ 120 h) := fun h h' e x => ⟨e 84 (.head _) _ x.1, e 120 (.tail _ (.head _)) _ x.2⟩
  have erw : (dOf ns).RW = chV (csP ns 6) := rfl
  show PRJ g0 W (lwEnv L) ([84] ++ [120]) (law0.1 :: law1.1 :: law2.1 :: law3.1 :: law4.1 :: law5.1 :: law6.1 :: law7.1 :: law8.1 :: lawD.1.2.1.drop 9) [(nm "script", VL (ns.map VI))] (fun h => TJ 84 h ∧ TJ 120 h) (VB true)
  refine PRJ.cons (PXJ.of (law0_x W L (.ref 122) ns hn) sbT) (law1_j W L (.ref 122) ns sbT fun S hS => ?_)
  have sbS : Stb ([S] ++ ([84] ++ [120])) (fun h => LJ S (sgn.map fun c => VS (ch c)) h ∧ (TJ 84 h ∧ TJ 120 h)) := fun h h' e x => ⟨LJ.stb chV_flt h h' (fun a ha => e a (List.mem_append_left _ ha)) x.1, sbT h h' (fun a ha => e a (List.mem_append_right _ ha)) x.2⟩
  refine PRJ.newL (ρ' := (nm "signs", VE (.ref S)) :: rho1 ns) (.inr ⟨by kernel_rfl, by kernel_rfl⟩) (fun p hp => ⟨?_, hp⟩) sbS (fun R hR hRn => ?_) (by kernel_rfl)
  · rcases List.mem_cons.mp hp with rfl | hp
    · show nm "signs" ≠ nm "row"; decide
    · cases List.mem_singleton.mp hp; show nm "numbers" ≠ nm "row"; decide
  have hRS : R ≠ S := fun q => hRn (q ▸ .head _)
  refine PRJ.imp (J' := fun h => (LJ R (chV (csP ns 0)) h ∧ LJ S (chV (sgP ns 0)) h) ∧ (TJ 84 h ∧ TJ 120 h)) ?_ fun h x => ⟨⟨x.1, x.2.1⟩, x.2.2⟩
  show PRJ g0 W (lwEnv L) ([R, S] ++ ([84] ++ [120])) _ _ _ _
  have hd : ∀ a ∈ ([84] ++ [120] : List Addr), a ∉ [R, S] := fun a ha q => by
    rcases List.mem_cons.mp q with rfl | q
    · exact hRn (List.mem_append_right _ ha)
    · cases List.mem_singleton.mp q; exact hS ha
  refine PRJ.cons (PXJ.and (law3_j W L (.ref 122) ns hRS) sbT hd) ?_
  refine PRJ.rest (Ps := [R, S]) (Ps₂ := [84] ++ [120]) (J := fun h => LJ R (chV (csP ns 6)) h ∧ LJ S (chV (sgP ns 6)) h) (J₂ := fun h => TJ 84 h ∧ TJ 120 h) (ρ' := rho4 (dOf ns) ns) (fun h _ a ha o _ => by
    rcases List.mem_cons.mp ha with rfl | ha
    · exact zt_big hR
    · cases List.mem_singleton.mp ha
      intro q; exact absurd (by rcases q with rfl | rfl <;> simp) hS) (fun h h' e x => ⟨LJ.stb chV_flt h h' (fun a ha => e a (by cases List.mem_singleton.mp ha; exact .head _)) x.1, LJ.stb chV_flt h h' (fun a ha => e a (by cases List.mem_singleton.mp ha; exact .tail _ (.head _))) x.2⟩) hd (fun p hp => ?_) (fun _ => ?_)
  · rcases List.mem_cons.mp hp with rfl | hp
    · exact .inr ⟨R, .head _, fun h x => by rw [erw]; exact x.1.vl⟩
    · cases List.mem_singleton.mp hp; exact .inl (.tail _ (.tail _ (.head _)))
  have hne : ∀ a ∈ ([120] : List Addr), a ∉ ([84] : List Addr) := by decide
  refine PRJ.cons (PXJ.and (law4_j W L (dOf ns) ns hlv K) tj_stb hne) ?_
  refine PRJ.rest (Ps := [84]) (Ps₂ := [120]) (J := GrJ 84) (J₂ := TJ 120) (ρ' := rho5 W (dOf ns) ns) (fun h x a ha o e => zt_gr x ha e) GrJ.stb hne (fun p hp => .inl hp) (fun _ => ?_)
  refine PRJ.cons (PXJ.of (law5_x W L (dOf ns) ns) tj_stb) (PRJ.cons (law6_j W L (dOf ns) ns (by omega) K) ?_)
  refine PRJ.reveal (ρ' := rho6 W (dOf ns) ns) (fun h x a ha o e => zt_gr x ha e) GrJ.stb (fun p hp => .inl hp) fun _ => ?_
  refine PRa.cons (law7_x W L (dOf ns) ns hst D (PyProof.noPylong_small (by have := num0 ns; omega))) (PRa.cons (law8_x W L (dOf ns) ns D) ?_)
  refine PRa.conv (ρ' := rho8 (dOf ns)) (fun p hp => ?_) (law_tail W L (.ref 122) (dOf ns) C K.plain.1 K.plain.2 g0)
  rcases List.mem_cons.mp hp with rfl | hp
  · exact ⟨_, .tail _ (.tail _ (.tail _ (.head _))), fun _ _ h => h⟩
  rcases List.mem_cons.mp hp with rfl | hp
  · exact ⟨_, .tail _ (.tail _ (.head _)), fun h v p => VDJ.vd (W := W) (rank_find (dOf ns)) h v p⟩
  rcases List.mem_cons.mp hp with rfl | hp
  · exact ⟨_, .head _, fun _ _ h => h⟩
  · cases List.mem_singleton.mp hp
    exact ⟨_, .tail _ (.head _), fun _ _ h => h⟩
end
end Mine
-- Lv
namespace Mine
noncomputable def tdD : { t // PG.theDef (Str.ofString "_law_told") = some t } := ⟨_, by with_unfolding_all rfl⟩
noncomputable abbrev tdEnv (L : Addr) : Env := defEnv (nm "_law_told") tdD.1.2.2 L 106 (.ref 105)
noncomputable def td0 : { t // tdD.1.2.1[0]? = some t } := ⟨_, by with_unfolding_all rfl⟩
noncomputable def td1 : { t // tdD.1.2.1[1]? = some t } := ⟨_, by with_unfolding_all rfl⟩
noncomputable def td2 : { t // tdD.1.2.1[2]? = some t } := ⟨_, by with_unfolding_all rfl⟩
/-- an item of a temporary -/
theorem F2.temp {W : Wd} {value slice : Expr} {V₁ V₂ V : VP} (h : F2 W (subscriptTail (.Name ⟨#[]⟩ ⟨0, 0, 0, 0⟩) slice) V₁ V₂ V) : F2 W (subscriptTail value slice) V₁ V₂ V := fun A Mu s a b Q E ct mu p1 p2 k => kba_turn (fun r => rfl) (h A Mu s a b Q E ct mu p1 p2 k)
theorem F2.addB {W : Wd} {x y : Str} (hsz : x.length + y.length ≤ 1000000) : F2 W (binaryOp .Add) (VS x) (VS y) (VS (x ++ y)) := by
  rintro A Mu s _ _ Q E ct mu ⟨t, rfl⟩ ⟨u, rfl⟩ k; exact PyProof.Rows.add_str (fun t' tk => k _ s.heap _ stays_refl ⟨_, rfl⟩) (Nat.le_trans hsz (by decide))
theorem g_port (P : Params) : nsIn (KF P) mainGlobals (nm "_law_port") = some (some (.ref 94)) := by kernel_rfl
theorem k_port (P : Params) : keepIn (KF P) (.ref 94) = true := by kernel_rfl
theorem g_spoil (P : Params) : nsIn (KF P) mainGlobals (nm "_law_spoiled") = some (some (.ref 101)) := by kernel_rfl
theorem k_spoil (P : Params) : keepIn (KF P) (.ref 101) = true := by kernel_rfl
/-- the figures of a place, and the replies -/
noncomputable def figS (j : Nat) (sh : Int) : Str := (([nm "", nm "0", nm " "] : List Str).getD ((j + 1) % 3) (nm "")) ++ Str.ofString (toString (1000 * ((j : Int) + 1) + sh))
noncomputable def kdI (j : Nat) (sh : Int) : Int := ((j : Int) + 1 + sh).fmod 6
noncomputable def marksS (c j : Nat) : Str := Txt.mul (ch c ++ Txt.mul (nm "7") ((((j : Int) + 1)).fmod 2)) 2 ++ ch c
noncomputable def goodS (c j : Nat) (sh : Int) : Str := nm "229 b) (" ++ marksS c j ++ figS j sh ++ ch c ++ nm ") ()"
theorem seven_len {j : Nat} (hj : j < 6) : (Txt.mul (nm "7") ((((j : Int) + 1)).fmod 2)).length ≤ 1 := Nat.le_of_ble_eq_true (by
  match j, hj with
  | 0, _ => kernel_rfl
  | 1, _ => kernel_rfl
  | 2, _ => kernel_rfl
  | 3, _ => kernel_rfl
  | 4, _ => kernel_rfl
  | 5, _ => kernel_rfl)
theorem app_len (x y : Str) : (x ++ y).length = x.length + y.length := by
  show (x.cps ++ y.cps).size = _; rw [Array.size_append]; rfl
theorem marks_eq {c j : Nat} (hj : j < 6) : marksS c j = if j % 2 = 0 then ⟨#[c, 55, c, 55, c]⟩ else ⟨#[c, c, c]⟩ := by
  match j, hj with
  | 0, _ => kernel_rfl
  | 1, _ => kernel_rfl
  | 2, _ => kernel_rfl
  | 3, _ => kernel_rfl
  | 4, _ => kernel_rfl
  | 5, _ => kernel_rfl
theorem marks_len {c j : Nat} (hj : j < 6) : (marksS c j).length ≤ 5 := by
  rw [marks_eq hj]; split
  · exact Nat.le_refl 5
  · exact Nat.le_of_ble_eq_true rfl
theorem mul2_len {c j : Nat} (hj : j < 6) : (Txt.mul (ch c ++ Txt.mul (nm "7") ((((j : Int) + 1)).fmod 2)) 2).length ≤ 4 := by
  have := marks_len (c := c) hj
  unfold marksS at this
  rw [app_len] at this
  have h1 : (ch c).length = 1 := rfl
  omega
theorem fig_len {j : Nat} {sh : Int} (hj : j < 6) (hsh : 65 ≤ sh ∧ sh < 43544) : (figS j sh).length ≤ 60000 := by
  have := len_str_of_int (1000 * ((j : Int) + 1) + sh)
  have h2 : (([nm "", nm "0", nm " "] : List Str).getD ((j + 1) % 3) (nm "")).length ≤ 1 := by
    have : ∀ m, m < 3 → (([nm "", nm "0", nm " "] : List Str).getD m (nm "")).length ≤ 1 := fun m hm => Nat.le_of_ble_eq_true (by
      match m, hm with
      | 0, _ => kernel_rfl
      | 1, _ => kernel_rfl
      | 2, _ => kernel_rfl)
    exact this _ (Nat.mod_lt _ (by decide))
  unfold figS
  rw [app_len]; omega
structure PortC (W : Wd) (d : Dt) (sh : Int) (bad : Nat → Str) : Prop where
  spoil : ∀ j, j < 6 → FC W (.ref 101) [VS (ch (d.c j)), VI ((j : Int) + 1), VS (figS j sh), VI (kdI j sh)] (VS (bad j))
  badp : ∀ j, j < 6 → FCs W (.ref 94) [VS (bad j), VT [VS (ch (d.c j)), VI ((j : Int) + 1)]] (VS (if kdI j sh = 0 then nm "reply" else nm "proto"))
  good : ∀ j, j < 6 → d.c j ≠ 41 → FCs W (.ref 94) [VS (goodS (d.c j) j sh), VT [VS (ch (d.c j)), VI ((j : Int) + 1)]] (VI (1000 * ((j : Int) + 1) + sh))
  paren : ∀ j, j < 6 → d.c j = 41 → FCs W (.ref 94) [VS (goodS (d.c j) j sh), VT [VS (ch (d.c j)), VI ((j : Int) + 1)]] (VS (nm "proto"))
noncomputable def lineP (d : Dt) (sh : Int) : Nat → List (Int × VP)
  | 0 => []
  | k + 1 => lineP d sh k ++ (if d.c (d.q k) = 41 then [] else [(1000 * ((d.q k : Int) + 1) + sh, VS (ch (d.c (d.q k))))])
theorem line_flt (d : Dt) (sh : Int) : ∀ k, ∀ p ∈ lineP d sh k, Flt p.2
  | 0, p, hp => by cases hp
  | k + 1, p, hp => by
    rcases List.mem_append.mp hp with q | q
    · exact line_flt d sh k p q
    · split at q
      · cases q
      · cases List.mem_singleton.mp q; exact vs_flt
theorem line_key (d : Dt) (sh : Int) : ∀ k, ∀ p ∈ lineP d sh k, ∃ m, m < k ∧ p.1 = 1000 * ((d.q m : Int) + 1) + sh
  | 0, p, hp => by cases hp
  | k + 1, p, hp => by
    rcases List.mem_append.mp hp with q | q
    · obtain ⟨m, hm, e⟩ := line_key d sh k p q; exact ⟨m, by omega, e⟩
    · split at q
      · cases q
      · cases List.mem_singleton.mp q; exact ⟨k, by omega, rfl⟩
theorem line_len (d : Dt) (sh : Int) : ∀ k, (lineP d sh k).length ≤ k
  | 0 => Nat.le_refl _
  | k + 1 => by
    have := line_len d sh k
    rw [lineP, List.length_append]
    split <;> simp <;> omega
section
variable (W : Wd) (L : Addr) (d : Dt) (sh : Int)
noncomputable abbrev tdR (P : Addr) : Rho := [(nm "line", VE (.ref P)), (nm "row", VL d.RW), (nm "order", VL d.OR), (nm "shift", VI sh)]
theorem Dt.idx (d : Dt) {j : Nat} (hj : j < 6) : (d.cs.map fun c => ch c).idxOf (ch (d.c j)) = j ∧ ch (d.c j) ∈ (d.cs.map fun c => ch c) := by
  have h1 : j < d.cs.length := by rw [d.cl]; exact hj
  have hm : ch (d.c j) ∈ (d.cs.map fun c => ch c) := List.mem_map_of_mem (List.mem_of_getElem? (d.cs_get hj))
  refine ⟨?_, hm⟩
  have hn : (d.cs.map fun c => ch c).Nodup := by
    unfold List.Nodup
    rw [List.pairwise_map]
    exact d.nd.imp fun hab q => hab (ch_inj q)
  have h2 : j < (d.cs.map fun c => ch c).length := by rw [List.length_map]; exact h1
  have h3 := List.idxOf_lt_length_iff.mpr hm
  refine (List.getElem_inj (h₀ := h3) (h₁ := h2) hn).mp ?_
  rw [List.getElem_idxOf, List.getElem_map]
  simp [Dt.c, h1]
theorem td1_j (hst : W.st = true) {P : Addr} (hP : 123 < P) {bad : Nat → Str} (C : PortC W d sh bad) (K : RkOk d) (hsh : 65 ≤ sh ∧ sh < 43544) (hfl : ∀ j, j < 6 → True) : PXJ W (tdEnv L) [P] td1.1 (tdR d sh P) (DJ iK W.w P (lineP d sh 0)) (tdR d sh P) (DJ iK W.w P (lineP d sh 6)) := by
  have e6 : (DJ iK W.w P (lineP d sh 6)) = (DJ iK W.w P (lineP d sh d.OR.length)) := rfl
  rw [e6]
  refine PXJ.forW (fun _ => tdR d sh P) (fun i => DJ iK W.w P (lineP d sh i)) (fun i => DJ.stb (line_flt d sh i)) (PE.nm 2 rfl) WSrc.list (.inl (by kernel_rfl)) (fun _ h => h) (fun i p hp => ?_) (fun k hk => ?_)
  · have : ((tdR d sh P).all fun p => !(p.1 == nm "sign")) = true := by kernel_rfl
    simpa using List.all_eq_true.mp this p hp
  have hk : k < 6 := hk
  have hj := (K.q hk).2
  rw [vAt_of (d.or_get hk)]
  have hlt : ∀ m, m < 6 → d.q m < 6 := fun m hm => (K.q hm).2
  generalize hjq : d.q k = j at hj
  have er : VL d.RW = VL ((d.cs.map fun c => ch c).map VS) := by rw [Dt.RW, List.map_map]; rfl
  refine PSJ.cons (ρ' := (nm "place", VI ((j : Int) + 1)) :: (nm "sign", d.S j) :: tdR d sh P) (PXJ.of (PX.assign (PE.binop F2.add (PE.of (PE.method tyL F.plainAttrs_list F.slot_list_index F.type_list_index (PE.of (PE.nm 2 rfl) er) (PA.cons (PE.nm 0 rfl) PA.nil) (FC.index (d.idx hj).2 (by rw [List.length_map, d.cl]; decide))) (V' := VI (j : Int)) (by rw [(d.idx hj).1])) PE.int) (.inl (by kernel_rfl)) (up [0, 1, 2, 3, 4] rfl (by kernel_rfl)) (by kernel_rfl)) (DJ.stb (line_flt d sh k))) ?_
  refine PSJ.cons (ρ' := (nm "figures", VS (figS j sh)) :: (nm "place", VI ((j : Int) + 1)) :: (nm "sign", d.S j) :: tdR d sh P) (PXJ.of (PX.assign (PE.binop (F2.addB ?_) (PE.sub (F2.temp (F2.itemL (k := ((j : Int) + 1).fmod 3) (V := VS (([nm "", nm "0", nm " "] : List Str).getD ((j + 1) % 3) (nm ""))) ?_ ?_ ?_)) (PE.list (PA.cons PE.str (PA.cons PE.str (PA.cons PE.str PA.nil))) (Nat.le_of_ble_eq_true rfl)) (PE.binop (F2.mod (by decide)) (PE.nm 0 rfl) PE.int)) (PE.callt (PE.builtin (by kernel_rfl) (g_str _) b_str (by decide)) (PA.cons (PE.binop F2.add (PE.binop (F2.mul (mulOk (by decide))) PE.int (PE.nm 0 rfl)) (PE.nm 5 rfl)) PA.nil) (FC.strI ?_))) (.inl (by kernel_rfl)) (up [0, 1, 2, 3, 4, 5] rfl (by kernel_rfl)) (by kernel_rfl)) (DJ.stb (line_flt d sh k))) ?_
  · have := len_str_of_int (1000 * ((j : Int) + 1) + sh)
    have h2 : (([nm "", nm "0", nm " "] : List Str).getD ((j + 1) % 3) (nm "")).length ≤ 1 := by
      have : ∀ m, m < 3 → (([nm "", nm "0", nm " "] : List Str).getD m (nm "")).length ≤ 1 := fun m hm => Nat.le_of_ble_eq_true (by
        match m, hm with
        | 0, _ => kernel_rfl
        | 1, _ => kernel_rfl
        | 2, _ => kernel_rfl)
      exact this _ (Nat.mod_lt _ (by decide))
    omega
  · exact Int.fmod_nonneg_of_pos _ (by decide)
  · have := Int.fmod_lt_of_pos ((j : Int) + 1) (show (0 : Int) < 3 by decide); omega
  · have e : (((j : Int) + 1).fmod 3).toNat = (j + 1) % 3 := by
      rw [Int.fmod_eq_emod_of_nonneg _ (by decide)]; omega
    rw [e]
    have hm : (j + 1) % 3 < 3 := Nat.mod_lt _ (by decide)
    generalize (j + 1) % 3 = m at hm
    match m, hm with
    | 0, _ => rfl
    | 1, _ => rfl
    | 2, _ => rfl
  · have h2 : (1000 * ((j : Int) + 1) + sh).natAbs < 2 ^ 60 := by omega
    exact Nat.lt_of_lt_of_le ((Nat.log2_lt (by omega)).mpr h2) (by decide)
  refine PSJ.cons (ρ' := (nm "kind", VI (kdI j sh)) :: (nm "figures", VS (figS j sh)) :: (nm "place", VI ((j : Int) + 1)) :: (nm "sign", d.S j) :: tdR d sh P) (PXJ.of (PX.assign (PE.binop (F2.mod (by decide)) (PE.binop F2.add (PE.nm 1 rfl) (PE.nm 6 rfl)) PE.int) (.inl (by kernel_rfl)) (up [0, 1, 2, 3, 4, 5, 6] rfl (by kernel_rfl)) (by kernel_rfl)) (DJ.stb (line_flt d sh k))) ?_
  refine PSJ.cons (PXJ.of (PX.iteS (b := false) (V₁ := VS (if kdI j sh = 0 then nm "reply" else nm "proto")) (V₂ := VS (if kdI j sh = 0 then nm "reply" else nm "proto")) (PEs.call hst (PE.global (by kernel_rfl) (g_port _)) (k_port _) (PA.cons (PE.calldef (PE.global (by kernel_rfl) (g_spoil _)) (k_spoil _) (PA.cons (PE.nm 3 rfl) (PA.cons (PE.nm 2 rfl) (PA.cons (PE.nm 1 rfl) (PA.cons (PE.nm 0 rfl) PA.nil)))) (C.spoil j hj)) (PA.cons (PE.tuple (PA.cons (PE.nm 3 rfl) (PA.cons (PE.nm 2 rfl) PA.nil)) (Nat.le_of_ble_eq_true rfl)) PA.nil)) (C.badp j hj)) vs_flt ?_
    (PE.ifexp (b := kdI j sh != 0) (V := VS (if kdI j sh = 0 then nm "reply" else nm "proto")) (PT.valueI (PE.nm 0 rfl)) (fun h => ?_) fun h => ?_) (fun h => by cases h) (fun _ => PS.nil)) (DJ.stb (line_flt d sh k))) ?_
  · have := F2.neS (W := W) (x := if kdI j sh = 0 then nm "reply" else nm "proto") (y := if kdI j sh = 0 then nm "reply" else nm "proto")
    rwa [show ((if kdI j sh = 0 then nm "reply" else nm "proto") != (if kdI j sh = 0 then nm "reply" else nm "proto")) = false by simp] at this
  · rw [if_neg (by simpa using h)]; exact PE.str
  · rw [if_pos (by simpa using h)]; exact PE.str
  refine PSJ.cons (ρ' := (nm "marks", VS (marksS (d.c j) j)) :: (nm "kind", VI (kdI j sh)) :: (nm "figures", VS (figS j sh)) :: (nm "place", VI ((j : Int) + 1)) :: (nm "sign", d.S j) :: tdR d sh P) (PXJ.of (PX.assign (PE.binop (F2.addB ?_) (PE.binop (F2.mulS ?_) (PE.binop (F2.addB ?_) (PE.nm 3 rfl) (PE.binop (F2.mulS ?_) PE.str (PE.binop (F2.mod (by decide)) (PE.nm 2 rfl) PE.int))) PE.int) (PE.nm 3 rfl)) (.inl (by kernel_rfl)) (up [0, 1, 2, 3, 4, 5, 6, 7] rfl (by kernel_rfl)) (by kernel_rfl)) (DJ.stb (line_flt d sh k))) ?_
  · have : (Txt.mul (ch (d.c j) ++ Txt.mul (Str.ofString "7") (((j : Int) + 1).fmod 2)) 2).length ≤ 4 := mul2_len (c := d.c j) hj
    have h1 : (ch (d.c j)).length = 1 := rfl
    omega
  · refine mulOkS _ (by decide) (by decide) ?_
    have : (Txt.mul (Str.ofString "7") (((j : Int) + 1).fmod 2)).length ≤ 1 := seven_len hj
    have h1 : (ch (d.c j)).length = 1 := rfl
    rw [app_len]; omega
  · have : (Txt.mul (Str.ofString "7") (((j : Int) + 1).fmod 2)).length ≤ 1 := seven_len hj
    have h1 : (ch (d.c j)).length = 1 := rfl
    omega
  · refine mulOkS _ (Int.fmod_nonneg_of_pos _ (by decide)) ?_ (Nat.le_of_ble_eq_true (by kernel_rfl))
    have := Int.fmod_lt_of_pos ((j : Int) + 1) (show (0 : Int) < 2 by decide); omega
  have l8 : (nm "229 b) (").length = 8 := by kernel_rfl
  have l4 : (nm ") ()").length = 4 := by kernel_rfl
  have l1 : (ch (d.c j)).length = 1 := rfl
  have lm := marks_len (c := d.c j) hj
  have lf := fig_len hj hsh
  have s1 : (nm "229 b) (").length + (marksS (d.c j) j).length ≤ 1000000 := by omega
  have s2 : (nm "229 b) (" ++ marksS (d.c j) j).length + (figS j sh).length ≤ 1000000 := by rw [app_len]; omega
  have s3 : (nm "229 b) (" ++ marksS (d.c j) j ++ figS j sh).length + (ch (d.c j)).length ≤ 1000000 := by rw [app_len, app_len]; omega
  have s4 : (nm "229 b) (" ++ marksS (d.c j) j ++ figS j sh ++ ch (d.c j)).length + (nm ") ()").length ≤ 1000000 := by rw [app_len, app_len, app_len]; omega
  have arg : PE W (tdEnv L) ((nm "marks", VS (marksS (d.c j) j)) :: (nm "kind", VI (kdI j sh)) :: (nm "figures", VS (figS j sh)) :: (nm "place", VI ((j : Int) + 1)) :: (nm "sign", d.S j) :: tdR d sh P) (.Name (nm "sign") ⟨145, 0, 145, 0⟩) (d.S j) := PE.nm 4 rfl
  by_cases hc : d.c j = 41
  · refine PSJ.cons (ρ' := (nm "port", VS (nm "proto")) :: (nm "sign", d.S j) :: tdR d sh P) (PXJ.of (PX.assignS (PEs.call hst (PE.global (by kernel_rfl) (g_port _)) (k_port _) (PA.cons (PE.binop (F2.addB s4) (PE.binop (F2.addB s3) (PE.binop (F2.addB s2) (PE.binop (F2.addB s1) PE.str (PE.nm 0 rfl)) (PE.nm 2 rfl)) (PE.nm 4 rfl)) PE.str) (PA.cons (PE.tuple (PA.cons (PE.nm 4 rfl) (PA.cons (PE.nm 3 rfl) PA.nil)) (Nat.le_of_ble_eq_true rfl)) PA.nil)) (C.paren j hj hc)) vs_flt (.inl (by kernel_rfl)) (up [4, 5, 6, 7, 8] rfl (by kernel_rfl)) (by kernel_rfl)) (DJ.stb (line_flt d sh k))) ?_
    have el : lineP d sh (k + 1) = lineP d sh k := by rw [lineP, hjq, if_pos hc, List.append_nil]
    rw [el]
    refine PSJ.cons (PXJ.of (PX.ite (b := false) (PT.of (PT.cmp F2.neS (PE.nm 1 rfl) PE.str) ?_) (fun h => by cases h) fun _ => PS.cons (PX.ite (b := false) (PT.of (PT.cmp F2.neS (PE.nm 0 rfl) PE.str) (by simp)) (fun h => by cases h) fun _ => PS.nil) PS.nil) (DJ.stb (line_flt d sh k))) (PSJ.weak PSJ.nil (sub [2, 3, 4, 5] rfl))
    rw [hc]; kernel_rfl
  · refine PSJ.cons (ρ' := (nm "port", VI (1000 * ((j : Int) + 1) + sh)) :: (nm "sign", d.S j) :: tdR d sh P) (PXJ.of (PX.assignS (PEs.call hst (PE.global (by kernel_rfl) (g_port _)) (k_port _) (PA.cons (PE.binop (F2.addB s4) (PE.binop (F2.addB s3) (PE.binop (F2.addB s2) (PE.binop (F2.addB s1) PE.str (PE.nm 0 rfl)) (PE.nm 2 rfl)) (PE.nm 4 rfl)) PE.str) (PA.cons (PE.tuple (PA.cons (PE.nm 4 rfl) (PA.cons (PE.nm 3 rfl) PA.nil)) (Nat.le_of_ble_eq_true rfl)) PA.nil)) (C.good j hj hc)) vi_flt (.inl (by kernel_rfl)) (up [4, 5, 6, 7, 8] rfl (by kernel_rfl)) (by kernel_rfl)) (DJ.stb (line_flt d sh k))) ?_
    have el : lineP d sh (k + 1) = lineP d sh k ++ [(1000 * ((j : Int) + 1) + sh, VS (ch (d.c j)))] := by rw [lineP, hjq, if_neg hc]
    rw [el]
    refine PSJ.cons (PXJ.ite (b := true) (DJ.stb (line_flt d sh k)) ((nm "port", VI (1000 * ((j : Int) + 1) + sh)) :: (nm "sign", d.S j) :: tdR d sh P) (fun p hp => .inl hp) (PT.of (PT.cmp F2.neS (PE.nm 1 rfl) PE.str) ?_) (fun _ => PSJ.cons (PXJ.dictSet (k := 1000 * ((j : Int) + 1) + sh) (V := VS (ch (d.c j))) (KV := VI (1000 * ((j : Int) + 1) + sh)) rfl (line_flt d sh k) vs_flt (Nat.le_trans (line_len d sh k) (by omega)) ?_ (PE.nm 1 rfl) (PE.nm 2 rfl) (PE.nm 0 rfl) (fun h v p => by obtain ⟨t, rfl⟩ := p; show Value.isInt _ (.int _ t) = true; simp [Value.isInt])) PSJ.nil) (fun h => by cases h)) (PSJ.weak PSJ.nil (sub [2, 3, 4, 5] rfl))
    · show (ch (d.c j) != nm ")") = true
      have e41 : nm ")" = ch 41 := by kernel_rfl
      rw [e41, bne_iff_ne]
      exact fun q => hc (ch_inj q)
    · intro q
      obtain ⟨p, hp, e⟩ := List.mem_map.mp q
      obtain ⟨m, hm, e'⟩ := line_key d sh k p hp
      have : d.q m = j := by omega
      have r1 := (K.q (k := m) (by omega)).1
      have r2 := (K.q hk).1
      rw [this] at r1; rw [hjq] at r2; omega
end
end Mine
-- Lw
namespace Mine
theorem td_fn (P : Params) : ∃ oc od osl doc pm an ct name, (KF P).lookup 106 = some ⟨oc, od, .func (fnOf name (nm "_law_told") tdD.1.1 tdD.1.2.1 tdD.1.2.2 .none .none doc pm an (.ref 105) ct), osl⟩ := ⟨_, _, _, _, _, _, _, _, (by with_unfolding_all rfl : (KF P).lookup 106 = some (fnO _ _ _ _)).trans (congrArg some (fn_eq tdD.2))⟩
theorem td_code (P : Params) : codeIn (KF P) (.ref 105) (nm "_law_told") = true := by kernel_rfl
section
variable (W : Wd) (L : Addr) (d : Dt) (sh : Int)
theorem RkOk.q_r {d : Dt} (K : RkOk d) {i : Nat} (hi : i < 6) : d.q (d.r i) = i ∧ d.r i < 6 := by
  have h1 : i < d.p.length := by rw [d.pl]; exact hi
  have e : d.r i = d.p[i] := by simp [Dt.r, h1]
  have hm : d.p[i] ∈ d.p := List.getElem_mem h1
  refine ⟨?_, by rw [e]; exact K.p6 _ hm⟩
  have h3 := List.idxOf_lt_length_iff.mpr hm
  unfold Dt.q
  rw [e]
  exact (List.getElem_inj (h₀ := h3) (h₁ := h1) K.pn).mp (List.getElem_idxOf h3)
theorem q_inj {d : Dt} (K : RkOk d) {a b : Nat} (ha : a < 6) (hb : b < 6) (h : d.q a = d.q b) : a = b := by
  have r1 := (K.q ha).1
  have r2 := (K.q hb).1
  rw [h] at r1; omega
theorem line_find (K : RkOk d) {m : Nat} : ∀ {k : Nat}, m < k → k ≤ 6 → d.c (d.q m) ≠ 41 → ((lineP d sh k).find? fun p => p.1 = 1000 * ((d.q m : Int) + 1) + sh).map (·.2) = some (VS (ch (d.c (d.q m))))
  | k + 1, hm, hk, hc => by
    rw [lineP, List.find?_append]
    by_cases h : m < k
    · have ih := line_find K (k := k) h (by omega) hc
      cases q : (lineP d sh k).find? fun p => p.1 = 1000 * ((d.q m : Int) + 1) + sh with
      | none => rw [q] at ih; cases ih
      | some z => rw [q] at ih; exact ih
    · have hmk : m = k := by omega
      subst hmk
      have : ((lineP d sh m).find? fun p => p.1 = 1000 * ((d.q m : Int) + 1) + sh) = none := by
        rw [List.find?_eq_none]
        intro p hp q
        obtain ⟨i, hi, e⟩ := line_key d sh m p hp
        have q := of_decide_eq_true q
        have : d.q i = d.q m := by omega
        have := q_inj K (by omega) (by omega) this
        omega
      rw [this, if_neg hc]; simp
theorem line_miss (K : RkOk d) {i : Nat} (hi : i < 6) (hc : d.c i = 41) : (1000 * ((i : Int) + 1) + sh) ∉ (lineP d sh 6).map (·.1) := fun q => by
  have key : ∀ k, ∀ p ∈ lineP d sh k, ∃ m, m < k ∧ d.c (d.q m) ≠ 41 ∧ p.1 = 1000 * ((d.q m : Int) + 1) + sh := by
    intro k
    induction k with
    | zero => intro p hp; cases hp
    | succ k ih =>
      intro p hp
      rcases List.mem_append.mp hp with q | q
      · obtain ⟨m, h1, h2, h3⟩ := ih p q; exact ⟨m, by omega, h2, h3⟩
      · split at q
        · cases q
        · rename_i hne
          cases List.mem_singleton.mp q; exact ⟨k, by omega, hne, rfl⟩
  obtain ⟨p, hp, e⟩ := List.mem_map.mp q
  obtain ⟨m, hm, hne, e'⟩ := key 6 p hp
  have : d.q m = i := by omega
  exact hne (this ▸ hc)
theorem td_body (hst : W.st = true) {g0 : Heap} {bad : Nat → Str} (C : PortC W d sh bad) (K : RkOk d) (hsh : 65 ≤ sh ∧ sh < 43544) : PRa g0 W (tdEnv L) tdD.1.2.1 (zipRho [nm "row", nm "order", nm "shift"] [VL d.RW, VL d.OR, VI sh]) (VS (d.txt six)) := by
  refine PRJ.of ?_
  show PRJ g0 W (tdEnv L) [] [td0.1, td1.1, td2.1] [(nm "row", VL d.RW), (nm "order", VL d.OR), (nm "shift", VI sh)] (fun _ => True) (VS (d.txt six))
  refine PRJ.newDict (knd := iK) (ρ' := [(nm "row", VL d.RW), (nm "order", VL d.OR), (nm "shift", VI sh)]) (.inr ⟨by kernel_rfl, by kernel_rfl⟩) (fun p hp => ⟨?_, hp⟩) (fun _ _ _ _ => trivial) (fun P hP hPn => ?_) (by kernel_rfl)
  · have : (([(nm "row", VL d.RW), (nm "order", VL d.OR), (nm "shift", VI sh)] : Rho).all fun p => !(p.1 == nm "line")) = true := by kernel_rfl
    simpa using List.all_eq_true.mp this p hp
  refine PRJ.imp (J' := DJ iK W.w P (lineP d sh 0)) ?_ fun h x => x.1
  refine PRJ.cons (td1_j W L d sh hst hP C K hsh (fun _ _ => trivial)) ?_
  refine PRJ.reveal (ρ' := [(nm "line", VDJ iK W.w (lineP d sh 6)), (nm "shift", VI sh)]) (fun h _ a ha o _ => zt_big (by cases List.mem_singleton.mp ha; exact hP)) (DJ.stb (line_flt d sh 6)) (fun p hp => ?_) fun _ => ?_
  · rcases List.mem_cons.mp hp with rfl | hp
    · exact .inr ⟨P, .head _, fun h x => vdj_of hP x⟩
    · cases List.mem_singleton.mp hp; exact .inl (.tail _ (.tail _ (.tail _ (.head _))))
  have ej : VL (flat (fun _ => true) (fun i => [d.S i]) 6) = VL ((six.map fun k => ch (d.c k)).map VS) := by rw [flat_one]; rfl
  refine PRa.ret (PE.of (PE.method tyS F.plainAttrs_str F.slot_str_join F.type_str_join PE.str (PA.cons (PE.of (PE.comp (ρc := pick _ [0, 1]) (n := 6) [] (fun _ => true) (fun i => [d.S i])
      (body := fun D C => lastBody _ (.ref D) _) (ESrc.range (a := 1) (PE.callt (PE.builtin (by kernel_rfl) (g_range _) b_range (by decide)) (PA.cons PE.int (PA.cons PE.int PA.nil)) (FC.range2 (a := 1) (n := 6) (by decide) (by decide) (by decide)))) (by kernel_rfl) (by kernel_rfl) pick_mem (fun I D C => rfl) (fun C k hk => PTs.nil) (fun A g D C' i hi _ _ _ _ _ hDC => ?_) (Nat.le_of_ble_eq_true rfl)) ej) PA.nil) (FC.join (d.joinOk (by decide)))) (congrArg VS (d.join six))) fun _ _ h => h
  refine Stage.last hDC (PE.method tyD F.plainAttrs_dict F.slot_dict_get F.type_dict_get (PE.nm 1 rfl) (PA.cons (PE.binop F2.add (PE.binop (F2.mul (mulOk (by decide))) PE.int (PE.nm 0 rfl)) (PE.nm 2 rfl)) (PA.cons PE.str PA.nil)) (FC.get (k := 1000 * (1 + (i : Int) * 1) + sh) (fun h v p => by obtain ⟨t, rfl⟩ := p; show Value.isInt _ (.int _ t) = true; simp [Value.isInt]) ?_))
  have ek : 1000 * (1 + (i : Int) * 1) + sh = 1000 * ((i : Int) + 1) + sh := by omega
  rw [ek]
  by_cases hc : d.c i = 41
  · refine .inr ⟨line_miss d sh K hi hc, ?_⟩
    show VS (Str.ofString ")") = VS (ch (d.c i))
    rw [hc]
    exact congrArg VS (by kernel_rfl)
  · obtain ⟨e1, e2⟩ := K.q_r hi
    have := line_find d sh K (m := d.r i) (k := 6) e2 (Nat.le_refl _) (by rw [e1]; exact hc)
    rw [e1] at this
    exact .inl this
theorem told_fc (hlv : 1 ≤ W.lv) {bad : Nat → Str} (C : ∀ F ho, PortC (W.downF F true ho) d sh bad) (K : RkOk d) (hsh : 65 ≤ sh ∧ sh < 43544) : FCs W (.ref 106) [VL d.RW, VL d.OR, VI sh] (VS (d.txt six)) := by
  obtain ⟨oc, od, osl, doc, pm, an, ct, name, ho⟩ := td_fn W.w.params
  refine FCs.ofDef (xs := [nm "row", nm "order", nm "shift"]) (V := VS (d.txt six)) hlv ho (td_code _) (fun vs hl => ?_) (by decide) rfl (fun n x hx => ?_) (of_decide_eq_true (by with_unfolding_all rfl)) rfl rfl rfl vs_flt fun F ho L g0 => td_body (W.downF F true ho) L d sh rfl (C F ho) K hsh
  · match vs, hl with
    | [a, b, c], _ => rfl
  · rcases List.mem_cons.mp hx with rfl | hx
    · exact .inl (by kernel_rfl)
    rcases List.mem_cons.mp hx with rfl | hx
    · exact .inl (by kernel_rfl)
    · cases List.mem_singleton.mp hx; exact .inr ⟨by kernel_rfl, by kernel_rfl⟩
end
end Mine
-- Lx
namespace Mine
noncomputable def spD : { t // PG.theDef (Str.ofString "_law_spoiled") = some t } := ⟨_, by with_unfolding_all rfl⟩
noncomputable abbrev spEnv (L : Addr) : Env := defEnv (nm "_law_spoiled") spD.1.2.2 L 101 (.ref 100)
noncomputable def sp0 : { t // spD.1.2.1[0]? = some t } := ⟨_, by with_unfolding_all rfl⟩
noncomputable def sp1 : { t // spD.1.2.1[1]? = some t } := ⟨_, by with_unfolding_all rfl⟩
noncomputable def sp2 : { t // spD.1.2.1[2]? = some t } := ⟨_, by with_unfolding_all rfl⟩
noncomputable def sp3 : { t // spD.1.2.1[3]? = some t } := ⟨_, by with_unfolding_all rfl⟩
noncomputable def sp4 : { t // spD.1.2.1[4]? = some t } := ⟨_, by with_unfolding_all rfl⟩
theorem sp_fn (P : Params) : ∃ oc od osl doc pm an ct name, (KF P).lookup 101 = some ⟨oc, od, .func (fnOf name (nm "_law_spoiled") spD.1.1 spD.1.2.1 spD.1.2.2 .none .none doc pm an (.ref 100) ct), osl⟩ := ⟨_, _, _, _, _, _, _, _, (by with_unfolding_all rfl : (KF P).lookup 101 = some (fnO _ _ _ _)).trans (congrArg some (fn_eq spD.2))⟩
theorem sp_code (P : Params) : codeIn (KF P) (.ref 100) (nm "_law_spoiled") = true := by kernel_rfl
noncomputable def codeL : List Str := [nm "129", nm "219", nm "228"]
noncomputable def repL : List Int := [3, 3, 2, 4, 3, 3]
noncomputable def closeL : List Str := [nm ")", nm ")", nm ")", nm ")", nm "x)", nm "x"]
noncomputable def codeS (j : Nat) (kd : Int) : Str := if kd = 0 then codeL.getD ((j + 1) % 3) (nm "") else nm "229"
noncomputable def spoilS (c j : Nat) (sh : Int) : Str :=
  if kdI j sh = 1 then nm "229 b272)" else codeS j (kdI j sh) ++ nm " b) (" ++ Txt.mul (ch c) (repL.getD (kdI j sh).toNat 0) ++ figS j sh ++ ch c ++ closeL.getD (kdI j sh).toNat (nm "")
theorem kd_in (j : Nat) (sh : Int) : 0 ≤ kdI j sh ∧ kdI j sh < 6 := ⟨Int.fmod_nonneg_of_pos _ (by decide), Int.fmod_lt_of_pos _ (by decide)⟩
theorem code_len (j : Nat) (kd : Int) : (codeS j kd).length ≤ 3 := by
  unfold codeS
  split
  · have : ∀ m, m < 3 → (codeL.getD m (nm "")).length ≤ 3 := fun m hm => Nat.le_of_ble_eq_true (by
      match m, hm with
      | 0, _ => kernel_rfl
      | 1, _ => kernel_rfl
      | 2, _ => kernel_rfl)
    exact this _ (Nat.mod_lt _ (by decide))
  · exact Nat.le_of_ble_eq_true (by kernel_rfl)
theorem rep_in {m : Nat} (hm : m < 6) : 0 ≤ repL.getD m 0 ∧ repL.getD m 0 ≤ 5 := by
  match m, hm with
  | 0, _ => decide
  | 1, _ => decide
  | 2, _ => decide
  | 3, _ => decide
  | 4, _ => decide
  | 5, _ => decide
theorem rep_len {c m : Nat} (hm : m < 6) : (Txt.mul (ch c) (repL.getD m 0)).length ≤ 5 := Nat.le_of_ble_eq_true (by
  match m, hm with
  | 0, _ => kernel_rfl
  | 1, _ => kernel_rfl
  | 2, _ => kernel_rfl
  | 3, _ => kernel_rfl
  | 4, _ => kernel_rfl
  | 5, _ => kernel_rfl)
theorem close_len {m : Nat} (hm : m < 6) : (closeL.getD m (nm "")).length ≤ 2 := Nat.le_of_ble_eq_true (by
  match m, hm with
  | 0, _ => kernel_rfl
  | 1, _ => kernel_rfl
  | 2, _ => kernel_rfl
  | 3, _ => kernel_rfl
  | 4, _ => kernel_rfl
  | 5, _ => kernel_rfl)
theorem sp_body {W : Wd} {L : Addr} {g0 : Heap} {c j : Nat} {sh : Int} (hj : j < 6) (hsh : 65 ≤ sh ∧ sh < 43544) : PRa g0 W (spEnv L) spD.1.2.1 (zipRho [nm "sign", nm "place", nm "figures", nm "kind"] [VS (ch c), VI ((j : Int) + 1), VS (figS j sh), VI (kdI j sh)]) (VS (spoilS c j sh)) := by
  show PRa g0 W (spEnv L) [sp0.1, sp1.1, sp2.1, sp3.1, sp4.1] [(nm "sign", VS (ch c)), (nm "place", VI ((j : Int) + 1)), (nm "figures", VS (figS j sh)), (nm "kind", VI (kdI j sh))] (VS (spoilS c j sh))
  obtain ⟨k0, k6⟩ := kd_in j sh
  have km : (kdI j sh).toNat < 6 := by omega
  refine PRa.iff (b := kdI j sh == 1) (PT.cmp F2.eqI (PE.nm 3 rfl) PE.int) (fun h => ?_) fun h => ?_
  · rw [spoilS, if_pos (by simpa using h)]
    exact PRa.ret PE.str fun _ _ h => h
  have h1 : kdI j sh ≠ 1 := by simpa using h
  refine PRa.cons (ρ' := [(nm "code", VS (codeS j (kdI j sh))), (nm "sign", VS (ch c)), (nm "place", VI ((j : Int) + 1)), (nm "figures", VS (figS j sh)), (nm "kind", VI (kdI j sh))]) (PX.assign (V := VS (codeS j (kdI j sh))) (PE.ifexp (b := kdI j sh == 0) (PT.cmp F2.eqI (PE.nm 3 rfl) PE.int) (fun h => ?_) fun h => ?_) (.inl (by kernel_rfl)) (up [0, 1, 2, 3] rfl (by kernel_rfl)) (by kernel_rfl)) ?_
  · rw [codeS, if_pos (by simpa using h)]
    refine PE.sub (F2.temp (F2.itemL (k := ((j : Int) + 1).fmod 3) ?_ ?_ ?_)) (PE.list (PA.cons PE.str (PA.cons PE.str (PA.cons PE.str PA.nil))) (Nat.le_of_ble_eq_true rfl)) (PE.binop (F2.mod (by decide)) (PE.nm 1 rfl) PE.int)
    · exact Int.fmod_nonneg_of_pos _ (by decide)
    · have := Int.fmod_lt_of_pos ((j : Int) + 1) (show (0 : Int) < 3 by decide); omega
    · have e : (((j : Int) + 1).fmod 3).toNat = (j + 1) % 3 := by
        rw [Int.fmod_eq_emod_of_nonneg _ (by decide)]; omega
      rw [e]
      have hm : (j + 1) % 3 < 3 := Nat.mod_lt _ (by decide)
      generalize (j + 1) % 3 = m at hm
      match m, hm with
      | 0, _ => rfl
      | 1, _ => rfl
      | 2, _ => rfl
  · rw [codeS, if_neg (by simpa using h)]; exact PE.str
  refine PRa.cons (ρ' := [(nm "marks", VS (Txt.mul (ch c) (repL.getD (kdI j sh).toNat 0))), (nm "code", VS (codeS j (kdI j sh))), (nm "sign", VS (ch c)), (nm "place", VI ((j : Int) + 1)), (nm "figures", VS (figS j sh)), (nm "kind", VI (kdI j sh))]) (PX.assign (PE.binop (F2.mulS ?_) (PE.nm 1 rfl) (PE.sub (F2.temp (F2.itemL (k := kdI j sh) (V := VI (repL.getD (kdI j sh).toNat 0)) k0 (by omega) ?_)) (PE.list (PA.cons PE.int (PA.cons PE.int (PA.cons PE.int (PA.cons PE.int (PA.cons PE.int (PA.cons PE.int PA.nil)))))) (Nat.le_of_ble_eq_true rfl)) (PE.nm 4 rfl))) (.inl (by kernel_rfl)) (up [0, 1, 2, 3, 4] rfl (by kernel_rfl)) (by kernel_rfl)) ?_
  · exact mulOkS _ (rep_in km).1 (rep_in km).2 (Nat.le_of_ble_eq_true rfl)
  · generalize (kdI j sh).toNat = m at km
    match m, km with
    | 0, _ => rfl
    | 1, _ => rfl
    | 2, _ => rfl
    | 3, _ => rfl
    | 4, _ => rfl
    | 5, _ => rfl
  refine PRa.cons (ρ' := [(nm "close", VS (closeL.getD (kdI j sh).toNat (nm ""))), (nm "marks", VS (Txt.mul (ch c) (repL.getD (kdI j sh).toNat 0))), (nm "code", VS (codeS j (kdI j sh))), (nm "sign", VS (ch c)), (nm "figures", VS (figS j sh))]) (PX.assign (PE.sub (F2.temp (F2.itemL (k := kdI j sh) (V := VS (closeL.getD (kdI j sh).toNat (nm ""))) k0 (by omega) ?_)) (PE.list (PA.cons PE.str (PA.cons PE.str (PA.cons PE.str (PA.cons PE.str (PA.cons PE.str (PA.cons PE.str PA.nil)))))) (Nat.le_of_ble_eq_true rfl)) (PE.nm 5 rfl)) (.inl (by kernel_rfl)) (up [0, 1, 2, 4] rfl (by kernel_rfl)) (by kernel_rfl)) ?_
  · generalize (kdI j sh).toNat = m at km
    match m, km with
    | 0, _ => rfl
    | 1, _ => rfl
    | 2, _ => rfl
    | 3, _ => rfl
    | 4, _ => rfl
    | 5, _ => rfl
  have lc := code_len j (kdI j sh)
  have l5 : (nm " b) (").length = 5 := by kernel_rfl
  have lr := rep_len (c := c) km
  have lf := fig_len hj hsh
  have l1 : (ch c).length = 1 := rfl
  have lz := close_len km
  rw [spoilS, if_neg h1]
  refine PRa.ret (PE.binop (F2.addB ?_) (PE.binop (F2.addB ?_) (PE.binop (F2.addB ?_) (PE.binop (F2.addB ?_) (PE.binop (F2.addB ?_) (PE.nm 2 rfl) PE.str) (PE.nm 1 rfl)) (PE.nm 4 rfl)) (PE.nm 3 rfl)) (PE.nm 0 rfl)) fun _ _ h => h
  · rw [app_len, app_len, app_len, app_len]; show (codeS j (kdI j sh)).length + (nm " b) (").length + _ + _ + _ + _ ≤ _; omega
  · rw [app_len, app_len, app_len]; show (codeS j (kdI j sh)).length + (nm " b) (").length + _ + _ + _ ≤ _; omega
  · rw [app_len, app_len]; show (codeS j (kdI j sh)).length + (nm " b) (").length + _ + _ ≤ _; omega
  · rw [app_len]; show (codeS j (kdI j sh)).length + (nm " b) (").length + _ ≤ _; omega
  · show (codeS j (kdI j sh)).length + (nm " b) (").length ≤ _; omega
theorem spoil_fc {W : Wd} {c j : Nat} {sh : Int} (hlv : 1 ≤ W.lv) (hj : j < 6) (hsh : 65 ≤ sh ∧ sh < 43544) : FC W (.ref 101) [VS (ch c), VI ((j : Int) + 1), VS (figS j sh), VI (kdI j sh)] (VS (spoilS c j sh)) := by
  obtain ⟨oc, od, osl, doc, pm, an, ct, name, ho⟩ := sp_fn W.w.params
  refine FC.ofDef (xs := [nm "sign", nm "place", nm "figures", nm "kind"]) (V' := fun _ => VS (spoilS c j sh)) hlv ho (sp_code _) (fun vs hl => ?_) (by decide) rfl (fun n x hx => .inl ?_) (of_decide_eq_true (by with_unfolding_all rfl)) rfl rfl rfl (fun _ _ _ _ _ h => h) fun L g0 => sp_body hj hsh
  · match vs, hl with
    | [a, b, c, d], _ => rfl
  · rcases List.mem_cons.mp hx with rfl | hx
    · kernel_rfl
    rcases List.mem_cons.mp hx with rfl | hx
    · kernel_rfl
    rcases List.mem_cons.mp hx with rfl | hx
    · kernel_rfl
    · cases List.mem_singleton.mp hx; kernel_rfl
end Mine
-- Lp
namespace Mine
theorem exc_proto (P : Params) : excIn (KF P) 49 [.type "Exception", .type "BaseException", .type "object"] "Exception.__new__" = true := by kernel_rfl
theorem exc_reply (P : Params) : excIn (KF P) 37 [.type "Exception", .type "BaseException", .type "object"] "Exception.__new__" = true := by kernel_rfl
theorem g_proto (P : Params) : nsIn (KF P) mainGlobals (nm "error_proto") = some (some (.ref 49)) := by kernel_rfl
theorem g_reply (P : Params) : nsIn (KF P) mainGlobals (nm "error_reply") = some (some (.ref 37)) := by kernel_rfl
end Mine
-- Qc
namespace Mine
noncomputable def pD : { t // PG.theDef (Str.ofString "parse229") = some t } := ⟨_, by with_unfolding_all rfl⟩
noncomputable abbrev pEnv (L : Addr) : Env := defEnv (nm "parse229") pD.1.2.2 L 58 (.ref 57)
theorem p_fn (P : Params) : ∃ oc od osl doc pm an ct name, (KF P).lookup 58 = some ⟨oc, od, .func (fnOf name (nm "parse229") pD.1.1 pD.1.2.1 pD.1.2.2 .none .none doc pm an (.ref 57) ct), osl⟩ := ⟨_, _, _, _, _, _, _, _, (by with_unfolding_all rfl : (KF P).lookup 58 = some (fnO _ _ _ _)).trans (congrArg some (fn_eq pD.2))⟩
theorem p_code (P : Params) : codeIn (KF P) (.ref 57) (nm "parse229") = true := by kernel_rfl
theorem g_int (P : Params) : nsIn (KF P) mainGlobals (nm "int") = some none := by kernel_rfl
theorem b_int : bootBuiltins (nm "int") = some (.type "int") := by rfl
section
variable {W : Wd} {L : Addr} {g0 : Heap} {r x : Str} {i : Int} {C : Addr}
noncomputable abbrev pR (r x : Str) (i : Int) : Rho := [(nm "resp", VS r), (nm "peer", VT [VS x, VI i])]
noncomputable abbrev pR1 (r x : Str) (i : Int) (l : Int) : Rho := (nm "left", VI l) :: pR r x i
noncomputable abbrev pR2 (r x : Str) (i : Int) (l q : Int) : Rho := (nm "right", VI q) :: pR1 r x i l
noncomputable abbrev pR3 (r x : Str) (i : Int) (l q : Int) (ps : List Str) : Rho := (nm "parts", VL (ps.map VS)) :: pR2 r x i l q
theorem pt0 {p pos : Pos} {v : Bool} {rho : Rho} (hr : PE W (pEnv L) rho (.Name (nm "resp") p) (VS r)) (hsz : r.length ≤ 1000000) (h : (Txt.slice r none (some 3) != nm "229") = v) {p1 p2 p3 p4 : Pos} {k k' : Nat} : PT W (pEnv L) rho (.Compare (.Subscript (.Name (nm "resp") p) (.Slice none (some (.Constant (.int 3) k p1)) none p2) p3) [.NotEq] [.Constant (.str (nm "229")) k' p4] pos) v := by
  subst h
  exact PT.cmp F2.neS (PE.sliceS hr (l := none) (u := some 3) trivial PE.int rfl hsz) PE.str
noncomputable def pS (k : Nat) : List Stmt := pD.1.2.1.drop k
theorem s0 (hsz : r.length ≤ 1000000) (h : (Txt.slice r none (some 3) != nm "229") = false) (K : PRr g0 W (pEnv L) (pS 1) (pR r x i) C r) : PRr g0 W (pEnv L) pD.1.2.1 (pR r x i) C r :=
  PRr.no (pt0 (PE.nm 0 rfl) hsz h) K
theorem s1 (K : PRr g0 W (pEnv L) (pS 2) (pR1 r x i (Txt.find r (nm "("))) C r) : PRr g0 W (pEnv L) (pS 1) (pR r x i) C r :=
  PRr.cons (PX.assign (PE.method tyS F.plainAttrs_str F.slot_str_find F.type_str_find (PE.nm 0 rfl) (PA.cons PE.str PA.nil) FC.find) (.inl (by kernel_rfl)) (up [0, 1] rfl (by kernel_rfl)) (by kernel_rfl)) K
theorem s2 {l : Int} (h : 0 ≤ l) (K : PRr g0 W (pEnv L) (pS 3) (pR1 r x i l) C r) : PRr g0 W (pEnv L) (pS 2) (pR1 r x i l) C r :=
  PRr.no (PT.of (PT.cmp F2.ltI (PE.nm 0 rfl) PE.int) (decide_eq_false (by omega))) K
theorem s3 {l : Int} (K : PRr g0 W (pEnv L) (pS 4) (pR2 r x i l (Txt.find3 r (nm ")") (l + 1))) C r) : PRr g0 W (pEnv L) (pS 3) (pR1 r x i l) C r :=
  PRr.cons (PX.assign (PE.method tyS F.plainAttrs_str F.slot_str_find F.type_str_find (PE.nm 1 rfl) (PA.cons PE.str (PA.cons (PE.binop F2.add (PE.nm 0 rfl) PE.int) PA.nil)) FC.find3) (.inl (by kernel_rfl)) (up [0, 1, 2] rfl (by kernel_rfl)) (by kernel_rfl)) K
theorem s4 {l q : Int} (h : 0 ≤ q) (K : PRr g0 W (pEnv L) (pS 5) (pR2 r x i l q) C r) : PRr g0 W (pEnv L) (pS 4) (pR2 r x i l q) C r :=
  PRr.no (PT.of (PT.cmp F2.ltI (PE.nm 0 rfl) PE.int) (decide_eq_false (by omega))) K
theorem rp {ρ : Rho} {np yp cpos pos : Pos} {sts : List Stmt} (hy : PE W (pEnv L) ρ (.Name (nm "resp") yp) (VS r)) : PRr g0 W (pEnv L) (.Raise (some (.Call (.Name (nm "error_proto") np) [.Name (nm "resp") yp] [] cpos)) none pos :: sts) ρ 49 r :=
  PRr.raise (by kernel_rfl) (g_proto _) (exc_proto _) hy
theorem rr {ρ : Rho} {np yp cpos pos : Pos} {sts : List Stmt} (hy : PE W (pEnv L) ρ (.Name (nm "resp") yp) (VS r)) : PRr g0 W (pEnv L) (.Raise (some (.Call (.Name (nm "error_reply") np) [.Name (nm "resp") yp] [] cpos)) none pos :: sts) ρ 37 r :=
  PRr.raise (by kernel_rfl) (g_reply _) (exc_reply _) hy
/-- the mark ahead and the mark behind -/
theorem pt5 {l q : Int} {v : Bool} (hl : 0 ≤ l) (hl1 : l + 1 < r.length) (hq : 1 ≤ q) (hq1 : q ≤ r.length) (hsz : r.length ≤ 1000000) (h : (Txt.item r (l + 1) != Txt.item r (q - 1)) = v) {p1 p2 p3 p4 p5 p6 p7 p8 p9 pa pos : Pos} {k k' : Nat} :
    PT W (pEnv L) (pR2 r x i l q) (.Compare (.Subscript (.Name (nm "resp") p1) (.BinOp (.Name (nm "left") p2) .Add (.Constant (.int 1) k p3) p4) p5) [.NotEq] [.Subscript (.Name (nm "resp") p6) (.BinOp (.Name (nm "right") p7) .Sub (.Constant (.int 1) k' p8) p9) pa] pos) v := by
  subst h
  exact PT.cmp F2.neS (PE.sub (F2.itemS (by omega) (by omega) hsz rfl) (PE.nm 2 rfl) (PE.binop F2.add (PE.nm 1 rfl) PE.int)) (PE.sub (F2.itemS (by omega) (by omega) hsz rfl) (PE.nm 2 rfl) (PE.binop F2.sub (PE.nm 0 rfl) PE.int))
theorem s5 {l q : Int} (hl : 0 ≤ l) (hl1 : l + 1 < r.length) (hq : 1 ≤ q) (hq1 : q ≤ r.length) (hsz : r.length ≤ 1000000) (h : (Txt.item r (l + 1) != Txt.item r (q - 1)) = false) (K : PRr g0 W (pEnv L) (pS 6) (pR2 r x i l q) C r) : PRr g0 W (pEnv L) (pS 5) (pR2 r x i l q) C r :=
  PRr.no (pt5 hl hl1 hq hq1 hsz h) K
theorem px6 {l q : Int} {m c : Str} (hl : 0 ≤ l) (hl1 : l + 1 < r.length) (hsz : r.length ≤ 1000000) (hm : Txt.slice r (some (l + 1)) (some q) = m) (hc : Txt.item r (l + 1) = c) (hc1 : (c.length == 0) = false) (hmz : m.length ≤ 1000000) : PX W (pEnv L) (pD.1.2.1[6]) (pR2 r x i l q) (pR3 r x i l q (Txt.split m c)) :=
  PX.assign (PE.method tyS F.plainAttrs_str F.slot_str_split F.type_str_split (PE.sliceS (PE.nm 2 rfl) (l := some (l + 1)) (u := some q) (PE.binop F2.add (PE.nm 1 rfl) PE.int) (PE.nm 0 rfl) hm hsz) (PA.cons (PE.sub (F2.itemS (by omega) (by omega) hsz hc) (PE.nm 2 rfl) (PE.binop F2.add (PE.nm 1 rfl) PE.int)) PA.nil) (FC.split hc1 hmz)) (.inl (by kernel_rfl)) (up [0, 1, 2, 3] rfl (by kernel_rfl)) (by kernel_rfl)
theorem pt7 {l q : Int} {ps : List Str} {v : Bool} (hs : ps.length ≤ 1000) (h : ((ps.length : Int) != 5) = v) {p1 p2 p3 p4 pos : Pos} {k : Nat} : PT W (pEnv L) (pR3 r x i l q ps) (.Compare (.Call (.Name (nm "len") p1) [.Name (nm "parts") p2] [] p3) [.NotEq] [.Constant (.int 5) k p4] pos) v := by
  subst h
  refine PT.of (PT.cmp F2.neI (PE.callb (PE.builtin (by kernel_rfl) (g_len _) b_len (by decide)) (PA.cons (PE.nm 0 rfl) PA.nil) (FC.len (by rw [List.length_map]; omega))) PE.int) ?_
  rw [List.length_map]
/-- a new tuple -/
noncomputable def VTf (g0 : Heap) (Vs : List VP) : VP := ⟨fun h v => ∃ (a : Addr) (items : List Value), v = .ref a ∧ g0.get? a = none ∧ IsTup h a items.toArray ∧ VsP Vs h items, fun k ⟨a, its, e, g, ⟨o, ho, r⟩, x⟩ => ⟨a, its, e, g, ⟨o, k _ _ ho, r⟩, x.mono k⟩⟩
theorem PRa.retT {env : Env} {ρ : Rho} {es : List Expr} {k₀ : Nat} {tpos pos : Pos} {sts : List Stmt} {Vs : List VP} (ha : PA W env ρ tpos es Vs) (hl : Vs.length ≤ 1000) : PRa g0 W env (.Return (some (.Tuple es k₀ tpos)) pos :: sts) ρ (VTf g0 Vs) := fun A Mu s Q E I k =>
  wpAny_execs_cons (wpAny_Return_some (wpAny_Tuple (ha A Mu s _ _ I.inv fun vs h₁ tk₁ k₁ p₁ => ⟨by rw [p₁.length]; exact Nat.le_trans hl (by decide), k _ _ tk₁ (fun b o _ e => stays_push _ _ _ (k₁ b o e)) ((I.mono k₁).mono (stays_push _)).frK
    ⟨_, vs, rfl, by
      cases q : g0.get? h₁.objs.size with
      | none => rfl
      | some o => exact absurd (Heap.lt_size ((I.mono k₁).keep _ _ q)) (Nat.lt_irrefl _), ⟨_, Heap.get?_push_size _ rfl, rfl, _, rfl⟩, p₁.mono (stays_trans hid_le (stays_push _))⟩⟩)))
/-- the outcomes that are refused -/
inductive Bad (r : Str) : Addr → Prop
  | code : (Txt.slice r none (some 3) != nm "229") = true → Bad r 37
  | left : (Txt.slice r none (some 3) != nm "229") = false → Txt.find r (nm "(") < 0 → Bad r 49
  | right {l : Int} : (Txt.slice r none (some 3) != nm "229") = false → Txt.find r (nm "(") = l → 0 ≤ l → Txt.find3 r (nm ")") (l + 1) < 0 → Bad r 49
  | mark {l q : Int} : (Txt.slice r none (some 3) != nm "229") = false → Txt.find r (nm "(") = l → 0 ≤ l → Txt.find3 r (nm ")") (l + 1) = q → l + 1 < r.length → 1 ≤ q → q ≤ r.length → (Txt.item r (l + 1) != Txt.item r (q - 1)) = true → Bad r 49
  | parts {l q : Int} {m c : Str} : (Txt.slice r none (some 3) != nm "229") = false → Txt.find r (nm "(") = l → 0 ≤ l → Txt.find3 r (nm ")") (l + 1) = q → l + 1 < r.length → 1 ≤ q → q ≤ r.length → (Txt.item r (l + 1) != Txt.item r (q - 1)) = false →
      Txt.slice r (some (l + 1)) (some q) = m → Txt.item r (l + 1) = c → (c.length == 0) = false → m.length ≤ 1000000 → (Txt.split m c).length ≤ 1000 → (((Txt.split m c).length : Int) != 5) = true → Bad r 49
theorem p_bad {C : Addr} (hsz : r.length ≤ 1000000) (h : Bad r C) : PRr g0 W (pEnv L) pD.1.2.1 (pR r x i) C r := by
  cases h with
  | code h => exact PRr.yes (pt0 (PE.nm 0 rfl) hsz h) (rr (PE.nm 0 rfl))
  | left h0 h => exact s0 hsz h0 (s1 (PRr.yes (PT.of (PT.cmp F2.ltI (PE.nm 0 rfl) PE.int) (decide_eq_true h)) (rp (PE.nm 1 rfl))))
  | right h0 h1 h2 h => subst h1; exact s0 hsz h0 (s1 (s2 h2 (s3 (PRr.yes (PT.of (PT.cmp F2.ltI (PE.nm 0 rfl) PE.int) (decide_eq_true h)) (rp (PE.nm 2 rfl))))))
  | mark h0 h1 h2 h3 h4 h5 h6 h7 => subst h1 h3; exact s0 hsz h0 (s1 (s2 h2 (s3 (s4 (by omega) (PRr.yes (pt5 h2 h4 h5 h6 hsz h7) (rp (PE.nm 2 rfl)))))))
  | parts h0 h1 h2 h3 h4 h5 h6 h7 h8 h9 ha hb hc hd => subst h1 h3; exact s0 hsz h0 (s1 (s2 h2 (s3 (s4 (by omega) (s5 h2 h4 h5 h6 hsz h7 (PRr.cons (px6 h2 h4 hsz h8 h9 ha hb) (PRr.yes (pt7 hc hd) (rp (PE.nm 3 rfl)))))))))
/-- the outcome that is taken -/
structure Good (r : Str) (n : Int) : Prop where
  code : (Txt.slice r none (some 3) != nm "229") = false
  rest : ∃ (l q : Int) (m c f : Str), Txt.find r (nm "(") = l ∧ 0 ≤ l ∧ Txt.find3 r (nm ")") (l + 1) = q ∧ l + 1 < r.length ∧ 1 ≤ q ∧ q ≤ r.length ∧ (Txt.item r (l + 1) != Txt.item r (q - 1)) = false ∧
      Txt.slice r (some (l + 1)) (some q) = m ∧ Txt.item r (l + 1) = c ∧ (c.length == 0) = false ∧ m.length ≤ 1000000 ∧ (Txt.split m c).length = 5 ∧ (Txt.split m c)[3]? = some f ∧ PySem.intText? f = some n ∧ f.length ≤ 640
theorem p_good {n : Int} (hsz : r.length ≤ 1000000) (h : Good r n) : PRa g0 W (pEnv L) pD.1.2.1 (pR r x i) (VTf g0 [VS x, VI n]) := by
  obtain ⟨h0, l, q, m, c, f, h1, h2, h3, h4, h5, h6, h7, h8, h9, ha, hb, hc, hd, he, hf⟩ := h
  subst h1 h3
  refine PRa.iff (b := false) (pt0 (PE.nm 0 rfl) hsz h0) (fun h => by cases h) fun _ => ?_
  refine PRa.cons (ρ' := pR1 r x i (Txt.find r (nm "("))) (PX.assign (PE.method tyS F.plainAttrs_str F.slot_str_find F.type_str_find (PE.nm 0 rfl) (PA.cons PE.str PA.nil) FC.find) (.inl (by kernel_rfl)) (up [0, 1] rfl (by kernel_rfl)) (by kernel_rfl)) ?_
  refine PRa.iff (b := false) (PT.of (PT.cmp F2.ltI (PE.nm 0 rfl) PE.int) (decide_eq_false (by omega))) (fun h => by cases h) fun _ => ?_
  refine PRa.cons (ρ' := pR2 r x i _ (Txt.find3 r (nm ")") (_ + 1))) (PX.assign (PE.method tyS F.plainAttrs_str F.slot_str_find F.type_str_find (PE.nm 1 rfl) (PA.cons PE.str (PA.cons (PE.binop F2.add (PE.nm 0 rfl) PE.int) PA.nil)) FC.find3) (.inl (by kernel_rfl)) (up [0, 1, 2] rfl (by kernel_rfl)) (by kernel_rfl)) ?_
  refine PRa.iff (b := false) (PT.of (PT.cmp F2.ltI (PE.nm 0 rfl) PE.int) (decide_eq_false (by omega))) (fun h => by cases h) fun _ => ?_
  refine PRa.iff (b := false) (pt5 h2 h4 h5 h6 hsz h7) (fun h => by cases h) fun _ => ?_
  refine PRa.cons (px6 h2 h4 hsz h8 h9 ha hb) ?_
  refine PRa.iff (b := false) (pt7 (by omega) (by rw [hc]; rfl)) (fun h => by cases h) fun _ => ?_
  generalize Txt.find3 r (nm ")") (Txt.find r (nm "(") + 1) = q
  generalize Txt.find r (nm "(") = l
  refine PRa.cons (ρ' := (nm "host", VS x) :: pR3 r x i l q (Txt.split m c)) (PX.assign (PE.sub (F2.itemT (k := 0) (by decide) rfl) (PE.nm 4 rfl) PE.int) (.inl (by kernel_rfl)) (up [0, 1, 2, 3, 4] rfl (by kernel_rfl)) (by kernel_rfl)) ?_
  refine PRa.cons (ρ' := (nm "port", VI n) :: (nm "host", VS x) :: pR3 r x i l q (Txt.split m c)) (PX.assign (PE.callt (PE.builtin (by kernel_rfl) (g_int _) b_int (by decide)) (PA.cons (PE.sub (F2.itemL (k := 3) (V := VS f) (by decide) (by decide) (by show ((Txt.split m c).map VS)[3]? = _; rw [List.getElem?_map, hd]; rfl)) (PE.nm 1 rfl) PE.int) PA.nil) (FC.intS he hf)) (.inl (by kernel_rfl)) (up [0, 1, 2, 3, 4, 5] rfl (by kernel_rfl)) (by kernel_rfl)) ?_
  exact PRa.retT (PA.cons (PE.nm 1 rfl) (PA.cons (PE.nm 0 rfl) PA.nil)) (Nat.le_of_ble_eq_true rfl)
theorem par_bad {r x : Str} {i : Int} {C : Addr} (hlv : 1 ≤ W.lv) (hsz : r.length ≤ 1000000) (h : Bad r C) : FCr W (.ref 58) [VS r, VT [VS x, VI i]] C r := by
  obtain ⟨oc, od, osl, doc, pm, an, ct, name, ho⟩ := p_fn W.w.params
  refine FCr.ofDef (xs := [nm "resp", nm "peer"]) hlv ho (p_code _) (fun vs hl => ?_) (by decide) rfl (fun n x hx => .inl ?_) (of_decide_eq_true (by with_unfolding_all rfl)) rfl rfl rfl fun L g0 => p_bad hsz h
  · match vs, hl with
    | [a, b], _ => rfl
  · rcases List.mem_cons.mp hx with rfl | hx
    · kernel_rfl
    · cases List.mem_singleton.mp hx; kernel_rfl
theorem par_good {r x : Str} {i n : Int} (hlv : 1 ≤ W.lv) (hsz : r.length ≤ 1000000) (h : Good r n) : FC W (.ref 58) [VS r, VT [VS x, VI i]] (VT [VS x, VI n]) := by
  obtain ⟨oc, od, osl, doc, pm, an, ct, name, ho⟩ := p_fn W.w.params
  refine FC.ofDef (xs := [nm "resp", nm "peer"]) (V' := fun g0 => VTf g0 [VS x, VI n]) hlv ho (p_code _) (fun vs hl => ?_) (by decide) rfl (fun n x hx => .inl ?_) (of_decide_eq_true (by with_unfolding_all rfl)) rfl rfl rfl (fun g0 h Mu v hm z => ?_) fun L g0 => p_good hsz h
  · match vs, hl with
    | [a, b], _ => rfl
  · rcases List.mem_cons.mp hx with rfl | hx
    · kernel_rfl
    · cases List.mem_singleton.mp hx; kernel_rfl
  · obtain ⟨a, its, rfl, ga, ⟨o, ho, hc, hd⟩, y⟩ := z
    refine ⟨a, its, rfl, ⟨o, hideAll_get _ ho fun q => ?_, hc, hd⟩, ?_⟩
    · obtain ⟨o', e⟩ := hm a q; rw [ga] at e; cases e
    · match its, y with
      | [_, _], y => exact ⟨y.1, y.2.1, trivial⟩
      | [], y => exact y.elim
      | [_], y => exact y.2.elim
      | _ :: _ :: _ :: _, y => exact y.2.2.elim
end
end Mine
-- Qd
namespace Mine
noncomputable abbrev bmX : List Value := [.type "Exception", .type "BaseException", .type "object"]
theorem co24 (P : Params) : ∃ N nm q bs hdct sn sub ab col dd k0 k1 k2 k3 k5, (KF P).lookup 24 = some (excClassObj nm q 24 N bs bmX hdct sn sub ab col dd k0 k1 k2 k3 k5 "Exception.__new__") ∧ nsOkIn (KF P) N = true ∧ nsIn (KF P) N "__str__" = some none := ⟨_, _, _, _, _, _, _, _, _, _, _, _, _, _, _, by with_unfolding_all rfl, by kernel_rfl, by kernel_rfl⟩
theorem co37 (P : Params) : ∃ N nm q bs hdct sn sub ab col dd k0 k1 k2 k3 k5, (KF P).lookup 37 = some (excClassObj nm q 37 N bs (.ref 24 :: bmX) hdct sn sub ab col dd k0 k1 k2 k3 k5 "Exception.__new__") ∧ nsOkIn (KF P) N = true ∧ nsIn (KF P) N "__str__" = some none := ⟨_, _, _, _, _, _, _, _, _, _, _, _, _, _, _, by with_unfolding_all rfl, by kernel_rfl, by kernel_rfl⟩
theorem co49 (P : Params) : ∃ N nm q bs hdct sn sub ab col dd k0 k1 k2 k3 k5, (KF P).lookup 49 = some (excClassObj nm q 49 N bs (.ref 24 :: bmX) hdct sn sub ab col dd k0 k1 k2 k3 k5 "Exception.__new__") ∧ nsOkIn (KF P) N = true ∧ nsIn (KF P) N "__str__" = some none := ⟨_, _, _, _, _, _, _, _, _, _, _, _, _, _, _, by with_unfolding_all rfl, by kernel_rfl, by kernel_rfl⟩
/-- a class of the text that is an exception and has no __str__ of its own -/
noncomputable def OwnX (h : Heap) (C : Addr) : Prop := ∃ N nm q bs hdct sn sub ab col dd k0 k1 k2 k3 k5 mN, h.get? C = some (excClassObj nm q C N bs (.ref 24 :: bmX) hdct sn sub ab col dd k0 k1 k2 k3 k5 "Exception.__new__") ∧ h.Ns N mN ∧ mN "__str__" = none
noncomputable def OwnE (h : Heap) : Prop := ∃ N nm q bs hdct sn sub ab col dd k0 k1 k2 k3 k5 mN, h.get? 24 = some (excClassObj nm q 24 N bs bmX hdct sn sub ab col dd k0 k1 k2 k3 k5 "Exception.__new__") ∧ h.Ns N mN ∧ mN "__str__" = none
theorem own49 {P : Params} {h : Heap} (X : (KF P).In h) : OwnX h 49 := by
  obtain ⟨N, nm, q, bs, hdct, sn, sub, ab, col, dd, k0, k1, k2, k3, k5, e, e1, e2⟩ := co49 P
  exact ⟨N, nm, q, bs, hdct, sn, sub, ab, col, dd, k0, k1, k2, k3, k5, _, X _ _ e, .of_isNs (isNs_of_in X e1), nsMap_none_of_in X e1 e2⟩
theorem own37 {P : Params} {h : Heap} (X : (KF P).In h) : OwnX h 37 := by
  obtain ⟨N, nm, q, bs, hdct, sn, sub, ab, col, dd, k0, k1, k2, k3, k5, e, e1, e2⟩ := co37 P
  exact ⟨N, nm, q, bs, hdct, sn, sub, ab, col, dd, k0, k1, k2, k3, k5, _, X _ _ e, .of_isNs (isNs_of_in X e1), nsMap_none_of_in X e1 e2⟩
theorem own24 {P : Params} {h : Heap} (X : (KF P).In h) : OwnE h := by
  obtain ⟨N, nm, q, bs, hdct, sn, sub, ab, col, dd, k0, k1, k2, k3, k5, e, e1, e2⟩ := co24 P
  exact ⟨N, nm, q, bs, hdct, sn, sub, ab, col, dd, k0, k1, k2, k3, k5, _, X _ _ e, .of_isNs (isNs_of_in X e1), nsMap_none_of_in X e1 e2⟩
section
variable {M : Model} {A : Around} {E : Value → Shared → Prop} {h : Heap} {g : Array GenState} {d : Drawn} {t : Nat} {os : OsState} {C e t0 : Addr}
theorem look_str {Q : Option Value → Shared → Prop} (X : OwnX h C) (Y : OwnE h) (hq : Q (some (.builtin "BaseException.__str__")) ⟨h, g, d, t, os⟩) : wpAny M A (typeLookup (.ref C) "__str__") Q E ⟨h, g, d, t, os⟩ := by
  obtain ⟨N, nm, q, bs, hdct, sn, sub, ab, col, dd, k0, k1, k2, k3, k5, mN, hC, hN, hn⟩ := X
  obtain ⟨N', nm', q', bs', hdct', sn', sub', ab', col', dd', k0', k1', k2', k3', k5', mN', hC', hN', hn'⟩ := Y
  have hrest : lookupAlong bmX "__str__" = pure (some (.builtin "BaseException.__str__")) := by
    have := PySem.F.excStr_Exception.str.lookup
    rw [typeLookup_eq, PySem.F.excBase_Exception.mroIs] at this
    exact this
  rw [typeLookup_eq]
  refine wpAny_bind (wpAny_mroOf_exc hC ?_)
  rw [lookupAlong_cons]
  refine wpAny_bind (wpAny_classOwn_exc hC hN ?_)
  rw [hn]
  show wpAny M A (lookupAlong (.ref 24 :: bmX) "__str__") Q E _
  rw [lookupAlong_cons]
  refine wpAny_bind (wpAny_classOwn_exc hC' hN' ?_)
  rw [hn']
  show wpAny M A (lookupAlong bmX "__str__") Q E _
  rw [hrest]
  exact wpAny_pure hq
theorem bexcArgs_own {items : List Value} {oe : Obj} {wa : Array Value} {Q : Value × List Value → Shared → Prop} (he : h.get? e = some oe) (hd : oe.data = .fields wa) (h0 : wa[0]? = some (.ref t0)) (ht : h.TupAt t0 items) (hq : Q (.ref t0, items) ⟨h, g, d, t, os⟩) :
    wpAny M A (Builtin.BaseException.bexcArgs (.ref e)) Q E ⟨h, g, d, t, os⟩ := by
  obtain ⟨ot, k, hto, _, htd⟩ := ht
  unfold Builtin.BaseException.bexcArgs
  refine wpAny_bind (wpAny_field he hd h0 (wpAny_bind (wpAny_seqItems hto htd ?_)))
  have : items.toArray.toList = items := by simp
  show wpAny M A (pure (Value.ref t0, items.toArray.toList)) Q E _
  rw [this]
  exact wpAny_pure hq
end
theorem kind_bs : builtinKind "BaseException.__str__" = some .slot := by decide +kernel
theorem split_bs : splitId "BaseException.__str__" = some ("BaseException", "__str__") := by decide +kernel
section
variable {prog : Program} {w : World} {A : Around} {E : Value → Shared → Prop} {h : Heap} {g : Array GenState} {d : Drawn} {t : Nat} {os : OsState} {C e t0 : Addr}
theorem call_bs {m : Str} {tk : Tok} {oe : Obj} {wa : Array Value} {Q : Value → Shared → Prop} (X : OwnX h C) (he : h.get? e = some oe) (hc : oe.cls = .ref C) (hd : oe.data = .fields wa) (h0 : wa[0]? = some (.ref t0)) (ht : h.TupAt t0 [.str m tk]) (hq : Q (.str m tk) ⟨h, g, d, t, os⟩) :
    wpAny (model prog w) A (call (.builtin "BaseException.__str__") [.ref e]) Q E ⟨h, g, d, t, os⟩ := by
  obtain ⟨N, nm, q, bs, hdct, sn, sub, ab, col, dd, k0, k1, k2, k3, k5, mN, hC, hN, hn⟩ := X
  have hcB : (Value.ref C :: .ref 24 :: bmX).contains (.type "BaseException") = true := by rw [List.contains_cons]; simp [bmX]
  refine wpAny_call (codeAny_call_builtin PySem.F.excStr_Exception.str.plain F.entry_bexc_str ?_)
  have hchk : ∀ (A' : Around) (Q' : Unit → Shared → Prop) (E' : Value → Shared → Prop), Q' () ⟨h, g, d, t, os⟩ → wpAny (model prog w) A' (checkBuiltinCall "BaseException.__str__" ⟨[.ref e], []⟩) Q' E' ⟨h, g, d, t, os⟩ := fun A' Q' E' hQ => by
    simp only [checkBuiltinCall, kind_bs, split_bs]
    refine wpAny_bind (m := isInstance (.ref e) (.type "BaseException")) ?_
    unfold isInstance
    refine wpAny_bind ?_
    simp only [typeOf]
    refine wpAny_bind (wpAny_load he (wpAny_pure ?_))
    rw [hc]
    refine wpAny_isSubtype_exc hC ?_
    rw [hcB]
    simp only [Bool.not_true, Bool.false_eq_true, if_false]
    have ha := F.args_bexc_str (.ref e)
    unfold argsOk at ha
    cases hsig : Manifest.signature? "BaseException.__str__" with
    | none => exact wpAny_pure hQ
    | some sig =>
      simp only [hsig] at ha
      show wpAny _ A' (Bind.checkArgs "BaseException.__str__" sig ⟨[.ref e], []⟩) Q' E' _
      rw [ha]; exact wpAny_pure hQ
  refine hchk _ _ _ ?_
  show wpAny _ _ (Builtin.«BaseException.__str__» ⟨[.ref e], []⟩) _ _ _
  unfold Builtin.«BaseException.__str__»
  refine wpAny_bind (m := slotArgs "__str__" 0 _) (wpAny_pure ?_)
  refine wpAny_bind (m := Builtin.BaseException.bexcArgs (.ref e)) (bexcArgs_own he hd h0 ht ?_)
  repeat (first | wp_step)
  exact hq
theorem special_own {m : Str} {tk : Tok} {oe : Obj} {wa : Array Value} {Q : Option Value → Shared → Prop} (X : OwnX h C) (Y : OwnE h) (he : h.get? e = some oe) (hc : oe.cls = .ref C) (hd : oe.data = .fields wa) (h0 : wa[0]? = some (.ref t0)) (ht : h.TupAt t0 [.str m tk]) (hq : Q (some (.str m tk)) ⟨h, g, d, t, os⟩) :
    wpAny (model prog w) A (callSpecial? (.ref e) "__str__") Q E ⟨h, g, d, t, os⟩ := by
  simp only [callSpecial?, specialOf, typeOf]
  refine wpAny_bind (wpAny_bind (wpAny_bind (wpAny_load he (wpAny_pure ?_))))
  rw [hc]
  refine look_str X Y ?_
  simp only [PySem.F.excStr_Exception.str.bind]
  exact wpAny_holding (wpAny_bind (wpAny_pure (wpAny_bind (wpAny_mono (call_bs X he hc hd h0 ht (Q := fun v s' => Q (some v) s') hq) (fun v s' h' => wpAny_pure h') fun _ _ h' => h'))))
theorem str_own {m : Str} {tk : Tok} {oe : Obj} {wa : Array Value} {Q : Value → Shared → Prop} (hu : A.units + 2 < cLine) (X : OwnX h C) (Y : OwnE h) (he : h.get? e = some oe) (hc : oe.cls = .ref C) (hd : oe.data = .fields wa) (h0 : wa[0]? = some (.ref t0)) (ht : h.TupAt t0 [.str m tk]) (hq : Q (.str m tk) ⟨h, g, d, t, os⟩) :
    wpAny (model prog w) A (call (.type "str") [.ref e]) Q E ⟨h, g, d, t, os⟩ := by
  refine callType_new F.called_str (by decide) (F.typeCall_str_1 _) (F.newCall_str_1 _) (fun obj => F.args_object_init_2 obj _) F.entry_str_new
    (meets_str_new (S := fun A' R s' => A'.units + 1 < cLine ∧ s' = ⟨h, g, d, t, os⟩ ∧ R (.ok (.ret (.str m tk))) s')
      fun E' R A' s' _ hq => ?_) ⟨(show A.units + 1 + 1 < cLine from hu), rfl, typeIs_str _ _ _, hq⟩
  obtain ⟨hu, rfl, hq⟩ := hq
  unfold Builtin.Str.strOf
  repeat (first | with_reducible refine wpAny_cRoomFor (show (Around.in1 _).units < cLine from hu) ?_ | with_reducible refine special_own X Y he hc hd h0 ht ?_ | wp_step)
  exact hq
end
end Mine
-- Qe
namespace Mine
noncomputable def poD : { t // PG.theDef (Str.ofString "_law_port") = some t } := ⟨_, by with_unfolding_all rfl⟩
noncomputable abbrev poEnv (L : Addr) : Env := defEnv (nm "_law_port") poD.1.2.2 L 94 (.ref 93)
theorem po_fn (P : Params) : ∃ oc od osl doc pm an ct name, (KF P).lookup 94 = some ⟨oc, od, .func (fnOf name (nm "_law_port") poD.1.1 poD.1.2.1 poD.1.2.2 .none .none doc pm an (.ref 93) ct), osl⟩ := ⟨_, _, _, _, _, _, _, _, (by with_unfolding_all rfl : (KF P).lookup 94 = some (fnO _ _ _ _)).trans (congrArg some (fn_eq poD.2))⟩
theorem po_code (P : Params) : codeIn (KF P) (.ref 93) (nm "_law_port") = true := by kernel_rfl
section
variable {M : Model} {A : Around} {E : Value → Shared → Prop} {h : Heap} {g : Array GenState} {d : Drawn} {t : Nat} {os : OsState} {C D e : Addr}
theorem exc_self {oe : Obj} {Q : Bool → Shared → Prop} (X : OwnX h C) (he : h.get? e = some oe) (hc : oe.cls = .ref C) (hq : Q true ⟨h, g, d, t, os⟩) : wpAny M A (excMatches (.ref e) (.ref C)) Q E ⟨h, g, d, t, os⟩ := by
  obtain ⟨N, nm, q, bs, hdct, sn, sub, ab, col, dd, k0, k1, k2, k3, k5, mN, hC, hN, hn⟩ := X
  exact wpAny_excMatches_sub_self hC he hc (by rw [List.contains_cons]; simp [bmX]) hq
theorem exc_other {oe : Obj} {Q : Bool → Shared → Prop} (X : OwnX h C) (Y : OwnX h D) (hne : D ≠ C) (h24 : D ≠ 24) (he : h.get? e = some oe) (hc : oe.cls = .ref C) (hq : Q false ⟨h, g, d, t, os⟩) : wpAny M A (excMatches (.ref e) (.ref D)) Q E ⟨h, g, d, t, os⟩ := by
  obtain ⟨N, nm, q, bs, hdct, sn, sub, ab, col, dd, k0, k1, k2, k3, k5, mN, hC, hN, hn⟩ := X
  obtain ⟨N', nm', q', bs', hdct', sn', sub', ab', col', dd', k0', k1', k2', k3', k5', mN', hD, hN', hn'⟩ := Y
  have hDB : (Value.ref D :: .ref 24 :: bmX).contains (.type "BaseException") = true := by rw [List.contains_cons]; simp [bmX]
  have hCD : (Value.ref C :: .ref 24 :: bmX).contains (.ref D) = false := by
    simp [bmX, hne, h24]
  have f := tc_notTuple
  unfold excMatches
  repeat (first | (with_reducible refine wpAny_loadPart_at he ?_; rw [hc]) | with_reducible refine wpAny_loadPart_at hD ?_ | (with_reducible refine wpAny_isSubtype_exc hD ?_; rw [hDB]) | (with_reducible refine wpAny_isSubtype_exc hC ?_; rw [hCD]) | wp_step)
  exact hq
end
section
variable {W : Wd} {A : Around} {s : Shared} {L e t C : Addr}
theorem suite_run {m : Str → Option Value} {r o : Str} {u u' : Tok} {oe : Obj} {wa : Array Value} {Q : Flow → Shared → Prop} {E : Value → Shared → Prop} {p1 p2 p3 p4 p5 p6 p7 p8 p9 : Pos} {k1 k2 : Nat}
    (X : (KF W.w.params).In s.heap) (T : Top topProg LZ W.mean W.mg W.mb s.heap) (hns : s.heap.Ns L m) (hf : m (nm "fault") = some (.ref e)) (hr : m (nm "reply") = some (.str r u'))
    (Xc : OwnX s.heap C) (he : s.heap.get? e = some oe) (hc : oe.cls = .ref C) (hd : oe.data = .fields wa) (h0 : wa[0]? = some (.ref t)) (ht : s.heap.TupAt t [.str r u]) (hu : A.units + 10 < cLine)
    (k : ∀ tok tk, Q (.ret (.str o tok)) { s with toks := tk }) :
    wpAny (model PG W.w) A (execs [Stmt.Return (some (.IfExp (.Compare (.Call (.Name (nm "str") p1) [.Name (nm "fault") p2] [] p3) [.Eq] [.Name (nm "reply") p4] p5) (.Constant (.str o) k1 p6) (.Constant (.str (nm "")) k2 p7) p8)) p9] (poEnv L)) Q E s := by
  refine wpAny_execs_cons (wpAny_Return_some (wpAny_IfExp (wpAny_isTrue_Compare1 (Call_ ?_) (by with_unfolding_all rfl))))
  refine Name_function_global (by rfl) (by kernel_rfl) (loadGlobal_builtin (mg := W.mg) (mb := W.mb) T.g (mg_none_of X T.g (g_str _)) T.b ((T.builtins _ (by decide)).trans b_str) ?_) (by decide)
  refine PyProof.Rows.callWith_type1 (args_cons (wpAny_Name (wpAny_loadName_local (by rfl) (by kernel_rfl) hns hf (args_nil ?_)) (by decide))) (by rfl) (by rfl)
  refine str_own (by omega) Xc (own24 X) he hc hd h0 ht ?_
  refine wpAny_Name (wpAny_loadName_local (by rfl) (by kernel_rfl) hns hr ?_) (by decide)
  refine PyProof.Rows.eq_str ?_
  refine wpAny_truthy_bool ?_
  rw [show (r == r) = true by simp]
  exact Constant_str (k _ _)
/-- what holds behind a landing -/
theorem landed_stamp {g0 : Heap} {env : Env} {Mu : List Addr} {ρ : Rho} {h h' : Heap} {l : List Env} {cls a0 : Value} (I : FInv W g0 A env Mu ρ h) (F : Heap.FlyingW (hideAll h (frsA A)) l e cls a0 h') (U : h.UpToSlots h') : Stamp (frsA A) h h' := by
  refine ⟨fun b o hb q => F.1 b o (hideAll_get _ q hb), fun b hb o q => ?_⟩
  obtain ⟨dp', un', gd', cn', cs', L', a', ccd', cl', outer', base', he, B', _⟩ := I.inv.ct.call
  have hf : frsA A = (envX cn' cs' L' a' ccd' cl' :: outer').filterMap (·.frame) := by unfold frsA; rw [B'.stack]
  obtain ⟨o', e1, e2⟩ := (B'.frames.mem (hf ▸ hb)).2
  rw [q] at e1; cases e1
  exact U b o q e2
theorem suite_as {g0 : Heap} {Mu : List Addr} {ρ : Rho} {s₀ s₅ : Shared} {l : List Env} {r o : Str} {u : Tok} {Q : Flow → Shared → Prop} {E : Value → Shared → Prop} {R : Value → Shared → Prop} {p1 p2 p3 p4 p5 p6 p7 p8 p9 pos : Pos} {k1 k2 : Nat}
    (I : FInv W g0 A (poEnv L) Mu ρ s₀.heap) (hst : W.st = true) (hρ : (nm "reply", VS r) ∈ ρ) (F : Heap.FlyingW (hideAll s₀.heap (frsA A)) l e (.ref C) (.ref t) s₅.heap) (ht : s₅.heap.TupAt t [.str r u]) (U : s₀.heap.UpToSlots s₅.heap)
    (hC : C = 49 ∨ C = 37)
    (k : ∀ tok h'' tk, (∀ b o, ¬ Own W (poEnv L) b → s₀.heap.get? b = some o → h''.get? b = some o) → FrK W h'' → Q (.ret (.str o tok)) { s₅ with heap := h'', toks := tk }) :
    codeAny (model PG W.w) (A.mark (some (.ref e))) (.handlers (.ref e) [.ExceptHandler none (some (nm "fault")) [Stmt.Return (some (.IfExp (.Compare (.Call (.Name (nm "str") p1) [.Name (nm "fault") p2] [] p3) [.Eq] [.Name (nm "reply") p4] p5) (.Constant (.str o) k1 p6) (.Constant (.str (nm "")) k2 p7) p8)) p9] pos] (poEnv L))
      (fun r s₂ => match r with
        | .ok f => wpAny (model PG W.w) A (do bindName (poEnv L) (nm "fault") .none; unbindBehindTheSuite (poEnv L) (nm "fault") pos) (fun _ s₃ => Q f s₃) E s₂
        | .error x => R x s₂) s₅ := by
  refine codeAny_handlers_suite_as (lands_againW F fun h₆ F₆ U₆ => ?_)
  have UU := U.trans U₆
  have St := landed_stamp I F₆ UU
  have J := I.stamp (I.sa hst) St
  obtain ⟨v, lk, pv⟩ := J.vars _ hρ
  obtain ⟨tr, rfl⟩ := pv
  obtain ⟨m, hns⟩ := J.ns
  have hm : m (nm "reply") = some (.str r tr) := by
    rcases lk with ⟨_, m', hn', hv⟩ | ⟨q, _⟩
    · rw [ns_unique hns hn']; exact hv
    · have e9 : (poEnv L).kindOf (nm "reply") = some .local := by kernel_rfl
      rw [e9] at q; rcases q with q | q <;> cases q
  have hLo : (poEnv L).locals = L := rfl
  refine wpAny_storeName_local (by kernel_rfl) hns (fun h₇ hn₇ hs₇ => ?_) (by rfl)
  have kp : ∀ b o, b ≠ L → h₆.get? b = some o → h₇.get? b = some o := fun b o hb q => hs₇.extBut b o hb q
  obtain ⟨oe, ws, hoe, hoec, hoed, hoe0⟩ := F₆.first
  have eL : e ≠ L := fun q => by
    obtain ⟨o', es, ep, e1, e2, _⟩ := hns
    rw [hLo, ← q, hoe] at e1; cases e1; rw [hoed] at e2; cases e2
  obtain ⟨ot, nt, hot, hotc, hotd⟩ := ht.of_slots U₆
  have tL : t ≠ L := fun q => by
    obtain ⟨o', es, ep, e1, e2, _⟩ := hns
    rw [hLo, ← q, hot] at e1; cases e1; rw [hotd] at e2; cases e2
  have gL : g0.get? L = none := (J.mu _ J.lm).1
  have st0 : g0.StaysIn h₇ := fun b o q => kp b o (fun z => by rw [z, gL] at q; cases q) (J.keep b o q)
  have X₇ := J.S.X.keeps st0
  have hu : A.units + 10 < cLine := by have := J.inv.ct.units; have := cLine_is; omega
  refine suite_run (C := C) X₇ (J.S.T.keeps st0) hn₇ (if_pos rfl) ((if_neg (by decide)).trans hm) (hC.elim (fun z => z ▸ own49 X₇) fun z => z ▸ own37 X₇) (kp _ _ eL hoe) hoec hoed hoe0 ⟨ot, nt, kp _ _ tL hot, hotc, hotd⟩ hu fun tok tk => ?_
  refine wpAny_nameGoes_keeps (by kernel_rfl) hn₇ (by rfl) fun h₈ v hn₈ hs₈ => ?_
  have kp' : ∀ b o, b ≠ L → h₆.get? b = some o → h₈.get? b = some o := fun b o hb q => hs₈.extBut b o hb (kp b o hb q)
  refine k tok h₈ _ (fun b o hb q => kp' b o (fun z => hb (.inl z)) (St.keep b o (fun z => hb (I.frsM hst b z)) q)) fun b hb => ?_
  obtain ⟨o', sl, z, e1⟩ := J.frK b hb
  exact ⟨o', sl, z, kp' b _ (fun q => J.hap.1 (q ▸ hb)) e1⟩
noncomputable abbrev hN (x : String) (o : String) (p0 p1 p2 p3 p4 p5 p6 p7 p8 p9 pos : Pos) : ExceptHandler := .ExceptHandler (some (.Name (nm x) p0)) (some (nm "fault")) [Stmt.Return (some (.IfExp (.Compare (.Call (.Name (nm "str") p1) [.Name (nm "fault") p2] [] p3) [.Eq] [.Name (nm "reply") p4] p5) (.Constant (.str (nm o)) 0 p6) (.Constant (.str (nm "")) 0 p7) p8)) p9] pos
theorem handle {g0 : Heap} {Mu : List Addr} {ρ : Rho} {s₀ s₅ : Shared} {l : List Env} {r : Str} {u : Tok} {Q : Flow → Shared → Prop} {E : Value → Shared → Prop} {a0 a1 a2 a3 a4 a5 a6 a7 a8 a9 aa b0 b1 b2 b3 b4 b5 b6 b7 b8 b9 ba : Pos}
    (I : FInv W g0 A (poEnv L) Mu ρ s₀.heap) (hst : W.st = true) (hρ : (nm "reply", VS r) ∈ ρ) (F : Heap.FlyingW (hideAll s₀.heap (frsA A)) l e (.ref C) (.ref t) s₅.heap) (ht : s₅.heap.TupAt t [.str r u]) (U : s₀.heap.UpToSlots s₅.heap)
    (hC : C = 49 ∨ C = 37)
    (k : ∀ tok h'' tk, (∀ b o, ¬ Own W (poEnv L) b → s₀.heap.get? b = some o → h''.get? b = some o) → FrK W h'' → Q (.ret (.str (if C = 37 then nm "reply" else nm "proto") tok)) { s₅ with heap := h'', toks := tk }) :
    wpAny (model PG W.w) A (handleBy (.ref e) (poEnv L) [hN "error_proto" "proto" a0 a1 a2 a3 a4 a5 a6 a7 a8 a9 aa, hN "error_reply" "reply" b0 b1 b2 b3 b4 b5 b6 b7 b8 b9 ba]) Q E s₅ := by
  have J := I.stamp (I.sa hst) (landed_stamp I F U)
  have X := J.S.X.keeps J.keep
  have T := J.S.T.keeps J.keep
  obtain ⟨ob, hob, hobc⟩ := F.there
  refine wpAny_handleBy_cons (codeAny_handlers_test (Name_function_global (by rfl) (by kernel_rfl) (loadGlobal_global T.g (mg_of X T.g (g_proto _)) ?_) (by decide))) (by intro q; cases q)
  rcases hC with rfl | rfl
  · exact exc_self (own49 X) hob hobc (suite_as I hst hρ F ht U (.inl rfl) k)
  · refine exc_other (own37 X) (own49 X) (by decide) (by decide) hob hobc ?_
    refine wpAny_handleBy_cons (codeAny_handlers_test (Name_function_global (by rfl) (by kernel_rfl) (loadGlobal_global T.g (mg_of X T.g (g_reply _)) ?_) (by decide))) (by intro q; cases q)
    exact exc_self (own37 X) hob hobc (suite_as I hst hρ F ht U (.inr rfl) k)
noncomputable abbrev poR (r x : Str) (i : Int) : Rho := [(nm "reply", VS r), (nm "peer", VT [VS x, VI i])]
theorem g_p229 (P : Params) : nsIn (KF P) mainGlobals (nm "parse229") = some (some (.ref 58)) := by kernel_rfl
theorem k_p229 (P : Params) : keepIn (KF P) (.ref 58) = true := by kernel_rfl
/-- an expression that raises -/
theorem call_raises {env : Env} {g0 : Heap} {ρ : Rho} {Mu : List Addr} {x r : Str} {px pos : Pos} {e₀ : Expr} {es : List Expr} {f : Addr} {Vs : List VP} {Q E : Value → Shared → Prop} (hn : PE W env ρ (.Name x px) (VE (.ref f))) (hk : keepIn (KF W.w.params) (.ref f) = true) (ha : PA W env ρ pos (e₀ :: es) Vs) (hf : FCr W (.ref f) Vs C r)
    (I : FInv W g0 A env Mu ρ s.heap) (k : ∀ s₁ l e t u h' tk, s₁.heap = s₁.heap → FInv W g0 A env Mu ρ s₁.heap → s.heap.StaysIn s₁.heap → (∃ h₁ tk₁, s₁ = { s with heap := h₁, toks := tk₁ }) → A.frames = some l → Heap.FlyingW (hideAll s₁.heap (frsA A)) l e (.ref C) (.ref t) h' → h'.TupAt t [.str r u] → s₁.heap.UpToSlots h' → E (.ref e) { s₁ with heap := h', toks := tk })
    (he : starEach (e₀ :: es) env = (false, eval e₀ env) :: starEach es env := by rfl) (hp : (backTo pos (starEach es env)).any (·.1) = false := by rfl) : wpAny (model PG W.w) A (eval (.Call (.Name x px) (e₀ :: es) [] pos) env) Q E s :=
  Call_ (hn A Mu s _ _ I.inv fun v h₁ tk₁ k₁ p₁ => by
    cases p₁
    refine callWith_K (I.mono k₁).inv.ct.X hk (ha A Mu { s with heap := h₁, toks := tk₁ } _ _ (I.mono k₁).inv fun vs h₂ tk₂ k₂ p₂ => ⟨((I.mono k₁).mono k₂).inv.ct.X, ?_⟩) he hp
    have I₂ := (I.mono k₁).mono k₂
    exact hf A Mu _ vs Q E I₂.inv.ct.weak I₂.inv.mu p₂ fun l e t u h' tk e1 F T _ U => k { s with heap := h₂, toks := tk₂ } l e t u h' tk rfl I₂ (stays_trans k₁ k₂) ⟨_, _, rfl⟩ e1 F T U)
theorem port_bad {g0 : Heap} {r x : Str} {i : Int} (hst : W.st = true) (hlv : 1 ≤ W.lv) (hsz : r.length ≤ 1000000) (hC : C = 49 ∨ C = 37) (B : Bad r C) : PRa g0 W (poEnv L) poD.1.2.1 (poR r x i) (VS (if C = 37 then nm "reply" else nm "proto")) := by
  intro A Mu s Q E I k
  refine wpAny_execs_cons (wpAny_Try_except (wpAny_execs_cons (PyProof.Rows.Assign_Tuple (call_raises (PE.global (by kernel_rfl) (g_p229 _)) (k_p229 _) (PA.cons (PE.nm 0 rfl) (PA.cons (PE.nm 1 rfl) PA.nil)) (par_bad hlv hsz B) I fun s₁ l e t u h' tk _ I₁ k₁ hs e1 F T U => ?_) (by rfl) (by rfl))))
  obtain ⟨h₁, tk₁, rfl⟩ := hs
  obtain ⟨dp', un', gd', cn', cs', L', a', ccd', cl', outer', base', A₀', gB', rfl, he, hg', hsub', B', hd', _⟩ := I₁.S.call
  have hfr : (ktrTop dp' un' gd' cn' cs' L' a' ccd' cl' outer').frames = some (poEnv L :: outer') := by rw [he]
  rw [hfr] at e1
  cases e1
  have F' := F
  refine wpAny_looks_onW hfr (show (poEnv L).frame = some L from rfl) F fun h₄ hheld hsm₄ => ?_
  refine wpAny_landsW hheld fun h₅ F₅ hsm₅ => ?_
  have UU := (U.trans hsm₄).trans hsm₅
  refine handle I₁ hst (.head _) F₅ ((T.of_slots hsm₄).of_slots hsm₅) UU hC fun tok h'' tk kp fr => ?_
  exact k _ h'' tk (fun b o hb q => kp b o hb (k₁ _ _ q)) fr ⟨_, rfl⟩
theorem g_isi (P : Params) : nsIn (KF P) mainGlobals (nm "isinstance") = some none := by kernel_rfl
theorem b_isi : bootBuiltins (nm "isinstance") = some (.builtin "isinstance") := by rfl
theorem PX.tryOk {env : Env} {ρ ρ' : Rho} {st : Stmt} {h₀ : ExceptHandler} {hs : List ExceptHandler} {pos : Pos} (h : PX W env st ρ ρ') : PX W env (.Try [st] (h₀ :: hs) [] [] pos) ρ ρ' := fun g0 A Mu s Q E I k =>
  wpAny_Try_except (wpAny_execs_cons (h g0 A Mu s _ _ I fun h' tk k' I' => wpAny_execs_nil (wpAny_execs_nil (k h' tk k' I'))))
theorem port_good {g0 : Heap} {r x : Str} {i n : Int} (hlv : 1 ≤ W.lv) (hsz : r.length ≤ 1000000) (G : Good r n) : PRa g0 W (poEnv L) poD.1.2.1 (poR r x i) (VI n) := by
  refine PRa.cons (ρ' := (nm "host", VS x) :: (nm "port", VI n) :: poR r x i) (PX.tryOk (PX.assign2 (PE.calldef (PE.global (by kernel_rfl) (g_p229 _)) (k_p229 _) (PA.cons (PE.nm 0 rfl) (PA.cons (PE.nm 1 rfl) PA.nil)) (par_good hlv hsz G)) (.inl (by kernel_rfl)) (.inl (by kernel_rfl)) (by decide) (up2 [0, 1] rfl (by kernel_rfl)))) ?_
  refine PRa.ret (PE.ifexp (b := true) (PT.and (PAll.cons (a := true) (b := true) (PT.of (PT.cmp F2.eqS (PE.nm 0 rfl) (PE.sub (F2.itemT (k := 0) (V := VS x) (by decide) rfl) (PE.nm 3 rfl) PE.int)) (by simp)) fun _ => PAll.cons (a := true) (b := true) (PT.value (PE.callb (PE.builtin (by kernel_rfl) (g_isi _) b_isi (by decide)) (PA.cons (PE.nm 1 rfl) (PA.cons (PE.builtin (by kernel_rfl) (g_int _) b_int (by decide)) PA.nil)) FC.isiInt)) fun _ => PAll.nil)) (fun _ => PE.nm 1 rfl) (fun h => by cases h)) fun _ _ h => h
theorem port_fcs {V : VP} (hV : Flt V) (hlv : 1 ≤ W.lv) {r x : Str} {i : Int} (h : ∀ F ho L g0, PRa g0 (W.downF F true ho) (poEnv L) poD.1.2.1 (poR r x i) V) : FCs W (.ref 94) [VS r, VT [VS x, VI i]] V := by
  obtain ⟨oc, od, osl, doc, pm, an, ct, name, ho⟩ := po_fn W.w.params
  refine FCs.ofDef (xs := [nm "reply", nm "peer"]) hlv ho (po_code _) (fun vs hl => ?_) (by decide) rfl (fun n x hx => .inl ?_) (of_decide_eq_true (by with_unfolding_all rfl)) rfl rfl rfl hV h
  · match vs, hl with
    | [a, b], _ => rfl
  · rcases List.mem_cons.mp hx with rfl | hx
    · kernel_rfl
    · cases List.mem_singleton.mp hx; kernel_rfl
theorem port_bad_c {r x : Str} {i : Int} (hlv : 2 ≤ W.lv) (hsz : r.length ≤ 1000000) (hC : C = 49 ∨ C = 37) (B : Bad r C) : FCs W (.ref 94) [VS r, VT [VS x, VI i]] (VS (if C = 37 then nm "reply" else nm "proto")) :=
  port_fcs vs_flt (by omega) fun F ho L g0 => port_bad rfl (by show 1 ≤ W.lv - 1; omega) hsz hC B
theorem port_good_c {r x : Str} {i n : Int} (hlv : 2 ≤ W.lv) (hsz : r.length ≤ 1000000) (G : Good r n) : FCs W (.ref 94) [VS r, VT [VS x, VI i]] (VI n) :=
  port_fcs vi_flt (by omega) fun F ho L g0 => port_good (by show 1 ≤ W.lv - 1; omega) hsz G
end
end Mine
-- Qf
namespace Mine
open Builtin Builtin.Str StrLaws NumText
theorem tx_of (x : Str) : x = tx x.cps.toList := Str.ext' (by show x.cps = x.cps.toList.toArray; simp)
theorem tx_app (a b : List Nat) : tx a ++ tx b = tx (a ++ b) := Str.ext' (by show a.toArray ++ b.toArray = (a ++ b).toArray; simp)
theorem tx_cps (a : List Nat) : (tx a).cps.toList = a := by show a.toArray.toList = a; simp
/-- one place of a text -/
theorem find3_at {l : List Nat} {a lo i : Nat} (hlo : lo ≤ i) (ha : l[i]? = some a) (hn : ∀ k, lo ≤ k → k < i → l[k]? ≠ some a) : Txt.find3 (tx l) (ch a) (lo : Int) = (i : Int) := by
  unfold Txt.find3
  rw [from_nat]
  have hi : i < l.length := (List.getElem?_eq_some_iff.mp ha).1
  rcases occ_head_to (tx l) (ch a) lo (tx l).length 1 (Nat.le_refl _) with ⟨_, h⟩ | ⟨j, r, e, h1, h2, h3⟩
  · exact absurd (at_ch.mpr ⟨hi, ha⟩) (h i hlo)
  · rw [e]
    have : j = i := by
      rcases Nat.lt_trichotomy j i with h | h | h
      · exact absurd (at_ch.mp h2).2 (hn j h1 h)
      · exact h
      · exact absurd (at_ch.mpr ⟨hi, ha⟩) (h3 i hlo h)
    rw [this]
theorem find3_no {l : List Nat} {a lo : Nat} (hn : ∀ k, lo ≤ k → l[k]? ≠ some a) : Txt.find3 (tx l) (ch a) (lo : Int) = -1 := by
  unfold Txt.find3
  rw [from_nat]
  rcases occ_head_to (tx l) (ch a) lo (tx l).length 1 (Nat.le_refl _) with ⟨e, h⟩ | ⟨j, r, e, h1, h2, h3⟩
  · rw [e]
  · exact absurd (at_ch.mp h2).2 (hn j h1)
theorem find_zero (x y : Str) : Txt.find x y = Txt.find3 x y ((0 : Nat) : Int) := by
  unfold Txt.find Txt.find3
  rw [from_nat]
  cases occurrences x y 0 x.length 1 <;> rfl
theorem item_at {l : List Nat} {a i : Nat} (ha : l[i]? = some a) : Txt.item (tx l) (i : Int) = ch a := by
  have hi : i < l.length := (List.getElem?_eq_some_iff.mp ha).1
  have e : seqIndex? (i : Int) (tx l).length = some i := by
    unfold seqIndex?
    rw [tx_len]
    have e1 : ¬ ((i : Int) < 0) := by omega
    simp [e1, hi]
  unfold Txt.item Txt.charAt
  rw [e]
  show (⟨#[((some i).bind fun k => l.toArray[k]?).getD 0]⟩ : Str) = ch a
  simp [ha, ch]
theorem slice_at {l : List Nat} {a b : Nat} (hab : a ≤ b) (hb : b ≤ l.length) : Txt.slice (tx l) (some (a : Int)) (some (b : Int)) = tx ((l.drop a).take (b - a)) := by
  have := sliceText_nat (tx l) hab (show b ≤ (tx l).length from hb)
  rw [tx_cps] at this
  exact this
theorem slice_to {l : List Nat} {b : Nat} (hb : b ≤ l.length) : Txt.slice (tx l) none (some (b : Int)) = tx (l.take b) := by
  have := sliceText_to (x := tx l) (j := (b : Int)) ⟨by omega, by rw [tx_cps]; omega⟩
  rw [tx_cps] at this
  simp at this
  exact this
theorem slice_fr {l : List Nat} {a : Nat} (ha : a ≤ l.length) : Txt.slice (tx l) (some (a : Int)) none = tx (l.drop a) := by
  have := sliceText_from (x := tx l) (i := (a : Int)) ⟨by omega, by rw [tx_cps]; omega⟩
  rw [tx_cps] at this
  have e : Txt.slice (tx l) (some (a : Int)) none = sliceText (tx l) (some (a : Int)) none := rfl
  rw [e, this]
  simp [tx]
  exact List.take_of_length_le (by simp)
/-- parts by one sign -/
noncomputable def jl (c : Nat) : List (List Nat) → List Nat
  | [] => []
  | [p] => p
  | p :: q :: r => p ++ c :: jl c (q :: r)
theorem cut_one {c : Nat} : ∀ {p q x y : List Nat}, c ∉ p → c ∉ q → p ++ c :: x = q ++ c :: y → p = q ∧ x = y
  | [], [], x, y, _, _, e => by simpa using e
  | [], b :: q, x, y, _, h, e => by simp at e; exact absurd (by rw [e.1]; exact .head _) h
  | a :: p, [], x, y, h, _, e => by simp at e; exact absurd (by rw [e.1]; exact .head _) h
  | a :: p, b :: q, x, y, h, h', e => by
    simp only [List.cons_append, List.cons.injEq] at e
    obtain ⟨e1, e2⟩ := cut_one (fun z => h (.tail _ z)) (fun z => h' (.tail _ z)) e.2
    exact ⟨by rw [e.1, e1], e2⟩
theorem jl_inj {c : Nat} : ∀ {ps qs : List (List Nat)}, ps ≠ [] → qs ≠ [] → (∀ p ∈ ps, c ∉ p) → (∀ q ∈ qs, c ∉ q) → jl c ps = jl c qs → ps = qs
  | [], _, h, _, _, _, _ => absurd rfl h
  | _ :: _, [], _, h, _, _, _ => absurd rfl h
  | [p], [q], _, _, _, _, e => by simpa [jl] using e
  | [p], q :: q' :: r, _, _, h, _, e => by
    have : c ∈ p := by rw [show p = q ++ c :: jl c (q' :: r) from e]; simp
    exact absurd this (h p (.head _))
  | p :: p' :: r, [q], _, _, _, h, e => by
    have : c ∈ q := by rw [show q = p ++ c :: jl c (p' :: r) from e.symm]; simp
    exact absurd this (h q (.head _))
  | p :: p' :: r, q :: q' :: r', _, _, h, h', e => by
    obtain ⟨e1, e2⟩ := cut_one (h p (.head _)) (h' q (.head _)) (show p ++ c :: jl c (p' :: r) = q ++ c :: jl c (q' :: r') from e)
    have := jl_inj (by simp) (by simp) (fun z hz => h z (.tail _ hz)) (fun z hz => h' z (.tail _ hz)) e2
    rw [e1, this]
theorem join_jl (c : Nat) : ∀ ps : List Str, (Str.join (ch c) ps).cps.toList = jl c (ps.map fun p => p.cps.toList)
  | [] => rfl
  | [p] => rfl
  | p :: q :: r => by
    have ih := join_jl c (q :: r)
    show ((p.cps ++ (ch c).cps) ++ (Str.join (ch c) (q :: r)).cps).toList = p.cps.toList ++ c :: jl c ((q :: r).map fun p => p.cps.toList)
    rw [← ih]
    simp [ch]
theorem split_tx {c : Nat} {m : List Nat} {ps : List (List Nat)} (hp : ps ≠ []) (hf : ∀ p ∈ ps, c ∉ p) (e : jl c ps = m) : Txt.split (tx m) (ch c) = ps.map tx := by
  have h1 := join_split (tx m) (ch c)
  have h2 := split_free (tx m) c
  have h3 : (Txt.split (tx m) (ch c)) ≠ [] := fun q => by
    have := split_pos (tx m) (ch c); rw [q] at this; simp at this
  have h4 : jl c ((Txt.split (tx m) (ch c)).map fun p => p.cps.toList) = jl c ps := by
    rw [← join_jl, h1, tx_cps, e]
  have h5 := jl_inj (by simpa using h3) hp (fun p hp => by
    obtain ⟨q, hq, rfl⟩ := List.mem_map.mp hp
    exact h2 q hq) hf h4
  rw [← h5, List.map_map]
  conv => lhs; rw [← List.map_id (Txt.split (tx m) (ch c))]
  exact List.map_congr_left fun x _ => tx_of x

/-- figures -/
theorem text_blank {ds : List Nat} (h : AllDigits ds) : PySem.intText? (tx (32 :: ds)) = PySem.intText? (tx ds) := by
  have hx : ∀ (l : List Nat), (∀ c ∈ l, 1 ≤ c ∧ c < 128) → numTextOf (tx l) = l ∧ numSeenOf (tx l) = l := fun l hl => by
    have e1 : numTextOf (tx l) = l := by
      have : numTextOf (tx l) = (tx l).cps.toList := by
        refine if_pos ?_
        rw [← Array.all_toList, List.all_eq_true]
        intro c hc
        rw [tx_cps] at hc
        exact decide_eq_true (hl c hc).2
      rw [this, tx_cps]
    refine ⟨e1, ?_⟩
    show (numTextOf (tx l)).takeWhile _ = _
    rw [e1]
    refine takeWhile_all fun c hc => ?_
    have := hl c hc
    exact bne_iff_ne.mpr (by omega)
  have h1 : ∀ c ∈ ds, 1 ≤ c ∧ c < 128 := fun c hc => by have := h c hc; omega
  have h2 : ∀ c ∈ (32 :: ds), 1 ≤ c ∧ c < 128 := fun c hc => by
    rcases List.mem_cons.mp hc with rfl | hc
    · omega
    · exact h1 c hc
  obtain ⟨a1, a2⟩ := hx ds h1
  obtain ⟨b1, b2⟩ := hx (32 :: ds) h2
  have hd : (32 :: ds).dropWhile blank = ds.dropWhile blank := by rw [List.dropWhile_cons]; rfl
  have hc : core (32 :: ds) = core ds := by unfold core; rw [hd]
  unfold PySem.intText?
  rw [a1, a2, b1, b2, hc, hd]
  simp
noncomputable def dgL (j : Nat) (sh : Int) : List Nat := (Str.ofString (toString (1000 * ((j : Int) + 1) + sh))).cps.toList
noncomputable def pfL (j : Nat) : List Nat := ([[], [48], [32]] : List (List Nat)).getD ((j + 1) % 3) []
noncomputable def fgL (j : Nat) (sh : Int) : List Nat := pfL j ++ dgL j sh
theorem pf_cases (j : Nat) : pfL j = [] ∨ pfL j = [48] ∨ pfL j = [32] := by
  unfold pfL
  have h3 : (j + 1) % 3 < 3 := Nat.mod_lt _ (by decide)
  generalize (j + 1) % 3 = m at h3
  match m, h3 with
  | 0, _ => exact .inl rfl
  | 1, _ => exact .inr (.inl rfl)
  | 2, _ => exact .inr (.inr rfl)
theorem fig_tx (j : Nat) (sh : Int) : figS j sh = tx (fgL j sh) := by
  unfold figS fgL
  rw [← tx_app, show tx (dgL j sh) = Str.ofString (toString (1000 * ((j : Int) + 1) + sh)) from (tx_of _).symm]
  congr 1
  unfold pfL
  have h3 : (j + 1) % 3 < 3 := Nat.mod_lt _ (by decide)
  generalize (j + 1) % 3 = m at h3
  match m, h3 with
  | 0, _ => kernel_rfl
  | 1, _ => kernel_rfl
  | 2, _ => kernel_rfl
section
variable {j : Nat} {sh : Int} (hj : j < 6) (hsh : 65 ≤ sh ∧ sh < 43544)
include hj hsh
theorem dg_all : AllDigits (dgL j sh) := by
  obtain ⟨m, hm⟩ := Int.eq_ofNat_of_zero_le (show (0 : Int) ≤ 1000 * ((j : Int) + 1) + sh by omega)
  intro c hc
  unfold dgL at hc
  rw [hm, KIN.signs_num] at hc
  obtain ⟨ch, hch, e⟩ := List.mem_map.mp hc
  have r := digit_range (Nat.isDigit_of_mem_toDigits (by decide) (by decide) hch)
  rw [← e]
  exact r
theorem dg_len : (dgL j sh).length ≤ 10 := KT.len_num (by omega) (by omega)
theorem dg_ne : dgL j sh ≠ [] := by
  obtain ⟨m, hm⟩ := Int.eq_ofNat_of_zero_le (show (0 : Int) ≤ 1000 * ((j : Int) + 1) + sh by omega)
  unfold dgL
  rw [hm, KIN.signs_num]
  intro e
  have h := toDigits_len_ge 10 m
  rw [List.map_eq_nil_iff.mp e] at h
  exact absurd h (by decide)
theorem fg_len : (fgL j sh).length ≤ 11 := by
  have := dg_len hj hsh
  unfold fgL
  rw [List.length_append]
  rcases pf_cases j with e | e | e <;> rw [e] <;> simp <;> omega
theorem fg_mem : ∀ c ∈ fgL j sh, c = 32 ∨ (48 ≤ c ∧ c ≤ 57) := fun c hc => by
  unfold fgL at hc
  rcases List.mem_append.mp hc with h | h
  · rcases pf_cases j with e | e | e <;> rw [e] at h <;> simp at h <;> omega
  · exact .inr (dg_all hj hsh c h)
theorem fg_int : PySem.intText? (tx (fgL j sh)) = some (1000 * ((j : Int) + 1) + sh) := by
  have hd := dg_all hj hsh
  have hne := dg_ne hj hsh
  have hl := dg_len hj hsh
  have h0 : PySem.intText? (tx (dgL j sh)) = some (1000 * ((j : Int) + 1) + sh) := by
    rw [show tx (dgL j sh) = Str.ofString (toString (1000 * ((j : Int) + 1) + sh)) from (tx_of _).symm]
    exact KIN.num_reads (by omega) (by omega)
  unfold fgL
  rcases pf_cases j with e | e | e <;> rw [e]
  · exact h0
  · have h1 : AllDigits ([48] ++ dgL j sh) := fun c hc => by
      rcases List.mem_append.mp hc with h | h
      · simp at h; omega
      · exact hd c h
    have a := intText_digits (x := tx ([48] ++ dgL j sh)) (by rw [tx_cps]; exact h1) (by rw [tx_cps]; simp) (by rw [tx_len, List.length_append]; simp; omega)
    have b := intText_digits (x := tx (dgL j sh)) (by rw [tx_cps]; exact hd) (by rw [tx_cps]; exact hne) (by rw [tx_len]; omega)
    rw [h0] at b
    rw [a, b, tx_cps, tx_cps]
    rfl
  · rw [← h0]; exact text_blank hd
end
end Mine
-- Qg
namespace Mine
noncomputable def P8 : List Nat := [50, 50, 57, 32, 98, 41, 32, 40]
theorem tx_ne {a b : List Nat} (h : a ≠ b) : (tx a != tx b) = true := by
  rw [bne_iff_ne]; intro e
  have := congrArg (fun x : Str => x.cps.toList) e
  rw [tx_cps, tx_cps] at this
  exact h this
theorem tx_eq {a b : List Nat} (h : a = b) : (tx a != tx b) = false := by subst h; simp
theorem ch_tx (c : Nat) : ch c = tx [c] := rfl
theorem code_ok (m : List Nat) : (Txt.slice (tx (P8 ++ m)) none (some 3) != nm "229") = false := by
  rw [show (3 : Int) = ((3 : Nat) : Int) from rfl, slice_to (by simp [P8])]
  rw [show (P8 ++ m).take 3 = [50, 50, 57] from rfl]
  kernel_rfl
theorem left_7 (m : List Nat) : Txt.find (tx (P8 ++ m)) (nm "(") = 7 := by
  rw [find_zero, show nm "(" = ch 40 by kernel_rfl]
  refine find3_at (Nat.zero_le _) rfl fun k _ hk => ?_
  match k, hk with
  | 0, _ => simp [P8]
  | 1, _ => simp [P8]
  | 2, _ => simp [P8]
  | 3, _ => simp [P8]
  | 4, _ => simp [P8]
  | 5, _ => simp [P8]
  | 6, _ => simp [P8]
theorem p8_get (m : List Nat) (k : Nat) : (P8 ++ m)[8 + k]? = m[k]? := by
  rw [List.getElem?_append_right (by simp [P8])]; simp [P8]
theorem p8_len (m : List Nat) : (P8 ++ m).length = 8 + m.length := by rw [List.length_append]; rfl
/-- no bracket closes behind -/
theorem shape_open {m : List Nat} (h : 41 ∉ m) : Bad (tx (P8 ++ m)) 49 := by
  refine Bad.right (l := 7) (code_ok m) (left_7 m) (by decide) ?_
  rw [show (7 : Int) + 1 = ((8 : Nat) : Int) from rfl, show nm ")" = ch 41 by kernel_rfl, find3_no fun k hk e => ?_]
  · decide
  · obtain ⟨i, rfl⟩ : ∃ i, k = 8 + i := ⟨k - 8, by omega⟩
    rw [p8_get] at e
    exact h (List.mem_of_getElem? e)
/-- the mark is a closing bracket -/
theorem shape_paren (m : List Nat) : Bad (tx (P8 ++ 41 :: m)) 49 := by
  have hq : Txt.find3 (tx (P8 ++ 41 :: m)) (nm ")") (7 + 1) = 8 := by
    rw [show (7 : Int) + 1 = ((8 : Nat) : Int) from rfl, show nm ")" = ch 41 by kernel_rfl]
    exact find3_at (i := 8) (Nat.le_refl _) rfl fun k h1 h2 => by omega
  have hl := p8_len (41 :: m)
  rw [List.length_cons] at hl
  refine Bad.mark (l := 7) (q := 8) (code_ok _) (left_7 _) (by decide) hq (by rw [tx_len, hl]; omega) (by decide) (by rw [tx_len, hl]; omega) ?_
  rw [show (7 : Int) + 1 = ((8 : Nat) : Int) from rfl, show (8 : Int) - 1 = ((7 : Nat) : Int) from rfl, item_at (a := 41) rfl, item_at (a := 40) rfl]
  kernel_rfl
section
variable {c : Nat} {body rest : List Nat}
theorem right_at (hc : c ≠ 41) (hb : 41 ∉ body) : Txt.find3 (tx (P8 ++ c :: (body ++ 41 :: rest))) (nm ")") (7 + 1) = ((9 + body.length : Nat) : Int) := by
  rw [show (7 : Int) + 1 = ((8 : Nat) : Int) from rfl, show nm ")" = ch 41 by kernel_rfl]
  refine find3_at (by omega) ?_ fun k h1 h2 e => ?_
  · rw [show 9 + body.length = 8 + (body.length + 1) by omega, p8_get, List.getElem?_cons_succ, List.getElem?_append_right (Nat.le_refl _)]; simp
  · obtain ⟨i, rfl⟩ : ∃ i, k = 8 + i := ⟨k - 8, by omega⟩
    rw [p8_get] at e
    cases i with
    | zero => simp at e; exact hc e
    | succ i =>
      rw [List.getElem?_cons_succ, List.getElem?_append_left (by omega)] at e
      exact hb (List.mem_of_getElem? e)
theorem shape_len : (P8 ++ c :: (body ++ 41 :: rest)).length = 10 + body.length + rest.length := by
  rw [p8_len, List.length_cons, List.length_append, List.length_cons]; omega
theorem mark_left : Txt.item (tx (P8 ++ c :: (body ++ 41 :: rest))) (7 + 1) = ch c := by
  rw [show (7 : Int) + 1 = ((8 : Nat) : Int) from rfl]; exact item_at rfl
theorem mark_right {b' : List Nat} {z : Nat} (hz : body = b' ++ [z]) : Txt.item (tx (P8 ++ c :: (body ++ 41 :: rest))) (((9 + body.length : Nat) : Int) - 1) = ch z := by
  subst hz
  rw [show (((9 + (b' ++ [z]).length : Nat) : Int) - 1) = ((9 + b'.length : Nat) : Int) by simp; omega]
  refine item_at ?_
  rw [show 9 + b'.length = 8 + (b'.length + 1) by omega, p8_get, List.getElem?_cons_succ, List.getElem?_append_left (by simp), List.getElem?_append_right (Nat.le_refl _)]
  simp
theorem mid_at : Txt.slice (tx (P8 ++ c :: (body ++ 41 :: rest))) (some (7 + 1)) (some ((9 + body.length : Nat) : Int)) = tx (c :: body) := by
  rw [show (7 : Int) + 1 = ((8 : Nat) : Int) from rfl, slice_at (by omega) (by rw [shape_len]; omega)]
  rw [show (P8 ++ c :: (body ++ 41 :: rest)).drop 8 = c :: (body ++ 41 :: rest) from rfl, show 9 + body.length - 8 = body.length + 1 by omega, List.take_succ_cons, List.take_left]
theorem ch_ne {a b : Nat} (h : a ≠ b) : (ch a != ch b) = true := by rw [ch_tx, ch_tx]; exact tx_ne (by simpa using h)
theorem shape_mark {b' : List Nat} {z : Nat} (hc : c ≠ 41) (hb : 41 ∉ body) (hz : body = b' ++ [z]) (hne : c ≠ z) : Bad (tx (P8 ++ c :: (body ++ 41 :: rest))) 49 := by
  refine Bad.mark (l := 7) (code_ok _) (left_7 _) (by decide) (right_at hc hb) (by rw [tx_len, shape_len]; omega) (by omega) (by rw [tx_len, shape_len]; omega) ?_
  rw [mark_left, mark_right hz]
  exact ch_ne hne
theorem shape_parts {b' : List Nat} {ps : List (List Nat)} (hc : c ≠ 41) (hb : 41 ∉ body) (hz : body = b' ++ [c]) (hl : body.length ≤ 100) (hp : ps ≠ []) (hf : ∀ p ∈ ps, c ∉ p) (e : jl c ps = c :: body) (h5 : ps.length ≠ 5) (h1 : ps.length ≤ 1000) : Bad (tx (P8 ++ c :: (body ++ 41 :: rest))) 49 := by
  refine Bad.parts (l := 7) (code_ok _) (left_7 _) (by decide) (right_at hc hb) (by rw [tx_len, shape_len]; omega) (by omega) (by rw [tx_len, shape_len]; omega) ?_ mid_at mark_left rfl (by rw [tx_len, List.length_cons]; omega) ?_ ?_
  · rw [mark_left, mark_right hz]; simp
  · rw [split_tx hp hf e, List.length_map]; exact h1
  · rw [split_tx hp hf e, List.length_map, bne_iff_ne]; omega
theorem shape_good {b' : List Nat} {ps : List (List Nat)} {f : List Nat} {n : Int} (hc : c ≠ 41) (hb : 41 ∉ body) (hz : body = b' ++ [c]) (hl : body.length ≤ 100) (hp : ps ≠ []) (hf : ∀ p ∈ ps, c ∉ p) (e : jl c ps = c :: body) (h5 : ps.length = 5) (h3 : ps[3]? = some f) (hn : PySem.intText? (tx f) = some n) (hfl : f.length ≤ 640) : Good (tx (P8 ++ c :: (body ++ 41 :: rest))) n := by
  refine ⟨code_ok _, 7, _, _, _, tx f, left_7 _, by decide, right_at hc hb, by rw [tx_len, shape_len]; omega, by omega, by rw [tx_len, shape_len]; omega, ?_, mid_at, mark_left, rfl, by rw [tx_len, List.length_cons]; omega, ?_, ?_, hn, hfl⟩
  · rw [mark_left, mark_right hz]; simp
  · rw [split_tx hp hf e, List.length_map]; exact h5
  · rw [split_tx hp hf e, List.getElem?_map, h3]; rfl
end
end Mine
-- Qh
namespace Mine
structure SgC (c : Nat) : Prop where
  dig : c < 48 ∨ 57 < c
  sp : c ≠ 32
  ex : c ≠ 120
section
variable {c j : Nat} {sh : Int} (S : SgC c) (hj : j < 6) (hsh : 65 ≤ sh ∧ sh < 43544)
include S hj hsh
theorem fg_c : c ∉ fgL j sh := fun h => by
  have := fg_mem hj hsh c h
  have h1 := S.dig; have h2 := S.sp
  omega
omit S in
theorem fg_41 : 41 ∉ fgL j sh := fun h => by
  have := fg_mem hj hsh 41 h
  omega
theorem good_even (hc : c ≠ 41) (he : j % 2 = 0) : Good (goodS c j sh) (1000 * ((j : Int) + 1) + sh) := by
  have e : goodS c j sh = tx (P8 ++ c :: (([55, c, 55, c] ++ fgL j sh ++ [c]) ++ 41 :: [32, 40, 41])) := by
    unfold goodS
    rw [marks_eq hj, if_pos he, fig_tx, show nm "229 b) (" = tx P8 by kernel_rfl, show (⟨#[c, 55, c, 55, c]⟩ : Str) = tx [c, 55, c, 55, c] from rfl, ch_tx, show nm ") ()" = tx [41, 32, 40, 41] by kernel_rfl]
    simp only [tx_app]
    congr 1 <;> simp
  rw [e]
  have hf := fg_c S hj hsh
  have h4 := fg_41 (sh := sh) hj hsh
  have hl := fg_len hj hsh
  have d := S.dig
  refine shape_good (b' := [55, c, 55, c] ++ fgL j sh) (ps := [[], [55], [55], fgL j sh, []]) hc ?_ rfl (by simp; omega) (by simp) ?_ (by simp [jl]) rfl rfl (fg_int hj hsh) (by omega)
  · simp [h4]; exact fun h => hc h.symm
  · have h55 : ¬ c = 55 := by have := S.dig; omega
    simp [hf, h55]
theorem good_odd (hc : c ≠ 41) (he : ¬ j % 2 = 0) : Good (goodS c j sh) (1000 * ((j : Int) + 1) + sh) := by
  have e : goodS c j sh = tx (P8 ++ c :: (([c, c] ++ fgL j sh ++ [c]) ++ 41 :: [32, 40, 41])) := by
    unfold goodS
    rw [marks_eq hj, if_neg he, fig_tx, show nm "229 b) (" = tx P8 by kernel_rfl, show (⟨#[c, c, c]⟩ : Str) = tx [c, c, c] from rfl, ch_tx, show nm ") ()" = tx [41, 32, 40, 41] by kernel_rfl]
    simp only [tx_app]
    congr 1 <;> simp
  rw [e]
  have hf := fg_c S hj hsh
  have h4 := fg_41 (sh := sh) hj hsh
  have hl := fg_len hj hsh
  refine shape_good (b' := [c, c] ++ fgL j sh) (ps := [[], [], [], fgL j sh, []]) hc ?_ rfl (by simp; omega) (by simp) ?_ (by simp [jl]) rfl rfl (fg_int hj hsh) (by omega)
  · simp [h4]; exact fun h => hc h.symm
  · have h55 : ¬ c = 55 := by have := S.dig; omega
    simp [hf, h55]
theorem good_ok (hc : c ≠ 41) : Good (goodS c j sh) (1000 * ((j : Int) + 1) + sh) := by
  by_cases he : j % 2 = 0
  · exact good_even S hj hsh hc he
  · exact good_odd S hj hsh hc he
omit S in
theorem good_paren : Bad (goodS 41 j sh) 49 := by
  have e : ∃ m, goodS 41 j sh = tx (P8 ++ 41 :: m) := by
    unfold goodS
    rw [marks_eq hj, fig_tx, show nm "229 b) (" = tx P8 by kernel_rfl, ch_tx, show nm ") ()" = tx [41, 32, 40, 41] by kernel_rfl]
    split
    · refine ⟨[55, 41, 55, 41] ++ fgL j sh ++ [41] ++ [41, 32, 40, 41], ?_⟩
      rw [show (⟨#[41, 55, 41, 55, 41]⟩ : Str) = tx [41, 55, 41, 55, 41] from rfl]
      simp only [tx_app]
      congr 1 <;> simp
    · refine ⟨[41, 41] ++ fgL j sh ++ [41] ++ [41, 32, 40, 41], ?_⟩
      rw [show (⟨#[41, 41, 41]⟩ : Str) = tx [41, 41, 41] from rfl]
      simp only [tx_app]
      congr 1 <;> simp
  obtain ⟨m, e⟩ := e
  rw [e]; exact shape_paren m
omit S in
theorem good_len : (goodS c j sh).length ≤ 1000000 := by
  have hl := fg_len hj hsh
  have h1 := marks_len (c := c) hj
  unfold goodS
  rw [app_len, app_len, app_len, app_len, fig_tx, tx_len]
  show (nm "229 b) (").length + _ + _ + (ch c).length + (nm ") ()").length ≤ _
  have a1 : (nm "229 b) (").length = 8 := by kernel_rfl
  have a2 : (ch c).length = 1 := rfl
  have a3 : (nm ") ()").length = 4 := by kernel_rfl
  omega
omit S in
theorem spoil_len : (spoilS c j sh).length ≤ 1000000 := by
  have hl := fg_len hj hsh
  have hk := kd_in j sh
  have hm : (kdI j sh).toNat < 6 := by omega
  have h1 := rep_len (c := c) hm
  have h2 := close_len hm
  have h3 := code_len j (kdI j sh)
  unfold spoilS
  split
  · exact Nat.le_of_ble_eq_true (by kernel_rfl)
  · rw [app_len, app_len, app_len, app_len, app_len, fig_tx, tx_len]
    have a1 : (nm " b) (").length = 5 := by kernel_rfl
    have a2 : (ch c).length = 1 := rfl
    omega
theorem spoil_form {k : Int} {n : Int} {rp cl : List Nat} {cls : Str} (hk : kdI j sh = k) (h1 : k ≠ 1) (h0 : k ≠ 0) (hn : repL.getD k.toNat 0 = n) (hr : Txt.mul (ch c) n = tx rp) (hcl : closeL.getD k.toNat (nm "") = cls) (hcs : cls = tx cl) : spoilS c j sh = tx (P8 ++ (rp ++ fgL j sh ++ [c] ++ cl)) := by
  unfold spoilS
  rw [hk, if_neg h1, hn, hcl, hr, hcs, fig_tx, ch_tx]
  unfold codeS
  rw [if_neg h0, show nm "229" = tx [50, 50, 57] by kernel_rfl, show nm " b) (" = tx [32, 98, 41, 32, 40] by kernel_rfl]
  simp only [tx_app]
  congr 1 <;> simp [P8]
theorem spoil_bad : Bad (spoilS c j sh) (if kdI j sh = 0 then 37 else 49) := by
  have hf := fg_c S hj hsh
  have h4 := fg_41 (sh := sh) hj hsh
  have hl := fg_len hj hsh
  have hx := S.ex
  have hk := kd_in j sh
  have hcase : kdI j sh = 0 ∨ kdI j sh = 1 ∨ kdI j sh = 2 ∨ kdI j sh = 3 ∨ kdI j sh = 4 ∨ kdI j sh = 5 := by omega
  rcases hcase with e | e | e | e | e | e
  · rw [if_pos e]
    have h3 : (j + 1) % 3 < 3 := Nat.mod_lt _ (by decide)
    refine Bad.code ?_
    have key : ∀ cd : List Nat, cd.length = 3 → cd ≠ [50, 50, 57] → ∀ x : Str, (Txt.slice (tx cd ++ x) none (some 3) != nm "229") = true := fun cd hcd hne x => by
      rw [tx_of x, tx_app, show (3 : Int) = ((3 : Nat) : Int) from rfl, slice_to (by simp; omega), List.take_append_of_le_length (by omega), List.take_of_length_le (by omega), show nm "229" = tx [50, 50, 57] by kernel_rfl]
      exact tx_ne hne
    have app3 : ∀ a b : Str, ∀ c d e f : Str, a ++ b ++ c ++ d ++ e ++ f = a ++ (b ++ c ++ d ++ e ++ f) := fun a b c d e f => by
      rw [tx_of a, tx_of b, tx_of c, tx_of d, tx_of e, tx_of f]; simp only [tx_app, List.append_assoc]
    unfold spoilS
    rw [if_neg (by rw [e]; decide), app3]
    unfold codeS
    rw [if_pos e]
    generalize (j + 1) % 3 = m at h3
    match m, h3 with
    | 0, _ => rw [show codeL.getD 0 (nm "") = tx [49, 50, 57] by kernel_rfl]; exact key _ rfl (by decide) _
    | 1, _ => rw [show codeL.getD 1 (nm "") = tx [50, 49, 57] by kernel_rfl]; exact key _ rfl (by decide) _
    | 2, _ => rw [show codeL.getD 2 (nm "") = tx [50, 50, 56] by kernel_rfl]; exact key _ rfl (by decide) _
  · rw [if_neg (by rw [e]; decide)]
    unfold spoilS
    rw [if_pos e]
    exact Bad.left (by kernel_rfl) (by decide +kernel)
  · rw [if_neg (by rw [e]; decide), spoil_form S hj hsh (rp := [c, c]) (cl := [41]) e (by decide) (by decide) rfl (by kernel_rfl) rfl (by kernel_rfl)]
    by_cases hc : c = 41
    · subst hc; exact shape_paren _
    · rw [show ([c, c] ++ fgL j sh ++ [c] ++ [41]) = c :: (([c] ++ fgL j sh ++ [c]) ++ 41 :: []) by simp]
      refine shape_parts (b' := [c] ++ fgL j sh) (ps := [[], [], fgL j sh, []]) hc ?_ rfl (by simp; omega) (by simp) ?_ (by simp [jl]) (by simp) (by simp)
      · simp [h4]; exact fun h => hc h.symm
      · have h55 : ¬ c = 55 := by have := S.dig; omega
        simp [hf, h55]
  · rw [if_neg (by rw [e]; decide), spoil_form S hj hsh (rp := [c, c, c, c]) (cl := [41]) e (by decide) (by decide) rfl (by kernel_rfl) rfl (by kernel_rfl)]
    by_cases hc : c = 41
    · subst hc; exact shape_paren _
    · rw [show ([c, c, c, c] ++ fgL j sh ++ [c] ++ [41]) = c :: (([c, c, c] ++ fgL j sh ++ [c]) ++ 41 :: []) by simp]
      refine shape_parts (b' := [c, c, c] ++ fgL j sh) (ps := [[], [], [], [], fgL j sh, []]) hc ?_ rfl (by simp; omega) (by simp) ?_ (by simp [jl]) (by simp) (by simp)
      · simp [h4]; exact fun h => hc h.symm
      · have h55 : ¬ c = 55 := by have := S.dig; omega
        simp [hf, h55]
  · rw [if_neg (by rw [e]; decide), spoil_form S hj hsh (rp := [c, c, c]) (cl := [120, 41]) e (by decide) (by decide) rfl (by kernel_rfl) rfl (by kernel_rfl)]
    by_cases hc : c = 41
    · subst hc; exact shape_paren _
    · rw [show ([c, c, c] ++ fgL j sh ++ [c] ++ [120, 41]) = c :: (([c, c] ++ fgL j sh ++ [c] ++ [120]) ++ 41 :: []) by simp]
      refine shape_mark (b' := [c, c] ++ fgL j sh ++ [c]) (z := 120) hc ?_ rfl hx
      simp [h4]; exact fun h => hc h.symm
  · rw [if_neg (by rw [e]; decide), spoil_form S hj hsh (rp := [c, c, c]) (cl := [120]) e (by decide) (by decide) rfl (by kernel_rfl) rfl (by kernel_rfl)]
    by_cases hc : c = 41
    · subst hc; exact shape_paren _
    · refine shape_open ?_
      simp [h4]; exact fun h => hc h.symm
end
theorem port_c {W : Wd} {d : Dt} {sh : Int} (S : ∀ j, j < 6 → SgC (d.c j)) (hsh : 65 ≤ sh ∧ sh < 43544) (hlv : 2 ≤ W.lv) : PortC W d sh fun j => spoilS (d.c j) j sh := by
  refine ⟨fun j hj => spoil_fc (by omega) hj hsh, fun j hj => ?_, fun j hj hc => port_good_c hlv (good_len hj hsh) (good_ok (S j hj) hj hsh hc), fun j hj hc => ?_⟩
  · have B := spoil_bad (S j hj) hj hsh
    by_cases e : kdI j sh = 0
    · rw [if_pos e] at B ⊢
      have := port_bad_c (x := ch (d.c j)) (i := (j : Int) + 1) hlv (spoil_len hj hsh) (.inr rfl) B
      rw [if_pos rfl] at this; exact this
    · rw [if_neg e] at B ⊢
      have := port_bad_c (x := ch (d.c j)) (i := (j : Int) + 1) hlv (spoil_len hj hsh) (.inl rfl) B
      rw [if_neg (by decide)] at this; exact this
  · rw [hc]
    have := port_bad_c (x := ch 41) (i := (j : Int) + 1) hlv (good_len hj hsh) (.inl rfl) (good_paren hj hsh)
    rw [if_neg (by decide)] at this; exact this
end Mine
-- Qi
namespace Mine
open Builtin Builtin.Str StrLaws
theorem at_pair {l : List Nat} {a b hi i : Nat} : At (tx l) (tx [a, b]) hi i ↔ i + 2 ≤ hi ∧ l[i]? = some a ∧ l[i + 1]? = some b := by
  unfold At
  refine and_congr Iff.rfl ?_
  rw [sub_tx]
  constructor
  · intro e
    have h0 := congrArg (·[0]?) e
    have h1 := congrArg (·[1]?) e
    simp [List.getElem?_take, List.getElem?_drop] at h0 h1
    exact ⟨h0, h1⟩
  · rintro ⟨h0, h1⟩
    apply List.ext_getElem?
    intro k
    match k with
    | 0 => simp [List.getElem?_take, List.getElem?_drop, h0]
    | 1 => simp [List.getElem?_take, List.getElem?_drop, h1]
    | k + 2 => simp [List.getElem?_take, List.getElem?_drop]; intro h; omega
theorem pair_idx {l : List Nat} {a b p hi i : Nat} (hn : l.Nodup) (ha : l[p]? = some a) (hb : l[p + 1]? = some b) : At (tx l) (tx [a, b]) hi i ↔ i = p ∧ p + 2 ≤ hi := by
  rw [at_pair]
  constructor
  · rintro ⟨h, e, _⟩
    obtain ⟨h1, e1⟩ := List.getElem?_eq_some_iff.mp e
    obtain ⟨h2, e2⟩ := List.getElem?_eq_some_iff.mp ha
    have : i = p := (List.getElem_inj (h₀ := h1) (h₁ := h2) hn).mp (e1.trans e2.symm)
    subst this; exact ⟨rfl, h⟩
  · rintro ⟨rfl, h⟩; exact ⟨h, ha, hb⟩
theorem find4_pair {l : List Nat} {a b p lo hi : Nat} (hn : l.Nodup) (ha : l[p]? = some a) (hb : l[p + 1]? = some b) (hh : hi ≤ l.length) : find4 (tx l) (tx [a, b]) lo hi = if lo ≤ p ∧ p + 2 ≤ hi then (p : Int) else -1 := by
  by_cases h : lo ≤ p ∧ p + 2 ≤ hi
  · rw [if_pos h, find_at (i := p) hh h.1 ((pair_idx hn ha hb).mpr ⟨rfl, h.2⟩) (fun k h1 h2 h3 => by have := ((pair_idx hn ha hb).mp h3).1; omega)]
  · rw [if_neg h]
    exact find_no hh fun k h1 h2 => h (by obtain ⟨rfl, h3⟩ := (pair_idx hn ha hb).mp h2; exact ⟨h1, h3⟩)
theorem no_dots {l : List Nat} (h : 46 ∉ l) : (occurrences (tx l) DOTS 0 (tx l).length 1).isEmpty = true := by
  rw [dots_eq]
  show (occurrences (tx l) (tx [46, 46, 46]) 0 (tx l).length 1).isEmpty = true
  rcases occ_head_to (tx l) (tx [46, 46, 46]) 0 (tx l).length 1 (Nat.le_refl _) with ⟨e, _⟩ | ⟨j, r, e, _, h2, _⟩
  · rw [e]; rfl
  · exfalso
    have h3 := congrArg (·[0]?) ((sub_tx _ _ _).mp h2.2)
    simp [List.getElem?_take, List.getElem?_drop] at h3
    exact h (List.mem_of_getElem? h3)

theorem sw_tx {l y : List Nat} (hl : y.length ≤ l.length) (h : l.take y.length = y) : Txt.startswith (tx l) (tx y) = true := by
  unfold Txt.startswith
  rw [(sub_tx l y 0).mpr (by simpa using h)]
  simp [tx_len, hl]
theorem sw_no {l y : List Nat} (h : l.take y.length ≠ y) : Txt.startswith (tx l) (tx y) = false := by
  unfold Txt.startswith
  have : subAt (tx l) (tx y) 0 = false := by
    cases e : subAt (tx l) (tx y) 0 with
    | false => rfl
    | true => exact absurd (by simpa using (sub_tx l y 0).mp e) h
  rw [this, Bool.and_false]
theorem ew_tx {l y : List Nat} (hl : y.length ≤ l.length) (h : l.drop (l.length - y.length) = y) : Txt.endswith (tx l) (tx y) = true := by
  unfold Txt.endswith
  rw [show (tx l).length - (tx y).length = l.length - y.length from rfl, (sub_tx l y _).mpr (by rw [h, List.take_length])]
  simp [tx_len, hl]
theorem ew_no {l y : List Nat} (h : (l.drop (l.length - y.length)).take y.length ≠ y) : Txt.endswith (tx l) (tx y) = false := by
  unfold Txt.endswith
  have : subAt (tx l) (tx y) ((tx l).length - (tx y).length) = false := by
    cases e : subAt (tx l) (tx y) ((tx l).length - (tx y).length) with
    | false => rfl
    | true => exact absurd ((sub_tx l y _).mp e) h
  rw [this, Bool.and_false]
/-- six unlike signs, none of them a dot -/
structure Six (l : List Nat) : Prop where
  len : l.length = 6
  nd : l.Nodup
  ne : ∀ x ∈ l, x ≠ 46
section
variable {W : Wd} {l : List Nat} (H : Six l)
include H
theorem Six.has {i : Nat} (hi : i < 6) : ∃ a, l[i]? = some a ∧ a ≠ 46 := by
  have h : i < l.length := by rw [H.len]; exact hi
  exact ⟨l[i], List.getElem?_eq_getElem h, H.ne _ (List.getElem_mem h)⟩
theorem Six.ne2 {i j x y : Nat} (hij : i ≠ j) (hi : l[i]? = some x) (hj : l[j]? = some y) : x ≠ y := fun e => by
  obtain ⟨h1, e1⟩ := List.getElem?_eq_some_iff.mp hi
  obtain ⟨h2, e2⟩ := List.getElem?_eq_some_iff.mp hj
  exact hij ((List.getElem_inj (h₀ := h1) (h₁ := h2) H.nd).mp (e1.trans (e.trans e2.symm)))
theorem Six.take2 {a b : Nat} (ha : l[0]? = some a) (hb : l[1]? = some b) : l.take 2 = [a, b] := by
  match l, ha, hb with
  | x :: y :: r, ha, hb => simp at ha hb; subst ha hb; rfl
theorem Six.drop4 {a b : Nat} (ha : l[4]? = some a) (hb : l[5]? = some b) : l.drop 4 = [a, b] := by
  have h6 := H.len
  match l, ha, hb, h6 with
  | [_, _, _, _, x, y], ha, hb, _ => simp at ha hb; subst ha hb; rfl
theorem loopB {a b p : Nat} (hp : p < 5) (ha : l[p]? = some a) (hb : l[p + 1]? = some b) : loopF (tx l) (tx l).length [tx [a, b], NO] 2 = decide (1 < p) := by
  have h6 : (tx l).length = 6 := H.len
  have e := find4_pair (lo := 2) (hi := 6) H.nd ha hb (Nat.le_of_eq H.len.symm)
  rw [h6, loopF, show (2 : Int) = ((2 : Nat) : Int) from rfl]
  by_cases h : 1 < p
  · rw [if_pos ⟨by omega, by omega⟩] at e
    rw [e, if_neg (by omega), decide_eq_true h, show ((p : Int) + ((tx [a, b]).length : Nat)) = ((p + 2 : Nat) : Int) by rw [tx_len]; simp]
    have := loop_no (x := tx l) (r := []) (lo := p + 2) (hi := 6) (Nat.le_of_eq h6.symm) (by omega)
    rw [this]; rfl
  · rw [if_neg (by omega)] at e
    rw [e, if_pos (by decide), decide_eq_false h]
theorem loopC {a b p : Nat} (hp : p < 5) (ha : l[p]? = some a) (hb : l[p + 1]? = some b) : loopF (tx l) (((tx l).length : Int) - 2) [NO, tx [a, b]] 0 = decide (p < 3) := by
  have h6 : (tx l).length = 6 := H.len
  have e := find4_pair (lo := 0) (hi := 4) H.nd ha hb (by rw [H.len]; omega)
  rw [h6, show (((6 : Nat) : Int) - 2) = ((4 : Nat) : Int) from rfl, show (0 : Int) = ((0 : Nat) : Int) from rfl, loop_no (by omega) (by omega), loopF]
  by_cases h : p < 3
  · rw [if_pos ⟨by omega, by omega⟩] at e
    rw [e, if_neg (by omega), decide_eq_true h]; rfl
  · rw [if_neg (by omega)] at e
    rw [e, if_pos (by decide), decide_eq_false h]
theorem loopG2 {a b c : Nat} (h0 : l[0]? = some a) (h1 : l[1]? = some b) (h2 : l[2]? = some c) : loopF (tx l) (tx l).length [NO, tx [a, b], tx [b, c], NO] 0 = false := by
  have h6 : (tx l).length = 6 := H.len
  have e1 := find4_pair (lo := 0) (hi := 6) H.nd h0 h1 (Nat.le_of_eq H.len.symm)
  have e2 := find4_pair (lo := 2) (hi := 6) H.nd h1 h2 (Nat.le_of_eq H.len.symm)
  rw [if_pos ⟨by omega, by omega⟩] at e1
  rw [if_neg (by omega)] at e2
  rw [h6, show (0 : Int) = ((0 : Nat) : Int) from rfl, loop_no (Nat.le_of_eq h6.symm) (Nat.zero_le _), loopF, e1, if_neg (by omega)]
  rw [show (((0 : Nat) : Int) + ((tx [a, b]).length : Nat)) = ((2 : Nat) : Int) from rfl, loopF, e2, if_pos (by decide)]
variable (hlv : 1 ≤ W.lv)
include hlv
theorem emB' {a b p q k : Nat} (hk : k < 5) (h0 : l[0]? = some a) (h1 : l[1]? = some b) (hp : l[k]? = some p) (hq : l[k + 1]? = some q) : FC W (.ref 65) [VS (tx [a,b,46,46,46,p,q,46,46,46]), VS (tx l)] (VB (decide (1 < k))) := by
  have ne : ∀ {i x}, l[i]? = some x → 46 ≠ x := fun e => Ne.symm (H.ne _ (List.mem_of_getElem? e))
  have h := FC.emT (W := W) hlv (p := [a, b]) (l := [[p, q]]) (q := []) (got := tx l) (by simp; exact ⟨⟨ne h0, ne h1⟩, ne hp, ne hq⟩) rfl (Nat.le_of_ble_eq_true rfl) (by rw [tx_len, H.len]; decide)
  have e : emF (tx l) (tx [a, b]) ([[p, q]].map tx) (tx []) = decide (1 < k) := by
    show (Txt.startswith (tx l) (tx [a, b]) && (!decide (((tx l).length : Int) < 2) && loopF (tx l) (tx l).length [tx [p, q], tx []] 2)) = _
    rw [sw_tx (l := l) (y := [a, b]) (by rw [H.len]; exact Nat.le_of_ble_eq_true rfl) (H.take2 h0 h1), show tx [] = NO from no_eq.symm, loopB H hk hp hq, tx_len, H.len]; rfl
  rw [e] at h; exact h
theorem emC' {a b p q k : Nat} (hk : k < 5) (h4 : l[4]? = some a) (h5 : l[5]? = some b) (hp : l[k]? = some p) (hq : l[k + 1]? = some q) : FC W (.ref 65) [VS (tx [46,46,46,p,q,46,46,46,a,b]), VS (tx l)] (VB (decide (k < 3))) := by
  have ne : ∀ {i x}, l[i]? = some x → 46 ≠ x := fun e => Ne.symm (H.ne _ (List.mem_of_getElem? e))
  have h := FC.emT (W := W) hlv (p := []) (l := [[p, q]]) (q := [a, b]) (got := tx l) (by simp; exact ⟨⟨ne hp, ne hq⟩, ne h4, ne h5⟩) rfl (Nat.le_of_ble_eq_true rfl) (by rw [tx_len, H.len]; decide)
  have e : emF (tx l) (tx []) ([[p, q]].map tx) (tx [a, b]) = decide (k < 3) := by
    show (Txt.endswith (tx l) (tx [a, b]) && (!decide ((((tx l).length : Nat) : Int) - 2 < 0) && loopF (tx l) (((tx l).length : Int) - 2) [tx [], tx [p, q]] 0)) = _
    rw [ew_tx (l := l) (y := [a, b]) (by rw [H.len]; exact Nat.le_of_ble_eq_true rfl) (by rw [H.len]; exact H.drop4 h4 h5), show tx [] = NO from no_eq.symm, loopC H hk hp hq, tx_len, H.len]; rfl
  rw [e] at h; exact h
theorem emA' {w : List Nat} (hw : 46 ∉ w) : FC W (.ref 65) [VS (tx w), VS (tx l)] (VB (tx w == tx l)) := FC.em_eq hlv (no_dots hw)
theorem emD' {a b c : Nat} (h0 : l[0]? = some a) (h1 : l[1]? = some b) (h2 : l[2]? = some c) : FC W (.ref 65) [VS (tx [b,c,46,46,46]), VS (tx l)] (VB false) := by
  have ne : ∀ {i x}, l[i]? = some x → 46 ≠ x := fun e => Ne.symm (H.ne _ (List.mem_of_getElem? e))
  have h := FC.emT (W := W) hlv (p := [b, c]) (l := []) (q := []) (got := tx l) (by simp; exact ⟨ne h1, ne h2⟩) rfl (Nat.le_of_ble_eq_true rfl) (by rw [tx_len, H.len]; decide)
  have e : emF (tx l) (tx [b, c]) ([].map tx) (tx []) = false := by
    show (Txt.startswith (tx l) (tx [b, c]) && _) = false
    rw [sw_no fun e => ?_]; rfl
    rw [show [b, c].length = 2 from rfl, H.take2 h0 h1] at e
    exact H.ne2 (by decide) h0 h1 (List.cons.inj e).1
  rw [e] at h; exact h
theorem emE' {a b c : Nat} (h3 : l[3]? = some a) (h4 : l[4]? = some b) (h5 : l[5]? = some c) : FC W (.ref 65) [VS (tx [46,46,46,a,b]), VS (tx l)] (VB false) := by
  have ne : ∀ {i x}, l[i]? = some x → 46 ≠ x := fun e => Ne.symm (H.ne _ (List.mem_of_getElem? e))
  have h := FC.emT (W := W) hlv (p := []) (l := []) (q := [a, b]) (got := tx l) (by simp; exact ⟨ne h3, ne h4⟩) rfl (Nat.le_of_ble_eq_true rfl) (by rw [tx_len, H.len]; decide)
  have e : emF (tx l) (tx []) ([].map tx) (tx [a, b]) = false := by
    show (Txt.endswith (tx l) (tx [a, b]) && _) = false
    rw [ew_no fun e => ?_]; rfl
    rw [show [a, b].length = 2 from rfl, H.len, show 6 - 2 = 4 from rfl, H.drop4 h4 h5] at e
    exact H.ne2 (by decide) h4 h3 (List.cons.inj e).1
  rw [e] at h; exact h
theorem emG' {a b c : Nat} (h0 : l[0]? = some a) (h1 : l[1]? = some b) (h2 : l[2]? = some c) : FC W (.ref 65) [VS (tx [46,46,46,a,b,46,46,46,b,c,46,46,46]), VS (tx l)] (VB false) := by
  have ne : ∀ {i x}, l[i]? = some x → 46 ≠ x := fun e => Ne.symm (H.ne _ (List.mem_of_getElem? e))
  have h := FC.emT (W := W) hlv (p := []) (l := [[a, b], [b, c]]) (q := []) (got := tx l) (by simp; exact ⟨⟨ne h0, ne h1⟩, ne h1, ne h2⟩) rfl (Nat.le_of_ble_eq_true rfl) (by rw [tx_len, H.len]; decide)
  have e : emF (tx l) (tx []) ([[a, b], [b, c]].map tx) (tx []) = false := by
    show (!decide (((tx l).length : Int) < 0) && loopF (tx l) (tx l).length [tx [], tx [a, b], tx [b, c], tx []] 0) = false
    rw [show tx [] = NO from no_eq.symm, loopG2 H h0 h1 h2, Bool.and_false]
  rw [e] at h; exact h
end
theorem emF' {W : Wd} (hlv : 1 ≤ W.lv) {c0 c1 c2 c3 c4 c5 : Nat} (H : Six [c0, c1, c2, c3, c4, c5]) : FC W (.ref 65) [VS (tx [c0,c1,c2,c3,c4,c5,46,46,46,c5]), VS (tx [c0, c1, c2, c3, c4, c5])] (VB false) := by
  have h := FC.emT (W := W) hlv (p := [c0, c1, c2, c3, c4, c5]) (l := []) (q := [c5]) (got := tx [c0, c1, c2, c3, c4, c5]) (fun x hx h => ?_) rfl (Nat.le_of_ble_eq_true rfl) (Nat.le_of_ble_eq_true rfl)
  · have e : emF (tx [c0, c1, c2, c3, c4, c5]) (tx [c0, c1, c2, c3, c4, c5]) ([].map tx) (tx [c5]) = false := by
      show (_ && (_ && false)) = false
      rw [Bool.and_false, Bool.and_false]
    rw [e] at h; exact h
  · rcases List.mem_cons.mp hx with rfl | hx
    · exact H.ne _ h rfl
    · cases List.mem_singleton.mp hx; cases List.mem_singleton.mp h; exact H.ne 46 (by simp) rfl
end Mine
-- Qj
namespace Mine
noncomputable def enD : { t // PG.theDef (Str.ofString "_law_ends") = some t } := ⟨_, by with_unfolding_all rfl⟩
noncomputable abbrev enEnv (L : Addr) : Env := defEnv (nm "_law_ends") enD.1.2.2 L 118 (.ref 117)
theorem en_fn (P : Params) : ∃ oc od osl doc pm an ct name, (KF P).lookup 118 = some ⟨oc, od, .func (fnOf name (nm "_law_ends") enD.1.1 enD.1.2.1 enD.1.2.2 .none .none doc pm an (.ref 117) ct), osl⟩ := ⟨_, _, _, _, _, _, _, _, (by with_unfolding_all rfl : (KF P).lookup 118 = some (fnO _ _ _ _)).trans (congrArg some (fn_eq enD.2))⟩
theorem en_code (P : Params) : codeIn (KF P) (.ref 117) (nm "_law_ends") = true := by kernel_rfl
noncomputable def en0 : { t // enD.1.2.1[0]? = some t } := ⟨_, by with_unfolding_all rfl⟩
noncomputable def en1 : { t // enD.1.2.1[1]? = some t } := ⟨_, by with_unfolding_all rfl⟩
theorem dots_tx : nm "..." = tx [46, 46, 46] := by kernel_rfl
section
variable {W : Wd} {L : Addr} {c0 c1 c2 c3 c4 c5 : Nat} (H : Six [c0, c1, c2, c3, c4, c5])
noncomputable abbrev enT (c0 c1 c2 c3 c4 c5 : Nat) : Str := tx [c0, c1, c2, c3, c4, c5]
noncomputable abbrev enR (c0 c1 c2 c3 c4 c5 : Nat) : Rho := [(nm "text", VS (enT c0 c1 c2 c3 c4 c5))]
/-- a slice of the text -/
theorem sl_tx {env : Env} {ρ : Rho} {x : Str} {v : Expr} {lo hi : Option Expr} {p pos : Pos} {l y : List Nat} {a b : Option Int} (hv : PE W env ρ v (VS (tx l))) (hl : PO W env ρ lo a) (hu : PO W env ρ hi b) (hy : Txt.slice (tx l) a b = tx y) (hsz : l.length ≤ 1000)
    (ht : ∀ o r, letTemporaryGo v o r = pure () := by intro _ _; rfl) : PE W env ρ (.Subscript v (.Slice lo hi none p) pos) (VS (tx y)) := PE.sliceS hv hl hu hy (by rw [tx_len]; omega) ht
theorem ad_tx {env : Env} {ρ : Rho} {a b : Expr} {pos : Pos} {x y z : List Nat} (ha : PE W env ρ a (VS (tx x))) (hb : PE W env ρ b (VS (tx y))) (hz : x ++ y = z) (hsz : z.length ≤ 100) : PE W env ρ (.BinOp a .Add b pos) (VS (tx z)) := by
  subst hz
  exact PE.of (PE.binop (F2.addS (by rw [tx_len, tx_len]; rw [List.length_append] at hsz; omega)) ha hb) (by rw [tx_app])
theorem do_tx {env : Env} {ρ : Rho} {k : Nat} {pos : Pos} : PE W env ρ (.Constant (.str (nm "...")) k pos) (VS (tx [46, 46, 46])) := PE.of PE.str (by rw [dots_tx])
theorem mid_tx {l : List Nat} {k p q : Nat} (hp : l[k]? = some p) (hq : l[k + 1]? = some q) : Txt.slice (tx l) (some (k : Int)) (some ((k : Int) + 2)) = tx [p, q] := by
  have h := (List.getElem?_eq_some_iff.mp hq).1
  rw [show (k : Int) + 2 = ((k + 2 : Nat) : Int) by simp, slice_at (by omega) (by omega), show k + 2 - k = 2 by omega]
  congr 1
  apply List.ext_getElem?
  intro i
  match i with
  | 0 => simp [List.getElem?_take, List.getElem?_drop, hp]
  | 1 => simp [List.getElem?_take, List.getElem?_drop, hq]
  | i + 2 => simp [List.getElem?_take, List.getElem?_drop]; intro h; omega
include H
theorem en0_x (hlv : 1 ≤ W.lv) : PX W (enEnv L) en0.1 (enR c0 c1 c2 c3 c4 c5) (enR c0 c1 c2 c3 c4 c5) := by
  refine PX.forW (fun _ => enR c0 c1 c2 c3 c4 c5) (PE.callt (PE.builtin (by kernel_rfl) (g_range _) b_range (by decide)) (PA.cons PE.int PA.nil) (FC.range1 (n := 5) (by decide))) WSrc.range0 (.inl (by kernel_rfl)) (fun _ h => h) (fun i p hp => ?_) (fun k hk => ?_)
  · have : ((enR c0 c1 c2 c3 c4 c5).all fun p => !(p.1 == nm "place")) = true := by kernel_rfl
    simpa using List.all_eq_true.mp this p hp
  obtain ⟨p, hp, _⟩ := H.has (i := k) (by omega)
  obtain ⟨q, hq, _⟩ := H.has (i := k + 1) (by omega)
  have mid := mid_tx hp hq
  have s2 : Txt.slice (enT c0 c1 c2 c3 c4 c5) none (some 2) = tx [c0, c1] := by
    rw [show (2 : Int) = ((2 : Nat) : Int) from rfl, slice_to (Nat.le_of_ble_eq_true rfl)]; rfl
  have s4 : Txt.slice (enT c0 c1 c2 c3 c4 c5) (some 4) none = tx [c4, c5] := by
    rw [show (4 : Int) = ((4 : Nat) : Int) from rfl, slice_fr (Nat.le_of_ble_eq_true rfl)]; rfl
  refine PS.cons (ρ' := (nm "place", VI (k : Int)) :: enR c0 c1 c2 c3 c4 c5) (PX.ite (b := false) (PT.of (PT.cmp F2.isNotB (PE.calldef (PE.global (by kernel_rfl) (g_em _)) (k_em _) (PA.cons
      (ad_tx (ad_tx (ad_tx (sl_tx (x := NO) (PE.nm 1 rfl) (a := none) (b := some 2) trivial PE.int s2 (Nat.le_of_ble_eq_true rfl)) do_tx rfl (Nat.le_of_ble_eq_true rfl)) (sl_tx (x := NO) (PE.nm 1 rfl) (a := some (k : Int)) (b := some ((k : Int) + 2)) (PE.nm 0 rfl) (PE.binop F2.add (PE.nm 0 rfl) PE.int) mid (Nat.le_of_ble_eq_true rfl)) rfl (Nat.le_of_ble_eq_true rfl)) do_tx rfl (Nat.le_of_ble_eq_true rfl))
      (PA.cons (PE.nm 1 rfl) PA.nil)) (emB' H hlv hk rfl rfl hp hq)) (PE.compare F2.gtI (PE.nm 0 rfl) PE.int)) ?_) (fun h => by cases h) (fun _ => PS.weak PS.nil fun _ h => h)) ?_
  · rw [show decide ((1 : Int) < (k : Int)) = decide (1 < k) from decide_eq_decide.mpr (by omega)]; simp
  refine PS.cons (ρ' := enR c0 c1 c2 c3 c4 c5) (PX.weak (PX.ite (b := false) (PT.of (PT.cmp F2.isNotB (PE.calldef (PE.global (by kernel_rfl) (g_em _)) (k_em _) (PA.cons
      (ad_tx (ad_tx (ad_tx do_tx (sl_tx (x := NO) (PE.nm 1 rfl) (a := some (k : Int)) (b := some ((k : Int) + 2)) (PE.nm 0 rfl) (PE.binop F2.add (PE.nm 0 rfl) PE.int) mid (Nat.le_of_ble_eq_true rfl)) rfl (Nat.le_of_ble_eq_true rfl)) do_tx rfl (Nat.le_of_ble_eq_true rfl)) (sl_tx (x := NO) (PE.nm 1 rfl) (a := some 4) (b := none) PE.int trivial s4 (Nat.le_of_ble_eq_true rfl)) rfl (Nat.le_of_ble_eq_true rfl))
      (PA.cons (PE.nm 1 rfl) PA.nil)) (emC' H hlv hk rfl rfl hp hq)) (PE.compare F2.ltI (PE.nm 0 rfl) PE.int)) ?_) (fun h => by cases h) (fun _ => PS.nil)) (sub [1] rfl)) PS.nil
  rw [show decide ((k : Int) < (3 : Int)) = decide (k < 3) from decide_eq_decide.mpr (by omega)]; simp
noncomputable abbrev askL (c0 c1 c2 c3 c4 c5 : Nat) : List (List Nat) := [[c1, c2, c3, c4, c5], [c0, c1, c2, c3, c4], [c1, c2, 46, 46, 46], [46, 46, 46, c3, c4], [c0, c1, c2, c3, c4, c5, 46, 46, 46, c5], [46, 46, 46, c0, c1, 46, 46, 46, c1, c2, 46, 46, 46]]
noncomputable abbrev askV (c0 c1 c2 c3 c4 c5 : Nat) : List VP := (askL c0 c1 c2 c3 c4 c5).map fun l => VS (tx l)
noncomputable abbrev enR1 (c0 c1 c2 c3 c4 c5 : Nat) : Rho := (nm "asked", VL (askV c0 c1 c2 c3 c4 c5)) :: enR c0 c1 c2 c3 c4 c5
omit H in
theorem en1_x : PX W (enEnv L) en1.1 (enR c0 c1 c2 c3 c4 c5) (enR1 c0 c1 c2 c3 c4 c5) := by
  have s2 : Txt.slice (enT c0 c1 c2 c3 c4 c5) none (some 2) = tx [c0, c1] := by
    rw [show (2 : Int) = ((2 : Nat) : Int) from rfl, slice_to (Nat.le_of_ble_eq_true rfl)]; rfl
  have s5 : Txt.slice (enT c0 c1 c2 c3 c4 c5) none (some 5) = tx [c0, c1, c2, c3, c4] := by
    rw [show (5 : Int) = ((5 : Nat) : Int) from rfl, slice_to (Nat.le_of_ble_eq_true rfl)]; rfl
  have s1 : Txt.slice (enT c0 c1 c2 c3 c4 c5) (some 1) none = tx [c1, c2, c3, c4, c5] := by
    rw [show (1 : Int) = ((1 : Nat) : Int) from rfl, slice_fr (Nat.le_of_ble_eq_true rfl)]; rfl
  have s13 : Txt.slice (enT c0 c1 c2 c3 c4 c5) (some 1) (some 3) = tx [c1, c2] := by
    rw [show (1 : Int) = ((1 : Nat) : Int) from rfl, show (3 : Int) = ((3 : Nat) : Int) from rfl, slice_at (by decide) (Nat.le_of_ble_eq_true rfl)]; rfl
  have s35 : Txt.slice (enT c0 c1 c2 c3 c4 c5) (some 3) (some 5) = tx [c3, c4] := by
    rw [show (3 : Int) = ((3 : Nat) : Int) from rfl, show (5 : Int) = ((5 : Nat) : Int) from rfl, slice_at (by decide) (Nat.le_of_ble_eq_true rfl)]; rfl
  have l6 : (enT c0 c1 c2 c3 c4 c5).length = 6 := rfl
  have i5 : Txt.item (enT c0 c1 c2 c3 c4 c5) 5 = tx [c5] := by
    rw [show (5 : Int) = ((5 : Nat) : Int) from rfl, item_at (a := c5) rfl]; rfl
  refine PX.assign (PE.list (Vs := askV c0 c1 c2 c3 c4 c5) (PA.cons (sl_tx (x := NO) (PE.nm 0 rfl) (a := some 1) (b := none) PE.int trivial s1 (Nat.le_of_ble_eq_true rfl)) (PA.cons (sl_tx (x := NO) (PE.nm 0 rfl) (a := none) (b := some 5) trivial PE.int s5 (Nat.le_of_ble_eq_true rfl))
    (PA.cons (ad_tx (sl_tx (x := NO) (PE.nm 0 rfl) (a := some 1) (b := some 3) PE.int PE.int s13 (Nat.le_of_ble_eq_true rfl)) do_tx rfl (Nat.le_of_ble_eq_true rfl)) (PA.cons (ad_tx do_tx (sl_tx (x := NO) (PE.nm 0 rfl) (a := some 3) (b := some 5) PE.int PE.int s35 (Nat.le_of_ble_eq_true rfl)) rfl (Nat.le_of_ble_eq_true rfl))
    (PA.cons (ad_tx (ad_tx (PE.nm 0 rfl) do_tx rfl (Nat.le_of_ble_eq_true rfl)) (PE.sub (F2.itemS (by rw [l6]; decide) (by rw [l6]; decide) (Nat.le_of_ble_eq_true rfl) i5) (PE.nm 0 rfl) PE.int) rfl (Nat.le_of_ble_eq_true rfl))
    (PA.cons (ad_tx (ad_tx (ad_tx (ad_tx do_tx (sl_tx (x := NO) (PE.nm 0 rfl) (a := none) (b := some 2) trivial PE.int s2 (Nat.le_of_ble_eq_true rfl)) rfl (Nat.le_of_ble_eq_true rfl)) do_tx rfl (Nat.le_of_ble_eq_true rfl)) (sl_tx (x := NO) (PE.nm 0 rfl) (a := some 1) (b := some 3) PE.int PE.int s13 (Nat.le_of_ble_eq_true rfl)) rfl (Nat.le_of_ble_eq_true rfl)) do_tx rfl (Nat.le_of_ble_eq_true rfl)) PA.nil)))))) (Nat.le_of_ble_eq_true rfl)) (.inl (by kernel_rfl)) (up [0] rfl (by kernel_rfl)) (by kernel_rfl)
theorem ask_no (hlv : 1 ≤ W.lv) {k : Nat} (hk : k < 6) : ∃ w, vAt (askV c0 c1 c2 c3 c4 c5) k = VS (tx w) ∧ FC W (.ref 65) [VS (tx w), VS (enT c0 c1 c2 c3 c4 c5)] (VB false) := by
  have ne : ∀ x ∈ [c0, c1, c2, c3, c4, c5], x ≠ 46 := H.ne
  have e0 := ne c0 (by simp)
  have e1 := ne c1 (by simp)
  have e2 := ne c2 (by simp)
  have e3 := ne c3 (by simp)
  have e4 := ne c4 (by simp)
  have e5 := ne c5 (by simp)
  match k, hk with
  | 0, _ =>
    refine ⟨_, rfl, ?_⟩
    have := emA' (W := W) H hlv (w := [c1, c2, c3, c4, c5]) (by simp; exact ⟨Ne.symm e1, Ne.symm e2, Ne.symm e3, Ne.symm e4, Ne.symm e5⟩)
    rwa [show (tx [c1, c2, c3, c4, c5] == tx [c0, c1, c2, c3, c4, c5]) = false by
      have := tx_ne (a := [c1, c2, c3, c4, c5]) (b := [c0, c1, c2, c3, c4, c5]) (fun e => by simpa using congrArg List.length e)
      simpa [bne] using this] at this
  | 1, _ =>
    refine ⟨_, rfl, ?_⟩
    have := emA' (W := W) H hlv (w := [c0, c1, c2, c3, c4]) (by simp; exact ⟨Ne.symm e0, Ne.symm e1, Ne.symm e2, Ne.symm e3, Ne.symm e4⟩)
    rwa [show (tx [c0, c1, c2, c3, c4] == tx [c0, c1, c2, c3, c4, c5]) = false by
      have := tx_ne (a := [c0, c1, c2, c3, c4]) (b := [c0, c1, c2, c3, c4, c5]) (fun e => by simpa using congrArg List.length e)
      simpa [bne] using this] at this
  | 2, _ => exact ⟨_, rfl, emD' H hlv (a := c0) rfl rfl rfl⟩
  | 3, _ => exact ⟨_, rfl, emE' H hlv (c := c5) rfl rfl rfl⟩
  | 4, _ => exact ⟨_, rfl, emF' hlv H⟩
  | 5, _ => exact ⟨_, rfl, emG' H hlv rfl rfl rfl⟩
theorem en_body (hlv : 1 ≤ W.lv) {g0 : Heap} : PRa g0 W (enEnv L) enD.1.2.1 (enR c0 c1 c2 c3 c4 c5) (VB true) := by
  have ne : ∀ x ∈ [c0, c1, c2, c3, c4, c5], x ≠ 46 := H.ne
  refine PRa.cons (en0_x H hlv) (PRa.cons en1_x ?_)
  refine PRa.iff (b := false) (PT.of (PT.cmp F2.isNotB (PE.calldef (PE.global (by kernel_rfl) (g_em _)) (k_em _) (PA.cons (PE.nm 1 rfl) (PA.cons (PE.nm 1 rfl) PA.nil)) (emA' H hlv (w := [c0, c1, c2, c3, c4, c5]) (fun h => ne 46 h rfl))) PE.bool) (by simp)) (fun h => by cases h) fun _ => ?_
  refine PRa.ret (PE.compare F2.eqIs (PE.of (PE.comp (ρc := pick _ [1]) (n := 6) [] (fun _ => false) (fun _ => []) (body := fun D C => lastBody _ (.ref D) _) (ESrc.list (Vs := askV c0 c1 c2 c3 c4 c5) (PE.nm 0 rfl) rfl) (by kernel_rfl) (by kernel_rfl) pick_mem (fun I D C => rfl) (fun C k hk => ?_) (fun A g D C k hk h => by cases h) (by decide)) (V' := VL (([] : List Int).map VI)) rfl) (PE.list (Vs := ([] : List Int).map VI) PA.nil (by decide))) fun _ _ h => h
  obtain ⟨w, e, hf⟩ := ask_no (W := W) H hlv hk
  rw [e]
  exact PTs.one (PT.of (PT.cmp F2.isNotB (PE.calldef (PE.global (by kernel_rfl) (g_em _)) (k_em _) (PA.cons (PE.nm 0 rfl) (PA.cons (PE.nm 1 rfl) PA.nil)) hf) PE.bool) (by simp))
theorem ends_fc (hlv : 2 ≤ W.lv) : FC W (.ref 118) [VS (enT c0 c1 c2 c3 c4 c5)] (VB true) := by
  obtain ⟨oc, od, osl, doc, pm, an, ct, name, ho⟩ := en_fn W.w.params
  refine FC.ofDef (xs := [nm "text"]) (V' := fun _ => VB true) (by omega) ho (en_code _) (fun vs hl => ?_) (by decide) rfl (fun n x hx => ?_) (of_decide_eq_true (by with_unfolding_all rfl)) rfl rfl rfl (fun _ _ _ _ _ h => h) fun L g0 => en_body H (by show 1 ≤ W.lv - 1; omega)
  · match vs, hl with
    | [a], _ => rfl
  · cases List.mem_singleton.mp hx; exact .inr ⟨by kernel_rfl, by kernel_rfl⟩
end
theorem Dt.six_of (d : Dt) (hne : ∀ i, i < 6 → d.c i ≠ 46) : Six [d.c 0, d.c 1, d.c 2, d.c 3, d.c 4, d.c 5] := by
  refine ⟨rfl, d.map_nd (l := six) (by decide) (by decide), fun x hx => ?_⟩
  simp at hx
  rcases hx with rfl | rfl | rfl | rfl | rfl | rfl <;> exact hne _ (by decide)
theorem law_ends {W : Wd} {d : Dt} (hne : ∀ i, i < 6 → d.c i ≠ 46) (hlv : 2 ≤ W.lv) : FC W (.ref 118) [VS (d.txt six)] (VB true) := ends_fc (d.six_of hne) hlv
end Mine
-- Qk
namespace Mine
/-- the call of the law itself -/
theorem enter_top {W : Wd} {gB : Heap} {s : Shared} {f : Addr} {oc : Value} {od : Option Addr} {osl : Array (Option Value)} {name qual : Str} {params : Arguments} {body : List Stmt} {scope : Scope} {dV kV doc pm cdv ct : Value} {an : Option Addr} {vs : List Value} {Vs : List VP} {xs : List Str} {X MuC : List Addr} {Q E : Value → Shared → Prop}
    (hhf : W.hf = []) (hlv : W.lv ≤ 90) (X0 : (KF W.w.params).In gB) (T0 : Top topProg LZ W.mean W.mg W.mb gB) (kg : gB.StaysIn s.heap) (hgs : gB.objs.size ≤ s.heap.objs.size) (ho : (KF W.w.params).lookup f = some ⟨oc, od, .func (fnOf name qual params body scope dV kV doc pm an cdv ct), osl⟩) (hcd : codeIn (KF W.w.params) cdv qual = true)
    (hbind : bindArgs (fnOf name qual params body scope dV kV doc pm an cdv ct) ⟨vs, []⟩ = pure (xs.zip vs)) (hxs : xs.Nodup) (hlen : vs.length = xs.length)
    (hkind : ∀ n, ∀ x ∈ xs, scope.names.lookup x = some .local ∨ (scope.names.lookup x = some .cell ∧ ((cellsFrom n scope.names []).lookup x).isSome = true)) (hnd : ((cellsFrom 0 scope.names []).map (·.1)).Nodup)
    (hv : VsP Vs (hideAll s.heap MuC) vs) (hX : ∀ a ∈ X, a ∈ MuC ∧ gB.get? a = none ∧ ∃ o, s.heap.get? a = some o)
    (hco : scope.isCoroutine = false) (hgen : scope.isGenerator = false) (hk : scope.kind = .function)
    (h : ∀ L h₁ tk, s.heap.StaysIn h₁ → FInv W gB (callerA.deeper (defEnv qual scope L f cdv)) (defEnv qual scope L f cdv) (X ++ L :: (cellsFrom (L + 1) scope.names []).map (·.2)) (zipRho xs Vs) h₁ → (∀ b, Own W (defEnv qual scope L f cdv) b → s.heap.get? b = none) → ∀ (E' : Value → Shared → Prop),
      wpAny (model PG W.w) (callerA.deeper (defEnv qual scope L f cdv)) (execs body (defEnv qual scope L f cdv)) (fun fl s' => Q (match fl with | .ret v => v | _ => .none) s') E' { s with heap := h₁, toks := tk }) :
    wpAny (model PG W.w) callerA (call (.ref f) vs) Q E s := by
  refine wpAny_call ?_
  refine codeAny_call_function (by decide) (kg _ _ (X0 _ _ ho)) rfl hco hgen rfl ((codeRec_of X0 hcd).keeps kg) ?_
  rw [hbind]
  refine wpAny_pure ?_
  refine wpAny_newFunctionEnv_cells hk (fun y hy => hkind _ _ (List.of_mem_zip hy).1) fun env' he s' x => ?_
  subst he
  refine ⟨((T0.nolimit.keeps kg).keeps x.toInCall.keep), codeAny_func ?_⟩
  obtain ⟨h₁, tk, rfl, hk₁⟩ := x.done
  have hnn : (xs.zip vs).map (·.1) = xs := by rw [List.map_fst_zip]; omega
  have hcells := x.cell
  have fresh : ∀ b, s.heap.objs.size ≤ b → s.heap.get? b = none := fun b hb => Heap.get?_none_of_le hb
  have hab := x.above
  have cex : ∀ n c, (n, c) ∈ cellsFrom (s.heap.objs.size + 1) scope.names [] → ∃ v, h₁.IsCell c v := fun n c hm => ⟨_, hcells n c (lookup_of_mem_nodup (cellsFrom_names scope.names 0 (s.heap.objs.size + 1) [] [] rfl ▸ hnd) hm)⟩
  have fr : ∀ a, a ∈ s.heap.objs.size :: (cellsFrom (s.heap.objs.size + 1) scope.names []).map (·.2) → s.heap.get? a = none := fun a ha => by
    rcases List.mem_cons.mp ha with rfl | ha
    · exact fresh _ (Nat.le_refl _)
    · obtain ⟨⟨n, c⟩, hm, rfl⟩ := List.mem_map.mp ha
      exact fresh _ (Nat.le_of_lt (hab n c hm))
  have ex : ∀ a, a ∈ s.heap.objs.size :: (cellsFrom (s.heap.objs.size + 1) scope.names []).map (·.2) → ∃ o, h₁.get? a = some o := fun a ha => by
    rcases List.mem_cons.mp ha with rfl | ha
    · obtain ⟨o, _, _, e, _⟩ := x.toInCall.ns; exact ⟨o, e⟩
    · obtain ⟨⟨n, c⟩, hm, rfl⟩ := List.mem_map.mp ha
      obtain ⟨_, o, e, _⟩ := cex n c hm; exact ⟨o, e⟩
  have gn : ∀ a, s.heap.get? a = none → gB.get? a = none := fun a e => by
    cases q : gB.get? a with
    | none => rfl
    | some o => rw [kg _ _ q] at e; cases e
  refine h s.heap.objs.size h₁ tk hk₁ ⟨⟨X0, T0, 302, 7, some [], qual, scope, s.heap.objs.size, f, cdv, _, [], gB, callerA, gB, rfl, rfl, by rw [hhf]; rfl, fun b hb => by (rw [hhf] at hb; cases hb), below_caller gB, rfl, hk, ?_, ?_⟩, stays_trans kg hk₁, ?_, ⟨_, x.toInCall.ns⟩, ?_, fun a ha => ?_, fun y c e => ?_, fun y z c e1 e2 => ?_, fun p hp => ?_, fun b hb => (by rw [hhf] at hb; cases hb), fun b hb => (by rw [hhf] at hb; cases hb), ⟨by rw [hhf]; exact List.not_mem_nil, fun y c e => by rw [hhf]; exact List.not_mem_nil⟩, fun hs b hb => ?_⟩ (fun b hb => ?_) _
  · omega
  · omega
  · exact hgs
  · exact List.mem_append_right _ (.head _)
  · rcases List.mem_append.mp ha with ha | ha
    · exact ⟨(hX a ha).2.1, let ⟨o, e⟩ := (hX a ha).2.2; ⟨o, hk₁ _ _ e⟩⟩
    · exact ⟨gn a (fr a ha), ex a ha⟩
  · exact ⟨List.mem_append_right _ (.tail _ (List.mem_map.mpr ⟨_, mem_of_lookup e, rfl⟩)), cex y c (mem_of_lookup e)⟩
  · exact name_of_addr x.apart (mem_of_lookup e1) (mem_of_lookup e2)
  · obtain ⟨v, hm, pv⟩ := vs_zip (xs := xs) hv p hp
    refine ⟨v, ?_, p.2.mono (hid_new (fun b o _ e => hk₁ b o e) fun a ha => (List.mem_append.mp ha).elim (fun q => .inl (hX a q).1) fun q => .inr (fr a q)) pv⟩
    rcases hkind (s.heap.objs.size + 1) p.1 (List.of_mem_zip hm).1 with hl | ⟨hl, hc⟩
    · exact .inl ⟨hl, _, x.toInCall.ns, bindL_mem hl _ _ hm (by rw [hnn]; exact hxs)⟩
    · obtain ⟨c, hc⟩ := Option.isSome_iff_exists.mp hc
      refine .inr ⟨.inl hl, c, hc, ?_⟩
      have := hcells p.1 c hc
      have e9 := bindC_mem (v := v) (kindOf := (defEnv qual scope s.heap.objs.size f cdv).kindOf) (n := p.1) (by show scope.names.lookup p.1 ≠ _; rw [hl]; decide) (xs.zip vs) (fun _ => none) hm (by rw [hnn]; exact hxs)
      exact e9 ▸ this
  · have hb : b ∈ [s.heap.objs.size] := hb
    cases List.mem_singleton.mp hb; exact .inl rfl
  · rcases hb with rfl | ⟨y, e⟩ | hb
    · exact fr _ (.head _)
    · exact fr _ (.tail _ (List.mem_map.mpr ⟨_, mem_of_lookup e, rfl⟩))
    · rw [hhf] at hb; cases hb

theorem lw_fn (P : Params) : ∃ oc od osl doc pm an ct name, (KF P).lookup 123 = some ⟨oc, od, .func (fnOf name (nm "law") lawD.1.1 lawD.1.2.1 lawD.1.2.2 .none .none doc pm an (.ref 122) ct), osl⟩ := ⟨_, _, _, _, _, _, _, _, (by with_unfolding_all rfl : (KF P).lookup 123 = some (fnO _ _ _ _)).trans (congrArg some (fn_eq lawD.2))⟩
theorem lw_code (P : Params) : codeIn (KF P) (.ref 122) (nm "law") = true := by kernel_rfl
theorem well_ints {P : Params} {h : Heap} : ∀ {ns : List Int} {vs : List Value}, WellAll P h vs (ofPys (ns.map PyData.int)) → ∀ g, VsP (ns.map VI) g vs
  | [], _, .nil, _ => trivial
  | n :: ns, _, .cons (.int _ t) r, g => ⟨⟨t, rfl⟩, well_ints r g⟩
noncomputable def sgl : List Nat := sgn
theorem sgn_ok : ∀ c ∈ sgn, SgC c := by
  have h : (sgn.all fun c => (decide (c < 48) || decide (57 < c)) && !(c == 32) && !(c == 120)) = true := by decide
  intro c hc
  have := List.all_eq_true.mp h c hc
  simp only [Bool.and_eq_true, Bool.or_eq_true, decide_eq_true_eq, Bool.not_eq_true', beq_eq_false_iff_ne] at this
  exact ⟨this.1.1, this.1.2, this.2⟩
theorem lawD_ok {W : Wd} (ns : List Int) (hlv : 5 ≤ W.lv) : LawD W (dOf ns) (shP ns) := by
  have S : ∀ j, j < 6 → SgC ((dOf ns).c j) := fun j hj => sgn_ok _ ((dOf_ok ns).sg j hj)
  exact ⟨told_fc W (dOf ns) (shP ns) (by omega) (fun F ho => port_c S (shP_in ns) (by show 2 ≤ W.lv - 1; omega)) (dOf_ok ns) (shP_in ns), law_ends (dOf_ne ns) (by omega)⟩
theorem enter_law {w : World} {mean : ExcName → Option Value} {mg mb : Str → Option Value} {s : Shared} {l : Addr} {ns : List Int} {Q E : Value → Shared → Prop}
    (hT : TabsAt [(86, 84), (122, 120)] s.heap) (X : (KF w.params).In (ghostOf s.heap [(86, 84), (122, 120)])) (T : Top topProg LZ mean mg mb (ghostOf s.heap [(86, 84), (122, 120)]))
    (hl : Well w.params s.heap (.ref l) (ofPy (PyData.list (ns.map PyData.int)))) (hn : ns.length ≤ 63)
    (k : ∀ h' tk, (ghostOf s.heap [(86, 84), (122, 120)]).StaysIn h' → GrJ 84 h' → GrJ 120 h' → Q (.bool true) { s with heap := h', toks := tk }) :
    wpAny (model PG w) callerA (call (.ref 123) [.ref l]) Q E s := by
  have hl' : Well w.params s.heap (.ref l) (WData.list (ofPys (ns.map PyData.int))) := hl
  cases hl' with
  | @list _ vs _ ho hv =>
  obtain ⟨oc, od, osl, doc, pm, an, ct, name, hf⟩ := lw_fn w.params
  have h84 := (hT (86, 84) (.head _)).2
  have h120 := (hT (122, 120) (.tail _ (.head _))).2
  have ne : l ∉ ([84, 120] : List Addr) := fun q => by
    rcases List.mem_cons.mp q with rfl | q
    · rw [ho] at h84; cases h84
    · cases List.mem_singleton.mp q; rw [ho] at h120; cases h120
  let W : Wd := { lv := 50, w := w, mean := mean, mg := mg, mb := mb, hf := [], st := true, ho := fun _ => none }
  refine enter_top (W := W) (gB := ghostOf s.heap [(86, 84), (122, 120)]) (X := [84, 120]) (MuC := [84, 120]) (Vs := [VL (ns.map VI)]) (xs := [nm "script"]) rfl (show 50 ≤ 90 by decide) X T hid_le (Nat.le_of_eq (hideAll_size _ _)) hf (lw_code _) rfl (by decide) rfl ?_ ?_ ?_ ?_ rfl rfl rfl fun L h₁ tk k₁ I hown E' => ?_
  · intro n x hx
    cases List.mem_singleton.mp hx
    exact .inl (by kernel_rfl)
  · exact of_decide_eq_true (by with_unfolding_all rfl)
  · exact ⟨⟨l, vs, rfl, ⟨_, hideAll_get _ ho ne⟩, well_ints hv _⟩, trivial⟩
  · intro a ha
    refine ⟨ha, hideAll_none _ ha, ?_⟩
    rcases List.mem_cons.mp ha with rfl | ha
    · exact ⟨_, h84⟩
    · cases List.mem_singleton.mp ha; exact ⟨_, h120⟩
  · have B := law_body W L ns (g0 := ghostOf s.heap [(86, 84), (122, 120)]) (by omega) (show 2 ≤ 50 by decide) rfl (lawD_ok ns (show 5 ≤ 50 by decide))
    have nO : ∀ a ∈ ([84] ++ [120] : List Addr), ¬ Own W (lwEnv L) a := fun a ha q => by
      have := hown a q
      rcases List.mem_cons.mp ha with rfl | ha
      · rw [h84] at this; cases this
      · cases List.mem_singleton.mp ha; rw [h120] at this; cases this
    refine B _ _ { s with heap := h₁, toks := tk } _ _ (fun a ha => ⟨List.mem_append_left _ ha, nO a ha⟩) I ⟨k₁ _ _ h84, k₁ _ _ h120⟩ fun v h' tk' kp ex fr pv => ?_
    cases pv
    refine k h' tk' (fun b o e => ?_) ?_ ?_
    · have e' := of_hideAll _ e
      exact kp b o (fun q => by rw [hown b q] at e'; cases e') (fun q => by rw [show (ghostOf s.heap [(86, 84), (122, 120)]).get? b = none from hideAll_none _ q] at e; cases e) (k₁ _ _ e')
    · obtain ⟨o, e, z⟩ := ex 84 (.head _)
      obtain ⟨ps, rfl⟩ := z (.inl rfl)
      exact ⟨ps, e⟩
    · obtain ⟨o, e, z⟩ := ex 120 (.tail _ (.head _))
      obtain ⟨ps, rfl⟩ := z (.inr rfl)
      exact ⟨ps, e⟩
end Mine
-- Hz
namespace Mine
theorem ofL (s : String) : Str.ofString s = ⟨⟨s.toList.map Char.toNat⟩⟩ := by rw [Str.ofString_eq_byList]; rfl
/-- the program with its names told as numbers; the walker's head takes it up by its name -/
noncomputable def hd.tw4230028832355752835 : Program := by
  refine (?f : ∀ t : Program, (∀ p : Program → Prop, p Challenge.pw_wr0029_01 → p t) → Program) _ (fun p h => by
    unfold Challenge.pw_wr0029_01 at h
    simp only [ofL, String.reduceToList, List.map_cons, List.map_nil, Char.reduceToNat] at h
    exact h)
  exact fun t _ => t
theorem hd.te4230028832355752835 : Challenge.pw_wr0029_01 = hd.tw4230028832355752835 := by kernel_rfl
theorem law_good {cw : ClaimW} {cl : Str → Option Addr} {mean : ExcName → Option Value} {args : List WData} {s₁ : Shared} {h' : Heap} {tk : Nat} (hT : TabsAt [(86, 84), (122, 120)] s₁.heap) (st : (ghostOf s₁.heap [(86, 84), (122, 120)]).StaysIn h') (g84 : GrJ 84 h') (g120 : GrJ 120 h')
    (hg : s₁.gens = #[]) (hn : ∀ cls, cw.raises args cls = false) (hp : cw.post args (.bool true) args = true) : GoodWG cw cl mean args s₁ (.ok (.ret (.bool true))) { s₁ with heap := h', toks := tk } := by
  have grown : ∀ b o, b ∈ ([84, 120] : List Addr) → s₁.heap.get? b = some o → isCodeTable s₁.heap b ∧ o = tabObj #[] ∧ ∃ ps, h'.get? b = some (tabObj ps) := fun b o hb e => by
    rcases List.mem_cons.mp hb with rfl | hb
    · have t := hT (86, 84) (.head _)
      have e2 := t.2
      rw [e] at e2
      exact ⟨(t.1.tab t.2).isCodeTable, Option.some.inj e2, g84⟩
    · cases List.mem_singleton.mp hb
      have t := hT (122, 120) (.tail _ (.head _))
      have e2 := t.2
      rw [e] at e2
      exact ⟨(t.1.tab t.2).isCodeTable, Option.some.inj e2, g120⟩
  refine ⟨.inl ⟨_, .bool true, [], rfl, hn, .bool true, hp, fun _ => ⟨List.nodup_nil, fun a ha => by cases ha⟩⟩, ⟨fun b o e => ?_, fun b o e => ?_⟩, rfl, .of_eq hg⟩
  · by_cases hb : b ∈ ([84, 120] : List Addr)
    · obtain ⟨ht, rfl, ps, hP⟩ := grown b o hb e
      exact .inr (.inl ⟨ht, rfl, #[], ps, rfl, by rw [Array.empty_append]; exact hP⟩)
    · exact .inl (st _ _ (hideAll_get _ e hb))
  · by_cases hb : b ∈ ([84, 120] : List Addr)
    · obtain ⟨_, _, ps, hP⟩ := grown b o hb e
      exact ⟨_, hP⟩
    · exact ⟨o, st _ _ (hideAll_get _ e hb)⟩
theorem g_law (P : Params) : nsIn (KF P) mainGlobals (Str.ofString "law") = some (some (.ref 123)) := by kernel_rfl
theorem fa_is {w : World} {mg : Str → Option Value} {h : Heap} {fa : Addr} (X : (KF w.params).In h) (g : h.Ns mainGlobals mg) (hm : mg (Str.ofString "law") = some (.ref fa)) : fa = 123 := by
  rw [mg_of X g (g_law w.params)] at hm
  cases hm; rfl
theorem walk : WalkO VW LO (fun _ _ => True) (kmHook KF KA KA_ok [84, 120]).says rwm.row.toRowW dD.1 [] (fun f vs => PySem.call f vs) := by
  k_fill
  intro w s₀ s₁ mg mb G Y fa o pm cd doc dV kV ho hd hcd hD hmg hg args vals as hpre hlay hrd hwl hlo
  have KX := km_in_of Y
  km_tabs Y
  refine Ground.open G ?_
  intro T B D TE TW
  try (refine guard_noD D (by decide +kernel) ?_; clear D)
  have hT9 : TabsAt [(86, 84), (122, 120)] _ := List.forall_mem_cons.mpr ⟨⟨codeHd_of_K KX (by kernel_rfl), hT8 84 (.head _)⟩, List.forall_mem_cons.mpr ⟨⟨codeHd_of_K KX (by kernel_rfl), hT8 120 (.tail _ (.head _))⟩, fun _ h => nomatch h⟩⟩
  have he9 : cd = .ref 122 := law_code (x := Str.ofString "law") (c := 122) (P := 120) KX (Top.g T) (by kernel_rfl) hmg ho hd
  subst he9
  have hfa := Mine.fa_is KX (Top.g T) hmg
  subst hfa
  have X' := ghost_K hT9 KX (by kernel_rfl)
  have T' := ghost_top hT9 T
  clear B TE TW G Y hD hd hcd hmg ho
  wrow_args hpre hlay hrd hwl hlo
  rename_i hW _ _ _ hle _
  refine Mine.enter_law hT9 X' T' (by assumption) (by omega) fun h' tk st g84 g120 => ?_
  refine Mine.law_good hT9 st g84 g120 hg (fun _ => rfl) ?_
  first | rfl | with_unfolding_all rfl | kernel_rfl
end Mine
theorem Mine.PySem.W.holds_open {q : Program} {loose : List Str} {Xt : Shared → Bool} {XP : (Str → Option Value) → Heap → Prop} {α : Type} {Yf : Shared → α} {Ya : World → α} {YP : World → Heap → Prop} {N : Nat}
    (left : LeftO Mine.rwm.row.prog Mine.VW Mine.LO (fun s => recOk (RowW.records Mine.rwm.row.toRowW) s) Yf Ya N) (hY : ∀ w s, Yf s = Ya w → YP w s.heap) (hYk : ∀ w h h', YP w h → (∀ b o, h.get? b = some o → h'.get? b = some o) → YP w h')
    (hX : ∀ s, Xt s = true → XP (s.heap.nsMap mainGlobals) s.heap) (hXk : ∀ mg h h', XP mg h → (∀ b o, h.get? b = some o → h'.get? b = some o) → XP mg h')
    (hdef hp hk : 0 = 0) (hRf : ∀ s, Xt s = true → RecFacts Mine.rwm.row.records s.heap) (hwr : (!Mine.rwm.row.writes || Mine.rwm.row.records.isEmpty) = true)
    (k1 : Mine.rwm.row.wellSaid = true) (ok : (chainsOk Mine.VW && opensWell Mine.rwm.row.prog && (frees Mine.rwm.row.toRowW && Mine.rwm.row.within.isEmpty)) = true) (hb : Mine.rwm.row.prog.bare) (hw : Mine.rwm.row.toRowW.promised)
    (call : WalkO Mine.VW Mine.LO (fun _ _ => True) YP Mine.rwm.row.toRowW Mine.dD.1 [] fun f vs => PySem.call f vs) : Mine.rwm.row.Holds :=
  _root_.PySem.W.holds_open left hY hYk (fun _ _ => trivial) (fun _ _ _ _ _ => trivial) Mine.dD.2 Mine.dD_is Mine.dD_kw (fun s e => recFacts_of e) hwr k1 ok hb hw call
namespace Mine
local macro_rules | `(tactic| k_head) => `(tactic| o_head (kmHook Mine.KF Mine.KA Mine.KA_ok [84, 120]))
set_option Elab.async true in
theorem hd : rwm.Holds := by
  w_on
  o_law
  k_head
  (case hw => w_witness2)
  exact walk
end Mine
-- Ql
namespace Mine
end Mine
theorem PySem.Challenge.cw_wr0029_01_holds : PySem.Challenge.rw_wr0029_01.Holds := by
  rw [Mine.rw_is]; exact Mine.hd
