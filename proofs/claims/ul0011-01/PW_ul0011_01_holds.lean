import PyProof.Rows.All
import Wide.All
import OpenK.AllK
import Wide.FinOn
import Lean
import PySem.Challenge.RW_ul0011_01

-- part Hd
open PySem PySem.W PyProof.Rows
set_option maxRecDepth 100000
namespace Mine
/-- the def that the program's statement of this place makes -/
noncomputable def fnAt (i : Nat) (md : String) (t : Tok) (c : Addr) : Obj := match PySem.Challenge.pw_ul0011_01.main.body.drop i with
  | .FunctionDef n ps b _ _ _ sc _ _ _ :: _ => { cls := .type "function", data := .func { name := n, qualname := n, params := ps, body := .stmts b, scope := sc, globals := 3, closure := [], defaults := .none, kwdefaults := .none, pyModule := .str (Str.ofString md) t, code := .ref c } }
  | _ => { cls := .none, data := .dict #[] }
noncomputable def en (P : Params) (s : String) (t : Tok) (v : Value) : DictEntry := { hash := PyData.keyHash P (Str.ofString s), key := .str (Str.ofString s) t, val := v }
noncomputable def k3 (P : Params) : List DictEntry :=
  en P "__name__" 165 (Value.str (Str.ofString "law_ul0011_01") 501) ::
  en P "__doc__" 166 (Value.none) ::
  en P "__package__" 167 (Value.none) ::
  en P "__loader__" 168 (Value.builtin "__main__.__loader__#opaque") ::
  en P "__spec__" 169 (Value.none) ::
  en P "__annotations__" 170 (Value.ref 6) ::
  en P "__builtins__" 171 (Value.ref 4) ::
  en P "__file__" 173 (Value.str (Str.ofString "/claim/cut.py") 172) ::
  en P "__cached__" 174 (Value.none) ::
  en P "_DIV_LIMIT" 190 (Value.int 4000 189) ::
  en P "_div2n1n" 207 (Value.ref 21) ::
  en P "_div3n2n" 221 (Value.ref 28) ::
  en P "_int2digits" 232 (Value.ref 35) ::
  en P "_digits2int" 243 (Value.ref 42) ::
  en P "_divmod_pos" 258 (Value.ref 49) ::
  en P "int_divmod" 268 (Value.ref 56) ::
  en P "Int2AP" 280 (Value.ref 63) ::
  en P "ENDMARKER" 284 (Value.int 0 283) ::
  en P "LPAR" 286 (Value.int 7 285) ::
  en P "RPAR" 288 (Value.int 8 287) ::
  en P "LSQB" 290 (Value.int 9 289) ::
  en P "RSQB" 292 (Value.int 10 291) ::
  en P "COLON" 294 (Value.int 11 293) ::
  en P "COMMA" 296 (Value.int 12 295) ::
  en P "SEMI" 298 (Value.int 13 297) ::
  en P "PLUS" 300 (Value.int 14 299) ::
  en P "MINUS" 302 (Value.int 15 301) ::
  en P "STAR" 304 (Value.int 16 303) ::
  en P "SLASH" 306 (Value.int 17 305) ::
  en P "VBAR" 308 (Value.int 18 307) ::
  en P "AMPER" 310 (Value.int 19 309) ::
  en P "LESS" 312 (Value.int 20 311) ::
  en P "GREATER" 314 (Value.int 21 313) ::
  en P "EQUAL" 316 (Value.int 22 315) ::
  en P "DOT" 318 (Value.int 23 317) ::
  en P "PERCENT" 320 (Value.int 24 319) ::
  en P "LBRACE" 322 (Value.int 25 321) ::
  en P "RBRACE" 324 (Value.int 26 323) ::
  en P "EQEQUAL" 326 (Value.int 27 325) ::
  en P "NOTEQUAL" 328 (Value.int 28 327) ::
  en P "LESSEQUAL" 330 (Value.int 29 329) ::
  en P "GREATEREQUAL" 332 (Value.int 30 331) ::
  en P "TILDE" 334 (Value.int 31 333) ::
  en P "CIRCUMFLEX" 336 (Value.int 32 335) ::
  en P "LEFTSHIFT" 338 (Value.int 33 337) ::
  en P "RIGHTSHIFT" 340 (Value.int 34 339) ::
  en P "DOUBLESTAR" 342 (Value.int 35 341) ::
  en P "PLUSEQUAL" 344 (Value.int 36 343) ::
  en P "MINEQUAL" 346 (Value.int 37 345) ::
  en P "STAREQUAL" 348 (Value.int 38 347) ::
  en P "SLASHEQUAL" 350 (Value.int 39 349) ::
  en P "PERCENTEQUAL" 352 (Value.int 40 351) ::
  en P "AMPEREQUAL" 354 (Value.int 41 353) ::
  en P "VBAREQUAL" 356 (Value.int 42 355) ::
  en P "CIRCUMFLEXEQUAL" 358 (Value.int 43 357) ::
  en P "LEFTSHIFTEQUAL" 360 (Value.int 44 359) ::
  en P "RIGHTSHIFTEQUAL" 362 (Value.int 45 361) ::
  en P "DOUBLESTAREQUAL" 364 (Value.int 46 363) ::
  en P "DOUBLESLASH" 366 (Value.int 47 365) ::
  en P "DOUBLESLASHEQUAL" 368 (Value.int 48 367) ::
  en P "AT" 370 (Value.int 49 369) ::
  en P "ATEQUAL" 372 (Value.int 50 371) ::
  en P "RARROW" 374 (Value.int 51 373) ::
  en P "ELLIPSIS" 376 (Value.int 52 375) ::
  en P "COLONEQUAL" 378 (Value.int 53 377) ::
  en P "EXCLAMATION" 380 (Value.int 54 379) ::
  en P "NT_OFFSET" 382 (Value.int 256 381) ::
  en P "EXACT_TOKEN_TYPES" 479 (Value.ref 64) ::
  en P "ISTERMINAL" 486 (Value.ref 73) ::
  en P "ISNONTERMINAL" 493 (Value.ref 80) ::
  en P "ISEOF" 500 (Value.ref 87) ::
  en P "_law_numbers" 508 (Value.ref 92) ::
  en P "_law_text" 519 (Value.ref 99) ::
  en P "_law_tokens" 528 (Value.ref 106) ::
  en P "_law_deal" 534 (Value.ref 111) ::
  en P "_law_parted" 545 (Value.ref 118) ::
  en P "_law_written" 551 (Value.ref 123) ::
  en P "_law_read" 566 (Value.ref 130) ::
  en P "law" 572 (Value.ref 135) :: []
noncomputable def k64 (P : Params) : List DictEntry :=
  en P "!" 383 (Value.int 54 379) ::
  en P "!=" 385 (Value.int 28 327) ::
  en P "%" 387 (Value.int 24 319) ::
  en P "%=" 389 (Value.int 40 351) ::
  en P "&" 391 (Value.int 19 309) ::
  en P "&=" 393 (Value.int 41 353) ::
  en P "(" 395 (Value.int 7 285) ::
  en P ")" 397 (Value.int 8 287) ::
  en P "*" 399 (Value.int 16 303) ::
  en P "**" 401 (Value.int 35 341) ::
  en P "**=" 403 (Value.int 46 363) ::
  en P "*=" 405 (Value.int 38 347) ::
  en P "+" 407 (Value.int 14 299) ::
  en P "+=" 409 (Value.int 36 343) ::
  en P "," 411 (Value.int 12 295) ::
  en P "-" 413 (Value.int 15 301) ::
  en P "-=" 415 (Value.int 37 345) ::
  en P "->" 417 (Value.int 51 373) ::
  en P "." 419 (Value.int 23 317) ::
  en P "..." 421 (Value.int 52 375) ::
  en P "/" 423 (Value.int 17 305) ::
  en P "//" 425 (Value.int 47 365) ::
  en P "//=" 427 (Value.int 48 367) ::
  en P "/=" 429 (Value.int 39 349) ::
  en P ":" 431 (Value.int 11 293) ::
  en P ":=" 433 (Value.int 53 377) ::
  en P ";" 435 (Value.int 13 297) ::
  en P "<" 437 (Value.int 20 311) ::
  en P "<<" 439 (Value.int 33 337) ::
  en P "<<=" 441 (Value.int 44 359) ::
  en P "<=" 443 (Value.int 29 329) ::
  en P "=" 445 (Value.int 22 315) ::
  en P "==" 447 (Value.int 27 325) ::
  en P ">" 449 (Value.int 21 313) ::
  en P ">=" 451 (Value.int 30 331) ::
  en P ">>" 452 (Value.int 34 339) ::
  en P ">>=" 453 (Value.int 45 361) ::
  en P "@" 454 (Value.int 49 369) ::
  en P "@=" 455 (Value.int 50 371) ::
  en P "[" 456 (Value.int 9 289) ::
  en P "]" 457 (Value.int 10 291) ::
  en P "^" 458 (Value.int 32 335) ::
  en P "^=" 459 (Value.int 43 357) ::
  en P "{" 460 (Value.int 25 321) ::
  en P "|" 461 (Value.int 18 307) ::
  en P "|=" 462 (Value.int 42 355) ::
  en P "}" 463 (Value.int 26 323) ::
  en P "~" 464 (Value.int 31 333) :: []
noncomputable def heap : Params → Frag := fun P =>
  (nat_lit 2, { cls := Value.none, data := Data.dict #[] }) ::
  (nat_lit 3, { cls := Value.type "dict", data := Data.dict (k3 P).toArray 79 }) ::
  (nat_lit 20, { cls := Value.type "code", data := Data.fields #[Value.str (Str.ofString "_div2n1n") 191, Value.str (Str.ofString "_div2n1n") 192, Value.str (Str.ofString "/claim/cut.py") 193, Value.int 3 0, Value.int 3 0, Value.int 0 0, Value.int 0 0, Value.int 3 0, Value.ref 15, Value.bool true, Value.int 181 0, Value.ref 16, Value.none, Value.ref 17, Value.ref 18, Value.ref 19, Value.int 205 0, Value.int 3 0, Value.str (Str.ofString "/claim/cut.py") 206] }) ::
  (nat_lit 21, fnAt 2 "cpy313._pylong" 187 20) ::
  (nat_lit 27, { cls := Value.type "code", data := Data.fields #[Value.str (Str.ofString "_div3n2n") 208, Value.str (Str.ofString "_div3n2n") 209, Value.str (Str.ofString "/claim/cut.py") 210, Value.int 19 0, Value.int 6 0, Value.int 0 0, Value.int 0 0, Value.int 3 0, Value.ref 22, Value.bool true, Value.int 181 0, Value.ref 23, Value.none, Value.ref 24, Value.ref 25, Value.ref 26, Value.int 219 0, Value.int 19 0, Value.str (Str.ofString "/claim/cut.py") 220] }) ::
  (nat_lit 28, fnAt 3 "cpy313._pylong" 187 27) ::
  (nat_lit 34, { cls := Value.type "code", data := Data.fields #[Value.str (Str.ofString "_int2digits") 222, Value.str (Str.ofString "_int2digits") 223, Value.str (Str.ofString "/claim/cut.py") 224, Value.int 29 0, Value.int 2 0, Value.int 0 0, Value.int 0 0, Value.int 3 0, Value.ref 29, Value.bool true, Value.int 181 0, Value.ref 30, Value.none, Value.ref 31, Value.ref 32, Value.ref 33, Value.int 230 0, Value.int 29 0, Value.str (Str.ofString "/claim/cut.py") 231] }) ::
  (nat_lit 35, fnAt 4 "cpy313._pylong" 187 34) ::
  (nat_lit 41, { cls := Value.type "code", data := Data.fields #[Value.str (Str.ofString "_digits2int") 233, Value.str (Str.ofString "_digits2int") 234, Value.str (Str.ofString "/claim/cut.py") 235, Value.int 45 0, Value.int 2 0, Value.int 0 0, Value.int 0 0, Value.int 3 0, Value.ref 36, Value.bool true, Value.int 181 0, Value.ref 37, Value.none, Value.ref 38, Value.ref 39, Value.ref 40, Value.int 241 0, Value.int 45 0, Value.str (Str.ofString "/claim/cut.py") 242] }) ::
  (nat_lit 42, fnAt 5 "cpy313._pylong" 187 41) ::
  (nat_lit 48, { cls := Value.type "code", data := Data.fields #[Value.str (Str.ofString "_divmod_pos") 244, Value.str (Str.ofString "_divmod_pos") 245, Value.str (Str.ofString "/claim/cut.py") 246, Value.int 54 0, Value.int 2 0, Value.int 0 0, Value.int 0 0, Value.int 3 0, Value.ref 43, Value.bool true, Value.int 181 0, Value.ref 44, Value.none, Value.ref 45, Value.ref 46, Value.ref 47, Value.int 256 0, Value.int 54 0, Value.str (Str.ofString "/claim/cut.py") 257] }) ::
  (nat_lit 49, fnAt 6 "cpy313._pylong" 187 48) ::
  (nat_lit 55, { cls := Value.type "code", data := Data.fields #[Value.str (Str.ofString "int_divmod") 259, Value.str (Str.ofString "int_divmod") 260, Value.str (Str.ofString "/claim/cut.py") 261, Value.int 65 0, Value.int 2 0, Value.int 0 0, Value.int 0 0, Value.int 3 0, Value.ref 50, Value.bool true, Value.int 181 0, Value.ref 51, Value.none, Value.ref 52, Value.ref 53, Value.ref 54, Value.int 266 0, Value.int 65 0, Value.str (Str.ofString "/claim/cut.py") 267] }) ::
  (nat_lit 56, fnAt 7 "cpy313._pylong" 187 55) ::
  (nat_lit 62, { cls := Value.type "code", data := Data.fields #[Value.str (Str.ofString "Int2AP") 271, Value.str (Str.ofString "Int2AP") 272, Value.str (Str.ofString "/claim/cut.py") 273, Value.int 77 0, Value.int 1 0, Value.int 0 0, Value.int 0 0, Value.int 3 0, Value.ref 57, Value.bool true, Value.int 181 0, Value.ref 58, Value.none, Value.ref 59, Value.ref 60, Value.ref 61, Value.int 278 0, Value.int 77 0, Value.str (Str.ofString "/claim/cut.py") 279] }) ::
  (nat_lit 63, fnAt 9 "cpy313.imaplib" 269 62) ::
  (nat_lit 64, { cls := Value.type "dict", data := Data.dict (k64 P).toArray 48 }) ::
  (nat_lit 72, { cls := Value.type "code", data := Data.fields #[Value.str (Str.ofString "ISTERMINAL") 480, Value.str (Str.ofString "ISTERMINAL") 481, Value.str (Str.ofString "/claim/cut.py") 482, Value.int 137 0, Value.int 1 0, Value.int 0 0, Value.int 0 0, Value.int 3 0, Value.ref 67, Value.bool true, Value.int 181 0, Value.ref 68, Value.none, Value.ref 69, Value.ref 70, Value.ref 71, Value.int 484 0, Value.int 137 0, Value.str (Str.ofString "/claim/cut.py") 485] }) ::
  (nat_lit 73, fnAt 62 "cpy313.token" 281 72) ::
  (nat_lit 79, { cls := Value.type "code", data := Data.fields #[Value.str (Str.ofString "ISNONTERMINAL") 487, Value.str (Str.ofString "ISNONTERMINAL") 488, Value.str (Str.ofString "/claim/cut.py") 489, Value.int 139 0, Value.int 1 0, Value.int 0 0, Value.int 0 0, Value.int 3 0, Value.ref 74, Value.bool true, Value.int 181 0, Value.ref 75, Value.none, Value.ref 76, Value.ref 77, Value.ref 78, Value.int 491 0, Value.int 139 0, Value.str (Str.ofString "/claim/cut.py") 492] }) ::
  (nat_lit 80, fnAt 63 "cpy313.token" 281 79) ::
  (nat_lit 86, { cls := Value.type "code", data := Data.fields #[Value.str (Str.ofString "ISEOF") 494, Value.str (Str.ofString "ISEOF") 495, Value.str (Str.ofString "/claim/cut.py") 496, Value.int 141 0, Value.int 1 0, Value.int 0 0, Value.int 0 0, Value.int 3 0, Value.ref 81, Value.bool true, Value.int 181 0, Value.ref 82, Value.none, Value.ref 83, Value.ref 84, Value.ref 85, Value.int 498 0, Value.int 141 0, Value.str (Str.ofString "/claim/cut.py") 499] }) ::
  (nat_lit 87, fnAt 64 "cpy313.token" 281 86) ::
  (nat_lit 91, { cls := Value.type "code", data := Data.fields #[Value.str (Str.ofString "_law_numbers") 503, Value.str (Str.ofString "_law_numbers") 504, Value.str (Str.ofString "/claim/cut.py") 505, Value.int 144 0, Value.int 1 0, Value.int 0 0, Value.int 0 0, Value.int 3 0, Value.ref 88, Value.bool true, Value.int 181 0, Value.ref 89, Value.none, Value.none, Value.none, Value.ref 90, Value.int 506 0, Value.int 144 0, Value.str (Str.ofString "/claim/cut.py") 507] }) ::
  (nat_lit 92, fnAt 66 "law_ul0011_01" 501 91) ::
  (nat_lit 98, { cls := Value.type "code", data := Data.fields #[Value.str (Str.ofString "_law_text") 509, Value.str (Str.ofString "_law_text") 510, Value.str (Str.ofString "/claim/cut.py") 511, Value.int 147 0, Value.int 1 0, Value.int 0 0, Value.int 0 0, Value.int 3 0, Value.ref 93, Value.bool true, Value.int 181 0, Value.ref 94, Value.none, Value.ref 95, Value.ref 96, Value.ref 97, Value.int 517 0, Value.int 147 0, Value.str (Str.ofString "/claim/cut.py") 518] }) ::
  (nat_lit 99, fnAt 67 "law_ul0011_01" 501 98) ::
  (nat_lit 105, { cls := Value.type "code", data := Data.fields #[Value.str (Str.ofString "_law_tokens") 520, Value.str (Str.ofString "_law_tokens") 521, Value.str (Str.ofString "/claim/cut.py") 522, Value.int 154 0, Value.int 1 0, Value.int 0 0, Value.int 0 0, Value.int 3 0, Value.ref 100, Value.bool true, Value.int 181 0, Value.ref 101, Value.none, Value.ref 102, Value.ref 103, Value.ref 104, Value.int 526 0, Value.int 154 0, Value.str (Str.ofString "/claim/cut.py") 527] }) ::
  (nat_lit 106, fnAt 68 "law_ul0011_01" 501 105) ::
  (nat_lit 110, { cls := Value.type "code", data := Data.fields #[Value.str (Str.ofString "_law_deal") 529, Value.str (Str.ofString "_law_deal") 530, Value.str (Str.ofString "/claim/cut.py") 531, Value.int 163 0, Value.int 3 0, Value.int 0 0, Value.int 0 0, Value.int 3 0, Value.ref 107, Value.bool true, Value.int 181 0, Value.ref 108, Value.none, Value.none, Value.none, Value.ref 109, Value.int 532 0, Value.int 163 0, Value.str (Str.ofString "/claim/cut.py") 533] }) ::
  (nat_lit 111, fnAt 69 "law_ul0011_01" 501 110) ::
  (nat_lit 117, { cls := Value.type "code", data := Data.fields #[Value.str (Str.ofString "_law_parted") 535, Value.str (Str.ofString "_law_parted") 536, Value.str (Str.ofString "/claim/cut.py") 537, Value.int 167 0, Value.int 3 0, Value.int 0 0, Value.int 0 0, Value.int 3 0, Value.ref 112, Value.bool true, Value.int 181 0, Value.ref 113, Value.none, Value.ref 114, Value.ref 115, Value.ref 116, Value.int 543 0, Value.int 167 0, Value.str (Str.ofString "/claim/cut.py") 544] }) ::
  (nat_lit 118, fnAt 70 "law_ul0011_01" 501 117) ::
  (nat_lit 122, { cls := Value.type "code", data := Data.fields #[Value.str (Str.ofString "_law_written") 546, Value.str (Str.ofString "_law_written") 547, Value.str (Str.ofString "/claim/cut.py") 548, Value.int 178 0, Value.int 3 0, Value.int 0 0, Value.int 0 0, Value.int 3 0, Value.ref 119, Value.bool true, Value.int 181 0, Value.ref 120, Value.none, Value.none, Value.none, Value.ref 121, Value.int 549 0, Value.int 178 0, Value.str (Str.ofString "/claim/cut.py") 550] }) ::
  (nat_lit 123, fnAt 71 "law_ul0011_01" 501 122) ::
  (nat_lit 129, { cls := Value.type "code", data := Data.fields #[Value.str (Str.ofString "_law_read") 552, Value.str (Str.ofString "_law_read") 553, Value.str (Str.ofString "/claim/cut.py") 554, Value.int 190 0, Value.int 3 0, Value.int 0 0, Value.int 0 0, Value.int 3 0, Value.ref 124, Value.bool true, Value.int 181 0, Value.ref 125, Value.none, Value.ref 126, Value.ref 127, Value.ref 128, Value.int 564 0, Value.int 190 0, Value.str (Str.ofString "/claim/cut.py") 565] }) ::
  (nat_lit 130, fnAt 72 "law_ul0011_01" 501 129) ::
  (nat_lit 134, { cls := Value.type "code", data := Data.fields #[Value.str (Str.ofString "law") 567, Value.str (Str.ofString "law") 568, Value.str (Str.ofString "/claim/cut.py") 569, Value.int 206 0, Value.int 1 0, Value.int 0 0, Value.int 0 0, Value.int 3 0, Value.ref 131, Value.bool true, Value.int 181 0, Value.ref 132, Value.none, Value.none, Value.none, Value.ref 133, Value.int 570 0, Value.int 206 0, Value.str (Str.ofString "/claim/cut.py") 571] }) ::
  (nat_lit 135, fnAt 73 "law_ul0011_01" 501 134) :: []
end Mine

-- part Base
open PySem PySem.Calls PySem.W PyProof.Rows
set_option Elab.async false
namespace Mine
abbrev PR : PySem.Program := PySem.Challenge.rw_ul0011_01.row.prog
/-- what is known of a frame that calls -/
abbrev Ct (w : World) (f : Addr) (D : Nat) (vs : List Value) (news : List (Addr × Obj)) (Post : Value → List (Addr × Obj) → Prop) : Prop :=
  ∀ (p : Program) (loose : List Str) (mean : ExcName → Option Value) (mg mb : Str → Option Value)
    (dp un : Nat) (gd : Option (List Code)) (cn : Str) (cs : Scope) (a : Addr) (ccd : Value) (cl : List (Str × Addr)) (outer : List Env) (A₀ : Around) (base h₀ : Heap) (L : Addr) (m : Str → Option Value) (s : Shared) (Q E : Value → Shared → Prop),
    Below A₀ base outer h₀ → Fr h₀ L s.heap m → (Mine.heap w.params).In h₀ → News h₀ L s.heap news → Top p loose mean mg mb h₀ → cs.kind = .function → dp + D < recursionLimit → un + 8 * D < cLine →
    (∀ (r : Value) (news' : List (Addr × Obj)) (h' : Heap) (tk' : Nat), Post r news' → Fr h₀ L h' m → News h₀ L h' news' → Q r { s with heap := h', toks := tk' }) →
    wpAny (model PR w) (ktrTop dp un gd cn cs L a ccd cl outer) (call (.ref f) vs) Q E s
end Mine
namespace Mine
/-- k_fill wants a goal that names the law and the heap -/
noncomputable def KFill (_ : OpenLaw) (_ : Params → Frag) : Prop := True
theorem kfill : KFill PySem.Challenge.rw_ul0011_01 Mine.heap := True.intro
theorem lt_up1 {d : Nat} {l : List (Addr × Obj)} (h : ∀ p ∈ l, p.1 < d) : ∀ p ∈ l, p.1 < d + 1 := fun p hp => Nat.lt_succ_of_lt (h p hp)
/-- one call deeper: the room that is left -/
theorem room_down {x D D' l : Nat} (h : x + D < l) (e : D' + 1 ≤ D) : x + 1 + D' < l := by omega
theorem units_down {x D D' l : Nat} (h : x + 8 * D < l) (e : D' + 1 ≤ D) : x + 3 + 8 * D' < l := by omega
theorem room_here {x D l : Nat} (h : x + D < l) : x < l := by omega
end Mine

set_option rowWalk.seconds 0
open PySem PySem.Calls PySem.W PyProof.Rows
set_option Elab.async false
set_option maxRecDepth 100000
-- a def entered from a frame of any def
local macro_rules | `(tactic| k_room) => `(tactic| ktr_room)
local macro_rules | `(tactic| k_units) => `(tactic| first | exact Nat.le_of_ble_eq_true rfl | ktr_units)
local macro_rules | `(tactic| k_enter) => `(tactic| first
  | (refine' code_def ?k1 ?k2 ?k3 ?k4 ?k5 ?kA ?kF ?kK ?k6 ?k7 ?k8 ?k9 ?kB ?_ ?c2 ?c3 ?c4 ?c5; (case kA => exact rfl); (case kF => exact rfl); (case kK => first | exact rfl | assumption); (case k1 => k_asm); (case k2 => k_asm); (case k3 => k_asm); (case k4 => k_asm); (case k5 => k_asm); (case k6 => k_is); (case k7 => k_is); (case k8 => ktr_room); (case k9 => exact BindsTo.of_eq rfl); (case c5 => decide); (case kB => exact locs rfl); (case c2 => exact rfl); (case c3 => exact rfl); (case c4 => exact rfl); k_whole; intro g' L' h' FG' F' N' B' X' T'; (try dsimp only); (try k_fold))
  | (refine' code_defC ?k1 ?k2 ?k3 ?k4 ?k5 ?kA ?kF ?kK ?k6 ?k7 ?k8 ?k9 ?kB ?kD ?_ ?c2 ?c3 ?c4; (case kA => exact rfl); (case kF => exact rfl); (case kK => first | exact rfl | assumption); (case k1 => k_asm); (case k2 => k_asm); (case k3 => k_asm); (case k4 => k_asm); (case k5 => k_asm); (case k6 => k_is); (case k7 => k_is); (case k8 => ktr_room); (case k9 => exact BindsTo.of_eq rfl); (case kB => exact rfl); (case kD => decide +kernel); (case c2 => exact rfl); (case c3 => exact rfl); (case c4 => exact rfl); k_whole; intro g' L' h' tk' cells' FG' F' N' Y' B' X' T' l1; (have l1a := Mine.lt_up1 l1); (have l1b := Mine.lt_up1 l1a); (have l1c := Mine.lt_up1 l1b); (try k_lt l1a); (try k_lt l1b); (try k_lt l1c); (try k_lt l1); k_cells Y'; (try simp only [List.cons_append, List.nil_append] at N'); (try dsimp only); (try k_fold)))
-- a member that a fact names, under a letter at the ledger's end
local macro_rules | `(tactic| k_mem) => `(tactic| first | with_reducible assumption | assumption)
-- the room of a call: small terms
local macro_rules | `(tactic| ktr_room) => `(tactic| first | (refine' Mine.room_here ?h9; (case h9 => assumption)) | (refine' Mine.room_down ?h9 ?e9; (case h9 => assumption); (case e9 => first | exact Nat.le_of_ble_eq_true rfl | exact Nat.succ_le_succ (by assumption) | omega)) | fail)
local macro_rules | `(tactic| ktr_units) => `(tactic| first | (refine' Mine.units_down ?h9 ?e9; (case h9 => assumption); (case e9 => first | exact Nat.le_of_ble_eq_true rfl | exact Nat.succ_le_succ (by assumption) | omega)) | fail)
local macro_rules | `(tactic| kcj_all) => `(tactic| first | ((repeat' (first | (with_reducible exact fun _ h => h) | (with_reducible refine Mine.sub_keep ?_) | (with_reducible refine Mine.sub_skip ?_))); done) | kcj_in)

-- part A0
section
namespace Mine
/-- the table of a def's own code objects, empty or filled -/
inductive TabSt (P : Addr) (ln co : Nat) (qual : Str) : List (Addr × Obj) → Prop
  | empty : TabSt P ln co qual [(P, tabObj #[])]
  | full {c' : Addr} {oc : Obj} {vs : Array Value} {t : Tok} : oc.data = .fields vs → vs[1]? = some (.str qual t) → TabSt P ln co qual [(P, tabObj #[rawInt ln, rawInt co, .ref c']), (c', oc)]
inductive UpdT (T1 : List (Addr × Obj)) : List (Addr × Obj) → (List (Addr × Obj) → List (Addr × Obj)) → Prop
  | head {r} : UpdT T1 (T1 ++ r) (fun T => T ++ r)
  | tail {p r g} : UpdT T1 r g → UpdT T1 (p :: r) (fun T => p :: g T)
theorem UpdT.mem {T1 : List (Addr × Obj)} : ∀ {l : List (Addr × Obj)} {g : List (Addr × Obj) → List (Addr × Obj)}, UpdT T1 l g → l = g T1 ∧ ∀ T p, p ∈ g T ↔ p ∈ T ∨ p ∈ g []
  | _, _, .head => ⟨rfl, fun T p => by simp⟩
  | _, _, .tail h => by
    obtain ⟨h1, h2⟩ := h.mem
    refine ⟨by rw [h1], fun T p => ?_⟩
    rw [List.mem_cons, List.mem_cons, h2 T p]
    constructor
    · rintro (h | h | h)
      · exact .inr (.inl h)
      · exact .inl h
      · exact .inr (.inr h)
    · rintro (h | h | h)
      · exact .inr (.inl h)
      · exact .inl h
      · exact .inr (.inr h)
theorem TabSt.below {P : Addr} {ln co : Nat} {q : Str} {T1 news : List (Addr × Obj)} {d : Addr} (h : TabSt P ln co q T1) (l : ∀ p ∈ T1 ++ news, p.1 < d) : @LT.lt Nat _ P d := by
  cases h
  · exact l _ (.head _)
  · exact l _ (.head _)
/-- the code object that a filled table holds -/
noncomputable def TabHas (qual : Str) (c' : Addr) (T1 : List (Addr × Obj)) : Prop := ∃ oc vs t, (c', oc) ∈ T1 ∧ oc.data = .fields vs ∧ vs[1]? = some (.str qual t)
section
variable {M : Model} {A : Around} {E : Value → Shared → Prop} {s : Shared} {h₀ : Heap} {L a c P : Addr} {m mg mb : Str → Option Value} {cn : Str} {cs : Scope} {ccd : Value} {cl : List (Str × Addr)} {led T1 : List (Addr × Obj)} {g : List (Addr × Obj) → List (Addr × Obj)}
  {p : Program} {loose : List Str} {mean : ExcName → Option Value} {name qual : Str} {params : Arguments} {body : List Stmt} {scope : Scope} {pos : Pos} {firstLine : Nat} {clos : List (Str × Addr)}
theorem updF_of {d : Addr} {o : Obj} : ∀ {l r : List (Addr × Obj)}, (∀ p ∈ l, p.1 ≠ d) → (∀ p ∈ r, p.1 ≠ d) → UpdF d o (l ++ (d, o) :: r) (fun o' => l ++ (d, o') :: r)
  | [], _, _, h => .head h
  | _ :: _, _, h, h' => .tail (h _ (.head _)) (updF_of (fun p hp => h p (.tail _ hp)) h')
/-- a def within a def: whatever its table holds, behind it the table is full -/
theorem nest_U {Q : Value → Shared → Prop} (F : Fr h₀ L s.heap m) (N : News h₀ L s.heap led) (T : Top p loose mean mg mb h₀) (C : CodeHd h₀ c P) (hcd : ccd = .ref c) (S : TabSt P pos.line pos.col qual T1) (U : UpdT T1 led g) (hP : ∀ p ∈ g [], p.1 ≠ P)
    (hcl : closureFor scope (envX cn cs L a ccd cl) = pure clos)
    (h : ∀ f c' T1' ctv doc h' tk, TabSt P pos.line pos.col qual T1' → TabHas qual c' T1' → Fr h₀ L h' m → News h₀ L h' ((f, fnMade name qual params body scope clos doc ((mg "__name__").getD .none) c' ctv) :: g T1') →
      (∀ q ∈ g T1', q.1 < f) → (∀ adr : List Addr, (∀ b ∈ adr, ∃ o, (b, o) ∈ g []) → OwnOff T1 adr → OwnOff T1' adr) → Q (.ref f) { s with heap := h', toks := tk }) :
    wpAny M A (makeFunction name qual params (.stmts body) scope (envX cn cs L a ccd cl) [] [] [] pos firstLine) Q E s := by
  obtain ⟨e1, hg⟩ := U.mem
  subst e1
  cases S with
  | empty =>
    have N' : News h₀ L s.heap ([] ++ (P, tabObj #[]) :: g []) := fun q hq => N q ((hg _ _).mpr (by simpa using hq))
    refine nest_K F N' T C hcd (updF_of (fun _ h => nomatch h) hP) trivial rfl hcl fun f c' oc vs t ctv doc h' tk F' N' d1 d2 l1 l2 => ?_
    refine h f c' [(P, tabObj #[rawInt pos.line, rawInt pos.col, .ref c']), (c', oc)] ctv doc h' tk (.full d1 d2) ⟨oc, vs, t, by simp, d1, d2⟩ F' (fun q hq => N' q ?_) (fun q hq => ?_) fun adr hq hn p hp b hb => ?_
    · rcases List.mem_cons.mp hq with rfl | hq
      · exact .head _
      · rcases (hg _ _).mp hq with hq | hq
        · rcases List.mem_cons.mp hq with rfl | hq
          · exact .tail _ (.tail _ (.head _))
          · exact .tail _ ((List.mem_singleton.mp hq) ▸ .head _)
        · exact .tail _ (.tail _ (.tail _ hq))
    · rcases (hg _ _).mp hq with hq | hq
      · rcases List.mem_cons.mp hq with rfl | hq
        · exact Nat.lt_trans (l1 (P, tabObj #[]) (.head _)) l2
        · exact (List.mem_singleton.mp hq) ▸ l2
      · exact Nat.lt_trans (l1 q (.tail _ hq)) l2
    · obtain ⟨o, ho⟩ := hq b hb
      rcases List.mem_cons.mp hp with rfl | hp
      · exact (hP _ ho).symm
      · rw [List.mem_singleton.mp hp]
        exact Nat.ne_of_gt (l1 _ (.tail _ ho))
  | full d1 d2 =>
    rename_i c' oc vs t
    have hm : ∀ q, q ∈ [(P, tabObj #[rawInt pos.line, rawInt pos.col, .ref c']), (c', oc)] → q ∈ g [(P, tabObj #[rawInt pos.line, rawInt pos.col, .ref c']), (c', oc)] := fun q hq => (hg _ _).mpr (.inl hq)
    refine nestHit_K (ps := #[rawInt pos.line, rawInt pos.col, .ref c']) (c' := c') F N T C hcd (hm _ (.head _)) (by simp [TriplesOk, rawInt]) (by simp [codeAmong, rawInt]) hcl fun f ctv doc h' tk F' N' l1 => ?_
    exact h f c' _ ctv doc h' tk (.full d1 d2) ⟨oc, vs, t, by simp, d1, d2⟩ F' N' l1 fun _ _ hn => hn
end
abbrev q1 : Str := (PySem.Str.ofString "_int2digits" ++ (".<locals>." : Str)) ++ PySem.Str.ofString "inner"
abbrev q2 : Str := (PySem.Str.ofString "_digits2int" ++ (".<locals>." : Str)) ++ PySem.Str.ofString "inner"
theorem ct_use {w : World} {f : Addr} {D : Nat} {vs : List Value} {news : List (Addr × Obj)} {Post : Value → List (Addr × Obj) → Prop} {p : Program} {loose : List Str} {mean : ExcName → Option Value} {mg mb : Str → Option Value}
    {dp un : Nat} {gd : Option (List Code)} {cn : Str} {cs : Scope} {a : Addr} {ccd : Value} {cl : List (Str × Addr)} {outer : List Env} {A₀ : Around} {base h₀ : Heap} {L : Addr} {m : Str → Option Value} {s : Shared} {Q E : Value → Shared → Prop}
    (C : Ct w f D vs news Post) (B : Below A₀ base outer h₀) (F : Fr h₀ L s.heap m) (X : (Mine.heap w.params).In h₀) (N : News h₀ L s.heap news) (T : Top p loose mean mg mb h₀) (hk : cs.kind = .function) (hd : dp + D < recursionLimit) (hu : un + 8 * D < cLine)
    (ret : ∀ (r : Value) (news' : List (Addr × Obj)) (h' : Heap) (tk' : Nat), Post r news' → Fr h₀ L h' m → News h₀ L h' news' → Q r { s with heap := h', toks := tk' }) :
    wpAny (model PR w) (ktrTop dp un gd cn cs L a ccd cl outer) (call (.ref f) vs) Q E s := C _ _ _ _ _ _ _ _ _ _ _ _ _ _ _ _ _ _ _ _ _ _ B F X N T hk hd hu ret
theorem news_swap {h₀ h : Heap} {L : Addr} {a b : Addr × Obj} {r : List (Addr × Obj)} (N : News h₀ L h (a :: b :: r)) : News h₀ L h (b :: a :: r) := fun p hp => N p (by
  rcases List.mem_cons.mp hp with rfl | hp
  · exact .tail _ (.head _)
  · rcases List.mem_cons.mp hp with rfl | hp
    · exact .head _
    · exact .tail _ (.tail _ hp))
theorem ownOff_one {own : List (Addr × Obj)} {d : Addr} (h : ∀ p ∈ own, p.1 ≠ d) : OwnOff own [d] := fun p hp b hb => by
  rw [List.mem_singleton.mp hb]; exact h p hp
theorem TabHas.sub {q : Str} {c' : Addr} {T l : List (Addr × Obj)} (h : TabHas q c' T) (hs : ∀ p ∈ T, p ∈ l) : TabHas q c' l :=
  let ⟨oc, vs, t, a, b, c⟩ := h; ⟨oc, vs, t, hs _ a, b, c⟩
/-- what lay off the table lies off it still -/
noncomputable def OffK (news T1 T2 : List (Addr × Obj)) : Prop := ∀ adr : List Addr, (∀ b ∈ adr, ∃ o, (b, o) ∈ news) → OwnOff T1 adr → OwnOff T2 adr
theorem OffK.refl {news T : List (Addr × Obj)} : OffK news T T := fun _ _ h => h
theorem OffK.trans {news T1 T2 T3 : List (Addr × Obj)} (a : OffK news T1 T2) (b : OffK news T2 T3) : OffK news T1 T3 := fun adr h o => b adr h (a adr h o)
abbrev tup2 (v1 v2 : Value) (c : Nat) : Obj := { cls := .type "tuple", data := .seq #[v1, v2] c }
theorem newTuple_L {M : Model} {A : Around} {E : Value → Shared → Prop} {s : Shared} {h₀ : Heap} {L : Addr} {m : Str → Option Value} {news : List (Addr × Obj)} {vs : List Value} {Q : Value → Shared → Prop} (F : Fr h₀ L s.heap m) (N : News h₀ L s.heap news)
    (h : ∀ D h', Fr h₀ L h' m → News h₀ L h' ((D, { cls := .type "tuple", data := .seq vs.toArray }) :: news) → (∀ p ∈ news, p.1 < D) → Q (.ref D) { s with heap := h' }) (hsz : vs.length ≤ sizeLine := by size_fits) :
    wpAny M A (newTuple vs) Q E s := newTuple_N F N (fun h' F' N' => h _ h' F' N' fun p hp => Heap.lt_size (N p hp).1) hsz
theorem ints_reverse {vs : List Value} {ns : List Int} (h : IntsAre vs ns) : IntsAre vs.reverse ns.reverse := by
  have key : ∀ {vs : List Value} {ns : List Int} {ws : List Value} {ms : List Int}, IntsAre vs ns → IntsAre ws ms → IntsAre (vs.reverse ++ ws) (ns.reverse ++ ms) := by
    intro vs ns ws ms h
    induction h generalizing ws ms with
    | nil => intro h2; exact h2
    | cons i t _ ih =>
      intro h2
      rw [List.reverse_cons, List.reverse_cons, List.append_assoc, List.append_assoc]
      exact ih (.cons i t h2)
  simpa using key h .nil
theorem ints_append {vs ws : List Value} {ns ms : List Int} (h : IntsAre vs ns) (h2 : IntsAre ws ms) : IntsAre (vs ++ ws) (ns ++ ms) := by
  induction h with
  | nil => exact h2
  | cons i t _ ih => exact .cons i t ih
theorem ints_push {vs : List Value} {ns : List Int} {q : Int} {t : Tok} (h : IntsAre vs ns) : IntsAre (vs ++ [.int q t]) (ns ++ [q]) := ints_append h (.cons q t .nil)
theorem OwnOff.app {a b : List (Addr × Obj)} {adr : List Addr} (h : OwnOff a adr) (h2 : OwnOff b adr) : OwnOff (a ++ b) adr := fun p hp => (List.mem_append.mp hp).elim (h p) (h2 p)
theorem OwnOff.sub {a : List (Addr × Obj)} {adr adr' : List Addr} (h : OwnOff a adr) (hs : ∀ b ∈ adr', b ∈ adr) : OwnOff a adr' := fun p hp b hb => h p hp b (hs b hb)
theorem TabSt.has {P : Addr} {ln co : Nat} {q : Str} {T1 : List (Addr × Obj)} (h : TabSt P ln co q T1) : ∃ o, (P, o) ∈ T1 := by
  cases h
  · exact ⟨_, .head _⟩
  · exact ⟨_, .head _⟩
/-- a step that is to be taken by hand -/
noncomputable def Stop (P : Prop) : Prop := P
theorem stop_here {P : Prop} (h : Stop P) : P := h
theorem Stop.mk {P : Prop} (h : P) : Stop P := h
theorem ints_rep {t : Tok} : ∀ k : Nat, IntsAre (List.replicate k [Value.int 0 t]).flatten (List.replicate k 0)
  | 0 => .nil
  | k + 1 => by
    rw [List.replicate_succ, List.replicate_succ, List.flatten_cons]
    exact .cons 0 t (ints_rep k)
theorem mul_zeros {prog : Program} {w : World} {A : Around} {E : Value → Shared → Prop} {s : Shared} {h₀ : Heap} {L : Addr} {m : Str → Option Value} {news : List (Addr × Obj)} {l : Addr} {t : Tok} {c : Nat} {x : Int} {u : Tok} {Q : Value → Shared → Prop} (d : Nat)
    (Fm : Fr h₀ L s.heap m) (N : News h₀ L s.heap news) (hl : (l, listOf #[Value.int 0 t] c) ∈ news) (hx : x = d) (hsz : d ≤ 256)
    (h : ∀ D h' vs, IntsAre vs (List.replicate d 0) → Fr h₀ L h' m → News h₀ L h' ((D, listOf vs.toArray 0) :: news) → (∀ p ∈ news, p.1 < D) → Q (.ref D) { s with heap := h' }) : wpAny (model prog w) A (binaryOp .Mult (.ref l) (.int x u)) Q E s := by
  subst hx
  refine KMa.mul (vs := [Value.int 0 t]) Fm N (PySem.IsL.isList (n := c) (N _ hl).1) (by omega) (by omega) (by simpa using hsz) rfl fun D h' F N l1 => h D h' _ (ints_rep _) F N l1
theorem allLt_up {d a : Addr} {l : List (Addr × Obj)} (h : AllLt d l) (hd : d ≤ a) : AllLt a l := allLt_of fun p hp => Nat.lt_of_lt_of_le (ktn_ltOf h p hp) hd
theorem allLt_tl {d : Addr} {q : Addr × Obj} {l : List (Addr × Obj)} (h : ∀ p ∈ q :: l, p.1 < d) : ∀ p ∈ l, p.1 < d := fun p hp => h p (.tail _ hp)
theorem ne_of_allLt {d : Addr} {l : List (Addr × Obj)} (h : AllLt d l) : ∀ p ∈ l, p.1 ≠ d := fun p hp => Nat.ne_of_lt (ktn_ltOf h p hp)
/-! part of a ledger: small terms -/
theorem sub_keep {α : Type} {a : α} {l l' : List α} (h : ∀ p ∈ l, p ∈ l') : ∀ p ∈ a :: l, p ∈ a :: l' := fun _ hp => (List.mem_cons.mp hp).elim (fun e => e ▸ .head _) fun hp => .tail _ (h _ hp)
theorem sub_skip {α : Type} {a : α} {l l' : List α} (h : ∀ p ∈ l, p ∈ l') : ∀ p ∈ l, p ∈ a :: l' := fun _ hp => .tail _ (h _ hp)
theorem sub_cons {α : Type} {a : α} {l l' : List α} (h : a ∈ l') (t : ∀ p ∈ l, p ∈ l') : ∀ p ∈ a :: l, p ∈ l' := List.forall_mem_cons.mpr ⟨h, t⟩
theorem sub_nil {α : Type} {l' : List α} : ∀ p ∈ ([] : List α), p ∈ l' := fun _ h => nomatch h
theorem mem_app {a : Addr × Obj} {l r : List (Addr × Obj)} (h : a ∈ l ∨ a ∈ r) : a ∈ l ++ r := List.mem_append.mpr h
/-- the end by letters: short states -/
theorem wp_gen {α : Type} {M : Model} {A : Around} {t : Sem α} {Q : α → Shared → Prop} {E : Value → Shared → Prop} {s : Shared} (h : ∀ (Q' : α → Shared → Prop) (E' : Value → Shared → Prop), (∀ v s, Q v s → Q' v s) → (∀ v s, E v s → E' v s) → wpAny M A t Q' E' s) : wpAny M A t Q E s :=
  h Q E (fun _ _ x => x) fun _ _ x => x
/-! numbers of the law's text: once -/
theorem natAbs_sg {sg : Int} (h : sg = 1 ∨ sg = -1) {V : Int} {n : Nat} (e : V = n) : (sg * V).natAbs = n := by
  rw [e, Int.natAbs_mul]
  rcases h with h | h <;> rw [h] <;> simp
theorem sg_bnd {x sg : Int} (h : 1 - 2 * (x % 2) = sg) : -2 ^ 64 < sg ∧ sg < 2 ^ 64 ∧ (sg = 1 ∨ sg = -1) := by omega
theorem text_len {ds : List Int} (h : ds.length = 10) (x : Int) : 4 ≤ (List.take (min (5 + (x.fdiv 16).fmod 3).toNat ds.length - 1) (List.drop 1 ds)).length ∧ (List.take (min (5 + (x.fdiv 16).fmod 3).toNat ds.length - 1) (List.drop 1 ds)).length ≤ 6 := by
  rw [List.length_take, List.length_drop, h, Int.fmod_eq_emod_of_nonneg _ (by decide)]
  obtain ⟨y, hy⟩ : ∃ y, y = x.fdiv 16 := ⟨_, rfl⟩
  rw [← hy]
  omega
theorem fu_split {mx : Int} (h : 0 ≤ mx) : ∃ T R : Nat, 256 ≤ T ∧ T < 65536 ∧ R < 256 ^ 4 ∧ (256 + (mx.fdiv (256 ^ Int.toNat 4)).fmod 65280) * 256 ^ Int.toNat 4 + mx.fmod (256 ^ Int.toNat 4) = ((T * 256 ^ 4 + R : Nat) : Int) := by
  obtain ⟨m, rfl⟩ := Int.eq_ofNat_of_zero_le h
  have e1 : (256 : Int) ^ Int.toNat 4 = ((256 ^ 4 : Nat) : Int) := by rfl
  rw [e1, Int.fdiv_eq_ediv_of_nonneg _ (by decide), Int.fmod_eq_emod_of_nonneg _ (by decide), Int.fmod_eq_emod_of_nonneg _ (by decide)]
  refine ⟨256 + m / 256 ^ 4 % 65280, m % 256 ^ 4, Nat.le_add_right _ _, Nat.add_lt_add_left (Nat.mod_lt _ (by decide)) 256, Nat.mod_lt _ (by decide), ?_⟩
  rw [Int.natCast_add, Int.natCast_mul, Int.natCast_add, Int.natCast_emod, Int.natCast_emod, Int.natCast_ediv]
  rfl
theorem pw_bnd {a b : Nat} (h : a ≤ b + 8) : 0 < 16 ^ (a - b) ∧ 16 ^ (a - b) ≤ 4294967296 :=
  ⟨Nat.pow_pos (by decide), Nat.le_trans (Nat.pow_le_pow_right (by decide) (Nat.sub_le_iff_le_add.mpr (Nat.add_comm b 8 ▸ h))) (by decide)⟩
theorem sgn_sz {n k : Nat} (h : n ≤ 6) (hk : k ≤ 3 * n) : k ≤ 18 := by omega
theorem oct_big {d : Int} (h : 0 ≤ d ∧ d < 256) : 0 ≤ d ∧ d < 2 ^ 20 := ⟨h.1, Int.lt_trans h.2 (by decide)⟩
theorem top_big {d : Int} (h : 256 ≤ d) (h2 : d < 65536) : 0 ≤ d ∧ d < 2 ^ 20 := ⟨Int.le_trans (by decide) h, Int.lt_trans h2 (by decide)⟩
theorem log_ps {ps : Int} (h : 0 < ps ∧ ps ≤ 4294967296) : ps.natAbs.log2 < 37 := (Nat.log2_lt (by omega)).mpr (by omega)
end Mine
end

-- part M1
section
/-! plain facts of numbers and digits: no program in sight -/
namespace Mine
theorem fdiv_pos_pow (x : Int) (k : Nat) : x.fdiv (2 ^ k) = x / 2 ^ k := by
  rw [Int.fdiv_eq_ediv_of_nonneg]
  exact Int.le_of_lt (Int.pow_pos (by decide))
theorem land_high (m s : Nat) : m &&& (m / 2 ^ s * 2 ^ s) = m / 2 ^ s * 2 ^ s := by
  apply Nat.eq_of_testBit_eq
  intro i
  rw [Nat.testBit_and, ← Nat.shiftRight_eq_div_pow, ← Nat.shiftLeft_eq, Nat.testBit_shiftLeft, Nat.testBit_shiftRight]
  by_cases h : s ≤ i
  · simp [h]
  · simp [h]
theorem xor_low (x : Int) (s : Nat) (hx : 0 ≤ x) : Builtin.bitXor x (x / 2 ^ s * 2 ^ s) = x % 2 ^ s := by
  obtain ⟨m, rfl⟩ := Int.eq_ofNat_of_zero_le hx
  have e1 : ((m : Int) / 2 ^ s * 2 ^ s) = ((m / 2 ^ s * 2 ^ s : Nat) : Int) := by
    rw [Int.natCast_mul, Int.natCast_ediv, Int.natCast_pow]; rfl
  rw [bitXor_and, e1]
  have e2 : Builtin.bitAnd (m : Int) ((m / 2 ^ s * 2 ^ s : Nat) : Int) = ((m / 2 ^ s * 2 ^ s : Nat) : Int) := by
    unfold Builtin.bitAnd
    have h1 : decide (0 ≤ (m : Int)) = true := decide_eq_true (Int.natCast_nonneg _)
    have h2 : decide (0 ≤ ((m / 2 ^ s * 2 ^ s : Nat) : Int)) = true := decide_eq_true (Int.natCast_nonneg _)
    rw [h1, h2]
    show ((_ &&& _ : Nat) : Int) = _
    rw [Int.toNat_natCast, Int.toNat_natCast, land_high]
  rw [e2, ← e1]
  have e3 := Int.emod_add_mul_ediv (m : Int) (2 ^ s)
  have e4 : (2 : Int) ^ s * ((m : Int) / 2 ^ s) = (m : Int) / 2 ^ s * 2 ^ s := Int.mul_comm _ _
  omega
/-- the digits of x to the base 2^n, the last one whatever is left -/
noncomputable def digs (n : Nat) : Nat → Int → List Int
  | 0, _ => []
  | 1, x => [x]
  | k + 2, x => x % 2 ^ n :: digs n (k + 1) (x / 2 ^ n)
theorem digs_len (n : Nat) : ∀ (k : Nat) (x : Int), (digs n k x).length = k
  | 0, _ => rfl
  | 1, _ => rfl
  | k + 2, x => by rw [digs, List.length_cons, digs_len n (k + 1)]
theorem emod_mul_ediv' (x a b : Int) (ha : 0 < a) : x % (a * b) / a = x / a % b := by
  have h1 := Int.emod_def x (a * b)
  have h2 := Int.emod_def (x / a) b
  have h3 : x / (a * b) = x / a / b := Int.ediv_ediv_of_nonneg (Int.le_of_lt ha) ▸ rfl
  rw [h1, h3, Int.mul_assoc, h2]
  rw [Int.sub_mul_ediv_left _ _ (Int.ne_of_gt ha)]
theorem digs_split (n : Nat) : ∀ (h k : Nat) (x : Int), 0 < h → 0 < k → digs n (h + k) x = digs n h (x % 2 ^ (h * n)) ++ digs n k (x / 2 ^ (h * n))
  | 0, _, _, h, _ => absurd h (Nat.lt_irrefl 0)
  | 1, k + 1, x, _, _ => by
    rw [show 1 + (k + 1) = k + 2 by omega, Nat.one_mul]
    rfl
  | h + 2, k + 1, x, _, hk => by
    have ih := digs_split n (h + 1) (k + 1) (x / 2 ^ n) (Nat.succ_pos _) hk
    rw [show h + 2 + (k + 1) = (h + k + 1) + 2 by omega, digs, show h + k + 1 + 1 = h + 1 + (k + 1) by omega, ih]
    have ep : (2 : Int) ^ ((h + 2) * n) = 2 ^ n * 2 ^ ((h + 1) * n) := by
      rw [← Int.pow_add]
      congr 1
      rw [show h + 2 = 1 + (h + 1) by omega, Nat.add_mul, Nat.one_mul]
    have hp : (0 : Int) < 2 ^ n := Int.pow_pos (by decide)
    rw [show digs n (h + 2) (x % 2 ^ ((h + 2) * n)) = (x % 2 ^ ((h + 2) * n)) % 2 ^ n :: digs n (h + 1) (x % 2 ^ ((h + 2) * n) / 2 ^ n) from rfl]
    rw [ep, Int.emod_emod_of_dvd _ (Int.dvd_mul_right _ _), emod_mul_ediv' _ _ _ hp, Int.ediv_ediv_of_nonneg (Int.le_of_lt hp)]
    rfl
theorem set_mid (A C : List Int) (b x : Int) : (A ++ [b] ++ C).set A.length x = A ++ [x] ++ C := by
  simp
/-! halving: small facts, proved once -/
theorem hv_one {k a : Nat} {lo hi : Int} (e1 : lo = a) (e2 : hi = a + k) (h : lo + 1 = hi) : k = 1 := by omega
theorem hv_pos {k h a : Nat} {lo hi : Int} (e1 : lo = a) (e2 : hi = a + k) (ne : lo + 1 ≠ hi) (k0 : 0 < k) (hh : h = k / 2) : 0 < h := by omega
theorem hv_lt {k h : Nat} (hh : h = k / 2) (k0 : 0 < k) : h < k := by omega
theorem hv_mid {k h a : Nat} {lo hi : Int} (e1 : lo = a) (e2 : hi = a + k) (hh : h = k / 2) : (lo + hi) / 2 = ((a + h : Nat) : Int) := by omega
theorem hv_sh {h a n : Nat} {lo : Int} (e1 : lo = a) : (((a + h : Nat) : Int) - lo) * (n : Int) = ((h * n : Nat) : Int) := by
  rw [e1, Int.natCast_add, Int.natCast_mul, Int.add_comm, Int.add_sub_cancel]
theorem hv_hi {k h a L : Nat} {hi : Int} (e2 : hi = a + k) (hk : h < k) (e : L = a + h) : hi = (L : Int) + ((k - h : Nat) : Int) := by omega
theorem hv_len {k h a L : Nat} (hl : a + k < 1000) (hk : h < k) (e : L = a + h) : L + (k - h) < 1000 := by omega
theorem toNat_of {a : Nat} {lo : Int} (e : lo = a) : lo.toNat = a := by rw [e]; rfl
theorem mod_le_self {x p : Int} (hp : 0 < p) (hu : 0 ≤ x / p) : x % p ≤ x := by
  have := Int.emod_add_mul_ediv x p
  have := Int.mul_nonneg (Int.le_of_lt hp) hu
  omega
theorem natAbs_lt64 {y x : Int} (h0 : 0 ≤ y) (h1 : y ≤ x) (h2 : x < 2 ^ 40) : y.natAbs < 2 ^ 64 := by omega
theorem cast_le_mil {m : Nat} (h : m ≤ 1000) : (m : Int) ≤ 1000000 := by omega
end Mine
end

-- part M2
section
/-! numbers from digits: no program in sight -/
namespace Mine
noncomputable def dval (n : Nat) : List Int → Int
  | [] => 0
  | d :: r => d + 2 ^ n * dval n r
theorem two_pow_pos (n : Nat) : (0 : Int) < 2 ^ n := Int.pow_pos (by decide)
theorem two_pow_le {a b : Nat} (h : a ≤ b) : (2 : Int) ^ a ≤ 2 ^ b := by
  have h1 := Nat.pow_le_pow_right (n := 2) (by decide) h
  have e : ∀ k : Nat, ((2 ^ k : Nat) : Int) = 2 ^ k := fun k => by rw [Int.natCast_pow]; rfl
  rw [← e, ← e]
  exact Int.ofNat_le.mpr h1
theorem dval_append (n : Nat) : ∀ (X Y : List Int), dval n (X ++ Y) = dval n X + 2 ^ (X.length * n) * dval n Y
  | [], Y => by simp [dval]
  | d :: X, Y => by
    rw [List.cons_append, dval, dval, dval_append n X Y, List.length_cons, Nat.add_mul, Nat.one_mul, Nat.add_comm, Int.pow_add, Int.mul_add, Int.mul_assoc, Int.add_assoc]
theorem dval_nonneg (n : Nat) : ∀ (X : List Int), (∀ d ∈ X, 0 ≤ d ∧ d < 2 ^ 20) → 0 ≤ dval n X
  | [], _ => Int.le_refl 0
  | d :: X, h => by
    have h1 := (h d (.head _)).1
    have h2 := Int.mul_nonneg (Int.le_of_lt (two_pow_pos n)) (dval_nonneg n X fun d hd => h d (.tail _ hd))
    rw [dval]; omega
theorem dval_lt (n : Nat) : ∀ (X : List Int), (∀ d ∈ X, 0 ≤ d ∧ d < 2 ^ 20) → dval n X < 2 ^ (20 + X.length * (n + 1))
  | [], _ => by simp [dval]
  | d :: X, h => by
    have h1 := (h d (.head _)).2
    have h2 := dval_lt n X fun d hd => h d (.tail _ hd)
    have hp : (0 : Int) < 2 ^ n := Int.pow_pos (by decide)
    have h3 : (2 : Int) ^ n * dval n X ≤ 2 ^ n * 2 ^ (20 + X.length * (n + 1)) := Int.mul_le_mul_of_nonneg_left (Int.le_of_lt h2) (Int.le_of_lt hp)
    have e : (2 : Int) ^ (20 + (d :: X).length * (n + 1)) = 2 * (2 ^ n * 2 ^ (20 + X.length * (n + 1))) := by
      rw [← Int.pow_add, ← Int.pow_succ', List.length_cons]
      congr 1
      rw [Nat.add_mul]
      omega
    have h4 : (2 : Int) ^ 20 ≤ 2 ^ n * 2 ^ (20 + X.length * (n + 1)) := by
      rw [← Int.pow_add]
      exact two_pow_le (by omega)
    rw [dval, e]
    omega
theorem dval_bits (n : Nat) (X : List Int) (h : ∀ d ∈ X, 0 ≤ d ∧ d < 2 ^ 20) : Builtin.Int.intBits (dval n X) ≤ 20 + X.length * (n + 1) := by
  rw [intBits_le_iff]
  have h1 := dval_nonneg n X h
  have h2 := dval_lt n X h
  have e : ((dval n X).natAbs : Int) = dval n X := Int.natAbs_of_nonneg h1
  generalize 20 + X.length * (n + 1) = K at h2 ⊢
  have e2 : (((2 ^ K : Nat)) : Int) = 2 ^ K := by rw [Int.natCast_pow]; rfl
  omega
theorem getD_mid (A C : List Int) (b d : Int) : (A ++ [b] ++ C).getD A.length d = b := by
  simp
theorem dval_digs (n : Nat) : ∀ (k : Nat) (x : Int), 0 < k → dval n (digs n k x) = x
  | 1, x, _ => by simp [digs, dval]
  | k + 2, x, _ => by
    rw [digs, dval, dval_digs n (k + 1) _ (Nat.succ_pos _)]
    exact Int.emod_add_mul_ediv x (2 ^ n)
theorem digs_bound (n : Nat) (hn : n ≤ 20) : ∀ (k : Nat) (x : Int), 0 ≤ x → x < 2 ^ 20 → ∀ d ∈ digs n k x, 0 ≤ d ∧ d < 2 ^ 20
  | 0, _, _, _, d, hd => nomatch hd
  | 1, x, h0, h1, d, hd => by
    rw [digs, List.mem_singleton] at hd
    subst hd; exact ⟨h0, h1⟩
  | k + 2, x, h0, h1, d, hd => by
    have hp : (0 : Int) < 2 ^ n := Int.pow_pos (by decide)
    have hp2 : (2 : Int) ^ n ≤ 2 ^ 20 := two_pow_le hn
    rw [digs, List.mem_cons] at hd
    rcases hd with rfl | hd
    · have a := Int.emod_nonneg x (Int.ne_of_gt hp)
      have b := Int.emod_lt_of_pos x hp
      exact ⟨a, by omega⟩
    · exact digs_bound n hn (k + 1) (x / 2 ^ n) (Int.ediv_nonneg h0 (Int.le_of_lt hp)) (Int.lt_of_le_of_lt (Int.ediv_le_self _ h0) h1) d hd
end Mine
end

-- part M3
section
/-! long division, digit by digit -/
namespace Mine
noncomputable def mval (n : Nat) (l : List Int) : Int := l.foldl (fun acc q => acc * 2 ^ n + q) 0
theorem mval_snoc (n : Nat) (l : List Int) (q : Int) : mval n (l ++ [q]) = mval n l * 2 ^ n + q := by
  unfold mval; rw [List.foldl_append]; rfl
theorem mval_rev (n : Nat) (l : List Int) : mval n l.reverse = dval n l := by
  induction l with
  | nil => rfl
  | cons d r ih => rw [List.reverse_cons, mval_snoc, ih, dval, Int.mul_comm, Int.add_comm]
theorem mval_eq (n : Nat) (l : List Int) : mval n l = dval n l.reverse := by
  have := mval_rev n l.reverse
  rwa [List.reverse_reverse] at this
theorem div_step (n : Nat) (b V Q r v : Int) (h : V = b * Q + r) : V * 2 ^ n + v = b * (Q * 2 ^ n + (r * 2 ^ n + v) / b) + (r * 2 ^ n + v) % b := by
  have h1 := Int.mul_ediv_add_emod (r * 2 ^ n + v) b
  rw [Int.mul_add, Int.add_assoc, h1, h, Int.add_mul, Int.mul_assoc, Int.add_assoc]
theorem div_end {a b Q r : Int} (hb : 0 < b) (h : a = b * Q + r) (h0 : 0 ≤ r) (h1 : r < b) : Q = a / b ∧ r = a % b := by
  have := (Int.ediv_emod_unique hb (a := a) (r := r) (q := Q)).mpr ⟨by rw [h]; omega, h0, h1⟩
  exact ⟨this.1.symm, this.2.symm⟩
theorem fdiv_nat (x : Int) (n : Nat) : x.fdiv n = x / n := Int.fdiv_eq_ediv_of_nonneg x (Int.natCast_nonneg n)
end Mine
end

-- part M4
section
/-! the reader as a plain function -/
namespace Mine
noncomputable def rdS (ow : List Int) (st : Int) : Int := (ow.count (ow.getD (st % 16).toNat 0) : Int) * (st / 16) + ((ow.take (st % 16).toNat).count (ow.getD (st % 16).toNat 0) : Int)
noncomputable def rdT (ws : List Int) (s1 : Int) (i : Nat) : Int := 256 * s1 + 16 * (ws.getD i 0 - 65) + ws.getD (i + 1) 0 - 65
/-- the reader: turns left, kinds so far, the state, the place; none where the word ends too early -/
noncomputable def rd (ow ws : List Int) : Nat → List Int → Int → Nat → Option (List Int × Int × Nat)
  | 0, ks, st, i => some (ks, st, i)
  | n + 1, ks, st, i =>
    if rdS ow st < 256 then
      if i + 1 < ws.length then
        (if ow.getD (st % 16).toNat 0 = 0 then some (ks ++ [ow.getD (st % 16).toNat 0], rdT ws (rdS ow st) i, i + 2) else rd ow ws n (ks ++ [ow.getD (st % 16).toNat 0]) (rdT ws (rdS ow st) i) (i + 2))
      else none
    else if ow.getD (st % 16).toNat 0 = 0 then some (ks ++ [ow.getD (st % 16).toNat 0], rdS ow st, i) else rd ow ws n (ks ++ [ow.getD (st % 16).toNat 0]) (rdS ow st) i
theorem count_take_lt (ow : List Int) (j : Nat) (h : j < ow.length) : (ow.take j).count (ow.getD j 0) + 1 ≤ ow.count (ow.getD j 0) := by
  have e : ow = ow.take j ++ ow.getD j 0 :: ow.drop (j + 1) := by
    conv => lhs; rw [← List.take_append_drop j ow, List.drop_eq_getElem_cons h]
    simp [List.getD, h]
  generalize ow.getD j 0 = d at e ⊢
  have h2 : ow.count d = (ow.take j ++ d :: ow.drop (j + 1)).count d := congrArg (List.count d) e
  rw [List.count_append, List.count_cons_self] at h2
  omega
theorem rdS_bound (ow : List Int) (hol : ow.length = 16) (st : Int) (h0 : 0 ≤ st) (h1 : st < 65536) : 0 ≤ rdS ow st ∧ rdS ow st < 65536 := by
  have hj : (st % 16).toNat < ow.length := by omega
  have h2 := count_take_lt ow _ hj
  have h3 : ow.count (ow.getD (st % 16).toNat 0) ≤ 16 := hol ▸ List.count_le_length
  unfold rdS
  generalize ow.count (ow.getD (st % 16).toNat 0) = c at h2 h3 ⊢
  generalize (ow.take (st % 16).toNat).count (ow.getD (st % 16).toNat 0) = r at h2 ⊢
  have h4 : 0 ≤ st / 16 := by omega
  have h5 : st / 16 ≤ 4095 := by omega
  have h6 : (c : Int) * (st / 16) ≤ 16 * (st / 16) := Int.mul_le_mul_of_nonneg_right (by omega) h4
  have h7 : 0 ≤ (c : Int) * (st / 16) := Int.mul_nonneg (by omega) h4
  omega
theorem rdT_bound (ws : List Int) (hws : ∀ k ∈ ws, 65 ≤ k ∧ k ≤ 80) (s1 : Int) (i : Nat) (h0 : 0 ≤ s1) (h1 : s1 < 256) (hi : i + 1 < ws.length) : 0 ≤ rdT ws s1 i ∧ rdT ws s1 i < 65536 := by
  have a : ∀ j, j < ws.length → 65 ≤ ws.getD j 0 ∧ ws.getD j 0 ≤ 80 := fun j hj => hws _ (by
    rw [List.getD_eq_getElem?_getD, List.getElem?_eq_getElem hj]
    exact List.getElem_mem hj)
  have b := a i (by omega)
  have c := a (i + 1) hi
  unfold rdT
  omega
end Mine
end

-- part M5
section
/-! the writer as a plain function -/
namespace Mine
noncomputable def plc (ow : List Int) (k : Int) : List Int := List.foldl (fun (l : List Int) (p : Int) => if ow.getD p.toNat 0 = k then l ++ [p] else l) [] (PySem.W.rangeKs 0 16)
noncomputable def wrK (ow : List Int) (c : Int × List Int) (k : Int) : Int × List Int :=
  if 256 ≤ c.1 / (16 * ((plc ow k).length : Int)) then (16 * (c.1 / 256 / ((plc ow k).length : Int)) + (plc ow k).getD (c.1 / 256 % ((plc ow k).length : Int)).toNat 0, c.2 ++ [c.1 % 256])
  else (16 * (c.1 / ((plc ow k).length : Int)) + (plc ow k).getD (c.1 % ((plc ow k).length : Int)).toNat 0, c.2)
noncomputable def wr (ow ks : List Int) (st : Int) : Int × List Int := ks.reverse.foldl (wrK ow) (st, [])
theorem wr_len (ow : List Int) : ∀ (ks : List Int) (c : Int × List Int), (ks.foldl (wrK ow) c).2.length ≤ c.2.length + ks.length
  | [], c => by simp
  | k :: r, c => by
    have h := wr_len ow r (wrK ow c k)
    have h2 : (wrK ow c k).2.length ≤ c.2.length + 1 := by
      unfold wrK
      split
      · simp
      · simp
    rw [List.foldl_cons, List.length_cons]
    omega
theorem plc_filter (ow : List Int) (k : Int) : plc ow k = (PySem.W.rangeKs 0 16).filter (fun p => ow.getD p.toNat 0 = k) := by
  have key : ∀ (l : List Int) (acc : List Int), List.foldl (fun (l : List Int) (p : Int) => if ow.getD p.toNat 0 = k then l ++ [p] else l) acc l = acc ++ l.filter (fun p => ow.getD p.toNat 0 = k) := by
    intro l
    induction l with
    | nil => intro acc; simp
    | cons a r ih =>
      intro acc
      rw [List.foldl_cons, ih, List.filter_cons]
      by_cases h : ow.getD a.toNat 0 = k
      · rw [if_pos h, decide_eq_true h, if_pos rfl, List.append_assoc]; rfl
      · rw [if_neg h, decide_eq_false h, if_neg Bool.false_ne_true]
  unfold plc
  rw [key, List.nil_append]
theorem plc_mem (ow : List Int) (k : Int) : ∀ p ∈ plc ow k, 0 ≤ p ∧ p < 16 := by
  intro p hp
  rw [plc_filter] at hp
  have := PySem.W.mem_rangeKs (List.mem_filter.mp hp).1
  omega
theorem plc_len (ow : List Int) (k : Int) : (plc ow k).length ≤ 16 := by
  rw [plc_filter]
  exact Nat.le_trans (List.length_filter_le _ _) (by rw [PySem.W.rangeKs_length]; exact Nat.le_refl _)
theorem plc_getD (ow : List Int) (k : Int) (i : Nat) : 0 ≤ (plc ow k).getD i 0 ∧ (plc ow k).getD i 0 < 16 := by
  by_cases h : i < (plc ow k).length
  · rw [List.getD_eq_getElem?_getD, List.getElem?_eq_getElem h]
    exact plc_mem ow k _ (List.getElem_mem h)
  · rw [List.getD_eq_getElem?_getD, List.getElem?_eq_none (by omega)]
    exact ⟨Int.le_refl _, by decide⟩
theorem div_big {st n : Int} (hn : 0 < n) : 256 ≤ st / (16 * n) ↔ 4096 * n ≤ st := by
  rw [Int.le_ediv_iff_mul_le (by omega)]
  constructor <;> intro h <;> omega
theorem wrK_bound (ow : List Int) (c : Int × List Int) (k : Int) (h2 : 2 ≤ (plc ow k).length) (h0 : 256 ≤ c.1) (h1 : c.1 < 65536) : 256 ≤ (wrK ow c k).1 ∧ (wrK ow c k).1 < 65536 := by
  have hl := plc_len ow k
  obtain ⟨n, hn⟩ : ∃ n, n = ((plc ow k).length : Int) := ⟨_, rfl⟩
  have hn2 : 2 ≤ n := by omega
  have hn16 : n ≤ 16 := by omega
  unfold wrK
  rw [← hn]
  by_cases h : 4096 * n ≤ c.1
  · rw [if_pos ((div_big (by omega)).mpr h)]
    have h9 := plc_getD ow k (c.1 / 256 % n).toNat
    obtain ⟨d, hd⟩ : ∃ d, d = c.1 / 256 / n := ⟨_, rfl⟩
    have hd1 : 16 ≤ d := by rw [hd, Int.le_ediv_iff_mul_le (by omega)]; omega
    have hd2 : d < 256 := by rw [hd, Int.ediv_lt_iff_lt_mul (by omega)]; omega
    dsimp only
    rw [← hd]
    omega
  · rw [if_neg fun e => h ((div_big (by omega)).mp e)]
    have h9 := plc_getD ow k (c.1 % n).toNat
    obtain ⟨d, hd⟩ : ∃ d, d = c.1 / n := ⟨_, rfl⟩
    have hd1 : 16 ≤ d := by rw [hd, Int.le_ediv_iff_mul_le (by omega)]; omega
    have hd2 : d < 4096 := by rw [hd, Int.ediv_lt_iff_lt_mul (by omega)]; omega
    dsimp only
    rw [← hd]
    omega
end Mine
end

-- part M6
section
/-! the operators and their numbers -/
namespace Mine
noncomputable def TOK : List (List Nat × Int) := [([33], 54), ([33, 61], 28), ([37], 24), ([37, 61], 40), ([38], 19), ([38, 61], 41), ([40], 7), ([41], 8), ([42], 16), ([42, 42], 35), ([42, 42, 61], 46), ([42, 61], 38), ([43], 14), ([43, 61], 36), ([44], 12), ([45], 15), ([45, 61], 37), ([45, 62], 51), ([46], 23), ([46, 46, 46], 52), ([47], 17), ([47, 47], 47), ([47, 47, 61], 48), ([47, 61], 39), ([58], 11), ([58, 61], 53), ([59], 13), ([60], 20), ([60, 60], 33), ([60, 60, 61], 44), ([60, 61], 29), ([61], 22), ([61, 61], 27), ([62], 21), ([62, 61], 30), ([62, 62], 34), ([62, 62, 61], 45), ([64], 49), ([64, 61], 50), ([91], 9), ([93], 10), ([94], 32), ([94, 61], 43), ([123], 25), ([124], 18), ([124, 61], 42), ([125], 26), ([126], 31)]
noncomputable def tokRows : List (Str × KTD.Dat) := TOK.map fun p => (⟨p.1.toArray⟩, .flat (.int p.2))
noncomputable def inTok (x : Str) : Bool := KTD.inKeys x tokRows
theorem eachL_rows {h : Heap} {k : Str} {P : Value → Prop} : ∀ (l : List (List Nat × Int)), (∀ i t, (k.cps.toList, i) ∈ l → P (.int i t)) → KTD.EachL h k P (l.map fun p => ((⟨p.1.toArray⟩ : Str), KTD.Dat.flat (.int p.2)))
  | [], _ => trivial
  | [(x, d)], H => by
    refine KTD.eachL_last fun e => ?_
    intro t
    refine H d t ?_
    rw [e]
    exact .head _
  | (x, d) :: q :: r, H => by
    by_cases e : k = ⟨x.toArray⟩
    · refine KTD.eachL_hit e ?_
      intro t
      refine H d t ?_
      rw [e]
      exact .head _
    · exact KTD.eachL_miss e (eachL_rows (q :: r) fun i t hm => H i t (.tail _ hm))
end Mine
end

-- part M7
section
/-! slices of short texts -/
namespace Mine
open PySem.Builtin PySem.Builtin.Str
theorem idx_up : ∀ n : Nat, n ≤ 6 → strSliceIndices none (some 3) 1 n = List.range (min 3 n) := by decide +kernel
theorem idx_cut : ∀ n : Nat, n ≤ 6 → strSliceIndices none (some (-1)) 1 n = List.range (n - 1) := by decide +kernel
theorem idx_from : ∀ n : Nat, n ≤ 6 → ∀ k : Nat, k ≤ n → strSliceIndices (some (k : Int)) none 1 n = (List.range (n - k)).map (k + ·) := by decide +kernel
theorem fm_range {α : Type} (a : Array α) : ∀ k : Nat, k ≤ a.size → (List.range k).filterMap (a[·]?) = a.toList.take k
  | 0, _ => by simp
  | k + 1, h => by
    rw [List.range_succ, List.filterMap_append, fm_range a k (by omega), List.take_add_one]
    have hk : k < a.size := by omega
    simp [hk]
theorem fm_from {α : Type} (a : Array α) (k : Nat) : ∀ j : Nat, k + j ≤ a.size → ((List.range j).map (k + ·)).filterMap (a[·]?) = (a.toList.drop k).take j
  | 0, _ => by simp
  | j + 1, h => by
    rw [List.range_succ, List.map_append, List.filterMap_append, fm_from a k j (by omega), List.take_add_one]
    have hk : k + j < a.size := by omega
    simp [hk]
theorem take_all {α : Type} (l : List α) (k : Nat) (h : k = l.length) : l = l.take k := by rw [h, List.take_length]
theorem slice_up (x : Str) (h : x.length ≤ 6) : (Txt.slice x none (some 3)).cps.toList = x.cps.toList.take (min 3 x.length) := by
  have hs : x.cps.size = x.length := rfl
  unfold Txt.slice
  rw [idx_up _ h]
  split
  · rename_i e
    simp at e
    exact take_all _ _ (by rw [Array.length_toList]; omega)
  · exact fm_range x.cps _ (by omega)
theorem slice_cut (x : Str) (h : x.length ≤ 6) : (Txt.slice x none (some (-1))).cps.toList = x.cps.toList.take (x.length - 1) := by
  have hs : x.cps.size = x.length := rfl
  unfold Txt.slice
  rw [idx_cut _ h]
  split
  · rename_i e
    simp at e
    exact take_all _ _ (by rw [Array.length_toList]; omega)
  · exact fm_range x.cps _ (by omega)
theorem slice_from (x : Str) (h : x.length ≤ 6) (k : Nat) (hk : k ≤ x.length) : (Txt.slice x (some (k : Int)) none).cps.toList = x.cps.toList.drop k := by
  have hs : x.cps.size = x.length := rfl
  unfold Txt.slice
  rw [idx_from _ h k hk]
  split
  · rename_i e
    simp at e
    have : k = 0 ∨ x.length = 0 := by omega
    rcases this with rfl | e0
    · rfl
    · have : x.cps.toList = [] := List.eq_nil_of_length_eq_zero (by rw [Array.length_toList]; omega)
      rw [this]; simp
  · refine (fm_from x.cps k _ (by omega)).trans ?_
    rw [List.take_of_length_le]
    rw [List.length_drop, Array.length_toList]; omega
end Mine
end

-- part L1
section
/-! loops over a made list, a made list from its end, a range: an invariant over the whole frame and the whole ledger -/
namespace Mine
open PySem.Spec
noncomputable def KS {σ α : Type} (Led : σ → List (Addr × Obj)) (ps : σ → List (Str × Value)) (x : Str) (stored : List Str) (m₀ : Str → Option Value) (P : α → σ → Prop) (pre : α) (m : Str → Option Value) (news : List (Addr × Obj)) : Prop :=
  ∃ c : σ, news = Led c ∧ (∀ p ∈ ps c, m p.1 = some p.2) ∧ (∀ z, z ≠ x → (∀ p ∈ ps c, z ≠ p.1) → stored.contains z = false → m z = m₀ z) ∧ P pre c
theorem unr_mono {h₀ : Heap} {L : Addr} {s₁ : Shared} {I : Addr} {it : Obj} {rest rest' : (Str → Option Value) → List (Addr × Obj) → Prop} {Q : Flow → Shared → Prop} {f : Flow} {s₂ : Shared} (h : ∀ m n, rest m n → rest' m n)
    (p : UnrPost h₀ L s₁ I it rest Q f s₂) : UnrPost h₀ L s₁ I it rest' Q f s₂ := by
  have fin : UnrEnd h₀ L s₁ I it rest s₂ → UnrEnd h₀ L s₁ I it rest' s₂ := by
    rintro ⟨h', tk, m', n', e, F, N, o, r⟩
    exact ⟨h', tk, m', n', e, F, N, o, h _ _ r⟩
  cases f with
  | ret v => exact p
  | brk => exact p
  | next => exact fin p
  | cont => exact fin p
section
variable {prog : Program} {w : World} {A : Around} {E : Value → Shared → Prop} {s : Shared} {env : Env} {h₀ : Heap} {x : Str} {body : List Stmt} {Q : Flow → Shared → Prop} {σ : Type}
theorem rev_rest {I : Addr} {lp : Addr × Obj} {m₀ : Str → Option Value} (Led : σ → List (Addr × Obj)) (ps : σ → List (Str × Value)) (stored : List Str) (P : List Int → σ → Prop) (all : List Int) (hlp : ∀ c, lp ∈ Led c)
    (turn : ∀ (c : σ) pre v post t (u : Str → Option Value) (it : Obj) h tk, all = pre ++ v :: post → P pre c → it.cls = .type "list_reverseiterator" →
      Fr h₀ env.locals h (fun y => if y = x then some (.int v t) else kstB (fun z => if stored.contains z then u z else m₀ z) (ps c) y) → News h₀ env.locals h ((I, it) :: Led c) →
      wpAny (model prog w) A (execs body env) (UnrPost h₀ env.locals { s with heap := h, toks := tk } I it (KS Led ps x stored m₀ P (pre ++ [v])) Q) E { s with heap := h, toks := tk })
    (done : ∀ (c : σ) (u : Str → Option Value) h tk, P all c → Fr h₀ env.locals h (fun y => if y = x then u y else kstB (fun z => if stored.contains z then u z else m₀ z) (ps c) y) → News h₀ env.locals h (Led c) → Q .next { s with heap := h, toks := tk }) :
    ∀ (post : List Int) (vs : List Value) (pre : List Int) (m : Str → Option Value) (news : List (Addr × Obj)), all = pre ++ post → IntsAre vs post → KS Led ps x stored m₀ P pre m news → RevRest prog w A E h₀ env x body Q s I lp vs m news
  | [], _, pre, m, news, e, .nil, ⟨c, hn, h1, h2, hp⟩ => fun h tk F N => by
    subst hn
    rw [List.append_nil] at e
    subst e
    exact done c m h tk hp (kst_frOut h1 h2 F) N
  | v :: post, _, pre, m, news, e, .cons _ t hi, ⟨c, hn, h1, h2, hp⟩ => by
    subst hn
    refine RevRest.succ fun it h tk hit F N => ?_
    refine wpAny_mono (turn c pre v post t m it h tk e hp hit (kst_fr h1 h2 F) N) (fun f s₂ p => unr_mono (fun m' n' k => ?_) p) fun _ _ x => x
    refine ⟨?_, rev_rest Led ps stored P all hlp turn done post _ (pre ++ [v]) m' n' (by rw [e, List.append_assoc]; rfl) hi k⟩
    obtain ⟨c', hn', _⟩ := k
    rw [hn']; exact hlp c'
theorem rev_loop {I ax : Addr} {vs : List Value} {ns : List Int} {n : Nat} {m₀ : Str → Option Value} (Led : σ → List (Addr × Obj)) (ps : σ → List (Str × Value)) (stored : List Str) (P : List Int → σ → Prop) (c₀ : σ)
    (hh : A.handled = none) (F : Fr h₀ env.locals s.heap m₀) (N : News h₀ env.locals s.heap ((I, revObj ax ((vs.length : Int) - 1)) :: Led c₀)) (hof : ∀ p ∈ Led c₀, p.1 ≠ I) (hlp : ∀ c, (ax, listOf vs.toArray n) ∈ Led c) (hi : IntsAre vs ns)
    (hk : ∀ p ∈ ps c₀, m₀ p.1 = some p.2) (hp : P [] c₀)
    (turn : ∀ (c : σ) pre v post t (u : Str → Option Value) (it : Obj) h tk, ns.reverse = pre ++ v :: post → P pre c → it.cls = .type "list_reverseiterator" →
      Fr h₀ env.locals h (fun y => if y = x then some (.int v t) else kstB (fun z => if stored.contains z then u z else m₀ z) (ps c) y) → News h₀ env.locals h ((I, it) :: Led c) →
      wpAny (model prog w) A (execs body env) (UnrPost h₀ env.locals { s with heap := h, toks := tk } I it (KS Led ps x stored m₀ P (pre ++ [v])) Q) E { s with heap := h, toks := tk })
    (done : ∀ (c : σ) (u : Str → Option Value) h tk, P ns.reverse c → Fr h₀ env.locals h (fun y => if y = x then u y else kstB (fun z => if stored.contains z then u z else m₀ z) (ps c) y) → News h₀ env.locals h (Led c) → Q .next { s with heap := h, toks := tk }) :
    wpAny (model prog w) A (pyIter (.ref I)) (fun it s₂ => LoopAtV prog w A h₀ env x body Q E it s₂) E s := by
  have offI : ∀ {it : Obj} {l : List (Addr × Obj)}, (∀ p ∈ l, p.1 ≠ I) → OffI I it l := by
    intro it l
    induction l with
    | nil => intro _; trivial
    | cons a r ih => intro h; exact ⟨.inl (h a (.head _)), ih fun p hp => h p (.tail _ hp)⟩
  have hrev : IntsAre vs.reverse ns.reverse := by
    have key : ∀ {vs : List Value} {ns : List Int} {ws : List Value} {ms : List Int}, IntsAre vs ns → IntsAre ws ms → IntsAre (vs.reverse ++ ws) (ns.reverse ++ ms) := by
      intro vs ns ws ms h
      induction h generalizing ws ms with
      | nil => intro h2; exact h2
      | cons i t _ ih =>
        intro h2
        rw [List.reverse_cons, List.reverse_cons, List.append_assoc, List.append_assoc]
        exact ih (.cons i t h2)
    simpa using key hi .nil
  refine iter_revUnr (lo := listOf vs.toArray n) hh F N (offI hof) (hlp c₀) rfl rfl ?_
  exact rev_rest Led ps stored P ns.reverse hlp turn done ns.reverse vs.reverse [] m₀ (Led c₀) rfl hrev ⟨c₀, rfl, hk, fun _ _ _ _ => rfl, hp⟩
theorem list_rest {I : Addr} {lp : Addr × Obj} {m₀ : Str → Option Value} (Led : σ → List (Addr × Obj)) (ps : σ → List (Str × Value)) (stored : List Str) (P : List Int → σ → Prop) (all : List Int) (hlp : ∀ c, lp ∈ Led c)
    (turn : ∀ (c : σ) pre v post t (u : Str → Option Value) (it : Obj) h tk, all = pre ++ v :: post → P pre c → it.cls = .type "list_iterator" →
      Fr h₀ env.locals h (fun y => if y = x then some (.int v t) else kstB (fun z => if stored.contains z then u z else m₀ z) (ps c) y) → News h₀ env.locals h ((I, it) :: Led c) →
      wpAny (model prog w) A (execs body env) (UnrPost h₀ env.locals { s with heap := h, toks := tk } I it (KS Led ps x stored m₀ P (pre ++ [v])) Q) E { s with heap := h, toks := tk })
    (done : ∀ (c : σ) (u : Str → Option Value) h tk, P all c → Fr h₀ env.locals h (fun y => if y = x then u y else kstB (fun z => if stored.contains z then u z else m₀ z) (ps c) y) → News h₀ env.locals h (Led c) → Q .next { s with heap := h, toks := tk }) :
    ∀ (post : List Int) (vs : List Value) (pre : List Int) (m : Str → Option Value) (news : List (Addr × Obj)), all = pre ++ post → IntsAre vs post → KS Led ps x stored m₀ P pre m news → ListRest prog w A E h₀ env x body Q s I lp vs m news
  | [], _, pre, m, news, e, .nil, ⟨c, hn, h1, h2, hp⟩ => fun h tk F N => by
    subst hn
    rw [List.append_nil] at e
    subst e
    exact done c m h tk hp (kst_frOut h1 h2 F) N
  | v :: post, _, pre, m, news, e, .cons _ t hi, ⟨c, hn, h1, h2, hp⟩ => by
    subst hn
    refine ListRest.succ fun it h tk hit F N => ?_
    refine wpAny_mono (turn c pre v post t m it h tk e hp hit (kst_fr h1 h2 F) N) (fun f s₂ p => unr_mono (fun m' n' k => ?_) p) fun _ _ x => x
    refine ⟨?_, list_rest Led ps stored P all hlp turn done post _ (pre ++ [v]) m' n' (by rw [e, List.append_assoc]; rfl) hi k⟩
    obtain ⟨c', hn', _⟩ := k
    rw [hn']; exact hlp c'
theorem list_loop {ax : Addr} {vs : List Value} {ns : List Int} {n : Nat} {m₀ : Str → Option Value} (Led : σ → List (Addr × Obj)) (ps : σ → List (Str × Value)) (stored : List Str) (P : List Int → σ → Prop) (c₀ : σ)
    (hh : A.handled = none) (F : Fr h₀ env.locals s.heap m₀) (N : News h₀ env.locals s.heap (Led c₀)) (hlp : ∀ c, (ax, listOf vs.toArray n) ∈ Led c) (hi : IntsAre vs ns)
    (hk : ∀ p ∈ ps c₀, m₀ p.1 = some p.2) (hp : P [] c₀)
    (turn : ∀ (I : Addr) (c : σ) pre v post t (u : Str → Option Value) (it : Obj) h tk, (∀ p ∈ Led c₀, p.1 < I) → ns = pre ++ v :: post → P pre c → it.cls = .type "list_iterator" →
      Fr h₀ env.locals h (fun y => if y = x then some (.int v t) else kstB (fun z => if stored.contains z then u z else m₀ z) (ps c) y) → News h₀ env.locals h ((I, it) :: Led c) →
      wpAny (model prog w) A (execs body env) (UnrPost h₀ env.locals { s with heap := h, toks := tk } I it (KS Led ps x stored m₀ P (pre ++ [v])) Q) E { s with heap := h, toks := tk })
    (done : ∀ (c : σ) (u : Str → Option Value) h tk, P ns c → Fr h₀ env.locals h (fun y => if y = x then u y else kstB (fun z => if stored.contains z then u z else m₀ z) (ps c) y) → News h₀ env.locals h (Led c) → Q .next { s with heap := h, toks := tk }) :
    wpAny (model prog w) A (pyIter (.ref ax)) (fun it s₂ => LoopAtV prog w A h₀ env x body Q E it s₂) E s := by
  refine iter_listUnr (lo := listOf vs.toArray n) hh F N (hlp c₀) rfl rfl fun I hI => ?_
  exact list_rest Led ps stored P ns hlp (fun c pre v post t u it h tk a b c' d e => turn I c pre v post t u it h tk hI a b c' d e) done ns vs [] m₀ (Led c₀) rfl hi ⟨c₀, rfl, hk, fun _ _ _ _ => rfl, hp⟩
theorem range_rest {I : Addr} {a : Int} {n : Nat} {m₀ : Str → Option Value} (Led : σ → List (Addr × Obj)) (ps : σ → List (Str × Value)) (stored : List Str) (P : Nat → σ → Prop)
    (turn : ∀ (c : σ) (i : Nat) t (u : Str → Option Value) (it : Obj) h tk, i < n → P i c → it.cls = .type "range_iterator" →
      Fr h₀ env.locals h (fun y => if y = x then some (.int (a + (i : Int)) t) else kstB (fun z => if stored.contains z then u z else m₀ z) (ps c) y) → News h₀ env.locals h ((I, it) :: Led c) →
      wpAny (model prog w) A (execs body env) (UnrPost h₀ env.locals { s with heap := h, toks := tk } I it (KS Led ps x stored m₀ P (i + 1)) Q) E { s with heap := h, toks := tk })
    (done : ∀ (c : σ) (u : Str → Option Value) h tk, P n c → Fr h₀ env.locals h (fun y => if y = x then u y else kstB (fun z => if stored.contains z then u z else m₀ z) (ps c) y) → News h₀ env.locals h (Led c) → Q .next { s with heap := h, toks := tk }) :
    ∀ (k i : Nat) (m : Str → Option Value) (news : List (Addr × Obj)), i + k = n → KS Led ps x stored m₀ P i m news → RangeRest prog w A E h₀ env x body Q s I a n k i m news
  | 0, i, m, news, e, ⟨c, hn, h1, h2, hp⟩ => fun h tk F N => by
    subst hn
    rw [Nat.add_zero] at e
    subst e
    exact done c m h tk hp (kst_frOut h1 h2 F) N
  | k + 1, i, m, news, e, ⟨c, hn, h1, h2, hp⟩ => by
    subst hn
    refine RangeRest.succ fun t h tk F N => ?_
    refine wpAny_mono (turn c i t m _ h tk (by omega) hp rfl (kst_fr h1 h2 F) N) (fun f s₂ p => unr_mono (fun m' n' k => ?_) p) fun _ _ x => x
    exact range_rest Led ps stored P turn done _ (i + 1) m' n' (by omega) k
theorem range_loop {r : Addr} {a₀ b₀ : Int} {t₀ u₀ v₀ : Tok} {n : Nat} {m₀ : Str → Option Value} (Led : σ → List (Addr × Obj)) (ps : σ → List (Str × Value)) (stored : List Str) (P : Nat → σ → Prop) (c₀ : σ)
    (hh : A.handled = none) (hr : IsRange s.heap r a₀ b₀ 1 t₀ u₀ v₀) (hsmall : Builtin.Range.small a₀ b₀ 1 = true) (hn : Builtin.Range.rangeSize a₀ b₀ 1 = (n : Int)) (F : Fr h₀ env.locals s.heap m₀) (N : News h₀ env.locals s.heap (Led c₀))
    (hk : ∀ p ∈ ps c₀, m₀ p.1 = some p.2) (hp : P 0 c₀)
    (turn : ∀ (I : Addr) (c : σ) (i : Nat) t (u : Str → Option Value) (it : Obj) h tk, (∀ p ∈ Led c₀, p.1 < I) → i < n → P i c → it.cls = .type "range_iterator" →
      Fr h₀ env.locals h (fun y => if y = x then some (.int (a₀ + (i : Int)) t) else kstB (fun z => if stored.contains z then u z else m₀ z) (ps c) y) → News h₀ env.locals h ((I, it) :: Led c) →
      wpAny (model prog w) A (execs body env) (UnrPost h₀ env.locals { s with heap := h, toks := tk } I it (KS Led ps x stored m₀ P (i + 1)) Q) E { s with heap := h, toks := tk })
    (done : ∀ (c : σ) (u : Str → Option Value) h tk, P n c → Fr h₀ env.locals h (fun y => if y = x then u y else kstB (fun z => if stored.contains z then u z else m₀ z) (ps c) y) → News h₀ env.locals h (Led c) → Q .next { s with heap := h, toks := tk }) :
    wpAny (model prog w) A (pyIter (.ref r)) (fun it s₂ => LoopAtV prog w A h₀ env x body Q E it s₂) E s := by
  refine iter_rangeUnr hh hr hsmall hn F N fun I hI => ?_
  exact range_rest Led ps stored P (fun c i t u it h tk a b c' d e => turn I c i t u it h tk hI a b c' d e) done n 0 m₀ (Led c₀) (by omega) ⟨c₀, rfl, hk, fun _ _ _ _ => rfl, hp⟩
end
theorem unr_end {σ α : Type} {h₀ : Heap} {L I : Addr} {it : Obj} {s₁ : Shared} {h' : Heap} {tk : Nat} {m' : Str → Option Value} {all : List (Addr × Obj)} {Led : σ → List (Addr × Obj)} {ps : σ → List (Str × Value)} {x : Str} {stored : List Str} {m₀ : Str → Option Value} {P : α → σ → Prop} {pre : α} (c' : σ)
    (F : Fr h₀ L h' m') (N : News h₀ L h' all) (hI : (I, it) ∈ all) (sub : ∀ p ∈ Led c', p ∈ all) (off : ∀ p ∈ Led c', p.1 ≠ I) (h1 : ∀ p ∈ ps c', m' p.1 = some p.2) (h2 : ∀ z, z ≠ x → (∀ p ∈ ps c', z ≠ p.1) → stored.contains z = false → m' z = m₀ z) (hp : P pre c') :
    UnrEnd h₀ L s₁ I it (KS Led ps x stored m₀ P pre) { s₁ with heap := h', toks := tk } :=
  UnrEnd.intro F N (Led c') (fun p hp => by
    rcases List.mem_cons.mp hp with rfl | hp
    · exact hI
    · exact sub p hp) off ⟨c', rfl, h1, h2, hp⟩
/-- the loop's end by two letters: short states in the turn -/
theorem unr_gen {prog : Program} {w : World} {A : Around} {T : Sem Flow} {h₀ : Heap} {L : Addr} {s₁ : Shared} {I : Addr} {it : Obj} {rest : (Str → Option Value) → List (Addr × Obj) → Prop} {Q : Flow → Shared → Prop} {E : Value → Shared → Prop} {s : Shared}
    (h : ∀ (R' : (Str → Option Value) → List (Addr × Obj) → Prop) (Q' : Flow → Shared → Prop), (∀ m n, rest m n → R' m n) → (∀ f s, Q f s → Q' f s) → wpAny (model prog w) A T (UnrPost h₀ L s₁ I it R' Q') E s) : wpAny (model prog w) A T (UnrPost h₀ L s₁ I it rest Q) E s :=
  h rest Q (fun _ _ x => x) fun _ _ x => x
theorem unr_endR {σ α : Type} {h₀ : Heap} {L I : Addr} {it : Obj} {s₁ : Shared} {h' : Heap} {tk : Nat} {m' : Str → Option Value} {all : List (Addr × Obj)} {Led : σ → List (Addr × Obj)} {ps : σ → List (Str × Value)} {x : Str} {stored : List Str} {m₀ : Str → Option Value} {P : α → σ → Prop} {pre : α} {R' : (Str → Option Value) → List (Addr × Obj) → Prop} (hR : ∀ m n, KS Led ps x stored m₀ P pre m n → R' m n) (c' : σ)
    (F : Fr h₀ L h' m') (N : News h₀ L h' all) (hI : (I, it) ∈ all) (sub : ∀ p ∈ Led c', p ∈ all) (off : ∀ p ∈ Led c', p.1 ≠ I) (h1 : ∀ p ∈ ps c', m' p.1 = some p.2) (h2 : ∀ z, z ≠ x → (∀ p ∈ ps c', z ≠ p.1) → stored.contains z = false → m' z = m₀ z) (hp : P pre c') :
    UnrEnd h₀ L s₁ I it R' { s₁ with heap := h', toks := tk } :=
  UnrEnd.intro F N (Led c') (fun p hp => by
    rcases List.mem_cons.mp hp with rfl | hp
    · exact hI
    · exact sub p hp) off (hR _ _ ⟨c', rfl, h1, h2, hp⟩)
end Mine
end

-- part L2
section
/-! a loop over a made list of ints whose target is a cell -/
namespace Mine
open PySem.Spec
section
variable {prog : Program} {w : World} {A : Around} {s : Shared} {h₀ : Heap} {L a : Addr} {cn : Str} {cs : Scope} {ccd : Value} {cl : List (Str × Addr)} {x : Str} {body : List Stmt} {σ : Type}
theorem UpdF.head' {d : Addr} {o : Obj} {r : List (Addr × Obj)} (h : ∀ p ∈ r, p.1 ≠ d) : UpdF d o ((d, o) :: r) (fun o' => (d, o') :: r) := .head h
theorem sub_add (h : Heap) : ∀ o b ob, h.get? b = some ob → (h.push o).get? b = some ob := fun o _ _ e => Heap.get?_push_of_some o e
/-- the loop itself: the iterator I stands at the place i -/
theorem cell_go {R : Result → Shared → Prop} {px : Pos} {I ax cx : Addr} {lp : Obj} {vs : List Value} {ns : List Int} {m₀ : Str → Option Value} (Led : σ → Obj → List (Addr × Obj)) (ps : σ → List (Str × Value)) (stored : List Str) (P : List Int → σ → Prop)
    (hh : A.handled = none) (hlc : lp.cls = .type "list") (nn : Nat) (hld : lp.data = .seq vs.toArray nn) (hi : IntsAre vs ns) (hne : ax ≠ I) (hcI : cx ≠ I) (hLI : L ≠ I) (hnI : h₀.get? I = none)
    (hk : cs.kind = .function) (hx : (envX cn cs L a ccd cl).kindOf x = some .cell) (hcl : cl.lookup x = some cx)
    (hlp : ∀ c o, (ax, lp) ∈ Led c o) (hU : ∀ pre c o, P pre c → UpdF cx o (Led c o) (Led c))
    (turn : ∀ (c : σ) pre v post t (u : Str → Option Value) (it oc : Obj) h tk, (∀ p ∈ Led c oc, p.1 ≠ I) → ns = pre ++ v :: post → P pre c → it.cls = .type "list_iterator" → oc.data = .cell (some (.int v t)) →
      Fr h₀ L h (fun y => if y = x then u y else kstB (fun z => if stored.contains z then u z else m₀ z) (ps c) y) → News h₀ L h ((I, it) :: Led c oc) →
      wpAny (model prog w) A (execs body (envX cn cs L a ccd cl)) (fun f s' => match f with
        | .next | .cont => UnrEnd h₀ L { s with heap := h, toks := tk } I it (fun m' n' => ∃ o', (∃ v, o'.data = .cell v) ∧ KS (fun c => Led c o') ps x stored m₀ P (pre ++ [v]) m' n') s'
        | .brk => R (.ok .next) s'
        | .ret v => R (.ok (.ret v)) s') (notedBy (model prog w) A (envX cn cs L a ccd cl) fun e s' => R (.error e) s') { s with heap := h, toks := tk })
    (done : ∀ (c : σ) (u : Str → Option Value) (oc : Obj) h tk, P ns c → (∃ v, oc.data = .cell v) → Fr h₀ L h (fun y => if y = x then u y else kstB (fun z => if stored.contains z then u z else m₀ z) (ps c) y) → News h₀ L h (Led c oc) → R (.ok .next) { s with heap := h, toks := tk })
    (c₀ : σ) (oc₀ : Obj) (m : Str → Option Value) (hc₀ : ∃ v, oc₀.data = .cell v) (hit : s.heap.IsListIter I ax 0) (F : Fr h₀ L s.heap m) (N : News h₀ L s.heap (Led c₀ oc₀)) (hoff : ∀ p ∈ Led c₀ oc₀, p.1 ≠ I)
    (h1 : ∀ p ∈ ps c₀, m p.1 = some p.2) (h2 : ∀ z, z ≠ x → (∀ p ∈ ps c₀, z ≠ p.1) → stored.contains z = false → m z = m₀ z) (hp : P [] c₀) :
    codeAny (model prog w) A (.forLoop (.Name x px) (.ref I) body [] (envX cn cs L a ccd cl)) R s := by
  have W := Walks.list (prog := prog) (w := w) hh I ax hne vs.toArray
  have hsz : vs.toArray.size = vs.length := by simp
  rw [hsz] at W
  have hlen : vs.length = ns.length := IntsAre.length hi
  refine codeAny_forLoop
    (fun k s' => ∃ (i : Nat) (h' : Heap) (tk : Nat) (c : σ) (oc : Obj) (m' : Str → Option Value), s' = { s with heap := h', toks := tk } ∧ i ≤ ns.length ∧ k = ns.length + 1 - i ∧ h'.IsListIter I ax i ∧ Fr h₀ L h' m' ∧ News h₀ L h' (Led c oc) ∧ (∀ p ∈ Led c oc, p.1 ≠ I) ∧ (∃ v, oc.data = .cell v) ∧
      (∀ p ∈ ps c, m' p.1 = some p.2) ∧ (∀ z, z ≠ x → (∀ p ∈ ps c, z ≠ p.1) → stored.contains z = false → m' z = m₀ z) ∧ P (ns.take i) c) ?_ (ns.length + 1)
    ⟨0, s.heap, s.toks, c₀, oc₀, m, rfl, Nat.zero_le _, rfl, hit, F, N, hoff, hc₀, h1, h2, by simpa using hp⟩
  rintro k s' ⟨i, h', tk, c, oc, m', rfl, hil, rfl, hit', F', N', hoff', hc', h1', h2', hp'⟩
  have hl' : h'.IsList ax vs.toArray := ⟨lp, (N' _ (hlp c oc)).1, hlc, nn, hld⟩
  have upto : ∀ h₁ : Heap, (∀ b o, b ∉ [I] → h'.get? b = some o → h₁.get? b = some o) → Fr h₀ L h₁ m' ∧ News h₀ L h₁ (Led c oc) := fun h₁ hk₁ => by
    have off : ∀ {b o}, b ≠ I → h'.get? b = some o → h₁.get? b = some o := fun hb e => hk₁ _ _ (by simpa using hb) e
    refine ⟨⟨F'.ns.at' fun o e => off hLI e, fun b o e => off (fun q => ?_) (F'.keep b o e), F'.above⟩, fun p hp => ⟨off (hoff' p hp) (N' p hp).1, (N' p hp).2⟩⟩
    rw [q, hnI] at e; cases e
  by_cases hlt : i < ns.length
  · refine W.item i _ _ _ (by omega) ⟨hit', hl'⟩ fun v h₁ tk₁ hP hst₁ hk₁ => ?_
    obtain ⟨F₁, N₁⟩ := upto h₁ hk₁
    obtain ⟨z, t, hz, rfl⟩ : ∃ z t, ns[i]? = some z ∧ v = .int z t := by
      have hv : vs[i]? = some v := by simpa using hP
      obtain ⟨n, t, e, e2⟩ := hi.at i v hv
      exact ⟨n, t, e2, e⟩
    obtain ⟨vc, hvc⟩ := hc'
    obtain ⟨it, hitg, hitc, hitd⟩ := id hst₁.1
    have N₁' : News h₀ L h₁ ((I, it) :: Led c oc) := fun p hp => by
      rcases List.mem_cons.mp hp with rfl | hp
      · exact ⟨hitg, fun e => hLI e.symm, hnI⟩
      · exact N₁ p hp
    have hoff2 : ∀ o₂, ∀ p ∈ Led c o₂, p.1 ≠ I := fun o₂ => by
      obtain ⟨pr, po, e1, e2, _, _⟩ := (hU _ c oc hp').split
      intro p hp
      rw [e2] at hp
      rcases List.mem_append.mp hp with hp | hp
      · exact hoff' p (e1 ▸ List.mem_append_left _ hp)
      · rcases List.mem_cons.mp hp with rfl | hp
        · exact hcI
        · exact hoff' p (e1 ▸ List.mem_append_right _ (.tail _ hp))
    have hsplit : ns = ns.take i ++ z :: ns.drop (i + 1) := by
      have : ns[i] = z := by
        rw [List.getElem?_eq_getElem hlt] at hz; exact Option.some.inj hz
      rw [← this]; simp
    have htake : ns.take (i + 1) = ns.take i ++ [z] := by
      rw [List.take_add_one, hz]; rfl
    refine wpAny_assign_Name (storeX_C F₁ N₁' hcl (.tail (fun e => hcI e.symm) (hU _ c oc hp')) hvc (fun h₂ o₂ F₂ N₂ hd₂ => ?_) hk hx)
    refine wpAny_mono (turn c (ns.take i) z (ns.drop (i + 1)) t m' it o₂ h₂ tk₁ (hoff2 o₂) hsplit hp' hitc hd₂ (kst_frOut h1' h2' F₂) N₂) (fun f s₃ h₃ => ?_) fun _ _ e => e
    have fin : UnrEnd h₀ L { s with heap := h₂, toks := tk₁ } I it (fun m' n' => ∃ o', (∃ v, o'.data = .cell v) ∧ KS (fun c => Led c o') ps x stored m₀ P (ns.take i ++ [z]) m' n') s₃ →
        ∃ k', k' < ns.length + 1 - i ∧ ∃ (i : Nat) (h' : Heap) (tk : Nat) (c : σ) (oc : Obj) (m' : Str → Option Value), s₃ = { s with heap := h', toks := tk } ∧ i ≤ ns.length ∧ k' = ns.length + 1 - i ∧ h'.IsListIter I ax i ∧ Fr h₀ L h' m' ∧ News h₀ L h' (Led c oc) ∧ (∀ p ∈ Led c oc, p.1 ≠ I) ∧ (∃ v, oc.data = .cell v) ∧
      (∀ p ∈ ps c, m' p.1 = some p.2) ∧ (∀ z, z ≠ x → (∀ p ∈ ps c, z ≠ p.1) → stored.contains z = false → m' z = m₀ z) ∧ P (ns.take i) c := by
      rintro ⟨h₃', tk₃, m₃, n₃, rfl, F₃, N₃, off₃, o', hc₃, c', rfl, k1, k2, k3⟩
      exact ⟨_, by omega, i + 1, h₃', tk₃, c', o', m₃, rfl, hlt, rfl, ⟨it, (N₃ _ (List.mem_cons_self ..)).1, hitc, hitd⟩, F₃, (fun p hp => N₃ p (.tail _ hp)), off₃, hc₃, k1, k2, by rw [htake]; exact k3⟩
    cases f with
    | ret v => exact h₃
    | brk => exact h₃
    | next => exact fin h₃
    | cont => exact fin h₃
  · have hin : i = ns.length := by omega
    subst hin
    refine W.done _ _ _ (by rw [hlen]; exact ⟨hit', hl'⟩) fun h₁ tk₁ hk₁ => wpAny_execs_nil ?_
    obtain ⟨F₁, N₁⟩ := upto h₁ hk₁
    rw [List.take_length] at hp'
    exact done c m' oc h₁ tk₁ hp' hc' (kst_frOut h1' h2' F₁) N₁
noncomputable def CellAt (prog : Program) (w : World) (A : Around) (env : Env) (x : Str) (px : Pos) (body : List Stmt) (Q : Flow → Shared → Prop) (E : Value → Shared → Prop) (it : Value) (s₂ : Shared) : Prop :=
  codeAny (model prog w) A (.forLoop (.Name x px) it body [] env) (fun r s' => match r with | .ok f => Q f s' | .error e => cameBackBy (model prog w) A env E e s') s₂
theorem For_cell {env : Env} {E : Value → Shared → Prop} {Q : Flow → Shared → Prop} {px pos : Pos} {iter : Expr}
    (h : wpAny (model prog w) A (eval iter env) (fun xv s₁ => wpAny (model prog w) A (pyIter xv) (fun it s₂ => CellAt prog w A env x px body Q E it s₂) E s₁) E s)
    (hs : ∀ x, foldedSetIterable iter env x = pure x := by intro _; rfl) :
    wpAny (model prog w) A (exec (.For (.Name x px) iter body [] pos) env) Q E s := wpAny_For h hs
theorem cell_loop {E : Value → Shared → Prop} {Q : Flow → Shared → Prop} {px : Pos} {ax cx : Addr} {vs : List Value} {ns : List Int} {nn : Nat} {m₀ : Str → Option Value} (Led : σ → Obj → List (Addr × Obj)) (ps : σ → List (Str × Value)) (stored : List Str) (P : List Int → σ → Prop) (c₀ : σ) (oc₀ : Obj)
    (hh : A.handled = none) (hE : PassesOwn (model prog w) A (envX cn cs L a ccd cl) E) (F : Fr h₀ L s.heap m₀) (N : News h₀ L s.heap (Led c₀ oc₀)) (hi : IntsAre vs ns)
    (hk : cs.kind = .function) (hx : (envX cn cs L a ccd cl).kindOf x = some .cell) (hcl : cl.lookup x = some cx) (hmc : (cx, oc₀) ∈ Led c₀ oc₀)
    (hlp : ∀ c o, (ax, listOf vs.toArray nn) ∈ Led c o) (hU : ∀ pre c o, P pre c → UpdF cx o (Led c o) (Led c)) (hc₀ : ∃ v, oc₀.data = .cell v)
    (h1 : ∀ p ∈ ps c₀, m₀ p.1 = some p.2) (hp : P [] c₀)
    (turn : ∀ (I : Addr) (c : σ) pre v post t (u : Str → Option Value) (it oc : Obj) h tk, (∀ p ∈ Led c₀ oc₀, p.1 < I) → (∀ p ∈ Led c oc, p.1 ≠ I) → ns = pre ++ v :: post → P pre c → it.cls = .type "list_iterator" → oc.data = .cell (some (.int v t)) →
      Fr h₀ L h (fun y => if y = x then u y else kstB (fun z => if stored.contains z then u z else m₀ z) (ps c) y) → News h₀ L h ((I, it) :: Led c oc) →
      wpAny (model prog w) A (execs body (envX cn cs L a ccd cl)) (UnrPost h₀ L { s with heap := h, toks := tk } I it (fun m' n' => ∃ o', (∃ v, o'.data = .cell v) ∧ KS (fun c => Led c o') ps x stored m₀ P (pre ++ [v]) m' n') Q) E { s with heap := h, toks := tk })
    (done : ∀ (c : σ) (u : Str → Option Value) (oc : Obj) h tk, P ns c → (∃ v, oc.data = .cell v) → Fr h₀ L h (fun y => if y = x then u y else kstB (fun z => if stored.contains z then u z else m₀ z) (ps c) y) → News h₀ L h (Led c oc) → Q .next { s with heap := h, toks := tk }) :
    wpAny (model prog w) A (pyIter (.ref ax)) (fun it s₂ => CellAt prog w A (envX cn cs L a ccd cl) x px body Q E it s₂) E s := by
  have hax := N _ (hlp c₀ oc₀)
  have hl : s.heap.IsList ax vs.toArray := ⟨listOf vs.toArray nn, hax.1, rfl, nn, rfl⟩
  have hlt : ax < s.heap.objs.size := Heap.lt_size hax.1
  have hI : ∀ p ∈ Led c₀ oc₀, p.1 < s.heap.objs.size := fun p hp => Heap.lt_size (N p hp).1
  refine wpAny_pyIter_list hl ?_
  refine cell_go (R := fun r s' => match r with | .ok f => Q f s' | .error e => cameBackBy (model prog w) A (envX cn cs L a ccd cl) E e s') (lp := listOf vs.toArray nn) (vs := vs) (ns := ns) (m₀ := m₀) Led ps stored P hh rfl nn rfl hi (Nat.ne_of_lt hlt) (Nat.ne_of_lt (hI _ hmc)) (Nat.ne_of_lt F.ns.lt) (next_is_new F) hk hx hcl hlp hU ?_ ?_ c₀ oc₀ m₀ hc₀ ⟨_, Heap.get?_push_size _ rfl, rfl, rfl⟩ (F.push _) (fun p hp => ⟨Heap.get?_push_of_some _ (N p hp).1, (N p hp).2⟩) (fun p hp => Nat.ne_of_lt (hI p hp)) h1 (fun _ _ _ _ => rfl) hp
  · intro c pre v post t u it oc h tk e0 e1 e2 e3 e4 F₁ N₁
    refine wpAny_passesOwn hE ?_
    refine wpAny_mono (turn s.heap.objs.size c pre v post t u it oc h tk hI e0 e1 e2 e3 e4 F₁ N₁) (fun f s₃ p => ?_) fun _ _ e => e
    cases f with
    | ret v => exact p
    | brk => exact p
    | next => exact p
    | cont => exact p
  · intro c u oc h tk e1 e2 F₁ N₁
    exact done c u oc h tk e1 e2 F₁ N₁
end
end Mine
end

-- these parts walk by the same lines
section
local macro_rules | `(tactic| walk_at "binaryOp RShift int int") => `(tactic| refine Mine.stop_here ?_)
local macro_rules | `(tactic| walk_at "binaryOp LShift int int") => `(tactic| refine Mine.stop_here ?_)
local macro_rules | `(tactic| walk_at "binaryOp Mult int int") => `(tactic| refine Mine.stop_here ?_)
local macro_rules | `(tactic| walk_at "binaryOp BitXor int int") => `(tactic| refine Mine.stop_here ?_)
local macro_rules | `(tactic| walk_at "call ref") => `(tactic| refine Mine.stop_here ?_)
-- part A2
section
namespace Mine
noncomputable def bodyOf : Stmt → List Stmt
  | .FunctionDef _ _ b _ _ _ _ _ _ _ => b
  | _ => []
noncomputable def nthS : Nat → List Stmt → Stmt
  | 0, x :: _ => x
  | n + 1, _ :: r => nthS n r
  | _, [] => .Pass default
noncomputable def in1Def : Stmt := nthS 1 (bodyOf (nthS 4 PySem.Challenge.pw_ul0011_01.main.body))
noncomputable def In1 (w : World) (f l : Addr) (n : Nat) (c : Nat) (rest : List (Addr × Obj)) (k : Nat) : Prop :=
  ∀ (A B C : List Int) (x lo hi : Int) (tx tl th : Tok) (vs : List Value), IntsAre vs (A ++ B ++ C) → B.length = k → 0 ≤ x → x < 2 ^ 40 → lo = A.length → hi = A.length + k → A.length + k < 1000 → n * k ≤ 1000 →
    Ct w f (k + 1) [.int x tx, .int lo tl, .int hi th] ((l, listOf vs.toArray c) :: rest) (fun r news' => r = .none ∧ ∃ vs' : List Value, news' = (l, listOf vs'.toArray c) :: rest ∧ IntsAre vs' (A ++ digs n k x ++ C))
section
set_option maxHeartbeats 8000000 in
theorem in1_step (w : World) (f l cA cI cN c' : Addr) (oA oI oN : Obj) (n : Nat) (hn0 : 0 < n) (hn : n < 100) (tn : Tok) (c : Nat) (rest : List (Addr × Obj)) {params : Arguments} {body : List Stmt} {scope : Scope} {pos : Pos} {qual : Str} {doc pm ctv : Value}
    (hdef : in1Def = .FunctionDef "inner" params body [] none [] scope none "inner" pos)
    (hf : (f, fnMade "inner" qual params body scope [("n", cN), ("inner", cI), ("a_digits", cA)] doc pm c' ctv) ∈ rest) (hcode : TabHas qual c' rest)
    (hA : (cA, oA) ∈ rest) (dA : oA.data = .cell (some (.ref l))) (hI : (cI, oI) ∈ rest) (dI : oI.data = .cell (some (.ref f))) (hN : (cN, oN) ∈ rest) (dN : oN.data = .cell (some (.int n tn)))
    (hoff : OwnOff rest [l]) (k : Nat) (hk0 : 0 < k) (IH : ∀ k' < k, 0 < k' → In1 w f l n c rest k') : In1 w f l n c rest k := by
  unfold in1Def at hdef
  delta PySem.Challenge.pw_ul0011_01 at hdef
  simp only [nthS, bodyOf] at hdef
  obtain ⟨-, h3, h4, -, -, -, h5, -, -, h6⟩ := Stmt.FunctionDef.inj hdef
  clear hdef
  subst h3 h4 h5 h6
  intro A B C x lo hi tx tl th vs hi0 hB hx0 hx hlo hhi hlen hnk
  intro p loose mean mg mb dp un gd cn cs a' ccd cl outer A₀ base h₀ L m s Q E Bl F X N T hk hd hu hret
  have hMk : KstMark := kstMark
  have hC : CodeHd h₀ 34 30 := codeHd_of_K X (by kernel_rfl)
  obtain ⟨oc, cvs, ct, hoc, hcd, hcv⟩ := hcode
  have hL : (A ++ B ++ C).length = A.length + k + C.length := by rw [List.length_append, List.length_append, hB]
  refine wpAny_call ?_
  k_dflt (refine' code_nest ?k1 ?k2 ?k3 ?k4 ?k5 ?kA ?kF ?kK ?k6 ?k7 ?k8 ?k9 ?kB ?_ ?c2 ?c3 ?c4 ?c5; (case kA => exact rfl); (case kF => exact rfl); (case kK => first | exact rfl | assumption); (case k1 => k_asm); (case k2 => k_asm); (case k3 => k_asm); (case k4 => k_asm); (case k5 => k_asm); (case k6 => exact List.mem_cons_of_mem _ hf); (case k7 => exact codeRec_news N (List.mem_cons_of_mem _ hoc) hcd hcv); (case k8 => ktr_room); (case k9 => exact BindsTo.of_eq rfl); (case c5 => decide); (case kB => exact locs rfl); (case c2 => exact rfl); (case c3 => exact rfl); (case c4 => exact rfl); k_whole)
  intro g1 L1 hp1 FG1 F1 N1 B1 X1 T1'
  (try dsimp only)
  (try k_fold)
  k_steps
  · have hk1 : k = 1 := hv_one hlo hhi (by assumption)
    subst hk1
    obtain ⟨b, rfl⟩ : ∃ b, B = [b] := List.length_eq_one_iff.mp hB
    have e : lo.toNat = A.length := toNat_of hlo
    rename IntsAre (List.set _ _ _) _ => hi2
    rw [e, set_mid] at hi2
    exact hret _ _ _ _ ⟨rfl, _, rfl, hi2⟩ (by assumption) (by rw [← e]; assumption)
  · obtain ⟨h, hh⟩ : ∃ h, h = k / 2 := ⟨_, rfl⟩
    have hh0 : 0 < h := hv_pos hlo hhi (by assumption) hk0 hh
    have hhk : h < k := hv_lt hh hk0
    have hkh : k - h < k := Nat.sub_lt hk0 hh0
    have hk2 : 0 < k - h := Nat.sub_pos_of_lt hhk
    have hmid : (lo + hi).fdiv (2 ^ Int.toNat 1) = ((A.length + h : Nat) : Int) := by
      rw [fdiv_pos_pow]
      exact hv_mid hlo hhi hh
    have hsh : (((A.length + h : Nat) : Int) - lo) * (n : Int) = ((h * n : Nat) : Int) := hv_sh hlo
    have hup : x.fdiv (2 ^ ((h * n : Nat) : Int).toNat) = x / 2 ^ (h * n) := by
      rw [Int.toNat_natCast, fdiv_pos_pow]
    refine Stop.mk (rshift_int (by decide) ?_)
    rw [hmid]
    k_steps
    refine Stop.mk (mul_int ?_)
    rw [hsh]
    k_steps
    refine Stop.mk (rshift_int (Int.natCast_nonneg _) ?_)
    rw [hup]
    k_steps
    have hhn : h * n ≤ 1000 := Nat.le_trans (Nat.mul_le_mul_right n (Nat.le_of_lt hhk)) (by rw [Nat.mul_comm]; exact hnk)
    have hp0 : (0 : Int) < 2 ^ (h * n) := Int.pow_pos (by decide)
    have hu0 : 0 ≤ x / 2 ^ (h * n) := Int.ediv_nonneg hx0 (Int.le_of_lt hp0)
    have hu1 : x / 2 ^ (h * n) ≤ x := Int.ediv_le_self _ hx0
    have hl0 : 0 ≤ x % 2 ^ (h * n) := Int.emod_nonneg _ (Int.ne_of_gt hp0)
    have hl1 : x % 2 ^ (h * n) ≤ x := mod_le_self hp0 hu0
    refine Stop.mk (lshift_int_small (Int.natCast_nonneg _) (cast_le_mil hhn) (natAbs_lt64 hu0 hu1 hx) ?_)
    k_steps
    refine Stop.mk (xor_int ?_)
    rw [Int.toNat_natCast, xor_low _ _ hx0]
    k_steps
    have hBs : B.take h ++ B.drop h = B := List.take_append_drop h B
    have hB1 : (B.take h).length = h := List.length_take_of_le (hB ▸ Nat.le_of_lt hhk)
    have hB2 : (B.drop h).length = k - h := by rw [List.length_drop, hB]
    have hi1 : IntsAre vs (A ++ B.take h ++ (B.drop h ++ C)) := by
      rw [← hBs] at hi0
      simpa only [List.append_assoc] using hi0
    have hnh : n * h ≤ 1000 := by rw [Nat.mul_comm]; exact hhn
    refine' Stop.mk (ct_use (IH h hhk hh0 A (B.take h) (B.drop h ++ C) _ _ _ _ _ _ vs hi1 hB1 hl0 (Int.lt_of_le_of_lt hl1 hx) hlo (Int.natCast_add _ _) (Nat.lt_trans (Nat.add_lt_add_left hhk _) hlen) hnh) ?k1 ?k2 ?k3 ?k4 ?k5 ?k6 ?k7 ?k8 ?_)
    case k1 => k_asm
    case k2 => k_asm
    case k3 => k_asm
    case k4 => k_asm
    case k5 => k_asm
    case k6 => exact rfl
    case k7 => ktr_room
    case k8 => ktr_units
    rintro r news' h' tk' ⟨rfl, vs1, rfl, hi2⟩ F3 N3
    k_steps
    have hA2 : (A ++ digs n h (x % 2 ^ (h * n))).length = A.length + h := by rw [List.length_append, digs_len]
    have hi3 : IntsAre vs1 (A ++ digs n h (x % 2 ^ (h * n)) ++ B.drop h ++ C) := by simpa only [List.append_assoc] using hi2
    have hnh2 : n * (k - h) ≤ 1000 := Nat.le_trans (Nat.mul_le_mul_left n (Nat.sub_le k h)) hnk
    refine' Stop.mk (ct_use (IH (k - h) hkh hk2 (A ++ digs n h (x % 2 ^ (h * n))) (B.drop h) C _ _ _ _ _ _ vs1 hi3 hB2 hu0 (Int.lt_of_le_of_lt hu1 hx) (by rw [hA2]) (hv_hi hhi hhk hA2) (hv_len hlen hhk hA2) hnh2) ?k1 ?k2 ?k3 ?k4 ?k5 ?k6 ?k7 ?k8 ?_)
    case k1 => k_asm
    case k2 => k_asm
    case k3 => k_asm
    case k4 => k_asm
    case k5 => k_asm
    case k6 => exact rfl
    case k7 => ktr_room
    case k8 => ktr_units
    rintro r news' h' tk' ⟨rfl, vs2, rfl, hi4⟩ F4 N4
    k_steps

    refine hret _ _ _ _ ⟨rfl, vs2, rfl, ?_⟩ (by assumption) (by assumption)
    have e : k = h + (k - h) := (Nat.add_sub_of_le (Nat.le_of_lt hhk)).symm
    rw [e, digs_split n h (k - h) x hh0 hk2]
    simpa only [List.append_assoc] using hi4
end
theorem in1_all (w : World) (f l cA cI cN c' : Addr) (oA oI oN : Obj) (n : Nat) (hn0 : 0 < n) (hn : n < 100) (tn : Tok) (c : Nat) (rest : List (Addr × Obj)) {params : Arguments} {body : List Stmt} {scope : Scope} {pos : Pos} {qual : Str} {doc pm ctv : Value}
    (hdef : in1Def = .FunctionDef "inner" params body [] none [] scope none "inner" pos)
    (hf : (f, fnMade "inner" qual params body scope [("n", cN), ("inner", cI), ("a_digits", cA)] doc pm c' ctv) ∈ rest) (hcode : TabHas qual c' rest)
    (hA : (cA, oA) ∈ rest) (dA : oA.data = .cell (some (.ref l))) (hI : (cI, oI) ∈ rest) (dI : oI.data = .cell (some (.ref f))) (hN : (cN, oN) ∈ rest) (dN : oN.data = .cell (some (.int n tn)))
    (hoff : OwnOff rest [l]) (k : Nat) (hk0 : 0 < k) : In1 w f l n c rest k := by
  induction k using Nat.strongRecOn with
  | _ k ih => exact in1_step w f l cA cI cN c' oA oI oN n hn0 hn tn c rest hdef hf hcode hA dA hI dI hN dN hoff k hk0 fun k' h h0 => ih k' h h0
end Mine
end
-- part B1
section
namespace Mine
noncomputable def in2Def : Stmt := nthS 0 (bodyOf (nthS 5 PySem.Challenge.pw_ul0011_01.main.body))
noncomputable def In2 (w : World) (f : Addr) (n : Nat) (rest : List (Addr × Obj)) (vs : List Value) (k : Nat) : Prop :=
  ∀ (A B C : List Int) (lo hi : Int) (tl th : Tok), IntsAre vs (A ++ B ++ C) → B.length = k → (∀ d ∈ B, 0 ≤ d ∧ d < 2 ^ 20) → lo = A.length → hi = A.length + k → A.length + k < 1000 →
    Ct w f (k + 1) [.int lo tl, .int hi th] rest (fun r news' => (∃ t, r = .int (dval n B) t) ∧ news' = rest)
section
set_option maxHeartbeats 8000000 in
theorem in2_step (w : World) (f l cA cI cN c' : Addr) (oA oI oN : Obj) (n : Nat) (hn : n < 100) (tn : Tok) (c : Nat) (vs : List Value) (rest : List (Addr × Obj)) {params : Arguments} {body : List Stmt} {scope : Scope} {pos : Pos} {qual : Str} {doc pm ctv : Value}
    (hdef : in2Def = .FunctionDef "inner" params body [] none [] scope none "inner" pos)
    (hf : (f, fnMade "inner" qual params body scope [("n", cN), ("inner", cI), ("digits", cA)] doc pm c' ctv) ∈ rest) (hcode : TabHas qual c' rest)
    (hl : (l, listOf vs.toArray c) ∈ rest)
    (hA : (cA, oA) ∈ rest) (dA : oA.data = .cell (some (.ref l))) (hI : (cI, oI) ∈ rest) (dI : oI.data = .cell (some (.ref f))) (hN : (cN, oN) ∈ rest) (dN : oN.data = .cell (some (.int n tn)))
    (k : Nat) (hk0 : 0 < k) (IH : ∀ k' < k, 0 < k' → In2 w f n rest vs k') : In2 w f n rest vs k := by
  unfold in2Def at hdef
  delta PySem.Challenge.pw_ul0011_01 at hdef
  simp only [nthS, bodyOf] at hdef
  obtain ⟨-, h3, h4, -, -, -, h5, -, -, h6⟩ := Stmt.FunctionDef.inj hdef
  clear hdef
  subst h3 h4 h5 h6
  intro A B C lo hi tl th hi0 hB hBd hlo hhi hlen
  intro p loose mean mg mb dp un gd cn cs a' ccd cl outer A₀ base h₀ L m s Q E Bl F X N T hk hd hu hret
  have hMk : KstMark := kstMark
  have hC : CodeHd h₀ 41 37 := codeHd_of_K X (by kernel_rfl)
  obtain ⟨oc, cvs, ct, hoc, hcd, hcv⟩ := hcode
  have hL : (A ++ B ++ C).length = A.length + k + C.length := by rw [List.length_append, List.length_append, hB]
  refine wpAny_call ?_
  k_dflt (refine' code_nest ?k1 ?k2 ?k3 ?k4 ?k5 ?kA ?kF ?kK ?k6 ?k7 ?k8 ?k9 ?kB ?_ ?c2 ?c3 ?c4 ?c5; (case kA => exact rfl); (case kF => exact rfl); (case kK => first | exact rfl | assumption); (case k1 => k_asm); (case k2 => k_asm); (case k3 => k_asm); (case k4 => k_asm); (case k5 => k_asm); (case k6 => exact hf); (case k7 => exact codeRec_news N hoc hcd hcv); (case k8 => ktr_room); (case k9 => exact BindsTo.of_eq rfl); (case c5 => decide); (case kB => exact locs rfl); (case c2 => exact rfl); (case c3 => exact rfl); (case c4 => exact rfl); k_whole)
  intro g1 L1 hp1 FG1 F1 N1 B1 X1 T1'
  (try dsimp only)
  (try k_fold)
  k_steps
  · have hk1 : k = 1 := hv_one hlo hhi (by assumption)
    subst hk1
    obtain ⟨b, rfl⟩ : ∃ b, B = [b] := List.length_eq_one_iff.mp hB
    have e : lo.toNat = A.length := toNat_of hlo
    rw [e, getD_mid]
    have e2 : b = dval n [b] := by simp [dval]
    rw [e2]
    exact hret _ _ _ _ ⟨⟨_, rfl⟩, rfl⟩ (by assumption) (by assumption)
  · obtain ⟨h, hh⟩ : ∃ h, h = k / 2 := ⟨_, rfl⟩
    have hh0 : 0 < h := hv_pos hlo hhi (by assumption) hk0 hh
    have hhk : h < k := hv_lt hh hk0
    have hkh : k - h < k := Nat.sub_lt hk0 hh0
    have hk2 : 0 < k - h := Nat.sub_pos_of_lt hhk
    have hmid : (lo + hi).fdiv (2 ^ Int.toNat 1) = ((A.length + h : Nat) : Int) := by
      rw [fdiv_pos_pow]
      exact hv_mid hlo hhi hh
    have hsh : (((A.length + h : Nat) : Int) - lo) * (n : Int) = ((h * n : Nat) : Int) := hv_sh hlo
    refine Stop.mk (rshift_int (by decide) ?_)
    rw [hmid]
    k_steps
    refine Stop.mk (mul_int ?_)
    rw [hsh]
    k_steps
    have hBs : B.take h ++ B.drop h = B := List.take_append_drop h B
    have hB1 : (B.take h).length = h := List.length_take_of_le (hB ▸ Nat.le_of_lt hhk)
    have hB2 : (B.drop h).length = k - h := by rw [List.length_drop, hB]
    have hBd1 : ∀ d ∈ B.take h, 0 ≤ d ∧ d < 2 ^ 20 := fun d hd => hBd d (List.mem_of_mem_take hd)
    have hBd2 : ∀ d ∈ B.drop h, 0 ≤ d ∧ d < 2 ^ 20 := fun d hd => hBd d (List.mem_of_mem_drop hd)
    have hi1 : IntsAre vs (A ++ B.take h ++ (B.drop h ++ C)) := by
      rw [← hBs] at hi0
      simpa only [List.append_assoc] using hi0
    have hi2 : IntsAre vs ((A ++ B.take h) ++ B.drop h ++ C) := by simpa only [List.append_assoc] using hi1
    have hA2 : (A ++ B.take h).length = A.length + h := by rw [List.length_append, hB1]
    refine' Stop.mk (ct_use (IH (k - h) hkh hk2 (A ++ B.take h) (B.drop h) C _ _ _ _ hi2 hB2 hBd2 (by rw [hA2]) (hv_hi hhi hhk hA2) (hv_len hlen hhk hA2)) ?k1 ?k2 ?k3 ?k4 ?k5 ?k6 ?k7 ?k8 ?_)
    case k1 => k_asm
    case k2 => k_asm
    case k3 => k_asm
    case k4 => k_asm
    case k5 => k_asm
    case k6 => exact rfl
    case k7 => ktr_room
    case k8 => ktr_units
    rintro r news' h' tk' ⟨⟨t3, rfl⟩, rfl⟩ F3 N3
    k_steps
    have hk1000 : k ≤ 1000 := Nat.le_of_lt (Nat.lt_of_le_of_lt (Nat.le_add_left _ _) hlen)
    have hbits := dval_bits n (B.drop h) hBd2
    have hkn : (B.drop h).length * (n + 1) ≤ 1000 * 100 := Nat.mul_le_mul (hB2 ▸ Nat.le_of_lt (Nat.lt_of_lt_of_le hkh hk1000)) hn
    have hhn : h * n ≤ 1000 * 100 := Nat.mul_le_mul (Nat.le_of_lt (Nat.lt_of_lt_of_le hhk hk1000)) (Nat.le_of_lt hn)
    refine Stop.mk (lshift_int (Int.natCast_nonneg _) (by omega) ?_)
    rw [Int.toNat_natCast]
    k_steps
    refine' Stop.mk (ct_use (IH h hhk hh0 A (B.take h) (B.drop h ++ C) _ _ _ _ hi1 hB1 hBd1 hlo (Int.natCast_add _ _) (Nat.lt_trans (Nat.add_lt_add_left hhk _) hlen)) ?k1 ?k2 ?k3 ?k4 ?k5 ?k6 ?k7 ?k8 ?_)
    case k1 => k_asm
    case k2 => k_asm
    case k3 => k_asm
    case k4 => k_asm
    case k5 => k_asm
    case k6 => exact rfl
    case k7 => ktr_room
    case k8 => ktr_units
    rintro r news' h' tk' ⟨⟨t4, rfl⟩, rfl⟩ F4 N4
    k_steps
    have e : dval n (B.drop h) * 2 ^ (h * n) + dval n (B.take h) = dval n B := by
      have e1 := dval_append n (B.take h) (B.drop h)
      rw [hBs, hB1] at e1
      rw [e1, Int.mul_comm, Int.add_comm]
    rw [e]
    exact hret _ _ _ _ ⟨⟨_, rfl⟩, rfl⟩ (by assumption) (by assumption)
end
theorem in2_all (w : World) (f l cA cI cN c' : Addr) (oA oI oN : Obj) (n : Nat) (hn : n < 100) (tn : Tok) (c : Nat) (vs : List Value) (rest : List (Addr × Obj)) {params : Arguments} {body : List Stmt} {scope : Scope} {pos : Pos} {qual : Str} {doc pm ctv : Value}
    (hdef : in2Def = .FunctionDef "inner" params body [] none [] scope none "inner" pos)
    (hf : (f, fnMade "inner" qual params body scope [("n", cN), ("inner", cI), ("digits", cA)] doc pm c' ctv) ∈ rest) (hcode : TabHas qual c' rest)
    (hl : (l, listOf vs.toArray c) ∈ rest)
    (hA : (cA, oA) ∈ rest) (dA : oA.data = .cell (some (.ref l))) (hI : (cI, oI) ∈ rest) (dI : oI.data = .cell (some (.ref f))) (hN : (cN, oN) ∈ rest) (dN : oN.data = .cell (some (.int n tn)))
    (k : Nat) (hk0 : 0 < k) : In2 w f n rest vs k := by
  induction k using Nat.strongRecOn with
  | _ k ih => exact in2_step w f l cA cI cN c' oA oI oN n hn tn c vs rest hdef hf hcode hl hA dA hI dI hN dN k hk0 fun k' h h0 => ih k' h h0
end Mine
end
end

-- these parts walk by the same lines
section
local macro_rules | `(tactic| k_updF) => `(tactic| first | exact Mine.UpdT.head | (refine' Mine.UpdT.tail ?ub; (case ub => k_updF)))
local macro_rules | `(tactic| walk_at "call ref") => `(tactic| refine Mine.stop_here ?_)
-- part A1
section
namespace Mine
section
set_option maxHeartbeats 8000000 in
theorem c_i2d (w : World) (a : Int) (n : Nat) (ta tn : Tok) (ha : 0 < a) (ha2 : a < 2^40) (hn : 0 < n) (hn2 : n < 100) (d : Nat) (hdd : (((Builtin.Int.intBits a : Nat) : Int) + n - 1).fdiv n = (d : Int)) (hd0 : 0 < d) (hd8 : d ≤ 100) (hnd : n * d ≤ 1000) (T1 news : List (Addr × Obj)) (hT1 : TabSt 30 32 4 q1 T1) (hoff : OwnOff news [30]) :
    Ct w 35 (d + 3) [.int a ta, .int (n : Int) tn] (T1 ++ news) (fun r news' => ∃ (D : Addr) (vs : List Value) (T2 : List (Addr × Obj)), r = .ref D ∧ TabSt 30 32 4 q1 T2 ∧ IntsAre vs (digs n d a) ∧ news' = (D, listOf vs.toArray 0) :: (T2 ++ news) ∧ (∀ p ∈ T2 ++ news, p.1 ≠ D) ∧ (∀ p ∈ T1 ++ news, p.1 < D) ∧ OffK news T1 T2) := by
  have hF := kfill
  revert hF
  k_fill
  intro hF
  clear hF
  intro p loose mean mg mb dp un gd cn cs a' ccd cl outer A₀ base h₀ L m s Q E B F X N T hk hd hu hret
  have hMk : KstMark := kstMark
  refine wpAny_call ?_
  k_dflt (refine' code_defC ?k1 ?k2 ?k3 ?k4 ?k5 ?kA ?kF ?kK ?k6 ?k7 ?k8 ?k9 ?kB ?kD ?_ ?c2 ?c3 ?c4; (case kA => exact rfl); (case kF => exact rfl); (case kK => first | exact rfl | assumption); (case k1 => k_asm); (case k2 => k_asm); (case k3 => k_asm); (case k4 => k_asm); (case k5 => k_asm); (case k6 => k_is); (case k7 => k_is); (case k8 => ktr_room); (case k9 => exact BindsTo.of_eq rfl); (case kB => exact rfl); (case kD => decide +kernel); (case c2 => exact rfl); (case c3 => exact rfl); (case c4 => exact rfl); k_whole)
  intro g1 L1 hp1 tk1 cells1 FG1 F1 N1 Y1 B1 X1 T1' l1
  have l1a := Mine.lt_up1 l1
  have l1b := Mine.lt_up1 l1a
  have l1c := Mine.lt_up1 l1b
  k_cells Y1
  (try simp only [List.cons_append, List.nil_append] at N1)
  (try dsimp only)
  (try k_fold)
  have h30 := hT1.below l1
  have hC : CodeHd g1 34 30 := codeHd_of_K X1 (by kernel_rfl)
  have ha0 : a ≠ 0 := by omega
  k_steps
  rename_i D _ i1 n1 s1 e1 e2 e3 l4 h4 o4 F4 N4 d4
  refine nestDef_K rfl rfl rfl ?_
  refine' nest_U ?F ?N ?T ?C ?cd hT1 ?U ?hP ?cl ?_
  case F => k_asm
  case N => k_asm
  case T => k_asm
  case cd => exact rfl
  case C => exact codeHd_of_K (K := Mine.heap w.params) (by k_asm) (by kernel_rfl)
  case U => k_updF
  case cl => exact rfl
  case hP => dsimp only [List.nil_append]; k_all
  intro f c' T2 ctv doc hp tk hT2 hc2 F2 N2 l2 l3
  dsimp only at N2 l2 l3 ⊢
  k_lt l2
  have hT2o := l3 [D, L1 + 1 + 1 + 1, L1 + 1 + 1, L1 + 1] (by
    intro b hb
    simp only [List.mem_cons, List.not_mem_nil, or_false] at hb
    rcases hb with rfl | rfl | rfl | rfl
    · exact ⟨_, by k_mem⟩
    · exact ⟨_, by k_mem⟩
    · exact ⟨_, by k_mem⟩
    · exact ⟨_, by k_mem⟩) (by
    intro p hp b hb
    have h9 := ltN (l1 p (List.mem_append_left _ hp))
    simp only [List.mem_cons, List.not_mem_nil, or_false] at hb
    rcases hb with rfl | rfl | rfl | rfl <;> refine neN ?_ <;> omega)
  k_steps
  · have hdn : ((((Builtin.Int.intBits a : Nat) : Int) + n - 1).fdiv n).toNat = d := by rw [hdd]; exact Int.toNat_natCast d
    have hBl : (List.replicate ((((Builtin.Int.intBits a : Nat) : Int) + n - 1).fdiv n).toNat [(0 : Int)]).flatten.length = d := by
      rw [lm_len_rep_flat, hdn]
      exact Nat.mul_one d
    have hi1 : IntsAre (List.replicate ((((Builtin.Int.intBits a : Nat) : Int) + n - 1).fdiv n).toNat [Value.int 0 tk1]).flatten ([] ++ (List.replicate ((((Builtin.Int.intBits a : Nat) : Int) + n - 1).fdiv n).toNat [(0 : Int)]).flatten ++ []) := by
      simpa only [List.nil_append, List.append_nil] using i1
    rename News g1 L1 _ _ => N9
    have N9' := news_swap N9
    refine' Stop.mk (ct_use (in1_all w f D (L1 + 1 + 1) (L1 + 1 + 1 + 1) (L1 + 1) c' _ _ _ n hn hn2 tn 0 _ ?hdef ?hf ?hcode ?hA d4 ?hI ?dI ?hN ?dN ?hoff d hd0 [] _ [] a 0 _ ta _ _ _ hi1 hBl (by omega) ha2 rfl ?hhi ?hlen hnd) ?k1 ?k2 ?k3 ?k4 ?k5 ?k6 ?k7 ?k8 ?_)
    case k4 => exact N9'
    case hf => exact List.Mem.head _
    case hdef => exact rfl
    case hcode => exact hc2.sub (fun p hp => by simp only [List.mem_cons, List.mem_append]; simp only [hp, true_or, or_true])
    case hA => k_mem
    case hI => k_mem
    case hN => k_mem
    case dI => assumption
    case dN => assumption
    case hoff => exact ownOff_one (by k_all)
    case hhi => rw [hBl]; simp
    case hlen => simp; omega
    case k1 => k_asm
    case k2 => k_asm
    case k3 => k_asm
    case k5 => k_asm
    case k6 => exact rfl
    case k7 => ktr_room
    case k8 => ktr_units
    rintro r news' h' tk' ⟨rfl, vs1, rfl, hi2⟩ F3 N3
    k_steps
    refine hret _ _ _ _ ⟨D, vs1, T2, rfl, hT2, by simpa only [List.nil_append, List.append_nil] using hi2, rfl, ?_, ?_, ?_⟩ (by assumption) ?_
    · k_all
    · exact fun p hp => ktn_ltOf l4.2.2.2.2 p hp
    · exact fun adr hadr ho => l3 adr (fun b hb => by
        obtain ⟨o, h9⟩ := hadr b hb
        exact ⟨o, by simp only [List.nil_append, List.mem_cons, h9, or_true]⟩) ho
    · rename News h₀ L _ _ => N8
      exact cb_drop N8 (fun p hp => by
        rcases List.mem_cons.mp hp with rfl | hp
        · exact List.Mem.head _
        · simp only [List.mem_cons, hp, or_true])
  · exfalso; omega
end
end Mine
end
-- part B2
section
namespace Mine
section
set_option maxHeartbeats 8000000 in
theorem c_d2i (w : World) (l : Addr) (c : Nat) (vs : List Value) (ds : List Int) (n : Nat) (tn : Tok) (hi : IntsAre vs ds) (hd0 : 0 < ds.length) (hd8 : ds.length ≤ 100) (hn : n < 100) (hds : ∀ d ∈ ds, 0 ≤ d ∧ d < 2 ^ 20) (T1 news : List (Addr × Obj)) (hT1 : TabSt 37 47 4 q2 T1) (hoff : OwnOff news [37]) (hl : (l, listOf vs.toArray c) ∈ news) :
    Ct w 42 (ds.length + 3) [.ref l, .int (n : Int) tn] (T1 ++ news) (fun r news' => ∃ (t : Tok) (T2 : List (Addr × Obj)), r = .int (dval n ds) t ∧ TabSt 37 47 4 q2 T2 ∧ news' = T2 ++ news ∧ OffK news T1 T2) := by
  have hF := kfill
  revert hF
  k_fill
  intro hF
  clear hF
  intro p loose mean mg mb dp un gd cn cs a' ccd cl outer A₀ base h₀ L m s Q E B F X N T hk hd hu hret
  have hMk : KstMark := kstMark
  have hlm : (l, listOf vs.toArray c) ∈ T1 ++ news := List.mem_append_right _ hl
  refine wpAny_call ?_
  k_dflt (refine' code_defC ?k1 ?k2 ?k3 ?k4 ?k5 ?kA ?kF ?kK ?k6 ?k7 ?k8 ?k9 ?kB ?kD ?_ ?c2 ?c3 ?c4; (case kA => exact rfl); (case kF => exact rfl); (case kK => first | exact rfl | assumption); (case k1 => k_asm); (case k2 => k_asm); (case k3 => k_asm); (case k4 => k_asm); (case k5 => k_asm); (case k6 => k_is); (case k7 => k_is); (case k8 => ktr_room); (case k9 => exact BindsTo.of_eq rfl); (case kB => exact rfl); (case kD => decide +kernel); (case c2 => exact rfl); (case c3 => exact rfl); (case c4 => exact rfl); k_whole)
  intro g1 L1 hp1 tk1 cells1 FG1 F1 N1 Y1 B1 X1 T1' l1
  have l1a := Mine.lt_up1 l1
  have l1b := Mine.lt_up1 l1a
  have l1c := Mine.lt_up1 l1b
  k_cells Y1
  (try simp only [List.cons_append, List.nil_append] at N1)
  (try dsimp only)
  (try k_fold)
  have h30 := hT1.below l1
  have hC : CodeHd g1 41 37 := codeHd_of_K X1 (by kernel_rfl)
  k_steps
  refine nestDef_K rfl rfl rfl ?_
  refine' nest_U ?F ?N ?T ?C ?cd hT1 ?U ?hP ?cl ?_
  case F => k_asm
  case N => k_asm
  case T => k_asm
  case cd => exact rfl
  case C => exact codeHd_of_K (K := Mine.heap w.params) (by k_asm) (by kernel_rfl)
  case U => k_updF
  case cl => exact rfl
  case hP => dsimp only [List.nil_append]; k_all
  intro f c' T2 ctv doc hp tk hT2 hc2 F2 N2 l2 l3
  dsimp only at N2 l2 l3 ⊢
  k_lt l2
  have hT2o := l3 [L1 + 1 + 1 + 1, L1 + 1 + 1, L1 + 1] (by
    intro b hb
    simp only [List.mem_cons, List.not_mem_nil, or_false] at hb
    rcases hb with rfl | rfl | rfl
    · exact ⟨_, by k_mem⟩
    · exact ⟨_, by k_mem⟩
    · exact ⟨_, by k_mem⟩) (by
    intro p hp b hb
    have h9 := ltN (l1 p (List.mem_append_left _ hp))
    simp only [List.mem_cons, List.not_mem_nil, or_false] at hb
    rcases hb with rfl | rfl | rfl <;> refine neN ?_ <;> omega)
  have hlm2 : (l, listOf vs.toArray c) ∈ T2 ++ news := List.mem_append_right _ hl
  k_steps
  rename News g1 L1 _ _ => N9
  have hvl : vs.length = ds.length := hi.length
  have hvz : vs.toArray.isEmpty = false := by
    cases vs with
    | nil => simp at hvl; omega
    | cons _ _ => rfl
  refine wpAny_truthy_list (items := vs.toArray) (PySem.IsL.isList (n := c) (N9 (l, listOf vs.toArray c) (by k_mem)).1) (by rw [List.size_toArray]; omega) ?_
  rw [hvz]
  k_steps
  refine kst_len N9 (List.Mem.tail _ (List.Mem.tail _ (List.Mem.tail _ (List.Mem.tail _ hlm2)))) hvl (by omega) ?_
  k_steps
  have hi1 : IntsAre vs ([] ++ ds ++ []) := by simpa only [List.nil_append, List.append_nil] using hi
  refine' Stop.mk (ct_use (in2_all w f l (L1 + 1) (L1 + 1 + 1 + 1) (L1 + 1 + 1) c' _ _ _ n hn tn c vs _ ?hdef ?hf ?hcode ?hl ?hA ?dA ?hI ?dI ?hN ?dN ds.length hd0 [] ds [] 0 _ _ _ hi1 rfl hds rfl ?hhi ?hlen) ?k1 ?k2 ?k3 ?k4 ?k5 ?k6 ?k7 ?k8 ?_)
  case k4 => exact N9
  case hf => exact List.Mem.head _
  case hdef => exact rfl
  case hcode => exact hc2.sub (fun p hp => by simp only [List.mem_cons, List.mem_append]; simp only [hp, true_or, or_true])
  case hl => exact (List.Mem.tail _ (List.Mem.tail _ (List.Mem.tail _ (List.Mem.tail _ hlm2))))
  case hA => k_mem
  case hI => k_mem
  case hN => k_mem
  case dA => assumption
  case dI => assumption
  case dN => assumption
  case hhi => simp
  case hlen => simp; omega
  case k1 => k_asm
  case k2 => k_asm
  case k3 => k_asm
  case k5 => k_asm
  case k6 => exact rfl
  case k7 => ktr_room
  case k8 => ktr_units
  rintro r news' h' tk' ⟨⟨t3, rfl⟩, rfl⟩ F3 N3
  k_steps
  refine hret _ _ _ _ ⟨_, T2, rfl, hT2, rfl, ?_⟩ (by assumption) ?_
  · exact fun adr hadr ho => l3 adr (fun b hb => by
      obtain ⟨o, h9⟩ := hadr b hb
      exact ⟨o, by simp only [List.nil_append, List.mem_cons, h9, or_true]⟩) ho
  · rename News h₀ L _ _ => N8
    exact cb_drop N8 (fun p hp => by simp only [List.mem_cons, hp, or_true])
end
end Mine
end
end

-- part C1
section
namespace Mine
set_option maxHeartbeats 8000000 in
theorem c_div (w : World) (a b n : Int) (ta tb tn : Tok) (ha : 0 ≤ a) (ha2 : a < 2 ^ 40) (hb : 0 < b) (hb2 : b < 2 ^ 20) (h4 : ((Builtin.Int.intBits a : Nat) : Int) - n ≤ 4000) (news : List (Addr × Obj)) :
    Ct w 21 2 [.int a ta, .int b tb, .int n tn] news (fun r news' => ∃ (x : Addr) (t1 t2 : Tok) (c : Nat), r = .ref x ∧ news' = (x, tup2 (.int (a / b) t1) (.int (a % b) t2) c) :: news ∧ ∀ p ∈ news, p.1 < x) := by
  have hF := kfill
  revert hF
  k_fill
  intro hF
  clear hF
  intro p loose mean mg mb dp un gd cn cs a' ccd cl outer A₀ base h₀ L m s Q E B F X N T hk hd hu hret
  have hMk : KstMark := kstMark
  refine wpAny_call ?_
  k_dflt (refine' code_def ?k1 ?k2 ?k3 ?k4 ?k5 ?kA ?kF ?kK ?k6 ?k7 ?k8 ?k9 ?kB ?_ ?c2 ?c3 ?c4 ?c5; (case kA => exact rfl); (case kF => exact rfl); (case kK => first | exact rfl | assumption); (case k1 => k_asm); (case k2 => k_asm); (case k3 => k_asm); (case k4 => k_asm); (case k5 => k_asm); (case k6 => k_is); (case k7 => k_is); (case k8 => ktr_room); (case k9 => exact BindsTo.of_eq rfl); (case c5 => decide); (case kB => exact locs rfl); (case c2 => exact rfl); (case c3 => exact rfl); (case c4 => exact rfl); k_whole)
  intro g1 L1 hp1 FG1 F1 N1 B1 X1 T1'
  (try dsimp only)
  (try k_fold)
  have e1 : a.fdiv b = a / b := Int.fdiv_eq_ediv_of_nonneg a (Int.le_of_lt hb)
  have e2 : a.fmod b = a % b := Int.fmod_eq_emod_of_nonneg a (Int.le_of_lt hb)
  have hlt : ∀ p ∈ news, p.1 < hp1.objs.size := fun p hp => Heap.lt_size (N1 p hp).1
  have hlt2 : ∀ p ∈ news, p.1 < hp1.objs.size := hlt
  k_steps
  · rename News h₀ L _ _ => N8
    simp only [e1, e2] at N8
    exact hret _ _ _ _ ⟨_, _, _, _, rfl, rfl, hlt2⟩ (by assumption) N8
  all_goals exfalso; omega
end Mine
end

-- these parts walk by the same lines
section
local macro_rules | `(tactic| walk_at "newTuple") => `(tactic| refine Mine.stop_here ?_)
local macro_rules | `(tactic| walk_at "call ref") => `(tactic| refine Mine.stop_here ?_)
-- part C2
section
namespace Mine
section
set_option maxHeartbeats 8000000 in
theorem c_dmp (w : World) (a b : Int) (ta tb : Tok) (ha : 0 < a) (ha2 : a < 2 ^ 17) (hb : 2 ≤ b) (hb2 : b < 2 ^ 9) (T1 T2 news : List (Addr × Obj)) (hT1 : TabSt 30 32 4 q1 T1) (hT2 : TabSt 37 47 4 q2 T2) (hoff : OwnOff news [30, 37]) (hoff1 : OwnOff T1 [37]) (hoff2 : OwnOff T2 [30]) :
    Ct w 49 30 [.int a ta, .int b tb] (T1 ++ (T2 ++ news)) (fun r news' => ∃ (x : Addr) (t1 t2 : Tok) (c : Nat) (T1' T2' : List (Addr × Obj)), r = .ref x ∧ news' = (x, tup2 (.int (a / b) t1) (.int (a % b) t2) c) :: (T1' ++ (T2' ++ news)) ∧ TabSt 30 32 4 q1 T1' ∧ TabSt 37 47 4 q2 T2' ∧ OwnOff T1' [37] ∧ OwnOff T2' [30] ∧ OffK news T1 T1' ∧ OffK news T2 T2' ∧ ∀ p ∈ T1' ++ (T2' ++ news), p.1 < x) := by
  have hF := kfill
  revert hF
  k_fill
  intro hF
  clear hF
  intro p loose mean mg mb dp un gd cn cs a' ccd cl outer A₀ base h₀ L m s Q E B F X N T hk hd hu hret
  have hMk : KstMark := kstMark
  refine wpAny_call ?_
  k_dflt (refine' code_def ?k1 ?k2 ?k3 ?k4 ?k5 ?kA ?kF ?kK ?k6 ?k7 ?k8 ?k9 ?kB ?_ ?c2 ?c3 ?c4 ?c5; (case kA => exact rfl); (case kF => exact rfl); (case kK => first | exact rfl | assumption); (case k1 => k_asm); (case k2 => k_asm); (case k3 => k_asm); (case k4 => k_asm); (case k5 => k_asm); (case k6 => k_is); (case k7 => k_is); (case k8 => ktr_room); (case k9 => exact BindsTo.of_eq rfl); (case c5 => decide); (case kB => exact locs rfl); (case c2 => exact rfl); (case c3 => exact rfl); (case c4 => exact rfl); k_whole)
  intro g1 L1 hp1 FG1 F1 N1 B1 X1 T1'
  (try dsimp only)
  (try k_fold)
  obtain ⟨n, hn⟩ : ∃ n, n = Builtin.Int.intBits b := ⟨_, rfl⟩
  have hn9 : n ≤ 9 := by rw [hn, intBits_le_iff]; omega
  have hn2 : 2 ≤ n := by
    rcases Nat.lt_or_ge n 2 with h | h
    · have h2 : Builtin.Int.intBits b ≤ 1 := by omega
      rw [intBits_le_iff] at h2
      omega
    · exact h
  have ha9 : Builtin.Int.intBits a ≤ 17 := by rw [intBits_le_iff]; omega
  have ha1 : 1 ≤ Builtin.Int.intBits a := by
    rcases Nat.lt_or_ge (Builtin.Int.intBits a) 1 with h | h
    · have h2 : Builtin.Int.intBits a ≤ 0 := by omega
      rw [intBits_le_iff] at h2
      omega
    · exact h
  obtain ⟨d, hd⟩ : ∃ d, d = (Builtin.Int.intBits a + n - 1) / n := ⟨_, rfl⟩
  have hdd : (((Builtin.Int.intBits a : Nat) : Int) + (n : Int) - 1).fdiv n = (d : Int) := by
    rw [fdiv_nat, hd, Int.natCast_ediv]
    congr 1
    omega
  have hd0 : 0 < d := by
    rw [hd]; exact Nat.div_pos (by omega) (by omega)
  have hd1 : n * d ≤ 26 := by
    have := Nat.mul_div_le (Builtin.Int.intBits a + n - 1) n
    rw [← hd] at this
    omega
  have hd2 : d ≤ 26 := Nat.le_trans (Nat.le_mul_of_pos_left d (by omega)) hd1
  k_steps
  rw [← hn]
  refine' Stop.mk (ct_use (c_i2d w a n ta _ ha (by omega) (by omega) (by omega) d hdd hd0 (by omega) (by omega) T1 (T2 ++ news) hT1 ?hoff) ?k1 ?k2 ?k3 ?k4 ?k5 ?k6 ?k7 ?k8 ?_)
  case k1 => k_asm
  case k2 => k_asm
  case k3 => k_asm
  case k4 => k_asm
  case k5 => k_asm
  case k6 => exact rfl
  case k7 => ktr_room
  case k8 => ktr_units
  case hoff => exact OwnOff.app hoff2 (OwnOff.sub hoff fun b hb => by rw [List.mem_singleton.mp hb]; exact .head _)
  rintro r news' h' tk' ⟨D, vs, T3, rfl, hT3, hvs, rfl, hD1, hD2, hK3⟩ F3 N3
  clear hd hdd ha9 ha1
  k_steps
  rename_i lq h6 l6 h7 I h5 F5 N5 l5
  refine' rev_loop (I := I) (ax := D) (vs := vs) (ns := digs n d a) (n := 0) (σ := Int × Tok × List Int × List Value × Nat)
    (fun c => (lq, listOf c.2.2.2.1.toArray c.2.2.2.2) :: (D, listOf vs.toArray 0) :: (T3 ++ (T2 ++ news)))
    (fun c => [(Str.ofString "r", .int c.1 c.2.1)]) [Str.ofString "q_digit"]
    (fun pre c => IntsAre c.2.2.2.1 c.2.2.1 ∧ c.2.2.1.length = pre.length ∧ (∀ q ∈ c.2.2.1, 0 ≤ q ∧ q < 2 ^ 20) ∧ 0 ≤ c.1 ∧ c.1 < b ∧ mval n pre = b * mval n c.2.2.1 + c.1)
    (0, _, [], [], 0) ?hh F5 N5 ?off ?hlp hvs ?hk ?hp ?turn ?done
  case hh => exact rfl
  case hlp => exact fun c => List.Mem.tail _ (List.Mem.head _)
  case off => exact fun p hp => Nat.ne_of_lt (show p.1 < I from by
    rcases List.mem_cons.mp hp with rfl | hp
    · exact l5.1
    · rcases List.mem_cons.mp hp with rfl | hp
      · exact l5.2.1
      · exact ktn_ltOf l5.2.2 p hp)
  case hk => intro p hp; rcases List.mem_singleton.mp hp with rfl; exact rfl
  case hp => exact ⟨.nil, rfl, fun _ h => (nomatch h), Int.le_refl 0, by show (0:Int) < b; omega, by show (0:Int) = b * 0 + 0; omega⟩
  case turn =>
    rintro ⟨r, tr, qs, qvs, cq⟩ pre v post t u it h tk he ⟨hp1, hp2, hp3, hp4, hp5, hp6⟩ hit F N
    dsimp only at hp1 hp2 hp3 hp4 hp5 hp6
    have F : Fr g1 L1 h _ := F
    have N : News g1 L1 h ((I, it) :: (lq, listOf qvs.toArray cq) :: (D, listOf vs.toArray 0) :: (T3 ++ (T2 ++ news))) := N
    have hv : v ∈ digs n d a := by
      have : v ∈ (digs n d a).reverse := by rw [he]; simp
      exact List.mem_reverse.mp this
    have hv1 := digs_bound n (by omega) d a (by omega) (by omega) v hv
    have hqz : qs.length ≤ 26 := by
      have := congrArg List.length he
      rw [List.length_reverse, digs_len, List.length_append] at this
      omega
    k_steps
    have e1 : ((Builtin.Int.intBits b : Nat) : Int).toNat = n := by rw [← hn]; rfl
    have hp0 : (0 : Int) < 2 ^ n := two_pow_pos n
    have hp9 : (2 : Int) ^ n ≤ 2 ^ 9 := two_pow_le hn9
    have hr0 : 0 ≤ r * 2 ^ n := Int.mul_nonneg hp4 (Int.le_of_lt hp0)
    have hr1 : r * 2 ^ n ≤ (2 ^ 9) * (2 ^ 9) := Int.le_trans (Int.mul_le_mul_of_nonneg_left hp9 hp4) (Int.mul_le_mul_of_nonneg_right (by omega) (by decide))
    rw [e1]
    have hb9 : Builtin.Int.intBits (r * 2 ^ n + v) ≤ 40 := by rw [intBits_le_iff]; omega
    refine' Stop.mk (ct_use (c_div w (r * 2 ^ n + v) b _ _ _ _ (by omega) (by omega) (by omega) (by omega) (by omega) ((I, it) :: (lq, listOf qvs.toArray cq) :: (D, listOf vs.toArray 0) :: (T3 ++ (T2 ++ news)))) ?k1 ?k2 ?k3 ?k4 ?k5 ?k6 ?k7 ?k8 ?_)
    case k1 => k_asm
    case k2 => k_asm
    case k3 => k_asm
    case k4 => k_asm
    case k5 => k_asm
    case k6 => exact rfl
    case k7 => ktr_room
    case k8 => ktr_units
    rintro r' news' h' tk' ⟨x, t1, t2, c, rfl, rfl, hx⟩ F6 N6
    k_lt hx
    k_steps
    rename Fr g1 L1 _ _ => F9
    rename News g1 L1 _ _ => N9
    simp only [List.push_toArray] at N9
    have hx0 : 0 ≤ (r * 2 ^ n + v) / b := Int.ediv_nonneg (by omega) (by omega)
    have hx1 : (r * 2 ^ n + v) / b < 2 ^ 20 := by
      have := Int.mul_ediv_add_emod (r * 2 ^ n + v) b
      have h2 := Int.emod_nonneg (r * 2 ^ n + v) (show b ≠ 0 by omega)
      have h3 := Int.mul_le_mul_of_nonneg_right hb hx0
      omega
    refine unr_end ((r * 2 ^ n + v) % b, t2, qs ++ [(r * 2 ^ n + v) / b], qvs ++ [.int ((r * 2 ^ n + v) / b) t1], cq + 1) F9 N9 (.tail _ (.head _)) (fun p hp => .tail _ (.tail _ hp)) ?_ ?_ ?_ ⟨ints_push hp1, ?_, ?_, Int.emod_nonneg _ (by omega), Int.emod_lt_of_pos _ (by omega), ?_⟩
    · intro p hp
      refine Nat.ne_of_lt (show p.1 < I from ?_)
      rcases List.mem_cons.mp hp with rfl | hp
      · exact l5.1
      · rcases List.mem_cons.mp hp with rfl | hp
        · exact l5.2.1
        · exact ktn_ltOf l5.2.2 p hp
    · intro p hp; rcases List.mem_singleton.mp hp with rfl; exact rfl
    · intro z h1 h2 h3
      have h2' := h2 _ (List.Mem.head _)
      have h3' : z ≠ Str.ofString "q_digit" := by simpa using h3
      dsimp only at h2'
      simp only [kstB, if_neg h1, if_neg h2', if_neg h3', h3, Bool.false_eq_true, if_false]
    · show (qs ++ [_]).length = (pre ++ [v]).length
      rw [List.length_append, List.length_append, hp2]; rfl
    · intro q hq
      rcases List.mem_append.mp hq with hq | hq
      · exact hp3 q hq
      · rw [List.mem_singleton.mp hq]; exact ⟨hx0, hx1⟩
    · show mval n (pre ++ [v]) = b * mval n (qs ++ [_]) + _
      rw [mval_snoc, mval_snoc]
      exact div_step n b _ _ r v hp6
  case done =>
    rintro ⟨r, tr, qs, qvs, cq⟩ u h tk ⟨hp1, hp2, hp3, hp4, hp5, hp6⟩ F N
    dsimp only at hp1 hp2 hp3 hp4 hp5 hp6
    have F : Fr g1 L1 h _ := F
    have N : News g1 L1 h ((lq, listOf qvs.toArray cq) :: (D, listOf vs.toArray 0) :: (T3 ++ (T2 ++ news))) := N
    have hqz : qs.length = d := by rw [hp2, List.length_reverse, digs_len]
    rw [mval_rev, dval_digs n d a hd0] at hp6
    obtain ⟨eq, er⟩ := div_end (by omega) hp6 hp4 hp5
    have hqq := ints_reverse hp1
    k_steps
    have hqz2 : qvs.length ≤ 26 := by have := hp1.length; omega
    refine kl_reverse (its := qvs.toArray) (l := qvs.reverse) F N rfl (Upd.head (by k_all)) (Nat.le_trans hqz2 (by rw [sizeLine_eq]; decide)) ?_
    intro h7 F7 N7
    k_steps
    rename News g1 L1 _ _ => N9
    have hT3o : OwnOff T3 [37] := hK3 [37] (fun b hb => by
      rw [List.mem_singleton.mp hb]
      obtain ⟨o, ho⟩ := hT2.has
      exact ⟨o, List.mem_append_left _ ho⟩) hoff1
    have h37 := hT2.below (T1 := T2) (news := news) (d := D) (fun p hp => hD2 p (List.mem_append_right _ hp))
    have h30 := hT1.below hD2
    rw [← hn]
    have N9' : News g1 L1 _ (T2 ++ ((lq, listOf qvs.reverse.toArray cq) :: (D, listOf vs.toArray 0) :: (T3 ++ news))) := cb_drop N9 (fun p hp => by
      rcases List.mem_append.mp hp with hp | hp
      · exact .tail _ (.tail _ (List.mem_append_right _ (List.mem_append_left _ hp)))
      · rcases List.mem_cons.mp hp with rfl | hp
        · exact .head _
        · rcases List.mem_cons.mp hp with rfl | hp
          · exact .tail _ (.head _)
          · rcases List.mem_append.mp hp with hp | hp
            · exact .tail _ (.tail _ (List.mem_append_left _ hp))
            · exact .tail _ (.tail _ (List.mem_append_right _ (List.mem_append_right _ hp))))
    refine' Stop.mk (ct_use (c_d2i w lq cq qvs.reverse qs.reverse n _ hqq (by rw [List.length_reverse]; omega) (by rw [List.length_reverse]; omega) (by omega) (fun d hd => hp3 d (List.mem_reverse.mp hd)) T2 _ hT2 ?hoff (List.Mem.head _)) ?k1 ?k2 ?k3 ?k4 ?k5 ?k6 ?k7 ?k8 ?_)
    case k1 => k_asm
    case k2 => k_asm
    case k3 => k_asm
    case k4 => exact N9'
    case k5 => k_asm
    case k6 => exact rfl
    case k7 => rw [List.length_reverse]; ktr_room
    case k8 => rw [List.length_reverse]; ktr_units
    case hoff =>
      intro p hp b hb
      rw [List.mem_singleton.mp hb]
      rcases List.mem_cons.mp hp with rfl | hp
      · exact neN (by dsimp only; omega)
      · rcases List.mem_cons.mp hp with rfl | hp
        · exact neN (by dsimp only; omega)
        · exact OwnOff.app hT3o (OwnOff.sub hoff fun b hb => by rw [List.mem_singleton.mp hb]; exact .tail _ (.head _)) p hp 37 (.head _)
    rintro r' news' h' tk' ⟨t3, T4, rfl, hT4, rfl, hK4⟩ F6 N6
    rw [← mval_eq, eq]
    k_steps
    rename Fr g1 L1 _ _ => F9
    rename News g1 L1 _ _ => N9
    refine Stop.mk (newTuple_L F9 N9 ?_)
    intro x h9 F8 N8 l8
    k_steps
    rename News h₀ L _ _ => N7
    rw [er] at N7
    have hm : ∀ p ∈ T3 ++ (T4 ++ news), p ∈ T4 ++ ((lq, listOf qvs.reverse.toArray cq) :: (D, listOf vs.toArray 0) :: (T3 ++ news)) := fun p hp => by
      rcases List.mem_append.mp hp with hp | hp
      · exact List.mem_append_right _ (.tail _ (.tail _ (List.mem_append_left _ hp)))
      · rcases List.mem_append.mp hp with hp | hp
        · exact List.mem_append_left _ hp
        · exact List.mem_append_right _ (.tail _ (.tail _ (List.mem_append_right _ hp)))
    refine hret _ _ _ _ ⟨x, t3, tr, 0, T3, T4, rfl, rfl, hT3, hT4, hT3o, ?_, ?_, ?_, fun p hp => l8 p (hm p hp)⟩ (by assumption) (cb_drop N7 fun p hp => ?_)
    · exact hK4 [30] (fun b hb => by
        rw [List.mem_singleton.mp hb]
        obtain ⟨o, ho⟩ := hT3.has
        exact ⟨o, .tail _ (.tail _ (List.mem_append_left _ ho))⟩) hoff2
    · exact fun adr ha ho => hK3 adr (fun b hb => by
        obtain ⟨o, h⟩ := ha b hb
        exact ⟨o, List.mem_append_right _ h⟩) ho
    · exact fun adr ha ho => hK4 adr (fun b hb => by
        obtain ⟨o, h⟩ := ha b hb
        exact ⟨o, .tail _ (.tail _ (List.mem_append_right _ h))⟩) ho
    · rcases List.mem_cons.mp hp with rfl | hp
      · exact .head _
      · exact .tail _ (hm p hp)
end
end Mine
end
-- part C3
section
namespace Mine
noncomputable def Tabs (TT : List (Addr × Obj)) : Prop := ∃ T1 T2, TT = T1 ++ T2 ∧ TabSt 30 32 4 q1 T1 ∧ TabSt 37 47 4 q2 T2 ∧ OwnOff T1 [37] ∧ OwnOff T2 [30]
noncomputable def PairPost (q r : Int) (TT news : List (Addr × Obj)) (v : Value) (news' : List (Addr × Obj)) : Prop :=
  ∃ (x : Addr) (t1 t2 : Tok) (c : Nat) (TT' : List (Addr × Obj)), v = .ref x ∧ news' = (x, tup2 (.int q t1) (.int r t2) c) :: (TT' ++ news) ∧ Tabs TT' ∧ OffK news TT TT' ∧ ∀ p ∈ TT' ++ news, p.1 < x
noncomputable def Idm (w : World) (D : Nat) (a b q r : Int) : Prop :=
  ∀ (ta tb : Tok) (TT news : List (Addr × Obj)), Tabs TT → OwnOff news [30, 37] → Ct w 56 D [.int a ta, .int b tb] (TT ++ news) (PairPost q r TT news)
section
set_option maxHeartbeats 8000000 in
theorem idm_p (w : World) (a b : Int) (ha : 0 < a) (ha2 : a < 2 ^ 17) (hb : 2 ≤ b) (hb2 : b < 2 ^ 9) : Idm w 32 a b (a / b) (a % b) := by
  rintro ta tb TT news ⟨T1, T2, rfl, hT1, hT2, ho1, ho2⟩ hoff
  have hF := kfill
  revert hF
  k_fill
  intro hF
  clear hF
  intro p loose mean mg mb dp un gd cn cs a' ccd cl outer A₀ base h₀ L m s Q E B F X N T hk hd hu hret
  have hMk : KstMark := kstMark
  refine wpAny_call ?_
  k_dflt (refine' code_def ?k1 ?k2 ?k3 ?k4 ?k5 ?kA ?kF ?kK ?k6 ?k7 ?k8 ?k9 ?kB ?_ ?c2 ?c3 ?c4 ?c5; (case kA => exact rfl); (case kF => exact rfl); (case kK => first | exact rfl | assumption); (case k1 => k_asm); (case k2 => k_asm); (case k3 => k_asm); (case k4 => k_asm); (case k5 => k_asm); (case k6 => k_is); (case k7 => k_is); (case k8 => ktr_room); (case k9 => exact BindsTo.of_eq rfl); (case c5 => decide); (case kB => exact locs rfl); (case c2 => exact rfl); (case c3 => exact rfl); (case c4 => exact rfl); k_whole)
  intro g1 L1 hp1 FG1 F1 N1 B1 X1 T1'
  (try dsimp only)
  (try k_fold)
  have hb0 : b ≠ 0 := by omega
  have hbn : ¬ b < 0 := by omega
  have han : ¬ a < 0 := by omega
  k_steps
  · exfalso; omega
  · refine' Stop.mk (ct_use (c_dmp w a b ta tb ha ha2 hb hb2 T1 T2 news hT1 hT2 hoff ho1 ho2) ?k1 ?k2 ?k3 ?k4 ?k5 ?k6 ?k7 ?k8 ?_)
    case k4 => rw [← List.append_assoc]; k_asm
    case k1 => k_asm
    case k2 => k_asm
    case k3 => k_asm
    case k5 => k_asm
    case k6 => exact rfl
    case k7 => ktr_room
    case k8 => ktr_units
    rintro r' news' h' tk' ⟨x, t1, t2, c, T3, T4, rfl, rfl, h3, h4, h5, h6, h7, h8, h9⟩ F6 N6
    rw [← List.append_assoc] at N6 h9
    k_steps
    exact hret _ _ _ _ ⟨x, t1, t2, c, T3 ++ T4, rfl, rfl, ⟨T3, T4, rfl, h3, h4, h5, h6⟩, fun adr ha ho => OwnOff.app (h7 adr ha fun p hp => ho p (List.mem_append_left _ hp)) (h8 adr ha fun p hp => ho p (List.mem_append_right _ hp)), h9⟩ (by assumption) (by assumption)
set_option maxHeartbeats 8000000 in
theorem idm_n (w : World) (D : Nat) (x b q r : Int) (hx : 0 ≤ x) (hb : 0 < b) (h : Idm w D x b q r) : Idm w (D + 1) (-x - 1) b (-q - 1) (b + (-r - 1)) := by
  rintro ta tb TT news hTT hoff
  have hF := kfill
  revert hF
  k_fill
  intro hF
  clear hF
  intro p loose mean mg mb dp un gd cn cs a' ccd cl outer A₀ base h₀ L m s Q E B F X N T hk hd hu hret
  have hMk : KstMark := kstMark
  refine wpAny_call ?_
  k_dflt (refine' code_def ?k1 ?k2 ?k3 ?k4 ?k5 ?kA ?kF ?kK ?k6 ?k7 ?k8 ?k9 ?kB ?_ ?c2 ?c3 ?c4 ?c5; (case kA => exact rfl); (case kF => exact rfl); (case kK => first | exact rfl | assumption); (case k1 => k_asm); (case k2 => k_asm); (case k3 => k_asm); (case k4 => k_asm); (case k5 => k_asm); (case k6 => k_is); (case k7 => k_is); (case k8 => ktr_room); (case k9 => exact BindsTo.of_eq rfl); (case c5 => decide); (case kB => exact locs rfl); (case c2 => exact rfl); (case c3 => exact rfl); (case c4 => exact rfl); k_whole)
  intro g1 L1 hp1 FG1 F1 N1 B1 X1 T1'
  (try dsimp only)
  (try k_fold)
  have hb0 : b ≠ 0 := by omega
  have hbn : ¬ b < 0 := by omega
  have han : -x - 1 < 0 := by omega
  k_steps
  · exfalso; omega
  · rw [show Builtin.bitNot (-x - 1) = x by unfold Builtin.bitNot; omega]
    refine' Stop.mk (ct_use (h _ _ TT news hTT hoff) ?k1 ?k2 ?k3 ?k4 ?k5 ?k6 ?k7 ?k8 ?_)
    case k4 => k_asm
    case k1 => k_asm
    case k2 => k_asm
    case k3 => k_asm
    case k5 => k_asm
    case k6 => exact rfl
    case k7 => ktr_room
    case k8 => ktr_units
    rintro r' news' h' tk' ⟨y, t1, t2, c, TT', rfl, rfl, h3, h4, h5⟩ F6 N6
    k_steps
    rename Fr g1 L1 _ _ => F9
    rename News g1 L1 _ _ => N9
    refine Stop.mk (newTuple_L F9 N9 ?_)
    intro z h9 F8 N8 l8
    k_steps
    rename News h₀ L _ _ => N7
    exact hret _ _ _ _ ⟨z, _, _, 0, TT', rfl, rfl, h3, h4, fun p hp => l8 p (.tail _ hp)⟩ (by assumption) (cb_drop N7 fun p hp => (List.mem_cons.mp hp).elim (fun e => e ▸ .head _) fun hp => .tail _ (.tail _ hp))
set_option maxHeartbeats 8000000 in
theorem idm_b (w : World) (D : Nat) (a b q r : Int) (hb : b < 0) (h : Idm w D (-a) (-b) q r) : Idm w (D + 1) a b q (-r) := by
  rintro ta tb TT news hTT hoff
  have hF := kfill
  revert hF
  k_fill
  intro hF
  clear hF
  intro p loose mean mg mb dp un gd cn cs a' ccd cl outer A₀ base h₀ L m s Q E B F X N T hk hd hu hret
  have hMk : KstMark := kstMark
  refine wpAny_call ?_
  k_dflt (refine' code_def ?k1 ?k2 ?k3 ?k4 ?k5 ?kA ?kF ?kK ?k6 ?k7 ?k8 ?k9 ?kB ?_ ?c2 ?c3 ?c4 ?c5; (case kA => exact rfl); (case kF => exact rfl); (case kK => first | exact rfl | assumption); (case k1 => k_asm); (case k2 => k_asm); (case k3 => k_asm); (case k4 => k_asm); (case k5 => k_asm); (case k6 => k_is); (case k7 => k_is); (case k8 => ktr_room); (case k9 => exact BindsTo.of_eq rfl); (case c5 => decide); (case kB => exact locs rfl); (case c2 => exact rfl); (case c3 => exact rfl); (case c4 => exact rfl); k_whole)
  intro g1 L1 hp1 FG1 F1 N1 B1 X1 T1'
  (try dsimp only)
  (try k_fold)
  have hb0 : b ≠ 0 := by omega
  k_steps
  · exfalso; omega
  · skip
    refine' Stop.mk (ct_use (h _ _ TT news hTT hoff) ?k1 ?k2 ?k3 ?k4 ?k5 ?k6 ?k7 ?k8 ?_)
    case k4 => k_asm
    case k1 => k_asm
    case k2 => k_asm
    case k3 => k_asm
    case k5 => k_asm
    case k6 => exact rfl
    case k7 => ktr_room
    case k8 => ktr_units
    rintro r' news' h' tk' ⟨y, t1, t2, c, TT', rfl, rfl, h3, h4, h5⟩ F6 N6
    k_steps
    rename Fr g1 L1 _ _ => F9
    rename News g1 L1 _ _ => N9
    refine Stop.mk (newTuple_L F9 N9 ?_)
    intro z h9 F8 N8 l8
    k_steps
    rename News h₀ L _ _ => N7
    exact hret _ _ _ _ ⟨z, _, _, 0, TT', rfl, rfl, h3, h4, fun p hp => l8 p (.tail _ hp)⟩ (by assumption) (cb_drop N7 fun p hp => (List.mem_cons.mp hp).elim (fun e => e ▸ .head _) fun hp => .tail _ (.tail _ hp))
end
end Mine
end
-- part D1
section
namespace Mine
section
set_option maxHeartbeats 8000000 in
theorem c_parted (w : World) (a b tn : Int) (ta tb tt : Tok) (ha : 0 < a) (ha2 : a < 2 ^ 17) (hb : 2 ≤ b) (hb2 : b < 2 ^ 9) (TT news : List (Addr × Obj)) (hTT : Tabs TT) (hoff : OwnOff news [30, 37]) :
    Ct w 118 35 [.int a ta, .int b tb, .int tn tt] (TT ++ news) (PairPost (a / b) (a % b) TT news) := by
  have hF := kfill
  revert hF
  k_fill
  intro hF
  clear hF
  intro p loose mean mg mb dp un gd cn cs a' ccd cl outer A₀ base h₀ L m s Q E B F X N T hk hd hu hret
  have hMk : KstMark := kstMark
  refine wpAny_call ?_
  k_dflt (refine' code_def ?k1 ?k2 ?k3 ?k4 ?k5 ?kA ?kF ?kK ?k6 ?k7 ?k8 ?k9 ?kB ?_ ?c2 ?c3 ?c4 ?c5; (case kA => exact rfl); (case kF => exact rfl); (case kK => first | exact rfl | assumption); (case k1 => k_asm); (case k2 => k_asm); (case k3 => k_asm); (case k4 => k_asm); (case k5 => k_asm); (case k6 => k_is); (case k7 => k_is); (case k8 => ktr_room); (case k9 => exact BindsTo.of_eq rfl); (case c5 => decide); (case kB => exact locs rfl); (case c2 => exact rfl); (case c3 => exact rfl); (case c4 => exact rfl); k_whole)
  intro g1 L1 hp1 FG1 F1 N1 B1 X1 T1'
  (try dsimp only)
  (try k_fold)
  have hp := idm_p w a b ha ha2 hb hb2
  have h1 : Idm w 33 (-a) (-b) (a / b) (-(a % b)) := idm_b w 32 (-a) (-b) _ _ (by omega) (by rw [Int.neg_neg, Int.neg_neg]; exact hp)
  have h2 : Idm w 33 (-a - 1) b (-(a / b) - 1) (b + (-(a % b) - 1)) := idm_n w 32 a b _ _ (by omega) (by omega) hp
  have h3 : Idm w 34 (a + 1) (-b) (-(a / b) - 1) (-(b + (-(a % b) - 1))) := idm_b w 33 (a + 1) (-b) _ _ (by omega) (by rw [Int.neg_neg, show -(a + 1) = -a - 1 by omega]; exact h2)
  have e0 : Builtin.bitNot (-(a / b) - 1) = a / b := by unfold Builtin.bitNot; omega
  k_steps
  · refine' Stop.mk (ct_use (hp _ _ TT news hTT hoff) ?k1 ?k2 ?k3 ?k4 ?k5 ?k6 ?k7 ?k8 ?_)
    case k1 => k_asm
    case k2 => k_asm
    case k3 => k_asm
    case k4 => k_asm
    case k5 => k_asm
    case k6 => exact rfl
    case k7 => ktr_room
    case k8 => ktr_units
    rintro r' news' h' tk' ⟨y, t1, t2, c, TT', rfl, rfl, h3, h4, h5⟩ F6 N6
    k_steps
    exact hret _ _ _ _ ⟨y, t1, t2, c, TT', rfl, rfl, h3, h4, h5⟩ (by assumption) (by assumption)
  · refine' Stop.mk (ct_use (h1 _ _ TT news hTT hoff) ?k1 ?k2 ?k3 ?k4 ?k5 ?k6 ?k7 ?k8 ?_)
    case k1 => k_asm
    case k2 => k_asm
    case k3 => k_asm
    case k4 => k_asm
    case k5 => k_asm
    case k6 => exact rfl
    case k7 => ktr_room
    case k8 => ktr_units
    rintro r' news' h' tk' ⟨y, t1, t2, c, TT', rfl, rfl, h3, h4, h5⟩ F6 N6
    k_steps
    rename Fr g1 L1 _ _ => F9
    rename News g1 L1 _ _ => N9
    rw [Int.neg_neg]
    refine Stop.mk (newTuple_L F9 N9 ?_)
    intro z h9 F8 N8 l8
    k_steps
    rename News h₀ L _ _ => N7
    exact hret _ _ _ _ ⟨z, _, _, 0, TT', rfl, rfl, h3, h4, fun p hp => l8 p (.tail _ hp)⟩ (by assumption) (cb_drop N7 fun p hp => (List.mem_cons.mp hp).elim (fun e => e ▸ .head _) fun hp => .tail _ (.tail _ hp))
  · rw [show Builtin.bitNot a = -a - 1 by unfold Builtin.bitNot; omega]
    refine' Stop.mk (ct_use (h2 _ _ TT news hTT hoff) ?k1 ?k2 ?k3 ?k4 ?k5 ?k6 ?k7 ?k8 ?_)
    case k1 => k_asm
    case k2 => k_asm
    case k3 => k_asm
    case k4 => k_asm
    case k5 => k_asm
    case k6 => exact rfl
    case k7 => ktr_room
    case k8 => ktr_units
    rintro r' news' h' tk' ⟨y, t1, t2, c, TT', rfl, rfl, h3, h4, h5⟩ F6 N6
    k_steps
    rename Fr g1 L1 _ _ => F9
    rename News g1 L1 _ _ => N9
    rw [e0, show b - 1 - (b + (-(a % b) - 1)) = a % b by omega]
    refine Stop.mk (newTuple_L F9 N9 ?_)
    intro z h9 F8 N8 l8
    k_steps
    rename News h₀ L _ _ => N7
    exact hret _ _ _ _ ⟨z, _, _, 0, TT', rfl, rfl, h3, h4, fun p hp => l8 p (.tail _ hp)⟩ (by assumption) (cb_drop N7 fun p hp => (List.mem_cons.mp hp).elim (fun e => e ▸ .head _) fun hp => .tail _ (.tail _ hp))
  · refine' Stop.mk (ct_use (h3 _ _ TT news hTT hoff) ?k1 ?k2 ?k3 ?k4 ?k5 ?k6 ?k7 ?k8 ?_)
    case k1 => k_asm
    case k2 => k_asm
    case k3 => k_asm
    case k4 => k_asm
    case k5 => k_asm
    case k6 => exact rfl
    case k7 => ktr_room
    case k8 => ktr_units
    rintro r' news' h' tk' ⟨y, t1, t2, c, TT', rfl, rfl, h3, h4, h5⟩ F6 N6
    k_steps
    rename Fr g1 L1 _ _ => F9
    rename News g1 L1 _ _ => N9
    rw [e0, show -(b + (-(a % b) - 1)) + b - 1 = a % b by omega]
    refine Stop.mk (newTuple_L F9 N9 ?_)
    intro z h9 F8 N8 l8
    k_steps
    rename News h₀ L _ _ => N7
    exact hret _ _ _ _ ⟨z, _, _, 0, TT', rfl, rfl, h3, h4, fun p hp => l8 p (.tail _ hp)⟩ (by assumption) (cb_drop N7 fun p hp => (List.mem_cons.mp hp).elim (fun e => e ▸ .head _) fun hp => .tail _ (.tail _ hp))
end
end Mine
end
end

-- part E1
section
namespace Mine
/-- a whole number's figures to the base sixteen, as letters' codes, the greatest first -/
noncomputable def hexL (n : Nat) : List Int := if _h : n = 0 then [] else hexL (n / 16) ++ [65 + ((n % 16 : Nat) : Int)]
termination_by n
decreasing_by omega
/-- below 16 ^ 25, hidden from the arithmetic's closers -/
structure Sm (n : Nat) : Prop where
  out : (hexL n).length ≤ 25
theorem hexL_zero : hexL 0 = [] := by rw [hexL]; rfl
theorem hexL_pos {n : Nat} (h : n ≠ 0) : hexL n = hexL (n / 16) ++ [65 + ((n % 16 : Nat) : Int)] := by
  rw [hexL, dif_neg h]
theorem hexL_len : ∀ (k n : Nat), n < 16 ^ k → (hexL n).length ≤ k
  | 0, n, h => by
    have : n = 0 := by simp at h; exact h
    rw [this, hexL_zero]; exact Nat.le_refl 0
  | k + 1, n, h => by
    by_cases h0 : n = 0
    · rw [h0, hexL_zero]; exact Nat.zero_le _
    · rw [hexL_pos h0, List.length_append]
      have := hexL_len k (n / 16) (by rw [Nat.pow_succ] at h; omega)
      simp; omega
abbrev APL : List Int := [65, 66, 67, 68, 69, 70, 71, 72, 73, 74, 75, 76, 77, 78, 79, 80]
theorem ap_cut : ∀ m : Nat, m < 16 → (APL.drop ((some (m : Int)).elim 0 (clipAt APL.length))).take ((some ((m : Int) + 1)).elim APL.length (clipAt APL.length) - (some (m : Int)).elim 0 (clipAt APL.length)) = [65 + (m : Int)] := by decide +kernel
section
local macro_rules | `(tactic| walk_at "binaryOp Add bytes bytes") => `(tactic| refine stop_here ?_)
local macro_rules | `(tactic| walk_at "exec While") => `(tactic| refine stop_here ?_)
local macro_rules | `(tactic| walk_at "none 1") => `(tactic| fail)
set_option maxHeartbeats 8000000 in
theorem c_ap (w : World) (x : Int) (tx : Tok) (hx : Sm x.natAbs) (news : List (Addr × Obj)) :
    Ct w 63 2 [.int x tx] news (fun r news' => ∃ (b : Array UInt8) (t : Tok), r = .bytes b t ∧ KBw.bInts b = hexL x.natAbs ∧ news' = news) := by
  have hF := kfill
  revert hF
  k_fill
  intro hF
  clear hF
  intro p loose mean mg mb dp un gd cn cs a' ccd cl outer A₀ base h₀ L m s Q E B F X N T hk hd hu hret
  have hMk : KstMark := kstMark
  refine wpAny_call ?_
  k_dflt (refine' code_def ?k1 ?k2 ?k3 ?k4 ?k5 ?kA ?kF ?kK ?k6 ?k7 ?k8 ?k9 ?kB ?_ ?c2 ?c3 ?c4 ?c5; (case kA => exact rfl); (case kF => exact rfl); (case kK => first | exact rfl | assumption); (case k1 => k_asm); (case k2 => k_asm); (case k3 => k_asm); (case k4 => k_asm); (case k5 => k_asm); (case k6 => k_is); (case k7 => k_is); (case k8 => ktr_room); (case k9 => exact BindsTo.of_eq rfl); (case c5 => decide); (case kB => exact locs rfl); (case c2 => exact rfl); (case c3 => exact rfl); (case c4 => exact rfl); k_whole)
  intro g1 L1 hp1 FG1 F1 N1 B1 X1 T1'
  (try dsimp only)
  (try k_fold)
  k_steps
  rename Fr g1 L1 _ _ => F9
  rename News g1 L1 _ _ => N9
  have ex : (if x < 0 then -x else x) = (x.natAbs : Int) := by split <;> omega
  rw [ex] at F9
  refine' Stop.mk (ksw_while (σ := Int × Tok × Array UInt8 × Tok) (fun _ => news) (fun c => [(Str.ofString "num", .int c.1 c.2.1), (Str.ofString "val", .bytes c.2.2.1 c.2.2.2)]) (fun _ => True) [Str.ofString "mod"]
    (fun c => 0 ≤ c.1 ∧ hexL c.1.toNat ++ KBw.bInts c.2.2.1 = hexL x.natAbs) (fun c => c.1.toNat) (_, _, #[], _) F9 N9 trivial ?hk ?hp ?turn)
  case hk =>
    intro p hp
    rcases List.mem_cons.mp hp with rfl | hp
    · exact rfl
    · rcases List.mem_singleton.mp hp with rfl; exact rfl
  case hp =>
    refine ⟨Int.natCast_nonneg _, ?_⟩
    show hexL ((x.natAbs : Nat) : Int).toNat ++ KBw.bInts #[] = hexL x.natAbs
    rw [Int.toNat_natCast]
    exact List.append_nil _
  case turn =>
    rintro ⟨num, tn, b, tb⟩ u h tk - ⟨hp1, hp3⟩ F N
    dsimp only at hp1 hp3
    have F : Fr g1 L1 h _ := F
    have N : News g1 L1 h news := N
    k_steps
    · have hn0 : num.toNat ≠ 0 := by omega
      obtain ⟨kb, hkb⟩ : ∃ kb, KBw.bInts b = kb := ⟨_, rfl⟩
      have hmod : num.fmod 16 = ((num.toNat % 16 : Nat) : Int) := by
        rw [Int.fmod_eq_emod_of_nonneg _ (by decide)]; omega
      have hdiv : num.fdiv 16 = ((num.toNat / 16 : Nat) : Int) := by
        rw [Int.fdiv_eq_ediv_of_nonneg _ (by decide)]; omega
      have hcut := ap_cut (num.toNat % 16) (Nat.mod_lt _ (by decide))
      rw [← hmod] at hcut
      have hkl : kb.length ≤ 25 := by
        have h1 := hx.out
        have h2 := congrArg List.length hp3
        rw [List.length_append, hkb] at h2
        omega
      rename Fr g1 L1 _ _ => F8
      rename News g1 L1 _ _ => N8
      refine KBc.slice_K (s := ⟨_, _, _, _, _⟩) (ks := APL) F8 N8 (by rfl) (by constructor) (by constructor) (by decide) ?_
      intro h6 t6 k6 F6 N6 hk6
      rw [hcut] at hk6
      k_steps
      refine Stop.mk (KBa.add_K hk6 hkb (by simp; omega) ?_)
      intro t7 k7 hk7
      k_steps
      rename Fr g1 L1 _ _ => F7
      rename News g1 L1 _ _ => N7
      refine' ksw_end (num.fdiv 16, _, _, _) F7 (fun p hp => N7 p (.tail _ hp)) (fun p hp => hp) trivial ?hk ?hs ?hp ?hm
      case hk =>
        intro p hp
        rcases List.mem_cons.mp hp with rfl | hp
        · exact rfl
        · rcases List.mem_singleton.mp hp with rfl; exact rfl
      case hs =>
        intro z h2 h3
        have a1 := h2 _ (List.Mem.head _)
        have a2 := h2 _ (List.Mem.tail _ (List.Mem.head _))
        have a3 : z ≠ Str.ofString "mod" := by simpa using h3
        dsimp only at a1 a2
        simp only [kstB, if_neg a1, if_neg a2, if_neg a3, h3, Bool.false_eq_true, if_false]
      case hp =>
        refine ⟨by show 0 ≤ num.fdiv 16; omega, ?_⟩
        show hexL (num.fdiv 16).toNat ++ KBw.bInts _ = _
        have e : KBw.bInts _ = [65 + num.fmod 16] ++ kb := hk7
        rw [e, ← hp3, hdiv, Int.toNat_natCast, hexL_pos hn0, hmod, hkb, List.append_assoc]
      case hm =>
        show (num.fdiv 16).toNat < num.toNat
        omega
    · rename _ = (0 : Int) => h0
      have h0 : num = 0 := h0
      rw [h0, show (0 : Int).toNat = 0 from rfl, hexL_zero, List.nil_append] at hp3
      exact hret _ _ _ _ ⟨b, tb, rfl, hp3, rfl⟩ (by assumption) (by assumption)
end
end Mine
end

-- part P1
section
/-! positions of a kind's letters; one step of the coder and its inverse: no program in sight -/
namespace Mine
noncomputable def pos (k : Int) : Nat → List Int → List Int
  | _, [] => []
  | i, x :: r => if x = k then (i : Int) :: pos k (i + 1) r else pos k (i + 1) r
theorem pos_filter (k : Int) : ∀ (ow : List Int) (i : Nat), (PySem.W.rangeKs (i : Int) ow.length).filter (fun (p : Int) => decide (ow.getD (p - (i : Int)).toNat 0 = k)) = pos k i ow
  | [], i => rfl
  | x :: r, i => by
    have ih := pos_filter k r (i + 1)
    have e : PySem.W.rangeKs (i : Int) (x :: r).length = (i : Int) :: PySem.W.rangeKs ((i + 1 : Nat) : Int) r.length := by
      unfold PySem.W.rangeKs
      rw [List.length_cons, List.range_succ_eq_map, List.map_cons, List.map_map]
      refine congr (congrArg List.cons (by omega)) (List.map_congr_left fun a _ => ?_)
      simp only [Function.comp_apply]
      omega
    rw [e, List.filter_cons]
    have e0 : ((i : Int) - i).toNat = 0 := by omega
    have e2 : (PySem.W.rangeKs ((i + 1 : Nat) : Int) r.length).filter (fun (p : Int) => decide ((x :: r).getD (p - (i : Int)).toNat 0 = k)) = pos k (i + 1) r := by
      rw [← ih]
      refine List.filter_congr fun p hp => ?_
      have h := PySem.W.mem_rangeKs hp
      have h2 : (p - (i : Int)).toNat = (p - ((i + 1 : Nat) : Int)).toNat + 1 := by omega
      rw [h2, List.getD_cons_succ]
    rw [e2, e0, List.getD_cons_zero, pos]
    by_cases hx : x = k
    · rw [if_pos hx, decide_eq_true hx, if_pos rfl]
    · rw [if_neg hx, decide_eq_false hx, if_neg Bool.false_ne_true]
theorem plc_pos (ow : List Int) (k : Int) (h : ow.length = 16) : plc ow k = pos k 0 ow := by
  rw [plc_filter, ← pos_filter, h]
  refine List.filter_congr fun p _ => ?_
  rw [show p - ((0 : Nat) : Int) = p by omega]
theorem pos_len (k : Int) : ∀ (ow : List Int) (i : Nat), (pos k i ow).length = ow.count k
  | [], _ => rfl
  | x :: r, i => by
    rw [pos]
    by_cases hx : x = k
    · rw [if_pos hx, List.length_cons, pos_len k r, hx, List.count_cons_self]
    · rw [if_neg hx, pos_len k r, List.count_cons_of_ne hx]
theorem pos_at (k : Int) : ∀ (ow : List Int) (i j : Nat), ow[j]? = some k → (pos k i ow)[(ow.take j).count k]? = some ((i + j : Nat) : Int)
  | [], _, _, h => by simp at h
  | x :: r, i, 0, h => by
    have hx : x = k := by simpa using h
    rw [pos, if_pos hx]; simp
  | x :: r, i, j + 1, h => by
    have h' : r[j]? = some k := by simpa using h
    have ih := pos_at k r (i + 1) j h'
    rw [List.take_succ_cons, pos]
    by_cases hx : x = k
    · rw [if_pos hx, hx, List.count_cons_self, List.getElem?_cons_succ, ih]
      congr 2; omega
    · rw [if_neg hx, List.count_cons_of_ne hx, ih]
      congr 2; omega
theorem pos_of (k : Int) : ∀ (ow : List Int) (i r : Nat) (p : Int), (pos k i ow)[r]? = some p → ∃ j, p = ((i + j : Nat) : Int) ∧ ow[j]? = some k ∧ (ow.take j).count k = r
  | [], _, _, _, h => by simp [pos] at h
  | x :: t, i, r, p, h => by
    rw [pos] at h
    by_cases hx : x = k
    · rw [if_pos hx] at h
      cases r with
      | zero =>
        refine ⟨0, ?_, by rw [← hx]; rfl, rfl⟩
        simp at h
        omega
      | succ r =>
        rw [List.getElem?_cons_succ] at h
        obtain ⟨j, h1, h2, h3⟩ := pos_of k t (i + 1) r p h
        refine ⟨j + 1, by omega, by simpa using h2, ?_⟩
        rw [List.take_succ_cons, hx, List.count_cons_self, h3]
    · rw [if_neg hx] at h
      obtain ⟨j, h1, h2, h3⟩ := pos_of k t (i + 1) r p h
      refine ⟨j + 1, by omega, by simpa using h2, ?_⟩
      rw [List.take_succ_cons, List.count_cons_of_ne hx, h3]
/-- the place of the letter number r of the kind k, and what stands there -/
theorem plc_spec (ow : List Int) (hol : ow.length = 16) (k r : Int) (h0 : 0 ≤ r) (h1 : r < ((plc ow k).length : Int)) :
    ∃ j : Nat, j < 16 ∧ (plc ow k).getD r.toNat 0 = (j : Int) ∧ ow.getD j 0 = k ∧ ((ow.take j).count k : Int) = r := by
  rw [plc_pos ow k hol] at h1 ⊢
  have hr : r.toNat < (pos k 0 ow).length := by omega
  obtain ⟨j, e1, e2, e3⟩ := pos_of k ow 0 r.toNat _ (List.getElem?_eq_getElem hr)
  rw [Nat.zero_add] at e1
  have hj : j < ow.length := by
    rcases Nat.lt_or_ge j ow.length with h | h
    · exact h
    · rw [List.getElem?_eq_none h] at e2; cases e2
  refine ⟨j, by omega, ?_, ?_, by omega⟩
  · rw [List.getD_eq_getElem?_getD, List.getElem?_eq_getElem hr, Option.getD_some, e1]
  · rw [List.getD_eq_getElem?_getD, e2]; rfl
theorem plc_back (ow : List Int) (hol : ow.length = 16) (j : Nat) (hj : j < 16) :
    (plc ow (ow.getD j 0)).getD ((ow.take j).count (ow.getD j 0)) 0 = (j : Int) := by
  have e : ow[j]? = some (ow.getD j 0) := by
    rw [List.getD_eq_getElem?_getD, List.getElem?_eq_getElem (by omega : j < ow.length)]; rfl
  rw [plc_pos _ _ hol, List.getD_eq_getElem?_getD, pos_at _ ow 0 j e, Option.getD_some, Nat.zero_add]
theorem plc_count (ow : List Int) (hol : ow.length = 16) (k : Int) : (plc ow k).length = ow.count k := by
  rw [plc_pos _ _ hol, pos_len]
/-- reading one letter behind writing it: the state that was parted -/
theorem rdS_enc (ow : List Int) (hol : ow.length = 16) (k s : Int) (h2 : 2 ≤ (plc ow k).length) (h0 : 0 ≤ s) :
    ow.getD ((16 * (s / ((plc ow k).length : Int)) + (plc ow k).getD (s % ((plc ow k).length : Int)).toNat 0) % 16).toNat 0 = k ∧
    rdS ow (16 * (s / ((plc ow k).length : Int)) + (plc ow k).getD (s % ((plc ow k).length : Int)).toNat 0) = s := by
  obtain ⟨n, hn⟩ : ∃ n : Int, n = ((plc ow k).length : Int) := ⟨_, rfl⟩
  have hn0 : 0 < n := by omega
  obtain ⟨j, j1, j2, j3, j4⟩ := plc_spec ow hol k (s % n) (Int.emod_nonneg _ (by omega)) (hn ▸ Int.emod_lt_of_pos _ hn0)
  rw [← hn, j2]
  have e1 : (16 * (s / n) + (j : Int)) % 16 = j := by omega
  have e2 : (16 * (s / n) + (j : Int)) / 16 = s / n := by omega
  have e3 : ((16 * (s / n) + (j : Int)) % 16).toNat = j := by omega
  refine ⟨by rw [e3]; exact j3, ?_⟩
  unfold rdS
  rw [e3, e2, j3, j4, ← plc_count ow hol k, ← hn]
  have := Int.mul_ediv_add_emod s n
  omega
/-- writing a letter behind reading it: the state that was read -/
theorem enc_rdS (ow : List Int) (hol : ow.length = 16) (s : Int) :
    16 * (rdS ow s / ((plc ow (ow.getD (s % 16).toNat 0)).length : Int)) + (plc ow (ow.getD (s % 16).toNat 0)).getD (rdS ow s % ((plc ow (ow.getD (s % 16).toNat 0)).length : Int)).toNat 0 = s := by
  obtain ⟨j, hj⟩ : ∃ j, j = (s % 16).toNat := ⟨_, rfl⟩
  have hj16 : j < 16 := by omega
  have hjj : (j : Int) = s % 16 := by omega
  have hlt := count_take_lt ow j (by omega)
  have hb := plc_back ow hol j hj16
  unfold rdS
  rw [← hj, plc_count ow hol]
  generalize ow.getD j 0 = k at hlt hb ⊢
  generalize ow.count k = n at hlt ⊢
  generalize (ow.take j).count k = r at hlt hb ⊢
  have hu := (Int.ediv_emod_unique (a := (n : Int) * (s / 16) + (r : Int)) (r := (r : Int)) (q := s / 16) (by omega : (0 : Int) < n)).mpr ⟨by omega, by omega, by omega⟩
  rw [hu.1, hu.2, Int.toNat_natCast, hb]
  omega
end Mine
end

-- part P2
section
/-! the coder and its reader undo each other: no program in sight -/
namespace Mine
/-- an octet as two letters -/
noncomputable def pr (o : Int) : List Int := [65 + o / 16, 65 + o % 16]
theorem wr_cons (ow : List Int) (k : Int) (K : List Int) (st : Int) : wr ow (k :: K) st = wrK ow (wr ow K st) k := by
  unfold wr; rw [List.reverse_cons, List.foldl_append]; rfl
theorem wr_bound (ow : List Int) (st : Int) (h0 : 256 ≤ st) (h1 : st < 65536) : ∀ K : List Int, (∀ k ∈ K, 2 ≤ (plc ow k).length) → 256 ≤ (wr ow K st).1 ∧ (wr ow K st).1 < 65536
  | [], _ => ⟨h0, h1⟩
  | k :: K, h => by
    have ih := wr_bound ow st h0 h1 K fun x hx => h x (.tail _ hx)
    rw [wr_cons]
    exact wrK_bound ow _ k (h k (.head _)) ih.1 ih.2
theorem wr_octs (ow : List Int) (st : Int) : ∀ K : List Int, ∀ o ∈ (wr ow K st).2, 0 ≤ o ∧ o < 256
  | [], o, h => nomatch h
  | k :: K, o, h => by
    rw [wr_cons] at h
    unfold wrK at h
    split at h
    · rcases List.mem_append.mp h with h | h
      · exact wr_octs ow st K o h
      · rw [List.mem_singleton.mp h]; omega
    · exact wr_octs ow st K o h
theorem wr_len' (ow ks : List Int) (st : Int) : (wr ow ks st).2.length ≤ ks.length := by
  have := wr_len ow ks.reverse (st, [])
  rw [List.length_reverse] at this
  simpa [wr] using this
theorem drop_two {ws tail : List Int} {i : Nat} {a b : Int} (h : ws.drop i = a :: b :: tail) : i + 1 < ws.length ∧ ws.getD i 0 = a ∧ ws.getD (i + 1) 0 = b ∧ ws.drop (i + 2) = tail := by
  have hl := congrArg List.length h
  rw [List.length_drop, List.length_cons, List.length_cons] at hl
  have e0 : (ws.drop i)[0]? = some a := by rw [h]; rfl
  have e1 : (ws.drop i)[1]? = some b := by rw [h]; rfl
  rw [List.getElem?_drop] at e0 e1
  refine ⟨by omega, ?_, ?_, ?_⟩
  · rw [List.getD_eq_getElem?_getD, show i = i + 0 by omega, e0]; rfl
  · rw [List.getD_eq_getElem?_getD, e1]; rfl
  · rw [← List.drop_drop, h]; rfl
theorem rd_step (ow : List Int) (hol : ow.length = 16) (ws : List Int) (k s' : Int) (g' : List Int) (m : Nat) (ks0 : List Int) (i : Nat) (tail : List Int) (h2 : 2 ≤ (plc ow k).length) (h0 : 256 ≤ s') (h1 : s' < 65536)
    (hw : ws.drop i = (wrK ow (s', g') k).2.reverse.flatMap pr ++ tail) :
    ∃ i', ws.drop i' = g'.reverse.flatMap pr ++ tail ∧ i + 2 * (wrK ow (s', g') k).2.length = i' + 2 * g'.length ∧
      rd ow ws (m + 1) ks0 (wrK ow (s', g') k).1 i = if k = 0 then some (ks0 ++ [k], s', i') else rd ow ws m (ks0 ++ [k]) s' i' := by
  by_cases h : 256 ≤ s' / (16 * ((plc ow k).length : Int))
  · have e : wrK ow (s', g') k = (16 * (s' / 256 / ((plc ow k).length : Int)) + (plc ow k).getD (s' / 256 % ((plc ow k).length : Int)).toNat 0, g' ++ [s' % 256]) := by
      unfold wrK; rw [if_pos h]
    rw [e] at hw ⊢
    dsimp only at hw ⊢
    obtain ⟨r1, r2⟩ := rdS_enc ow hol k (s' / 256) h2 (by omega)
    rw [List.reverse_append, List.flatMap_append] at hw
    have hw' : ws.drop i = (65 + s' % 256 / 16) :: (65 + s' % 256 % 16) :: (g'.reverse.flatMap pr ++ tail) := by
      rw [hw]; rfl
    obtain ⟨w1, w2, w3, w4⟩ := drop_two hw'
    refine ⟨i + 2, w4, by rw [List.length_append]; simp only [List.length_singleton]; omega, ?_⟩
    rw [rd, r1, r2, if_pos (by omega), if_pos w1]
    have hT : rdT ws (s' / 256) i = s' := by
      unfold rdT; rw [w2, w3]; omega
    rw [hT]
  · have e : wrK ow (s', g') k = (16 * (s' / ((plc ow k).length : Int)) + (plc ow k).getD (s' % ((plc ow k).length : Int)).toNat 0, g') := by
      unfold wrK; rw [if_neg h]
    rw [e] at hw ⊢
    dsimp only at hw ⊢
    obtain ⟨r1, r2⟩ := rdS_enc ow hol k s' h2 (by omega)
    refine ⟨i, hw, rfl, ?_⟩
    rw [rd, r1, r2, if_neg (by omega)]
theorem rd_wr (ow : List Int) (hol : ow.length = 16) (ws : List Int) (start : Int) (h0 : 256 ≤ start) (h1 : start < 65536) (tail : List Int) :
    ∀ (ts : List Int) (m : Nat) (ks0 : List Int) (i : Nat), (∀ t ∈ ts, t ≠ 0) → (∀ k ∈ ts ++ [0], 2 ≤ (plc ow k).length) → ts.length < m → ws.drop i = (wr ow (ts ++ [0]) start).2.reverse.flatMap pr ++ tail →
      rd ow ws m ks0 (wr ow (ts ++ [0]) start).1 i = some (ks0 ++ (ts ++ [0]), start, i + 2 * (wr ow (ts ++ [0]) start).2.length)
  | [], 0, _, _, _, _, hm, _ => absurd hm (Nat.lt_irrefl _)
  | _ :: _, 0, _, _, _, _, hm, _ => absurd hm (Nat.not_lt_zero _)
  | [], m + 1, ks0, i, _, hk, _, hw => by
    have e : wr ow ([] ++ [0]) start = wrK ow (start, []) 0 := rfl
    rw [e] at hw ⊢
    obtain ⟨i', a1, a2, a3⟩ := rd_step ow hol ws 0 start [] m ks0 i tail (hk 0 (by simp)) h0 h1 hw
    rw [a3, if_pos rfl, a2]
    simp
  | k :: ts, m + 1, ks0, i, hz, hk, hm, hw => by
    have hb := wr_bound ow start h0 h1 (ts ++ [0]) fun x hx => hk x (.tail _ hx)
    have e : wr ow (k :: ts ++ [0]) start = wrK ow (wr ow (ts ++ [0]) start) k := by rw [List.cons_append, wr_cons]
    obtain ⟨i', a1, a2, a3⟩ := rd_step ow hol ws k (wr ow (ts ++ [0]) start).1 (wr ow (ts ++ [0]) start).2 m ks0 i tail (hk k (.head _)) hb.1 hb.2 (by rw [e] at hw; exact hw)
    have ih := rd_wr ow hol ws start h0 h1 tail ts m (ks0 ++ [k]) i' (fun t ht => hz t (.tail _ ht)) (fun x hx => hk x (.tail _ hx)) (by rw [List.length_cons] at hm; omega) a1
    rw [e]
    have a2' : i + 2 * (wrK ow (wr ow (ts ++ [0]) start) k).2.length = i' + 2 * (wr ow (ts ++ [0]) start).2.length := a2
    have a3' : rd ow ws (m + 1) ks0 (wrK ow (wr ow (ts ++ [0]) start) k).1 i = _ := a3
    rw [a3', if_neg (hz k (.head _)), ih, a2']
    simp
theorem rdS_parts (ow : List Int) (hol : ow.length = 16) (st : Int) : ∃ n r : Int, n = ((plc ow (ow.getD (st % 16).toNat 0)).length : Int) ∧ 0 ≤ r ∧ r < n ∧ n ≤ 16 ∧ rdS ow st = n * (st / 16) + r := by
  have hlt := count_take_lt ow (st % 16).toNat (by omega)
  have hc : ow.count (ow.getD (st % 16).toNat 0) ≤ 16 := hol ▸ List.count_le_length
  refine ⟨_, ((ow.take (st % 16).toNat).count (ow.getD (st % 16).toNat 0) : Int), rfl, ?_, ?_, ?_, ?_⟩
  · omega
  · rw [plc_count ow hol]; omega
  · rw [plc_count ow hol]; omega
  · rw [plc_count ow hol]; rfl
theorem wrK_read1 (ow : List Int) (hol : ow.length = 16) (st o : Int) (g : List Int) (h0 : 256 ≤ st) (ho0 : 0 ≤ o) (ho1 : o < 256) :
    wrK ow (256 * rdS ow st + o, g) (ow.getD (st % 16).toNat 0) = (st, g ++ [o]) := by
  obtain ⟨n, r, e1, e2, e3, e4, e5⟩ := rdS_parts ow hol st
  have hb := enc_rdS ow hol st
  have h16 : n * 16 ≤ n * (st / 16) := Int.mul_le_mul_of_nonneg_left (by omega) (by omega)
  have hd : 256 ≤ (256 * rdS ow st + o) / (16 * n) := (div_big (by omega)).mpr (by omega)
  unfold wrK
  rw [← e1] at hb ⊢
  rw [if_pos hd]
  have d1 : (256 * rdS ow st + o) / 256 = rdS ow st := by omega
  have d2 : (256 * rdS ow st + o) % 256 = o := by omega
  dsimp only
  rw [d1, d2, hb]
theorem wrK_read0 (ow : List Int) (hol : ow.length = 16) (st : Int) (g : List Int) (h1 : st < 65536) :
    wrK ow (rdS ow st, g) (ow.getD (st % 16).toNat 0) = (st, g) := by
  obtain ⟨n, r, e1, e2, e3, e4, e5⟩ := rdS_parts ow hol st
  have hb := enc_rdS ow hol st
  have h16 : n * (st / 16) ≤ n * 4095 := Int.mul_le_mul_of_nonneg_left (by omega) (by omega)
  have hd : ¬ 256 ≤ rdS ow st / (16 * n) := fun e => by
    have := (div_big (by omega)).mp e
    omega
  unfold wrK
  rw [← e1] at hb ⊢
  rw [if_neg hd]
  dsimp only
  rw [hb]
theorem take_two (ws : List Int) (i j : Nat) (h : i + 1 < ws.length) : (ws.drop i).take (2 * (j + 1)) = ws.getD i 0 :: ws.getD (i + 1) 0 :: (ws.drop (i + 2)).take (2 * j) := by
  have e : ws.drop i = ws.getD i 0 :: ws.getD (i + 1) 0 :: ws.drop (i + 2) := by
    rw [List.drop_eq_getElem_cons (by omega : i < ws.length), List.drop_eq_getElem_cons h]
    simp [List.getD, h, (by omega : i < ws.length)]
  rw [e, show 2 * (j + 1) = 2 * j + 1 + 1 by omega, List.take_succ_cons, List.take_succ_cons]
theorem wr_rd (ow : List Int) (hol : ow.length = 16) (hcnt : ∀ j, j < 16 → 2 ≤ (plc ow (ow.getD j 0)).length) (ws : List Int) (hws : ∀ k ∈ ws, 65 ≤ k ∧ k ≤ 80) :
    ∀ (m : Nat) (ks0 : List Int) (st : Int) (i : Nat), 256 ≤ st → st < 65536 → i + 2 * m ≤ ws.length →
      ∃ (K : List Int) (s' : Int) (j : Nat), rd ow ws m ks0 st i = some (ks0 ++ K, s', i + 2 * j) ∧ j ≤ m ∧ K.length ≤ m ∧ (∀ k ∈ K, 2 ≤ (plc ow k).length) ∧ 256 ≤ s' ∧ s' < 65536 ∧ (wr ow K s').1 = st ∧
        ∀ x : Int, (wr ow K s').2.reverse.foldl (fun a o => a * 2 ^ 8 + o) x = ((ws.drop i).take (2 * j)).foldl (fun a k => 16 * a + k - 65) x
  | 0, ks0, st, i, h0, h1, _ => ⟨[], st, 0, by simp [rd], Nat.le_refl _, Nat.le_refl _, (fun _ h => nomatch h), h0, h1, rfl, fun x => rfl⟩
  | m + 1, ks0, st, i, h0, h1, hl => by
    obtain ⟨k, hk⟩ : ∃ k, k = ow.getD (st % 16).toNat 0 := ⟨_, rfl⟩
    obtain ⟨s1, hs1⟩ : ∃ s1, s1 = rdS ow st := ⟨_, rfl⟩
    have hbd := rdS_bound ow hol st (by omega) h1
    have hkc : 2 ≤ (plc ow k).length := hk ▸ hcnt _ (by omega)
    have hge : 32 ≤ s1 := by
      obtain ⟨n, r, e1, e2, e3, e4, e5⟩ := rdS_parts ow hol st
      have h16 : n * 16 ≤ n * (st / 16) := Int.mul_le_mul_of_nonneg_left (by omega) (by omega)
      rw [← hk] at e1
      omega
    rw [rd, ← hk, ← hs1]
    by_cases h256 : s1 < 256
    · have hi1 : i + 1 < ws.length := by omega
      have a : ∀ j, j < ws.length → 65 ≤ ws.getD j 0 ∧ ws.getD j 0 ≤ 80 := fun j hj => hws _ (by
        rw [List.getD_eq_getElem?_getD, List.getElem?_eq_getElem hj]
        exact List.getElem_mem hj)
      have b0 := a i (by omega)
      have b1 := a (i + 1) hi1
      obtain ⟨o, ho⟩ : ∃ o, o = 16 * (ws.getD i 0 - 65) + (ws.getD (i + 1) 0 - 65) := ⟨_, rfl⟩
      have hT : rdT ws s1 i = 256 * s1 + o := by unfold rdT; omega
      have hback : ∀ g, wrK ow (256 * s1 + o, g) k = (st, g ++ [o]) := fun g => by
        rw [hs1, hk]; exact wrK_read1 ow hol st o g h0 (by omega) (by omega)
      rw [if_pos h256, if_pos hi1, hT]
      by_cases hk0 : k = 0
      · rw [if_pos hk0]
        have e : wr ow [k] (256 * s1 + o) = (st, [o]) := hback []
        refine ⟨[k], 256 * s1 + o, 1, rfl, by omega, by simp, fun x hx => by rw [List.mem_singleton.mp hx]; exact hkc, by omega, by omega, by rw [e], fun x => ?_⟩
        rw [e, take_two ws i 0 hi1]
        simp only [List.reverse_cons, List.reverse_nil, List.nil_append, List.foldl_cons, List.foldl_nil, Nat.mul_zero, List.take_zero]
        omega
      · rw [if_neg hk0]
        obtain ⟨K, s', j, q1, q2, q3, q4, q5, q6, q7, q8⟩ := wr_rd ow hol hcnt ws hws m (ks0 ++ [k]) (256 * s1 + o) (i + 2) (by omega) (by omega) (by omega)
        have e : wr ow (k :: K) s' = (st, (wr ow K s').2 ++ [o]) := by
          rw [wr_cons, ← hback, ← q7]
        refine ⟨k :: K, s', j + 1, by rw [q1, List.append_assoc, show i + 2 + 2 * j = i + 2 * (j + 1) by omega]; rfl, by omega, by rw [List.length_cons]; omega, fun x hx => ?_, q5, q6, by rw [e], fun x => ?_⟩
        · rcases List.mem_cons.mp hx with rfl | hx
          · exact hkc
          · exact q4 x hx
        · rw [e, take_two ws i j hi1]
          dsimp only
          rw [List.reverse_append, List.foldl_append, List.foldl_cons, List.foldl_cons]
          simp only [List.reverse_cons, List.reverse_nil, List.nil_append, List.foldl_cons, List.foldl_nil]
          rw [q8]
          congr 1
          omega
    · have hback : ∀ g, wrK ow (s1, g) k = (st, g) := fun g => by
        rw [hs1, hk]; exact wrK_read0 ow hol st g h1
      rw [if_neg h256]
      by_cases hk0 : k = 0
      · rw [if_pos hk0]
        have e : wr ow [k] s1 = (st, []) := hback []
        refine ⟨[k], s1, 0, rfl, by omega, by simp, fun x hx => by rw [List.mem_singleton.mp hx]; exact hkc, by omega, by omega, by rw [e], fun x => ?_⟩
        rw [e]; rfl
      · rw [if_neg hk0]
        obtain ⟨K, s', j, q1, q2, q3, q4, q5, q6, q7, q8⟩ := wr_rd ow hol hcnt ws hws m (ks0 ++ [k]) s1 i (by omega) (by omega) (by omega)
        have e : wr ow (k :: K) s' = (st, (wr ow K s').2) := by
          rw [wr_cons, ← hback, ← q7]
        refine ⟨k :: K, s', j, by rw [q1, List.append_assoc]; rfl, by omega, by rw [List.length_cons]; omega, fun x hx => ?_, q5, q6, by rw [e], fun x => ?_⟩
        · rcases List.mem_cons.mp hx with rfl | hx
          · exact hkc
          · exact q4 x hx
        · rw [e]; exact q8 x
end Mine
end

-- part P3
section
/-! words: a number's letters; the law's two halves as plain facts -/
namespace Mine
noncomputable def hv (ws : List Int) : Int := ws.foldl (fun a k => 16 * a + k - 65) 0
theorem hexL_val (n : Nat) : hv (hexL n) = n := by
    by_cases h : n = 0
    · rw [h, hexL_zero]; rfl
    · have ih := hexL_val (n / 16)
      rw [hexL_pos h]
      unfold hv at ih ⊢
      rw [List.foldl_append, ih]
      simp only [List.foldl_cons, List.foldl_nil]
      omega
termination_by n
decreasing_by omega
theorem hexL_mem (n : Nat) (k : Int) (hk : k ∈ hexL n) : 65 ≤ k ∧ k ≤ 80 := by
    by_cases h : n = 0
    · rw [h, hexL_zero] at hk; cases hk
    · rw [hexL_pos h] at hk
      rcases List.mem_append.mp hk with hk | hk
      · exact hexL_mem (n / 16) k hk
      · rw [List.mem_singleton.mp hk]; omega
termination_by n
decreasing_by omega
theorem hexL_take : ∀ d n : Nat, (hexL n).take ((hexL n).length - d) = hexL (n / 16 ^ d)
  | 0, n => by rw [Nat.sub_zero, List.take_length, Nat.pow_zero, Nat.div_one]
  | d + 1, n => by
    by_cases h : n = 0
    · rw [h, hexL_zero, Nat.zero_div, hexL_zero, List.take_nil]
    · have ih := hexL_take d (n / 16)
      rw [Nat.div_div_eq_div_mul, ← Nat.pow_succ'] at ih
      rw [hexL_pos h, List.length_append, List.length_singleton, Nat.add_sub_add_right, List.take_append_of_le_length (Nat.sub_le _ _), ih]
theorem hexL_oct (v o : Nat) (hv : 0 < v) (ho : o < 256) : hexL (v * 256 + o) = hexL v ++ pr (o : Int) := by
  have h1 : v * 256 + o ≠ 0 := by omega
  have h2 : (v * 256 + o) / 16 ≠ 0 := by omega
  rw [hexL_pos h1, hexL_pos h2, show (v * 256 + o) / 16 / 16 = v by omega, List.append_assoc]
  congr 1
  rw [show (v * 256 + o) / 16 % 16 = o / 16 by omega, show (v * 256 + o) % 16 = o % 16 by omega]
  rfl
theorem hexL_len34 (n : Nat) (h0 : 256 ≤ n) (h1 : n < 65536) : 3 ≤ (hexL n).length ∧ (hexL n).length ≤ 4 := by
  refine ⟨?_, hexL_len 4 n (by omega)⟩
  rw [hexL_pos (by omega : n ≠ 0), hexL_pos (by omega : n / 16 ≠ 0), hexL_pos (by omega : n / 16 / 16 ≠ 0)]
  simp only [List.length_append, List.length_singleton]
  omega
theorem hex_given (T : Int) (hT : 0 < T) : ∀ g : List Int, (∀ o ∈ g, 0 ≤ o ∧ o < 256) → 0 < dval 8 (g ++ [T]) ∧ hexL (dval 8 (g ++ [T])).toNat = hexL T.toNat ++ g.reverse.flatMap pr
  | [], _ => by
    have e : dval 8 ([] ++ [T]) = T := by simp [dval]
    rw [e]; exact ⟨hT, by simp⟩
  | o :: g, h => by
    obtain ⟨i1, i2⟩ := hex_given T hT g fun x hx => h x (.tail _ hx)
    have ho := h o (.head _)
    rw [List.cons_append, dval]
    generalize dval 8 (g ++ [T]) = V at i1 i2 ⊢
    have e : (o + 2 ^ 8 * V).toNat = V.toNat * 256 + o.toNat := by omega
    refine ⟨by omega, ?_⟩
    rw [e, hexL_oct _ _ (by omega) (by omega), i2, List.reverse_cons, List.flatMap_append, List.append_assoc]
    have e2 : ((o.toNat : Nat) : Int) = o := by omega
    rw [e2]; simp
/-- where the reader begins -/
noncomputable def at0 (ws : List Int) : Nat := ws.length - (ws.length - 3) / 2 * 2
theorem pr_len : ∀ g : List Int, (g.flatMap pr).length = 2 * g.length
  | [] => rfl
  | o :: g => by
    rw [List.flatMap_cons, List.length_append, pr_len g, List.length_cons]
    simp only [pr, List.length_cons, List.length_nil]
    omega
theorem half1 (ow : List Int) (hol : ow.length = 16) (ts : List Int) (hz : ∀ t ∈ ts, t ≠ 0) (hk : ∀ k ∈ ts ++ [0], 2 ≤ (plc ow k).length) (hl : ts.length ≤ 6) (start : Int) (h0 : 256 ≤ start) (h1 : start < 65536) (V : Int)
    (hV : V = dval 8 ((wr ow (ts ++ [0]) start).2 ++ [(wr ow (ts ++ [0]) start).1])) (ws : List Int) (hw : ws = hexL V.toNat) :
    0 < V ∧ 3 ≤ ws.length ∧ ws.length ≤ 18 ∧ (∀ k ∈ ws, 65 ≤ k ∧ k ≤ 80) ∧ 0 ≤ hv (ws.take (at0 ws)) ∧ hv (ws.take (at0 ws)) < 65536 ∧ rd ow ws 7 [] (hv (ws.take (at0 ws))) (at0 ws) = some (ts ++ [0], start, ws.length) := by
  have hb := wr_bound ow start h0 h1 (ts ++ [0]) hk
  have ho := wr_octs ow start (ts ++ [0])
  have hlen := wr_len' ow (ts ++ [0]) start
  rw [List.length_append, List.length_singleton] at hlen
  have key := fun tail i => rd_wr ow hol ws start h0 h1 tail ts 7 [] i hz hk (by omega)
  generalize (wr ow (ts ++ [0]) start).1 = T at hb hV key
  generalize (wr ow (ts ++ [0]) start).2 = g at ho hV key hlen
  obtain ⟨v1, v2⟩ := hex_given T (by omega) g ho
  rw [← hV] at v1 v2
  rw [← hw] at v2
  have h34 := hexL_len34 T.toNat (by omega) (by omega)
  have hwl : ws.length = (hexL T.toNat).length + 2 * g.length := by
    rw [v2, List.length_append, pr_len, List.length_reverse]
  have ha : at0 ws = (hexL T.toNat).length := by unfold at0; omega
  have ht : ws.take (at0 ws) = hexL T.toNat := by rw [ha, v2, List.take_left']; rfl
  have hd : ws.drop (at0 ws) = g.reverse.flatMap pr ++ [] := by rw [ha, v2, List.drop_left', List.append_nil]; rfl
  have hvT : hv (ws.take (at0 ws)) = T := by rw [ht, hexL_val]; omega
  rw [hvT]
  refine ⟨v1, by omega, by omega, by rw [hw]; exact hexL_mem _, by omega, by omega, ?_⟩
  rw [key [] (at0 ws) hd, ha, hwl]; rfl
theorem half2 (ow : List Int) (hol : ow.length = 16) (hcnt : ∀ j, j < 16 → 2 ≤ (plc ow (ow.getD j 0)).length) (T R : Nat) (h0 : 256 ≤ T) (h1 : T < 65536) (hR : R < 256 ^ 4) (ws : List Int) (hw : ws = hexL (T * 256 ^ 4 + R)) :
    3 ≤ ws.length ∧ ws.length ≤ 12 ∧ (∀ k ∈ ws, 65 ≤ k ∧ k ≤ 80) ∧ 0 ≤ hv (ws.take (at0 ws)) ∧ hv (ws.take (at0 ws)) < 65536 ∧
    ∃ K s' e, rd ow ws 4 [] (hv (ws.take (at0 ws))) (at0 ws) = some (K, s', e) ∧ K.length ≤ 4 ∧ (∀ k ∈ K, 2 ≤ (plc ow k).length) ∧ 256 ≤ s' ∧ s' < 65536 ∧ e ≤ ws.length ∧ ws.length ≤ e + 8 ∧
      dval 8 ((wr ow K s').2 ++ [(wr ow K s').1]) = ((T * 256 ^ 4 + R) / 16 ^ (ws.length - e) : Nat) := by
  have hF : T * 256 ^ 4 + R ≠ 0 := by omega
  have h8 : (T * 256 ^ 4 + R) / 16 ^ 8 = T := by omega
  have ht8 := hexL_take 8 (T * 256 ^ 4 + R)
  rw [h8, ← hw] at ht8
  have h34 := hexL_len34 T h0 h1
  have hl8 := congrArg List.length ht8
  rw [List.length_take] at hl8
  have ha : at0 ws = ws.length - 8 := by unfold at0; omega
  have ht : ws.take (at0 ws) = hexL T := by rw [ha, ht8]
  have hvT : hv (ws.take (at0 ws)) = T := by rw [ht, hexL_val]
  have hws : ∀ k ∈ ws, 65 ≤ k ∧ k ≤ 80 := by rw [hw]; exact hexL_mem _
  refine ⟨by omega, by omega, hws, by omega, by omega, ?_⟩
  obtain ⟨K, s', j, q1, q2, q3, q4, q5, q6, q7, q8⟩ := wr_rd ow hol hcnt ws hws 4 [] (hv (ws.take (at0 ws))) (at0 ws) (by omega) (by omega) (by omega)
  refine ⟨K, s', at0 ws + 2 * j, by simpa using q1, q3, q4, q5, q6, by omega, by omega, ?_⟩
  have e1 : dval 8 ((wr ow K s').2 ++ [(wr ow K s').1]) = mval 8 ((wr ow K s').1 :: (wr ow K s').2.reverse) := by
    rw [mval_eq, List.reverse_cons, List.reverse_reverse]
  rw [e1, q7]
  have e2 : mval 8 (hv (ws.take (at0 ws)) :: (wr ow K s').2.reverse) = (wr ow K s').2.reverse.foldl (fun a o => a * 2 ^ 8 + o) (hv (ws.take (at0 ws))) := by
    unfold mval
    rw [List.foldl_cons, Int.zero_mul, Int.zero_add]
  have e3 : ((ws.drop (at0 ws)).take (2 * j)).foldl (fun a k => 16 * a + k - 65) (hv (ws.take (at0 ws))) = hv (ws.take (at0 ws + 2 * j)) := by
    unfold hv
    rw [← List.foldl_append, ← List.take_add]
  have e4 : ws.take (at0 ws + 2 * j) = hexL ((T * 256 ^ 4 + R) / 16 ^ (ws.length - (at0 ws + 2 * j))) := by
    rw [← hexL_take, ← hw]
    congr 1
    omega
  rw [e2, q8, e3, e4, hexL_val]
end Mine
end

-- part S1
section
/-! a set's table: what stays true of it -/
namespace Mine
noncomputable def Rise (xs : Array Nat) : Prop := xs.toList.Pairwise (· < ·)
theorem Rise.lt {xs : Array Nat} (h : Rise xs) {i j : Nat} (hij : i < j) (hj : j < xs.size) : xs.getD i 0 < xs.getD j 0 := by
  have h1 := List.pairwise_iff_getElem.mp h i j (by rw [Array.length_toList]; omega) (by rw [Array.length_toList]; omega) hij
  simpa [Array.getD, hj, (by omega : i < xs.size)] using h1
theorem getD_same (xs : Array Nat) (i a b : Nat) (h : i < xs.size) : xs.getD i a = xs.getD i b := by
  simp [Array.getD, h]
theorem below_go (xs : Array Nat) (j : Nat) (hR : Rise xs) : ∀ fuel lo hi : Nat, hi - lo ≤ fuel → lo ≤ hi → hi ≤ xs.size → (∀ i, i < lo → xs.getD i 0 < j) → (∀ i, hi ≤ i → i < xs.size → j ≤ xs.getD i 0) →
    SetTable.below.go xs j fuel lo hi ≤ xs.size ∧ (∀ i, i < SetTable.below.go xs j fuel lo hi → xs.getD i 0 < j) ∧ ∀ i, SetTable.below.go xs j fuel lo hi ≤ i → i < xs.size → j ≤ xs.getD i 0
  | 0, lo, hi, hf, hl, hs, h1, h2 => by
    have e : lo = hi := by omega
    unfold SetTable.below.go
    exact ⟨by omega, h1, fun i hi' hx => h2 i (by omega) hx⟩
  | fuel + 1, lo, hi, hf, hl, hs, h1, h2 => by
    unfold SetTable.below.go
    by_cases hlt : lo < hi
    · rw [if_pos hlt]
      have hm : (lo + hi) / 2 < xs.size := by omega
      dsimp only
      rw [getD_same xs _ j 0 hm]
      by_cases hx : xs.getD ((lo + hi) / 2) 0 < j
      · rw [if_pos hx]
        refine below_go xs j hR fuel _ hi (by omega) (by omega) hs (fun i hi' => ?_) h2
        rcases Nat.lt_or_ge i ((lo + hi) / 2) with h | h
        · exact Nat.lt_trans (hR.lt h hm) hx
        · have : i = (lo + hi) / 2 := by omega
          rw [this]; exact hx
      · rw [if_neg hx]
        refine below_go xs j hR fuel lo _ (by omega) (by omega) (by omega) h1 (fun i hi' hs' => ?_)
        rcases Nat.lt_or_ge ((lo + hi) / 2) i with h | h
        · have := hR.lt h hs'; omega
        · have : i = (lo + hi) / 2 := by omega
          rw [this]; omega
    · rw [if_neg hlt]
      have e : lo = hi := by omega
      exact ⟨by omega, h1, fun i hi' hx => h2 i (by omega) hx⟩
theorem below_spec (xs : Array Nat) (j : Nat) (hR : Rise xs) : SetTable.below xs j ≤ xs.size ∧ (∀ i, i < SetTable.below xs j → xs.getD i 0 < j) ∧ ∀ i, SetTable.below xs j ≤ i → i < xs.size → j ≤ xs.getD i 0 :=
  below_go xs j hR xs.size 0 xs.size (by omega) (by omega) (Nat.le_refl _) (fun i h => absurd h (Nat.not_lt_zero _)) fun i h h' => absurd h (by omega)
theorem below_zero (xs : Array Nat) (hR : Rise xs) : SetTable.below xs 0 = 0 := by
  obtain ⟨_, h, _⟩ := below_spec xs 0 hR
  rcases Nat.eq_zero_or_pos (SetTable.below xs 0) with e | e
  · exact e
  · exact absurd (h 0 e) (Nat.not_lt_zero _)
theorem below_next (xs : Array Nat) (hR : Rise xs) (i : Nat) (hi : i < xs.size) : SetTable.below xs (xs.getD i 0 + 1) = i + 1 := by
  obtain ⟨h0, h1, h2⟩ := below_spec xs (xs.getD i 0 + 1) hR
  rcases Nat.lt_trichotomy (SetTable.below xs (xs.getD i 0 + 1)) (i + 1) with h | h | h
  · have := h2 i (by omega) hi; omega
  · exact h
  · have a := h1 (i + 1) h
    have b := hR.lt (by omega : i < i + 1) (by omega)
    omega
theorem rise_insert (xs : Array Nat) (j : Nat) (hR : Rise xs) (hj : (xs[SetTable.below xs j]? == some j) = false) : Rise (SetTable.insertAt xs (SetTable.below xs j) j) := by
  obtain ⟨h0, h1, h2⟩ := below_spec xs j hR
  generalize SetTable.below xs j = p at h0 h1 h2 hj
  have at' : ∀ i (h : i < xs.size), xs.getD i 0 = xs.toList[i]'(by rw [Array.length_toList]; exact h) := fun i h => by simp [Array.getD, h]
  unfold Rise
  rw [SetTable.toList_insertAt, List.pairwise_append, List.pairwise_cons]
  refine ⟨hR.sublist (List.take_sublist _ _), ⟨fun a ha => ?_, hR.sublist (List.drop_sublist _ _)⟩, fun a ha b hb => ?_⟩
  · obtain ⟨i, hi, rfl⟩ := List.mem_iff_getElem.mp ha
    rw [List.length_drop, Array.length_toList] at hi
    rw [List.getElem_drop, ← at' (p + i) (by omega)]
    have hge := h2 (p + i) (by omega) (by omega)
    rcases Nat.eq_zero_or_pos i with e | e
    · subst e
      have hp : p < xs.size := by omega
      have hne : xs.getD p 0 ≠ j := by
        intro e
        rw [Array.getElem?_eq_getElem hp] at hj
        have : xs[p] = j := by rw [← e]; simp [Array.getD, hp]
        rw [this] at hj
        simp at hj
      rw [Nat.add_zero] at hge ⊢
      omega
    · have := hR.lt (by omega : p < p + i) (by omega)
      have hge0 := h2 p (Nat.le_refl _) (by omega)
      omega
  · have hab : a < j := by
      obtain ⟨i, hi, rfl⟩ := List.mem_iff_getElem.mp ha
      rw [List.length_take, Array.length_toList] at hi
      rw [List.getElem_take, ← at' i (by omega)]
      exact h1 i (by omega)
    rcases List.mem_cons.mp hb with rfl | hb
    · exact hab
    · obtain ⟨i, hi, rfl⟩ := List.mem_iff_getElem.mp hb
      rw [List.length_drop, Array.length_toList] at hi
      rw [List.getElem_drop, ← at' (p + i) (by omega)]
      have hge := h2 (p + i) (by omega) (by omega)
      omega
/-- what a table keeps -/
noncomputable def TI (led : Bool) (t : SetTable) : Prop := t.led = led ∧ (t.plain = true → Rise t.place ∧ t.dummies = #[])
theorem TI.standIn {led : Bool} {t : SetTable} (h : TI led t) (n : Nat) : TI led (t.standIn n) := ⟨h.1, fun e => by cases e⟩
theorem TI.orStandIn {led : Bool} {t : SetTable} (h : TI led t) (n : Nat) : TI led (t.orStandIn n) := by
  unfold SetTable.orStandIn
  split
  · exact h
  · exact h.standIn n
theorem TI.off {led : Bool} {t : SetTable} (h : TI led t) : TI led { t with plain := false } := ⟨h.1, fun e => by cases e⟩
theorem slot_nodummy {t : SetTable} (hd : t.dummies = #[]) (j : Nat) : t.slot j ≠ .dummy := by
  unfold SetTable.slot
  dsimp only
  split
  · exact fun e => by cases e
  · rw [hd]
    have : SetTable.has #[] j = false := by simp [SetTable.has]
    rw [this]
    exact fun e => by cases e
theorem probe_go {t : SetTable} (hd : t.dummies = #[]) (ha : Nat → Int) (h : Int) : ∀ (fuel : Nat) (p : SetTable.Probe) (j : Nat) (d : Option Nat), p.dummy = none → SetTable.probe.go t ha h fuel p = some (.empty j d) → d = none ∧ t.slot j = .empty
  | 0, p, j, d, _, e => by unfold SetTable.probe.go at e; cases e
  | fuel + 1, p, j, d, hp, e => by
    have adv : (t.advance p).dummy = none := by
      unfold SetTable.advance
      split
      · exact hp
      · exact hp
    unfold SetTable.probe.go at e
    split at e
    · rename_i hs
      injection e with e
      injection e with e1 e2
      subst e1
      exact ⟨by rw [← e2, hp], hs⟩
    · rename_i hs
      exact absurd hs (slot_nodummy hd _)
    · split at e
      · cases e
      · exact probe_go hd ha h fuel _ j d adv e
theorem TI.layNew {led : Bool} {t : SetTable} (hT : TI led t) (es : Array (Int × Value)) (h : Int) (x : Value) : TI led (layNew t es h x).2.1 := by
  unfold PySem.layNew
  split
  · rename_i slot wasDummy hf
    show TI led ((t.put slot).1.orStandIn (SetTable.insertAt es (t.put slot).2 (h, x)).size)
    refine TI.orStandIn (t := (t.put slot).1) ⟨hT.1, fun hp => ?_⟩ _
    have hp : t.plain = true := hp
    obtain ⟨hR, hd⟩ := hT.2 hp
    unfold SetTable.freeSlot at hf
    split at hf
    · rename_i j d he
      obtain ⟨rfl, hs⟩ := probe_go hd _ _ _ _ _ _ rfl he
      injection hf with hf
      injection hf with hf _
      have hf : j = slot := hf
      subst hf
      have hx : (t.place[SetTable.below t.place j]? == some j) = false := by
        unfold SetTable.slot at hs
        dsimp only at hs
        split at hs
        · cases hs
        · rename_i h9; simpa using h9
      refine ⟨rise_insert t.place j hR hx, ?_⟩
      show (if SetTable.has t.dummies j then SetTable.eraseAt t.dummies (SetTable.below t.dummies j) else t.dummies) = #[]
      rw [hd]
      have : SetTable.has #[] j = false := by simp [SetTable.has]
      rw [this]; rfl
    · cases hf
  · exact hT.standIn _
theorem TI.relaid {led : Bool} {t : SetTable} (hT : TI led t) {hs : Array Int} {wanted : Nat} {t' : SetTable} {order : Array Nat} (e : t.relaid hs wanted = some (t', order)) : TI led t' := by
  unfold SetTable.relaid SetTable.laid at e
  cases ho : SetTable.layClean (SetTable.sizeAbove wanted - 1) hs with
  | none => rw [ho] at e; cases e
  | some owner =>
    rw [ho] at e
    have e : some _ = some (t', order) := e
    injection e with e
    injection e with e _
    subst e
    refine ⟨hT.1, fun _ => ⟨?_, rfl⟩⟩
    show Rise (List.toArray _)
    unfold Rise
    rw [List.toList_toArray, List.pairwise_map, List.pairwise_filterMap]
    refine List.pairwise_lt_range.imp fun {a a'} haa b hb b' hb' => ?_
    obtain ⟨_, _, rfl⟩ := Option.map_eq_some_iff.mp hb
    obtain ⟨_, _, rfl⟩ := Option.map_eq_some_iff.mp hb'
    exact haa
theorem TI.relayAll {led : Bool} {t : SetTable} (hT : TI led t) (es : Array (Int × Value)) (wanted : Nat) : TI led (relayAll t es wanted).2.1 := by
  unfold PySem.relayAll
  split
  · rename_i t' order e
    dsimp only
    split
    · exact hT.relaid e
    · exact hT.standIn _
  · exact hT.standIn _
theorem TI.fresh (f m : Nat) (led : Bool) : TI led (.fresh f m led) := ⟨rfl, fun _ => ⟨List.Pairwise.nil, rfl⟩⟩
end Mine
end

-- part S2
section
/-! a set of ints made from a list: what stands in it, and a table that may be walked -/
namespace Mine
noncomputable def byText (w : World) : Bool := w.params.followText "set-order"
noncomputable def SetI (prog : Program) (w : World) (o : Obj) (ns : List Int) : Prop :=
  o.ExactSet ∧ ∃ es ep t, o.data = .set es ep t ∧ ElemsOf (intKind prog w) es.toList ∧ (∀ k, k ∈ ns ↔ ∃ e ∈ es.toList, (intKind prog w).is k e.2 = true) ∧ es.size ≤ ns.length ∧ t.fits es.size = true ∧ TI (!byText w) t
section
variable {prog : Program} {w : World} {A : Around} {E : Value → Shared → Prop} {s : Shared}
theorem addTail_I {g : Bool → Sem Unit} (hg : ∀ (b : Bool) (s₁ : Shared) (Q' : Unit → Shared → Prop), Q' () s₁ → wpAny (model prog w) A (g b) Q' E s₁)
    {a : Addr} {o : Obj} {es : Array (Int × Value)} {ep : Nat} {t : SetTable} (ho : s.heap.get? a = some o) (hd : o.data = .set es ep t) {es1 : Array (Int × Value)} {t2 : SetTable} (hb1 : es1.size < scanBound) {wasDummy : Bool} {R : Option Bool → Shared → Prop}
    (h1 : ∀ h' ep', Heap.SameBut a s.heap h' → h'.get? a = some { o with data := .set es1 ep' t2 } → R (some true) { s with heap := h' })
    (h2 : ∀ h' ep', Heap.SameBut a s.heap h' → h'.get? a = some { o with data := .set (relayAll t2 es1 (SetTable.grown es1.size)).1 ep' (relayAll t2 es1 (SetTable.grown es1.size)).2.1 } → R (some true) { s with heap := h' }) :
    wpAny (model prog w) A (do
        storeSet a es1 t2
        if (!wasDummy && t2.tooFull) = true then do
            g (relayAll t2 es1 (SetTable.grown es1.size)).2.2
            storeSet a (relayAll t2 es1 (SetTable.grown es1.size)).1 (relayAll t2 es1 (SetTable.grown es1.size)).2.1
            pure (some true)
          else pure (some true)) R E s := by
  have put : ∀ {h : Heap} {o : Obj} {es : Array (Int × Value)} {ep : Nat} {t : SetTable} (es' : Array (Int × Value)) (t' : SetTable), h.get? a = some o → o.data = .set es ep t → (h.update a (Obj.putSet es' t')).get? a = some { o with data := .set es' (ep + 1) t' } := by
    intro h o es ep t es' t' ho hd
    have := Heap.get?_update_self (Obj.putSet es' t') ho (by rw [putSet_of es' t' hd]; rfl)
    rw [putSet_of es' t' hd] at this
    exact this
  have ho1 := put es1 t2 ho hd
  have hsb1 := Heap.SameBut.update s.heap a (Obj.putSet es1 t2)
  refine wpAny_bind (wpAny_storeSet_of ho hd ?_ (fits_of_scanBound hb1))
  split
  · have hp := relayAll_perm t2 es1 (SetTable.grown es1.size)
    have hsz : (relayAll t2 es1 (SetTable.grown es1.size)).1.size = es1.size := by rw [← Array.length_toList, hp.length_eq, Array.length_toList]
    refine wpAny_bind (hg _ _ _ ?_)
    refine wpAny_bind (wpAny_storeSet_of ho1 rfl ?_ (fits_of_scanBound (by rw [hsz]; exact hb1)))
    have ho2 := put (relayAll t2 es1 (SetTable.grown es1.size)).1 (relayAll t2 es1 (SetTable.grown es1.size)).2.1 ho1 rfl
    exact wpAny_pure (h2 _ _ (hsb1.trans (Heap.SameBut.update _ a _)) ho2)
  · exact wpAny_pure (h1 _ _ hsb1 ho1)
theorem setAdd_I {a : Addr} {o : Obj} {ns : List Int} {k : Int} {tok : Tok} {Q : Bool → Shared → Prop} (ho : s.heap.get? a = some o) (hs : SetI prog w o ns) (hroom : ns.length + 1 < scanBound)
    (h : ∀ b h' o', Heap.SameBut a s.heap h' → h'.get? a = some o' → SetI prog w o' (ns ++ [k]) → Q b { s with heap := h' }) :
    wpAny (model prog w) A (setAddHashed a (.int k tok) ((intKind prog w).hash k)) Q E s := by
  obtain ⟨hex, es, ep, t, hd, hel, hmem, hle, hf, hT⟩ := hs
  have hkey : (intKind prog w).is k (.int k tok) = true := intKind_is _ _ _ _
  have hsc : (Value.int k tok).scannable = true := rfl
  have hb : es.size < scanBound := by omega
  unfold setAddHashed setAddHashedIn
  refine wpAny_holding (wpAny_bind (wpAny_setState_of ho hd hf ?_))
  dsimp only
  rw [byScan_of hsc hb hel]
  simp only [↓reduceIte]
  unfold setAddByScan
  refine wpAny_bind ?_
  refine wpAny_bind (wpAny_rule ?_)
  refine wpAny_bind (wpAny_setScan_of hkey ho hd hf hel ?_)
  cases hr : List.findIdx? (fun e => (intKind prog w).is k e.2) es.toList with
  | some j =>
    dsimp only
    obtain ⟨hj, hpj, _⟩ := List.findIdx?_eq_some_iff_getElem.mp hr
    refine wpAny_pure (wpAny_pure ?_)
    refine h false s.heap o (Heap.SameBut.refl a s.heap) ho ⟨hex, es, ep, t, hd, hel, fun k' => ?_, by rw [List.length_append]; omega, hf, hT⟩
    rw [List.mem_append, hmem k', List.mem_singleton]
    exact ⟨fun hk => hk.elim id fun e => e ▸ ⟨_, List.getElem_mem hj, hpj⟩, .inl⟩
  | none =>
    dsimp only
    have hgw : ∀ (b : Bool) {s₁ : Shared} {Q' : Unit → Shared → Prop}, Q' () s₁ → wpAny (model prog w) A (match b with | true => rule "set.scan.the-table-gave-way" | false => pure ()) Q' E s₁ :=
      fun b s₁ Q' hq => by cases b <;> first | exact wpAny_pure hq | exact wpAny_rule hq
    have hperm := layNew_perm t es ((intKind prog w).hash k) (.int k tok)
    have hfits := layNew_fits t es ((intKind prog w).hash k) (.int k tok)
    have hTI := hT.layNew es ((intKind prog w).hash k) (.int k tok)
    generalize hL : layNew t es ((intKind prog w).hash k) (.int k tok) = LL at hperm hfits hTI ⊢
    obtain ⟨es1, t1, wasDummy, gave⟩ := LL
    dsimp only at hperm hfits hTI ⊢
    rw [Array.toList_push] at hperm
    have hel1 : ElemsOf (intKind prog w) es1.toList := (hel.push hkey hsc).perm hperm
    have hsz1 : es1.size = es.size + 1 := by rw [← Array.length_toList, hperm.length_eq, List.length_append, Array.length_toList]; rfl
    have hmem1 : ∀ k', k' ∈ ns ++ [k] ↔ ∃ e ∈ es1.toList, (intKind prog w).is k' e.2 = true := fun k' => by
      rw [List.mem_append, hmem k', List.mem_singleton]
      constructor
      · rintro (⟨e, he, hp⟩ | rfl)
        · exact ⟨e, hperm.mem_iff.mpr (List.mem_append_left _ he), hp⟩
        · exact ⟨_, hperm.mem_iff.mpr (List.mem_append_right _ (List.mem_singleton.mpr rfl)), hkey⟩
      · rintro ⟨e, he, hp⟩
        rcases List.mem_append.mp (hperm.mem_iff.mp he) with he | he
        · exact .inl ⟨e, he, hp⟩
        · rw [List.mem_singleton] at he; subst he
          exact .inr ((intKind prog w).inj _ k' k hp hkey)
    have hend : ∀ (es2 : Array (Int × Value)) (t2 : SetTable), es2.toList.Perm es1.toList → t2.fits es2.size = true → TI (!byText w) t2 → ∀ ep', SetI prog w { o with data := .set es2 ep' t2 } (ns ++ [k]) := by
      intro es2 t2 hp hf2 hT2 ep'
      have hsz2 : es2.size = es1.size := by rw [← Array.length_toList, hp.length_eq, Array.length_toList]
      refine ⟨hex, es2, ep', t2, rfl, hel1.perm hp, fun k' => (hmem1 k').trans ⟨fun ⟨e, he, q⟩ => ⟨e, hp.mem_iff.mpr he, q⟩, fun ⟨e, he, q⟩ => ⟨e, hp.mem_iff.mp he, q⟩⟩, ?_, hf2, hT2⟩
      rw [List.length_append, List.length_singleton]; omega
    have hb1 : es1.size < scanBound := by omega
    have fin : ∀ (t2 : SetTable), t2.fits es1.size = true → TI (!byText w) t2 → ∀ {R : Option Bool → Shared → Prop} {g : Bool → Sem Unit}, (∀ h' o', Heap.SameBut a s.heap h' → h'.get? a = some o' → SetI prog w o' (ns ++ [k]) → R (some true) { s with heap := h' }) →
        (∀ (b : Bool) (s₁ : Shared) (Q' : Unit → Shared → Prop), Q' () s₁ → wpAny (model prog w) A (g b) Q' E s₁) → wpAny (model prog w) A (do
          storeSet a es1 t2
          if (!wasDummy && t2.tooFull) = true then do
              g (relayAll t2 es1 (SetTable.grown es1.size)).2.2
              storeSet a (relayAll t2 es1 (SetTable.grown es1.size)).1 (relayAll t2 es1 (SetTable.grown es1.size)).2.1
              pure (some true)
            else pure (some true)) R E s := by
      intro t2 hf2 hT2 R g hR hg
      refine addTail_I hg ho hd hb1 (fun h' ep' hsb hg' => hR h' _ hsb hg' (hend _ _ (List.Perm.refl _) hf2 hT2 _)) fun h' ep' hsb hg' => hR h' _ hsb hg' (hend _ _ (relayAll_perm _ _ _) (relayAll_fits _ _ _) (hT2.relayAll _ _) _)
    refine wpAny_bind (hgw _ ?_)
    split
    · refine wpAny_bind ?_
      rw [hashByValue_scannable 8 hsc]
      refine wpAny_pure ?_
      refine fin _ ?_ ?_ (fun h' o' hsb hg' hI => ?_) ?_
      · split
        · exact hfits
        · exact SetTable.fits_plain_off hfits
      · split
        · exact hTI
        · exact hTI.off
      · dsimp only; exact wpAny_pure (h true h' o' hsb hg' hI)
      · intro b s₁ Q' hq; cases b <;> first | exact wpAny_pure hq | exact wpAny_rule hq
    · refine wpAny_bind (wpAny_pure ?_)
      simp only [↓reduceIte]
      refine fin _ hfits hTI (fun h' o' hsb hg' hI => ?_) ?_
      · dsimp only; exact wpAny_pure (h true h' o' hsb hg' hI)
      · intro b s₁ Q' hq; cases b <;> first | exact wpAny_pure hq | exact wpAny_rule hq
end
end Mine
end

-- part S4
section
/-! a set walked: its order, its iterator -/
namespace Mine
set_option maxRecDepth 100000
theorem slot_si_next : Slot "set_iterator" "__next__" "set_iterator.__next__" :=
  .of (owner := "set_iterator") (n := "__next__") (by rw [typeLookup_type, builtinLookup_eq_fast]; kernel_rfl) (by decide +kernel) (by decide +kernel) (by decide +kernel)
    (by first | exact .inl (by decide +kernel) | exact .inr (by decide +kernel)) (by rw [isSubtype_type]; kernel_rfl)
theorem entry_si_next : entryFor table "set_iterator.__next__" = some Builtin.«set_iterator.__next__» := entryFor_of_fast (by kernel_rfl)
theorem args_si_next (a : Value) : argsOk "set_iterator.__next__" ⟨[a], []⟩ := by unfold argsOk; kernel_rfl
theorem slot_si_iter : Slot "set_iterator" "__iter__" "set_iterator.__iter__" :=
  .of (owner := "set_iterator") (n := "__iter__") (by rw [typeLookup_type, builtinLookup_eq_fast]; kernel_rfl) (by decide +kernel) (by decide +kernel) (by decide +kernel)
    (by first | exact .inl (by decide +kernel) | exact .inr (by decide +kernel)) (by rw [isSubtype_type]; kernel_rfl)
theorem entry_si_iter : entryFor table "set_iterator.__iter__" = some Builtin.«dict_keyiterator.__iter__» :=
  entryFor_alias (id' := "dict_keyiterator.__iter__") (by kernel_rfl) rfl (by decide +kernel) (by kernel_rfl)
theorem args_si_iter (a : Value) : argsOk "set_iterator.__iter__" ⟨[a], []⟩ := by unfold argsOk; kernel_rfl
theorem entry_set_iter : entryFor table "set.__iter__" = some Builtin.«frozenset.__iter__» :=
  entryFor_alias (id' := "frozenset.__iter__") (by kernel_rfl) rfl (by decide +kernel) (by kernel_rfl)
theorem erase_perm {α : Type} {l : List α} {i : Nat} (h : i < l.length) : (l[i] :: l.eraseIdx i).Perm l := by
  rw [List.eraseIdx_eq_take_drop_succ]
  refine List.perm_middle.symm.trans ?_
  rw [← List.drop_eq_getElem_cons h, List.take_append_drop]
theorem pick_go {α : Type} (next : Nat → Nat) : ∀ (fuel k : Nat) (left : List α) (out : Array α), fuel = left.length → (pickOrder.go next fuel k left out).toList.Perm (out.toList ++ left)
  | 0, k, left, out, h => by
    have : left = [] := List.eq_nil_of_length_eq_zero h.symm
    subst this
    unfold pickOrder.go
    simp
  | fuel + 1, k, left, out, h => by
    have hlt : next k % left.length < left.length := Nat.mod_lt _ (by omega)
    unfold pickOrder.go
    rw [List.getElem?_eq_getElem hlt]
    dsimp only
    refine (pick_go next fuel (k + 1) (left.eraseIdx (next k % left.length)) _ (by rw [List.length_eraseIdx_of_lt hlt]; omega)).trans ?_
    rw [Array.toList_push, List.append_assoc]
    refine List.Perm.append_left _ ?_
    exact erase_perm hlt
theorem pick_perm {α : Type} (next : Nat → Nat) (xs : Array α) : (pickOrder next xs).toList.Perm xs.toList := by
  have := pick_go next xs.size 0 xs.toList #[] (by simp)
  simpa [pickOrder] using this
section
variable {prog : Program} {w : World} {A : Around} {E : Value → Shared → Prop} {s : Shared}
theorem wpAny_choose {src : Source} {n : Nat} {Q : Nat → Shared → Prop} (hn : n ≠ 0) (h : ∀ i d, i < n → Q i { s with drawn := d }) : wpAny (model prog w) A (choose src n) Q E s := fun Γ p _ => by
  show Sem.wp _ _ (Sem.choose src n .pure) _ _ _ _
  rw [Sem.wp_choose]
  exact ⟨hn, h _ _ (Nat.mod_lt _ (Nat.pos_of_ne_zero hn))⟩
theorem draw_perm {α : Type} {Q : List α → Shared → Prop} : ∀ (n : Nat) (xs : List α) (s : Shared), n = xs.length → (∀ ys d, ys.Perm xs → Q ys { s with drawn := d }) → wpAny (model prog w) A (drawOrder n xs) Q E s
  | 0, xs, s, hn, h => by
    have : xs = [] := List.eq_nil_of_length_eq_zero hn.symm
    subst this
    unfold drawOrder
    exact wpAny_pure (h [] s.drawn (List.Perm.refl _))
  | n + 1, [], s, hn, h => by simp at hn
  | n + 1, x :: xs, s, hn, h => by
    unfold drawOrder
    refine wpAny_bind (wpAny_choose (by simp) fun i d hi => ?_)
    rw [List.getElem?_eq_getElem hi]
    dsimp only
    refine wpAny_bind (draw_perm n ((x :: xs).eraseIdx i) { s with drawn := d } (by rw [List.length_eraseIdx_of_lt hi]; simp at hn ⊢; omega) fun ys d' hp => ?_)
    exact wpAny_pure (h _ d' ((List.Perm.cons _ hp).trans (erase_perm hi)))
theorem byText_I {Q : Bool → Shared → Prop} (h : Q (byText w) s) : wpAny (model prog w) A setsByText Q E s := by
  unfold setsByText
  exact wpAny_bind (wpAny_askSetting (wpAny_pure h))
theorem drawn_I {a : Addr} {o : Obj} {es : Array (Int × Value)} {ep : Nat} {t : SetTable} {Q : Bool → Shared → Prop} (ho : s.heap.get? a = some o) (hd : o.data = .set es ep t) (hf : t.fits es.size = true) (h : Q (!byText w && (!t.plain && decide (es.size > 1))) s) :
    wpAny (model prog w) A (setDrawn a) Q E s := by
  unfold setDrawn
  refine wpAny_bind (wpAny_setState_of ho hd hf ?_)
  dsimp only
  refine wpAny_bind (byText_I ?_)
  exact wpAny_pure h
theorem next_text {a : Addr} {o : Obj} {es : Array (Int × Value)} {ep : Nat} {t : SetTable} {slot i : Nat} {Q : Option (Value × Nat) → Shared → Prop} (ho : s.heap.get? a = some o) (hd : o.data = .set es ep t) (hf : t.fits es.size = true) (hb : byText w = true)
    (h : Q (((pickOrder (w.params.setOrder a ep) es)[i]?).map fun e => (e.2, slot)) s) : wpAny (model prog w) A (setNext a slot i ep) Q E s := by
  unfold setNext
  refine wpAny_bind (wpAny_setState_of ho hd hf ?_)
  dsimp only
  refine wpAny_bind (byText_I ?_)
  rw [hb]
  simp only [if_true, bne_self_eq_false, Bool.false_eq_true, if_false]
  unfold setWalk
  refine wpAny_bind (wpAny_bind (wpAny_setState_of ho hd hf ?_))
  dsimp only
  refine wpAny_bind (byText_I ?_)
  rw [hb]
  simp only [if_true]
  refine wpAny_bind (wpAny_askSetting ?_)
  exact wpAny_pure (wpAny_pure h)
theorem next_plain {a : Addr} {o : Obj} {es : Array (Int × Value)} {ep : Nat} {t : SetTable} {slot i : Nat} {Q : Option (Value × Nat) → Shared → Prop} (ho : s.heap.get? a = some o) (hd : o.data = .set es ep t) (hf : t.fits es.size = true) (hb : byText w = false)
    (hdr : (!t.plain && decide (es.size > 1)) = false) (hled : t.led = true)
    (h : Q (match es[SetTable.below t.place slot]?, t.place[SetTable.below t.place slot]? with
      | some (_, x), some j => some (x, j + 1)
      | _, _ => none) s) : wpAny (model prog w) A (setNext a slot i ep) Q E s := by
  unfold setNext
  refine wpAny_bind (wpAny_setState_of ho hd hf ?_)
  dsimp only
  refine wpAny_bind (byText_I ?_)
  rw [hb]
  simp only [Bool.false_eq_true, if_false]
  refine wpAny_ite_split (fun e => ?_) fun _ => ?_
  · have e : (!t.plain && decide (es.size > 1)) = true := e
    rw [hdr] at e; cases e
  · refine wpAny_bind ?_
    show wpAny _ _ (if (!t.led && !es.isEmpty) = true then unsupported "set:maker-not-led" else pure ()) _ _ _
    rw [hled]
    simp only [Bool.not_true, Bool.false_and, Bool.false_eq_true, if_false]
    exact wpAny_pure (wpAny_pure h)
end
end Mine
end

-- part S5
section
/-! the set iterator's next -/
namespace Mine
set_option maxRecDepth 100000
abbrev siObj (first : Value) (a : Addr) (i n ep : Nat) : Obj := { cls := .type "set_iterator", data := .fields #[first, rawInt (i : Int), .ref a, rawInt (n : Int), rawInt (ep : Int)] }
section
variable {prog : Program} {w : World} {A : Around} {E : Value → Shared → Prop} {s : Shared} {I a : Addr} {i n ep : Nat} {first : Value} {o : Obj} {es : Array (Int × Value)} {t : SetTable}
theorem si_slot_item {slot nx : Nat} {tk : Tok} {x : Value} {Q : Option Value → Shared → Prop} (hit : s.heap.get? I = some (siObj (.int (slot : Int) tk) a i n ep)) (ho : s.heap.get? a = some o) (hd : o.data = .set es ep t) (hf : t.fits es.size = true) (hn : es.size = n)
    (hnx : ∀ (A' : Around) (Q' : Option (Value × Nat) → Shared → Prop) (E' : Value → Shared → Prop), Q' (some (x, nx)) s → wpAny (model prog w) A' (setNext a slot i ep) Q' E' s)
    (hQ : ∀ h', h'.get? I = some (siObj (rawInt (nx : Int)) a (i + 1) n ep) → Heap.SameBut I s.heap h' → Q (some x) { s with heap := h' }) : wpAny (model prog w) A (pyNext (.ref I)) Q E s := by
  have hT : s.TypeIs (.ref I) "set_iterator" := ⟨_, hit, rfl⟩
  unfold pyNext
  refine wpAny_bind (wpAny_attempt (wpAny_callSpecial?_slot (name := Str.ofString "__next__") hT slot_si_next (wpAny_call_entry slot_si_next hT entry_si_next ?_ (args_si_next _))))
  unfold Builtin.«set_iterator.__next__»
  refine wpAny_bind (m := slotArgs "__next__" 0 _) (wpAny_pure ?_)
  refine wpAny_bind (wpAny_fieldsOf hit rfl ?_)
  show wpAny _ _ (setEntries a >>= _) _ _ s
  refine wpAny_bind (wpAny_setEntries_of ho hd hf ?_)
  rw [if_neg (by rw [hn]; simp)]
  show wpAny _ _ (setNext a ((slot : Int)).toNat ((i : Int)).toNat ((ep : Int)).toNat >>= _) _ _ s
  rw [Int.toNat_natCast, Int.toNat_natCast, Int.toNat_natCast]
  refine wpAny_bind (hnx _ _ _ ?_)
  dsimp only
  refine wpAny_bind (wpAny_setField hit rfl (by simp) ?_)
  have h1 := Heap.get?_update_self (Obj.mapFields (·.setIfInBounds 0 (rawInt (nx : Int)))) hit rfl
  refine wpAny_bind (wpAny_setField (s := { s with heap := s.heap.update I (Obj.mapFields (·.setIfInBounds 0 (rawInt (nx : Int)))) }) h1 rfl (by simp [Obj.mapFields]) ?_)
  have h2 := Heap.get?_update_self (Obj.mapFields (·.setIfInBounds 1 (rawInt ((i : Int) + 1)))) h1 rfl
  refine wpAny_pure ⟨_, rfl, wpAny_pure (hQ _ ?_ ((Heap.SameBut.update ..).trans (Heap.SameBut.update ..)))⟩
  exact h2
theorem si_stop {Q : Option Value → Shared → Prop} {h : Heap} (hh : A.handled = none) (hQ : ∀ h', (∀ b o, h.get? b = some o → h'.get? b = some o) → Q none { s with heap := h' }) :
    wpAny (model prog w) A.in1 (do raiseNew (← newExc (.type "StopIteration") []) : Sem Fin) (fun _ _ => False)
      (fun e s' => wpAny (model prog w) A (do if ← isInstance e (.type "StopIteration") then pure none else throw e : Sem (Option Value)) Q E s') { s with heap := h } := by
  refine wpAny_bind ?_
  simp only [newExc, newTuple]
  refine wpAny_bind (wpAny_newObj_type ?_ (by size_fits))
  refine wpAny_bind (m := firstArgMember _ _) (wpAny_of_eq (a := Value.none) (by first | rfl | (simp only [firstArgMember]; rfl)) ?_)
  refine wpAny_newObj_type ?_ (by size_fits)
  simp only [raiseNew]
  refine wpAny_bind (wpAny_handled ?_)
  rw [show A.in1.handled = none from hh]
  refine wpAny_bind (wpAny_pure (wpAny_throw ?_))
  refine wpAny_bind (wpAny_isInstance (T := "StopIteration") (b := true) ⟨_, Heap.get?_push_size _ rfl, rfl⟩ isSubtype_stop ?_)
  exact wpAny_pure (hQ _ fun b o e => Heap.get?_push_of_some _ (Heap.get?_push_of_some _ e))
theorem si_slot_end {slot : Nat} {tk : Tok} {Q : Option Value → Shared → Prop} (hh : A.handled = none) (hit : s.heap.get? I = some (siObj (.int (slot : Int) tk) a i n ep)) (ho : s.heap.get? a = some o) (hd : o.data = .set es ep t) (hf : t.fits es.size = true) (hn : es.size = n)
    (hnx : ∀ (A' : Around) (Q' : Option (Value × Nat) → Shared → Prop) (E' : Value → Shared → Prop), Q' none s → wpAny (model prog w) A' (setNext a slot i ep) Q' E' s)
    (hQ : ∀ h', Heap.ExtBut I s.heap h' → Q none { s with heap := h' }) : wpAny (model prog w) A (pyNext (.ref I)) Q E s := by
  have hT : s.TypeIs (.ref I) "set_iterator" := ⟨_, hit, rfl⟩
  unfold pyNext
  refine wpAny_bind (wpAny_attempt (wpAny_callSpecial?_slot (name := Str.ofString "__next__") hT slot_si_next (wpAny_call_entry slot_si_next hT entry_si_next ?_ (args_si_next _))))
  unfold Builtin.«set_iterator.__next__»
  refine wpAny_bind (m := slotArgs "__next__" 0 _) (wpAny_pure ?_)
  refine wpAny_bind (wpAny_fieldsOf hit rfl ?_)
  show wpAny _ _ (setEntries a >>= _) _ _ s
  refine wpAny_bind (wpAny_setEntries_of ho hd hf ?_)
  rw [if_neg (by rw [hn]; simp)]
  show wpAny _ _ (setNext a ((slot : Int)).toNat ((i : Int)).toNat ((ep : Int)).toNat >>= _) _ _ s
  rw [Int.toNat_natCast, Int.toNat_natCast, Int.toNat_natCast]
  refine wpAny_bind (hnx _ _ _ ?_)
  dsimp only
  refine wpAny_bind (wpAny_setField hit rfl (by simp) ?_)
  refine wpAny_mono (si_stop (A := A) (s := s) (Q := Q) (E := E) hh fun h' hk => hQ h' fun b o hb e => hk b o ((Heap.get?_update_other _ _ (Ne.symm hb)).trans e)) (fun _ _ e => e.elim) fun _ _ e => e
theorem si_tup_item {T : Addr} {oT : Obj} {ps : List Nat} {c : Nat} {p : Nat} {hx : Int} {x : Value} {Q : Option Value → Shared → Prop} (hit : s.heap.get? I = some (siObj (.ref T) a i n ep)) (ho : s.heap.get? a = some o) (hd : o.data = .set es ep t) (hf : t.fits es.size = true) (hn : es.size = n)
    (hoT : s.heap.get? T = some oT) (hdT : oT.data = .seq (ps.map fun (p : Nat) => rawInt (p : Int)).toArray c) (hp : ps[i]? = some p) (hx : es[p]? = some (hx, x))
    (hQ : ∀ h', h'.get? I = some (siObj (.ref T) a (i + 1) n ep) → Heap.SameBut I s.heap h' → Q (some x) { s with heap := h' }) : wpAny (model prog w) A (pyNext (.ref I)) Q E s := by
  have hT : s.TypeIs (.ref I) "set_iterator" := ⟨_, hit, rfl⟩
  unfold pyNext
  refine wpAny_bind (wpAny_attempt (wpAny_callSpecial?_slot (name := Str.ofString "__next__") hT slot_si_next (wpAny_call_entry slot_si_next hT entry_si_next ?_ (args_si_next _))))
  unfold Builtin.«set_iterator.__next__»
  refine wpAny_bind (m := slotArgs "__next__" 0 _) (wpAny_pure ?_)
  refine wpAny_bind (wpAny_fieldsOf hit rfl ?_)
  show wpAny _ _ (setEntries a >>= _) _ _ s
  refine wpAny_bind (wpAny_setEntries_of ho hd hf ?_)
  rw [if_neg (by rw [hn]; simp)]
  show wpAny _ _ (seqItems? (.ref T) >>= _) _ _ s
  refine wpAny_bind (wpAny_seqItems hoT hdT ?_)
  have hpi : (ps.map fun (p : Nat) => rawInt (p : Int)).toArray[((i : Int)).toNat]? = some (rawInt (p : Int)) := by
    rw [Int.toNat_natCast, List.getElem?_toArray, List.getElem?_map, hp]; rfl
  dsimp only
  rw [hpi]
  show wpAny _ _ (setNextDrawn a ((p : Int)).toNat ((ep : Int)).toNat >>= _) _ _ s
  rw [Int.toNat_natCast, Int.toNat_natCast]
  unfold setNextDrawn
  refine wpAny_bind (wpAny_bind (wpAny_setState_of ho hd hf ?_))
  dsimp only
  rw [if_neg (by simp)]
  refine wpAny_bind (wpAny_pure ?_)
  rw [hx]
  refine wpAny_pure ?_
  refine wpAny_bind (wpAny_setField hit rfl (by simp) ?_)
  have h2 := Heap.get?_update_self (Obj.mapFields (·.setIfInBounds 1 (rawInt ((i : Int) + 1)))) hit rfl
  exact wpAny_pure ⟨_, rfl, wpAny_pure (hQ _ h2 (Heap.SameBut.update ..))⟩
theorem si_tup_end {T : Addr} {oT : Obj} {ps : List Nat} {c : Nat} {Q : Option Value → Shared → Prop} (hh : A.handled = none) (hit : s.heap.get? I = some (siObj (.ref T) a i n ep)) (ho : s.heap.get? a = some o) (hd : o.data = .set es ep t) (hf : t.fits es.size = true) (hn : es.size = n)
    (hoT : s.heap.get? T = some oT) (hdT : oT.data = .seq (ps.map fun (p : Nat) => rawInt (p : Int)).toArray c) (hp : ps[i]? = none)
    (hQ : ∀ h', Heap.ExtBut I s.heap h' → Q none { s with heap := h' }) : wpAny (model prog w) A (pyNext (.ref I)) Q E s := by
  have hT : s.TypeIs (.ref I) "set_iterator" := ⟨_, hit, rfl⟩
  unfold pyNext
  refine wpAny_bind (wpAny_attempt (wpAny_callSpecial?_slot (name := Str.ofString "__next__") hT slot_si_next (wpAny_call_entry slot_si_next hT entry_si_next ?_ (args_si_next _))))
  unfold Builtin.«set_iterator.__next__»
  refine wpAny_bind (m := slotArgs "__next__" 0 _) (wpAny_pure ?_)
  refine wpAny_bind (wpAny_fieldsOf hit rfl ?_)
  show wpAny _ _ (setEntries a >>= _) _ _ s
  refine wpAny_bind (wpAny_setEntries_of ho hd hf ?_)
  rw [if_neg (by rw [hn]; simp)]
  show wpAny _ _ (seqItems? (.ref T) >>= _) _ _ s
  refine wpAny_bind (wpAny_seqItems hoT hdT ?_)
  have hpi : (ps.map fun (p : Nat) => rawInt (p : Int)).toArray[((i : Int)).toNat]? = none := by
    rw [Int.toNat_natCast, List.getElem?_toArray, List.getElem?_map, hp]; rfl
  dsimp only
  rw [hpi]
  dsimp only
  refine wpAny_bind (wpAny_setField hit rfl (by simp) ?_)
  have h1 := Heap.get?_update_self (Obj.mapFields (·.setIfInBounds 0 (rawInt 0))) hit rfl
  refine wpAny_bind (wpAny_setField (s := { s with heap := s.heap.update I (Obj.mapFields (·.setIfInBounds 0 (rawInt 0))) }) h1 rfl (by simp [Obj.mapFields]) ?_)
  refine wpAny_mono (si_stop (A := A) (s := s) (Q := Q) (E := E) hh fun h' hk => hQ h' fun b o hb e => hk b o ((Heap.get?_update_other _ _ (Ne.symm hb)).trans ((Heap.get?_update_other _ _ (Ne.symm hb)).trans e))) (fun _ _ e => e.elim) fun _ _ e => e
end
end Mine
end

-- part S6
section
/-! iter(set) -/
namespace Mine
set_option maxRecDepth 100000
noncomputable def OutOf (out : List Value) (ns : List Int) : Prop := ∃ ms, IntsAre out ms ∧ ms.length ≤ ns.length ∧ ∀ k, k ∈ ms ↔ k ∈ ns
theorem ints_of : ∀ l : List Value, (∀ v ∈ l, ∃ k t, v = .int k t) → ∃ ms, IntsAre l ms ∧ ∀ k, k ∈ ms ↔ ∃ t, Value.int k t ∈ l
  | [], _ => ⟨[], .nil, fun k => by simp⟩
  | v :: l, h => by
    obtain ⟨ms, h1, h2⟩ := ints_of l fun x hx => h x (.tail _ hx)
    obtain ⟨k, t, rfl⟩ := h v (.head _)
    refine ⟨k :: ms, .cons k t h1, fun k' => ?_⟩
    rw [List.mem_cons, h2 k']
    constructor
    · rintro (rfl | ⟨t', h3⟩)
      · exact ⟨t, .head _⟩
      · exact ⟨t', .tail _ h3⟩
    · rintro ⟨t', h3⟩
      rcases List.mem_cons.mp h3 with e | h3
      · injection e with e _; exact .inl e
      · exact .inr ⟨t', h3⟩
theorem out_of {prog : Program} {w : World} {es : Array (Int × Value)} {ns : List Int} {out : List Value} (hel : ElemsOf (intKind prog w) es.toList) (hmem : ∀ k, k ∈ ns ↔ ∃ e ∈ es.toList, (intKind prog w).is k e.2 = true) (hle : es.size ≤ ns.length) (hp : out.Perm (es.toList.map (·.2))) : OutOf out ns := by
  have hin : ∀ v, v ∈ out ↔ ∃ e ∈ es.toList, e.2 = v := fun v => by rw [hp.mem_iff, List.mem_map]
  obtain ⟨ms, h1, h2⟩ := ints_of out fun v hv => by
    obtain ⟨e, he, rfl⟩ := (hin v).mp hv
    obtain ⟨⟨k, hk, _⟩, _⟩ := hel e he
    obtain ⟨t, ht⟩ := Value.isInt_shape hk
    exact ⟨k, t, ht⟩
  refine ⟨ms, h1, ?_, fun k => ?_⟩
  · rw [← h1.length, hp.length_eq, List.length_map, Array.length_toList]; exact hle
  · rw [h2 k, hmem k]
    constructor
    · rintro ⟨t, ht⟩
      obtain ⟨e, he, e2⟩ := (hin _).mp ht
      exact ⟨e, he, by rw [e2]; exact intKind_is _ _ _ _⟩
    · rintro ⟨e, he, hk⟩
      obtain ⟨t, ht⟩ := Value.isInt_shape hk
      exact ⟨t, (hin _).mpr ⟨e, he, ht⟩⟩
section
variable {prog : Program} {w : World} {A : Around} {E : Value → Shared → Prop} {s : Shared} {I a T : Addr} {n ep : Nat} {o oT : Obj} {F : Nat → Value → Prop} {out : List Value}
theorem si_walks (hne : a ≠ I) (hneT : T ≠ I)
    (hitem : ∀ i v (s : Shared) (Q : Option Value → Shared → Prop) (E : Value → Shared → Prop), i < out.length → F i v → s.heap.get? I = some (siObj v a i n ep) → s.heap.get? a = some o → s.heap.get? T = some oT →
      (∀ x v' h', out[i]? = some x → F (i + 1) v' → h'.get? I = some (siObj v' a (i + 1) n ep) → Heap.SameBut I s.heap h' → Q (some x) { s with heap := h' }) → wpAny (model prog w) A (pyNext (.ref I)) Q E s)
    (hdone : ∀ v (s : Shared) (Q : Option Value → Shared → Prop) (E : Value → Shared → Prop), F out.length v → s.heap.get? I = some (siObj v a out.length n ep) → s.heap.get? a = some o → s.heap.get? T = some oT →
      (∀ h', Heap.ExtBut I s.heap h' → Q none { s with heap := h' }) → wpAny (model prog w) A (pyNext (.ref I)) Q E s) :
    Walks prog w A I [I, a, T] [I] out.length (fun i x => out[i]? = some x) (fun i h => ∃ v, F i v ∧ h.get? I = some (siObj v a i n ep) ∧ h.get? a = some o ∧ h.get? T = some oT) where
  sub := fun b hb => by rw [List.mem_singleton.mp hb]; exact .head _
  frame := fun i h h' ⟨v, h1, h2, h3, h4⟩ hk => ⟨v, h1, hk I (.head _) _ h2, hk a (.tail _ (.head _)) _ h3, hk T (.tail _ (.tail _ (.head _))) _ h4⟩
  item := fun i s Q E hi ⟨v, h1, h2, h3, h4⟩ hQ => hitem i v s Q E hi h1 h2 h3 h4 fun x v' h' k1 k2 k3 k4 =>
    hQ x h' s.toks k1 ⟨v', k2, k3, (k4.2 a hne).trans h3, (k4.2 T hneT).trans h4⟩ fun b o' hb e => (k4.2 b (fun e2 => hb (by rw [e2]; exact .head _))).trans e
  done := fun s Q E ⟨v, h1, h2, h3, h4⟩ hQ => hdone v s Q E h1 h2 h3 h4 fun h' k => hQ h' s.toks fun b o' hb e => k b o' (fun e2 => hb (by rw [e2]; exact .head _)) e
  self := fun i s Q E ⟨v, h1, h2, h3, h4⟩ hQ => by
    have hT : s.TypeIs (.ref I) "set_iterator" := ⟨_, h2, rfl⟩
    refine wpAny_pyIter_slot hT slot_si_iter (wpAny_call_entry slot_si_iter hT entry_si_iter ?_ (args_si_iter _))
    show wpAny _ _ (ret (.ref I)) _ _ s
    exact wpAny_pure ⟨_, rfl, "set_iterator", _, hT, slot_si_next.lookup, hQ⟩
/-- where the walk by places stands -/
noncomputable def slotAt (t : SetTable) : Nat → Nat
  | 0 => 0
  | i + 1 => t.place.getD i 0 + 1
theorem below_slot {t : SetTable} (hR : Rise t.place) : ∀ i, i ≤ t.place.size → SetTable.below t.place (slotAt t i) = i
  | 0, _ => below_zero t.place hR
  | i + 1, h => below_next t.place hR i (by omega)
theorem set_iter {ns : List Int} {Q : Value → Shared → Prop} (ho : s.heap.get? a = some o) (hI : SetI prog w o ns) (hn100 : ns.length ≤ 100)
    (h : ∀ I T h' dr St (out : List Value), s.heap.objs.size ≤ I → (T = a ∨ s.heap.objs.size ≤ T) → I < h'.objs.size → T < h'.objs.size → (∀ b o, s.heap.get? b = some o → h'.get? b = some o) →
      (∀ A' : Around, A'.handled = none → Walks prog w A' I [I, a, T] [I] out.length (fun i x => out[i]? = some x) St) → St 0 h' → OutOf out ns → Q (.ref I) { s with heap := h', drawn := dr }) :
    wpAny (model prog w) A (pyIter (.ref a)) Q E s := by
  obtain ⟨hex, es, ep, t, hd, hel, hmem, hle, hf, hTI⟩ := hI
  have hT : s.TypeIs (.ref a) "set" := ⟨o, ho, hex.1⟩
  have hal : a < s.heap.objs.size := Heap.lt_size ho
  refine wpAny_pyIter_slot hT F.slot_set_iter (wpAny_call_entry F.slot_set_iter hT entry_set_iter ?_ (F.args_set_iter_1 _))
  unfold Builtin.«frozenset.__iter__» Builtin.Frozenset.slot0
  refine wpAny_bind (wpAny_bind (m := slotArgs "__iter__" 0 _) (wpAny_pure ?_))
  show wpAny _ _ (pure a) _ _ s
  refine wpAny_pure ?_
  unfold Builtin.Frozenset.sizeOf
  refine wpAny_bind (wpAny_bind (wpAny_setEntries_of ho hd hf (wpAny_pure ?_)))
  refine wpAny_bind (drawn_I ho hd hf ?_)
  have hpl : t.place.size = es.size := by
    unfold SetTable.fits at hf
    simp only [Bool.and_eq_true, beq_iff_eq] at hf
    exact hf.1
  by_cases hb : byText w = true
  · rw [hb]
    simp only [Bool.not_true, Bool.false_and, Bool.false_eq_true, if_false]
    refine wpAny_bind (wpAny_pure ?_)
    refine wpAny_bind (wpAny_setEpoch_of ho hd hf ?_)
    refine wpAny_bind (wpAny_newObj_type ?_)
    refine wpAny_pure ⟨_, rfl, "set_iterator", _, ⟨_, Heap.get?_push_size _ rfl, rfl⟩, slot_si_next.lookup, ?_⟩
    have hperm := pick_perm (w.params.setOrder a ep) es
    have hlen : ((pickOrder (w.params.setOrder a ep) es).toList.map (·.2)).length = es.size := by rw [List.length_map, hperm.length_eq, Array.length_toList]
    have hgi : (s.heap.push (siObj (rawInt 0) a 0 es.size ep)).get? s.heap.objs.size = some (siObj (rawInt 0) a 0 es.size ep) := Heap.get?_push_size _ rfl
    refine h s.heap.objs.size a _ s.drawn (fun i h => ∃ v, (∃ (slot : Nat) (tk : Tok), v = .int (slot : Int) tk) ∧ h.get? s.heap.objs.size = some (siObj v a i es.size ep) ∧ h.get? a = some o ∧ h.get? a = some o) ((pickOrder (w.params.setOrder a ep) es).toList.map (·.2)) (Nat.le_refl _) (.inl rfl) (Heap.lt_size hgi) (by rw [Heap.size_push]; exact Nat.lt_succ_of_lt hal) (fun b o e => Heap.get?_push_of_some _ e) (fun A' hh => ?_) ⟨_, ⟨0, 0, rfl⟩, hgi, Heap.get?_push_of_some _ ho, Heap.get?_push_of_some _ ho⟩ (out_of hel hmem hle (hperm.map _))
    refine si_walks (F := fun _ v => ∃ (slot : Nat) (tk : Tok), v = .int (slot : Int) tk) (Nat.ne_of_lt hal) (Nat.ne_of_lt hal) (fun i v s' Q' E' hi hv k1 k2 _ hQ => ?_) (fun v s' Q' E' hv k1 k2 _ hQ => ?_)
    · obtain ⟨slot, tk, rfl⟩ := hv
      have hi2 : i < (pickOrder (w.params.setOrder a ep) es).toList.length := by rw [List.length_map] at hi; exact hi
      have hget : (pickOrder (w.params.setOrder a ep) es)[i]? = some ((pickOrder (w.params.setOrder a ep) es).toList[i]) := by rw [← Array.getElem?_toList]; exact List.getElem?_eq_getElem hi2
      refine si_slot_item (nx := slot) k1 k2 hd hf rfl (fun A2 Q2 E2 q => next_text k2 hd hf hb (by rw [hget]; exact q)) fun h' e1 e2 => hQ _ _ h' ?_ ⟨slot, 0, rfl⟩ e1 e2
      rw [List.getElem?_map, List.getElem?_eq_getElem hi2]; rfl
    · obtain ⟨slot, tk, rfl⟩ := hv
      refine si_slot_end hh k1 k2 hd hf rfl (fun A2 Q2 E2 q => next_text k2 hd hf hb ?_) hQ
      have : (pickOrder (w.params.setOrder a ep) es)[((pickOrder (w.params.setOrder a ep) es).toList.map (·.2)).length]? = none := by
        rw [← Array.getElem?_toList]; exact List.getElem?_eq_none (by rw [List.length_map]; exact Nat.le_refl _)
      rw [this]; exact q
  · have hb : byText w = false := (Bool.not_eq_true _).mp hb
    have hled : t.led = true := by rw [hTI.1, hb]; rfl
    rw [hb]
    by_cases hdr : (!t.plain && decide (es.size > 1)) = true
    · rw [hdr]
      simp only [Bool.not_false, Bool.true_and, if_true]
      refine wpAny_bind ((draw_perm es.size (List.range es.size) s (by simp) fun ys d hys => ?_))
      have hyl : ys.length = es.size := by rw [hys.length_eq, List.length_range]
      refine wpAny_bind (wpAny_newTuple (items := ys.map fun (i : Nat) => rawInt (i : Int)) ?_ (by rw [List.length_map, hyl, PySem.sizeLine_eq]; omega))
      dsimp only
      generalize hto : ({ cls := .type "tuple", data := .seq (ys.map fun (i : Nat) => rawInt (i : Int)).toArray } : Obj) = tO
      have hgT : (s.heap.push tO).get? s.heap.objs.size = some tO := Heap.get?_push_size _ (by rw [← hto]; rfl)
      refine wpAny_bind (wpAny_setEpoch_of (s := { s with heap := s.heap.push tO, drawn := d }) (Heap.get?_push_of_some _ ho) hd hf ?_)
      refine wpAny_bind (wpAny_newObj_type ?_)
      refine wpAny_pure ⟨_, rfl, "set_iterator", _, ⟨_, Heap.get?_push_size _ rfl, rfl⟩, slot_si_next.lookup, ?_⟩
      have hgi : ((s.heap.push tO).push (siObj (.ref s.heap.objs.size) a 0 es.size ep)).get? (s.heap.push tO).objs.size = some (siObj (.ref s.heap.objs.size) a 0 es.size ep) := Heap.get?_push_size _ rfl
      have hsz : (s.heap.push tO).objs.size = s.heap.objs.size + 1 := Heap.size_push _ _
      have up : ∀ b o, s.heap.get? b = some o → ((s.heap.push tO).push (siObj (.ref s.heap.objs.size) a 0 es.size ep)).get? b = some o := fun b o e => Heap.get?_push_of_some _ (Heap.get?_push_of_some _ e)
      have hmp : (ys.map fun j => ((es.toList[j]?).map (·.2)).getD .none).length = es.size ∧ (ys.map fun j => ((es.toList[j]?).map (·.2)).getD .none).Perm (es.toList.map (·.2)) ∧ ∀ i, i < es.size → ∃ p, ys[i]? = some p ∧ ∃ hx x, es[p]? = some (hx, x) ∧ (ys.map fun j => ((es.toList[j]?).map (·.2)).getD .none)[i]? = some x := by
        have hlt : ∀ p ∈ ys, p < es.size := fun p hp => List.mem_range.mp (hys.mem_iff.mp hp)
        refine ⟨by rw [List.length_map, hyl], (hys.map _).trans (List.Perm.of_eq (List.ext_getElem (by simp) fun i h1 h2 => ?_)), fun i hi => ?_⟩
        · rw [List.length_map, List.length_range] at h1
          simp [h1]
        · have hiy : i < ys.length := by omega
          have hp := hlt ys[i] (List.getElem_mem hiy)
          refine ⟨ys[i], List.getElem?_eq_getElem hiy, es[ys[i]].1, es[ys[i]].2, Array.getElem?_eq_getElem hp, ?_⟩
          rw [List.getElem?_map, List.getElem?_eq_getElem hiy]
          simp [hp]
      refine h (s.heap.push tO).objs.size s.heap.objs.size _ d (fun i h => ∃ v, v = Value.ref s.heap.objs.size ∧ h.get? (s.heap.push tO).objs.size = some (siObj v a i es.size ep) ∧ h.get? a = some o ∧ h.get? s.heap.objs.size = some tO) (ys.map fun j => ((es.toList[j]?).map (·.2)).getD .none) (by rw [hsz]; exact Nat.le_succ _) (.inr (Nat.le_refl _)) (Heap.lt_size hgi) (Heap.lt_size (Heap.get?_push_of_some _ hgT)) up (fun A' hh => ?_) ⟨_, rfl, hgi, up _ _ ho, Heap.get?_push_of_some _ hgT⟩ (out_of hel hmem hle hmp.2.1)
      refine si_walks (F := fun _ v => v = Value.ref s.heap.objs.size) (by rw [hsz]; exact Nat.ne_of_lt (Nat.lt_succ_of_lt hal)) (by rw [hsz]; exact Nat.ne_of_lt (Nat.lt_succ_self _)) (fun i v s' Q' E' hi hv k1 k2 k3 hQ => ?_) (fun v s' Q' E' hv k1 k2 k3 hQ => ?_)
      · subst hv
        obtain ⟨p, e1, hx, x, e2, e3⟩ := hmp.2.2 i (by rw [hmp.1] at hi; exact hi)
        exact si_tup_item k1 k2 hd hf rfl k3 (by rw [← hto]) e1 e2 fun h' e4 e5 => hQ x _ h' e3 rfl e4 e5
      · subst hv
        exact si_tup_end hh k1 k2 hd hf rfl k3 (by rw [← hto]) (List.getElem?_eq_none (by rw [hmp.1, hyl]; exact Nat.le_refl _)) hQ
    · have hdr : (!t.plain && decide (es.size > 1)) = false := (Bool.not_eq_true _).mp hdr
      rw [hdr]
      simp only [Bool.not_false, Bool.and_false, Bool.false_eq_true, if_false]
      refine wpAny_bind (wpAny_pure ?_)
      refine wpAny_bind (wpAny_setEpoch_of ho hd hf ?_)
      refine wpAny_bind (wpAny_newObj_type ?_)
      refine wpAny_pure ⟨_, rfl, "set_iterator", _, ⟨_, Heap.get?_push_size _ rfl, rfl⟩, slot_si_next.lookup, ?_⟩
      have hR : Rise t.place := by
        by_cases hp : t.plain = true
        · exact (hTI.2 hp).1
        · have hp : t.plain = false := (Bool.not_eq_true _).mp hp
          rw [hp] at hdr
          have hs1 : es.size ≤ 1 := by
            have := of_decide_eq_false (by simpa using hdr : decide (es.size > 1) = false)
            omega
          unfold Rise
          match hl : t.place.toList with
          | [] => exact .nil
          | [x] => exact List.pairwise_singleton _ _
          | x :: y :: r =>
            have := congrArg List.length hl
            rw [Array.length_toList, hpl] at this
            simp at this
            omega
      have hgi : (s.heap.push (siObj (rawInt 0) a 0 es.size ep)).get? s.heap.objs.size = some (siObj (rawInt 0) a 0 es.size ep) := Heap.get?_push_size _ rfl
      refine h s.heap.objs.size a _ s.drawn (fun i h => ∃ v, v = rawInt ((slotAt t i : Nat) : Int) ∧ h.get? s.heap.objs.size = some (siObj v a i es.size ep) ∧ h.get? a = some o ∧ h.get? a = some o) (es.toList.map (·.2)) (Nat.le_refl _) (.inl rfl) (Heap.lt_size hgi) (by rw [Heap.size_push]; exact Nat.lt_succ_of_lt hal) (fun b o e => Heap.get?_push_of_some _ e) (fun A' hh => ?_) ⟨_, rfl, hgi, Heap.get?_push_of_some _ ho, Heap.get?_push_of_some _ ho⟩ (out_of hel hmem hle (List.Perm.refl _))
      refine si_walks (F := fun i v => v = rawInt ((slotAt t i : Nat) : Int)) (Nat.ne_of_lt hal) (Nat.ne_of_lt hal) (fun i v s' Q' E' hi hv k1 k2 _ hQ => ?_) (fun v s' Q' E' hv k1 k2 _ hQ => ?_)
      · subst hv
        have hi2 : i < es.size := by rw [List.length_map, Array.length_toList] at hi; exact hi
        refine si_slot_item (nx := slotAt t (i + 1)) (x := es[i].2) k1 k2 hd hf rfl (fun A2 Q2 E2 q => next_plain k2 hd hf hb hdr hled ?_) fun h' e1 e2 => hQ _ _ h' ?_ rfl e1 e2
        · rw [below_slot hR i (by omega), Array.getElem?_eq_getElem hi2, Array.getElem?_eq_getElem (by omega : i < t.place.size)]
          have e9 : t.place[i] + 1 = slotAt t (i + 1) := by simp [slotAt, Array.getD, (by omega : i < t.place.size)]
          dsimp only
          rw [e9]; exact q
        · rw [List.getElem?_map, Array.getElem?_toList, Array.getElem?_eq_getElem hi2]; rfl
      · subst hv
        refine si_slot_end hh k1 k2 hd hf rfl (fun A2 Q2 E2 q => next_plain k2 hd hf hb hdr hled ?_) hQ
        rw [List.length_map, Array.length_toList, below_slot hR _ (by omega), Array.getElem?_eq_none (Nat.le_refl _)]
        exact q
end
end Mine
end

-- part S3
section
/-! set(list): the loop and the call -/
namespace Mine
section
variable {prog : Program} {w : World} {A : Around} {R : Result → Shared → Prop} {I : Addr} {fp wr : List Addr} {G : Array GenState → Array GenState → Prop} {n : Nat} {P : Nat → Value → Prop} {St : Nat → Shared → Prop}
theorem set_loop (W : WalksS prog w A.in1 I fp wr G n P St) (S : Addr) (hSf : S ∉ fp) (ns : List Int) (hval : ∀ i v, P i v → ∃ k t, ns[i]? = some k ∧ v = .int k t) (hn : ns.length = n) (hb : n + 1 < scanBound) :
    ∀ (k i : Nat) (s : Shared) (o : Obj), n - i = k → i ≤ n → St i s → s.heap.get? S = some o → SetI prog w o (ns.take i) →
      (∀ s' o', Moved (S :: wr) G s s' → s'.heap.get? S = some o' → SetI prog w o' ns → R (.ok (.ret .none)) s') →
      codeAny (model prog w) A (.builtin "set.update.loop" ⟨[.ref S, .ref I], []⟩) R s := by
  have hSw : S ∉ wr := fun h => hSf (W.sub _ h)
  have hsub : ∀ b ∈ wr, b ∈ S :: wr := fun b hb => List.mem_cons_of_mem _ hb
  intro k
  induction k with
  | zero =>
    intro i s o hk hi hst ho hI hR
    have hin : i = n := by omega
    subst hin
    refine codeAny_builtin F.entry_set_update_loop ?_
    rw [Around.under_plainId F.plain_set_update_loop _]
    show wpAny _ A.in1 (pyNext (.ref I) >>= _) _ _ s
    refine wpAny_bind (W.done s _ _ hst fun s' hm => ?_)
    show wpAny _ A.in1 (ret Value.none) _ _ s'
    exact wpAny_pure (hR s' o (hm.mono hsub) (hm.heap S _ hSw ho) (by rw [← hn, List.take_length] at hI; exact hI))
  | succ k ih =>
    intro i s o hk hi hst ho hI hR
    have hlt : i < n := by omega
    refine codeAny_builtin F.entry_set_update_loop ?_
    rw [Around.under_plainId F.plain_set_update_loop _]
    show wpAny _ A.in1 (pyNext (.ref I) >>= _) _ _ s
    refine wpAny_bind (W.item i s _ _ hlt hst fun v s' hP hst' hm => ?_)
    obtain ⟨kk, t, hkk, rfl⟩ := hval i v hP
    have ho' := hm.heap S _ hSw ho
    show wpAny _ A.in1 (holding [Value.int kk t] (setAdd S (.int kk t)) >>= _) _ _ s'
    refine wpAny_bind (wpAny_holding ?_)
    unfold setAdd
    refine wpAny_holding ?_
    refine wpAny_bind ((intKind prog w).pyHash (k := kk) (intKind_is _ _ _ _) ?_)
    refine setAdd_I (s := { s' with toks := s'.toks + 1 }) ho' hI (by rw [List.length_take]; omega) fun b h' o2 hsb ho2 hI2 => ?_
    have et : ns.take i ++ [kk] = ns.take (i + 1) := by rw [List.take_add_one, hkk]; rfl
    rw [et] at hI2
    refine wpAny_pure ⟨plainId_quiet F.plain_set_update_loop _, ih (i + 1) _ o2 (by omega) hlt (W.frame _ s' _ _ hst' (Nat.le_succ _) fun b hb o e => ?_) ho2 hI2 fun s'' o3 hm'' ho3 hI3 => ?_⟩
    · rw [hsb.2 b (fun h : b = S => hSf (by rw [← h]; exact hb))]; exact e
    · refine hR s'' o3 (Moved.trans W.gtrans ((hm.mono hsub).then_heap (Nat.le_succ _) fun b o hb e => ?_) hm'') ho3 hI3
      rw [hsb.2 b (fun h : b = S => hb (by rw [h]; exact List.mem_cons_self))]; exact e
end
section
variable {prog : Program} {w : World} {A : Around} {E : Value → Shared → Prop} {s : Shared}
noncomputable abbrev newSetObj (w : World) : Obj := { cls := .type "set", dict := none, data := .set #[] 0 (.fresh 0 0 (!byText w)) }
theorem setNew_I (a : Value) {Q₁ : Value → Shared → Prop} (h : Q₁ (.ref s.heap.objs.size) { s with heap := s.heap.push (newSetObj w) }) :
    codeAny (model prog w) A (.call (.builtin "set.__new__") ⟨[.type "set", a], []⟩) (wants Q₁ E) s := by
  refine codeAny_of_tree ?_
  show wpAny _ A.in1 (do checkBuiltinCall "set.__new__" ⟨[.type "set", a], []⟩; again (.builtin "set.__new__" ⟨[.type "set", a], []⟩)) _ _ s
  refine wpAny_bind (wpAny_of_eq (F.newCall_set_1 a) (wpAny_pure ⟨plainId_quiet F.plain_set_new _, codeAny_builtin F.entry_set_new ?_⟩))
  rw [Around.under_plainId F.plain_set_new _]
  unfold Builtin.«set.__new__» Builtin.Frozenset.newClass
  have hsub := sub_set_self
  obtain ⟨hp, g, d, tk, os⟩ := s
  dsimp only
  wp_walk
  refine wpAny_askSetting (wpAny_pure ?_)
  dsimp only
  simp only [newObj]
  refine wpAny_bind (wpAny_alloc (wpAny_pure ?_))
  exact wpAny_pure h
theorem newSet_I (prog : Program) (w : World) : SetI prog w (newSetObj w) [] :=
  ⟨⟨rfl, rfl, rfl⟩, #[], 0, _, rfl, fun e he => by simp at he, fun k => by simp, Nat.le_refl _, by rfl, TI.fresh 0 0 _⟩
set_option maxRecDepth 100000 in
set_option maxHeartbeats 3200000 in
theorem callSet_I {l : Addr} {items : Array Value} {ns : List Int} {Q : Value → Shared → Prop} (hh : A.handled = none) (hl : s.heap.IsList l items) (hi : IntsAre items.toList ns) (hb : items.size + 1 < scanBound)
    (h : ∀ (h' : Heap) (tk : Nat) (o : Obj), h'.get? s.heap.objs.size = some o → SetI prog w o ns → (∀ b o, b < s.heap.objs.size → s.heap.get? b = some o → h'.get? b = some o) → Q (.ref s.heap.objs.size) { s with heap := h', toks := tk }) :
    wpAny (model prog w) A (call (.type "set") [.ref l]) Q E s := by
  obtain ⟨c, tl, hmro⟩ := F.called_set.mro
  have hmade := F.called_set.made
  have hsub := F.called_set.sub
  refine wpAny_call (codeAny_of_tree ?_)
  show wpAny _ _ (callAny (.type "set") _) _ _ _
  refine wpAny_pure ⟨Code.quiet_builtin _ (by decide +kernel), codeAny_builtin F.entry_type_call ?_⟩
  rw [Around.under_plain (weight_type_call_type "set" [.ref l] []) rfl]
  have h1 := F.called_set.notType
  have h2 := F.called_set.canCreate
  have hct := F.typeCall_set_1 (.ref l)
  repeat (any_goals (first | assumption | wp_step))
  refine codeAny_mono (setNew_I (.ref l) (E := E) (Q₁ := fun obj s₁ => obj = .ref s.heap.objs.size ∧ s₁ = { s with heap := s.heap.push (newSetObj w) }) ⟨rfl, rfl⟩) fun r s₁ hr => ?_
  cases r with
  | error e => exact hr
  | ok fl =>
    cases fl with
    | ret obj =>
      obtain ⟨rfl, rfl⟩ := hr
      have hS : (s.heap.push (newSetObj w)).get? s.heap.objs.size = some (newSetObj w) := Heap.get?_push_size _ rfl
      have hT : Shared.TypeIs { s with heap := s.heap.push (newSetObj w) } (.ref s.heap.objs.size) "set" := ⟨_, hS, rfl⟩
      have hli := F.called_set.init.lookup
      have hbi := F.called_set.init.bind (.ref s.heap.objs.size)
      repeat (any_goals (first | assumption | wp_step))
      refine codeAny_mono (codeAny_call_builtin (R := wants (fun r s₂ => r = .none ∧ ∃ h' tk o, s₂ = { s with heap := h', toks := tk } ∧ h'.get? s.heap.objs.size = some o ∧ SetI prog w o ns ∧
          (∀ b o, b < s.heap.objs.size → s.heap.get? b = some o → h'.get? b = some o)) E) F.called_set.init.plain F.entry_set_init (check_set_init_1 hT ?_)) fun r₂ s₂ hr₂ => ?_
      · obtain ⟨ol, hol, hcl, nl, hdl⟩ := hl
        obtain ⟨ocls, odict, odata, oslots⟩ := ol
        simp only at hcl hdl
        subst hcl; subst hdl
        have hol' : (s.heap.push (newSetObj w)).get? l = some { cls := .type "list", dict := odict, data := .seq items nl, slots := oslots } := Heap.get?_push_of_some _ hol
        have hsls := F.sub_list_set
        have hslf := F.sub_list_frozenset
        have hne : (Value.type "list" == Value.type "dict") = false := by decide
        have hl1 : (s.heap.push (newSetObj w)).IsList l items := ⟨_, hol', rfl, nl, rfl⟩
        unfold Builtin.«set.__init__» noKeywords Builtin.Frozenset.updateFrom
        generalize hPI : pyIter = PI
        wp_walk
        subst hPI
        refine wpAny_pyIter_list hl1 ?_
        refine wpAny_bind (wpAny_runValue ?_)
        have hlS : l < s.heap.objs.size := Heap.lt_size hol
        have hh3 : A.in1.in1.in1.handled = none := by simp [hh]
        have hneI : l ≠ (s.heap.push (newSetObj w)).objs.size := by
          rw [Heap.size_push]; exact Nat.ne_of_lt (Nat.lt_succ_of_lt hlS)
        have hSf : s.heap.objs.size ∉ [(s.heap.push (newSetObj w)).objs.size, l] := by
          rw [Heap.size_push]; simp only [List.mem_cons, List.not_mem_nil, or_false, not_or]
          exact ⟨Nat.ne_of_lt (Nat.lt_succ_self _), Nat.ne_of_gt hlS⟩
        have hil : ns.length = items.size := by rw [← hi.length, Array.length_toList]
        refine set_loop ((Walks.list hh3 _ l hneI items).toS) s.heap.objs.size hSf ns (fun i v hv => ?_) hil hb (items.size - 0) 0 _ (newSetObj w) (by omega) (Nat.zero_le _)
          ⟨⟨_, Heap.get?_push_size _ rfl, rfl, rfl⟩, (hl1.push _)⟩ (Heap.get?_push_of_some _ hS) (newSet_I prog w) fun s' o' hm ho' hI' => ?_
        · have hv : items[i]? = some v := hv
          obtain ⟨k, t, e, hk⟩ := hi.at i v (by rw [Array.getElem?_toList]; exact hv)
          exact ⟨k, t, hk, e⟩
        · obtain ⟨h', g', d', tk', os'⟩ := s'
          have eg : g' = s.gens := hm.gens
          have ed : d' = s.drawn := hm.drawn
          have eo : os' = s.os := hm.os
          subst eg; subst ed; subst eo
          show wpAny _ _ _ _ _ _
          refine wpAny_pure ?_
          show wpAny _ _ (ret Value.none) _ _ _
          refine wpAny_pure ⟨rfl, h', tk', o', rfl, ho', hI', fun b o hb e => ?_⟩
          have hb1 : b ≠ s.heap.objs.size := Nat.ne_of_lt hb
          have hb2 : b ≠ (s.heap.push (newSetObj w)).objs.size := by
            rw [Heap.size_push]; exact Nat.ne_of_lt (Nat.lt_succ_of_lt hb)
          exact hm.heap b o (by simp only [List.mem_cons, List.not_mem_nil, or_false, not_or]; exact ⟨hb1, hb2⟩) (Heap.get?_push_of_some _ (Heap.get?_push_of_some _ e))
      · cases r₂ with
        | error e => exact hr₂
        | ok fl₂ =>
          cases fl₂ with
          | ret r =>
            obtain ⟨rfl, h', tk, o, rfl, ho', hI', hk'⟩ := hr₂
            repeat (any_goals (first | assumption | wp_step))
            exact h _ _ o ho' hI' hk'
          | _ => exact hr₂.elim
    | _ => exact hr.elim
theorem set_of_list {h₀ : Heap} {L : Addr} {m : Str → Option Value} {news : List (Addr × Obj)} {l : Addr} {c : Nat} {vs : List Value} {ns : List Int} {Q : Value → Shared → Prop} (hh : A.handled = none) (F : Fr h₀ L s.heap m) (N : News h₀ L s.heap news) (hm : (l, listOf vs.toArray c) ∈ news) (hi : IntsAre vs ns) (hb : ns.length ≤ 100)
    (h : ∀ D h' (tk : Nat) o, Fr h₀ L h' m → News h₀ L h' ((D, o) :: news) → (∀ p ∈ news, p.1 < D) → SetI prog w o ns → Q (.ref D) { s with heap := h', toks := tk }) :
    wpAny (model prog w) A (call (.type "set") [.ref l]) Q E s := by
  have hvl := hi.length
  refine callSet_I hh (PySem.IsL.isList (n := c) (N _ hm).1) (by simpa using hi) (by rw [List.size_toArray]; unfold scanBound; omega) fun h' tk o ho hI hk => ?_
  have keep : ∀ b o, s.heap.get? b = some o → h'.get? b = some o := fun b o e => hk b o (Heap.lt_size e) e
  refine h _ h' tk o (F.keeps keep) (fun p hp => ?_) (fun p hp => Heap.lt_size (N p hp).1) hI
  rcases List.mem_cons.mp hp with rfl | hp
  · exact ⟨ho, Nat.ne_of_gt F.ns.lt, next_is_new F⟩
  · exact ⟨keep _ _ (N p hp).1, (N p hp).2⟩
end
end Mine
end

-- part S7
section
/-! sorted(set) -/
namespace Mine
set_option maxRecDepth 100000
section
variable {prog : Program} {w : World} {A : Around} {E : Value → Shared → Prop} {s : Shared} {a : Addr} {o : Obj} {ns : List Int}
theorem hint_set {Q : Bool → Shared → Prop} (hT : s.TypeIs (.ref a) "set") (h : Q false s) : wpAny (model prog w) A (Builtin.List.listLengthHint (.ref a)) Q E s := by
  unfold Builtin.List.listLengthHint
  refine wpAny_bind (wpAny_specialOf hT PySem.F.slot_set_len.lookup ?_)
  generalize hid : ("set.__len__" : String) = id0
  wp_delta
  rw [show splitId id0 = some ("set", "__len__") from by subst hid; decide +kernel]
  subst hid
  refine wpAny_bind (wpAny_isInstance (T := "set") (b := true) hT (by rw [isSubtype_type]; kernel_rfl) ?_)
  refine wpAny_ite_split (fun hab => absurd hab (by decide)) (fun _ => ?_)
  refine wpAny_ite_split (fun _ => ?_) (fun hab => absurd (by decide +kernel) hab)
  refine wpAny_bind (wpAny_typeOf hT ?_)
  exact wpAny_pure h
theorem set_extend {R : Result → Shared → Prop} (hh : A.handled = none) (ho : s.heap.get? a = some o) (hI : SetI prog w o ns) (hn100 : ns.length ≤ 100) (S : Addr) (hSa : S ≠ a) (res : Value) (c₀ : Nat) (hS : s.heap.get? S = some { cls := .type "list", data := .seq #[] c₀ })
    (hR : ∀ h' tk dr acc c, (∀ b o, b ≠ S → s.heap.get? b = some o → h'.get? b = some o) → h'.get? S = some { cls := .type "list", dict := none, data := .seq acc c, slots := #[] } → OutOf acc.toList ns → R (.ok (.ret res)) { s with heap := h', toks := tk, drawn := dr }) :
    wpAny (model prog w) A.in1 (Builtin.List.listExtendWith (.ref S) (.ref a) res)
      (fun fin s' => match fin with | .done f => R (.ok f) s' | .again c' => c'.quiet = true ∧ codeAny (model prog w) A c' R s') (fun e s' => R (.error e) s') s := by
  have hT : s.TypeIs (.ref a) "set" := ⟨o, ho, hI.1.1⟩
  have hSl := Heap.lt_size hS
  unfold Builtin.List.listExtendWith
  refine wpAny_bind (wpAny_typeOf (T := "set") hT ?_)
  have h1 : Builtin.List.listSameRef (.ref S) (.ref a) = false := by simp [Builtin.List.listSameRef, hSa]
  have h2 : (Value.type "set" == Value.type "list") = false := by decide
  have h3 : (Value.type "set" == Value.type "tuple") = false := by decide
  simp only [h1, h2, h3, Bool.or_false, Bool.false_eq_true, if_false]
  refine wpAny_bind (set_iter ho hI hn100 fun I T h' dr St out kI kT kI2 kT2 keep W hst hout => ?_)
  have hS₁ := keep _ _ hS
  have hIS : S ≠ I := Nat.ne_of_lt (Nat.lt_of_lt_of_le hSl kI)
  have hTS : S ≠ T := by
    rcases kT with rfl | kT
    · exact hSa
    · exact Nat.ne_of_lt (Nat.lt_of_lt_of_le hSl kT)
  have hSf : S ∉ [I, a, T] := by
    simp only [List.mem_cons, List.not_mem_nil, or_false, not_or]
    exact ⟨hIS, hSa, hTS⟩
  have hW := W A.in1 hh
  have hol : out.length ≤ sizeLine := by
    obtain ⟨ms, m1, m2, _⟩ := hout
    rw [m1.length, PySem.sizeLine_eq]; omega
  have key : ∀ (h : Heap) (c₁ : Nat), (∀ b o, b ≠ S → h'.get? b = some o → h.get? b = some o) → h.get? S = some { cls := .type "list", data := .seq #[] c₁ } →
      codeAny (model prog w) A (.builtin "list.extend.loop" ⟨[.ref S, .ref I, res], []⟩) R { s with heap := h, drawn := dr } := by
    intro h c₁ hk hS'
    have st0 : St 0 h := hW.frame 0 _ _ hst fun b hb o e => hk b o (fun e2 => hSf (e2 ▸ hb)) e
    refine codeAny_extend_loopS hW.toS hol S hSf res out.length 0 _ #[] c₁ (Nat.sub_zero _) (Nat.zero_le _) st0 hS' (ItemsOf.nil _) fun s' acc' c' hm hS'' hacc => ?_
    rw [Moved.eq_with hm]
    refine hR s'.heap s'.toks dr acc' c' (fun b o hb e => hm.heap b o (fun hmem => ?_) (hk b o hb (keep b o e))) hS'' ?_
    · rcases List.mem_cons.mp hmem with e' | hmem
      · exact hb e'
      · rw [List.mem_singleton.mp hmem] at e
        exact absurd (Heap.lt_size e) (Nat.not_lt.mpr kI)
    · have : acc'.toList = out := by
        refine List.ext_getElem (by rw [Array.length_toList, hacc.1]) fun i h1 h2 => ?_
        have h3 : out[i]? = some acc'.toList[i] := hacc.2 i acc'.toList[i] (by rw [← Array.getElem?_toList]; exact List.getElem?_eq_getElem h1)
        rw [List.getElem?_eq_getElem h2] at h3
        exact (Option.some.inj h3).symm
      rw [this]; exact hout
  refine wpAny_bind (wpAny_holding (hint_set ⟨o, keep _ _ ho, hI.1.1⟩ ?_))
  refine wpAny_ite_split (fun _ => ?_) (fun _ => wpAny_pure ⟨plainId_quiet PySem.F.plain_extend_loop _, key _ c₀ (fun b o _ e => e) hS₁⟩)
  refine wpAny_bind (wpAny_rule ?_)
  refine wpAny_bind ?_
  show wpAny _ _ (updateSeq S (·.push .none) >>= fun _ => updateSeq S (·.pop)) _ _ _
  refine wpAny_bind (wpAny_updateSeq hS₁ rfl ?_)
  have hS₂ := Heap.get?_update_self (Obj.mapSeq (·.push Value.none)) hS₁ rfl
  refine wpAny_updateSeq (hz := by seq_fits) hS₂ rfl ?_
  have hS₃ := Heap.get?_update_self (Obj.mapSeq (·.pop)) hS₂ rfl
  refine wpAny_pure ⟨plainId_quiet PySem.F.plain_extend_loop _, key _ _ (fun b o hb e => ?_) hS₃⟩
  exact (Heap.get?_update_other _ _ (Ne.symm hb)).trans ((Heap.get?_update_other _ _ (Ne.symm hb)).trans e)
theorem collect_set {Q : List Value → Shared → Prop} (hh : A.handled = none) (ho : s.heap.get? a = some o) (hI : SetI prog w o ns) (hn100 : ns.length ≤ 100)
    (h : ∀ h' tk dr l, (∀ b o, s.heap.get? b = some o → h'.get? b = some o) → OutOf l ns → Q l { s with heap := h', toks := tk, drawn := dr }) : wpAny (model prog w) A (collect (.ref a)) Q E s := by
  have hal := Heap.lt_size ho
  unfold collect
  refine wpAny_bind (wpAny_runValue (codeAny_builtin F.entry_proto_collect ?_))
  rw [Around.under_plainId F.plain_proto_collect _]
  show wpAny _ A.in1 (newList [] >>= fun l => again (.builtin "list.__iadd__" ⟨[l, .ref a], []⟩)) _ _ s
  refine wpAny_bind (wpAny_newObj_type ?_)
  refine wpAny_pure ⟨plainId_quiet F.plain_list_iadd _, codeAny_builtin F.entry_list_iadd ?_⟩
  rw [Around.under_plainId F.plain_list_iadd _]
  show wpAny _ A.in1 (Builtin.List.listExtendWith (.ref s.heap.objs.size) (.ref a) (.ref s.heap.objs.size)) _ _ _
  have fin : ∀ (h' : Heap) (tk : Nat) (dr : Drawn) (acc : Array Value) (c : Nat), (∀ b o, b ≠ s.heap.objs.size → (s.heap.push { cls := .type "list", data := .seq ([] : List Value).toArray }).get? b = some o → h'.get? b = some o) →
      h'.get? s.heap.objs.size = some { cls := .type "list", dict := none, data := .seq acc c, slots := #[] } → OutOf acc.toList ns → Q acc.toList { s with heap := h', toks := tk, drawn := dr } := fun h' tk dr acc c hk _ hout =>
    h h' tk dr acc.toList (fun b o e => hk b o (Nat.ne_of_lt (Heap.lt_size e)) (Heap.get?_push_of_some _ e)) hout
  refine wpAny_mono (set_extend (s := { s with heap := s.heap.push { cls := .type "list", data := .seq ([] : List Value).toArray } }) (R := fun r s' => ∃ (h' : Heap) (tk : Nat) (dr : Drawn) (acc : Array Value) (c : Nat), r = .ok (.ret (.ref s.heap.objs.size)) ∧ s' = { s with heap := h', toks := tk, drawn := dr } ∧
      h'.get? s.heap.objs.size = some { cls := .type "list", dict := none, data := .seq acc c, slots := #[] } ∧ Q acc.toList { s with heap := h', toks := tk, drawn := dr }) hh (Heap.get?_push_of_some _ ho) hI hn100 s.heap.objs.size (Nat.ne_of_gt hal) _ 0 (Heap.get?_push_size _ rfl) fun h' tk dr acc c hk hS' hout => ⟨h', tk, dr, acc, c, rfl, rfl, hS', fin h' tk dr acc c hk hS' hout⟩) ?_ ?_
  · intro fi s' hf
    cases fi with
    | done f =>
      obtain ⟨h', tk, dr, acc, c, e1, rfl, hS', hq⟩ := hf
      injection e1 with e1
      subst e1
      show wpAny _ A (load s.heap.objs.size >>= _) _ _ _
      exact wpAny_bind (wpAny_load hS' (wpAny_pure hq))
    | again c' =>
      refine ⟨hf.1, codeAny_mono hf.2 fun r s' hr => ?_⟩
      obtain ⟨h', tk, dr, acc, c, rfl, rfl, hS', hq⟩ := hr
      show wpAny _ A (load s.heap.objs.size >>= _) _ _ _
      exact wpAny_bind (wpAny_load hS' (wpAny_pure hq))
  · intro e s' he
    obtain ⟨_, _, _, _, _, e1, _⟩ := he
    cases e1
theorem sorted_set {h₀ : Heap} {L d : Addr} {m : Str → Option Value} {news : List (Addr × Obj)} {Q : Value → Shared → Prop} (hh : A.handled = none) (F : Fr h₀ L s.heap m) (N : News h₀ L s.heap news) (hm : (d, o) ∈ news) (hs : SetI prog w o ns) (hb : ns.length ≤ 60)
    (h : ∀ D h' (tk : Nat) dr vs' ns' c, Fr h₀ L h' m → News h₀ L h' ((D, listOf vs'.toArray c) :: news) → (∀ p ∈ news, p.1 < D) → IntsAre vs' ns' → ns'.length ≤ ns.length → (∀ k, k ∈ ns' ↔ k ∈ ns) → Q (.ref D) { s with heap := h', toks := tk, drawn := dr }) :
    wpAny (model prog w) A (call (.builtin "sorted") [.ref d]) Q E s := by
  refine Calls.call_function_entry kind_sorted plain_sorted entry_sorted (args_sorted1 _) ?_
  unfold Builtin.«sorted»
  refine wpAny_bind (m := checkCount "sorted" 1 1 _) (wpAny_pure ?_)
  refine wpAny_bind (collect_set hh (N _ hm).1 hs (by omega) fun h1 tk1 dr1 l hk1 hout => ?_)
  obtain ⟨ms, m1, m2, m3⟩ := hout
  have hll : l.length < 64 := by rw [m1.length]; omega
  refine wpAny_bind (wpAny_newList ?_ (by rw [PySem.sizeLine_eq]; omega))
  have hoL : (h1.push (seqObj "list" l.toArray 0)).get? h1.objs.size = some (seqObj "list" l.toArray 0) := Heap.get?_push_size _ rfl
  show wpAny _ _ _ _ _ { s with heap := h1.push (seqObj "list" l.toArray 0), toks := tk1, drawn := dr1 }
  refine wpAny_bind (wpAny_holding (wpAny_call_entry slot_list_sort ⟨_, hoL, rfl⟩ entry_list_sort (list_sort_tree hoL m1 hll fun out ns' a1 a2 a3 => ⟨_, rfl, ?_⟩) (args_list_sort _)))
  refine wpAny_pure ⟨_, rfl, ?_⟩
  obtain ⟨e, he⟩ := sortedHeap_at (out := out) hoL
  have hsz : (h1.push (seqObj "list" l.toArray 0)).objs.size = h1.objs.size + 1 := Heap.size_push _ _
  have keep : ∀ b o, s.heap.get? b = some o → (sortedHeap (h1.push (seqObj "list" l.toArray 0)) h1.objs.size l out).get? b = some o := fun b o' e' => by
    have h9 := hk1 b o' e'
    have hlt := Heap.lt_size h9
    rw [sortedHeap_old (Nat.ne_of_lt hlt) (by rw [hsz]; exact Nat.lt_succ_of_lt hlt)]
    exact Heap.get?_push_of_some _ h9
  have hD₀ : h₀.get? h1.objs.size = none := by
    cases e : h₀.get? h1.objs.size with
    | none => rfl
    | some o' => exact absurd (Heap.lt_size (hk1 _ _ (F.keep _ _ e))) (Nat.lt_irrefl _)
  have hDL : h1.objs.size ≠ L := by
    obtain ⟨oL, _, _, hL, _⟩ := F.ns
    exact Nat.ne_of_gt (Heap.lt_size (hk1 _ _ hL))
  refine h _ _ tk1 dr1 out.toList ns' e (F.kept keep) (fun p hp => ?_) (fun p hp => Heap.lt_size (hk1 _ _ (N p hp).1)) a1 (by rw [a2.length_eq]; exact m2) fun k => ?_
  · rcases List.mem_cons.mp hp with rfl | hp
    · exact ⟨he, hDL, hD₀⟩
    · exact ⟨keep _ _ (N p hp).1, (N p hp).2⟩
  rw [a2.mem_iff, m3]
end
end Mine
end

-- part D2
section
/-! the dict comprehension over the operators -/
namespace Mine
open PySem.Spec PyProof.V
/-- the operators' dict, as data -/
noncomputable def tokD : List (Str × PyData) := TOK.map fun p => ((⟨p.1.toArray⟩ : Str), PyData.int p.2)
set_option maxHeartbeats 8000000 in
theorem tok_tab (w : World) {h : Heap} (X : (Mine.heap w.params).In h) : StrTab PR w h 64 (tokD.map fun p => (PyData.str p.1, p.2)) := by
  refine kt_tab_in PR w X ?_ ?_ ?_
  · kernel_rfl
  · decide +kernel
  · kernel_rfl
theorem tok_inj2 : ∀ p ∈ TOK, ∀ q ∈ TOK, p.2 = q.2 → p = q := by decide +kernel
theorem tok_inj1 : ∀ p ∈ TOK, ∀ q ∈ TOK, p.1 = q.1 → p = q := by decide +kernel
theorem va_cons {K : Type} [DecidableEq K] (kv : K × Value) (l : List (K × Value)) (k : K) : valueAt (kv :: l) k = if kv.1 = k then some kv.2 else valueAt l k := by
  unfold valueAt
  rw [List.find?_cons]
  by_cases h : kv.1 = k
  · rw [if_pos h, decide_eq_true h]; rfl
  · rw [if_neg h, decide_eq_false h]
theorem va_map {K : Type} [DecidableEq K] (k : K) (v : Value) (k' : K) : ∀ l : List (K × Value), valueAt (l.map fun kv => if kv.1 = k then (kv.1, v) else kv) k' = if k' = k then (if (l.any fun kv => kv.1 = k) then some v else none) else valueAt l k'
  | [] => by simp [valueAt]
  | kv :: l => by
    rw [List.map_cons, va_cons, va_map k v k' l, List.any_cons, va_cons]
    by_cases h : kv.1 = k
    · rw [if_pos h]
      by_cases h2 : k' = k
      · simp [h, h2]
      · have h3 : ¬ k = k' := fun e => h2 e.symm
        simp [h, h2, h3]
    · rw [if_neg h]
      rw [decide_eq_false h, Bool.false_or]
      by_cases h2 : k' = k
      · have h3 : ¬ kv.1 = k' := fun e => h (e.trans h2)
        rw [if_pos h2, if_pos h2, if_neg h3]
      · rw [if_neg h2, if_neg h2]
theorem va_app {K : Type} [DecidableEq K] (k : K) (v : Value) (k' : K) : ∀ l : List (K × Value), (l.any fun kv => kv.1 = k) = false → valueAt (l ++ [(k, v)]) k' = if k' = k then some v else valueAt l k'
  | [], _ => by
    rw [List.nil_append, va_cons]
    by_cases h : k' = k
    · simp [h]
    · have h3 : ¬ k = k' := fun e => h e.symm
      simp [h, h3]
  | kv :: l, ha => by
    rw [List.any_cons, Bool.or_eq_false_iff] at ha
    have h0 : ¬ kv.1 = k := of_decide_eq_false ha.1
    rw [List.cons_append, va_cons, va_app k v k' l ha.2, va_cons]
    by_cases h2 : k' = k
    · have h3 : ¬ kv.1 = k' := fun e => h0 (e.trans h2)
      rw [if_neg h3, if_pos h2, if_pos h2]
    · rw [if_neg h2, if_neg h2]
theorem va_stored {K : Type} [DecidableEq K] (l : List (K × Value)) (k : K) (v : Value) (k' : K) : valueAt (stored l k v) k' = if k' = k then some v else valueAt l k' := by
  unfold stored
  by_cases h : (l.any fun kv => decide (kv.1 = k)) = true
  · rw [if_pos h, va_map, if_pos h]
  · rw [if_neg h]
    exact va_app k v k' l ((Bool.not_eq_true _).mp h)
noncomputable def FKt (v : Value) (k : Int) : Prop := ∃ p ∈ TOK, ∃ t, v = .str ⟨p.1.toArray⟩ t ∧ k = p.2
noncomputable def FVt (v y : Value) : Prop := ∃ x t t', v = .str x t ∧ y = .str x t'
/-- each operator under its number -/
noncomputable def SignsOf (kvs : List (Int × Value)) : Prop := ∀ p ∈ TOK, ∃ t, valueAt kvs p.2 = some (.str ⟨p.1.toArray⟩ t)
theorem signs_stored {l : List Value} {kvs : List (Int × Value)} (x : StoredAll FKt FVt l kvs) : ∀ p ∈ TOK, (∃ t, Value.str ⟨p.1.toArray⟩ t ∈ l) → ∃ t, valueAt kvs p.2 = some (.str ⟨p.1.toArray⟩ t) := by
  induction x with
  | nil => rintro p _ ⟨t, h⟩; cases h
  | snoc _ hk hv ih =>
    rintro p hp ⟨t, h⟩
    obtain ⟨p0, hp0, t0, rfl, rfl⟩ := hk
    obtain ⟨x, t1, t2, e1, rfl⟩ := hv
    injection e1 with e1 _
    subst e1
    rw [va_stored]
    by_cases e : p.2 = p0.2
    · have := tok_inj2 p hp p0 hp0 e
      rw [if_pos e, this]
      exact ⟨t2, rfl⟩
    · rw [if_neg e]
      rcases List.mem_append.mp h with h | h
      · exact ih p hp ⟨t, h⟩
      · have h := List.mem_singleton.mp h
        injection h with h _
        injection h with h
        have h2 : p.1 = p0.1 := by simpa using h
        exact absurd (congrArg (·.2) (tok_inj1 p hp p0 hp0 h2)) e
theorem flat_keys {kvs : List (Str × Value)} {D : List (PyData × PyData)} (h : FlatPairs PyData.str kvs D) : D.map (·.1) = kvs.map fun kv => PyData.str kv.1 := by
  induction h with
  | nil => rfl
  | cons _ _ ih => rw [List.map_cons, List.map_cons, ih]
theorem tok_keys {kvs : List (Str × Value)} (h : FlatPairs PyData.str kvs (tokD.map fun p => (PyData.str p.1, p.2))) : kvs.map (·.1) = TOK.map fun p => (⟨p.1.toArray⟩ : Str) := by
  have h1 := flat_keys h
  have h2 : (kvs.map (·.1)).map PyData.str = (TOK.map fun p => (⟨p.1.toArray⟩ : Str)).map PyData.str := by
    rw [List.map_map, List.map_map]
    rw [List.map_map] at h1
    unfold tokD at h1
    rw [List.map_map] at h1
    exact h1.symm
  have inj : ∀ {a b : List Str}, a.map PyData.str = b.map PyData.str → a = b := by
    intro a
    induction a with
    | nil => intro b hb; cases b with
      | nil => rfl
      | cons _ _ => cases hb
    | cons x r ih =>
      intro b hb
      cases b with
      | nil => cases hb
      | cons y q =>
        rw [List.map_cons, List.map_cons] at hb
        injection hb with h1 h2
        injection h1 with h1
        rw [h1, ih h2]
  exact inj h2
section
variable {prog : Program} {w : World} {A : Around} {E : Value → Shared → Prop} {s : Shared} {h₀ : Heap} {L : Addr} {m : Str → Option Value} {news : List (Addr × Obj)} {env : Env}
theorem pyIter_tok {d : Addr} {x : Str} {kx vx : Expr} {scope : Scope} {cl : List (Str × Addr)} {Q : Value → Shared → Prop} (hh : A.handled = none) (F : Fr h₀ L s.heap m) (N : News h₀ L s.heap news)
    (T : StrTab prog w h₀ d (tokD.map fun p => (PyData.str p.1, p.2)))
    (hkey : ∀ C p t s₃ m₃ E', p ∈ TOK → s₃.heap.Ns C m₃ → m₃ x = some (.str ⟨p.1.toArray⟩ t) → Fr h₀ L s₃.heap m → News h₀ L s₃.heap news →
      wpAny (model prog w) A (eval kx (compEnvC scope cl C env)) (fun key s₄ => (∃ t', key = .int p.2 t') ∧ Keeps s₃ s₄) E' s₃)
    (hval : ∀ C p t s₃ m₃ E', p ∈ TOK → s₃.heap.Ns C m₃ → m₃ x = some (.str ⟨p.1.toArray⟩ t) → Fr h₀ L s₃.heap m → News h₀ L s₃.heap news →
      wpAny (model prog w) A (eval vx (compEnvC scope cl C env)) (fun y s₄ => (∃ t', y = .str ⟨p.1.toArray⟩ t') ∧ Keeps s₃ s₄) E' s₃)
    (cont : ∀ D o h' tk kvs, Fr h₀ L h' m → News h₀ L h' ((D, o) :: news) → (∀ p ∈ news, p.1 ≠ D) → o.IsDictOf (intKind prog w) kvs → SignsOf kvs → Q (.ref D) { s with heap := h', toks := tk }) :
    wpAny (model prog w) A (pyIter (.ref d)) (fun it s₂ => ∃ I fp wr n P St, it = .ref I ∧ Walks prog w A I fp wr n P St ∧ n ≤ sizeLine ∧ St 0 s₂.heap ∧ (∀ b ∈ fp, b < s₂.heap.objs.size) ∧
      QuietOnCD (intKind prog w) A env scope cl x [] kx vx wr P (fun _ => true) FKt FVt s₂ ∧
      (∀ D h' tk kvs (vs : List Value), s₂.heap.get? D = none → h'.DictOf (intKind prog w) D kvs → vs.length = n → (∀ j v, vs[j]? = some v → P j v) → StoredAll FKt FVt (vs.filter fun _ => true) kvs →
        (∀ b o, b ∉ wr → s₂.heap.get? b = some o → h'.get? b = some o) → Q (.ref D) { s₂ with heap := h', toks := tk })) E s := by
  obtain ⟨lo, kvs, hd, hf⟩ := T
  have hkeys := tok_keys hf
  have hlen : kvs.length = 48 := by
    have := congrArg List.length hkeys
    rw [List.length_map, List.length_map] at this
    rw [this]; rfl
  obtain ⟨o, es, ep, ho, hr⟩ := hd
  have hat : s.heap.DictAt (strKind prog w) d kvs ep := ⟨o, es, F.keep d o ho, hr⟩
  have hlt : d < s.heap.objs.size := Heap.lt_size (F.keep d o ho)
  refine wpAny_pyIter_dict lo hat ?_
  generalize hit : ({ cls := .type "dict_keyiterator", data := .fields #[.ref d, .int 0 0, .int kvs.length 0, .int ep 0] } : Obj) = itO
  have up : ∀ b o, s.heap.get? b = some o → (s.heap.push itO).get? b = some o := fun b o e => Heap.get?_push_of_some _ e
  have hI : ∀ b o, s.heap.get? b = some o → b ∉ [s.heap.objs.size] := fun b o e hm => by
    rw [List.mem_singleton.mp hm] at e; exact Nat.lt_irrefl _ (Heap.lt_size e)
  have shape : ∀ {i : Nat} {v : Value}, (∃ k x, kvs[i]? = some (k, x) ∧ (strKind prog w).is k v = true) → ∃ p ∈ TOK, ∃ t, TOK[i]? = some p ∧ v = .str ⟨p.1.toArray⟩ t := by
    rintro i v ⟨k, y, hk, hv⟩
    have h1 : (kvs.map (·.1))[i]? = some k := by rw [List.getElem?_map, hk]; rfl
    rw [hkeys, List.getElem?_map] at h1
    obtain ⟨p, hp, rfl⟩ := Option.map_eq_some_iff.mp h1
    obtain ⟨t, rfl⟩ := Value.isStrOf_shape hv
    exact ⟨p, List.mem_of_getElem? hp, t, hp, rfl⟩
  refine ⟨s.heap.objs.size, _, _, _, _, _, rfl, Walks.dictKeys hh _ d (Nat.ne_of_lt hlt) kvs ep, by rw [hlen, PySem.sizeLine_eq]; decide, ⟨⟨itO, Heap.get?_push_size _ (by rw [← hit]; rfl), by rw [← hit], by rw [← hit]; rfl⟩, hat.at' fun o e => up d o e⟩, ?_, ⟨?_, ?_, ?_⟩, ?_⟩
  · intro b hb
    show b < (s.heap.push itO).objs.size
    rw [Heap.size_push]
    rcases List.mem_cons.mp hb with rfl | hb
    · exact Nat.lt_succ_self _
    · rw [List.mem_singleton.mp hb]; exact Nat.lt_succ_of_lt hlt
  · intro C i v s₃ m₃ E' hP hn hm hk
    exact wpAny_tests_nil ⟨rfl, s₃.heap, s₃.toks, rfl, fun _ _ e => e⟩
  · intro C i v s₃ m₃ E' hP _ hn hm hk
    obtain ⟨p, hp, t, _, rfl⟩ := shape hP
    exact wpAny_mono (hkey C p t s₃ m₃ E' hp hn hm (F.keeps fun b o e => hk b o (hI b o e) (up b o e)) (N.grown fun b o e => hk b o (hI b o e) (up b o e))) (fun key s₄ ⟨⟨t', e⟩, hK⟩ => ⟨⟨p.2, by rw [e]; exact intKind_is _ _ _ _, p, hp, t, rfl, rfl⟩, hK⟩) fun _ _ e => e
  · intro C i v s₃ m₃ E' hP _ hn hm hk
    obtain ⟨p, hp, t, _, rfl⟩ := shape hP
    exact wpAny_mono (hval C p t s₃ m₃ E' hp hn hm (F.keeps fun b o e => hk b o (hI b o e) (up b o e)) (N.grown fun b o e => hk b o (hI b o e) (up b o e))) (fun key s₄ ⟨⟨t', e⟩, hK⟩ => ⟨⟨_, t, t', rfl, e⟩, hK⟩) fun _ _ e => e
  · intro D h' tk kvs' vs hD hd' hvl hvP hF hk
    have keep : ∀ b o, s.heap.get? b = some o → h'.get? b = some o := fun b o e => hk b o (fun hm => by
      rw [List.mem_singleton.mp hm] at e; exact Nat.lt_irrefl _ (Heap.lt_size e)) (up b o e)
    obtain ⟨oD, hoD, hiD⟩ := Heap.dictOf_iff.mp hd'
    have hDn : s.heap.get? D = none := by
      cases e : s.heap.get? D with
      | none => rfl
      | some o' => have h9 : (s.heap.push itO).get? D = none := hD
                   rw [up D o' e] at h9; cases h9
    have hDL : D ≠ L := fun e => by
      obtain ⟨oL, _, _, hL, _⟩ := F.ns
      rw [← e, hDn] at hL; cases hL
    have hD₀ : h₀.get? D = none := by
      cases e : h₀.get? D with
      | none => rfl
      | some o' => have h9 := F.keep _ _ e; rw [hDn] at h9; cases h9
    refine cont D oD h' tk kvs' (F.keeps keep) (fun p hp => ?_) (fun p hp e => ?_) hiD fun p hp => ?_
    · rcases List.mem_cons.mp hp with rfl | hp
      · exact ⟨hoD, hDL, hD₀⟩
      · exact ⟨keep _ _ (N p hp).1, (N p hp).2⟩
    · have h9 := (N p hp).1; rw [e, hDn] at h9; cases h9
    · have hft : vs.filter (fun _ => true) = vs := by simp
      rw [hft] at hF
      refine signs_stored hF p hp ?_
      obtain ⟨i, hi⟩ := List.mem_iff_getElem?.mp hp
      have hil : i < vs.length := by
        rw [hvl, hlen]
        exact (List.getElem?_eq_some_iff.mp hi).1
      obtain ⟨q, _, t, hq, e⟩ := shape (hvP i _ (List.getElem?_eq_getElem hil))
      rw [hi] at hq
      cases hq
      exact ⟨t, e ▸ List.getElem_mem hil⟩
theorem DictComp_tok {d : Addr} {x : Str} {px pos : Pos} {kx vx iter : Expr} {scope : Scope} {cl : List (Str × Addr)} {Q : Value → Shared → Prop} (hh : A.handled = none) (F : Fr h₀ L s.heap m) (N : News h₀ L s.heap news)
    (T : StrTab prog w h₀ d (tokD.map fun p => (PyData.str p.1, p.2)))
    (hclos : closureFor scope env = pure cl) (hcell : ∀ y ∈ scope.names, y.2 ≠ .cell) (hkind : scope.kind = .function)
    (hnames : ∀ y ∈ scope.names, y.2 = .local → scope.names.lookup y.1 = some .local) (hx : scope.names.lookup x = some .local)
    (hkey : ∀ C p t s₃ m₃ E', p ∈ TOK → s₃.heap.Ns C m₃ → m₃ x = some (.str ⟨p.1.toArray⟩ t) → Fr h₀ L s₃.heap m → News h₀ L s₃.heap news →
      wpAny (model prog w) A (eval kx (compEnvC scope cl C env)) (fun key s₄ => (∃ t', key = .int p.2 t') ∧ Keeps s₃ s₄) E' s₃)
    (hval : ∀ C p t s₃ m₃ E', p ∈ TOK → s₃.heap.Ns C m₃ → m₃ x = some (.str ⟨p.1.toArray⟩ t) → Fr h₀ L s₃.heap m → News h₀ L s₃.heap news →
      wpAny (model prog w) A (eval vx (compEnvC scope cl C env)) (fun y s₄ => (∃ t', y = .str ⟨p.1.toArray⟩ t') ∧ Keeps s₃ s₄) E' s₃)
    (hiter : wpAny (model prog w) A (eval iter env) (fun v s' => v = .ref d ∧ s' = s) E s)
    (cont : ∀ D o h' tk kvs, Fr h₀ L h' m → News h₀ L h' ((D, o) :: news) → (∀ p ∈ news, p.1 ≠ D) → o.IsDictOf (intKind prog w) kvs → SignsOf kvs → Q (.ref D) { s with heap := h', toks := tk })
    (hs : ∀ x, foldedSetIterable iter env x = pure x := by intro _; rfl) :
    wpAny (model prog w) A (eval (.DictComp kx vx [⟨.Name x px, iter, [], 0⟩] scope pos) env) Q E s := by
  refine wpAny_DictComp_free (intKind prog w) (fun _ => true) FKt FVt hclos hcell hkind hnames hx (wpAny_mono hiter (fun xv s₁ h₁ => ?_) fun _ _ e => e) hs
  obtain ⟨rfl, rfl⟩ := h₁
  exact pyIter_tok hh F N T hkey hval cont
end
theorem tok_look : ∀ op ∈ TOK, lookup (.str ⟨op.1.toArray⟩) (tokD.map fun p => (PyData.str p.1, p.2)) = some (.int op.2) := by
  have h : ∀ op ∈ TOK, (match lookup (.str ⟨op.1.toArray⟩) (tokD.map fun p => (PyData.str p.1, p.2)) with | some (.int i) => i == op.2 | _ => false) = true := by decide +kernel
  intro op hop
  have h1 := h op hop
  split at h1
  · rename_i i e
    rw [e, beq_iff_eq.mp h1]
  · cases h1
section
variable {w : World} {A : Around} {E : Value → Shared → Prop} {s : Shared} {h₀ : Heap} {L C : Addr} {m m₃ mg mb : Str → Option Value} {news : List (Addr × Obj)} {env : Env} {p : Program} {loose : List Str} {mean : ExcName → Option Value} {x : Str} {t : Tok} {op : List Nat × Int} {scope : Scope} {cl : List (Str × Addr)} {q1 q2 q3 : Pos}
theorem leaf_key (hp : op ∈ TOK) (hn : s.heap.Ns C m₃) (hm : m₃ x = some (.str ⟨op.1.toArray⟩ t)) (F : Fr h₀ L s.heap m) (X : (Mine.heap w.params).In h₀) (T : Top p loose mean mg mb h₀) (hg : env.globals = mainGlobals)
    (hk : (compEnvC scope cl C env).scope.kind = .function) (hx1 : (compEnvC scope cl C env).kindOf (Str.ofString "EXACT_TOKEN_TYPES") = some .globalImplicit) (hx2 : (compEnvC scope cl C env).kindOf x = some .local) (hd : (x == ("__debug__" : Str)) = false) :
    wpAny (model PR w) A (eval (.Subscript (.Name (Str.ofString "EXACT_TOKEN_TYPES") q1) (.Name x q2) q3) (compEnvC scope cl C env)) (fun key s₄ => (∃ t', key = .int op.2 t') ∧ Keeps s s₄) E s := by
  refine Subscript_ ?_
  refine LCgL.ld_global (v := .ref 64) F X T (by kernel_rfl) ?_ hg hk hx1 (by decide)
  refine ldVarK hn hm ?_ hk hx2 hd
  refine item_strTab (d := 64) (D := tokD.map fun p => (PyData.str p.1, p.2)) (T := ?_) (tok_look op hp) (fun v hv => ?_) ?_ ?_
  · obtain ⟨lo, kvs, h1, h2⟩ := tok_tab w X
    exact ⟨lo, kvs, h1.keep F.keep, h2⟩
  · obtain ⟨t', rfl⟩ := hv.int_inv
    exact ⟨⟨t', rfl⟩, s.heap, s.toks + 1, rfl, fun _ _ e => e⟩
  · with_unfolding_all rfl
  · intro _; with_unfolding_all rfl
theorem leaf_val (hn : s.heap.Ns C m₃) (hm : m₃ x = some (.str ⟨op.1.toArray⟩ t)) (hk : (compEnvC scope cl C env).scope.kind = .function) (hx2 : (compEnvC scope cl C env).kindOf x = some .local) (hd : (x == ("__debug__" : Str)) = false) :
    wpAny (model PR w) A (eval (.Name x q2) (compEnvC scope cl C env)) (fun y s₄ => (∃ t', y = .str ⟨op.1.toArray⟩ t') ∧ Keeps s s₄) E s :=
  ldVarK hn hm ⟨⟨t, rfl⟩, s.heap, s.toks, rfl, fun _ _ e => e⟩ hk hx2 hd
end
end Mine
end

-- part H1
section
namespace Mine
/-- the addresses of the own written-out heap -/
noncomputable def asK : List Addr := 2 :: 3 :: 20 :: 21 :: 27 :: 28 :: 34 :: 35 :: 41 :: 42 :: 48 :: 49 :: 55 :: 56 :: 62 :: 63 :: 64 :: 72 :: 73 :: 79 :: 80 :: 86 :: 87 :: 91 :: 92 :: 98 :: 99 :: 105 :: 106 :: 110 :: 111 :: 117 :: 118 :: 122 :: 123 :: 129 :: 130 :: 134 :: 135 :: []
/-- the text's lines that the walk keeps: all but the four that give a module's name -/
noncomputable def view : Program := { PR with main := { PR.main with body := (PR.main.body.drop 1).take 7 ++ ((PR.main.body.drop 9).take 1 ++ ((PR.main.body.drop 11).take 54 ++ PR.main.body.drop 66)) } }
theorem walk_cast {q q' : Program} {n : Str} {L : List Str} {Y : World → Heap → Prop} {r : RowW} {d d' : DefRec} {kwd kwd' : List (Str × PySem.Expr)} {run : Value → List Value → Sem Value} (e : q' = q) (h1 : defOf q n = some (d, kwd)) (h2 : defOf q' n = some (d', kwd'))
    (h : WalkO q L (XL q []) Y r d kwd run) : WalkO q' L (XL q' []) Y r d' kwd' run := by
  subst e
  obtain ⟨rfl, rfl⟩ := Prod.mk.inj (Option.some.inj (h1.symm.trans h2))
  exact h
end Mine
end

-- part G0
section
namespace Mine
theorem tabs_has {TT : List (Addr × Obj)} (h : Tabs TT) : (∃ o, ((30 : Addr), o) ∈ TT) ∧ ∃ o, ((37 : Addr), o) ∈ TT := by
  obtain ⟨T1, T2, rfl, h1, h2, _, _⟩ := h
  have a : ∃ o, ((30 : Addr), o) ∈ T1 := by
    cases h1
    · exact ⟨_, .head _⟩
    · exact ⟨_, .head _⟩
  have b : ∃ o, ((37 : Addr), o) ∈ T2 := by
    cases h2
    · exact ⟨_, .head _⟩
    · exact ⟨_, .head _⟩
  exact ⟨a.imp fun _ h => List.mem_append_left _ h, b.imp fun _ h => List.mem_append_right _ h⟩
theorem off2_of {TT : List (Addr × Obj)} (h : Tabs TT) {d : Addr} (hne : ∀ p ∈ TT, p.1 ≠ d) : ∀ b ∈ [(30 : Addr), 37], d ≠ b := by
  obtain ⟨⟨o1, h1⟩, ⟨o2, h2⟩⟩ := tabs_has h
  intro b hb
  rcases List.mem_cons.mp hb with rfl | hb
  · exact (hne _ h1).symm
  · rcases List.mem_singleton.mp hb with rfl; exact (hne _ h2).symm
theorem off_cons {p : Addr × Obj} {r : List (Addr × Obj)} {adr : List Addr} (h : ∀ b ∈ adr, p.1 ≠ b) (h2 : OwnOff r adr) : OwnOff (p :: r) adr := fun q hq => by
  rcases List.mem_cons.mp hq with rfl | hq
  · exact h
  · exact h2 q hq
theorem news_mid {h₀ h : Heap} {L : Addr} {a b c : List (Addr × Obj)} (N : News h₀ L h (a ++ (b ++ c))) : News h₀ L h (b ++ (a ++ c)) := fun p hp => N p (by
  rcases List.mem_append.mp hp with h | h
  · exact List.mem_append_right _ (List.mem_append_left _ h)
  · rcases List.mem_append.mp h with h | h
    · exact List.mem_append_left _ h
    · exact List.mem_append_right _ (List.mem_append_right _ h))
theorem news_tl {h₀ h : Heap} {L : Addr} {p : Addr × Obj} {r : List (Addr × Obj)} (N : News h₀ L h (p :: r)) : News h₀ L h r := fun q hq => N q (.tail _ hq)
theorem news_cons {h₀ h : Heap} {L : Addr} {p : Addr × Obj} {r r' : List (Addr × Obj)} (N : News h₀ L h (p :: r)) (N' : News h₀ L h r') : News h₀ L h (p :: r') := fun q hq => by
  rcases List.mem_cons.mp hq with rfl | hq
  · exact N _ (.head _)
  · exact N' q hq
theorem off_lt {d : Addr} {l : List (Addr × Obj)} (h : ∀ p ∈ l, p.1 < d) : ∀ p ∈ l, p.1 ≠ d := fun p hp e => Nat.lt_irrefl _ (e ▸ h p hp)
theorem off1_ne {d : Addr} : ∀ {l : List (Addr × Obj)}, LCg.Off1 d l → ∀ p ∈ l, p.1 ≠ d
  | [], _, _, h => nomatch h
  | _ :: _, x, p, h => by
    rcases List.mem_cons.mp h with rfl | h
    · exact x.1
    · exact off1_ne x.2 p h
end Mine
end

-- these parts walk by the same lines
section
local macro_rules | `(tactic| walk_at "binaryOp Add int int") => `(tactic| ((with_reducible refine add_int ?_); (try dsimp only)))
local macro_rules | `(tactic| walk_at "binaryOp Sub int int") => `(tactic| ((with_reducible refine sub_int ?_); (try dsimp only)))
local macro_rules | `(tactic| walk_at "binaryOp Mult int int") => `(tactic| ((with_reducible refine mul_int ?_); (try dsimp only)))
local macro_rules | `(tactic| walk_at "execs cons") => `(tactic| (k_here; (try dsimp only); k_gentoks))
-- part G1
section
namespace Mine
section
-- the state's words kept short
local macro_rules | `(tactic| walk_at "exec For") => `(tactic| refine stop_here ?_)
local macro_rules | `(tactic| walk_at "exec For Name Subscript cons nil") => `(tactic| refine stop_here ?_)
local macro_rules | `(tactic| walk_at "pyIter ref") => `(tactic| refine stop_here ?_)
local macro_rules | `(tactic| walk_at "CompSrcT") => `(tactic| refine stop_here ?_)
local macro_rules | `(tactic| walk_at "CompEnd") => `(tactic| refine stop_here ?_)
local macro_rules | `(tactic| walk_at "newList") => `(tactic| refine stop_here ?_)
local macro_rules | `(tactic| walk_at "newTuple") => `(tactic| refine stop_here ?_)
local macro_rules | `(tactic| walk_at "call ref") => `(tactic| ((with_reducible show wpAny _ _ (call (Value.ref 56) _) _ _ _); refine stop_here ?_))
local macro_rules | `(tactic| walk_at "call ref") => `(tactic| ((with_reducible show wpAny _ _ (call (Value.ref 118) _) _ _ _); refine stop_here ?_))
set_option maxHeartbeats 8000000 in
theorem c_written (w : World) (lk : Addr) (ck : Nat) (kvs : List Value) (ks : List Int) (hks : IntsAre kvs ks) (hkl : ks.length ≤ 10) (st : Int) (ts : Tok) (hst : 256 ≤ st) (hst2 : st < 65536) (lo : Addr) (co : Nat) (ovs : List Value) (ow : List Int) (hov : IntsAre ovs ow) (hol : ow.length = 16) (hpc : ∀ k ∈ ks, 2 ≤ (plc ow k).length)
    (TT news : List (Addr × Obj)) (hTT : Tabs TT) (hoff : OwnOff news [30, 37]) (hlk : (lk, listOf kvs.toArray ck) ∈ news) (hlo : (lo, listOf ovs.toArray co) ∈ news) :
    Ct w 123 40 [.ref lk, .int st ts, .ref lo] (TT ++ news) (fun r news' => ∃ (x lg : Addr) (t1 : Tok) (gvs : List Value) (cg : Nat) (TT' : List (Addr × Obj)), r = .ref x ∧ news' = (x, ({ cls := .type "tuple", data := .seq #[.int (wr ow ks st).1 t1, .ref lg] } : Obj)) :: (lg, listOf gvs.toArray cg) :: (TT' ++ news) ∧ IntsAre gvs (wr ow ks st).2 ∧ 256 ≤ (wr ow ks st).1 ∧ (wr ow ks st).1 < 65536 ∧ Tabs TT' ∧ OffK news TT TT' ∧ (∀ p ∈ TT' ++ news, p.1 < x) ∧ lg < x ∧ OwnOff TT' [lg] ∧ OwnOff news [lg]) := by
  have hF := kfill
  revert hF
  k_fill
  intro hF
  clear hF
  intro p loose mean mg mb dp un gd cn cs a' ccd cl outer A₀ base h₀ L m s Q E B F X N T hk hd hu hret
  have hMk : KstMark := kstMark
  have hlk2 : (lk, listOf kvs.toArray ck) ∈ TT ++ news := List.mem_append_right _ hlk
  have hlo2 : (lo, listOf ovs.toArray co) ∈ TT ++ news := List.mem_append_right _ hlo
  refine wpAny_call ?_
  k_dflt (refine' code_defC ?k1 ?k2 ?k3 ?k4 ?k5 ?kA ?kF ?kK ?k6 ?k7 ?k8 ?k9 ?kB ?kD ?_ ?c2 ?c3 ?c4; (case kA => exact rfl); (case kF => exact rfl); (case kK => first | exact rfl | assumption); (case k1 => k_asm); (case k2 => k_asm); (case k3 => k_asm); (case k4 => k_asm); (case k5 => k_asm); (case k6 => k_is); (case k7 => k_is); (case k8 => ktr_room); (case k9 => exact BindsTo.of_eq rfl); (case kB => exact rfl); (case kD => decide +kernel); (case c2 => exact rfl); (case c3 => exact rfl); (case c4 => exact rfl); k_whole)
  intro g1 L1 hp1 tk1 cells1 FG1 F1 N1 Y1 B1 X1 T1' l1
  have l1a := Mine.lt_up1 l1
  have l1b := Mine.lt_up1 l1a
  have l1c := Mine.lt_up1 l1b
  k_cells Y1
  (try simp only [List.cons_append, List.nil_append] at N1)
  (try dsimp only)
  (try k_fold)
  rename_i ok oo dk dw
  have dk : ok.data = .cell none := dk
  have dw : oo.data = .cell (some (.ref lo)) := dw
  k_steps
  rename Fr g1 L1 _ _ => F2
  rename News g1 L1 _ _ => N2
  refine Stop.mk (newList_K F2 N2 ?_)
  intro lg h9 F9 N9 lg1
  clear F2 N2
  k_steps
  refine Stop.mk ?_
  refine For_cell ?_ (by intro _; rfl)
  k_steps
  rename Fr g1 L1 _ _ => F3
  rename News g1 L1 _ _ => N3
  rename IntsAre _ ks.reverse => hI3
  rename Addr => ax
  rename List Value => rws
  rename lg < ax ∧ _ => lax
  have offA : ∀ {b d : Addr}, b < d → b ≠ d := fun h e => Nat.lt_irrefl _ (e ▸ h)
  have ltA : OwnOff (TT ++ news) [ax, lg, L1 + 1 + 1, L1 + 1] := fun p hp b hb => by
    have h1 := l1 p hp
    have h2 := lg1 p (.tail _ (.tail _ hp))
    have h3 : p.1 < ax := Nat.lt_trans h2 lax.1
    simp only [List.mem_cons, List.not_mem_nil, or_false] at hb
    rcases hb with rfl | rfl | rfl | rfl
    · exact offA h3
    · exact offA h2
    · exact offA (l1b p hp)
    · exact offA (l1a p hp)
  have ltT1 : OwnOff TT [ax, lg, L1 + 1 + 1, L1 + 1] := fun p hp => ltA p (List.mem_append_left _ hp)
  have ltN1 : OwnOff news [ax, lg, L1 + 1 + 1, L1 + 1] := fun p hp => ltA p (List.mem_append_right _ hp)
  refine' Stop.mk (cell_loop (ns := ks.reverse) (cx := L1 + 1 + 1) (nn := 0) (σ := (Int × Tok) × (Int × Tok) × (List Int × List Value × Nat) × List (Addr × Obj)) (fun c oc => (ax, listOf rws.toArray 0) :: (lg, listOf c.2.2.1.2.1.toArray c.2.2.1.2.2) :: (L1 + 1 + 1, oc) :: (L1 + 1, oo) :: (c.2.2.2 ++ news))
    (fun c => [(Str.ofString "state", .int c.1.1 c.1.2), (Str.ofString "turn", .int c.2.1.1 c.2.1.2)]) [Str.ofString "places", Str.ofString "octet", Str.ofString "many", Str.ofString "rest"]
    (fun pre c => IntsAre c.2.2.1.2.1 c.2.2.1.1 ∧ pre.foldl (wrK ow) (st, []) = (c.1.1, c.2.2.1.1) ∧ c.2.1.1 = (pre.length : Int) ∧ Tabs c.2.2.2 ∧ OffK news TT c.2.2.2 ∧ OwnOff c.2.2.2 [ax, lg, L1 + 1 + 1, L1 + 1] ∧ 256 ≤ c.1.1 ∧ c.1.1 < 65536)
    ((st, _), (0, _), ([], [], 0), TT) ok (by rfl) (by passes_own) F3 N3 hI3 (by rfl) (by rfl) (by rfl) ?hmc ?hlp ?hU ⟨_, dk⟩ ?hk ?hp ?turn ?done)
  case hmc => exact .tail _ (.tail _ (.head _))
  case hlp => exact fun _ _ => .head _
  case hU =>
    rintro pre c o ⟨_, _, _, _, _, ho, _⟩
    refine .tail (offA lax.2.1).symm (.tail (offA (lg1 (_, ok) (.head _))).symm (.head fun p hp => ?_))
    rcases List.mem_cons.mp hp with rfl | hp
    · exact offA (Nat.lt_succ_self _)
    rcases List.mem_append.mp hp with hp | hp
    · exact ho p hp _ (.tail _ (.tail _ (.head _)))
    · exact ltN1 p hp _ (.tail _ (.tail _ (.head _)))
  case hk => 
    intro p hp
    rcases List.mem_cons.mp hp with rfl | hp
    · exact rfl
    · rcases List.mem_singleton.mp hp with rfl; exact rfl
  case hp => exact ⟨.nil, rfl, rfl, hTT, .refl, ltT1, hst, hst2⟩
  case turn =>
    rintro I ⟨⟨st', ts'⟩, ⟨tn, tt⟩, ⟨gs, gvs, cg⟩, T'⟩ pre k post tk' u it oc h tk hI hoI hpre ⟨p1, p2, p3, p4, p5, p6, p7, p8⟩ hit hoc F N
    dsimp only at p1 p2 p3 p4 p5 p6 p7 p8 F N hoI
    have F : Fr g1 L1 h _ := F
    have N : News g1 L1 h ((I, it) :: (ax, listOf rws.toArray 0) :: (lg, listOf gvs.toArray cg) :: (L1 + 1 + 1, oc) :: (L1 + 1, oo) :: (T' ++ news)) := N
    clear N3 F3
    have oI2 := off2_of p4 (d := I) fun p hp => hoI p (.tail _ (.tail _ (.tail _ (.tail _ (List.mem_append_left _ hp)))))
    have oA2 : ∀ d ∈ [ax, lg, L1 + 1 + 1, L1 + 1], ∀ b ∈ [(30 : Addr), 37], d ≠ b := fun d hd => off2_of p4 fun p hp => p6 p hp d hd
    refine unr_gen ?_
    intro R9 Q9 hR9 hQ9
    have hlo3 : (lo, listOf ovs.toArray co) ∈ (I, it) :: (ax, listOf rws.toArray 0) :: (lg, listOf gvs.toArray cg) :: (L1 + 1 + 1, oc) :: (L1 + 1, oo) :: (T' ++ news) := .tail _ (.tail _ (.tail _ (.tail _ (.tail _ (List.mem_append_right _ hlo)))))
    k_steps
    refine Stop.mk (LCt.CompSrcT.range (by rfl) (by k_asm) (by k_asm) (by assumption) (by decide) (by rfl) (by exact Nat.le_of_ble_eq_true rfl) ?_)
    intro g'
    refine' kci_range (n := 16) (fun l p => if ow.getD p.toNat 0 = k then l ++ [p] else l) ?cturn ?cfin ?cg
    case cg =>
      intro l k
      dsimp only
      split
      · simp
      · simp
    case cturn =>
      intro pl tp I' oI' C' oC' D' m' ys' l' h' tk' E' hlo' hhi' hI' hC' hx' F' N' off' ne' mk'
      have hhi2 : pl < 16 := hhi'
      have N' : News g1 L1 h' ((I', oI') :: (C', oC') :: (D', LCg.lst ys') :: (I, it) :: (ax, listOf rws.toArray 0) :: (lg, listOf gvs.toArray cg) :: (L1 + 1 + 1, oc) :: (L1 + 1, oo) :: (T' ++ news)) := N'
      k_steps
      · have hq : ow.getD pl.toNat 0 = k := by assumption
        refine Stop.mk (LCg.CompEnd.intro (by assumption) (by assumption) _ (fun _ hp => hp) off' trivial ?_)
        rw [if_pos hq]
        exact kci_el rfl rfl rfl
      · have hq : ¬ ow.getD pl.toNat 0 = k := by first | assumption | omega
        refine Stop.mk (LCg.CompEnd.intro (by assumption) (by assumption) _ (fun _ hp => hp) off' trivial ?_)
        rw [if_neg hq]
        exact kci_no rfl rfl
    case cfin =>
      have hkk : k ∈ ks := List.mem_reverse.mp (hpre ▸ List.mem_append_right _ (.head _))
      have hpc' := hpc k hkk
      have hpl0 := plc_len ow k
      have hbd := wrK_bound ow (st', gs) k hpc' p7 p8
      obtain ⟨s9, hs9⟩ : ∃ s9, s9 = wrK ow (st', gs) k := ⟨_, rfl⟩
      rw [← hs9] at hbd
      have hfold : (pre ++ [k]).foldl (wrK ow) (st, []) = s9 := by rw [List.foldl_append, p2, hs9]; rfl
      have hpm := plc_getD ow k
      unfold wrK at hs9
      show KPfDone (∀ ys, IntsAre ys (plc ow k) → _)
      obtain ⟨pls, hpls⟩ : ∃ pls, pls = plc ow k := ⟨_, rfl⟩
      rw [← hpls] at hpc' hpl0 hs9 hpm ⊢
      obtain ⟨cn, hcn⟩ : ∃ cn : Nat, cn = pls.length := ⟨_, rfl⟩
      rw [← hcn] at hpc' hpl0 hs9
      intro pvs hpv hpl
      have hpvl : pvs.length = cn := hcn ▸ hpv.length
      unfold LCg.FinA
      intro ap h7 tk7 F7 N7 o17
      simp only [LCg.Off1, and_true] at o17
      dsimp only
      have N8 : News g1 L1 h7 ((ap, listOf pvs.toArray pvs.length) :: (I, it) :: (ax, listOf rws.toArray 0) :: (lg, listOf gvs.toArray cg) :: (L1 + 1 + 1, oc) :: (L1 + 1, oo) :: (T' ++ news)) := N7
      clear N7
      have oP2 : ∀ b ∈ [(30 : Addr), 37], ap ≠ b := off2_of p4 (d := ap) fun p hp => off1_ne o17.2.2.2.2.2 p (List.mem_append_left _ hp)
      have offR : ∀ g : Obj, OwnOff ((ap, listOf pvs.toArray pvs.length) :: (I, it) :: (ax, listOf rws.toArray 0) :: (lg, g) :: (L1 + 1 + 1, oc) :: (L1 + 1, oo) :: news) [30, 37] := fun g =>
        off_cons oP2 (off_cons oI2 (off_cons (oA2 ax (.head _)) (off_cons (oA2 lg (.tail _ (.head _))) (off_cons (oA2 (L1 + 1 + 1) (.tail _ (.tail _ (.head _)))) (off_cons (oA2 (L1 + 1) (.tail _ (.tail _ (.tail _ (.head _))))) hoff)))))
      have memR : ∀ g : Obj, ∀ b ∈ [ap, I, ax, lg, L1 + 1 + 1, L1 + 1], ∃ o, (b, o) ∈ (ap, listOf pvs.toArray pvs.length) :: (I, it) :: (ax, listOf rws.toArray 0) :: (lg, g) :: (L1 + 1 + 1, oc) :: (L1 + 1, oo) :: news := by
        intro g b hb
        simp only [List.mem_cons, List.not_mem_nil, or_false] at hb
        rcases hb with rfl | rfl | rfl | rfl | rfl | rfl
        · exact ⟨_, .head _⟩
        · exact ⟨_, .tail _ (.head _)⟩
        · exact ⟨_, .tail _ (.tail _ (.head _))⟩
        · exact ⟨_, .tail _ (.tail _ (.tail _ (.head _)))⟩
        · exact ⟨_, .tail _ (.tail _ (.tail _ (.tail _ (.head _))))⟩
        · exact ⟨_, .tail _ (.tail _ (.tail _ (.tail _ (.tail _ (.head _)))))⟩
      have p66 : OwnOff T' [ap, I, ax, lg, L1 + 1 + 1, L1 + 1] := fun p hp b hb => by
        rcases List.mem_cons.mp hb with rfl | hb
        · exact off1_ne o17.2.2.2.2.2 p (List.mem_append_left _ hp)
        rcases List.mem_cons.mp hb with rfl | hb
        · exact hoI p (.tail _ (.tail _ (.tail _ (.tail _ (List.mem_append_left _ hp)))))
        · exact p6 p hp b hb
      have hfd : st'.fdiv (16 * (pls.length : Int)) = st' / (16 * (cn : Int)) := by rw [hcn]; exact Int.fdiv_eq_ediv_of_nonneg _ (by omega)
      dsimp only at hs9
      rw [← hfd] at hs9
      k_steps
      · have hbig : 256 ≤ st'.fdiv (16 * (pls.length : Int)) := by assumption
        rw [if_pos hbig] at hs9
        rename News g1 L1 _ _ => N9
        refine' Stop.mk (ct_use (idm_p w st' 256 (by omega) (by omega) (by omega) (by omega) _ _ T' _ p4 (offR _)) ?k1 ?k2 ?k3 (news_mid (a := [_, _, _, _, _, _]) N9) ?k5 ?k6 ?k7 ?k8 ?_)
        case k1 => k_asm
        case k2 => k_asm
        case k3 => k_asm
        case k5 => k_asm
        case k6 => exact rfl
        case k7 => ktr_room
        case k8 => ktr_units
        rintro r' news' h6 tk6 ⟨y, t1, t2, c, T2, rfl, rfl, q3, q4, q5⟩ F6 N6
        have N6 := news_cons N6 (news_mid (b := [_, _, _, _, _, _]) (news_tl N6))
        simp only [List.cons_append, List.nil_append] at N6
        have p67 := q4 _ (memR _) p66
        have hyl : y ≠ lg := (offA (q5 _ (List.mem_append_right _ (.tail _ (.tail _ (.tail _ (.head _))))))).symm
        k_steps
        rename Fr g1 L1 _ _ => F9
        rename News g1 L1 _ _ => N9
        refine append_K F9 N9 (Upd.tail hyl (Upd.tail o17.2.2.1.symm (Upd.tail (hoI _ (.tail _ (.head _))).symm (Upd.tail (offA lax.1).symm (Upd.head ?hall))))) ?_ ?hsz
        case hsz =>
          have h1 := wr_len ow pre (st, [])
          rw [p2] at h1
          have h2 : gvs.length = gs.length := p1.length
          have h3 : ks.length = (pre ++ k :: post).length := by rw [← hpre, List.length_reverse]
          rw [List.length_append] at h3
          simp only [List.length_nil] at h1
          rw [PySem.sizeLine_eq, List.size_toArray]
          omega
        case hall =>
          intro p hp
          rcases List.mem_cons.mp hp with rfl | hp
          · exact offA (lg1 (_, ok) (.head _))
          rcases List.mem_cons.mp hp with rfl | hp
          · exact offA (lg1 (_, oo) (.tail _ (.head _)))
          rcases List.mem_append.mp hp with hp | hp
          · exact p67 p hp lg (.tail _ (.tail _ (.tail _ (.head _))))
          · exact ltN1 p hp lg (.tail _ (.head _))
        intro h8 F8 N8
        have N8 := news_tl N8
        clear F9 N9
        dsimp only
        k_steps
        rename News g1 L1 _ _ => N10
        refine' Stop.mk (ct_use (c_parted w (st' / 256) (pls.length : Int) tn _ _ _ (by omega) (by omega) (by omega) (by omega) T2 _ q3 (offR _)) ?k1 ?k2 ?k3 (news_mid (a := [_, _, _, _, _, _]) N10) ?k5 ?k6 ?k7 ?k8 ?_)
        case k1 => k_asm
        case k2 => k_asm
        case k3 => k_asm
        case k5 => k_asm
        case k6 => exact rfl
        case k7 => ktr_room
        case k8 => ktr_units
        rintro r' news' h6 tk6 ⟨y2, t3, t4, c2, T3, rfl, rfl, r3, r4, r5⟩ F6 N6
        have N6 := news_cons N6 (news_mid (b := [_, _, _, _, _, _]) (news_tl N6))
        simp only [List.cons_append, List.nil_append] at N6
        have p68 := r4 _ (memR _) p67
        have hrest : (st' / 256) % (pls.length : Int) < (pls.length : Int) := Int.emod_lt_of_pos _ (by omega)
        have hrest0 : 0 ≤ (st' / 256) % (pls.length : Int) := Int.emod_nonneg _ (by omega)
        k_steps
        rename Fr g1 L1 _ _ => F12
        rename News g1 L1 _ _ => N12
        refine' UnrEnd.intro F12 N12 ((ax, listOf rws.toArray 0) :: (lg, listOf (gvs ++ [Value.int (st' % 256) t2]).toArray (cg + 1)) :: (L1 + 1 + 1, oc) :: (L1 + 1, oo) :: (T3 ++ news)) ?sub ?off (hR9 _ _ ⟨oc, ⟨_, hoc⟩, ((16 * ((st' / 256) / (pls.length : Int)) + pls.getD ((st' / 256) % (pls.length : Int)).toNat 0, _), (tn + 1, _), (gs ++ [st' % 256], (gvs ++ [Value.int (st' % 256) t2]), (cg + 1)), T3), rfl, ?h1, ?h2, ?hP⟩)
        case sub =>
          simp only [List.push_toArray]
          intro p hp
          exact .tail _ (.tail _ hp)
        case off =>
          intro p hp
          rcases List.mem_cons.mp hp with rfl | hp
          · exact hoI (ax, listOf rws.toArray 0) (.head _)
          rcases List.mem_cons.mp hp with rfl | hp
          · exact hoI (lg, listOf gvs.toArray cg) (.tail _ (.head _))
          rcases List.mem_cons.mp hp with rfl | hp
          · exact hoI (_, oc) (.tail _ (.tail _ (.head _)))
          rcases List.mem_cons.mp hp with rfl | hp
          · exact hoI (_, oo) (.tail _ (.tail _ (.tail _ (.head _))))
          rcases List.mem_append.mp hp with hp | hp
          · exact p68 p hp I (.tail _ (.head _))
          · exact hoI p (.tail _ (.tail _ (.tail _ (.tail _ (List.mem_append_right _ hp)))))
        case h1 =>
          intro p hp
          rcases List.mem_cons.mp hp with rfl | hp
          · exact rfl
          · rcases List.mem_singleton.mp hp with rfl; exact rfl
        case h2 =>
          intro z h1 h2 h3
          have a1 := h2 _ (List.Mem.head _)
          have a2 := h2 _ (List.Mem.tail _ (List.Mem.head _))
          have a3 : z ≠ Str.ofString "places" ∧ z ≠ Str.ofString "octet" ∧ z ≠ Str.ofString "many" ∧ z ≠ Str.ofString "rest" := by simpa using h3
          dsimp only at a1 a2
          simp only [kstB, if_neg h1, if_neg a1, if_neg a2, if_neg a3.1, if_neg a3.2.1, if_neg a3.2.2.1, if_neg a3.2.2.2, h3, Bool.false_eq_true, if_false]
        case hP =>
          rw [← hcn]
          refine ⟨ints_push p1, by rw [hfold, hs9], by rw [List.length_append, p3]; rfl, r3, ?o1, fun p hp b hb => p68 p hp b (.tail _ (.tail _ hb)), by rw [hs9] at hbd; exact hbd.1, by rw [hs9] at hbd; exact hbd.2⟩
          case o1 =>
            exact OffK.trans (OffK.trans p5 fun adr ha ho => q4 adr (fun b hb => (ha b hb).imp fun _ h => .tail _ (.tail _ (.tail _ (.tail _ (.tail _ (.tail _ h)))))) ho) fun adr ha ho => r4 adr (fun b hb => (ha b hb).imp fun _ h => .tail _ (.tail _ (.tail _ (.tail _ (.tail _ (.tail _ h)))))) ho
      · have hbig : ¬ 256 ≤ st'.fdiv (16 * (pls.length : Int)) := by first | assumption | omega
        rw [if_neg hbig] at hs9
        rename News g1 L1 _ _ => N10
        refine' Stop.mk (ct_use (c_parted w st' (pls.length : Int) tn _ _ _ (by omega) (by omega) (by omega) (by omega) T' _ p4 (offR _)) ?k1 ?k2 ?k3 (news_mid (a := [_, _, _, _, _, _]) N10) ?k5 ?k6 ?k7 ?k8 ?_)
        case k1 => k_asm
        case k2 => k_asm
        case k3 => k_asm
        case k5 => k_asm
        case k6 => exact rfl
        case k7 => ktr_room
        case k8 => ktr_units
        rintro r' news' h6 tk6 ⟨y2, t3, t4, c2, T3, rfl, rfl, r3, r4, r5⟩ F6 N6
        have N6 := news_cons N6 (news_mid (b := [_, _, _, _, _, _]) (news_tl N6))
        simp only [List.cons_append, List.nil_append] at N6
        have p68 := r4 _ (memR _) p66
        have hrest : st' % (pls.length : Int) < (pls.length : Int) := Int.emod_lt_of_pos _ (by omega)
        have hrest0 : 0 ≤ st' % (pls.length : Int) := Int.emod_nonneg _ (by omega)
        k_steps
        rename Fr g1 L1 _ _ => F12
        rename News g1 L1 _ _ => N12
        refine' UnrEnd.intro F12 N12 ((ax, listOf rws.toArray 0) :: (lg, listOf gvs.toArray cg) :: (L1 + 1 + 1, oc) :: (L1 + 1, oo) :: (T3 ++ news)) ?sub ?off (hR9 _ _ ⟨oc, ⟨_, hoc⟩, ((16 * (st' / (pls.length : Int)) + pls.getD (st' % (pls.length : Int)).toNat 0, _), (tn + 1, _), (gs, gvs, cg), T3), rfl, ?h1, ?h2, ?hP⟩)
        case sub =>
          intro p hp
          exact .tail _ (.tail _ hp)
        case off =>
          intro p hp
          rcases List.mem_cons.mp hp with rfl | hp
          · exact hoI (ax, listOf rws.toArray 0) (.head _)
          rcases List.mem_cons.mp hp with rfl | hp
          · exact hoI (lg, listOf gvs.toArray cg) (.tail _ (.head _))
          rcases List.mem_cons.mp hp with rfl | hp
          · exact hoI (_, oc) (.tail _ (.tail _ (.head _)))
          rcases List.mem_cons.mp hp with rfl | hp
          · exact hoI (_, oo) (.tail _ (.tail _ (.tail _ (.head _))))
          rcases List.mem_append.mp hp with hp | hp
          · exact p68 p hp I (.tail _ (.head _))
          · exact hoI p (.tail _ (.tail _ (.tail _ (.tail _ (List.mem_append_right _ hp)))))
        case h1 =>
          intro p hp
          rcases List.mem_cons.mp hp with rfl | hp
          · exact rfl
          · rcases List.mem_singleton.mp hp with rfl; exact rfl
        case h2 =>
          intro z h1 h2 h3
          have a1 := h2 _ (List.Mem.head _)
          have a2 := h2 _ (List.Mem.tail _ (List.Mem.head _))
          have a3 : z ≠ Str.ofString "places" ∧ z ≠ Str.ofString "octet" ∧ z ≠ Str.ofString "many" ∧ z ≠ Str.ofString "rest" := by simpa using h3
          dsimp only at a1 a2
          simp only [kstB, if_neg h1, if_neg a1, if_neg a2, if_neg a3.1, if_neg a3.2.1, if_neg a3.2.2.1, if_neg a3.2.2.2, h3, Bool.false_eq_true, if_false]
        case hP =>
          rw [← hcn]
          refine ⟨p1, by rw [hfold, hs9], by rw [List.length_append, p3]; rfl, r3, ?o1, fun p hp b hb => p68 p hp b (.tail _ (.tail _ hb)), by rw [hs9] at hbd; exact hbd.1, by rw [hs9] at hbd; exact hbd.2⟩
          case o1 =>
            exact OffK.trans p5 fun adr ha ho => r4 adr (fun b hb => (ha b hb).imp fun _ h => .tail _ (.tail _ (.tail _ (.tail _ (.tail _ (.tail _ h)))))) ho
  case done =>
    rintro ⟨⟨st', ts'⟩, ⟨tn, tt⟩, ⟨gs, gvs, cg⟩, T'⟩ u oc h tk ⟨p1, p2, p3, p4, p5, p6, p7, p8⟩ hoc F N
    dsimp only at p1 p2 p3 p4 p5 p6 p7 p8 F N
    have F : Fr g1 L1 h _ := F
    have N : News g1 L1 h ((ax, listOf rws.toArray 0) :: (lg, listOf gvs.toArray cg) :: (L1 + 1 + 1, oc) :: (L1 + 1, oo) :: (T' ++ news)) := N
    clear N3 F3
    have hwr : wr ow ks st = (st', gs) := p2
    k_steps
    rename Fr g1 L1 _ _ => F9
    rename News g1 L1 _ _ => N9
    refine Stop.mk (newTuple_L F9 N9 ?_)
    intro x h8 F8 N8 l8
    k_steps
    rename News h₀ L _ _ => N7
    refine hret _ _ _ _ ⟨x, lg, ts', gvs, cg, T', rfl, rfl, by rw [hwr]; exact p1, by rw [hwr]; exact p7, by rw [hwr]; exact p8, p4, p5, fun p hp => l8 p (.tail _ (.tail _ (.tail _ (.tail _ hp)))), l8 (lg, listOf gvs.toArray cg) (.tail _ (.head _)), fun p hp b hb => p6 p hp b (.tail _ (List.mem_singleton.mp hb ▸ .head _)), fun p hp b hb => ltN1 p hp b (.tail _ (List.mem_singleton.mp hb ▸ .head _))⟩ (by assumption) ?_
    rw [hwr]
    exact cb_drop N7 fun p hp => by
      rcases List.mem_cons.mp hp with rfl | hp
      · exact .head _
      rcases List.mem_cons.mp hp with rfl | hp
      · exact .tail _ (.tail _ (.head _))
      · exact .tail _ (.tail _ (.tail _ (.tail _ (.tail _ hp))))
end
end Mine
end
-- part F1
section
namespace Mine
section
-- the state's words kept short
local macro_rules | `(tactic| walk_at "exec For") => `(tactic| refine stop_here ?_)
local macro_rules | `(tactic| walk_at "exec For Name Subscript cons nil") => `(tactic| refine stop_here ?_)
local macro_rules | `(tactic| walk_at "exec For Name Call cons nil") => `(tactic| refine stop_here ?_)
local macro_rules | `(tactic| walk_at "pyIter ref") => `(tactic| refine stop_here ?_)
local macro_rules | `(tactic| walk_at "pyIter bytes") => `(tactic| refine stop_here ?_)
local macro_rules | `(tactic| walk_at "call builtin:len") => `(tactic| refine stop_here ?_)
local macro_rules | `(tactic| walk_at "subscriptTail") => `(tactic| refine stop_here ?_)
local macro_rules | `(tactic| walk_at "subscriptTail Name Slice bytes ref") => `(tactic| refine stop_here ?_)
local macro_rules | `(tactic| walk_at "newList") => `(tactic| refine stop_here ?_)
local macro_rules | `(tactic| walk_at "newTuple") => `(tactic| refine stop_here ?_)
local macro_rules | `(tactic| walk_at "getMethod ref") => `(tactic| ((with_reducible show wpAny _ _ (getMethod (Value.ref _) (PySem.Str.ofString "count") _) _ _ _); refine stop_here ?_))
local macro_rules | `(tactic| walk_at "call builtin:list.count") => `(tactic| refine stop_here ?_)
local macro_rules | `(tactic| walk_at "storeName") => `(tactic| ((with_reducible show wpAny _ _ (storeName _ (PySem.Str.ofString "state") (Value.int (_ * _ + _) _)) _ _ _); refine stop_here ?_))
set_option maxHeartbeats 8000000 in
theorem c_read (w : World) (b : Array UInt8) (tb : Tok) (ws : List Int) (hb : KBw.bInts b = ws) (hws : ∀ k ∈ ws, 65 ≤ k ∧ k ≤ 80) (hwl : ws.length ≤ 100) (hw3 : 3 ≤ ws.length) (lo : Addr) (co : Nat) (ovs : List Value) (ow : List Int) (hov : IntsAre ovs ow) (hol : ow.length = 16)
    (n : Nat) (hn : n ≤ 100) (tn : Tok) (news : List (Addr × Obj)) (hlo : (lo, listOf ovs.toArray co) ∈ news)
    (ks : List Int) (st : Int) (pt : Nat) (hs00 : 0 ≤ (ws.take (ws.length - (ws.length - 3) / 2 * 2)).foldl (fun a k => 16 * a + k - 65) 0) (hs01 : (ws.take (ws.length - (ws.length - 3) / 2 * 2)).foldl (fun a k => 16 * a + k - 65) 0 < 65536)
    (hrd : rd ow ws n [] ((ws.take (ws.length - (ws.length - 3) / 2 * 2)).foldl (fun a k => 16 * a + k - 65) 0) (ws.length - (ws.length - 3) / 2 * 2) = some (ks, st, pt)) :
    Ct w 130 3 [.bytes b tb, .ref lo, .int (n : Int) tn] news (fun r news' => ∃ (x lk : Addr) (t1 t2 : Tok) (kvs : List Value) (ck : Nat), r = .ref x ∧ news' = (x, ({ cls := .type "tuple", data := .seq #[.ref lk, .int st t1, .int (pt : Int) t2] } : Obj)) :: (lk, listOf kvs.toArray ck) :: news ∧ IntsAre kvs ks ∧ (∀ p ∈ news, p.1 < lk) ∧ lk < x) := by
  have hF := kfill
  revert hF
  k_fill
  intro hF
  clear hF
  intro p loose mean mg mb dp un gd cn cs a' ccd cl outer A₀ base h₀ L m s Q E B F X N T hk hd hu hret
  have hMk : KstMark := kstMark
  refine wpAny_call ?_
  k_dflt (refine' code_def ?k1 ?k2 ?k3 ?k4 ?k5 ?kA ?kF ?kK ?k6 ?k7 ?k8 ?k9 ?kB ?_ ?c2 ?c3 ?c4 ?c5; (case kA => exact rfl); (case kF => exact rfl); (case kK => first | exact rfl | assumption); (case k1 => k_asm); (case k2 => k_asm); (case k3 => k_asm); (case k4 => k_asm); (case k5 => k_asm); (case k6 => k_is); (case k7 => k_is); (case k8 => ktr_room); (case k9 => exact BindsTo.of_eq rfl); (case c5 => decide); (case kB => exact locs rfl); (case c2 => exact rfl); (case c3 => exact rfl); (case c4 => exact rfl); k_whole)
  intro g1 L1 hp1 FG1 F1 N1 B1 X1 T1'
  (try dsimp only)
  (try k_fold)
  k_steps
  refine Stop.mk (KBw.len_K hb (by omega) ?_)
  dsimp only
  k_steps
  refine Stop.mk (KBw.len_K hb (by omega) ?_)
  dsimp only
  k_steps
  rename Fr g1 L1 _ _ => F2
  rename News g1 L1 _ _ => N2
  refine Stop.mk ?_
  with_unfolding_all refine' For_invVF F2 ?k1 ?k2 ?_
  case k1 => exact rfl
  case k2 => exact rfl
  k_steps
  have ha0 : ((ws.length : Int) - ((ws.length : Int) - 3).fdiv 2 * 2) = ((ws.length - (ws.length - 3) / 2 * 2 : Nat) : Int) := by
    rw [Int.fdiv_eq_ediv_of_nonneg _ (by decide)]; omega
  obtain ⟨a0, ea0⟩ : ∃ a0, a0 = ws.length - (ws.length - 3) / 2 * 2 := ⟨_, rfl⟩
  rw [← ea0] at ha0
  have ha1 : a0 ≤ ws.length := by omega
  rw [ha0] at F2 ⊢
  refine Stop.mk (KBc.slice_K (s := ⟨_, _, _, _, _⟩) (ks := ws) F2 N2 hb (by constructor) (by constructor) (by omega) ?_)
  intro h6 t6 k6 F6 N6 hk6
  have hk6 : KBw.bInts _ = ws.take a0 := hk6.trans (by
    show (ws.drop 0).take (clipAt ws.length (a0 : Int) - 0) = _
    rw [clipAt_nat, List.drop_zero, Nat.sub_zero, Nat.min_eq_left ha1])
  k_steps
  refine Stop.mk (KBw.iterBytes_acc1 (y := Str.ofString "state") (fun a k => 16 * a + k - 65) hk6 rfl F6 N6 rfl ?_ ?_)
  · intro k t a ta h tk own hk hk0 hk1 ho F N
    have F : Fr g1 L1 h _ := F
    have N : News g1 L1 h (news ++ own) := N
    k_steps
    rename Fr g1 L1 _ _ => F9
    rename News g1 L1 _ _ => N9
    refine InvEndN.intro F9 N9 ⟨rfl, ⟨_, rfl⟩, ?_⟩ rfl (fun p hp => List.mem_append_left _ hp) (fun p hp => List.mem_append_right _ hp)
    intro z h1 h2
    simp only [if_neg h1, if_neg h2]
  · intro u t h tk F N
    obtain ⟨s0, hs0⟩ : ∃ s0, s0 = (ws.take a0).foldl (fun a k => 16 * a + k - 65) 0 := ⟨_, rfl⟩
    rw [← hs0] at F
    have F : Fr g1 L1 h _ := F
    have N : News g1 L1 h news := N
    k_steps
    rename Fr g1 L1 _ _ => F8
    rename News g1 L1 _ _ => N8
    refine Stop.mk (newList_K F8 N8 ?_)
    intro lk h9 F9 N9 l1
    clear F8 N8
    k_steps
    rename Fr g1 L1 _ _ => F8
    refine Stop.mk ?_
    with_unfolding_all refine' For_invVF F8 ?k1 ?k2 ?_
    case k1 => exact rfl
    case k2 => exact rfl
    k_steps
    rename Fr g1 L1 _ _ => F7
    rename News g1 L1 _ _ => N7
    rename IsRange _ _ _ _ _ _ _ _ => hrg
    rw [← ea0, ← hs0] at hrd hs00 hs01
    refine' Stop.mk (range_loop (n := n) (σ := Int × Tok × Nat × Tok × List Int × List Value × Nat) (fun c => (lk, listOf c.2.2.2.2.2.1.toArray c.2.2.2.2.2.2) :: news)
      (fun c => [(Str.ofString "state", .int c.1 c.2.1), (Str.ofString "at", .int (c.2.2.1 : Int) c.2.2.2.1)]) [Str.ofString "kind"]
      (fun i c => rd ow ws (n - i) c.2.2.2.2.1 c.1 c.2.2.1 = some (ks, st, pt) ∧ IntsAre c.2.2.2.2.2.1 c.2.2.2.2.1 ∧ c.2.2.2.2.1.length = i ∧ 0 ≤ c.1 ∧ c.1 < 65536 ∧ c.2.2.1 ≤ ws.length)
      (s0, _, a0, _, [], [], 0) (by rfl) hrg (by exact small_one (by omega) (by omega) (by omega) (by omega)) ((rangeSize_nat _ _).trans (by omega)) F7 N7 ?hk ?hp ?turn ?done)
    case hk =>
      intro p hp
      rcases List.mem_cons.mp hp with rfl | hp
      · exact rfl
      · rcases List.mem_singleton.mp hp with rfl; exact rfl
    case hp => exact ⟨hrd, .nil, rfl, hs00, hs01, ha1⟩
    case turn =>
      rintro I ⟨st', ts, at', tt, ks', kvs, ck⟩ i t u it h tk hI hi ⟨hp1, hp2, hp3, hp4, hp5, hp6⟩ hit F N
      dsimp only at hp1 hp2 hp3 hp4 hp5 hp6 F N
      have F : Fr g1 L1 h _ := F
      have N : News g1 L1 h ((I, it) :: (lk, listOf kvs.toArray ck) :: news) := N
      have hfm : st'.fmod 16 = st' % 16 := Int.fmod_eq_emod_of_nonneg _ (by decide)
      have hfd : st'.fdiv 16 = st' / 16 := Int.fdiv_eq_ediv_of_nonneg _ (by decide)
      obtain ⟨d, hd'⟩ : ∃ d, d = ow.getD (st' % 16).toNat 0 := ⟨_, rfl⟩
      have hIl := ltN (hI _ (.head _))
      have hkl : ks'.length ≤ 100 := by omega
      refine unr_gen ?_
      intro R9 Q9 hR9 hQ9
      k_steps
      rw [hfm]
      rename News g1 L1 _ _ => N8
      refine Stop.mk (ksa_sub (ns := ow) (vs := ovs) (n := co) N8 (.tail _ (.tail _ hlo)) hov (by omega) (by omega) (by omega) ?_)
      intro t8
      rw [← hd']
      dsimp only
      k_steps
      rename News g1 L1 _ _ => N10
      refine Stop.mk (kf_method (n := co) (its := ovs.toArray) N10 (.tail _ (.tail _ hlo)) PySem.F.slot_list_count PySem.F.type_list_count ?_)
      dsimp only
      k_steps
      refine Stop.mk (count_list_ints (PySem.IsL.isList (n := co) (N10 _ (.tail _ (.tail _ hlo))).1) hov ?_)
      dsimp only
      k_steps
      rename IntsAre _ (List.take _ _) => hI9
      rename News g1 L1 _ _ => N11
      refine Stop.mk (kf_method (n := 0) N11 (.head _) PySem.F.slot_list_count PySem.F.type_list_count ?_)
      dsimp only
      k_steps
      refine Stop.mk (count_list_ints (PySem.IsL.isList (n := 0) (N11 _ (.head _)).1) hI9 ?_)
      dsimp only
      k_steps
      obtain ⟨s1, hs1⟩ : ∃ s1, s1 = rdS ow st' := ⟨_, rfl⟩
      have hS : (ow.count d : Int) * st'.fdiv 16 + ((ow.take (st'.fmod 16).toNat).count d : Int) = s1 := by
        rw [hs1, hfm, hfd, hd']; rfl
      rw [hS]
      have hb1 := rdS_bound ow hol st' hp4 hp5
      rw [← hs1] at hb1
      have hni : n - i = (n - (i + 1)) + 1 := by omega
      rw [hni, rd, ← hs1, ← hd'] at hp1
      have hat : s1 < 256 → at' + 1 < ws.length := fun h9 => by
        by_cases h8 : at' + 1 < ws.length
        · exact h8
        · rw [if_pos h9, if_neg h8] at hp1
          cases hp1
      refine Stop.mk ?_
      k_steps
      · have h256 : s1 < 256 := by assumption
        have hat' := hat h256
        have hT := rdT_bound ws hws s1 at' hb1.1 h256 hat'
        rw [if_pos h256, if_pos hat'] at hp1
        unfold rdT at hp1 hT
        refine Stop.mk ?_
        try dsimp only
        refine KBw.item_K hb (by omega) (by omega) (by omega) ?_
        intro t9 k9 lo9 hi9
        try dsimp only
        rw [Int.toNat_natCast]
        k_steps
        refine Stop.mk ?_
        try dsimp only
        refine KBw.item_K hb (by omega) (by omega) (by omega) ?_
        intro t10 k10 lo10 hi10
        try dsimp only
        rw [show ((at' : Int) + 1).toNat = at' + 1 by omega]
        k_steps
        · have hd0 : d = 0 := by assumption
          rw [if_pos hd0] at hp1
          obtain ⟨rfl, rfl, rfl⟩ : ks' ++ [d] = ks ∧ _ = st ∧ at' + 2 = pt := by simpa only [Option.some.injEq, Prod.mk.injEq] using hp1
          rename Fr g1 L1 _ _ => F12
          rename News g1 L1 _ _ => N12
          simp only [List.push_toArray] at N12
          refine hQ9 _ _ ?_
          k_steps
          refine Stop.mk (newTuple_L F12 N12 ?_)
          intro x h12 F13 N13 l13
          k_steps
          rename News h₀ L _ _ => N14
          exact hret _ _ _ _ ⟨x, lk, _, _, _, _, rfl, rfl, ints_push hp2, l1, l13 (lk, _) (.tail _ (.tail _ (.head _)))⟩ (by assumption) (cb_drop N14 fun p hp => by
            rcases List.mem_cons.mp hp with rfl | hp
            · exact .head _
            · rcases List.mem_cons.mp hp with rfl | hp
              · exact .tail _ (.tail _ (.tail _ (.head _)))
              · exact .tail _ (.tail _ (.tail _ (.tail _ hp))))
        · have hd0 : ¬ d = 0 := by assumption
          rw [if_neg hd0] at hp1
          rename Fr g1 L1 _ _ => F12
          rename News g1 L1 _ _ => N12
          simp only [List.push_toArray] at N12
          refine' unr_endR hR9 (256 * s1 + 16 * (ws.getD at' 0 - 65) + ws.getD (at' + 1) 0 - 65, _, at' + 2, _, ks' ++ [d], kvs ++ [.int d t8], ck + 1) F12 N12 (.tail _ (.head _)) ?sub ?off ?h1 ?h2 ?hP
          case sub =>
            intro p hp
            rcases List.mem_cons.mp hp with rfl | hp
            · exact .tail _ (.tail _ (.head _))
            · exact .tail _ (.tail _ (.tail _ hp))
          case off => exact fun p hp => Nat.ne_of_lt ((List.mem_cons.mp hp).elim (fun e => e ▸ hIl) fun hp => hI p (.tail _ hp))
          case h1 =>
            intro p hp
            rcases List.mem_cons.mp hp with rfl | hp
            · exact rfl
            · rcases List.mem_singleton.mp hp with rfl; exact rfl
          case h2 =>
            intro z h1 h2 h3
            have a1 := h2 _ (List.Mem.head _)
            have a2 := h2 _ (List.Mem.tail _ (List.Mem.head _))
            have a3 : z ≠ Str.ofString "kind" := by simpa using h3
            dsimp only at a1 a2
            simp only [kstB, if_neg h1, if_neg a1, if_neg a2, if_neg a3, h3, Bool.false_eq_true, if_false]
          case hP => exact ⟨hp1, ints_push hp2, by show (ks' ++ [d]).length = i + 1; rw [List.length_append, hp3]; rfl, hT.1, hT.2, by show at' + 2 ≤ ws.length; omega⟩
      · have h256 : ¬ s1 < 256 := by assumption
        have hd0 : d = 0 := by assumption
        rw [if_neg h256, if_pos hd0] at hp1
        obtain ⟨rfl, rfl, rfl⟩ : ks' ++ [d] = ks ∧ s1 = st ∧ at' = pt := by simpa only [Option.some.injEq, Prod.mk.injEq] using hp1
        rename Fr g1 L1 _ _ => F12
        rename News g1 L1 _ _ => N12
        simp only [List.push_toArray] at N12
        refine hQ9 _ _ ?_
        k_steps
        refine Stop.mk (newTuple_L F12 N12 ?_)
        intro x h12 F13 N13 l13
        k_steps
        rename News h₀ L _ _ => N14
        exact hret _ _ _ _ ⟨x, lk, _, _, _, _, rfl, rfl, ints_push hp2, l1, l13 (lk, _) (.tail _ (.tail _ (.head _)))⟩ (by assumption) (cb_drop N14 fun p hp => by
          rcases List.mem_cons.mp hp with rfl | hp
          · exact .head _
          · rcases List.mem_cons.mp hp with rfl | hp
            · exact .tail _ (.tail _ (.tail _ (.head _)))
            · exact .tail _ (.tail _ (.tail _ (.tail _ hp))))
      · have h256 : ¬ s1 < 256 := by assumption
        have hd0 : ¬ d = 0 := by assumption
        rw [if_neg h256, if_neg hd0] at hp1
        rename Fr g1 L1 _ _ => F12
        rename News g1 L1 _ _ => N12
        simp only [List.push_toArray] at N12
        refine' unr_endR hR9 (s1, _, at', _, ks' ++ [d], kvs ++ [.int d t8], ck + 1) F12 N12 (.tail _ (.head _)) ?sub ?off ?h1 ?h2 ?hP
        case sub =>
          intro p hp
          rcases List.mem_cons.mp hp with rfl | hp
          · exact .tail _ (.tail _ (.head _))
          · exact .tail _ (.tail _ (.tail _ hp))
        case off => exact fun p hp => Nat.ne_of_lt ((List.mem_cons.mp hp).elim (fun e => e ▸ hIl) fun hp => hI p (.tail _ hp))
        case h1 =>
          intro p hp
          rcases List.mem_cons.mp hp with rfl | hp
          · exact rfl
          · rcases List.mem_singleton.mp hp with rfl; exact rfl
        case h2 =>
          intro z h1 h2 h3
          have a1 := h2 _ (List.Mem.head _)
          have a2 := h2 _ (List.Mem.tail _ (List.Mem.head _))
          have a3 : z ≠ Str.ofString "kind" := by simpa using h3
          dsimp only at a1 a2
          simp only [kstB, if_neg h1, if_neg a1, if_neg a2, if_neg a3, h3, Bool.false_eq_true, if_false]
        case hP => exact ⟨hp1, ints_push hp2, by show (ks' ++ [d]).length = i + 1; rw [List.length_append, hp3]; rfl, hb1.1, hb1.2, hp6⟩
    case done =>
      rintro ⟨st', ts, at', tt, ks', kvs, ck⟩ u h tk ⟨hp1, hp2, hp3, hp4, hp5, hp6⟩ F N
      dsimp only at hp1 hp2 hp3 hp4 hp5 hp6 F N
      have F : Fr g1 L1 h _ := F
      have N : News g1 L1 h ((lk, listOf kvs.toArray ck) :: news) := N
      k_steps
      rw [Nat.sub_self, rd] at hp1
      obtain ⟨rfl, rfl, rfl⟩ : ks' = ks ∧ st' = st ∧ at' = pt := by simpa only [Option.some.injEq, Prod.mk.injEq] using hp1
      rename Fr g1 L1 _ _ => F12
      refine Stop.mk (newTuple_L F12 N ?_)
      intro x h12 F13 N13 l13
      k_steps
      rename News h₀ L _ _ => N14
      exact hret _ _ _ _ ⟨x, lk, _, _, _, _, rfl, rfl, hp2, l1, l13 (lk, _) (.head _)⟩ (by assumption) N14
end
end Mine
end
-- part N1
section
namespace Mine
/-- a contract that leans on a list of the base -/
abbrev CtL (w : World) (f : Addr) (D : Nat) (ls : Addr) (its : Array Value) (vs : List Value) (news : List (Addr × Obj)) (Post : Value → List (Addr × Obj) → Prop) : Prop :=
  ∀ (p : Program) (loose : List Str) (mean : ExcName → Option Value) (mg mb : Str → Option Value)
    (dp un : Nat) (gd : Option (List Code)) (cn : Str) (cs : Scope) (a : Addr) (ccd : Value) (cl : List (Str × Addr)) (outer : List Env) (A₀ : Around) (base h₀ : Heap) (L : Addr) (m : Str → Option Value) (s : Shared) (Q E : Value → Shared → Prop),
    Below A₀ base outer h₀ → Fr h₀ L s.heap m → (Mine.heap w.params).In h₀ → News h₀ L s.heap news → Top p loose mean mg mb h₀ → cs.kind = .function → dp + D < recursionLimit → un + 8 * D < cLine → h₀.IsList ls its →
    (∀ (r : Value) (news' : List (Addr × Obj)) (h' : Heap) (tk' : Nat), Post r news' → Fr h₀ L h' m → News h₀ L h' news' → Q r { s with heap := h', toks := tk' }) →
    wpAny (model PR w) (ktrTop dp un gd cn cs L a ccd cl outer) (call (.ref f) vs) Q E s
section
-- the state's words kept short
local macro_rules | `(tactic| walk_at "CompSrc") => `(tactic| refine stop_here ?_)
local macro_rules | `(tactic| walk_at "CompEnd") => `(tactic| refine stop_here ?_)
local macro_rules | `(tactic| walk_at "FinE") => `(tactic| refine stop_here ?_)
set_option maxHeartbeats 8000000 in
theorem c_numbers (w : World) (ls : Addr) (svs : List Value) (sns : List Int) (hs : IntsAre svs sns) (hsl : sns.length ≤ 63) (news : List (Addr × Obj)) :
    CtL w 92 4 ls svs.toArray [.ref ls] news (fun r news' => ∃ (dl : Addr) (dvs : List Value) (cd : Nat) (ds : List Int), r = .ref dl ∧ news' = (dl, listOf dvs.toArray cd) :: news ∧ IntsAre dvs ds ∧ ds.length = 10 ∧ (∀ v ∈ ds, 0 ≤ v ∧ v < 1000000) ∧ ∀ p ∈ news, p.1 ≠ dl) := by
  have hF := kfill
  revert hF
  k_fill
  intro hF
  clear hF
  intro p loose mean mg mb dp un gd cn cs a' ccd cl outer A₀ base h₀ L m s Q E B F X N T hk hd hu hls hret
  have hMk : KstMark := kstMark
  refine wpAny_call ?_
  k_dflt (refine' code_defC ?k1 ?k2 ?k3 ?k4 ?k5 ?kA ?kF ?kK ?k6 ?k7 ?k8 ?k9 ?kB ?kD ?_ ?c2 ?c3 ?c4; (case kA => exact rfl); (case kF => exact rfl); (case kK => first | exact rfl | assumption); (case k1 => k_asm); (case k2 => k_asm); (case k3 => k_asm); (case k4 => k_asm); (case k5 => k_asm); (case k6 => k_is); (case k7 => k_is); (case k8 => ktr_room); (case k9 => exact BindsTo.of_eq rfl); (case kB => exact rfl); (case kD => decide +kernel); (case c2 => exact rfl); (case c3 => exact rfl); (case c4 => exact rfl); k_whole)
  intro g1 L1 hp1 tk1 cells1 FG1 F1 N1 Y1 B1 X1 T1' l1
  have l1a := Mine.lt_up1 l1
  have l1b := Mine.lt_up1 l1a
  have l1c := Mine.lt_up1 l1b
  k_cells Y1
  (try simp only [List.cons_append, List.nil_append] at N1)
  (try dsimp only)
  (try k_fold)
  rename_i ok oo dk dw
  have hls1 : g1.IsList ls svs.toArray := hls.at fun o e => FG1.keep _ o e
  k_steps
  rename Addr => lg
  refine Stop.mk (LCg.CompSrc.range (by rfl) (by k_asm) (by k_asm) (by assumption) (by decide) (by rfl) (by exact Nat.le_of_ble_eq_true rfl) ?_)
  intro g'
  refine' kcf_range (n := 10) (fun k => ([49744, 6, 0, 6, 0, 10, 0, 56690, 21, 3].getD k.toNat 0 + (pickNums sns (some k) none (some 10)).sum).fmod 1000000) ?cturn ?cfin
  case cturn =>
    intro pl tp I' oI' C' oC' D' m' ys' h' tk' E' hlo' hhi' hC' hx' F' N' off' ne' mk'
    have hhi2 : pl < 10 := hhi'
    k_steps
    rename Fr g1 L1 _ _ => F9
    rename News g1 L1 _ _ => N9
    refine sumK (vs := (slicePick svs.toArray (some pl) none (some 10)).toList) (ns := pickNums sns (some pl) none (some 10)) (by rfl) F9 N9 ⟨_, (N9 _ (.head _)).1, rfl, _, rfl⟩ (hs.pick _ _ _) ?_
    intro h6 t6 k6 F6 N6
    clear F9 N9
    k_steps
    rename News g1 L1 _ _ => N7
    refine Stop.mk (LCg.CompEnd.intro (by assumption) N7 _ (fun _ hp => .tail _ hp) off' trivial ?_)
    exact kcf_el rfl rfl rfl
  case cfin =>
    intro ys hys
    unfold LCg.FinE
    intro ap h7 tk7 F7 N7 o17
    simp only [LCg.Off1, and_true] at o17
    dsimp only
    have N8 : News g1 L1 h7 ((ap, listOf ys.toArray ys.length) :: _) := N7
    clear N7
    k_steps
    rename News h₀ L _ _ => N9
    refine hret _ _ _ _ ⟨ap, ys, ys.length, _, rfl, rfl, hys, by simp [rangeKs_length], ?_, ?_⟩ (by assumption) ?_
    · intro v hv
      obtain ⟨k, _, rfl⟩ := List.mem_map.mp hv
      rw [Int.fmod_eq_emod_of_nonneg _ (by decide)]
      omega
    · exact off1_ne o17.2.2.2
    · exact cb_drop N9 fun p hp => (List.mem_cons.mp hp).elim (fun e => e ▸ .head _) fun hp => .tail _ (.tail _ (.tail _ (.tail _ hp)))
end
end Mine
end
-- part N2
section
namespace Mine
/-- the 24 signs -/
noncomputable def EV : List Nat := [33, 37, 38, 40, 41, 42, 43, 44, 45, 46, 47, 58, 59, 60, 61, 62, 64, 91, 93, 94, 123, 124, 125, 126]
noncomputable def TxtOk (n : Nat) (x : Str) : Prop := x.length = n ∧ ∀ c ∈ x.cps.toList, c ∈ EV
theorem every_item : ∀ n : Nat, n < 24 → (Txt.item (Str.ofString "!%&()*+,-./:;<=>\x40[]^{|}~") (n : Int)).cps.toList = [EV.getD n 0] := by decide +kernel
theorem some_item : ∀ n : Nat, n < 8 → (Txt.item (Str.ofString "=<>*/-.+") (n : Int)).cps.toList = [[61, 60, 62, 42, 47, 45, 46, 43].getD n 0] := by decide +kernel
theorem item_ev {i : Int} (h0 : 0 ≤ i) (h1 : i < 24) : TxtOk 1 (Txt.item (Str.ofString "!%&()*+,-./:;<=>\x40[]^{|}~") i) := by
  obtain ⟨n, rfl⟩ := Int.eq_ofNat_of_zero_le h0
  refine ⟨rfl, fun c hc => ?_⟩
  rw [every_item n (by omega)] at hc
  rw [List.mem_singleton.mp hc]
  exact (by decide : ∀ n : Nat, n < 24 → EV.getD n 0 ∈ EV) n (by omega)
theorem item_some {i : Int} (h0 : 0 ≤ i) (h1 : i < 8) : TxtOk 1 (Txt.item (Str.ofString "=<>*/-.+") i) := by
  obtain ⟨n, rfl⟩ := Int.eq_ofNat_of_zero_le h0
  refine ⟨rfl, fun c hc => ?_⟩
  rw [some_item n (by omega)] at hc
  rw [List.mem_singleton.mp hc]
  exact (by decide : ∀ n : Nat, n < 8 → [61, 60, 62, 42, 47, 45, 46, 43].getD n 0 ∈ EV) n (by omega)
theorem TxtOk.add {n k : Nat} {x y : Str} (h : TxtOk n x) (h2 : TxtOk k y) : TxtOk (n + k) (x ++ y) := by
  refine ⟨by rw [PySem.Str.length_append, h.1, h2.1], fun c hc => ?_⟩
  rw [PySem.Str.cps_append, Array.toList_append] at hc
  rcases List.mem_append.mp hc with hc | hc
  · exact h.2 c hc
  · exact h2.2 c hc
section
-- the state's words kept short
local macro_rules | `(tactic| walk_at "exec For") => `(tactic| refine stop_here ?_)
local macro_rules | `(tactic| walk_at "exec For Name Subscript cons nil") => `(tactic| refine stop_here ?_)
local macro_rules | `(tactic| walk_at "pyIter ref") => `(tactic| refine stop_here ?_)
local macro_rules | `(tactic| walk_at "none 2") => `(tactic| fail)
set_option maxHeartbeats 8000000 in
theorem c_text (w : World) (nl : Addr) (nvs : List Value) (ns : List Int) (nc : Nat) (hs : IntsAre nvs ns) (hsl : ns.length ≤ 6) (hn0 : ∀ v ∈ ns, 0 ≤ v ∧ v < 1000000) (news : List (Addr × Obj)) (hm : (nl, listOf nvs.toArray nc) ∈ news) :
    Ct w 99 4 [.ref nl] news (fun r news' => ∃ tx tt, r = .str tx tt ∧ news' = news ∧ TxtOk ns.length tx) := by
  have hF := kfill
  revert hF
  k_fill
  intro hF
  clear hF
  intro p loose mean mg mb dp un gd cn cs a' ccd cl outer A₀ base h₀ L m s Q E B F X N T hk hd hu hret
  have hMk : KstMark := kstMark
  refine wpAny_call ?_
  k_dflt (refine' code_def ?k1 ?k2 ?k3 ?k4 ?k5 ?kA ?kF ?kK ?k6 ?k7 ?k8 ?k9 ?kB ?_ ?c2 ?c3 ?c4 ?c5; (case kA => exact rfl); (case kF => exact rfl); (case kK => first | exact rfl | assumption); (case k1 => k_asm); (case k2 => k_asm); (case k3 => k_asm); (case k4 => k_asm); (case k5 => k_asm); (case k6 => k_is); (case k7 => k_is); (case k8 => ktr_room); (case k9 => exact BindsTo.of_eq rfl); (case c5 => decide); (case kB => exact locs rfl); (case c2 => exact rfl); (case c3 => exact rfl); (case c4 => exact rfl); k_whole)
  intro g1 L1 hp1 FG1 F1 N1 B1 X1 T1'
  (try dsimp only)
  (try k_fold)
  k_steps
  refine Stop.mk ?_
  rename Fr g1 L1 _ _ => F2
  rename News g1 L1 _ _ => N2
  with_unfolding_all refine' For_invVF F2 ?k1 ?k2 ?_
  case k1 => exact rfl
  case k2 => exact rfl
  k_steps
  rename Fr g1 L1 _ _ => F3
  rename News g1 L1 _ _ => N3
  refine' Stop.mk (list_loop (ns := ns) (vs := nvs) (n := nc) (σ := Str × Tok) (fun _ => news)
    (fun c => [(Str.ofString "text", .str c.1 c.2)]) []
    (fun pre c => TxtOk pre.length c.1) (Str.ofString "", _) (by rfl) F3 N3 (fun _ => hm) hs ?hk ?hp ?turn ?done)
  case hk =>
    intro p hp
    rcases List.mem_singleton.mp hp with rfl; exact rfl
  case hp => exact ⟨rfl, fun c hc => nomatch hc⟩
  case turn =>
    rintro I ⟨tx, tt⟩ pre k post tk' u it h tk hI hpre hP hit F N
    dsimp only at F N
    have F : Fr g1 L1 h _ := F
    have N : News g1 L1 h ((I, it) :: news) := N
    have hk := hn0 k (hpre ▸ List.mem_append_right _ (.head _))
    clear N3 F3
    have hm2 : k.fmod 2 = k % 2 := Int.fmod_eq_emod_of_nonneg _ (by decide)
    have hI0 : 0 ≤ (k.fdiv 2).fmod 24 ∧ (k.fdiv 2).fmod 24 < 24 := by rw [Int.fmod_eq_emod_of_nonneg _ (by decide)]; omega
    have hI8 : 0 ≤ (k.fdiv 2).fmod 8 ∧ (k.fdiv 2).fmod 8 < 8 := by rw [Int.fmod_eq_emod_of_nonneg _ (by decide)]; omega
    have hl0 : pre.length ≤ 6 := by have := congrArg List.length hpre; rw [List.length_append, List.length_cons] at this; omega
    have hP : TxtOk pre.length tx := hP
    have hlen := hP.1
    have hpl : pre.length + 1 = (pre ++ [k]).length := by rw [List.length_append]; rfl
    k_steps
    · have hy := item_ev hI0.1 hI0.2
      rename Fr g1 L1 _ _ => F12
      rename News g1 L1 _ _ => N12
      refine' unr_end (tx ++ Txt.item (Str.ofString "!%&()*+,-./:;<=>\x40[]^{|}~") ((k.fdiv 2).fmod 24), _) F12 N12 (.head _) ?sub ?off ?h1 ?h2 ?hP
      case hP => exact hpl ▸ hP.add hy
      case sub => exact fun p hp => .tail _ hp
      case off => exact fun p hp => Nat.ne_of_lt (hI p hp)
      case h1 =>
        intro p hp
        rcases List.mem_singleton.mp hp with rfl; exact rfl
      case h2 =>
        intro z h1 h2 h3
        have a1 := h2 _ (List.Mem.head _)
        dsimp only at a1
        simp only [kstB, if_neg h1, if_neg a1, h3, Bool.false_eq_true, if_false]
    · have hy := item_some hI8.1 hI8.2
      rename Fr g1 L1 _ _ => F12
      rename News g1 L1 _ _ => N12
      refine' unr_end (tx ++ Txt.item (Str.ofString "=<>*/-.+") ((k.fdiv 2).fmod 8), _) F12 N12 (.head _) ?sub ?off ?h1 ?h2 ?hP
      case hP => exact hpl ▸ hP.add hy
      case sub => exact fun p hp => .tail _ hp
      case off => exact fun p hp => Nat.ne_of_lt (hI p hp)
      case h1 =>
        intro p hp
        rcases List.mem_singleton.mp hp with rfl; exact rfl
      case h2 =>
        intro z h1 h2 h3
        have a1 := h2 _ (List.Mem.head _)
        dsimp only at a1
        simp only [kstB, if_neg h1, if_neg a1, h3, Bool.false_eq_true, if_false]
  case done =>
    rintro ⟨tx, tt⟩ u h tk hP F N
    dsimp only at F N
    have F : Fr g1 L1 h _ := F
    have N : News g1 L1 h news := N
    clear N3 F3
    k_steps
    exact hret _ _ _ _ ⟨tx, tt, rfl, rfl, hP⟩ (by assumption) (by assumption)
end
end Mine
end
-- part N3
section
namespace Mine
noncomputable def Cut (ts : List Int) (l : List Nat) : Prop := ∃ ps : List (List Nat × Int), (∀ p ∈ ps, p ∈ TOK) ∧ ts = ps.map (·.2) ∧ l = ps.flatMap (·.1)
theorem Cut.snoc {ts : List Int} {l p : List Nat} {i : Int} (h : Cut ts l) (hp : (p, i) ∈ TOK) : Cut (ts ++ [i]) (l ++ p) := by
  obtain ⟨ps, h1, rfl, rfl⟩ := h
  refine ⟨ps ++ [(p, i)], fun q hq => ?_, by simp, by simp⟩
  rcases List.mem_append.mp hq with hq | hq
  · exact h1 q hq
  · rw [List.mem_singleton.mp hq]; exact hp
section
-- the state's words kept short
local macro_rules | `(tactic| walk_at "exec While") => `(tactic| refine stop_here ?_)
local macro_rules | `(tactic| walk_at "EachL") => `(tactic| refine stop_here ?_)
local macro_rules | `(tactic| walk_at "newList") => `(tactic| refine stop_here ?_)
local macro_rules | `(tactic| walk_at "none 3") => `(tactic| fail)
local macro_rules | `(tactic| walk_at "none 4") => `(tactic| fail)
set_option maxHeartbeats 8000000 in
theorem c_tokens (w : World) (tx : Str) (n : Nat) (hn : n ≤ 6) (htx : TxtOk n tx) (tt : Tok) (news : List (Addr × Obj)) :
    Ct w 106 4 [.str tx tt] news (fun r news' => ∃ (lg : Addr) (tvs : List Value) (ct : Nat) (ts : List Int), r = .ref lg ∧ news' = (lg, listOf tvs.toArray ct) :: news ∧ IntsAre tvs ts ∧ ts.length ≤ n ∧ Cut ts tx.cps.toList ∧ ∀ p ∈ news, p.1 < lg) := by
  have hF := kfill
  revert hF
  k_fill
  intro hF
  clear hF
  intro p loose mean mg mb dp un gd cn cs a' ccd cl outer A₀ base h₀ L m s Q E B F X N T hk hd hu hret
  have hMk : KstMark := kstMark
  refine wpAny_call ?_
  k_dflt (refine' code_def ?k1 ?k2 ?k3 ?k4 ?k5 ?kA ?kF ?kK ?k6 ?k7 ?k8 ?k9 ?kB ?_ ?c2 ?c3 ?c4 ?c5; (case kA => exact rfl); (case kF => exact rfl); (case kK => first | exact rfl | assumption); (case k1 => k_asm); (case k2 => k_asm); (case k3 => k_asm); (case k4 => k_asm); (case k5 => k_asm); (case k6 => k_is); (case k7 => k_is); (case k8 => ktr_room); (case k9 => exact BindsTo.of_eq rfl); (case c5 => decide); (case kB => exact locs rfl); (case c2 => exact rfl); (case c3 => exact rfl); (case c4 => exact rfl); k_whole)
  intro g1 L1 hp1 FG1 F1 N1 B1 X1 T1'
  (try dsimp only)
  (try k_fold)
  k_steps
  rename Fr g1 L1 _ _ => F2
  rename News g1 L1 _ _ => N2
  refine Stop.mk (newList_K F2 N2 ?_)
  intro lg h9 F9 N9 lg1
  clear F2 N2
  k_steps
  rename Fr g1 L1 _ _ => F2
  rename News g1 L1 _ _ => N2
  refine' Stop.mk (ksw_while (σ := (Str × Tok) × List Int × List Value × Nat) (fun c => (lg, listOf c.2.2.1.toArray c.2.2.2) :: news) (fun c => [(Str.ofString "text", .str c.1.1 c.1.2)]) (fun _ => True) [Str.ofString "piece"]
    (fun c => TxtOk c.1.1.length c.1.1 ∧ IntsAre c.2.2.1 c.2.1 ∧ c.1.1.length + c.2.1.length ≤ n ∧ ∃ pre, Cut c.2.1 pre ∧ tx.cps.toList = pre ++ c.1.1.cps.toList) (fun c => c.1.1.length) ((tx, tt), [], [], 0) F2 N2 trivial ?hk ?hp ?turn)
  case hk =>
    intro p hp
    rcases List.mem_singleton.mp hp with rfl; exact rfl
  case hp => exact ⟨htx.1.symm ▸ htx, .nil, Nat.le_of_eq htx.1, [], ⟨[], (fun _ h => nomatch h), rfl, rfl⟩, rfl⟩
  case turn =>
    rintro ⟨⟨tx', tt'⟩, ts, tvs, ct⟩ u h tk - ⟨hp1, hp2, hp3, pre, hp4, hp5⟩ F N
    dsimp only at hp1 hp2 hp3 hp4 hp5 F N
    have htl : tx'.length ≤ 6 := by omega
    have F : Fr g1 L1 h _ := F
    have N : News g1 L1 h ((lg, listOf tvs.toArray ct) :: news) := N
    clear F2 N2
    k_steps
    · have hne : (tx' != Str.ofString "") = true := by assumption
      rename Fr g1 L1 _ _ => F2
      rename News g1 L1 _ _ => N2
      refine' Stop.mk (ksw_while (σ := Str × Tok) (fun _ => (lg, listOf tvs.toArray ct) :: news) (fun c => [(Str.ofString "piece", .str c.1 c.2)]) (fun _ => True) []
        (fun c => ∃ j, 1 ≤ j ∧ j ≤ 3 ∧ j ≤ tx'.length ∧ c.1.cps.toList = tx'.cps.toList.take j) (fun c => c.1.length) (_, _) F2 N2 trivial ?hk ?hp ?turn)
      case hk =>
        intro p hp
        rcases List.mem_singleton.mp hp with rfl; exact rfl
      case hp =>
        have h0 : tx'.length ≠ 0 := fun e => by
          have : tx' = Str.ofString "" := PySem.Str.ext' (Array.eq_empty_of_size_eq_zero e)
          rw [this] at hne
          exact absurd hne (by decide +kernel)
        exact ⟨min 3 tx'.length, by omega, by omega, by omega, slice_up tx' htl⟩
      case turn =>
        rintro ⟨pc, pt⟩ u2 h2 tk2 - ⟨j, hj1, hj2, hj3, hj4⟩ F N
        dsimp only at hj4 F N
        have F : Fr g1 L1 h2 _ := F
        have N : News g1 L1 h2 ((lg, listOf tvs.toArray ct) :: news) := N
        clear F2 N2
        have hpl : pc.length = j := by
          have h1 := congrArg List.length hj4
          rw [List.length_take, Array.length_toList, Array.length_toList] at h1
          have h2 : tx'.cps.size = tx'.length := rfl
          have h3 : pc.cps.size = pc.length := rfl
          omega
        have hpl3 : pc.length ≤ 3 := by omega
        have hpl1 : 1 ≤ pc.length := by omega
        k_steps
        · refine Stop.mk (eachL_rows TOK ?_)
          intro i t hrow
          dsimp only
          k_steps
          have hd4 := slice_from tx' htl pc.length (by omega)
          have hdl : (Txt.slice tx' (some (pc.length : Int)) none).length = tx'.length - j := by
            have h1 := congrArg List.length hd4
            rw [List.length_drop, Array.length_toList, Array.length_toList] at h1
            have h2 : tx'.cps.size = tx'.length := rfl
            have h3 : (Txt.slice tx' (some (pc.length : Int)) none).cps.size = (Txt.slice tx' (some (pc.length : Int)) none).length := rfl
            omega
          rename Fr g1 L1 _ _ => F7
          rename News g1 L1 _ _ => N7
          simp only [List.push_toArray] at N7
          refine' ksw_end ((Txt.slice tx' (some (pc.length : Int)) none, _), ts ++ [i], tvs ++ [Value.int i t], ct + 1) F7 N7 (fun p hp => hp) trivial ?hk ?hs ?hp ?hm
          case hk =>
            intro p hp
            rcases List.mem_singleton.mp hp with rfl; exact rfl
          case hs =>
            intro z h2 h3
            have a1 := h2 _ (List.Mem.head _)
            have a3 : z ≠ Str.ofString "piece" := by simpa using h3
            dsimp only at a1
            simp only [kstB, if_neg a1, if_neg a3, h3, Bool.false_eq_true, if_false]
            rfl
          case hp =>
            refine ⟨⟨rfl, fun c hc => hp1.2 c (List.mem_of_mem_drop (hd4 ▸ hc))⟩, ints_push hp2, ?_, pre ++ pc.cps.toList, hp4.snoc hrow, ?_⟩
            · show (Txt.slice tx' (some (pc.length : Int)) none).length + (ts ++ [i]).length ≤ n
              rw [hdl, List.length_append]
              simp only [List.length_singleton]
              omega
            · show tx.cps.toList = (pre ++ pc.cps.toList) ++ (Txt.slice tx' (some (pc.length : Int)) none).cps.toList
              rw [hd4, hpl, hj4, List.append_assoc, List.take_append_drop]
              exact hp5
          case hm =>
            show (Txt.slice tx' (some (pc.length : Int)) none).length < tx'.length
            omega
        · have hin : inTok pc = false := by assumption
          have hj1' : j ≠ 1 := fun e => by
            rw [e] at hj4
            have hl1 : pc.cps.toList.length = 1 := by rw [Array.length_toList]; show pc.length = 1; omega
            obtain ⟨c, hc⟩ := List.length_eq_one_iff.mp hl1
            have hcE : c ∈ EV := hp1.2 c (List.mem_of_mem_take (hj4 ▸ hc ▸ List.mem_singleton.mpr rfl))
            have hpc : pc = ⟨[c].toArray⟩ := PySem.Str.ext' (by rw [← hc])
            rw [hpc] at hin
            rw [(by decide +kernel : ∀ c ∈ EV, inTok ⟨[c].toArray⟩ = true) c hcE] at hin
            cases hin
          have hd4 := slice_cut pc (by omega)
          have hdl : (Txt.slice pc none (some (-1))).length = j - 1 := by
            have h1 := congrArg List.length hd4
            rw [List.length_take, Array.length_toList, Array.length_toList] at h1
            have h2 : pc.cps.size = pc.length := rfl
            have h3 : (Txt.slice pc none (some (-1))).cps.size = (Txt.slice pc none (some (-1))).length := rfl
            omega
          rename Fr g1 L1 _ _ => F7
          rename News g1 L1 _ _ => N7
          refine' ksw_end (Txt.slice pc none (some (-1)), _) F7 N7 (fun p hp => hp) trivial ?hk ?hs ?hp ?hm
          case hk =>
            intro p hp
            rcases List.mem_singleton.mp hp with rfl; exact rfl
          case hs =>
            intro z h2 h3
            have a1 := h2 _ (List.Mem.head _)
            dsimp only at a1
            simp only [kstB, if_neg a1, h3, Bool.false_eq_true, if_false]
            try rfl
          case hp =>
            refine ⟨j - 1, by omega, by omega, by omega, ?_⟩
            show (Txt.slice pc none (some (-1))).cps.toList = _
            rw [hd4, hj4, List.take_take, hpl, Nat.min_eq_left (by omega)]
          case hm =>
            show (Txt.slice pc none (some (-1))).length < pc.length
            omega
    · have he : tx'.cps.toList = [] := by
        have h1 : (tx' != Str.ofString "") = false := by assumption
        have h2 : tx' = Str.ofString "" := by simpa using h1
        rw [h2]; rfl
      rw [he, List.append_nil] at hp5
      exact hret _ _ _ _ ⟨lg, tvs, ct, ts, rfl, rfl, hp2, by omega, hp5 ▸ hp4, lg1⟩ (by assumption) (by assumption)
end
end Mine
end
-- part O1
section
namespace Mine
/-- the sixteen letters' kinds ahead of the turning -/
noncomputable def deal0 (ks : List Int) (mo : Int) : List Int := ks ++ ks ++ (rangeKs 0 (16 - 2 * ks.length)).map (fun k => ks.getD ((mo.fdiv ((ks.length : Int) ^ k.toNat)).fmod (ks.length : Int)).toNat 0)
noncomputable def deal (ks : List Int) (mo tn : Int) : List Int := (deal0 ks mo).drop tn.toNat ++ (deal0 ks mo).take tn.toNat
section
-- the state's words kept short
local macro_rules | `(tactic| walk_at "eval ListComp") => `(tactic| (k_here; k_dflt (refine LCg.ListComp_U (F₀ := by k_asm) (by with_unfolding_all rfl) (by decide) (by rfl) (by decide) (by rfl) ?_)))
local macro_rules | `(tactic| walk_at "CompSrc") => `(tactic| refine stop_here ?_)
local macro_rules | `(tactic| walk_at "CompEnd") => `(tactic| refine stop_here ?_)
local macro_rules | `(tactic| walk_at "FinE") => `(tactic| refine stop_here ?_)
local macro_rules | `(tactic| walk_at "none 5") => `(tactic| fail)
local macro_rules | `(tactic| walk_at "none 6") => `(tactic| fail)
set_option maxHeartbeats 8000000 in
theorem c_deal (w : World) (kl : Addr) (ck : Nat) (kvs : List Value) (ks : List Int) (hks : IntsAre kvs ks) (hk2 : 2 ≤ ks.length) (hk7 : ks.length ≤ 7) (mo tn : Int) (tm tt : Tok) (hm0 : 0 ≤ mo) (hm1 : mo < 1000000) (ht0 : 0 ≤ tn) (ht1 : tn < 16)
    (news : List (Addr × Obj)) (hkl : (kl, listOf kvs.toArray ck) ∈ news) :
    Ct w 111 4 [.ref kl, .int mo tm, .int tn tt] news (fun r news' => ∃ (ol : Addr) (ovs : List Value) (oc : Nat), r = .ref ol ∧ news' = (ol, listOf ovs.toArray oc) :: news ∧ IntsAre ovs (deal ks mo tn) ∧ ∀ p ∈ news, p.1 < ol) := by
  have hF := kfill
  revert hF
  k_fill
  intro hF
  clear hF
  intro p loose mean mg mb dp un gd cn cs a' ccd cl outer A₀ base h₀ L m s Q E B F X N T hk hd hu hret
  have hMk : KstMark := kstMark
  refine wpAny_call ?_
  k_dflt (refine' code_defC ?k1 ?k2 ?k3 ?k4 ?k5 ?kA ?kF ?kK ?k6 ?k7 ?k8 ?k9 ?kB ?kD ?_ ?c2 ?c3 ?c4; (case kA => exact rfl); (case kF => exact rfl); (case kK => first | exact rfl | assumption); (case k1 => k_asm); (case k2 => k_asm); (case k3 => k_asm); (case k4 => k_asm); (case k5 => k_asm); (case k6 => k_is); (case k7 => k_is); (case k8 => ktr_room); (case k9 => exact BindsTo.of_eq rfl); (case kB => exact rfl); (case kD => decide +kernel); (case c2 => exact rfl); (case c3 => exact rfl); (case c4 => exact rfl); k_whole)
  intro g1 L1 hp1 tk1 cells1 FG1 F1 N1 Y1 B1 X1 T1' l1
  have l1a := Mine.lt_up1 l1
  have l1b := Mine.lt_up1 l1a
  have l1c := Mine.lt_up1 l1b
  k_cells Y1
  (try simp only [List.cons_append, List.nil_append] at N1)
  (try dsimp only)
  (try k_fold)
  rename_i o1 o2 o3 d1 d2 d3
  have d2 : o2.data = .cell (some (.int mo tm)) := d2
  have d3 : o3.data = .cell (some (.ref kl)) := d3
  have hkl2 : (kl, listOf kvs.toArray ck) ∈ (L1 + 1 + 1 + 1, o1) :: (L1 + 1 + 1, o2) :: (L1 + 1, o3) :: news := .tail _ (.tail _ (.tail _ hkl))
  k_steps
  rename News g1 L1 _ _ => N9
  refine kst_len N9 hkl2 hks.length (by omega) ?_
  dsimp only
  k_steps
  rename Obj => oc
  rename Addr => da
  obtain ⟨nc, hnc⟩ : ∃ nc : Nat, nc = 16 - 2 * ks.length := ⟨_, rfl⟩
  refine Stop.mk (LCg.CompSrc.range (n := nc) (by rfl) (by k_asm) (by k_asm) (by assumption) (by exact small_one (by omega) (by omega) (by omega) (by omega)) ((rangeSize_nat _ _).trans (by omega)) (by rw [PySem.sizeLine_eq]; omega) ?_)
  intro g'
  refine' kcf_range (n := nc) (fun k => ks.getD ((mo.fdiv ((ks.length : Int) ^ k.toNat)).fmod (ks.length : Int)).toNat 0) ?cturn ?cfin
  case cturn =>
    intro pl tp I' oI' C' oC' D' m' ys' h' tk' E' hlo' hhi' hC' hx' F' N' off' ne' mk'
    have hpl : pl < 14 := by omega
    have hpw : 0 < (ks.length : Int) ^ pl.toNat := Int.pow_pos (by omega)
    have hpw0 : (ks.length : Int) ^ pl.toNat ≠ 0 := by omega
    obtain ⟨ps, hps⟩ : ∃ ps, ps = (ks.length : Int) ^ pl.toNat := ⟨_, rfl⟩
    have hpb : (ks.length : Int) ^ pl.toNat < 137438953472 := by
      have h1 : ks.length ^ pl.toNat ≤ 7 ^ 13 := Nat.le_trans (Nat.pow_le_pow_left hk7 _) (Nat.pow_le_pow_right (by decide) (by omega))
      have h2 : ((ks.length ^ pl.toNat : Nat) : Int) ≤ ((7 ^ 13 : Nat) : Int) := Int.ofNat_le.mpr h1
      rw [Int.natCast_pow] at h2
      have h3 : ((7 ^ 13 : Nat) : Int) < 137438953472 := by decide
      omega
    rw [← hps] at hpw hpw0 hpb ⊢
    k_steps
    rw [← hps]
    refine floordiv_int hpw0 ?_ (Or.inl (PyProof.noPylong_of_log2 (Nat.lt_of_lt_of_le ((Nat.log2_lt (by omega)).mpr (by omega : ps.natAbs < 2 ^ 37)) (by decide))))
    k_steps
    refine Stop.mk (LCg.CompEnd.intro (by assumption) (by assumption) _ (fun _ hp => hp) off' trivial ?_)
    exact kcf_el rfl rfl rfl
  case cfin =>
    intro ys hys
    unfold LCg.FinE
    intro ap h7 tk7 F7 N7 o17
    dsimp only
    have N8 : News g1 L1 h7 ((ap, listOf ys.toArray ys.length) :: _) := N7
    clear N7
    k_steps
    rename News h₀ L _ _ => N9
    rename IntsAre _ (List.drop _ _ ++ List.take _ _) => hI9
    rename _ ∧ _ => l9
    rw [hnc] at hI9
    exact hret _ _ _ _ ⟨_, _, 0, rfl, rfl, hI9, fun p hp => ktn_ltOf l9.2.2.2.2.2.2.2.2 p hp⟩ (by assumption) (cb_drop N9 fun p hp => by
      rcases List.mem_cons.mp hp with rfl | hp
      · exact .head _
      · exact .tail _ (.tail _ (.tail _ (.tail _ (.tail _ (.tail _ (.tail _ (.tail _ (.tail _ hp)))))))))
end
end Mine
end
-- part P4
section
/-! the deal: sixteen letters, each kind two or more -/
namespace Mine
theorem deal0_len (ks : List Int) (mo : Int) (h7 : ks.length ≤ 7) : (deal0 ks mo).length = 16 := by
  unfold deal0
  rw [List.length_append, List.length_append, List.length_map, rangeKs_length]
  omega
theorem deal_len (ks : List Int) (mo tn : Int) (h7 : ks.length ≤ 7) : (deal ks mo tn).length = 16 := by
  have h := deal0_len ks mo h7
  unfold deal
  rw [List.length_append, List.length_drop, List.length_take]
  omega
theorem deal_count (ks : List Int) (mo tn k : Int) : (deal ks mo tn).count k = (deal0 ks mo).count k := by
  unfold deal
  conv => rhs; rw [← List.take_append_drop tn.toNat (deal0 ks mo)]
  rw [List.count_append, List.count_append, Nat.add_comm]
theorem deal_two (ks : List Int) (mo tn k : Int) (h7 : ks.length ≤ 7) (hk : k ∈ ks) : 2 ≤ (plc (deal ks mo tn) k).length := by
  rw [plc_count _ (deal_len ks mo tn h7), deal_count]
  unfold deal0
  rw [List.count_append, List.count_append]
  have := List.count_pos_iff.mpr hk
  omega
theorem deal_mem (ks : List Int) (mo tn : Int) (h2 : 2 ≤ ks.length) (x : Int) (hx : x ∈ deal ks mo tn) : x ∈ ks := by
  have h0 : x ∈ deal0 ks mo := by
    unfold deal at hx
    rcases List.mem_append.mp hx with hx | hx
    · exact List.mem_of_mem_drop hx
    · exact List.mem_of_mem_take hx
  unfold deal0 at h0
  rcases List.mem_append.mp h0 with h0 | h0
  · rcases List.mem_append.mp h0 with h0 | h0
    · exact h0
    · exact h0
  · obtain ⟨k, _, rfl⟩ := List.mem_map.mp h0
    have hn : (0 : Int) < (ks.length : Int) := by omega
    have a := Int.fmod_nonneg_of_pos (mo.fdiv ((ks.length : Int) ^ k.toNat)) hn
    have b := Int.fmod_lt_of_pos (mo.fdiv ((ks.length : Int) ^ k.toNat)) hn
    generalize (mo.fdiv ((ks.length : Int) ^ k.toNat)).fmod (ks.length : Int) = z at a b ⊢
    rw [List.getD_eq_getElem?_getD, List.getElem?_eq_getElem (by omega : z.toNat < ks.length)]
    exact List.getElem_mem _
theorem deal_all (ks : List Int) (mo tn : Int) (h2 : 2 ≤ ks.length) (h7 : ks.length ≤ 7) (j : Nat) (hj : j < 16) : 2 ≤ (plc (deal ks mo tn) ((deal ks mo tn).getD j 0)).length := by
  refine deal_two ks mo tn _ h7 (deal_mem ks mo tn h2 _ ?_)
  have hl := deal_len ks mo tn h7
  rw [List.getD_eq_getElem?_getD, List.getElem?_eq_getElem (by omega : j < (deal ks mo tn).length)]
  exact List.getElem_mem _
end Mine
end
-- part P5
section
/-! the text out of its operators' numbers: no program in sight -/
namespace Mine
/-- the sign of a kind -/
noncomputable def sgn (k : Int) : Str := match TOK.find? (fun p => p.2 == k) with | some p => ⟨p.1.toArray⟩ | none => ⟨#[]⟩
theorem sgn_tok : ∀ p ∈ TOK, sgn p.2 = ⟨p.1.toArray⟩ := by decide +kernel
theorem cut_mem {ts : List Int} {l : List Nat} (h : Cut ts l) {k : Int} (hk : k ∈ ts) : ∃ p ∈ TOK, p.2 = k := by
  obtain ⟨ps, h1, rfl, _⟩ := h
  obtain ⟨p, hp, rfl⟩ := List.mem_map.mp hk
  exact ⟨p, h1 p hp, rfl⟩
theorem join_s : ∀ l : List Str, (Str.join (Str.ofString "") l).cps.toList = l.flatMap fun x => x.cps.toList
  | [] => rfl
  | [x] => by rw [List.flatMap_cons, List.flatMap_nil, List.append_nil]; rfl
  | x :: y :: r => by
    have ih := join_s (y :: r)
    have e : Str.join (Str.ofString "") (x :: y :: r) = x ++ Str.ofString "" ++ Str.join (Str.ofString "") (y :: r) := rfl
    rw [e, PySem.Str.cps_append, PySem.Str.cps_append, Array.toList_append, Array.toList_append, ih, List.flatMap_cons]
    have e0 : (Str.ofString "").cps.toList = [] := rfl
    rw [e0, List.append_nil]
    simp only [List.flatMap_cons]
theorem join_e (l : List Str) : (Txt.join (Str.ofString "") l).cps.toList = l.flatMap fun x => x.cps.toList := by
  rw [← join_s, beq_iff_eq.mp (join_plain_closes (Str.ofString "") l)]
theorem cut_join {ts : List Int} {tx : Str} (h : Cut ts tx.cps.toList) : Txt.join (Str.ofString "") (ts.map sgn) = tx := by
  obtain ⟨ps, h1, rfl, h3⟩ := h
  refine PySem.Str.ext' ?_
  apply Array.ext'
  rw [join_e, h3, List.map_map, List.flatMap_map]
  clear h3
  induction ps with
  | nil => rfl
  | cons p ps ih =>
    rw [List.flatMap_cons, List.flatMap_cons, ih fun q hq => h1 q (.tail _ hq)]
    congr 1
    simp only [Function.comp_apply, sgn_tok p (h1 p (.head _))]
theorem sgn_len (k : Int) : (sgn k).length ≤ 3 := by
  unfold sgn
  split
  · rename_i p e
    exact (by decide +kernel : ∀ p ∈ TOK, (⟨p.1.toArray⟩ : Str).length ≤ 3) p (List.mem_of_find?_eq_some e)
  · exact Nat.zero_le _
theorem sgn_sum : ∀ ts : List Int, ((ts.map sgn).map (·.length)).sum ≤ 3 * ts.length
  | [] => Nat.le_refl _
  | t :: ts => by
    have := sgn_sum ts
    have h := sgn_len t
    simp only [List.map_cons, List.sum_cons, List.length_cons] at this ⊢
    omega
end Mine
end
-- part Q1
section
namespace Mine
theorem ctl_use {w : World} {f : Addr} {D : Nat} {ls : Addr} {its : Array Value} {vs : List Value} {news : List (Addr × Obj)} {Post : Value → List (Addr × Obj) → Prop} {p : Program} {loose : List Str} {mean : ExcName → Option Value} {mg mb : Str → Option Value}
    {dp un : Nat} {gd : Option (List Code)} {cn : Str} {cs : Scope} {a : Addr} {ccd : Value} {cl : List (Str × Addr)} {outer : List Env} {A₀ : Around} {base h₀ : Heap} {L : Addr} {m : Str → Option Value} {s : Shared} {Q E : Value → Shared → Prop}
    (C : CtL w f D ls its vs news Post) (B : Below A₀ base outer h₀) (F : Fr h₀ L s.heap m) (X : (Mine.heap w.params).In h₀) (N : News h₀ L s.heap news) (T : Top p loose mean mg mb h₀) (hk : cs.kind = .function) (hd : dp + D < recursionLimit) (hu : un + 8 * D < cLine) (hl : h₀.IsList ls its)
    (ret : ∀ (r : Value) (news' : List (Addr × Obj)) (h' : Heap) (tk' : Nat), Post r news' → Fr h₀ L h' m → News h₀ L h' news' → Q r { s with heap := h', toks := tk' }) :
    wpAny (model PR w) (ktrTop dp un gd cn cs L a ccd cl outer) (call (.ref f) vs) Q E s := C _ _ _ _ _ _ _ _ _ _ _ _ _ _ _ _ _ _ _ _ _ _ B F X N T hk hd hu hl ret
theorem TabSt.tab {P : Addr} {ln co : Nat} {q : Str} {T1 : List (Addr × Obj)} (h : TabSt P ln co q T1) : ∃ ps, (P, tabObj ps) ∈ T1 := by
  cases h
  · exact ⟨_, .head _⟩
  · exact ⟨_, .head _⟩
/-- what is no table does not stand where a table stands -/
noncomputable def NoTab (o : Obj) : Prop := o.cls ≠ .none ∨ ∃ v, o.data = .cell v
theorem off_tab {h₀ h : Heap} {L d : Addr} {all l : List (Addr × Obj)} {ps : Array Value} (N : News h₀ L h all) (hd : (d, tabObj ps) ∈ all) (hl : ∀ p ∈ l, p ∈ all) (hn : ∀ p ∈ l, NoTab p.2) : OwnOff l [d] := by
  intro p hp b hb e
  rw [List.mem_singleton.mp hb] at e
  have h1 := (N _ (hl p hp)).1
  rw [e, (N _ hd).1] at h1
  have h2 := Option.some.inj h1
  rcases hn p hp with h3 | ⟨v, h3⟩
  · rw [← h2] at h3; exact h3 rfl
  · rw [← h2] at h3; cases h3
theorem noTab_list {its : Array Value} {c : Nat} : NoTab (listOf its c) := .inl (by intro h; cases h)
theorem OwnOff.two {l : List (Addr × Obj)} {a b : Addr} (h1 : OwnOff l [a]) (h2 : OwnOff l [b]) : OwnOff l [a, b] := fun p hp x hx => by
  rcases List.mem_cons.mp hx with rfl | hx
  · exact h1 p hp _ (.head _)
  · exact h2 p hp x hx
theorem TabSt.data {P : Addr} {ln co : Nat} {q : Str} {T1 : List (Addr × Obj)} (h : TabSt P ln co q T1) : ∀ p ∈ T1, ∃ vs, p.2.data = .fields vs := by
  cases h with
  | empty => intro p hp; rw [List.mem_singleton.mp hp]; exact ⟨_, rfl⟩
  | full d1 d2 =>
    intro p hp
    rcases List.mem_cons.mp hp with rfl | hp
    · exact ⟨_, rfl⟩
    · rw [List.mem_singleton.mp hp]; exact ⟨_, d1⟩
/-- what is no cell does not stand where a cell stands -/
theorem off_cell {h₀ h : Heap} {L d : Addr} {all l : List (Addr × Obj)} {o : Obj} {v : Option Value} (N : News h₀ L h all) (hd : (d, o) ∈ all) (ho : o.data = .cell v) (hl : ∀ p ∈ l, p ∈ all) (hn : ∀ p ∈ l, ∀ v, p.2.data ≠ .cell v) : ∀ p ∈ l, p.1 ≠ d := by
  intro p hp e
  have h1 := (N _ (hl p hp)).1
  rw [e, (N _ hd).1] at h1
  exact hn p hp v (by rw [← Option.some.inj h1]; exact ho)
section
-- the state's words kept short
local macro_rules | `(tactic| walk_at "eval ListComp") => `(tactic| (k_here; k_dflt (refine LCg.ListComp_U (F₀ := by k_asm) (by with_unfolding_all rfl) (by decide) (by rfl) (by decide) (by rfl) ?_)))
local macro_rules | `(tactic| walk_at "CompSrc") => `(tactic| refine stop_here ?_)
local macro_rules | `(tactic| walk_at "FinE") => `(tactic| refine stop_here ?_)
local macro_rules | `(tactic| walk_at "call builtin:str.join") => `(tactic| refine stop_here ?_)
local macro_rules | `(tactic| walk_at "compareOp Eq int int") => `(tactic| refine stop_here ?_)
local macro_rules | `(tactic| walk_at "compareOp NotEq str str") => `(tactic| refine stop_here ?_)
local macro_rules | `(tactic| walk_at "call ref") => `(tactic| refine stop_here ?_)
local macro_rules | `(tactic| walk_at "GrownAll") => `(tactic| refine stop_here ?_)
local macro_rules | `(tactic| walk_at "compareOp NotEq ref ref") => `(tactic| refine stop_here ?_)
local macro_rules | `(tactic| walk_at "compareOp NotEq int int") => `(tactic| refine stop_here ?_)
local macro_rules | `(tactic| walk_at "exec Assign") => `(tactic| ((with_reducible show wpAny _ _ (exec (Stmt.Assign [_] (PySem.Expr.DictComp _ _ _ _ _) _) _) _ _ _); refine stop_here ?_))
local macro_rules | `(tactic| walk_at "exec Assign cons DictComp") => `(tactic| refine stop_here ?_)
local macro_rules | `(tactic| walk_at "call builtin:len") => `(tactic| ((with_reducible show wpAny _ _ (call (Value.builtin "len") [Value.bytes _ _]) _ _ _); refine stop_here ?_))
set_option rowWalk.seconds 0
local macro_rules | `(tactic| walk_at "none 7") => `(tactic| fail)
set_option maxHeartbeats 8000000 in
theorem walk {d : DefRec} {kwd : List (Str × PySem.Expr)} (hd : defOf Mine.view PySem.Challenge.rw_ul0011_01.row.name = some (d, kwd)) : WalkO Mine.view [Str.ofString "EXACT_TOKEN_TYPES"] (XL Mine.view []) (kmHook Mine.heap Mine.asK (fun _ => by kernel_rfl) [30, 37]).says PySem.Challenge.rw_ul0011_01.row.toRowW d kwd fun f vs => call f vs := by
  refine walk_cast rfl (by rfl) hd ?_
  clear hd
  k_go0
  (all_goals try k_fold)
  refine wp_gen ?_
  intro Qz Ez hQz _
  k_steps
  rename World => w
  rename Shared => sB
  rename IntsAre _ _ => hI
  rename Heap.IsList (ghostOf _ _) _ _ => hls
  rename CodeHd _ (34, 30).fst _ => hC34
  rename CodeHd _ (41, 37).fst _ => hC41
  rename ¬ _ < _ => hcond
  rename Obj => osg
  have hosg : osg.data = .cell none := by assumption
  refine' Stop.mk (ctl_use (c_numbers w _ _ _ hI (by omega) _) ?k1 ?k2 ?k3 ?k4 ?k5 ?k6 ?k7 ?k8 hls ?_)
  case k4 => k_asm
  case k1 => k_asm
  case k2 => k_asm
  case k3 => k_asm
  case k5 => k_asm
  case k6 => exact rfl
  case k7 => ktr_room
  case k8 => ktr_units
  rintro r news' h' tk' ⟨dl, dvs, cd, ds, rfl, rfl, hds, hdl, hdb, hdne⟩ F2 N2
  have hg : ∀ i : Nat, i < 10 → 0 ≤ ds.getD i 0 ∧ ds.getD i 0 < 1000000 := fun i hi => hdb _ (by
    rw [List.getD_eq_getElem?_getD, List.getElem?_eq_getElem (by omega : i < ds.length)]
    exact List.getElem_mem _)
  have hg0 := hg 0 (by decide)
  have hg7 := hg 7 (by decide)
  have hg8 := hg 8 (by decide)
  have hg9 := hg 9 (by decide)
  k_steps
  rename IntsAre _ (List.take _ _) => hIx
  refine' Stop.mk (ct_use (c_text w _ _ _ 0 hIx ?ha ?hb _ (.head _)) ?k1 ?k2 ?k3 ?k4 ?k5 ?k6 ?k7 ?k8 ?_)
  case k4 => k_asm
  case k1 => k_asm
  case k2 => k_asm
  case k3 => k_asm
  case k5 => k_asm
  case k6 => exact rfl
  case k7 => ktr_room
  case k8 => ktr_units
  case ha => exact (text_len hdl (ds.getD 8 0)).2
  case hb => exact fun v hv => hdb v (List.mem_of_mem_drop (List.mem_of_mem_take hv))
  rintro r news' h' tk' ⟨tx, tt, rfl, rfl, htx⟩ F3 N3
  obtain ⟨nt, hnt⟩ : ∃ nt, nt = (List.take (min (5 + ((ds.getD 8 0).fdiv 16).fmod 3).toNat ds.length - 1) (List.drop 1 ds)).length := ⟨_, rfl⟩
  have hntb := text_len hdl (ds.getD 8 0)
  rw [← hnt] at htx hntb
  obtain ⟨hnt4, hnt6⟩ := hntb
  clear hnt
  k_steps
  refine' Stop.mk (ct_use (c_tokens w tx nt hnt6 htx _ _) ?k1 ?k2 ?k3 ?k4 ?k5 ?k6 ?k7 ?k8 ?_)
  case k4 => k_asm
  case k1 => k_asm
  case k2 => k_asm
  case k3 => k_asm
  case k5 => k_asm
  case k6 => exact rfl
  case k7 => ktr_room
  case k8 => ktr_units
  rintro r news' h' tk' ⟨tl, tvs, ct, ts, rfl, rfl, hts, htl, hcut, htlt⟩ F4 N4
  have hts0 : 0 < ts.length := by
    obtain ⟨ps, _, e1, e2⟩ := hcut
    rcases ps with _ | ⟨p, ps⟩
    · exfalso
      have e3 := congrArg List.length e2
      have e4 : tx.cps.toList.length = nt := htx.1
      rw [e4] at e3
      simp at e3
      omega
    · rw [e1]; simp
  k_steps
  rename Fr _ _ _ _ => F5
  rename News _ _ _ _ => N5
  refine set_of_list rfl F5 N5 (by k_mem) hts (by omega) ?_
  intro sd h6 tk6 so F6 N6 l6 hso
  dsimp only
  k_steps
  refine sorted_set rfl F6 N6 (.head _) hso (by omega) ?_
  intro od h7 tk7 dr7 ovs1 ons1 oc1 F7 N7 l7 ho1 ho2 ho3
  dsimp only
  k_steps
  rename IntsAre _ ([0] ++ ons1) => hk1
  obtain ⟨kds, hkds⟩ : ∃ kds, kds = [0] ++ ons1 := ⟨_, rfl⟩
  rw [← hkds] at hk1
  have hkl : kds.length = ons1.length + 1 := by rw [hkds]; simp
  have hon0 : 0 < ons1.length := by
    rcases ts with _ | ⟨t0, ts'⟩
    · simp at hts0
    · exact List.length_pos_of_mem ((ho3 t0).mpr (.head _))
  refine' Stop.mk (ct_use (c_deal w _ 0 _ kds hk1 (by omega) (by omega) (ds.getD 7 0) ((ds.getD 8 0).fmod 16) _ _ hg7.1 hg7.2 ?ha ?hb _ (.head _)) ?k1 ?k2 ?k3 ?k4 ?k5 ?k6 ?k7 ?k8 ?_)
  case k4 => k_asm
  case k1 => k_asm
  case k2 => k_asm
  case k3 => k_asm
  case k5 => k_asm
  case k6 => exact rfl
  case k7 => ktr_room
  case k8 => ktr_units
  case ha => rw [Int.fmod_eq_emod_of_nonneg _ (by decide)]; omega
  case hb => rw [Int.fmod_eq_emod_of_nonneg _ (by decide)]; omega
  rintro r news' h' tk' ⟨ol, ovs, oc, rfl, rfl, hov, holt⟩ F8 N8
  have N8 := cb_drop N8 (news := [(ol, listOf ovs.toArray oc), (tl, listOf tvs.toArray ct), (dl, listOf dvs.toArray cd), (sB.heap.objs.size + 1, osg), (30, tabObj #[]), (37, tabObj #[])]) (by kcj_all)
  obtain ⟨ow, how⟩ : ∃ ow, ow = deal kds (ds.getD 7 0) ((ds.getD 8 0).fmod 16) := ⟨_, rfl⟩
  rw [← how] at hov
  have hol : ow.length = 16 := by rw [how]; exact deal_len _ _ _ (by omega)
  k_steps
  rename IntsAre _ (ts ++ [0]) => hkk
  rename List Value => kkvs
  rename _ ∧ _ => l9
  rename Addr => kka
  rename Fr _ _ _ _ => F9
  rename News _ _ _ _ => N9
  obtain ⟨st, hst⟩ : ∃ st, 256 + (ds.getD (Int.toNat 0) 0).fmod 65280 = st := ⟨_, rfl⟩
  have hst0 : 256 ≤ st ∧ st < 65536 := by
    rw [← hst, Int.fmod_eq_emod_of_nonneg _ (by decide)]; omega
  obtain ⟨sg, hsg⟩ : ∃ sg, 1 - 2 * ((ds.getD (Int.toNat 8) 0).fdiv 48).fmod 2 = sg := ⟨_, rfl⟩
  have hsgb : -2 ^ 64 < sg ∧ sg < 2 ^ 64 ∧ (sg = 1 ∨ sg = -1) := sg_bnd (x := ((ds.getD (Int.toNat 8) 0).fdiv 48)) (by rw [← Int.fmod_eq_emod_of_nonneg _ (by decide)]; exact hsg)
  obtain ⟨hsgl, hsgu, hsg0⟩ := hsgb
  rw [hst, hsg] at F9
  rw [hst]
  clear hsg
  have hz : ∀ t ∈ ts, t ≠ 0 := by
    obtain ⟨ps, e0, e1, e2⟩ := hcut
    intro t ht
    rw [e1] at ht
    obtain ⟨p, hp, rfl⟩ := List.mem_map.mp ht
    exact (by decide : ∀ p ∈ TOK, p.2 ≠ 0) p (e0 p hp)
  have hpc : ∀ k ∈ ts ++ [0], 2 ≤ (plc ow k).length := by
    intro k hk
    rw [how]
    refine deal_two _ _ _ _ (by omega) ?_
    rw [hkds]
    rcases List.mem_append.mp hk with hk | hk
    · exact List.mem_append_right _ ((ho3 k).mpr hk)
    · exact List.mem_append_left _ hk
  have hTT0 : Tabs [((30 : Addr), tabObj #[]), ((37 : Addr), tabObj #[])] := ⟨[((30 : Addr), tabObj #[])], [((37 : Addr), tabObj #[])], rfl, .empty, .empty, by
    intro p hp b hb; rw [List.mem_singleton.mp hp, List.mem_singleton.mp hb]; exact (by decide : (30 : Nat) ≠ 37), by
    intro p hp b hb; rw [List.mem_singleton.mp hp, List.mem_singleton.mp hb]; exact (by decide : (37 : Nat) ≠ 30)⟩
  have hng : NoTab osg := .inr ⟨_, hosg⟩
  have hoff0 : OwnOff [(kka, listOf kkvs.toArray 0), (ol, listOf ovs.toArray oc), (tl, listOf tvs.toArray ct), (dl, listOf dvs.toArray cd), (sB.heap.objs.size + 1, osg)] [30, 37] := by
    have hn : ∀ p ∈ [(kka, listOf kkvs.toArray 0), (ol, listOf ovs.toArray oc), (tl, listOf tvs.toArray ct), (dl, listOf dvs.toArray cd), (sB.heap.objs.size + 1, osg)], NoTab p.2 := by
      repeat' (first | exact List.forall_mem_nil _ | refine List.forall_mem_cons.mpr ⟨?_, ?_⟩ | exact noTab_list | exact hng)
    exact OwnOff.two (off_tab N9 (ps := #[]) (by k_mem) (by kcj_all) hn) (off_tab N9 (ps := #[]) (by k_mem) (by kcj_all) hn)
  refine' Stop.mk (ct_use (c_written w kka 0 kkvs (ts ++ [0]) hkk (by simp; omega) st _ hst0.1 hst0.2 ol oc ovs ow hov hol hpc _ _ hTT0 hoff0 (.head _) (.tail _ (.head _))) ?k1 ?k2 ?k3 ?k4 ?k5 ?k6 ?k7 ?k8 ?_)
  case k4 =>
    exact cb_drop N9 (by kcj_all)
  case k1 => k_asm
  case k2 => k_asm
  case k3 => k_asm
  case k5 => k_asm
  case k6 => exact rfl
  case k7 => ktr_room
  case k8 => ktr_units
  rintro r news' h' tk' ⟨wx, gl, t1, gvs, cg, TT, rfl, rfl, hgv, hw1, hw2, hTT, hOK, hwx, hgx, hg1, hg2⟩ F10 N10
  obtain ⟨top, htop⟩ : ∃ top, (wr ow (ts ++ [0]) st).1 = top := ⟨_, rfl⟩
  obtain ⟨gs, hgs⟩ : ∃ gs, (wr ow (ts ++ [0]) st).2 = gs := ⟨_, rfl⟩
  rw [htop] at hw1 hw2 N10
  rw [hgs] at hgv
  obtain ⟨TA, TB, rfl, hTA, hTB, hA7, hB3⟩ := hTT
  have hgl : gs.length ≤ 7 := by
    rw [← hgs]
    have := wr_len' ow (ts ++ [0]) st
    rw [List.length_append, List.length_singleton] at this
    omega
  have N10 := cb_drop N10 (news := (wx, ({ cls := .type "tuple", data := .seq #[.int top t1, .ref gl] } : Obj)) :: (gl, listOf gvs.toArray cg) :: (ol, listOf ovs.toArray oc) :: (tl, listOf tvs.toArray ct) :: (dl, listOf dvs.toArray cd) :: (sB.heap.objs.size + 1, osg) :: (TB ++ TA)) (by kcj_all)
  k_steps
  rename IntsAre _ (gs ++ [top]) => hgt
  rename List Value => gtvs
  rename Addr => gta
  rename Fr _ _ _ _ => F11
  rename News _ _ _ _ => N11
  obtain ⟨psA, hpsA⟩ := hTA.tab
  obtain ⟨psB, hpsB⟩ := hTB.tab
  have hdg : ∀ d ∈ gs ++ [top], 0 ≤ d ∧ d < 2 ^ 20 := by
    intro d hd
    rcases List.mem_append.mp hd with hd | hd
    · exact oct_big (wr_octs ow st (ts ++ [0]) d (hgs ▸ hd))
    · rw [List.mem_singleton.mp hd]; exact top_big (by assumption) (by assumption)
  have hl11 : (gs ++ [top]).length = gs.length + 1 := by simp
  refine' Stop.mk (ct_use (c_d2i w gta 0 gtvs (gs ++ [top]) 8 _ hgt (by omega) (by omega) (by decide) hdg TB ((gta, listOf gtvs.toArray 0) :: (ol, listOf ovs.toArray oc) :: (tl, listOf tvs.toArray ct) :: (dl, listOf dvs.toArray cd) :: (sB.heap.objs.size + 1, osg) :: TA) hTB ?hoff (.head _)) ?k1 ?k2 ?k3 ?k4 ?k5 ?k6 ?k7 ?k8 ?_)
  case hoff =>
    refine OwnOff.app (a := [(gta, listOf gtvs.toArray 0), (ol, listOf ovs.toArray oc), (tl, listOf tvs.toArray ct), (dl, listOf dvs.toArray cd), (sB.heap.objs.size + 1, osg)]) (off_tab N11 (ps := psB) ?_ (by kcj_all) ?_) hA7
    · simp only [List.mem_cons, List.mem_append, hpsB, true_or, or_true]
    · repeat' (first | exact List.forall_mem_nil _ | refine List.forall_mem_cons.mpr ⟨?_, ?_⟩ | exact noTab_list | exact hng)
  case k4 =>
    exact cb_drop N11 (by kcj_all)
  case k1 => k_asm
  case k2 => k_asm
  case k3 => k_asm
  case k5 => k_asm
  case k6 => exact rfl
  case k7 => ktr_room
  case k8 => ktr_units
  rintro r news' h' tk' ⟨tV, TB2, rfl, hTB2, rfl, hOK2⟩ F12 N12
  have hB23 : OwnOff TB2 [30] := hOK2 [30] (fun b hb => ⟨tabObj psA, by rw [List.mem_singleton.mp hb]; simp only [List.mem_cons, hpsA, or_true]⟩) hB3
  have N12 := cb_drop N12 (news := (ol, listOf ovs.toArray oc) :: (tl, listOf tvs.toArray ct) :: (dl, listOf dvs.toArray cd) :: (sB.heap.objs.size + 1, osg) :: (TA ++ TB2)) (by kcj_all)
  obtain ⟨V, hV⟩ : ∃ V, dval 8 (gs ++ [top]) = V := ⟨_, rfl⟩
  obtain ⟨ws, hws⟩ : ∃ ws, ws = hexL V.toNat := ⟨_, rfl⟩
  obtain ⟨v1, v2, v3, v4, v5, v6, v7⟩ := half1 ow hol ts hz hpc (by omega) st hst0.1 hst0.2 V (by rw [htop, hgs, hV]) ws hws
  rw [hV]
  clear N11 F11
  k_steps
  have hab : (sg * V).natAbs = V.toNat := natAbs_sg hsg0 (Int.toNat_of_nonneg (by omega)).symm
  refine' Stop.mk (ct_use (c_ap w (sg * V) _ ⟨by rw [hab, ← hws]; omega⟩ _) ?k1 ?k2 ?k3 ?k4 ?k5 ?k6 ?k7 ?k8 ?_)
  case k4 => exact N12
  case k1 => k_asm
  case k2 => k_asm
  case k3 => k_asm
  case k5 => k_asm
  case k6 => exact rfl
  case k7 => ktr_room
  case k8 => ktr_units
  rintro r news' h' tk' ⟨wb, wt, rfl, hwb, rfl⟩ F13 N13
  rw [hab, ← hws] at hwb
  k_steps
  refine' Stop.mk (ct_use (c_read w wb wt ws hwb v4 (by omega) v2 ol oc ovs ow hov hol 7 (by decide) _ _ (.head _) (ts ++ [0]) st ws.length v5 v6 v7) ?k1 ?k2 ?k3 ?k4 ?k5 ?k6 ?k7 ?k8 ?_)
  case k4 => k_asm
  case k1 => k_asm
  case k2 => k_asm
  case k3 => k_asm
  case k5 => k_asm
  case k6 => exact rfl
  case k7 => ktr_room
  case k8 => ktr_units
  rintro r news' h' tk' ⟨rx, rl, t2, t3, rvs, rc, rfl, rfl, hrv, hrlt, hrx⟩ F14 N14
  k_steps
  rename IntsAre _ (ts ++ [0]) => hkk2
  rename News _ _ _ _ => N15
  refine Stop.mk (ne_intsK (PySem.IsL.isList (n := rc) (N15 (rl, listOf rvs.toArray rc) (by k_mem)).1) hrv (PySem.IsL.isList (n := 0) (N15 (_, listOf _ 0) (by exact .head _)).1) hkk2 (by units_room) ?_)
  rw [decide_eq_true rfl, Bool.not_true]
  k_steps
  refine Stop.mk (ne_int ?_)
  rw [bne_self_eq_false]
  k_steps
  refine Stop.mk (KBw.len_K hwb (by omega) ?_)
  dsimp only
  k_steps
  refine Stop.mk (ne_int ?_)
  rw [bne_self_eq_false]
  k_steps
  rename Fr _ _ _ _ => F16
  rename News _ _ _ _ => N16
  rename Top _ _ _ _ _ _ => Tp
  rename Frag.In _ (ghostOf _ _) => Xp
  have N16 := cb_drop N16 (news := (rl, listOf rvs.toArray rc) :: (ol, listOf ovs.toArray oc) :: (tl, listOf tvs.toArray ct) :: (dl, listOf dvs.toArray cd) :: (sB.heap.objs.size + 1, osg) :: (TA ++ TB2)) (by kcj_all)
  refine Stop.mk (wpAny_Assign_Name ?_)
  refine DictComp_tok rfl F16 N16 (tok_tab w Xp) (by with_unfolding_all rfl) (by decide) (by rfl) (by decide) (by rfl) ?hkey ?hval ?hiter ?cont
  case hiter =>
    k_steps
  case hkey =>
    intro C p t s₃ m₃ E' hp hn hm F N
    exact leaf_key hp hn hm F Xp Tp (by rfl) (by rfl) (by rfl) (by rfl) (by decide)
  case hval =>
    intro C p t s₃ m₃ E' hp hn hm F N
    exact leaf_val hn hm (by rfl) (by rfl) (by decide)
  case cont =>
    intro sd2 sdo h17 tk17 skvs F17 N17 hsd hsi hsk
    dsimp only
    have hcell : ∀ p ∈ (sd2, sdo) :: (rl, listOf rvs.toArray rc) :: (ol, listOf ovs.toArray oc) :: (tl, listOf tvs.toArray ct) :: (dl, listOf dvs.toArray cd) :: (TA ++ TB2), p.1 ≠ sB.heap.objs.size + 1 := by
      refine off_cell N17 (o := osg) (v := none) (by k_mem) hosg (by kcj_all) fun p hp => ?_
      · intro v hv
        simp only [List.mem_cons, List.mem_append] at hp
        rcases hp with rfl | rfl | rfl | rfl | rfl | h | h
        · obtain ⟨es, ep, _, h9, _⟩ := hsi
          rw [h9] at hv; cases hv
        · cases hv
        · cases hv
        · cases hv
        · cases hv
        · obtain ⟨vs, h9⟩ := hTA.data p h
          rw [h9] at hv; cases hv
        · obtain ⟨vs, h9⟩ := hTB2.data p h
          rw [h9] at hv; cases hv
    have U : UpdF (sB.heap.objs.size + 1) osg _ _ := updF_of (l := [(sd2, sdo), (rl, listOf rvs.toArray rc), (ol, listOf ovs.toArray oc), (tl, listOf tvs.toArray ct), (dl, listOf dvs.toArray cd)]) (r := TA ++ TB2) (fun p hp => hcell p ((by kcj_all : ∀ p ∈ [(sd2, sdo), (rl, listOf rvs.toArray rc), (ol, listOf ovs.toArray oc), (tl, listOf tvs.toArray ct), (dl, listOf dvs.toArray cd)], p ∈ (sd2, sdo) :: (rl, listOf rvs.toArray rc) :: (ol, listOf ovs.toArray oc) :: (tl, listOf tvs.toArray ct) :: (dl, listOf dvs.toArray cd) :: (TA ++ TB2)) p hp)) (fun p hp => hcell p (.tail _ (.tail _ (.tail _ (.tail _ (.tail _ hp))))))
    refine storeX_C F17 N17 (by rfl) U hosg ?_ (by rfl) (by rfl)
    intro h18 osg2 F18 N18 hosg2
    have N18 : News _ _ h18 ((sd2, sdo) :: (rl, listOf rvs.toArray rc) :: (ol, listOf ovs.toArray oc) :: (tl, listOf tvs.toArray ct) :: (dl, listOf dvs.toArray cd) :: (sB.heap.objs.size + 1, osg2) :: (TA ++ TB2)) := N18
    clear N17
    dsimp only
    k_steps
    rename IntsAre _ (List.take _ _) => hIk
    rename News _ _ _ _ => N19
    rename Fr _ _ _ _ => F19
    have etk : List.take ((ts ++ [0]).length - 1) (ts ++ [0]) = ts := by
      rw [List.length_append, List.length_singleton, Nat.add_sub_cancel, List.take_left']; rfl
    rw [etk] at hIk
    refine Stop.mk (LCg.CompSrc.ledger rfl F19 N19 (.head _) (by rw [List.size_toArray, hIk.length, PySem.sizeLine_eq]; omega) ?_)
    intro g'
    refine kct_list sgn hIk ?cturn ?cfin
    case cturn =>
      intro k t I oI C oC D m₂ ys h tk E' hk hC hx F N off ne mk
      obtain ⟨p0, hp0, ep0⟩ := cut_mem hcut hk
      obtain ⟨t9, hv9⟩ := hsk p0 hp0
      rw [ep0, ← sgn_tok p0 hp0, ep0] at hv9
      refine Subscript_ ?_
      refine kcf_cell N (by rfl) (o := osg2) ?hm hosg2 ?_
      case hm => simp only [List.mem_cons, true_or, or_true]
      refine LCgL.ld_own N (.tail _ (.head _)) hC hx ?_
      have hdo : h.DictOf (intKind PR w) sd2 skvs := Heap.dictOf_iff.mpr ⟨sdo, (N (sd2, sdo) (by simp only [List.mem_cons, true_or, or_true])).1, hsi⟩
      refine subscriptTail_builtin (T := "dict") hdo.typeIs slot_dict_getitem.lookup (wpAny_getItem_of (knd := intKind PR w) (intKind_is _ _ _ _) hdo.mapOf hv9 ?_) (by with_unfolding_all rfl) (by intro _; with_unfolding_all rfl)
      refine LCg.CompEnd.intro F N _ (fun _ hp => hp) off (.inr ⟨_, .head _, rfl, _, rfl⟩) ?_
      exact kct_el rfl rfl rfl
    case cfin =>
      intro ys hys hylen
      unfold LCg.FinE
      intro ap h20 tk20 F20 N20 o20
      dsimp only
      have N20 : News _ _ h20 ((ap, listOf ys.toArray ys.length) :: _) := N20
      have hys2 := hys.strsOf
      k_steps
      refine Stop.mk (join_list (PySem.IsL.isList (n := ys.length) (N20 _ (.head _)).1) hys2 ?hlen ?_)
      case hlen =>
        have := sgn_sum ts
        have e0 : (Str.ofString "").length = 0 := rfl
        rw [e0]
        omega
      intro t21 k21
      rw [cut_join hcut]
      dsimp only
      k_steps
      refine Stop.mk (ne_str ?_)
      rw [bne_self_eq_false]
      have N21 := cb_drop N20 (news := (ol, listOf ovs.toArray oc) :: (dl, listOf dvs.toArray cd) :: (sB.heap.objs.size + 1, osg2) :: (TA ++ TB2)) (by kcj_all)
      clear N20 N19
      k_steps
      rename Fr _ _ _ _ => F22
      rename News _ _ _ _ => N22
      obtain ⟨mx, hmx⟩ : ∃ mx, ds.getD (Int.toNat 0) 0 + ds.getD (Int.toNat 7) 0 * 10 ^ Int.toNat 6 + ds.getD (Int.toNat 9) 0 * 10 ^ Int.toNat 12 = mx := ⟨_, rfl⟩
      rw [hmx] at F22 ⊢
      have hmx0 : 0 ≤ mx := hmx ▸ Int.add_nonneg (Int.add_nonneg hg0.1 (Int.mul_nonneg hg7.1 (by decide))) (Int.mul_nonneg hg9.1 (by decide))
      obtain ⟨T, R, hT0, hT1, hR0, hfT⟩ := fu_split hmx0
      obtain ⟨fu, hfu⟩ : ∃ fu, (256 + (mx.fdiv (256 ^ Int.toNat 4)).fmod 65280) * 256 ^ Int.toNat 4 + mx.fmod (256 ^ Int.toNat 4) = fu := ⟨_, rfl⟩
      rw [hfu] at F22 hfT ⊢
      clear hfu hmx
      obtain ⟨ws2, hws2⟩ : ∃ ws2, ws2 = hexL (T * 256 ^ 4 + R) := ⟨_, rfl⟩
      obtain ⟨u2, u3, u4, u5, u6, K, s2, e2, u7, u8, u9, u10, u11, u12, u13, u14⟩ := half2 ow hol (fun j hj => by rw [how]; exact deal_all _ _ _ (by omega) (by omega) j hj) T R hT0 hT1 hR0 ws2 hws2
      have hab2 : (sg * fu).natAbs = T * 256 ^ 4 + R := natAbs_sg hsg0 hfT
      refine' Stop.mk (ct_use (c_ap w (sg * fu) _ ⟨by rw [hab2, ← hws2]; omega⟩ _) ?k1 ?k2 ?k3 ?k4 ?k5 ?k6 ?k7 ?k8 ?_)
      case k4 => exact N22
      case k1 => k_asm
      case k2 => k_asm
      case k3 => k_asm
      case k5 => k_asm
      case k6 => exact rfl
      case k7 => ktr_room
      case k8 => ktr_units
      rintro r news' h' tk' ⟨wb2, wt2, rfl, hwb2, rfl⟩ F23 N23
      rw [hab2, ← hws2] at hwb2
      k_steps
      refine' Stop.mk (ct_use (c_read w wb2 wt2 ws2 hwb2 u4 (by omega) u2 ol oc ovs ow hov hol 4 (by decide) _ _ (.head _) K s2 e2 u5 u6 u7) ?k1 ?k2 ?k3 ?k4 ?k5 ?k6 ?k7 ?k8 ?_)
      case k4 => k_asm
      case k1 => k_asm
      case k2 => k_asm
      case k3 => k_asm
      case k5 => k_asm
      case k6 => exact rfl
      case k7 => ktr_room
      case k8 => ktr_units
      rintro r news' h' tk' ⟨rx2, rl2, t4, t5, rvs2, rc2, rfl, rfl, hrv2, hrlt2, hrx2⟩ F24 N24
      k_steps
      rename Fr _ _ _ _ => F25
      rename News _ _ _ _ => N25
      have hng2 : NoTab osg2 := .inr ⟨_, hosg2⟩
      obtain ⟨psA2, hpsA2⟩ := hTA.tab
      obtain ⟨psB2, hpsB2⟩ := hTB2.tab
      have hTT2 : Tabs (TA ++ TB2) := ⟨TA, TB2, rfl, hTA, hTB2, hA7, hB23⟩
      have hoff2 : OwnOff [(rl2, listOf rvs2.toArray rc2), (ol, listOf ovs.toArray oc), (sB.heap.objs.size + 1, osg2)] [30, 37] := by
        have hn : ∀ p ∈ [(rl2, listOf rvs2.toArray rc2), (ol, listOf ovs.toArray oc), (sB.heap.objs.size + 1, osg2)], NoTab p.2 := by
          repeat' (first | exact List.forall_mem_nil _ | refine List.forall_mem_cons.mpr ⟨?_, ?_⟩ | exact noTab_list | exact hng2)
        refine OwnOff.two (off_tab N25 (ps := psA2) ?_ (by kcj_all) hn) (off_tab N25 (ps := psB2) ?_ (by kcj_all) hn)
        · simp only [List.mem_cons, List.mem_append, hpsA2, true_or, or_true]
        · simp only [List.mem_cons, List.mem_append, hpsB2, true_or, or_true]
      refine' Stop.mk (ct_use (c_written w rl2 rc2 rvs2 K hrv2 (by omega) s2 _ u10 u11 ol oc ovs ow hov hol u9 _ _ hTT2 hoff2 (.head _) (.tail _ (.head _))) ?k1 ?k2 ?k3 ?k4 ?k5 ?k6 ?k7 ?k8 ?_)
      case k4 =>
        exact cb_drop N25 (by kcj_all)
      case k1 => k_asm
      case k2 => k_asm
      case k3 => k_asm
      case k5 => k_asm
      case k6 => exact rfl
      case k7 => ktr_room
      case k8 => ktr_units
      rintro r news' h' tk' ⟨wx2, gl2, t6, gvs2, cg2, TT2, rfl, rfl, hgv2, hx1, hx2, hTT3, hOK3, hwx2, hgx2, hg12, hg22⟩ F26 N26
      obtain ⟨top2, htop2⟩ : ∃ top, (wr ow K s2).1 = top := ⟨_, rfl⟩
      obtain ⟨gs2, hgs2⟩ : ∃ gs, (wr ow K s2).2 = gs := ⟨_, rfl⟩
      rw [htop2] at hx1 hx2 N26 u14
      rw [hgs2] at hgv2 u14
      obtain ⟨TC, TD, rfl, hTC, hTD, hC7, hD3⟩ := hTT3
      have hgl2 : gs2.length ≤ 4 := by
        rw [← hgs2]
        have := wr_len' ow K s2
        omega
      have N26 := cb_drop N26 (news := (wx2, ({ cls := .type "tuple", data := .seq #[.int top2 t6, .ref gl2] } : Obj)) :: (gl2, listOf gvs2.toArray cg2) :: (sB.heap.objs.size + 1, osg2) :: (TD ++ TC)) (by kcj_all)
      k_steps
      rename IntsAre _ (gs2 ++ [top2]) => hgt2
      rename List Value => gtvs2
      rename Addr => gta2
      rename Fr _ _ _ _ => F27
      rename News _ _ _ _ => N27
      obtain ⟨psC, hpsC⟩ := hTC.tab
      obtain ⟨psD, hpsD⟩ := hTD.tab
      have hdg2 : ∀ d ∈ gs2 ++ [top2], 0 ≤ d ∧ d < 2 ^ 20 := by
        intro d hd
        rcases List.mem_append.mp hd with hd | hd
        · exact oct_big (wr_octs ow s2 K d (hgs2 ▸ hd))
        · rw [List.mem_singleton.mp hd]; exact top_big (by assumption) (by assumption)
      have hl27 : (gs2 ++ [top2]).length = gs2.length + 1 := by simp
      refine' Stop.mk (ct_use (c_d2i w gta2 0 gtvs2 (gs2 ++ [top2]) 8 _ hgt2 (by omega) (by omega) (by decide) hdg2 TD ((gta2, listOf gtvs2.toArray 0) :: (sB.heap.objs.size + 1, osg2) :: TC) hTD ?hoff (.head _)) ?k1 ?k2 ?k3 ?k4 ?k5 ?k6 ?k7 ?k8 ?_)
      case hoff =>
        refine OwnOff.app (a := [(gta2, listOf gtvs2.toArray 0), (sB.heap.objs.size + 1, osg2)]) (off_tab N27 (ps := psD) ?_ (by kcj_all) ?_) hC7
        · simp only [List.mem_cons, List.mem_append, hpsD, true_or, or_true]
        · repeat' (first | exact List.forall_mem_nil _ | refine List.forall_mem_cons.mpr ⟨?_, ?_⟩ | exact noTab_list | exact hng2)
      case k4 =>
        exact cb_drop N27 (by kcj_all)
      case k1 => k_asm
      case k2 => k_asm
      case k3 => k_asm
      case k5 => k_asm
      case k6 => exact rfl
      case k7 => ktr_room
      case k8 => ktr_units
      rintro r news' h' tk' ⟨tV2, TD2, rfl, hTD2, rfl, hOK4⟩ F28 N28
      have N28 := cb_drop N28 (news := (sB.heap.objs.size + 1, osg2) :: (TC ++ TD2)) (by kcj_all)
      clear N27 F27
      rw [u14]
      k_steps
      refine Stop.mk (KBw.len_K hwb2 (by omega) ?_)
      dsimp only
      obtain ⟨ps, hps⟩ : ∃ ps, ps = (16 : Int) ^ ((ws2.length : Int) - (e2 : Int)).toNat := ⟨_, rfl⟩
      have hpsN : ps = ((16 ^ (ws2.length - e2) : Nat) : Int) := by
        rw [hps, Int.natCast_pow, Int.toNat_sub]; rfl
      have hps1 : 0 < ps ∧ ps ≤ 4294967296 := by
        have h := pw_bnd (a := ws2.length) (b := e2) (by omega)
        rw [hpsN]
        exact ⟨Int.ofNat_lt.mpr h.1, Int.ofNat_le.mpr h.2⟩
      k_steps
      rw [← hps]
      refine floordiv_int (Int.ne_of_gt hps1.1) ?_ (Or.inl (PyProof.noPylong_of_log2 (Nat.lt_of_lt_of_le (log_ps hps1) (by decide))))
      k_steps
      refine Stop.mk (eq_int ?_)
      have hlast : ((((T * 256 ^ 4 + R) / 16 ^ (ws2.length - e2) : Nat) : Int) == fu.fdiv ps) = true := by
        rw [beq_iff_eq, hpsN, hfT, Int.fdiv_eq_ediv_of_nonneg _ (Int.natCast_nonneg _), ← Int.natCast_ediv]
      rw [hlast]
      k_steps
      refine hQz _ _ ?_
      k_steps
      obtain ⟨psD2, hpsD2⟩ := hTD2.tab
      refine Stop.mk ⟨GrownAt.of N28 (ps := psC) ?_, GrownAt.of N28 (ps := psD2) ?_, True.intro⟩
      · simp only [List.mem_cons, List.mem_append, hpsC, true_or, or_true]
      · simp only [List.mem_cons, List.mem_append, hpsD2, or_true]
end
end Mine
end
end

-- part R1
section
namespace Mine
section
noncomputable def main.tw9658885295015712986 : Nat := 0
noncomputable def main.tw7754046220960353868 : Nat := 0
noncomputable def main.tw14657399250266973584 : Nat := 0
noncomputable def main.tw8488872178611200430 : Nat := 0
noncomputable def main.tw1900339198761634783 : Nat := 0
noncomputable def main.tw3045742163950154196 : Nat := 0
noncomputable def main.tw9331080965256306000 : Nat := 0
noncomputable def main.tw4190169919114944707 : Nat := 0
noncomputable def main.tw16519101796099990279 : Nat := 0
noncomputable def main.tw9302470337196694018 : Nat := 0
noncomputable def main.tw9848185148710128376 : Nat := 0
noncomputable def main.tw13642826006792871662 : Nat := 0
noncomputable def main.tw6222487380544312443 : Nat := 0
noncomputable def main.tw7173573769161785238 : Nat := 0
noncomputable def main.tw1714950047550659301 : Nat := 0
noncomputable def main.tw3626430660855392483 : Nat := 0
noncomputable def main.tw15342904991969174519 : Nat := 0
noncomputable def main.tw10094358506670053839 : Nat := 0
noncomputable def main.tw12115793150540458024 : Nat := 0
noncomputable def main.tw14722489848711283861 : Nat := 0
noncomputable def main.tw4500915450034043215 : Nat := 0
noncomputable def main.tw10877679251791092727 : Nat := 0
noncomputable def main.tw5139629822343419033 : Nat := 0
noncomputable def main.tw3282683096612927266 : Nat := 0
noncomputable def main.tw8478376212529829071 : Nat := 0
noncomputable def main.tw14672674291997333471 : Nat := 0
noncomputable def main.tw13219505800766818778 : Nat := 0
noncomputable def main.tw13667920496262714385 : Nat := 0
noncomputable def main.tw10669944970481658594 : Nat := 0
noncomputable def main.tw6044114016751833949 : Nat := 0
noncomputable def main.tw2406621943657119228 : Nat := 0
noncomputable def main.tw2852251193174398662 : Nat := 0
noncomputable def main.tw18332899500509843999 : Nat := 0
noncomputable def main.tw14662554035588321541 : Nat := 0
noncomputable def main.tw330327031418712150 : Nat := 0
noncomputable def main.tw3454311308915712629 : Nat := 0
noncomputable def main.tw13402765919934010277 : Nat := 0
noncomputable def main.tw16008252555379753968 : Nat := 0
noncomputable def main.tw16356685582667847594 : Nat := 0
noncomputable def main.tw10450603732522932521 : Nat := 0
noncomputable def main.tw17974016328880235120 : Nat := 0
noncomputable def main.tw8466321980469482115 : Nat := 0
noncomputable def main.tw4026956272090484662 : Nat := 0
noncomputable def main.tw1099256609624015869 : Nat := 0
noncomputable def main.tw15624239662980076321 : Nat := 0
noncomputable def main.tw6162249291895867263 : Nat := 0
noncomputable def main.tw1409966394225722968 : Nat := 0
noncomputable def main.tw16572128252103988241 : Nat := 0
noncomputable def main.tw3532412968194664532 : Nat := 0
noncomputable def main.tw6557543464795787104 : Nat := 0
noncomputable def main.tw7221758910455160077 : Nat := 0
noncomputable def main.tw14771111431291430275 : Nat := 0
noncomputable def main.tw7875838824674609581 : Nat := 0
noncomputable def main.tw8440099810896429113 : Nat := 0
noncomputable def main.tw6696893160125735727 : Nat := 0
set_option Elab.async true in
set_option maxHeartbeats 8000000 in
/-- the head, and the walk behind it -/
theorem main : PySem.Challenge.rw_ul0011_01.Holds := by
  w_on
  o_law
  o_head (kmHook Mine.heap Mine.asK (fun _ => by kernel_rfl) [30, 37])
  case hw => w_witness2
  refine' walk_cast ?e ?h1 ?h2 (walk ?h1)
  case e => kernel_rfl
  case h1 => rfl
  case h2 => kernel_rfl
end
end Mine
end

theorem PySem.Challenge.cw_ul0011_01_holds : PySem.Challenge.rw_ul0011_01.Holds :=
  Mine.main
