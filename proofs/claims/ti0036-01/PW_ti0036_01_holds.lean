import PyProof.Rows.All
import Wide.All
import OpenK.AllK
import Wide.FinOn
import PySem.Challenge.RW_ti0036_01
set_option Elab.async false
section
open PySem PySem.W PyProof.Rows
set_option maxRecDepth 100000
set_option maxHeartbeats 8000000
namespace Mine
noncomputable def fnO (i cd : Nat) (m : String) (t : Nat) : Obj := match PySem.Challenge.pw_ti0036_01.main.body[i]? with
  | some (.FunctionDef nm ps bd _ _ _ sc _ _ _) => { cls := .type "function", data := .func { name := nm, qualname := nm, params := ps, body := .stmts bd, scope := sc, globals := 3, closure := [], defaults := .none, kwdefaults := .none, pyModule := .str (Str.ofString m) t, code := .ref cd } }
  | _ => { cls := .none, data := .plain }
noncomputable def cdO (nm : PySem.Str) (a b c ln ar r8 r11 : Nat) (v13 v14 : Value) (r15 tk e : Nat) : Obj := { cls := .type "code", data := .fields #[.str nm a, .str nm b, .str (Str.ofString "/claim/cut.py") c, .int ln 0, .int ar 0, .int 0 0, .int 0 0, .int 3 0, .ref r8, .bool true, .int 181 0, .ref r11, .none, v13, v14, .ref r15, .int tk 0, .int ln 0, .str (Str.ofString "/claim/cut.py") e] }
noncomputable def entO (P : Params) (n : String) (t : Nat) (v : Value) : DictEntry := { hash := PyData.keyHash P (Str.ofString n), key := .str (Str.ofString n) t, val := v }
noncomputable def gl0 : List (String × Nat × Value) := [("__name__", 165, .str (Str.ofString "law_ti0036_01") 567), ("__doc__", 166, .none), ("__package__", 167, .none), ("__loader__", 168, .builtin "__main__.__loader__#opaque"), ("__spec__", 169, .none), ("__annotations__", 170, .ref 6), ("__builtins__", 171, .ref 4), ("__file__", 173, .str (Str.ofString "/claim/cut.py") 172), ("__cached__", 174, .none), ("_MAX_STRING_SIZE", 190, .int 40 189), ("_MOVE_COST", 192, .int 2 191), ("_CASE_COST", 194, .int 1 193), ("_substitution_cost", 202, .ref 21), ("_levenshtein_distance", 222, .ref 28), ("lt", 232, .ref 35), ("le", 240, .ref 42), ("eq", 248, .ref 49), ("ne", 256, .ref 56), ("ge", 264, .ref 63), ("gt", 272, .ref 70), ("add", 280, .ref 77), ("and_", 288, .ref 84), ("floordiv", 296, .ref 91), ("mod", 304, .ref 98), ("mul", 312, .ref 105), ("or_", 320, .ref 112), ("sub", 328, .ref 119), ("xor", 336, .ref 126), ("indexOf", 346, .ref 133), ("ENDMARKER", 350, .int 0 349), ("LPAR", 352, .int 7 351), ("RPAR", 354, .int 8 353), ("LSQB", 356, .int 9 355), ("RSQB", 358, .int 10 357), ("COLON", 360, .int 11 359), ("COMMA", 362, .int 12 361), ("SEMI", 364, .int 13 363), ("PLUS", 366, .int 14 365), ("MINUS", 368, .int 15 367), ("STAR", 370, .int 16 369), ("SLASH", 372, .int 17 371), ("VBAR", 374, .int 18 373), ("AMPER", 376, .int 19 375), ("LESS", 378, .int 20 377), ("GREATER", 380, .int 21 379), ("EQUAL", 382, .int 22 381), ("DOT", 384, .int 23 383), ("PERCENT", 386, .int 24 385), ("LBRACE", 388, .int 25 387), ("RBRACE", 390, .int 26 389), ("EQEQUAL", 392, .int 27 391), ("NOTEQUAL", 394, .int 28 393), ("LESSEQUAL", 396, .int 29 395), ("GREATEREQUAL", 398, .int 30 397), ("TILDE", 400, .int 31 399), ("CIRCUMFLEX", 402, .int 32 401), ("LEFTSHIFT", 404, .int 33 403), ("RIGHTSHIFT", 406, .int 34 405), ("DOUBLESTAR", 408, .int 35 407), ("PLUSEQUAL", 410, .int 36 409), ("MINEQUAL", 412, .int 37 411), ("STAREQUAL", 414, .int 38 413), ("SLASHEQUAL", 416, .int 39 415), ("PERCENTEQUAL", 418, .int 40 417), ("AMPEREQUAL", 420, .int 41 419), ("VBAREQUAL", 422, .int 42 421), ("CIRCUMFLEXEQUAL", 424, .int 43 423), ("LEFTSHIFTEQUAL", 426, .int 44 425), ("RIGHTSHIFTEQUAL", 428, .int 45 427), ("DOUBLESTAREQUAL", 430, .int 46 429), ("DOUBLESLASH", 432, .int 47 431), ("DOUBLESLASHEQUAL", 434, .int 48 433), ("AT", 436, .int 49 435), ("ATEQUAL", 438, .int 50 437), ("RARROW", 440, .int 51 439), ("ELLIPSIS", 442, .int 52 441), ("COLONEQUAL", 444, .int 53 443), ("EXCLAMATION", 446, .int 54 445), ("NT_OFFSET", 448, .int 256 447), ("EXACT_TOKEN_TYPES", 545, .ref 134), ("ISTERMINAL", 552, .ref 143), ("ISNONTERMINAL", 559, .ref 150), ("ISEOF", 566, .ref 157), ("_law_draws", 574, .ref 162), ("_law_drawn", 580, .ref 167), ("_law_symbols", 586, .ref 172), ("_law_word", 599, .ref 179), ("_law_walk", 613, .ref 186), ("_law_held", 619, .ref 191), ("_law_deed", 628, .ref 198), ("_law_told", 634, .ref 203), ("law", 640, .ref 208)]
noncomputable def ettL : List (String × Nat × Int × Nat) := [("!", 449, 54, 445), ("!=", 451, 28, 393), ("%", 453, 24, 385), ("%=", 455, 40, 417), ("&", 457, 19, 375), ("&=", 459, 41, 419), ("(", 461, 7, 351), (")", 463, 8, 353), ("*", 465, 16, 369), ("**", 467, 35, 407), ("**=", 469, 46, 429), ("*=", 471, 38, 413), ("+", 473, 14, 365), ("+=", 475, 36, 409), (",", 477, 12, 361), ("-", 479, 15, 367), ("-=", 481, 37, 411), ("->", 483, 51, 439), (".", 485, 23, 383), ("...", 487, 52, 441), ("/", 489, 17, 371), ("//", 491, 47, 431), ("//=", 493, 48, 433), ("/=", 495, 39, 415), (":", 497, 11, 359), (":=", 499, 53, 443), (";", 501, 13, 363), ("<", 503, 20, 377), ("<<", 505, 33, 403), ("<<=", 507, 44, 425), ("<=", 509, 29, 395), ("=", 511, 22, 381), ("==", 513, 27, 391), (">", 515, 21, 379), (">=", 517, 30, 397), (">>", 518, 34, 405), (">>=", 519, 45, 427), ("@", 520, 49, 435), ("@=", 521, 50, 437), ("[", 522, 9, 355), ("]", 523, 10, 357), ("^", 524, 32, 401), ("^=", 525, 43, 423), ("{", 526, 25, 387), ("|", 527, 18, 373), ("|=", 528, 42, 421), ("}", 529, 26, 389), ("~", 530, 31, 399)]
noncomputable def K0 (P : Params) : PySem.W.Frag := [(3, { cls := .type "dict", data := .dict (gl0.map fun e => entO P e.1 e.2.1 e.2.2).toArray 92 }), (20, cdO (Str.ofString "_substitution_cost") 195 196 197 5 2 15 16 (.ref 17) (.ref 18) 19 200 201), (21, fnO 4 20 "cpy313.traceback" 187), (27, cdO (Str.ofString "_levenshtein_distance") 203 204 205 11 3 22 23 (.ref 24) (.ref 25) 26 220 221), (28, fnO 5 27 "cpy313.traceback" 187), (34, cdO (Str.ofString "lt") 225 226 227 50 2 29 30 (.ref 31) (.ref 32) 33 230 231), (35, fnO 7 34 "cpy313.operator" 223), (41, cdO (Str.ofString "le") 233 234 235 52 2 36 37 (.ref 38) (.ref 39) 40 238 239), (42, fnO 8 41 "cpy313.operator" 223), (48, cdO (Str.ofString "eq") 241 242 243 54 2 43 44 (.ref 45) (.ref 46) 47 246 247), (49, fnO 9 48 "cpy313.operator" 223), (55, cdO (Str.ofString "ne") 249 250 251 56 2 50 51 (.ref 52) (.ref 53) 54 254 255), (56, fnO 10 55 "cpy313.operator" 223), (62, cdO (Str.ofString "ge") 257 258 259 58 2 57 58 (.ref 59) (.ref 60) 61 262 263), (63, fnO 11 62 "cpy313.operator" 223), (69, cdO (Str.ofString "gt") 265 266 267 60 2 64 65 (.ref 66) (.ref 67) 68 270 271), (70, fnO 12 69 "cpy313.operator" 223), (76, cdO (Str.ofString "add") 273 274 275 62 2 71 72 (.ref 73) (.ref 74) 75 278 279), (77, fnO 13 76 "cpy313.operator" 223), (83, cdO (Str.ofString "and_") 281 282 283 64 2 78 79 (.ref 80) (.ref 81) 82 286 287), (84, fnO 14 83 "cpy313.operator" 223), (90, cdO (Str.ofString "floordiv") 289 290 291 66 2 85 86 (.ref 87) (.ref 88) 89 294 295), (91, fnO 15 90 "cpy313.operator" 223), (97, cdO (Str.ofString "mod") 297 298 299 68 2 92 93 (.ref 94) (.ref 95) 96 302 303), (98, fnO 16 97 "cpy313.operator" 223), (104, cdO (Str.ofString "mul") 305 306 307 70 2 99 100 (.ref 101) (.ref 102) 103 310 311), (105, fnO 17 104 "cpy313.operator" 223), (111, cdO (Str.ofString "or_") 313 314 315 72 2 106 107 (.ref 108) (.ref 109) 110 318 319), (112, fnO 18 111 "cpy313.operator" 223), (118, cdO (Str.ofString "sub") 321 322 323 74 2 113 114 (.ref 115) (.ref 116) 117 326 327), (119, fnO 19 118 "cpy313.operator" 223), (125, cdO (Str.ofString "xor") 329 330 331 76 2 120 121 (.ref 122) (.ref 123) 124 334 335), (126, fnO 20 125 "cpy313.operator" 223), (132, cdO (Str.ofString "indexOf") 337 338 339 78 2 127 128 (.ref 129) (.ref 130) 131 344 345), (133, fnO 21 132 "cpy313.operator" 223), (142, cdO (Str.ofString "ISTERMINAL") 546 547 548 136 1 137 138 (.ref 139) (.ref 140) 141 550 551), (143, fnO 74 142 "cpy313.token" 347), (149, cdO (Str.ofString "ISNONTERMINAL") 553 554 555 138 1 144 145 (.ref 146) (.ref 147) 148 557 558), (150, fnO 75 149 "cpy313.token" 347), (156, cdO (Str.ofString "ISEOF") 560 561 562 140 1 151 152 (.ref 153) (.ref 154) 155 564 565), (157, fnO 76 156 "cpy313.token" 347), (161, cdO (Str.ofString "_law_draws") 569 570 571 143 1 158 159 .none .none 160 572 573), (162, fnO 78 161 "law_ti0036_01" 567), (166, cdO (Str.ofString "_law_drawn") 575 576 577 146 1 163 164 .none .none 165 578 579), (167, fnO 79 166 "law_ti0036_01" 567), (171, cdO (Str.ofString "_law_symbols") 581 582 583 183 1 168 169 .none .none 170 584 585), (172, fnO 80 171 "law_ti0036_01" 567), (178, cdO (Str.ofString "_law_word") 587 588 589 195 2 173 174 (.ref 175) (.ref 176) 177 597 598), (179, fnO 81 178 "law_ti0036_01" 567), (185, cdO (Str.ofString "_law_walk") 600 601 602 206 2 180 181 (.ref 182) (.ref 183) 184 611 612), (186, fnO 82 185 "law_ti0036_01" 567), (190, cdO (Str.ofString "_law_held") 614 615 616 224 2 187 188 .none .none 189 617 618), (191, fnO 83 190 "law_ti0036_01" 567), (197, cdO (Str.ofString "_law_deed") 620 621 622 234 3 192 193 (.ref 194) (.ref 195) 196 626 627), (198, fnO 84 197 "law_ti0036_01" 567), (202, cdO (Str.ofString "_law_told") 629 630 631 262 3 199 200 .none .none 201 632 633), (203, fnO 85 202 "law_ti0036_01" 567), (207, cdO (Str.ofString "law") 635 636 637 276 1 204 205 .none .none 206 638 639), (208, fnO 86 207 "law_ti0036_01" 567), (134, { cls := .type "dict", data := .dict (ettL.map fun e => entO P e.1 e.2.1 (.int e.2.2.1 e.2.2.2)).toArray 48 })]
noncomputable def as0 : List Addr := [3, 20, 21, 27, 28, 34, 35, 41, 42, 48, 49, 55, 56, 62, 63, 69, 70, 76, 77, 83, 84, 90, 91, 97, 98, 104, 105, 111, 112, 118, 119, 125, 126, 132, 133, 142, 143, 149, 150, 156, 157, 161, 162, 166, 167, 171, 172, 178, 179, 185, 186, 190, 191, 197, 198, 202, 203, 207, 208, 134]
end Mine
end
section
open PySem PySem.W PyProof.Rows PySem.Calls
set_option linter.unusedSectionVars false
set_option linter.unusedVariables false
set_option maxRecDepth 100000
namespace Mine
/-- plain data, and the lambdas of the menu by their number -/
inductive D where
  | none
  | bool (b : Bool)
  | int (i : Int)
  | str (s : PySem.Str)
  | list (l : List D)
  | tuple (l : List D)
  | lam (i : Nat)
/-- the lambdas that stand in the lists of a def's body, in their order -/
noncomputable def lamsOfE : PySem.Expr → List (Arguments × PySem.Expr × Scope)
  | .Lambda a b s _ => [(a, b, s)]
  | _ => []
noncomputable def lamsOfS : PySem.Stmt → List (Arguments × PySem.Expr × Scope)
  | .Assign _ (.List es _) _ => es.flatMap lamsOfE
  | _ => []
noncomputable def defBody (n : PySem.Str) : List PySem.Stmt → List PySem.Stmt
  | [] => []
  | .FunctionDef m _ b _ _ _ _ _ _ _ :: r => if m == n then b else defBody n r
  | _ :: r => defBody n r
noncomputable def lamTable : List (Arguments × PySem.Expr × Scope) := (defBody "_law_drawn" PySem.Challenge.pw_ti0036_01.main.body).flatMap lamsOfS
noncomputable def Lm (i : Nat) (fd : FuncData) : Prop := ∃ b, lamTable[i]? = some (fd.params, b, fd.scope) ∧ fd.body = .expr b ∧ fd.closure = [] ∧ fd.globals = mainGlobals ∧ fd.builtins = builtinsNs ∧ fd.defaults = .none ∧ fd.kwdefaults = .none
/-- a plain list -/
noncomputable abbrev PL (h : Heap) (a : Addr) (items : Array Value) : Prop := ∃ n, h.get? a = some { cls := .type "list", data := .seq items n }
theorem PL.is {h : Heap} {a : Addr} {items : Array Value} (x : PL h a items) : h.IsList a items := let ⟨n, e⟩ := x; ⟨_, e, rfl, n, rfl⟩
theorem PL.keeps {h h' : Heap} {a : Addr} {items : Array Value} (x : PL h a items) (k : ∀ o, h.get? a = some o → h'.get? a = some o) : PL h' a items := let ⟨n, e⟩ := x; ⟨n, k _ e⟩
mutual
inductive Rd (h : Heap) : Value → D → List Addr → Prop
  | none : Rd h .none .none []
  | bool (b) : Rd h (.bool b) (.bool b) []
  | int (i t) : Rd h (.int i t) (.int i) []
  | str (x t) : Rd h (.str x t) (.str x) []
  | list {a : Addr} {vs : List Value} {xs : List D} {as : List Addr} : PL h a vs.toArray → RdAll h vs xs as → Rd h (.ref a) (.list xs) (a :: as)
  | tuple {a : Addr} {vs : List Value} {xs : List D} {as : List Addr} : h.IsTuple a vs.toArray → RdAll h vs xs as → Rd h (.ref a) (.tuple xs) as
  | lam {a : Addr} {o : Obj} {fd : FuncData} {i : Nat} : h.get? a = some o → o.data = .func fd → Lm i fd → h.CodeRec fd.code fd.qualname → Rd h (.ref a) (.lam i) []
inductive RdAll (h : Heap) : List Value → List D → List Addr → Prop
  | nil : RdAll h [] [] []
  | cons {v : Value} {vs : List Value} {d : D} {ds : List D} {as bs : List Addr} : Rd h v d as → RdAll h vs ds bs → RdAll h (v :: vs) (d :: ds) (as ++ bs)
end
theorem rd_ind {h : Heap} {P : Value → D → List Addr → Prop} {Q : List Value → List D → List Addr → Prop} (p1 : P .none .none []) (p2 : ∀ b, P (.bool b) (.bool b) []) (p3 : ∀ i t, P (.int i t) (.int i) []) (p4 : ∀ x t, P (.str x t) (.str x) [])
    (p5 : ∀ {a : Addr} {vs : List Value} {xs : List D} {as : List Addr}, PL h a vs.toArray → RdAll h vs xs as → Q vs xs as → P (.ref a) (.list xs) (a :: as))
    (p6 : ∀ {a : Addr} {vs : List Value} {xs : List D} {as : List Addr}, h.IsTuple a vs.toArray → RdAll h vs xs as → Q vs xs as → P (.ref a) (.tuple xs) as)
    (p7 : ∀ {a : Addr} {o : Obj} {fd : FuncData} {i : Nat}, h.get? a = some o → o.data = .func fd → Lm i fd → h.CodeRec fd.code fd.qualname → P (.ref a) (.lam i) [])
    (q1 : Q [] [] []) (q2 : ∀ {v : Value} {vs : List Value} {d : D} {ds : List D} {as bs : List Addr}, Rd h v d as → RdAll h vs ds bs → P v d as → Q vs ds bs → Q (v :: vs) (d :: ds) (as ++ bs)) :
    (∀ {v : Value} {d : D} {as : List Addr}, Rd h v d as → P v d as) ∧ ∀ {vs : List Value} {ds : List D} {as : List Addr}, RdAll h vs ds as → Q vs ds as :=
  ⟨fun r => Rd.rec (motive_1 := fun v d as _ => P v d as) (motive_2 := fun v d as _ => Q v d as) p1 p2 p3 p4 p5 p6 p7 q1 q2 r, fun r => RdAll.rec (motive_1 := fun v d as _ => P v d as) (motive_2 := fun v d as _ => Q v d as) p1 p2 p3 p4 p5 p6 p7 q1 q2 r⟩
theorem rdAll_ind {h : Heap} {Q : List Value → List D → List Addr → Prop} (q1 : Q [] [] []) (q2 : ∀ {v : Value} {vs : List Value} {d : D} {ds : List D} {as bs : List Addr}, Rd h v d as → RdAll h vs ds bs → Q vs ds bs → Q (v :: vs) (d :: ds) (as ++ bs)) : ∀ {vs : List Value} {ds : List D} {as : List Addr}, RdAll h vs ds as → Q vs ds as :=
  (rd_ind (P := fun _ _ _ => True) trivial (fun _ => trivial) (fun _ _ => trivial) (fun _ _ => trivial) (fun _ _ _ => trivial) (fun _ _ _ => trivial) (fun _ _ _ _ => trivial) q1 fun r r' _ i => q2 r r' i).2
/-- what carries data over from a heap to another: the lists named, all tuples, all functions -/
noncomputable def Carry (S : List Addr) (h h' : Heap) : Prop :=
  (∀ a vs, a ∈ S → PL h a vs → PL h' a vs) ∧ (∀ a vs, h.IsTuple a vs → h'.IsTuple a vs) ∧
  (∀ a o fd, h.get? a = some o → o.data = .func fd → ∃ o', h'.get? a = some o' ∧ o'.data = .func fd) ∧ ∀ cd q, h.CodeRec cd q → h'.CodeRec cd q
theorem rd_carry {S : List Addr} {h h' : Heap} (hc : Carry S h h') : (∀ {v : Value} {d : D} {as : List Addr}, Rd h v d as → (∀ a ∈ as, a ∈ S) → Rd h' v d as) ∧ ∀ {vs : List Value} {ds : List D} {as : List Addr}, RdAll h vs ds as → (∀ a ∈ as, a ∈ S) → RdAll h' vs ds as :=
  rd_ind (P := fun v d as => (∀ a ∈ as, a ∈ S) → Rd h' v d as) (Q := fun v d as => (∀ a ∈ as, a ∈ S) → RdAll h' v d as) (fun _ => .none) (fun b _ => .bool b) (fun i t _ => .int i t) (fun x t _ => .str x t)
    (fun h1 _ ih hs => .list (hc.1 _ _ (hs _ (.head _)) h1) (ih fun a ha => hs a (.tail _ ha))) (fun h1 _ ih hs => .tuple (hc.2.1 _ _ h1) (ih hs))
    (fun h1 h2 h3 h4' _ => (hc.2.2.1 _ _ _ h1 h2).elim fun _ q => .lam q.1 q.2 h3 (hc.2.2.2 _ _ h4')) (fun _ => .nil)
    fun _ _ i1 i2 hs => .cons (i1 fun a ha => hs a (List.mem_append_left _ ha)) (i2 fun a ha => hs a (List.mem_append_right _ ha))
theorem Rd.carry {S : List Addr} {h h' : Heap} (hc : Carry S h h') {v : Value} {d : D} {as : List Addr} (hs : ∀ a ∈ as, a ∈ S) (r : Rd h v d as) : Rd h' v d as := (rd_carry hc).1 r hs
theorem RdAll.carry {S : List Addr} {h h' : Heap} (hc : Carry S h h') {vs : List Value} {ds : List D} {as : List Addr} (hs : ∀ a ∈ as, a ∈ S) (r : RdAll h vs ds as) : RdAll h' vs ds as := (rd_carry hc).2 r hs
/-- the objects of the start, which stay as they are -/
class Bd where
  p : Addr → Prop
noncomputable def IsDic (o : Obj) : Prop := ∃ x y, o.data = .dict x y
/-- all stays, but for the slots of dicts that are not of the start -/
noncomputable def Stays [Bd] (h h' : Heap) : Prop := ∀ b o, h.get? b = some o → h'.get? b = some o ∨ (¬ Bd.p b ∧ IsDic o ∧ ∃ sl, h'.get? b = some { o with slots := sl })
section
variable [Bd] {h h' h'' : Heap} {b : Addr} {o : Obj}
theorem Stays.of (k : ∀ b o, h.get? b = some o → h'.get? b = some o) : Stays h h' := fun b o e => .inl (k b o e)
theorem Stays.ex (k : Stays h h') (e : h.get? b = some o) (nd : ¬ IsDic o) : h'.get? b = some o := (k b o e).elim id fun q => absurd q.2.1 nd
theorem Stays.low (k : Stays h h') (e : h.get? b = some o) (hb : Bd.p b) : h'.get? b = some o := (k b o e).elim id fun q => absurd hb q.1
theorem Stays.data (k : Stays h h') (e : h.get? b = some o) : ∃ o', h'.get? b = some o' ∧ o'.data = o.data ∧ o'.cls = o.cls ∧ o'.dict = o.dict := (k b o e).elim (fun q => ⟨o, q, rfl, rfl, rfl⟩) fun ⟨_, _, _, q⟩ => ⟨_, q, rfl, rfl, rfl⟩
theorem Stays.has (k : Stays h h') (e : h.get? b = some o) : ∃ o', h'.get? b = some o' := let ⟨o', q, _⟩ := k.data e; ⟨o', q⟩
theorem Stays.none (k : Stays h h') (e : h'.get? b = none) : h.get? b = none := by
  cases q : h.get? b with
  | none => rfl
  | some o => obtain ⟨o', q'⟩ := k.has q; rw [e] at q'; cases q'
theorem Stays.trans (k : Stays h h') (k' : Stays h' h'') : Stays h h'' := fun b o e => by
  rcases k b o e with q | ⟨q1, q2, sl, q3⟩
  · exact k' b o q
  · rcases k' b _ q3 with q | ⟨_, _, sl', q⟩
    · exact .inr ⟨q1, q2, sl, q⟩
    · exact .inr ⟨q1, q2, sl', q⟩
theorem Stays.refl : Stays h h := .of fun _ _ e => e
end
theorem notDic_seq {o : Obj} {x n} (h : o.data = .seq x n) : ¬ IsDic o := fun ⟨_, _, q⟩ => by rw [h] at q; cases q
theorem notDic_func {o : Obj} {x} (h : o.data = .func x) : ¬ IsDic o := fun ⟨_, _, q⟩ => by rw [h] at q; cases q
theorem notDic_cell {o : Obj} {x} (h : o.data = .cell x) : ¬ IsDic o := fun ⟨_, _, q⟩ => by rw [h] at q; cases q
theorem notDic_fields {o : Obj} {x} (h : o.data = .fields x) : ¬ IsDic o := fun ⟨_, _, q⟩ => by rw [h] at q; cases q
section
variable [Bd]
theorem PL.stays {h h' : Heap} {a : Addr} {vs : Array Value} (x : PL h a vs) (k : Stays h h') : PL h' a vs := let ⟨n, e⟩ := x; ⟨n, k.ex e (notDic_seq rfl)⟩
theorem isList_stays {h h' : Heap} {a : Addr} {vs : Array Value} (x : h.IsList a vs) (k : Stays h h') : h'.IsList a vs := let ⟨o, e, c, n, d⟩ := x; ⟨o, k.ex e (notDic_seq d), c, n, d⟩
theorem isTuple_stays {h h' : Heap} {a : Addr} {vs : Array Value} (x : h.IsTuple a vs) (k : Stays h h') : h'.IsTuple a vs := let ⟨o, e, c, n, d⟩ := x; ⟨o, k.ex e (notDic_seq d), c, n, d⟩
theorem ns_stays {h h' : Heap} {a : Addr} {m : PySem.Str → Option Value} (x : h.Ns a m) (k : Stays h h') : h'.Ns a m := by
  obtain ⟨o, es, ep, e, d, r⟩ := x
  obtain ⟨o', e', d', _⟩ := k.data e
  exact ⟨o', es, ep, e', d'.trans d, r⟩
theorem cell_stays {h h' : Heap} {a : Addr} {v : Option Value} (x : h.IsCell a v) (k : Stays h h') : h'.IsCell a v := let ⟨o, e, d⟩ := x; ⟨o, k.ex e (notDic_cell d), d⟩
theorem Carry.stays {S : List Addr} {h h' : Heap} (k : Stays h h') : Carry S h h' :=
  ⟨fun _ _ _ x => x.stays k, fun _ _ x => isTuple_stays x k, fun _ o _ e d => ⟨o, k.ex e (notDic_func d), d⟩, fun _ _ ⟨cc, o, vs, t, e1, e2, e3, e4⟩ => ⟨cc, o, vs, t, e1, k.ex e2 (notDic_fields e3), e3, e4⟩⟩
theorem Rd.stays {h h' : Heap} (k : Stays h h') {v : Value} {d : D} {as : List Addr} (r : Rd h v d as) : Rd h' v d as := r.carry (Carry.stays (S := as) k) fun _ h => h
theorem RdAll.stays {h h' : Heap} (k : Stays h h') {v : List Value} {d : List D} {as : List Addr} (r : RdAll h v d as) : RdAll h' v d as := r.carry (Carry.stays (S := as) k) fun _ h => h
end
/-- the object at a is no data: what lies there may change -/
theorem Carry.off {S : List Addr} {h h' : Heap} {L : Addr} {o : Obj} (ho : h.get? L = some o) (hn : (∀ vs n, o.data ≠ .seq vs n) ∧ (∀ fd, o.data ≠ .func fd) ∧ ∀ vs, o.data ≠ .fields vs) (hs : Heap.SameBut L h h') : Carry S h h' := by
  refine ⟨fun a vs _ ⟨n, e⟩ => ⟨n, ?_⟩, fun a vs ⟨o', e, c, n, d⟩ => ⟨o', ?_, c, n, d⟩, fun a o' fd e d => ⟨o', ?_, d⟩, fun _ _ ⟨a, o', vs, t, e1, e, d, e4⟩ => ⟨a, o', vs, t, e1, ?_, d, e4⟩⟩
  · refine (hs.2 a fun q => ?_).trans e
    subst q
    rw [ho] at e
    cases e
    exact hn.1 _ _ rfl
  all_goals
    refine (hs.2 a fun q => ?_).trans e
    subst q
    rw [ho] at e
    cases e
    first | exact hn.1 _ _ d | exact hn.2.1 _ d | exact hn.2.2 _ d
theorem Carry.offList {S : List Addr} {h h' : Heap} {L : Addr} {vs : Array Value} (hl : h.IsList L vs) (hS : L ∉ S) (hs : Heap.SameBut L h h') : Carry S h h' := by
  obtain ⟨o, ho, hc, n, hd⟩ := hl
  refine ⟨fun a vs ha ⟨n, e⟩ => ⟨n, ?_⟩, fun a vs ⟨o', e, c, n, d⟩ => ⟨o', ?_, c, n, d⟩, fun a o' fd e d => ⟨o', ?_, d⟩, fun _ _ ⟨a, o', vs, t, e1, e, d, e4⟩ => ⟨a, o', vs, t, e1, ?_, d, e4⟩⟩
  all_goals refine (hs.2 a fun q => ?_).trans e
  · subst q; exact hS ha
  · subst q; rw [ho] at e; cases e; rw [hc] at c; exact absurd c (by decide)
  · subst q; rw [ho] at e; cases e; rw [hd] at d; cases d
  · subst q; rw [ho] at e; cases e; rw [hd] at d; cases d
theorem rd_adr {h : Heap} {F : Addr → Prop} (f : ∀ a vs, PL h a vs → F a) : (∀ {v : Value} {d : D} {as : List Addr}, Rd h v d as → ∀ a ∈ as, F a) ∧ ∀ {vs : List Value} {ds : List D} {as : List Addr}, RdAll h vs ds as → ∀ a ∈ as, F a :=
  rd_ind (P := fun _ _ as => ∀ a ∈ as, F a) (Q := fun _ _ as => ∀ a ∈ as, F a) (fun _ ha => nomatch ha) (fun _ _ ha => nomatch ha) (fun _ _ _ ha => nomatch ha) (fun _ _ _ ha => nomatch ha)
    (fun h1 _ ih a ha => (List.mem_cons.mp ha).elim (fun q => q ▸ f _ _ h1) (ih a)) (fun _ _ ih => ih) (fun _ _ _ _ _ ha => nomatch ha) (fun _ ha => nomatch ha)
    fun _ _ i1 i2 a ha => (List.mem_append.mp ha).elim (i1 a) (i2 a)
theorem Rd.lt {h : Heap} {v : Value} {d : D} {as : List Addr} (r : Rd h v d as) : ∀ a ∈ as, a < h.objs.size := (rd_adr fun _ _ x => x.elim fun _ e => Heap.lt_size e).1 r
theorem RdAll.lt {h : Heap} {vs : List Value} {ds : List D} {as : List Addr} (r : RdAll h vs ds as) : ∀ a ∈ as, a < h.objs.size := (rd_adr fun _ _ x => x.elim fun _ e => Heap.lt_size e).2 r
theorem Rd.there {h : Heap} {v : Value} {d : D} {as : List Addr} (r : Rd h v d as) : ∀ a ∈ as, ∃ o, h.get? a = some o := (rd_adr fun _ _ x => x.elim fun _ e => ⟨_, e⟩).1 r
theorem RdAll.there {h : Heap} {vs : List Value} {ds : List D} {as : List Addr} (r : RdAll h vs ds as) : ∀ a ∈ as, ∃ o, h.get? a = some o := (rd_adr fun _ _ x => x.elim fun _ e => ⟨_, e⟩).2 r
theorem Rd.lists {h : Heap} {v : Value} {d : D} {as : List Addr} (r : Rd h v d as) : ∀ a ∈ as, ∃ vs, PL h a vs := (rd_adr fun _ _ x => ⟨_, x⟩).1 r
theorem RdAll.lists {h : Heap} {vs : List Value} {ds : List D} {as : List Addr} (r : RdAll h vs ds as) : ∀ a ∈ as, ∃ vs, PL h a vs := (rd_adr fun _ _ x => ⟨_, x⟩).2 r
mutual
noncomputable def D.py : D → PyData
  | .none => .none
  | .bool b => .bool b
  | .int i => .int i
  | .str s => .str s
  | .list l => .list (pyAll l)
  | .tuple l => .tuple (pyAll l)
  | .lam _ => .none
noncomputable def pyAll : List D → List PyData
  | [] => []
  | d :: r => d.py :: pyAll r
end
mutual
noncomputable def D.data : D → Bool
  | .lam _ => false
  | .list l => dataAll l
  | .tuple l => dataAll l
  | _ => true
noncomputable def dataAll : List D → Bool
  | [] => true
  | d :: r => d.data && dataAll r
end
theorem rd_reads {h : Heap} : (∀ {v : Value} {d : D} {as : List Addr}, Rd h v d as → d.data = true → Reads h v d.py as) ∧ ∀ {vs : List Value} {ds : List D} {as : List Addr}, RdAll h vs ds as → dataAll ds = true → ReadsAll h vs (pyAll ds) as :=
  rd_ind (P := fun v d as => d.data = true → Reads h v d.py as) (Q := fun vs ds as => dataAll ds = true → ReadsAll h vs (pyAll ds) as) (fun _ => .none) (fun b _ => .bool b) (fun i t _ => .int i t) (fun x t _ => .str x t)
    (fun h1 _ ih hd => h1.elim fun _ e => .list e rfl rfl (ih hd)) (fun ⟨_, e, c, _, d⟩ _ ih hd => .tuple e c d (ih hd)) (fun _ _ _ _ hd => nomatch hd) (fun _ => .nil)
    fun _ _ i1 i2 hd => .cons (i1 (Bool.and_eq_true_iff.mp hd).1) (i2 (Bool.and_eq_true_iff.mp hd).2)
theorem Rd.reads {h : Heap} {v : Value} {d : D} {as : List Addr} (r : Rd h v d as) (hd : d.data = true) : Reads h v d.py as := rd_reads.1 r hd
theorem RdAll.reads {h : Heap} {vs : List Value} {ds : List D} {as : List Addr} (r : RdAll h vs ds as) (hd : dataAll ds = true) : ReadsAll h vs (pyAll ds) as := rd_reads.2 r hd
end Mine
end
section
open PySem PySem.W PyProof.Rows PySem.Calls
set_option linter.unusedSectionVars false
set_option linter.unusedVariables false
set_option maxRecDepth 100000
namespace Mine
structure Cx where
  prog : Program
  w : World
  K : Frag
  mg : PySem.Str → Option Value
  mb : PySem.Str → Option Value
variable [Bd]
noncomputable def EnvOk (env : Env) : Prop := env.scope.kind ≠ .module ∧ env.scope.isGenerator = false ∧ env.scope.isCoroutine = false ∧ env.builtins = builtinsNs ∧ env.globals = mainGlobals
/-- the frames that are open, as objects -/
noncomputable def StkL (l : List Env) (h : Heap) : Prop := ∀ env ∈ l, EnvOk env ∧ ∃ L o, env.frame = some L ∧ h.get? L = some o ∧ IsDic o ∧ ¬ Bd.p L
theorem StkL.stays {l : List Env} {h h' : Heap} (s : StkL l h) (k : Stays h h') : StkL l h' := fun env he => by
  obtain ⟨hk, L, o, h1, h2, ⟨x, y, h3⟩, h4⟩ := s env he
  obtain ⟨o', h2', h3', _⟩ := k.data h2
  exact ⟨hk, L, o', h1, h2', ⟨x, y, h3'.trans h3⟩, h4⟩
structure Wd0 (c : Cx) (h : Heap) : Prop where
  K : c.K.In h
  low : ∀ a o, c.K.lookup a = some o → Bd.p a
  live : ∀ a, Bd.p a → ∃ o, h.get? a = some o
  g : h.Ns mainGlobals c.mg
  b : h.Ns builtinsNs c.mb
  bi : ∀ x : PySem.Str, x ≠ "__name__" → c.mb x = bootBuiltins x
  lim : h.NoLimit
  seer : h.NoSeer
  tree : c.prog.given.tree = none
  bm : ∃ bm o, c.mg "__builtins__" = some (.ref bm) ∧ bm ≠ builtinsNs ∧ bm ≠ mainGlobals ∧ h.get? bm = some o ∧ o.cls = .type "module" ∧ o.dict = some builtinsNs ∧ o.data = .plain
structure Wd (c : Cx) (A : Around) (h : Heap) : Prop extends Wd0 c h where
  stk : ∃ l, A.frames = some l ∧ StkL l h
/-- the world below a frame -/
structure Wf (c : Cx) (A : Around) (env : Env) (h : Heap) : Prop extends Wd0 c h where
  stk : ∃ l, A.frames = some (env :: l) ∧ StkL l h
  fm : env.frame = some env.locals
  kd : EnvOk env
theorem noLimit_stays {h h' : Heap} (x : h.NoLimit) (k : Stays h h') : h'.NoLimit := let ⟨m, a, b⟩ := x; ⟨m, ns_stays a k, b⟩
theorem noSeer_stays {h h' : Heap} (x : h.NoSeer) (k : Stays h h') : h'.NoSeer := by
  obtain ⟨⟨m1, a1, b1⟩, ⟨m2, a2, b2⟩, ⟨m3, a3, b3⟩, ⟨mg, bm, ob, a4, a5, a6, a7, a8⟩⟩ := x
  obtain ⟨ob', e1, _, e2, e3⟩ := k.data a6
  exact ⟨⟨m1, ns_stays a1 k, b1⟩, ⟨m2, ns_stays a2 k, b2⟩, ⟨m3, ns_stays a3 k, b3⟩, ⟨mg, bm, ob', ns_stays a4 k, a5, e1, e2.trans a7, e3.trans a8⟩⟩
theorem Wd0.stays {c : Cx} {h h' : Heap} (W : Wd0 c h) (k : Stays h h') : Wd0 c h' :=
  ⟨fun a o e => k.low (W.K a o e) (W.low a o e), W.low, fun a ha => let ⟨_, e⟩ := W.live a ha; k.has e, ns_stays W.g k, ns_stays W.b k, W.bi, noLimit_stays W.lim k, noSeer_stays W.seer k, W.tree, let ⟨bm, o, e1, e2, e3, e4, e5, e6, e7⟩ := W.bm; ⟨bm, o, e1, e2, e3, k.ex e4 (fun ⟨_, _, q⟩ => by rw [e7] at q; cases q), e5, e6, e7⟩⟩
theorem Wd.stays {c : Cx} {A : Around} {h h' : Heap} (W : Wd c A h) (k : Stays h h') : Wd c A h' := ⟨W.toWd0.stays k, let ⟨l, e, s⟩ := W.stk; ⟨l, e, s.stays k⟩⟩
theorem Wf.stays {c : Cx} {A : Around} {env : Env} {h h' : Heap} (W : Wf c A env h) (k : Stays h h') : Wf c A env h' := ⟨W.toWd0.stays k, let ⟨l, e, s⟩ := W.stk; ⟨l, e, s.stays k⟩, W.fm, W.kd⟩
theorem Wd0.fresh {c : Cx} {h : Heap} (W : Wd0 c h) {a : Addr} (e : h.get? a = none) : ¬ Bd.p a := fun hp => by
  obtain ⟨o, q⟩ := W.live a hp
  rw [e] at q; cases q
theorem Wf.wd {c : Cx} {A : Around} {env : Env} {h h' : Heap} {m : PySem.Str → Option Value} (W : Wf c A env h) (k : Stays h h') (hn : h.get? env.locals = none) (hm : h'.Ns env.locals m) : Wd c A h' := by
  obtain ⟨l, e, a⟩ := W.stk
  obtain ⟨o, es, ep, h1, h2, _⟩ := hm
  refine ⟨W.toWd0.stays k, env :: l, e, fun env' he => ?_⟩
  rcases List.mem_cons.mp he with rfl | he
  · exact ⟨W.kd, _, o, W.fm, h1, ⟨_, _, h2⟩, W.toWd0.fresh hn⟩
  · exact a.stays k env' he
theorem Wd.deeper {c : Cx} {A : Around} {h : Heap} {env : Env} (W : Wd c A h) (hk : EnvOk env) (hL : env.frame = some env.locals) : Wf c (A.deeper env) env h := by
  obtain ⟨l, e, a⟩ := W.stk
  exact ⟨W.toWd0, ⟨l, by show Option.map _ A.frames = _; rw [e]; rfl, a⟩, hL, hk⟩
structure OkA (n : Nat) (A : Around) : Prop where
  h : A.handled = none
  d : A.depth + n ≤ 600
  u : A.units + 10 * n ≤ 6000
  ne : A.frames ≠ some []
theorem OkA.room {n : Nat} {A : Around} (o : OkA n A) : A.depth < recursionLimit := by have := o.d; show A.depth < 1000; omega
theorem OkA.units {n : Nat} {A : Around} (o : OkA n A) : A.units + 64 < cLine := by have := o.u; show A.units + 64 < 9900; omega
theorem OkA.mono {m n : Nat} {A : Around} (o : OkA n A) (h : m ≤ n) : OkA m A := ⟨o.h, by have := o.d; omega, by have := o.u; omega, o.ne⟩
theorem OkA.deeper {n : Nat} {A : Around} (o : OkA (n + 1) A) (env : Env) : OkA n (A.deeper env) :=
  ⟨o.h, by have := o.d; show A.depth + 1 + n ≤ 600; omega, by have := o.u; show A.units + 3 + 10 * n ≤ 6000; omega, by show Option.map _ A.frames ≠ _; cases A.frames <;> simp⟩
theorem OkA.in1 {n : Nat} {A : Around} (o : OkA (n + 1) A) : OkA n A.in1 :=
  ⟨o.h, by have := o.d; show A.depth + n ≤ 600; omega, by have := o.u; show A.units + 1 + 10 * n ≤ 6000; omega, o.ne⟩
noncomputable abbrev Ctx := PySem.Str → Option D
noncomputable def upd (Γ : Ctx) (x : PySem.Str) (d : D) : Ctx := fun y => if y = x then some d else Γ y
noncomputable def emp : Ctx := fun _ => none
theorem upd_same {Γ : Ctx} {x : PySem.Str} {d : D} : upd Γ x d x = some d := by simp [upd]
theorem upd_other {Γ : Ctx} {x y : PySem.Str} {d : D} {r : Option D} (h : y ≠ x) (e : Γ y = r) : upd Γ x d y = r := by simp [upd, h, e]
noncomputable def At (env : Env) (h : Heap) (x : PySem.Str) (v : Value) : Prop :=
  (env.kindOf x = some .local ∧ ∃ m, h.Ns env.locals m ∧ m x = some v) ∨
  (∃ c, (env.kindOf x = some .cell ∨ (env.kindOf x = some .free ∧ (x == ("__classdict__" : PySem.Str)) = false)) ∧ env.cells.lookup x = some c ∧ h.IsCell c (some v))
theorem At.stays {env : Env} {h h' : Heap} {x : PySem.Str} {v : Value} (a : At env h x v) (k : Stays h h') : At env h' x v := by
  rcases a with ⟨a, m, b, e⟩ | ⟨c, a, b, e⟩
  · exact .inl ⟨a, m, ns_stays b k, e⟩
  · exact .inr ⟨c, a, b, cell_stays e k⟩
noncomputable def Vars (env : Env) (h : Heap) (Γ : Ctx) : Prop := ∀ x d, Γ x = some d → ∃ v as, At env h x v ∧ Rd h v d as
theorem Vars.stays {env : Env} {h h' : Heap} {Γ : Ctx} (a : Vars env h Γ) (k : Stays h h') : Vars env h' Γ := fun x d e =>
  let ⟨v, as, p, q⟩ := a x d e; ⟨v, as, p.stays k, q.stays k⟩
structure Fm (sc : Scope) (env : Env) : Prop where
  names : env.scope.names = sc.names
  kind : env.scope.kind = .function
  glob : env.globals = mainGlobals
  bi : env.builtins = builtinsNs
noncomputable def Kp (s s' : Shared) : Prop := ∃ h' tk, s' = { s with heap := h', toks := tk } ∧ Stays s.heap h'
theorem Kp.rfl' (s : Shared) : Kp s s := ⟨s.heap, s.toks, rfl, .refl⟩
theorem kp_of {s : Shared} {h' : Heap} {tk : Nat} (k : ∀ b o, s.heap.get? b = some o → h'.get? b = some o) : Kp s { s with heap := h', toks := tk } := ⟨h', tk, rfl, .of k⟩
theorem kp_tok (s : Shared) (tk : Nat) : Kp s { s with toks := tk } := ⟨s.heap, tk, rfl, .refl⟩
theorem Kp.trans' {s₁ s₂ s₃ : Shared} (a : Kp s₁ s₂) (b : Kp s₂ s₃) : Kp s₁ s₃ := by
  obtain ⟨h, t, rfl, k⟩ := a
  obtain ⟨h', t', rfl, k'⟩ := b
  exact ⟨h', t', rfl, k.trans k'⟩
theorem Kp.st {s₁ s₂ : Shared} (a : Kp s₁ s₂) : Stays s₁.heap s₂.heap := by obtain ⟨h, t, rfl, k⟩ := a; exact k
/-- a result: data, its lists all made since the start -/
noncomputable def Res (s : Shared) (fr : Bool) (d : D) (Q : Value → Shared → Prop) : Prop :=
  ∀ v as s', Kp s s' → Rd s'.heap v d as → (fr = true → ∀ a ∈ as, s.heap.get? a = none) → Q v s'
section
variable (c : Cx)
noncomputable def Ev (n : Nat) (sc : Scope) (Γ : Ctx) (fr : Bool) (e : PySem.Expr) (d : D) : Prop :=
  ∀ env A s E Q, Fm sc env → OkA n A → Wd c A s.heap → Vars env s.heap Γ → Res s fr d Q → wpAny (model c.prog c.w) A (eval e env) Q E s
noncomputable def Tr (n : Nat) (sc : Scope) (Γ : Ctx) (e : PySem.Expr) (b : Bool) : Prop :=
  ∀ env A s E Q, Fm sc env → OkA n A → Wd c A s.heap → Vars env s.heap Γ → (∀ s', Kp s s' → Q b s') → wpAny (model c.prog c.w) A (isTrue e env (eval e env)) Q E s
noncomputable def Evs (n : Nat) (sc : Scope) (Γ : Ctx) (fr : Bool) (es : List PySem.Expr) (ds : List D) : Prop :=
  ∀ env A s E pos (Q : List Value → Shared → Prop), Fm sc env → OkA n A → Wd c A s.heap → Vars env s.heap Γ →
    (∀ vs as s', Kp s s' → RdAll s'.heap vs ds as → (fr = true → ∀ a ∈ as, s.heap.get? a = none) → Q vs s') → wpAny (model c.prog c.w) A (spliced (backTo pos (starEach es env))) Q E s
/-- one step on values -/
noncomputable def Bin (n : Nat) (op : Operator) (a b d : D) : Prop :=
  ∀ A s E Q va vb as bs, OkA n A → Wd c A s.heap → Rd s.heap va a as → Rd s.heap vb b bs → Res s true d Q → wpAny (model c.prog c.w) A (binaryOp op va vb) Q E s
noncomputable def Cmp (n : Nat) (op : CmpOp) (a b : D) (r : Bool) : Prop :=
  ∀ A s E Q va vb as bs, OkA n A → Wd c A s.heap → Rd s.heap va a as → Rd s.heap vb b bs → (∀ s', Kp s s' → Q (.bool r) s') → wpAny (model c.prog c.w) A (compareOp op va vb) Q E s
noncomputable def Tru (d : D) (b : Bool) : Prop :=
  ∀ n A s E Q v as, OkA n A → Rd s.heap v d as → (∀ s', Kp s s' → Q b s') → wpAny (model c.prog c.w) A (truthy v) Q E s
/-- a call of a value held in the context: of a builtin or a def of the text -/
noncomputable def CallV (n : Nat) (f : Value) (args : List D) (d : D) : Prop :=
  ∀ A s E Q vs as, OkA n A → Wd c A s.heap → RdAll s.heap vs args as → Res s true d Q → wpAny (model c.prog c.w) A (call f vs) Q E s
end
theorem Res.of {s s₁ : Shared} {fr : Bool} {d : D} {Q : Value → Shared → Prop} (h : Res s fr d Q) (k : Kp s s₁) : Res s₁ fr d Q := fun v as s' k' r f =>
  h v as s' (k.trans' k') r fun e a ha => by
    have := f e a ha
    exact k.st.none this
theorem Res.weak {s : Shared} {fr : Bool} {d : D} {Q : Value → Shared → Prop} (h : Res s fr d Q) : Res s true d Q := fun v as s' k r f => h v as s' k r fun _ => f rfl
/-- no lists within: at no address -/
noncomputable def flat : D → Bool
  | .none => true
  | .bool _ => true
  | .int _ => true
  | .str _ => true
  | .lam _ => true
  | _ => false
theorem Rd.flat {h : Heap} {v : Value} {d : D} {as : List Addr} (r : Rd h v d as) (f : flat d = true) : as = [] := by
  cases r <;> first | rfl | cases f
section
variable {c : Cx} {n : Nat} {sc : Scope} {Γ : Ctx} {fr : Bool}
theorem ev_name {x : PySem.Str} {p : Pos} {d : D} (e : Γ x = some d) (hd : (x == ("__debug__" : PySem.Str)) = false := by decide +kernel) : Ev c n sc Γ false (.Name x p) d := by
  intro env A s E Q F _ _ V h
  obtain ⟨v, as, a, r⟩ := V x d e
  refine wpAny_Name ?_ hd
  rcases a with ⟨a, m, b, e⟩ | ⟨q, a, b, e⟩
  · exact wpAny_loadName_local F.kind a b e (h v as s (.rfl' s) r fun e => nomatch e)
  · rcases a with a | ⟨a, a'⟩
    · exact wpAny_loadName_cell F.kind a b e (h v as s (.rfl' s) r fun e => nomatch e)
    · exact wpAny_loadName_free F.kind a b e (h v as s (.rfl' s) r fun e => nomatch e) a'
theorem Ev.any {e : PySem.Expr} {d : D} (h : Ev c n sc Γ true e d) : Ev c n sc Γ fr e d := fun env A s E Q F o W V r => h env A s E Q F o W V r.weak
theorem Ev.flat {e : PySem.Expr} {d : D} (h : Ev c n sc Γ false e d) (f : Mine.flat d = true) : Ev c n sc Γ fr e d := fun env A s E Q F o W V r =>
  h env A s E Q F o W V fun v as s' k q _ => r v as s' k q fun _ a ha => by rw [q.flat f] at ha; cases ha
theorem ev_int {i : Int} {k : Nat} {p : Pos} : Ev c n sc Γ fr (.Constant (.int i) k p) (.int i) := fun _ _ s _ _ _ _ _ _ h =>
  wpAny_Constant_int (h _ [] _ (kp_tok s _) (.int _ _) fun _ _ h => nomatch h)
theorem ev_str {i : PySem.Str} {k : Nat} {p : Pos} : Ev c n sc Γ fr (.Constant (.str i) k p) (.str i) := fun _ _ s _ _ _ _ _ _ h =>
  wpAny_Constant_str (h _ [] _ (kp_tok s _) (.str _ _) fun _ _ h => nomatch h)
theorem ev_none {k : Nat} {p : Pos} : Ev c n sc Γ fr (.Constant .none k p) .none := fun _ _ s _ _ _ _ _ _ h =>
  wpAny_Constant_none (h _ [] _ (.rfl' s) .none fun _ _ h => nomatch h)
theorem ev_bool {b : Bool} {k : Nat} {p : Pos} : Ev c n sc Γ fr (.Constant (.bool b) k p) (.bool b) := fun _ _ s _ _ _ _ _ _ h =>
  wpAny_Constant_bool (h _ [] _ (.rfl' s) (.bool b) fun _ _ h => nomatch h)
theorem ev_bin {l r : PySem.Expr} {op : Operator} {p : Pos} {a b d : D} (hl : Ev c n sc Γ false l a) (hr : Ev c n sc Γ false r b) (hb : Bin c n op a b d) : Ev c n sc Γ fr (.BinOp l op r p) d := by
  intro env A s E Q F o W V h
  refine wpAny_BinOp (hl env A s E _ F o W V fun va as s₁ k₁ r₁ _ => hr env A s₁ E _ F o (W.stays k₁.st) (V.stays k₁.st) fun vb bs s₂ k₂ r₂ _ => ?_)
  exact hb A s₂ E Q va vb as bs o (W.stays (k₁.trans' k₂).st) (r₁.stays k₂.st) r₂ (h.of (k₁.trans' k₂)).weak
theorem ev_cmp {l r : PySem.Expr} {op : CmpOp} {p : Pos} {a b : D} {t : Bool} (hl : Ev c n sc Γ false l a) (hr : Ev c n sc Γ false r b) (hb : Cmp c n op a b t) (hm : behindInMarks op r = false := by rfl) : Ev c n sc Γ fr (.Compare l [op] [r] p) (.bool t) := by
  intro env A s E Q F o W V h
  refine wpAny_Compare1 (hl env A s E _ F o W V fun va as s₁ k₁ r₁ _ => hr env A s₁ E _ F o (W.stays k₁.st) (V.stays k₁.st) fun vb bs s₂ k₂ r₂ _ => ?_) hm
  exact hb A s₂ E Q va vb as bs o (W.stays (k₁.trans' k₂).st) (r₁.stays k₂.st) r₂ fun s' k' => h _ [] s' ((k₁.trans' k₂).trans' k') (.bool t) fun _ _ h => nomatch h
theorem tr_cmp {l r : PySem.Expr} {op : CmpOp} {p : Pos} {a b : D} {t : Bool} (hl : Ev c n sc Γ false l a) (hr : Ev c n sc Γ false r b) (hb : Cmp c n op a b t) (hm : behindInMarks op r = false := by rfl) : Tr c n sc Γ (.Compare l [op] [r] p) t := by
  intro env A s E Q F o W V h
  refine wpAny_isTrue_Compare1 (hl env A s E _ F o W V fun va as s₁ k₁ r₁ _ => hr env A s₁ E _ F o (W.stays k₁.st) (V.stays k₁.st) fun vb bs s₂ k₂ r₂ _ => ?_) hm
  exact hb A s₂ E _ va vb as bs o (W.stays (k₁.trans' k₂).st) (r₁.stays k₂.st) r₂ fun s' k' => wpAny_truthy_bool (h s' ((k₁.trans' k₂).trans' k'))
theorem ev_ifexp {t b o : PySem.Expr} {p : Pos} {d : D} {q : Bool} (ht : Tr c n sc Γ t q) (h1 : q = true → Ev c n sc Γ fr b d) (h2 : q = false → Ev c n sc Γ fr o d) : Ev c n sc Γ fr (.IfExp t b o p) d := by
  intro env A s E Q F ok W V h
  refine wpAny_IfExp (ht env A s E _ F ok W V fun s' k => ?_)
  cases q with
  | true => exact h1 rfl env A s' E Q F ok (W.stays k.st) (V.stays k.st) (h.of k)
  | false => exact h2 rfl env A s' E Q F ok (W.stays k.st) (V.stays k.st) (h.of k)
theorem ev_ifexp_b {t b o : PySem.Expr} {p : Pos} {d e : D} {q : Bool} (ht : Tr c n sc Γ t q) (h1 : Ev c n sc Γ fr b d) (h2 : Ev c n sc Γ fr o e) : Ev c n sc Γ fr (.IfExp t b o p) (if q = true then d else e) :=
  ev_ifexp ht (fun h => by rw [if_pos h]; exact h1) (fun h => by rw [if_neg (by rw [h]; decide)]; exact h2)
theorem tr_and_nil {A : Around} {s : Shared} {E : Value → Shared → Prop} {env : Env} {Q : Bool → Shared → Prop} (h : Q true s) : wpAny (model c.prog c.w) A (allTrue .And [] env) Q E s := wpAny_pure h
theorem tr_or_nil {A : Around} {s : Shared} {E : Value → Shared → Prop} {env : Env} {Q : Bool → Shared → Prop} (h : Q false s) : wpAny (model c.prog c.w) A (allTrue .Or [] env) Q E s := wpAny_pure h
/-- and: what is behind is asked only where what is ahead is true -/
theorem tr_and2 {x y : PySem.Expr} {p : Pos} {a b : Bool} (hx : Tr c n sc Γ x a) (hy : a = true → Tr c n sc Γ y b) : Tr c n sc Γ (.BoolOp .And [x, y] p) (a && b) := by
  intro env A s E Q F ok W V h
  refine wpAny_isTrue_BoolOp (wpAny_allTrue_And_cons (hx env A s E _ F ok W V fun s₁ k₁ => ?_))
  cases a with
  | false => exact h s₁ k₁
  | true =>
    rw [if_pos rfl]
    refine wpAny_allTrue_And_cons (hy rfl env A s₁ E _ F ok (W.stays k₁.st) (V.stays k₁.st) fun s₂ k₂ => ?_)
    cases b with
    | false => exact h s₂ (k₁.trans' k₂)
    | true => rw [if_pos rfl]; exact tr_and_nil (h s₂ (k₁.trans' k₂))
theorem tr_and3 {x y z : PySem.Expr} {p : Pos} {a b d : Bool} (hx : Tr c n sc Γ x a) (hy : a = true → Tr c n sc Γ y b) (hz : a = true → b = true → Tr c n sc Γ z d) : Tr c n sc Γ (.BoolOp .And [x, y, z] p) (a && (b && d)) := by
  intro env A s E Q F ok W V h
  refine wpAny_isTrue_BoolOp (wpAny_allTrue_And_cons (hx env A s E _ F ok W V fun s₁ k₁ => ?_))
  cases a with
  | false => exact h s₁ k₁
  | true =>
    rw [if_pos rfl]
    refine wpAny_allTrue_And_cons (hy rfl env A s₁ E _ F ok (W.stays k₁.st) (V.stays k₁.st) fun s₂ k₂ => ?_)
    have k12 := k₁.trans' k₂
    cases b with
    | false => exact h s₂ k12
    | true =>
      rw [if_pos rfl]
      refine wpAny_allTrue_And_cons (hz rfl rfl env A s₂ E _ F ok (W.stays k12.st) (V.stays k12.st) fun s₃ k₃ => ?_)
      cases d with
      | false => exact h s₃ (k12.trans' k₃)
      | true => rw [if_pos rfl]; exact tr_and_nil (h s₃ (k12.trans' k₃))
theorem tr_or2 {x y : PySem.Expr} {p : Pos} {a b : Bool} (hx : Tr c n sc Γ x a) (hy : a = false → Tr c n sc Γ y b) : Tr c n sc Γ (.BoolOp .Or [x, y] p) (a || b) := by
  intro env A s E Q F ok W V h
  refine wpAny_isTrue_BoolOp (wpAny_allTrue_Or_cons (hx env A s E _ F ok W V fun s₁ k₁ => ?_))
  cases a with
  | true => exact h s₁ k₁
  | false =>
    rw [if_neg (by decide)]
    refine wpAny_allTrue_Or_cons (hy rfl env A s₁ E _ F ok (W.stays k₁.st) (V.stays k₁.st) fun s₂ k₂ => ?_)
    cases b with
    | true => exact h s₂ (k₁.trans' k₂)
    | false => rw [if_neg (by decide)]; exact tr_or_nil (h s₂ (k₁.trans' k₂))
theorem tr_not {x : PySem.Expr} {p : Pos} {a : Bool} (hx : Tr c n sc Γ x a) : Tr c n sc Γ (.UnaryOp .Not x p) (!a) := fun env A s E Q F ok W V h =>
  wpAny_isTrue_Not (hx env A s E _ F ok W V h)
/-- the truth of a value: an expression of none of the four kinds with roads of their own -/
theorem tr_val {e : PySem.Expr} {d : D} {b : Bool} (he : Ev c n sc Γ false e d) (hb : Tru c d b)
    (hw : ∀ env whole, PySem.isTrue e env whole = (do let v ← whole; standAt e.pos; holding [v] (truthy v)) := by intro _ _; rfl) : Tr c n sc Γ e b := fun env A s E Q F ok W V h =>
  wpAny_isTrue_value (he env A s E _ F ok W V fun v as s₁ k r _ => hb n A s₁ E Q v as ok r fun s₂ k₂ => h s₂ (k.trans' k₂)) (hw env _)
/-- x and y as a value, both bools -/
theorem ev_and2 {x y : PySem.Expr} {p : Pos} {a b : Bool} (hx : Ev c n sc Γ false x (.bool a)) (hy : a = true → Ev c n sc Γ false y (.bool b)) : Ev c n sc Γ fr (.BoolOp .And [x, y] p) (.bool (a && b)) := by
  intro env A s E Q F ok W V h
  refine wpAny_And2 (hx env A s E _ F ok W V fun v as s₁ k₁ r₁ _ => ?_)
  cases r₁
  refine wpAny_truthy_bool ?_
  cases a with
  | false => exact h _ [] s₁ k₁ (.bool _) fun _ _ h => nomatch h
  | true => exact hy rfl env A s₁ E Q F ok (W.stays k₁.st) (V.stays k₁.st) fun v as s₂ k₂ r₂ _ => h v as s₂ (k₁.trans' k₂) r₂ fun _ a ha => by rw [r₂.flat rfl] at ha; cases ha
/-- x or y as a value: x has a truth -/
theorem ev_or2 {x y : PySem.Expr} {p : Pos} {a d : D} {b : Bool} (hx : Ev c n sc Γ fr x a) (hb : Tru c a b) (h1 : b = true → a = d) (hy : b = false → Ev c n sc Γ fr y d) : Ev c n sc Γ fr (.BoolOp .Or [x, y] p) d := by
  intro env A s E Q F ok W V h
  refine wpAny_Or2 (hx env A s E _ F ok W V fun v as s₁ k₁ r₁ f₁ => ?_)
  refine hb n A s₁ E _ v as ok r₁ fun s₂ k₂ => ?_
  have k12 := k₁.trans' k₂
  cases b with
  | true => rw [if_pos rfl]; obtain rfl := h1 rfl; exact h _ as s₂ k12 (r₁.stays k₂.st) f₁
  | false => rw [if_neg (by decide)]; exact hy rfl env A s₂ E Q F ok (W.stays k12.st) (V.stays k12.st) (h.of k12)
theorem ev_not {x : PySem.Expr} {p : Pos} {a : D} {b : Bool} (hx : Ev c n sc Γ false x a) (hb : Tru c a b) : Ev c n sc Γ fr (.UnaryOp .Not x p) (.bool (!b)) := by
  intro env A s E Q F ok W V h
  refine wpAny_UnaryOp (hx env A s E _ F ok W V fun v as s₁ k₁ r₁ _ => ?_)
  refine not_of (hb n A s₁ E _ v as ok r₁ fun s₂ k₂ => ?_)
  exact h _ [] s₂ (k₁.trans' k₂) (.bool _) fun _ _ h => nomatch h
theorem ev_neg {i : Int} {x : PySem.Expr} {p : Pos} (hx : Ev c n sc Γ false x (.int i)) : Ev c n sc Γ fr (.UnaryOp .USub x p) (.int (-i)) := by
  intro env A s E Q F ok W V h
  refine wpAny_UnaryOp (hx env A s E _ F ok W V fun v as s₁ k₁ r₁ _ => ?_)
  cases r₁
  exact neg_int (h _ [] _ (k₁.trans' (kp_tok s₁ _)) (.int _ _) fun _ _ h => nomatch h)
end
end Mine
end
section
open PySem PySem.W PyProof.Rows PySem.Calls
set_option linter.unusedSectionVars false
set_option linter.unusedVariables false
set_option maxRecDepth 100000
namespace Mine
variable [Bd]
theorem RdAll.length {h : Heap} {vs : List Value} {ds : List D} {as : List Addr} (r : RdAll h vs ds as) : vs.length = ds.length :=
  rdAll_ind (Q := fun vs ds _ => vs.length = ds.length) rfl (fun _ _ i => congrArg (· + 1) i) r
theorem RdAll.get {h : Heap} {vs : List Value} {ds : List D} {as : List Addr} (r : RdAll h vs ds as) {i : Nat} {d : D} : ds[i]? = some d → ∃ v bs, vs[i]? = some v ∧ Rd h v d bs ∧ ∀ b ∈ bs, b ∈ as := by
  refine rdAll_ind (Q := fun vs ds as => ∀ i, ds[i]? = some d → ∃ v bs, vs[i]? = some v ∧ Rd h v d bs ∧ ∀ b ∈ bs, b ∈ as) (fun _ e => absurd (List.getElem?_nil.symm.trans e) (fun q => nomatch q)) (fun h1 _ ih i => ?_) r i
  cases i with
  | zero => intro e; cases e; exact ⟨_, _, rfl, h1, fun b hb => List.mem_append_left _ hb⟩
  | succ i => exact fun e => (ih i e).elim fun v x => x.elim fun bs y => ⟨v, bs, y.1, y.2.1, fun x hx => List.mem_append_right _ (y.2.2 x hx)⟩
theorem RdAll.none {h : Heap} {vs : List Value} {ds : List D} {as : List Addr} (r : RdAll h vs ds as) {i : Nat} (e : ds[i]? = .none) : vs[i]? = .none := by
  rw [List.getElem?_eq_none_iff] at e ⊢
  rw [r.length]; exact e
theorem RdAll.append {h : Heap} {vs us : List Value} {ds es : List D} {as bs : List Addr} (r : RdAll h vs ds as) (r' : RdAll h us es bs) : RdAll h (vs ++ us) (ds ++ es) (as ++ bs) :=
  rdAll_ind (Q := fun vs ds as => RdAll h (vs ++ us) (ds ++ es) (as ++ bs)) r' (fun h1 _ i => by rw [List.append_assoc]; exact .cons h1 i) r
noncomputable def flats (l : List D) : Bool := l.all flat
theorem RdAll.flat {h : Heap} {vs : List Value} {ds : List D} {as : List Addr} (r : RdAll h vs ds as) : flats ds = true → as = [] :=
  rdAll_ind (Q := fun _ ds as => flats ds = true → as = []) (fun _ => rfl) (fun h1 _ i f => by
    have f' := Bool.and_eq_true_iff.mp (show (Mine.flat _ && flats _) = true from f)
    rw [h1.flat f'.1, i f'.2]; rfl) r
theorem RdAll.pick {h : Heap} {vs : List Value} {ds : List D} (r : RdAll h vs ds []) : ∀ (is : List Nat), RdAll h (is.filterMap fun i => vs[i]?) (is.filterMap fun i => ds[i]?) []
  | [] => .nil
  | i :: is => by
    cases e : ds[i]? with
    | none => rw [List.filterMap_cons_none e, List.filterMap_cons_none (r.none e)]; exact r.pick is
    | some d =>
      obtain ⟨v, bs, a, b, c⟩ := r.get e
      have hb : bs = [] := List.eq_nil_iff_forall_not_mem.mpr fun x hx => nomatch c x hx
      subst hb
      rw [List.filterMap_cons_some e, List.filterMap_cons_some a]
      exact .cons (as := []) b (r.pick is)
/-- a cut of a list -/
noncomputable def clp (o : Option Int) (d n : Nat) : Nat := match o with
  | none => d
  | some i => if i < 0 then (i + n).toNat else min i.toNat n
noncomputable def slc {α : Type} (lo hi : Option Int) (l : List α) : List α := (l.drop (clp lo 0 l.length)).take (clp hi l.length l.length - clp lo 0 l.length)
theorem range_pick {α : Type} (l : List α) (a : Nat) : ∀ b : Nat, a + b ≤ l.length → ((List.range b).map fun k : Nat => ((a : Int) + 1 * (k : Int)).toNat).filterMap (fun i => l[i]?) = (l.drop a).take b
  | 0, _ => by simp
  | b + 1, h => by
    rw [List.range_succ, List.map_append, List.filterMap_append, range_pick l a b (by omega)]
    have e : ((a : Int) + 1 * (b : Int)).toNat = a + b := by omega
    have hx : l[a + b]? = some (l[a + b]'(by omega)) := List.getElem?_eq_getElem (by omega)
    simp only [List.map_cons, List.map_nil, e, List.filterMap_cons, hx, List.filterMap_nil]
    rw [List.take_add_one]
    congr 1
    rw [List.getElem?_drop, hx]; rfl
theorem clip_nn (i : Int) (n : Nat) : max 0 (min (if i < 0 then i + (n : Int) else i) (n : Int)) = ((clp (some i) 0 n : Nat) : Int) := by
  unfold clp
  dsimp only
  split <;> omega
theorem bounds_eq (lo hi : Option Int) (n : Nat) : sliceBounds lo hi none n = (((clp lo 0 n : Nat) : Int), ((clp hi n n : Nat) : Int), (1 : Int)) := by
  unfold sliceBounds
  simp only [Option.getD_none]
  have h1 : (1 : Int) > 0 := by decide
  simp only [if_pos h1]
  have c : ∀ o : Option Int, ∀ d : Nat, (match o with | none => (d : Int) | some i => max 0 (min (if i < 0 then i + (n : Int) else i) (n : Int))) = ((clp o d n : Nat) : Int) := by
    intro o d
    cases o with
    | none => rfl
    | some i => exact (clip_nn i n).trans (by unfold clp; rfl)
  have c1 := c lo 0
  have c2 := c hi n
  cases lo <;> cases hi <;> simp_all
theorem clp_le (o : Option Int) (d n : Nat) (hd : d ≤ n) : clp o d n ≤ n := by
  unfold clp
  cases o with
  | none => exact hd
  | some i => dsimp only; split <;> omega
theorem slice_eq {α : Type} (lo hi : Option Int) (l : List α) :
    (sliceRange (sliceBounds lo hi none l.length).1 (sliceBounds lo hi none l.length).2.1 (sliceBounds lo hi none l.length).2.2).filterMap (fun i => l[i]?) = slc lo hi l := by
  rw [bounds_eq]
  dsimp only
  have h1 := clp_le lo 0 l.length (Nat.zero_le _)
  have h2 := clp_le hi l.length l.length (Nat.le_refl _)
  unfold sliceRange slc
  generalize clp lo 0 l.length = a at h1
  generalize clp hi l.length l.length = b at h2
  have h3 : (1 : Int) > 0 := by decide
  simp only [if_pos h3]
  by_cases hab : (a : Int) < (b : Int)
  · rw [if_pos hab]
    have e : (((b : Int) - (a : Int) + 1 - 1) / 1).toNat = b - a := by simp
    rw [e]
    exact range_pick l a (b - a) (by omega)
  · rw [if_neg hab]
    have e : b - a = 0 := by omega
    simp [e]
/-- with a step -/
noncomputable def slcS {α : Type} (lo hi st : Option Int) (l : List α) : List α :=
  (sliceRange (sliceBounds lo hi st l.length).1 (sliceBounds lo hi st l.length).2.1 (sliceBounds lo hi st l.length).2.2).filterMap fun i => l[i]?
noncomputable def sOf (l : List Nat) : PySem.Str := ⟨l.toArray⟩
noncomputable def cps (x : PySem.Str) : List Nat := x.cps.toList
theorem sOf_cps (x : PySem.Str) : sOf (cps x) = x := by unfold sOf cps; rw [Array.toArray_toList]
theorem cps_sOf (l : List Nat) : cps (sOf l) = l := rfl
theorem len_cps (x : PySem.Str) : x.length = (cps x).length := by unfold cps; rw [Array.length_toList]; rfl
section
variable {c : Cx} {n : Nat}
theorem tok_kp (s : Shared) (t : Nat) : Kp s { s with toks := t } := kp_tok s t
theorem bin_add_int {a b : Int} : Bin c n .Add (.int a) (.int b) (.int (a + b)) := by
  intro A s E Q va vb as bs o W ra rb h
  cases ra; cases rb
  exact add_int (h _ [] _ (tok_kp s _) (.int _ _) fun _ _ h => nomatch h)
theorem bin_sub_int {a b : Int} : Bin c n .Sub (.int a) (.int b) (.int (a - b)) := by
  intro A s E Q va vb as bs o W ra rb h
  cases ra; cases rb
  exact sub_int (h _ [] _ (tok_kp s _) (.int _ _) fun _ _ h => nomatch h)
theorem bin_mul_int {a b : Int} (hm : IntMulOk a b) : Bin c n .Mult (.int a) (.int b) (.int (a * b)) := by
  intro A s E Q va vb as bs o W ra rb h
  cases ra; cases rb
  exact mul_int (h _ [] _ (tok_kp s _) (.int _ _) fun _ _ h => nomatch h) hm
theorem bin_fdiv_int {a b : Int} (hb : b ≠ 0) (hs : b.natAbs < 1073741824) : Bin c n .FloorDiv (.int a) (.int b) (.int (a.fdiv b)) := by
  intro A s E Q va vb as bs o W ra rb h
  cases ra; cases rb
  exact floordiv_int hb (h _ [] _ (tok_kp s _) (.int _ _) fun _ _ h => nomatch h) (.inl (PyProof.noPylong_small hs))
theorem bin_mod_int {a b : Int} (hb : b ≠ 0) : Bin c n .Mod (.int a) (.int b) (.int (a.fmod b)) := by
  intro A s E Q va vb as bs o W ra rb h
  cases ra; cases rb
  exact mod_int' hb (h _ [] _ (tok_kp s _) (.int _ _) fun _ _ h => nomatch h)
theorem bin_add_str {a b : PySem.Str} (hs : a.length + b.length ≤ sizeLine) : Bin c n .Add (.str a) (.str b) (.str (a ++ b)) := by
  intro A s E Q va vb as bs o W ra rb h
  cases ra; cases rb
  exact add_str (fun t k => h _ [] _ (tok_kp s _) (.str _ _) fun _ _ h => nomatch h) hs
theorem kp_push (s : Shared) (o : Obj) (t : Nat) : Kp s { s with heap := s.heap.push o, toks := t } := kp_of fun _ _ e => Heap.get?_push_of_some _ e
theorem new_none (h : Heap) : h.get? h.objs.size = none := Heap.get?_none_of_le (Nat.le_refl _)
theorem rd_new {h : Heap} {cls : String} {vs : List Value} {ds : List D} {as : List Addr} (r : RdAll h vs ds as) (hc : cls = "list") :
    Rd (h.push { cls := .type cls, data := .seq vs.toArray }) (.ref h.objs.size) (.list ds) (h.objs.size :: as) := by
  subst hc
  exact .list ⟨_, Heap.get?_push_size _ rfl⟩ (r.stays (.of fun _ _ e => Heap.get?_push_of_some _ e))
theorem rd_newT {h : Heap} {vs : List Value} {ds : List D} {as : List Addr} (r : RdAll h vs ds as) :
    Rd (h.push { cls := .type "tuple", data := .seq vs.toArray }) (.ref h.objs.size) (.tuple ds) as :=
  .tuple ⟨_, Heap.get?_push_size _ rfl, rfl, _, rfl⟩ (r.stays (.of fun _ _ e => Heap.get?_push_of_some _ e))
theorem bin_add_list {xs ys : List D} (fx : flats xs = true) (fy : flats ys = true) (hs : xs.length + ys.length ≤ sizeLine) : Bin c n .Add (.list xs) (.list ys) (.list (xs ++ ys)) := by
  intro A s E Q va vb as bs o W ra rb h
  cases ra with | list hl rl => cases rb with | list hb rb =>
  rename_i l vs _ b ws _
  obtain rfl := rl.flat fx
  obtain rfl := rb.flat fy
  obtain ⟨⟨cls, dd, data, sl⟩, ho, hc, m, hd⟩ := id hl.is
  obtain ⟨⟨cls2, dd2, data2, sl2⟩, ho2, hc2, m2, hd2⟩ := id hb.is
  simp only at hc hd hc2 hd2
  subst hc hd hc2 hd2
  have e : vs.toArray ++ ws.toArray = (vs ++ ws).toArray := by simp
  refine concat_meets ⟨_, ho, rfl⟩ ⟨_, ho2, rfl⟩ noFill_list_add seq_list_add PySem.F.slot_list_add PySem.F.entry_list_add (PySem.F.args_list_add_2 _ _)
    (list_addW l b vs.toArray ws.toArray m m2 dd dd2 sl sl2 (by rw [List.size_toArray, List.size_toArray, rl.length, rb.length]; exact hs)) ⟨ho, ho2, ?_⟩
  rw [e]
  refine h _ _ _ (kp_push s _ _) (rd_new (RdAll.append rl rb) rfl) fun _ a ha => ?_
  rw [List.mem_singleton.mp ha]; exact new_none _
theorem cmp_int_eq {a b : Int} : Cmp c n .Eq (.int a) (.int b) (a == b) := by
  intro A s E Q va vb as bs o W ra rb h
  cases ra; cases rb
  exact eq_int (h s (.rfl' s))
theorem cmp_int_ne {a b : Int} : Cmp c n .NotEq (.int a) (.int b) (a != b) := by
  intro A s E Q va vb as bs o W ra rb h
  cases ra; cases rb
  exact ne_int (h s (.rfl' s))
theorem cmp_int_lt {a b : Int} : Cmp c n .Lt (.int a) (.int b) (decide (a < b)) := by
  intro A s E Q va vb as bs o W ra rb h
  cases ra; cases rb
  exact lt_int (h s (.rfl' s))
theorem cmp_int_le {a b : Int} : Cmp c n .LtE (.int a) (.int b) (decide (a ≤ b)) := by
  intro A s E Q va vb as bs o W ra rb h
  cases ra; cases rb
  exact le_int (h s (.rfl' s))
theorem cmp_int_gt {a b : Int} : Cmp c n .Gt (.int a) (.int b) (decide (b < a)) := by
  intro A s E Q va vb as bs o W ra rb h
  cases ra; cases rb
  exact gt_int (h s (.rfl' s))
theorem cmp_int_ge {a b : Int} : Cmp c n .GtE (.int a) (.int b) (decide (b ≤ a)) := by
  intro A s E Q va vb as bs o W ra rb h
  cases ra; cases rb
  exact ge_int (h s (.rfl' s))
theorem cmp_str_eq {a b : PySem.Str} : Cmp c n .Eq (.str a) (.str b) (a == b) := by
  intro A s E Q va vb as bs o W ra rb h
  cases ra; cases rb
  exact eq_str (h s (.rfl' s))
theorem cmp_bool_eq {a b : Bool} : Cmp c n .Eq (.bool a) (.bool b) (a == b) := by
  intro A s E Q va vb as bs o W ra rb h
  cases ra; cases rb
  exact eq_bool (h s (.rfl' s))
/-- any two data -/
theorem cmp_eq {a b : D} (ha : a.data = true) (hb : b.data = true) (sa : SeqAt.shaped a.py = true) (sb : SeqAt.shaped b.py = true) : Cmp c n .Eq a b (a.py.eqv b.py) := by
  intro A s E Q va vb as bs o W ra rb h
  exact eq_dataH (ra.reads ha) (rb.reads hb) sa sb o.units (h s (.rfl' s))
theorem cmp_ne {a b : D} (ha : a.data = true) (hb : b.data = true) (sa : SeqAt.shaped a.py = true) (sb : SeqAt.shaped b.py = true) : Cmp c n .NotEq a b (!a.py.eqv b.py) := by
  intro A s E Q va vb as bs o W ra rb h
  exact ne_dataH (ra.reads ha) (rb.reads hb) sa sb o.units (h s (.rfl' s))
theorem cmp_in_str {a b : PySem.Str} : Cmp c n .In (.str a) (.str b) (!(Builtin.Str.occurrences b a 0 b.length 1).isEmpty) := by
  intro A s E Q va vb as bs o W ra rb h
  cases ra; cases rb
  exact in_str (h s (.rfl' s))
theorem tru_bool {b : Bool} : Tru c (.bool b) b := by
  intro n A s E Q v as o r h
  cases r
  exact wpAny_truthy_bool (h s (.rfl' s))
theorem tru_none : Tru c .none false := by
  intro n A s E Q v as o r h
  cases r
  exact truthy_none (h s (.rfl' s))
theorem tru_int {i : Int} : Tru c (.int i) (i != 0) := by
  intro n A s E Q v as o r h
  cases r
  exact truthy_int (h s (.rfl' s))
end
end Mine
end
section
open PySem PySem.W PyProof.Rows PySem.Calls
set_option linter.unusedSectionVars false
set_option linter.unusedVariables false
set_option maxRecDepth 100000
namespace Mine
variable [Bd]
section
variable {c : Cx} {n : Nat} {sc : Scope} {Γ : Ctx} {fr : Bool}
theorem Rd.list_inv {h : Heap} {v : Value} {xs : List D} {as : List Addr} (r : Rd h v (.list xs) as) : ∃ l vs bs, v = .ref l ∧ as = l :: bs ∧ PL h l vs.toArray ∧ RdAll h vs xs bs := by
  cases r with | list hl rl => exact ⟨_, _, _, rfl, rfl, hl, rl⟩
theorem Rd.tuple_inv {h : Heap} {v : Value} {xs : List D} {as : List Addr} (r : Rd h v (.tuple xs) as) : ∃ l vs, v = .ref l ∧ h.IsTuple l vs.toArray ∧ RdAll h vs xs as := by
  cases r with | tuple hl rl => exact ⟨_, _, rfl, hl, rl⟩
theorem RdAll.one {h : Heap} {vs : List Value} {d : D} {as : List Addr} (r : RdAll h vs [d] as) : ∃ v, vs = [v] ∧ Rd h v d as := by
  cases r with | cons h1 h2 => cases h2; exact ⟨_, rfl, by simpa using h1⟩
theorem RdAll.two {h : Heap} {vs : List Value} {d e : D} {as : List Addr} (r : RdAll h vs [d, e] as) : ∃ v u bs cs, vs = [v, u] ∧ as = bs ++ cs ∧ Rd h v d bs ∧ Rd h u e cs := by
  cases r with | cons h1 h2 => obtain ⟨u, rfl, h3⟩ := h2.one; exact ⟨_, _, _, _, rfl, rfl, h1, h3⟩
theorem tru_str {x : PySem.Str} (h : x.length < 2 ^ 62) : Tru c (.str x) (decide (x.length ≠ 0)) := by
  intro n A s E Q v as o r k
  cases r
  refine SBL.truthy (by omega) ?_
  have e : ((x.length : Int) != 0) = decide (x.length ≠ 0) := by
    by_cases q : x.length = 0
    · simp [q]
    · simp [q]
  rw [e]
  exact k _ (tok_kp s _)
theorem tru_list {xs : List D} (h : xs.length < 2 ^ 62) : Tru c (.list xs) (!xs.isEmpty) := by
  intro n A s E Q v as o r k
  obtain ⟨l, vs, bs, rfl, rfl, hl, rl⟩ := r.list_inv
  have e : (!vs.toArray.isEmpty) = !xs.isEmpty := by
    have := rl.length
    cases vs <;> cases xs <;> simp_all
  refine wpAny_truthy_list hl.is (by rw [List.size_toArray, rl.length]; omega) ?_
  rw [e]
  exact k _ (tok_kp s _)
/-- an item: what o[i] gives -/
noncomputable def Item (c : Cx) (n : Nat) (a b d : D) : Prop :=
  ∀ A s E (Q : Value → Shared → Prop) va vb as bs, OkA n A → Wd c A s.heap → Rd s.heap va a as → Rd s.heap vb b bs →
    Res s false d Q → ∃ T id, s.TypeIs va T ∧ typeLookup (.type T) "__getitem__" = pure (some (.builtin id)) ∧ wpAny (model c.prog c.w) A (getItem va vb) Q E s
theorem item_list {xs : List D} {i : Int} {d : D} (h0 : 0 ≤ i) (h1 : i < 2 ^ 62) (hx : xs[i.toNat]? = some d) : Item c n (.list xs) (.int i) d := by
  intro A s E Q va vb as bs o W ra rb h
  cases rb
  obtain ⟨l, vs, bs, rfl, rfl, hl, rl⟩ := ra.list_inv
  obtain ⟨v, cs, e, r, _⟩ := rl.get hx
  refine ⟨"list", _, hl.is.typeIs, slot_list_getitem.lookup, wpAny_getItem_list hl.is h0 (by omega) (by simpa using e) (h v cs s (.rfl' s) r fun q => nomatch q)⟩
theorem item_tuple {xs : List D} {i : Int} {d : D} (h0 : 0 ≤ i) (h1 : i < 2 ^ 62) (hx : xs[i.toNat]? = some d) : Item c n (.tuple xs) (.int i) d := by
  intro A s E Q va vb as bs o W ra rb h
  cases rb
  obtain ⟨l, vs, rfl, hl, rl⟩ := ra.tuple_inv
  obtain ⟨v, cs, e, r, _⟩ := rl.get hx
  obtain ⟨ob, h2, h3, h4⟩ := id hl
  have hlt : i.toNat < xs.length := (List.getElem?_eq_some_iff.mp hx).1
  have hz := rl.length
  refine ⟨"tuple", _, ⟨ob, h2, h3⟩, slot_tuple_getitem.lookup, PyProof.Rows.getItem_tuple (j := i.toNat) hl (by omega) (by omega) ?_ (by simpa using e) (h v cs s (.rfl' s) r fun q => nomatch q)⟩
  have hz' : i < (vs.length : Int) := by omega
  have hn : ¬ i < 0 := by omega
  simp only [seqIndex?, List.size_toArray, if_neg hn, decide_eq_true h0, decide_eq_true hz', Bool.and_self, if_true]
theorem item_str {x : PySem.Str} {i : Int} {q : Nat} (hi : -2 ^ 62 ≤ i) (h1 : i < 2 ^ 62) (hx : ((seqIndex? i x.length).bind fun j => x.cps[j]?) = some q) : Item c n (.str x) (.int i) (.str ⟨#[q]⟩) := by
  intro A s E Q va vb as bs o W ra rb h
  cases ra; cases rb
  refine ⟨"str", _, rfl, slot_str_getitem.lookup, getItem_str (by simp only [Bool.or_eq_false_iff, decide_eq_false_iff_not]; omega) hx (h _ [] _ (tok_kp s _) (.str _ _) fun q => nomatch q)⟩
theorem ev_sub {v i : PySem.Expr} {p : Pos} {a b d : D} (hv : Ev c n sc Γ false v a) (hi : Ev c n sc Γ false i b) (ht : Item c n a b d)
    (hs : ∀ o i', subscripted i false o i' = operate [o, i'] (getItem o i') := by intro _ _; rfl) : Ev c n sc Γ false (.Subscript v i p) d := by
  intro env A s E Q F o W V h
  refine Subscript_ (hv env A s E _ F o W V fun va as s₁ k₁ r₁ _ => hi env A s₁ E _ F o (W.stays k₁.st) (V.stays k₁.st) fun vb bs s₂ k₂ r₂ _ => ?_)
  have k := k₁.trans' k₂
  obtain ⟨T, id, h1, h2, h3⟩ := ht A s₂ E Q va vb as bs o (W.stays k.st) (r₁.stays k₂.st) r₂ (h.of k)
  exact tail_any h1 h2 h3 (hs _ _)
/-- a part of a cut: none or an int -/
noncomputable def PartD : Option PySem.Expr → Option Int → (Cx → Nat → Scope → Ctx → Prop)
  | none, none => fun _ _ _ _ => True
  | some e, some i => fun c n sc Γ => Ev c n sc Γ false e (.int i)
  | some e, none => fun c n sc Γ => Ev c n sc Γ false e .none
  | none, some _ => fun _ _ _ _ => False
noncomputable def ofPart : Option Int → D
  | none => .none
  | some i => .int i
theorem part_some {e : PySem.Expr} {i : Int} (h : Ev c n sc Γ false e (.int i)) : PartD (some e) (some i) c n sc Γ := h
theorem part_noneV {e : PySem.Expr} (h : Ev c n sc Γ false e .none) : PartD (some e) none c n sc Γ := h
theorem part_none : PartD none none c n sc Γ := trivial
theorem part_of {e : PySem.Expr} {o : Option Int} (h : Ev c n sc Γ false e (ofPart o)) : PartD (some e) o c n sc Γ := by cases o <;> exact h
theorem part_run {e : Option PySem.Expr} {i : Option Int} (h : PartD e i c n sc Γ) {env : Env} {A : Around} {s : Shared} {E : Value → Shared → Prop} {Q : Value → Shared → Prop} (F : Fm sc env) (o : OkA n A) (W : Wd c A s.heap) (V : Vars env s.heap Γ)
    (k : ∀ v s', IsPart v i → Kp s s' → Q v s') : wpAny (model c.prog c.w) A (evalPart e env) Q E s := by
  cases e with
  | none => cases i with
    | none => exact wpAny_evalPart_none (k _ s .none (.rfl' s))
    | some _ => exact h.elim
  | some e => cases i with
    | none => exact wpAny_evalPart_some (h env A s E Q F o W V fun v as s' q r _ => by cases r; exact k _ s' .none q)
    | some i => exact wpAny_evalPart_some (h env A s E Q F o W V fun v as s' q r _ => by cases r; exact k _ s' (.int _ _) q)
theorem isPart_opt {v : Value} {i : Option Int} (h : IsPart v i) : ∃ o : Option (Int × Tok), v = partValue o ∧ o.map (·.1) = i := by
  cases h with
  | none => exact ⟨none, rfl, rfl⟩
  | int i t => exact ⟨some (i, t), rfl, rfl⟩
/-- what a cut gives of a list of flat data, of a text -/
theorem ev_slice_list {v : PySem.Expr} {le ue : Option PySem.Expr} {lo hi : Option Int} {p q : Pos} {xs : List D} (hv : Ev c n sc Γ false v (.list xs)) (hl : PartD le lo c n sc Γ) (hu : PartD ue hi c n sc Γ) (fx : flats xs = true) (hz : xs.length ≤ sizeLine) :
    Ev c n sc Γ fr (.Subscript v (.Slice le ue none q) p) (.list (slc lo hi xs)) := by
  intro env A s E Q F o W V h
  refine Subscript_ (hv env A s E _ F o W V fun va as s₁ k₁ r₁ _ => ?_)
  refine wpAny_Slice (part_run hl F o (W.stays k₁.st) (V.stays k₁.st) fun vl s₂ pl k₂ => part_run hu F o (W.stays (k₁.trans' k₂).st) (V.stays (k₁.trans' k₂).st) fun vu s₃ pu k₃ => wpAny_evalPart_none ?_)
  have k13 := (k₁.trans' k₂).trans' k₃
  obtain ⟨l, vs, bs, rfl, rfl, hL, rL⟩ := r₁.list_inv
  obtain rfl := rL.flat fx
  have kp := kp_push s₃ { cls := .type "slice", data := .fields #[vl, vu, Value.none] } s₃.toks
  have st := ((k₂.trans' k₃).trans' kp).st
  have hL' : (s₃.heap.push { cls := .type "slice", data := .fields #[vl, vu, Value.none] }).IsList l vs.toArray := isList_stays hL.is st
  refine tail_any (T := "list") (id := "list.__getitem__") (s := { s₃ with heap := s₃.heap.push { cls := .type "slice", data := .fields #[vl, vu, Value.none] } }) hL'.typeIs slot_list_getitem.lookup ?_ rfl
  refine wpAny_getItem_list_slice (s := { s₃ with heap := s₃.heap.push { cls := .type "slice", data := .fields #[vl, vu, Value.none] } }) hL' ⟨_, Heap.get?_push_size _ rfl, rfl, rfl⟩ pl pu .none (by simp) ?_ (by rw [List.size_toArray, rL.length]; exact hz)
  have e : slicePick vs.toArray lo hi none = (slc lo hi vs).toArray := by
    unfold slicePick
    rw [← slice_eq]; simp
  rw [e]
  have rL' : RdAll (s₃.heap.push { cls := .type "slice", data := .fields #[vl, vu, Value.none] }) (slc lo hi vs) (slc lo hi xs) [] := by
    rw [← slice_eq, ← slice_eq, rL.length]
    exact (rL.stays st).pick _
  exact h _ _ _ ((k13.trans' kp).trans' (kp_push _ _ _)) (rd_new rL' rfl) fun _ a ha => by
    rw [List.mem_singleton.mp ha]
    cases q : s.heap.get? (s₃.heap.push { cls := .type "slice", data := .fields #[vl, vu, Value.none] }).objs.size with
    | none => rfl
    | some ob => exact absurd (Heap.lt_size ((k13.trans' kp).st.has q).choose_spec) (Nat.lt_irrefl _)
noncomputable def slcT (lo hi : Option Int) (x : PySem.Str) : PySem.Str := sOf (slc lo hi (cps x))
theorem slc_length_eq {α : Type} {lo hi : Option Int} {l : List α} (h : (slc lo hi l).length = l.length) : slc lo hi l = l := by
  unfold slc at h ⊢
  rw [List.length_take, List.length_drop] at h
  have h1 := clp_le lo 0 l.length (Nat.zero_le _)
  have h2 := clp_le hi l.length l.length (Nat.le_refl _)
  generalize clp lo 0 l.length = a at *
  generalize clp hi l.length l.length = b at *
  by_cases q : l.length = 0
  · have : l = [] := List.length_eq_zero_iff.mp q
    subst this; simp
  · have ha : a = 0 := by omega
    subst ha
    rw [List.drop_zero, List.take_of_length_le (by omega)]
theorem ev_slice_str {v : PySem.Expr} {le ue : Option PySem.Expr} {lo hi : Option Int} {p q : Pos} {x : PySem.Str} (hv : Ev c n sc Γ false v (.str x)) (hl : PartD le lo c n sc Γ) (hu : PartD ue hi c n sc Γ) (hz : x.length ≤ sizeLine) :
    Ev c n sc Γ fr (.Subscript v (.Slice le ue none q) p) (.str (slcT lo hi x)) := by
  intro env A s E Q F o W V h
  refine Subscript_ (hv env A s E _ F o W V fun va as s₁ k₁ r₁ _ => ?_)
  refine wpAny_Slice (part_run hl F o (W.stays k₁.st) (V.stays k₁.st) fun vl s₂ pl k₂ => part_run hu F o (W.stays (k₁.trans' k₂).st) (V.stays (k₁.trans' k₂).st) fun vu s₃ pu k₃ => wpAny_evalPart_none ?_)
  have k13 := (k₁.trans' k₂).trans' k₃
  cases r₁
  rename_i t
  obtain ⟨ol, rfl, el⟩ := isPart_opt pl
  obtain ⟨ou, rfl, eu⟩ := isPart_opt pu
  have kp := kp_push s₃ { cls := .type "slice", data := .fields #[partValue ol, partValue ou, Value.none] } s₃.toks
  refine tail_any (T := "str") (id := "str.__getitem__") rfl slot_str_getitem.lookup ?_ rfl
  refine wpAny_getItem_str_slice (s := { s₃ with heap := s₃.heap.push { cls := .type "slice", data := .fields #[partValue ol, partValue ou, Value.none] } }) (l := ol) (u := ou) (st := none) ⟨_, Heap.get?_push_size _ rfl, rfl, rfl⟩ (by decide) ?_
  have ep : slicePicked x ol ou none = sliceRange (sliceBounds lo hi none (cps x).length).1 (sliceBounds lo hi none (cps x).length).2.1 (sliceBounds lo hi none (cps x).length).2.2 := by
    unfold slicePicked
    rw [el, eu, len_cps]
    rfl
  have e1 : (slicePicked x ol ou none).filterMap (fun i => x.cps[i]?) = slc lo hi (cps x) := by
    rw [ep, ← slice_eq]
    refine congrArg (fun f => List.filterMap f _) (funext fun i => ?_)
    unfold cps; simp
  have kk : Kp s { s₃ with heap := s₃.heap.push { cls := .type "slice", data := .fields #[partValue ol, partValue ou, Value.none] } } := k13.trans' kp
  unfold sliceMade
  split
  · rename_i hq
    simp only [Bool.and_eq_true, beq_iff_eq] at hq
    have hlen : (slc lo hi (cps x)).length = (cps x).length := by
      have h2 : (slicePicked x ol ou none).length = x.length := hq.2
      rw [len_cps, ep] at h2
      have h3 := congrArg List.length (slice_eq lo hi (cps x))
      have h4 : (slc lo hi (cps x)).length ≤ (cps x).length := by unfold slc; rw [List.length_take, List.length_drop]; omega
      have h5 : ∀ is : List Nat, (∀ i ∈ is, i < (cps x).length) → (is.filterMap fun i => (cps x)[i]?).length = is.length := by
        intro is his
        induction is with
        | nil => rfl
        | cons i r ih =>
          rw [List.filterMap_cons_some (List.getElem?_eq_getElem (his i (.head _))), List.length_cons, ih fun j hj => his j (.tail _ hj), List.length_cons]
      rw [← h3, h5 _ ?_, h2]
      intro i hi'
      rw [bounds_eq] at hi'
      dsimp only at hi'
      unfold sliceRange at hi'
      have hcl := clp_le hi (cps x).length (cps x).length (Nat.le_refl _)
      have h1 : (1 : Int) > 0 := by decide
      simp only [if_pos h1] at hi'
      obtain ⟨k, hk, rfl⟩ := List.mem_map.mp hi'
      have hk' := List.mem_range.mp hk
      split at hk' <;> omega
    have e2 : slcT lo hi x = x := by unfold slcT; rw [slc_length_eq hlen, sOf_cps]
    show Q _ _
    refine h _ [] _ kk ?_ fun _ a ha => nomatch ha
    rw [e2]; exact .str _ _
  · refine ⟨?_, ?_⟩
    · show (PySem.Str.mk _).length ≤ sizeLine
      rw [e1]
      have : (slc lo hi (cps x)).length ≤ (cps x).length := by unfold slc; rw [List.length_take, List.length_drop]; omega
      rw [len_cps] at hz
      show (slc lo hi (cps x)).toArray.size ≤ sizeLine
      rw [List.size_toArray]; omega
    · rw [e1]
      exact h _ [] _ (kk.trans' (tok_kp _ _)) (.str _ _) fun _ a ha => nomatch ha
theorem evs_nil : Evs c n sc Γ fr [] [] := fun env A s E pos Q _ _ _ _ h => wpAny_items_nil (h [] [] s (.rfl' s) .nil fun _ _ h => nomatch h)
theorem evs_cons {e : PySem.Expr} {es : List PySem.Expr} {d : D} {ds : List D} (h1 : Ev c n sc Γ fr e d) (h2 : Evs c n sc Γ fr es ds) (hs : ∀ env, starEach (e :: es) env = (false, eval e env) :: starEach es env := by intro _; rfl) : Evs c n sc Γ fr (e :: es) (d :: ds) := by
  intro env A s E pos Q F o W V h
  refine wpAny_items_cons (h1 env A s E _ F o W V fun v as s₁ k₁ r₁ f₁ => h2 env A s₁ E pos _ F o (W.stays k₁.st) (V.stays k₁.st) fun vs bs s₂ k₂ r₂ f₂ => ?_) (hs env)
  refine h (v :: vs) (as ++ bs) s₂ (k₁.trans' k₂) (.cons (r₁.stays k₂.st) r₂) fun e a ha => ?_
  rcases List.mem_append.mp ha with ha | ha
  · exact f₁ e a ha
  · have := f₂ e a ha
    exact k₁.st.none this
theorem ev_list {es : List PySem.Expr} {ds : List D} {p : Pos} (h : Evs c n sc Γ fr es ds) (hz : ds.length ≤ sizeLine) : Ev c n sc Γ fr (.List es p) (.list ds) := by
  intro env A s E Q F o W V k
  refine List_ (h env A s E p _ F o W V fun vs as s₁ k₁ r₁ f₁ => wpAny_newList (k _ _ _ (k₁.trans' (kp_push _ _ _)) (rd_new r₁ rfl) fun e a ha => ?_) (by rw [r₁.length]; exact hz))
  rcases List.mem_cons.mp ha with rfl | ha
  · cases q : s.heap.get? s₁.heap.objs.size with
    | none => rfl
    | some ob => exact absurd (Heap.lt_size (k₁.st.has q).choose_spec) (Nat.lt_irrefl _)
  · exact f₁ e a ha
theorem ev_tuple {es : List PySem.Expr} {ds : List D} {m : Nat} {p : Pos} (h : Evs c n sc Γ fr es ds) (hz : ds.length ≤ sizeLine) : Ev c n sc Γ fr (.Tuple es m p) (.tuple ds) := by
  intro env A s E Q F o W V k
  exact Tuple_ (h env A s E p _ F o W V fun vs as s₁ k₁ r₁ f₁ => wpAny_newTuple (k _ _ _ (k₁.trans' (kp_push _ _ _)) (rd_newT r₁) f₁) (by rw [r₁.length]; exact hz))
/-- a name of the top, or a builtin -/
noncomputable def GV (c : Cx) (x : PySem.Str) (v : Value) : Prop := ∀ h, Wd0 c h → c.mg x = some v ∨ (c.mg x = none ∧ c.mb x = some v)
theorem gv_K {x : PySem.Str} {v : Value} (e : nsIn c.K mainGlobals x = some (some v)) : GV c x v := fun _ W => .inl (mg_of W.K W.g e)
theorem gv_B {x : PySem.Str} {v : Value} (e : nsIn c.K mainGlobals x = some none) (hv : bootBuiltins x = some v) (hn : x ≠ "__name__" := by decide +kernel) : GV c x v := fun _ W => .inr ⟨mg_none_of W.K W.g e, (W.bi x hn).trans hv⟩
theorem name_gv0 {x : PySem.Str} {v : Value} {p : Pos} {env : Env} {A : Around} {s : Shared} {E : Value → Shared → Prop} {Q : Value → Shared → Prop} (g : GV c x v) (F : Fm sc env) (W : Wd0 c s.heap) (hk : sc.names.lookup x = some .globalImplicit) (hd : (x == ("__debug__" : PySem.Str)) = false)
    (h : Q v s) : wpAny (model c.prog c.w) A (eval (.Name x p) env) Q E s := by
  have hk' : env.kindOf x = some .globalImplicit := by unfold Env.kindOf; rw [F.names]; exact hk
  rcases g _ W with e | ⟨e, e'⟩
  · exact Calls.Name_function_global F.kind hk' (Calls.loadGlobal_global (by rw [F.glob]; exact W.g) e h) hd
  · exact Calls.Name_function_global F.kind hk' (Calls.loadGlobal_builtin (by rw [F.glob]; exact W.g) e (by rw [F.bi]; exact W.b) e' h) hd
theorem name_gv {x : PySem.Str} {v : Value} {p : Pos} {env : Env} {A : Around} {s : Shared} {E : Value → Shared → Prop} {Q : Value → Shared → Prop} (g : GV c x v) (F : Fm sc env) (W : Wd c A s.heap) (hk : sc.names.lookup x = some .globalImplicit) (hd : (x == ("__debug__" : PySem.Str)) = false)
    (h : Q v s) : wpAny (model c.prog c.w) A (eval (.Name x p) env) Q E s := name_gv0 g F W.toWd0 hk hd h
theorem ev_glob {x : PySem.Str} {v : Value} {p : Pos} {d : D} (g : GV c x v) (r : ∀ h, Rd h v d []) (hk : sc.names.lookup x = some .globalImplicit := by decide +kernel) (hd : (x == ("__debug__" : PySem.Str)) = false := by decide +kernel) : Ev c n sc Γ fr (.Name x p) d :=
  fun env A s E Q F o W V h => name_gv g F W hk hd (h v [] s (.rfl' s) (r _) fun _ a ha => nomatch ha)
theorem any_false_backTo {env : Env} {pos : Pos} : ∀ {es : List PySem.Expr}, (starEach es env).any (·.1) = false → (backTo pos (starEach es env)).any (·.1) = false := by
  intro es h
  unfold backTo
  rw [List.any_map]
  exact h
/-- a call of a value that a name of the top bears: a def of the text -/
theorem ev_call_def {x : PySem.Str} {f : Addr} {ob : Obj} {fd : FuncData} {e : PySem.Expr} {es : List PySem.Expr} {np p : Pos} {ds : List D} {d : D} (g : GV c x (.ref f)) (ho : c.K.lookup f = some ob) (hf : ob.data = .func fd)
    (ha : Evs c n sc Γ false (e :: es) ds) (hc : CallV c n (.ref f) ds d) (hk : sc.names.lookup x = some .globalImplicit := by decide +kernel) (hd : (x == ("__debug__" : PySem.Str)) = false := by decide +kernel)
    (hs : ∀ env, starEach (e :: es) env = (false, eval e env) :: starEach es env := by intro _; rfl) : Ev c n sc Γ fr (.Call (.Name x np) (e :: es) [] p) d := by
  intro env A s E Q F o W V h
  refine wpAny_Call_NameR (name_gv g F W hk hd (callWith_function (o := ob) (fd := fd) ?_))
  have := ha env A s E p (fun vs s' => (s'.heap.get? f = some ob ∧ ob.data = .func fd) ∧ wpAny (model c.prog c.w) A (call (.ref f) ([] ++ vs) []) Q E s') F o W V fun vs as s₁ k₁ r₁ _ =>
    ⟨⟨(W.stays k₁.st).K _ _ ho, hf⟩, hc A s₁ E Q vs as o (W.stays k₁.st) r₁ (h.of k₁).weak⟩
  rw [hs env] at this ⊢
  exact evalArgs_plain this
theorem ev_call_builtin {x : PySem.Str} {id : String} {e : PySem.Expr} {es : List PySem.Expr} {np p : Pos} {ds : List D} {d : D} (g : GV c x (.builtin id))
    (ha : Evs c n sc Γ false (e :: es) ds) (hc : CallV c n (.builtin id) ds d) (hk : sc.names.lookup x = some .globalImplicit := by decide +kernel) (hd : (x == ("__debug__" : PySem.Str)) = false := by decide +kernel)
    (hs : ∀ env, starEach (e :: es) env = (false, eval e env) :: starEach es env := by intro _; rfl) (hp : ∀ env, (starEach (e :: es) env).any (·.1) = false := by intro _; rfl) : Ev c n sc Γ fr (.Call (.Name x np) (e :: es) [] p) d := by
  intro env A s E Q F o W V h
  refine wpAny_Call_NameR (name_gv g F W hk hd (Calls.callWith_builtin (any_false_backTo (hp env)) ?_))
  have := ha env A s E p (fun vs s' => wpAny (model c.prog c.w) A (call (.builtin id) ([] ++ vs) []) Q E s') F o W V fun vs as s₁ k₁ r₁ _ => hc A s₁ E Q vs as o (W.stays k₁.st) r₁ (h.of k₁).weak
  rw [hs env] at this ⊢
  exact evalArgs_plain this
theorem ev_call_type {x : PySem.Str} {T : String} {e : PySem.Expr} {es : List PySem.Expr} {np p : Pos} {ds : List D} {d : D} (g : GV c x (.type T))
    (ha : Evs c n sc Γ false (e :: es) ds) (hc : CallV c n (.type T) ds d) (hk : sc.names.lookup x = some .globalImplicit := by decide +kernel) (hd : (x == ("__debug__" : PySem.Str)) = false := by decide +kernel)
    (hs : ∀ env, starEach (e :: es) env = (false, eval e env) :: starEach es env := by intro _; rfl) (hp : ∀ env, (starEach (e :: es) env).any (·.1) = false := by intro _; rfl) : Ev c n sc Γ fr (.Call (.Name x np) (e :: es) [] p) d := by
  intro env A s E Q F o W V h
  refine wpAny_Call_NameR (name_gv g F W hk hd (PySem.callWith_type (any_false_backTo (hp env)) ?_))
  have := ha env A s E p (fun vs s' => wpAny (model c.prog c.w) A (call (.type T) ([] ++ vs) []) Q E s') F o W V fun vs as s₁ k₁ r₁ _ => hc A s₁ E Q vs as o (W.stays k₁.st) r₁ (h.of k₁).weak
  rw [hs env] at this ⊢
  exact evalArgs_plain this
/-- isinstance(e, T) -/
noncomputable def Isi (c : Cx) (d : D) (T : String) (b : Bool) : Prop := ∀ A s E (Q : Value → Shared → Prop) v as, Rd s.heap v d as → (∀ s', Kp s s' → Q (.bool b) s') → wpAny (model c.prog c.w) A (call (.builtin "isinstance") [v, .type T]) Q E s
theorem ev_isi {T : String} {y : PySem.Str} {e : PySem.Expr} {np mp p : Pos} {d : D} {b : Bool} (g : GV c "isinstance" (.builtin "isinstance")) (gT : GV c y (.type T))
    (he : Ev c n sc Γ false e d) (hb : Isi c d T b) (hk : sc.names.lookup ("isinstance" : PySem.Str) = some .globalImplicit := by decide +kernel) (hkT : sc.names.lookup y = some .globalImplicit := by decide +kernel) (hd : (y == ("__debug__" : PySem.Str)) = false := by decide +kernel)
    (hs : ∀ env, starEach [e, .Name y mp] env = [(false, eval e env), (false, eval (.Name y mp) env)] := by intro _; rfl) :
    Ev c n sc Γ fr (.Call (.Name "isinstance" np) [e, .Name y mp] [] p) (.bool b) := by
  intro env A s E Q F o W V h
  refine wpAny_Call_NameR (name_gv g F W hk (by decide +kernel) (Calls.callWith_builtin (any_false_backTo (by rw [hs env]; rfl)) ?_))
  have : wpAny (model c.prog c.w) A (spliced (backTo p (starEach [e, .Name y mp] env))) (fun vs s' => wpAny (model c.prog c.w) A (call (.builtin "isinstance") ([] ++ vs) []) Q E s') E s := by
    rw [hs env]
    refine Calls.spliced_cons (he env A s E _ F o W V fun v as s₁ k₁ r₁ _ => Calls.spliced_cons (name_gv gT F (W.stays k₁.st) hkT hd (Calls.spliced_nil ?_)))
    exact hb A s₁ E Q v as r₁ fun s' k' => h _ [] s' (k₁.trans' k') (.bool b) fun _ a ha => nomatch ha
  rw [hs env] at this ⊢
  exact evalArgs_plain this
theorem isi_int_int {i : Int} : Isi c (.int i) "int" true := fun A s E Q v as r h => by cases r; exact IsiPair.int_int (h s (.rfl' s))
theorem isi_int_bool {i : Int} : Isi c (.int i) "bool" false := fun A s E Q v as r h => by cases r; exact IsiPair.int_bool (h _ (tok_kp s _))
theorem isi_bool_bool {b : Bool} : Isi c (.bool b) "bool" true := fun A s E Q v as r h => by cases r; exact IsiPair.bool_bool (h s (.rfl' s))
theorem isi_none_bool : Isi c .none "bool" false := fun A s E Q v as r h => by cases r; exact IsiPair.NoneType_bool (h _ (tok_kp s _))
theorem call_len_str {x : PySem.Str} (h : x.length < 2 ^ 62) : CallV c n (.builtin "len") [.str x] (.int x.length) := by
  intro A s E Q vs as o W r k
  obtain ⟨v, rfl, h1⟩ := r.one
  cases h1
  exact SBL.len (by omega) (k _ [] _ (tok_kp s _) (.int _ _) fun _ a ha => nomatch ha)
theorem call_len_list' {xs : List D} (h : xs.length < 2 ^ 62) : CallV c n (.builtin "len") [.list xs] (.int xs.length) := by
  intro A s E Q vs as o W r k
  obtain ⟨v, rfl, h1⟩ := r.one
  obtain ⟨l, ws, bs, rfl, rfl, hl, rl⟩ := h1.list_inv
  refine Calls.call_len_list hl.is (by rw [List.size_toArray, rl.length]; omega) ?_
  rw [List.size_toArray, rl.length]
  exact k _ [] _ (tok_kp s _) (.int _ _) fun _ a ha => nomatch ha
theorem call_min2 {a b : Int} : CallV c n (.builtin "min") [.int a, .int b] (.int (if b < a then b else a)) := by
  intro A s E Q vs as o W r k
  obtain ⟨v, u, bs, cs, rfl, rfl, h1, h2⟩ := r.two
  cases h1; cases h2
  refine min_two_ints o.h fun h' tk hk => ?_
  by_cases q : b < a
  · rw [if_pos q]; exact k _ [] _ (kp_of hk) (by rw [if_pos q]; exact .int _ _) fun _ a ha => nomatch ha
  · rw [if_neg q]; exact k _ [] _ (kp_of hk) (by rw [if_neg q]; exact .int _ _) fun _ a ha => nomatch ha
end
end Mine
end
section
open PySem PySem.W PyProof.Rows PySem.Calls
set_option linter.unusedSectionVars false
set_option linter.unusedVariables false
set_option maxRecDepth 100000
namespace Mine
variable [Bd]
theorem none_up {h h' : Heap} (k : Stays h h') {a : Addr} (e : h'.get? a = none) : h.get? a = none := k.none e
theorem Ns_unique {h : Heap} {a : Addr} {m m' : PySem.Str → Option Value} (x : h.Ns a m) (y : h.Ns a m') : m = m' := by
  obtain ⟨o, es, ep, h1, h2, _, h3⟩ := x
  obtain ⟨o', es', ep', h1', h2', _, h3'⟩ := y
  rw [h1] at h1'; cases h1'
  rw [h2] at h2'; cases h2'
  funext z
  rw [← h3, ← h3']
/-- what the names of a frame hold; each name's lists are its own; P: the parameters -/
structure VarsF (s0 : Shared) (env : Env) (P : PySem.Str → Bool) (Γ : Ctx) (h : Heap) (f : PySem.Str → List Addr) : Prop where
  val : ∀ x d, Γ x = some d → ∃ v, At env h x v ∧ Rd h v d (f x)
  apart : ∀ x y a, x ≠ y → P x = false → Γ x ≠ none → Γ y ≠ none → a ∈ f x → a ∉ f y
  own : ∀ x a, P x = false → Γ x ≠ none → a ∈ f x → s0.heap.get? a = none
structure Fs (s0 : Shared) (env : Env) (P : PySem.Str → Bool) (Γ : Ctx) (s : Shared) : Prop where
  kp : Kp s0 s
  ns : ∃ m, s.heap.Ns env.locals m
  lnew : s0.heap.get? env.locals = none
  cell : ∀ y q, env.cells.lookup y = some q → (∃ v, s.heap.IsCell q v) ∧ s0.heap.get? q = none
  has : ∀ y, env.kindOf y = some .cell → ∃ q, env.cells.lookup y = some q
  apart : ∀ y z q, env.cells.lookup y = some q → env.cells.lookup z = some q → y = z
  vars : ∃ f, VarsF s0 env P Γ s.heap f
theorem Fs.toVars {s0 : Shared} {env : Env} {P : PySem.Str → Bool} {Γ : Ctx} {s : Shared} (F : Fs s0 env P Γ s) : Vars env s.heap Γ := fun x d e =>
  let ⟨f, V⟩ := F.vars
  let ⟨v, a, r⟩ := V.val x d e
  ⟨v, f x, a, r⟩
theorem VarsF.stays {s0 : Shared} {env : Env} {P : PySem.Str → Bool} {Γ : Ctx} {h h' : Heap} {f : PySem.Str → List Addr} (V : VarsF s0 env P Γ h f) (k : Stays h h') : VarsF s0 env P Γ h' f :=
  ⟨fun x d e => let ⟨v, a, r⟩ := V.val x d e; ⟨v, a.stays k, r.stays k⟩, V.apart, V.own⟩
theorem Fs.grow {s0 : Shared} {env : Env} {P : PySem.Str → Bool} {Γ : Ctx} {s s' : Shared} (F : Fs s0 env P Γ s) (k : Kp s s') : Fs s0 env P Γ s' :=
  ⟨F.kp.trans' k, let ⟨m, h⟩ := F.ns; ⟨m, ns_stays h k.st⟩, F.lnew, fun y q e => let ⟨⟨v, h⟩, h'⟩ := F.cell y q e; ⟨⟨v, cell_stays h k.st⟩, h'⟩, F.has, F.apart, let ⟨f, V⟩ := F.vars; ⟨f, V.stays k.st⟩⟩
theorem Fs.sub {s0 : Shared} {env : Env} {P : PySem.Str → Bool} {Γ Γ' : Ctx} {s : Shared} (F : Fs s0 env P Γ s) (h : ∀ x d, Γ' x = some d → Γ x = some d) : Fs s0 env P Γ' s := by
  have hn : ∀ x, Γ' x ≠ none → Γ x ≠ none := fun x e => by
    cases q : Γ' x with
    | none => exact absurd q e
    | some d => rw [h x d q]; exact fun z => nomatch z
  obtain ⟨f, V⟩ := F.vars
  exact ⟨F.kp, F.ns, F.lnew, F.cell, F.has, F.apart, f, fun x d e => V.val x d (h x d e), fun x y a e1 e0 e2 e3 => V.apart x y a e1 e0 (hn x e2) (hn y e3), fun x a e1 e2 => V.own x a e1 (hn x e2)⟩
theorem Fs.wd {c : Cx} {s0 : Shared} {env : Env} {P : PySem.Str → Bool} {Γ : Ctx} {s : Shared} (F : Fs s0 env P Γ s) (W : Wf c A env s0.heap) : Wd c A s.heap := let ⟨_, hm⟩ := F.ns; W.wd F.kp.st F.lnew hm
theorem stays_sameBut {h0 h h' : Heap} {L : Addr} (k : Stays h0 h) (hs : Heap.SameBut L h h') (hn : h0.get? L = none) : Stays h0 h' := fun b o e => by
  have hb : b ≠ L := fun q => by rw [q, hn] at e; cases e
  rw [hs.2 b hb]
  exact k b o e
theorem cell_ne_ns {h : Heap} {L q : Addr} {m : PySem.Str → Option Value} {v : Option Value} (n : h.Ns L m) (x : h.IsCell q v) : q ≠ L := by
  rintro rfl
  obtain ⟨o, es, ep, h1, h2, _⟩ := n
  obtain ⟨o', h3, h4⟩ := x
  rw [h1] at h3; cases h3
  rw [h2] at h4; cases h4
section
variable {c : Cx} {s0 s1 s2 : Shared} {env : Env} {P : PySem.Str → Bool} {Γ : Ctx} {A : Around} {E : Value → Shared → Prop}
/-- a store into a name -/
theorem store_core0 {x : PySem.Str} {v : Value} {d : D} {as : List Addr} {f : PySem.Str → List Addr} {Q : Unit → Shared → Prop} (F2 : Fs s0 env P Γ s2) (V2 : VarsF s0 env P Γ s2.heap f) (r : Rd s2.heap v d as)
    (ap : ∀ y z a, y ≠ z → P y = false → upd Γ x d y ≠ none → upd Γ x d z ≠ none → a ∈ (if y = x then as else f y) → a ∉ (if z = x then as else f z))
    (ow : ∀ y a, P y = false → upd Γ x d y ≠ none → a ∈ (if y = x then as else f y) → s0.heap.get? a = none)
    (hkind : env.scope.kind = .function) (hx : env.kindOf x = some .local ∨ env.kindOf x = some .cell) (h : ∀ s3, Fs s0 env P (upd Γ x d) s3 → (∀ S, Carry S s2.heap s3.heap) → Q () s3) : wpAny (model c.prog c.w) A (storeName env x v) Q E s2 := by
  obtain ⟨m, hm⟩ := F2.ns
  obtain ⟨h2, t2, e2, _⟩ := F2.kp
  rcases hx with hx | hx
  · refine wpAny_storeName_local hx hm (fun h' hn' hs' => ?_) (by rw [hkind]; rfl)
    have off : Stays s0.heap h' := stays_sameBut F2.kp.st hs' F2.lnew
    have ca : ∀ S, Carry S s2.heap h' := fun S => by
      obtain ⟨o, es, ep, ho, hd, _⟩ := hm
      exact Carry.off ho ⟨fun _ _ q => (by rw [hd] at q; cases q), fun _ q => (by rw [hd] at q; cases q), fun _ q => (by rw [hd] at q; cases q)⟩ hs'
    refine h _ ?_ ca
    refine ⟨⟨h', s2.toks + 1, by rw [e2], off⟩, ⟨_, hn'⟩, F2.lnew, fun y q e => ?_, F2.has, F2.apart, fun y => if y = x then as else f y, ⟨fun y d' e => ?_, ap, ow⟩⟩
    · obtain ⟨⟨w, hw⟩, hq⟩ := F2.cell y q e
      exact ⟨⟨w, hw.sameBut hs' (cell_ne_ns hm hw)⟩, hq⟩
    · by_cases hy : y = x
      · subst hy
        rw [upd_same] at e
        cases e
        refine ⟨v, .inl ⟨hx, _, hn', by simp⟩, ?_⟩
        rw [if_pos rfl]
        exact r.carry (ca as) fun _ h => h
      · rw [upd_other hy rfl] at e
        obtain ⟨w, ha, hr⟩ := V2.val y d' e
        refine ⟨w, ?_, ?_⟩
        · rcases ha with ⟨p, m', q, e'⟩ | ⟨q, p, b, e'⟩
          · refine .inl ⟨p, _, hn', ?_⟩
            rw [if_neg hy, ← Ns_unique q hm]
            exact e'
          · exact .inr ⟨q, p, b, e'.sameBut hs' (cell_ne_ns hm e')⟩
        · rw [if_neg hy]
          exact hr.carry (ca (f y)) fun _ h => h
  · obtain ⟨q, hq⟩ := F2.has x hx
    obtain ⟨⟨w, hw⟩, hq0⟩ := F2.cell x q hq
    refine wpAny_storeName_cell hkind hx hq hw fun h' hc' hs' => ?_
    have off : Stays s0.heap h' := stays_sameBut F2.kp.st hs' hq0
    have ca : ∀ S, Carry S s2.heap h' := fun S => by
      obtain ⟨o, ho, hd⟩ := hw
      exact Carry.off ho ⟨fun _ _ q => (by rw [hd] at q; cases q), fun _ q => (by rw [hd] at q; cases q), fun _ q => (by rw [hd] at q; cases q)⟩ hs'
    have hqL := cell_ne_ns hm hw
    refine h _ ?_ ca
    refine ⟨⟨h', s2.toks, by rw [e2], off⟩, ⟨_, hm.sameBut hs' (Ne.symm hqL)⟩, F2.lnew, fun y z e => ?_, F2.has, F2.apart, fun y => if y = x then as else f y, ⟨fun y d' e => ?_, ap, ow⟩⟩
    · obtain ⟨⟨u, hu⟩, hz⟩ := F2.cell y z e
      by_cases hzq : z = q
      · subst hzq; exact ⟨⟨_, hc'⟩, hz⟩
      · exact ⟨⟨u, hu.sameBut hs' hzq⟩, hz⟩
    · by_cases hy : y = x
      · subst hy
        rw [upd_same] at e
        cases e
        refine ⟨v, .inr ⟨q, .inl hx, hq, hc'⟩, ?_⟩
        rw [if_pos rfl]
        exact r.carry (ca as) fun _ h => h
      · rw [upd_other hy rfl] at e
        obtain ⟨u, ha, hr⟩ := V2.val y d' e
        refine ⟨u, ?_, ?_⟩
        · rcases ha with ⟨p, m', z, e'⟩ | ⟨z, p, b, e'⟩
          · exact .inl ⟨p, m', z.sameBut hs' (Ne.symm hqL), e'⟩
          · refine .inr ⟨z, p, b, e'.sameBut hs' fun hzq => ?_⟩
            subst hzq
            exact hy (F2.apart _ _ _ b hq)
        · rw [if_neg hy]
          exact hr.carry (ca (f y)) fun _ h => h
/-- a store into a name: its lists are no other name's -/
theorem store_core {x : PySem.Str} {v : Value} {d : D} {as : List Addr} {f : PySem.Str → List Addr} {Q : Unit → Shared → Prop} (F2 : Fs s0 env P Γ s2) (V2 : VarsF s0 env P Γ s2.heap f) (r : Rd s2.heap v d as) (hn : ∀ a ∈ as, s0.heap.get? a = none) (hd : ∀ y, y ≠ x → Γ y ≠ none → ∀ a ∈ as, a ∉ f y)
    (hkind : env.scope.kind = .function) (hx : env.kindOf x = some .local ∨ env.kindOf x = some .cell) (h : ∀ s3, Fs s0 env P (upd Γ x d) s3 → Q () s3) : wpAny (model c.prog c.w) A (storeName env x v) Q E s2 := by
  have ap : ∀ y z a, y ≠ z → P y = false → upd Γ x d y ≠ none → upd Γ x d z ≠ none → a ∈ (if y = x then as else f y) → a ∉ (if z = x then as else f z) := by
    intro y z a hyz h0 h1 h2 ha hb
    by_cases hy : y = x
    · rw [if_pos hy] at ha
      have hz : z ≠ x := fun e => hyz (hy.trans e.symm)
      rw [if_neg hz] at hb
      rw [upd_other hz rfl] at h2
      exact hd z hz h2 a ha hb
    · rw [if_neg hy] at ha
      rw [upd_other hy rfl] at h1
      by_cases hz : z = x
      · rw [if_pos hz] at hb
        exact hd y hy h1 a hb ha
      · rw [if_neg hz] at hb
        rw [upd_other hz rfl] at h2
        exact V2.apart y z a hyz h0 h1 h2 ha hb
  have ow : ∀ y a, P y = false → upd Γ x d y ≠ none → a ∈ (if y = x then as else f y) → s0.heap.get? a = none := by
    intro y a h1 h2 h3
    by_cases hy : y = x
    · rw [if_pos hy] at h3
      exact hn a h3
    · rw [if_neg hy] at h3
      rw [upd_other hy rfl] at h2
      exact V2.own y a h1 h2 h3
  exact store_core0 F2 V2 r ap ow hkind hx fun s3 F _ => h s3 F
/-- a frame whose lists never change: any store -/
theorem store_all {x : PySem.Str} {v : Value} {d : D} {as : List Addr} {Q : Unit → Shared → Prop} (F : Fs s0 env P Γ s1) (hP : ∀ y, P y = true) (r : Rd s1.heap v d as)
    (hkind : env.scope.kind = .function) (hx : env.kindOf x = some .local ∨ env.kindOf x = some .cell) (h : ∀ s3, Fs s0 env P (upd Γ x d) s3 → (∀ S, Carry S s1.heap s3.heap) → Q () s3) : wpAny (model c.prog c.w) A (storeName env x v) Q E s1 := by
  obtain ⟨f, V⟩ := F.vars
  exact store_core0 F V r (fun y z a _ h => by rw [hP y] at h; cases h) (fun y a h => by rw [hP y] at h; cases h) hkind hx h
/-- a store of flat data -/
theorem store_flat {x : PySem.Str} {v : Value} {d : D} {Q : Unit → Shared → Prop} (F : Fs s0 env P Γ s1) (r : Rd s1.heap v d [])
    (hkind : env.scope.kind = .function) (hx : env.kindOf x = some .local ∨ env.kindOf x = some .cell) (h : ∀ s3, Fs s0 env P (upd Γ x d) s3 → (∀ S, Carry S s1.heap s3.heap) → Q () s3) : wpAny (model c.prog c.w) A (storeName env x v) Q E s1 := by
  obtain ⟨f, V⟩ := F.vars
  refine store_core0 F V r (fun y z a hyz h0 h1 h2 ha hb => ?_) (fun y a h1 h2 h3 => ?_) hkind hx h
  · by_cases hy : y = x
    · rw [if_pos hy] at ha; cases ha
    · rw [if_neg hy] at ha
      rw [upd_other hy rfl] at h1
      by_cases hz : z = x
      · rw [if_pos hz] at hb; cases hb
      · rw [if_neg hz] at hb
        rw [upd_other hz rfl] at h2
        exact V.apart y z a hyz h0 h1 h2 ha hb
  · by_cases hy : y = x
    · rw [if_pos hy] at h3; cases h3
    · rw [if_neg hy] at h3
      rw [upd_other hy rfl] at h2
      exact V.own y a h1 h2 h3
/-- a store into a name: its lists are new -/
theorem store_fs {x : PySem.Str} {v : Value} {d : D} {as : List Addr} {Q : Unit → Shared → Prop} (F : Fs s0 env P Γ s1) (k : Kp s1 s2) (r : Rd s2.heap v d as) (hn : ∀ a ∈ as, s1.heap.get? a = none)
    (hkind : env.scope.kind = .function) (hx : env.kindOf x = some .local ∨ env.kindOf x = some .cell) (h : ∀ s3, Fs s0 env P (upd Γ x d) s3 → Q () s3) : wpAny (model c.prog c.w) A (storeName env x v) Q E s2 := by
  obtain ⟨f, V⟩ := F.vars
  refine store_core (F.grow k) (V.stays k.st) r (fun a ha => none_up F.kp.st (hn a ha)) (fun y hy hg a ha hf => ?_) hkind hx h
  cases q : Γ y with
  | none => exact hg q
  | some d' =>
    obtain ⟨v', _, r'⟩ := V.val y d' q
    obtain ⟨o, e⟩ := r'.there a hf
    rw [hn a ha] at e; cases e
end
open Classical in
noncomputable def cut (p : Addr → Prop) (h : Heap) : Heap := ⟨h.objs.mapIdx fun i o => if p i then { o with data := .freed } else o, h.life⟩
theorem cut_get {p : Addr → Prop} {h : Heap} {a : Addr} : (p a → (cut p h).get? a = none) ∧ (¬ p a → (cut p h).get? a = h.get? a) := by
  unfold cut Heap.get?
  constructor
  · intro hp
    simp only [Array.getElem?_mapIdx]
    cases h.objs[a]? with
    | none => rfl
    | some o => simp [hp]
  · intro hp
    simp only [Array.getElem?_mapIdx]
    cases h.objs[a]? with
    | none => rfl
    | some o => simp [hp]
theorem cut_stays (p : Addr → Prop) (h : Heap) : Stays (cut p h) h := .of fun b o e => by
  by_cases q : p b
  · rw [(cut_get).1 q] at e; cases e
  · rw [(cut_get).2 q] at e; exact e
noncomputable abbrev ZDE : String := "ZeroDivisionError"
/-- the objects that lie beside the frames are in the base, to the last slot -/
noncomputable def Wide (base h : Heap) : Prop := ∀ b o, h.get? b = some o → base.get? b = some o ∨ (¬ Bd.p b ∧ IsDic o)
noncomputable def Ups (h h' : Heap) : Prop := ∀ b o, h.get? b = some o → IsDic o → ∃ sl, h'.get? b = some { o with slots := sl }
theorem wide_stays {base h h' : Heap} (w : Wide base h) (u : Ups h h') (k : base.StaysIn h') : Stays h h' := fun b o e => by
  rcases w b o e with q | ⟨q1, q2⟩
  · exact .inl (k b o q)
  · exact .inr ⟨q1, q2, u b o e q2⟩
theorem Ups.more {h h' h'' : Heap} (u : Ups h h') (k : h'.UpToSlots h'') : Ups h h'' := fun b o e d => by
  obtain ⟨sl, q⟩ := u b o e d
  obtain ⟨x, y, dd⟩ := d
  obtain ⟨sl', q'⟩ := k b _ q fun vs z => by
    have z : o.data = .fields vs := z
    rw [dd] at z; cases z
  exact ⟨sl', q'⟩
theorem Ups.pre {h0 h h' : Heap} (k : Stays h0 h) (u : Ups h h') : Ups h0 h' := fun b o e d => by
  rcases k b o e with q | ⟨_, _, sl, q⟩
  · exact u b o q d
  · obtain ⟨x, y, dd⟩ := d
    obtain ⟨sl', q'⟩ := u b _ q ⟨x, y, dd⟩
    exact ⟨sl', q'⟩
theorem Wide.pre {base h0 h : Heap} (k : Stays h0 h) (w : Wide base h) : Wide base h0 := fun b o e => by
  rcases k b o e with q | ⟨q1, q2, _⟩
  · exact w b o q
  · exact .inr ⟨q1, q2⟩
/-- an exception that has just been made -/
noncomputable def New (s : Shared) (e : Addr) (s' : Shared) : Prop := ∃ s₁ h' tk, Kp s s₁ ∧ s₁.heap.NewExc h' e ZDE ∧ s' = { s₁ with heap := h', toks := tk }
/-- an exception on its way out, toward the frames l -/
noncomputable def Fly (l : List Env) (s : Shared) (e : Addr) (s' : Shared) : Prop := ∃ base a0 h' tk, s' = { s with heap := h', toks := tk } ∧ base.FlyingW l e (.type ZDE) a0 h' ∧ Wide base s.heap ∧ Ups s.heap h'
noncomputable def Held (l : List Env) (L : Addr) (s : Shared) (e : Addr) (s' : Shared) : Prop := ∃ base a0 h' tk, s' = { s with heap := h', toks := tk } ∧ base.HeldW l e (.type ZDE) a0 L h' ∧ Wide base s.heap ∧ Ups s.heap h'
theorem New.pre {s0 s s' : Shared} {e : Addr} (k : Kp s0 s) (x : New s e s') : New s0 e s' := let ⟨s₁, h', tk, k₁, n, q⟩ := x; ⟨s₁, h', tk, k.trans' k₁, n, q⟩
theorem Fly.pre {l : List Env} {s0 s s' : Shared} {e : Addr} (k : Kp s0 s) (x : Fly l s e s') : Fly l s0 e s' := by
  obtain ⟨base, a0, h', tk, rfl, f, w, u⟩ := x
  have kk := k.st
  obtain ⟨h2, t2, rfl, _⟩ := k
  exact ⟨base, a0, h', tk, rfl, f, w.pre kk, Ups.pre kk u⟩
theorem Held.pre {l : List Env} {L : Addr} {s0 s s' : Shared} {e : Addr} (k : Kp s0 s) (x : Held l L s e s') : Held l L s0 e s' := by
  obtain ⟨base, a0, h', tk, rfl, f, w, u⟩ := x
  have kk := k.st
  obtain ⟨h2, t2, rfl, _⟩ := k
  exact ⟨base, a0, h', tk, rfl, f, w.pre kk, Ups.pre kk u⟩
theorem Fly.kp {l : List Env} {s s' : Shared} {e : Addr} (x : Fly l s e s') : Kp s s' := by
  obtain ⟨base, a0, h', tk, rfl, f, w, u⟩ := x
  exact ⟨h', tk, rfl, wide_stays w u f.1⟩
theorem funFrames {l : List Env} {h h' base : Heap} (st : StkL l h) (k : ∀ b o, h.get? b = some o → IsDic o → ∃ o', h'.get? b = some o' ∧ IsDic o') (hb : ∀ env ∈ l, ∀ L, env.frame = some L → base.get? L = none) : h'.FunFrames base l := by
  induction l with
  | nil => trivial
  | cons env l ih =>
    obtain ⟨hk, L, o, h1, h2, h3, _⟩ := st env (.head _)
    obtain ⟨o', h4, x, y, h5⟩ := k L o h2 h3
    refine ⟨hk.1, ⟨L, o', h1, hb env (.head _) L h1, h4, fun vs q => by rw [h5] at q; cases q⟩, ih (fun e he => st e (.tail _ he)) fun e he => hb e (.tail _ he)⟩
/-- a frame that a new exception leaves -/
theorem leave_new {M : Model} {A : Around} {E : Value → Shared → Prop} {env : Env} {l : List Env} {s0 s s' : Shared} {e : Addr} {Q : Unit → Shared → Prop} (hfr : A.frames = some (env :: l)) (hf : env.frame = some env.locals) (st : ∀ s₁, Kp s s₁ → StkL (env :: l) s₁.heap)
    (k0 : Kp s0 s) (x : New s e s') (h : ∀ s'', Fly l s0 e s'' → Q () s'') : wpAny M A (leaving env (.ref e)) Q E s' := by
  obtain ⟨s₁, h', tk, k, n, rfl⟩ := x
  have st1 := st s₁ k
  obtain ⟨ob, tp, he, hcls, hd⟩ := n.there
  let p : Addr → Prop := fun a => ∃ ev ∈ env :: l, ev.frame = some a
  have hb : ∀ ev ∈ env :: l, ∀ L, ev.frame = some L → (cut p s₁.heap).get? L = none := fun ev he L hL => (cut_get).1 ⟨ev, he, hL⟩
  have base : (cut p s₁.heap).StaysIn h' := fun b o q => n.keeps b o (by
    by_cases hp : p b
    · rw [(cut_get).1 hp] at q; cases q
    · rw [(cut_get).2 hp] at q; exact q)
  have hen : (cut p s₁.heap).get? e = none := by
    cases q : (cut p s₁.heap).get? e with
    | none => rfl
    | some o =>
      by_cases hp : p e
      · rw [(cut_get).1 hp] at q; cases q
      · rw [(cut_get).2 hp, n.new] at q; cases q
  have ff : h'.FunFrames (cut p s₁.heap) (env :: l) := funFrames st1 (fun b o q d => ⟨o, n.keeps b o q, d⟩) hb
  refine wpAny_leaving_firstW (a0 := tp) hfr ff hf he base hen hd rfl rfl fun h'' hL => ?_
  obtain ⟨q1, ⟨_, _, q2⟩, q3, q4⟩ := hL
  have kk := k0.trans' k
  have ups : Ups s₁.heap h'' := fun b o q ⟨x, y, d⟩ => q4 b o (n.keeps b o q) fun vs z => by rw [d] at z; cases z
  have wd : Wide (cut p s₁.heap) s₁.heap := fun b o q => by
    by_cases hp : p b
    · obtain ⟨ev, he', hL⟩ := hp
      obtain ⟨_, L, o', h1, h2, h3, h4⟩ := st1 ev he'
      rw [hL] at h1; cases h1
      rw [q] at h2; cases h2
      exact .inr ⟨h4, h3⟩
    · exact .inl (((cut_get).2 hp).trans q)
  have kst := kk.st
  obtain ⟨h2, t2, rfl, _⟩ := kk
  exact h _ ⟨_, tp, h'', tk, rfl, ⟨q1, hen, q2, by rw [← hcls]; exact q3⟩, wd.pre kst, Ups.pre kst ups⟩
/-- a frame that an exception leaves on its way -/
theorem leave_fly {M : Model} {A : Around} {E : Value → Shared → Prop} {env : Env} {l : List Env} {s0 s s' : Shared} {e : Addr} {Q : Unit → Shared → Prop} (hfr : A.frames = some (env :: l)) (hf : env.frame = some env.locals)
    (k0 : Kp s0 s) (x : Fly (env :: l) s e s') (h : ∀ s'', Fly l s0 e s'' → Q () s'') : wpAny M A (leaving env (.ref e)) Q E s' := by
  obtain ⟨base, a0, h', tk, rfl, f, w, u⟩ := x
  refine wpAny_leaves_onW hfr hf f fun h'' x1 x2 => ?_
  have kst := k0.st
  obtain ⟨h2, t2, rfl, _⟩ := k0
  exact h _ ⟨base, a0, h'', tk, rfl, x1, w.pre kst, Ups.pre kst (u.more x2)⟩
/-- an exception that a loop passes on -/
theorem loop_fly {M : Model} {A : Around} {E : Value → Shared → Prop} {env : Env} {l : List Env} {s s' : Shared} {e : Addr} (hfr : A.frames = some (env :: l)) (hf : env.frame = some env.locals)
    (x : Fly (env :: l) s e s') (h : ∀ s'', Held (env :: l) env.locals s e s'' → E (.ref e) s'') : notedBy M A env (cameBackBy M A env E) (.ref e) s' := by
  obtain ⟨base, a0, h', tk, rfl, f, w, u⟩ := x
  unfold notedBy
  refine wpAny_looks_onW hfr hf f fun h'' x1 x2 => ?_
  have hx := x1
  obtain ⟨q1, q2, q3, oe, vs, T, oT, ts, e1, e2, e3, e4, e5, e6, e7, e8, e9⟩ := x1
  unfold cameBackBy
  refine wpAny_bind (wpAny_field e1 e3 e4 ?_)
  dsimp only
  rw [if_neg (by simp)]
  unfold setFlight
  refine wpAny_bind (wpAny_field e1 e3 e4 ?_)
  rw [if_pos (by simp)]
  have hts : 3 < ts.size := (Array.getElem?_eq_some_iff.mp e9).1
  refine wpAny_setField e7 e8 hts (h _ ?_)
  have nT : ∀ b o, h''.get? b = some o → (∀ vs, o.data ≠ .fields vs) → T ≠ b := fun b o q nd z => by
    subst z
    rw [e7] at q; cases q; exact nd _ e8
  have other : ∀ b, T ≠ b → (h''.update T (Obj.mapFields fun x_1 => x_1.setIfInBounds 3 ((env.frame).elim .none fun f => rawInt f))).get? b = h''.get? b := fun b hb => Heap.get?_update_other _ _ hb
  refine ⟨base, a0, _, tk, rfl, ⟨fun b o q => ?_, q2, q3.of_keeps fun b o q nd => ⟨o, (other b (nT b o q nd)).trans q, rfl⟩, oe, vs, T, ?_⟩, w, fun b o q d => ?_⟩
  · refine (other b fun z => ?_).trans (q1 b o q)
    rw [← z, e5] at q; cases q
  · have := Heap.get?_update_self (Obj.mapFields fun x_1 => x_1.setIfInBounds 3 ((env.frame).elim .none fun f => rawInt f)) e7 (Obj.isFreed_of_fields (Obj.data_mapFields e8 _))
    refine ⟨_, _, (other e e6).trans e1, e2, e3, e4, e5, e6, this, Obj.data_mapFields e8 _, ?_⟩
    rw [hf]
    simp [hts]
  · obtain ⟨sl, z⟩ := (u.more x2) b o q d
    obtain ⟨x, y, dd⟩ := d
    exact ⟨sl, (other b (nT b _ z fun vs zz => by have zz : o.data = .fields vs := zz; rw [dd] at zz; cases zz)).trans z⟩
/-- an exception that a try takes in -/
theorem try_fly {M : Model} {A : Around} {E : Value → Shared → Prop} {env : Env} {l : List Env} {s s' : Shared} {e : Addr} {Q : Unit → Shared → Prop} (hfr : A.frames = some (env :: l)) (hf : env.frame = some env.locals)
    (x : Fly (env :: l) s e s') (h : ∀ s'', Fly (env :: l) s e s'' → Q () s'') : wpAny M A (noteFrame (.ref e) env) (fun _ s₂ => wpAny M A (setFlight (.ref e) none) Q E s₂) E s' := by
  obtain ⟨base, a0, h', tk, rfl, f, w, u⟩ := x
  refine wpAny_looks_onW hfr hf f fun h'' x1 x2 => wpAny_landsW x1 fun h3 x3 x4 => h _ ⟨base, a0, h3, tk, rfl, x3, w, (u.more x2).more x4⟩
theorem try_held {M : Model} {A : Around} {E : Value → Shared → Prop} {env : Env} {l : List Env} {s s' : Shared} {e : Addr} {Q : Unit → Shared → Prop} (hfr : A.frames = some (env :: l)) (hf : env.frame = some env.locals)
    (x : Held (env :: l) env.locals s e s') (h : ∀ s'', Fly (env :: l) s e s'' → Q () s'') : wpAny M A (noteFrame (.ref e) env) (fun _ s₂ => wpAny M A (setFlight (.ref e) none) Q E s₂) E s' := by
  obtain ⟨base, a0, h', tk, rfl, f, w, u⟩ := x
  have f' := f
  obtain ⟨q1, q2, q3, oe, vs, T, oT, ts, e1, e2, e3, e4, e5, e6, e7, e8, e9⟩ := f
  unfold noteFrame
  rw [hf]
  refine wpAny_bind (wpAny_field e1 e3 e4 ?_)
  rw [if_pos (by simp)]
  refine wpAny_bind (wpAny_field e7 e8 e9 ?_)
  rw [if_pos (by simp)]
  refine wpAny_pure ?_
  exact wpAny_landsW f' fun h3 x3 x4 => h _ ⟨base, a0, h3, tk, rfl, x3, w, u.more x4⟩
theorem land_fly {M : Model} {A : Around} {E : Value → Shared → Prop} {l : List Env} {s s' : Shared} {e : Addr} {Q : Unit → Shared → Prop} (x : Fly l s e s') (h : ∀ s'', Fly l s e s'' → Q () s'') : wpAny M A (setFlight (.ref e) none) Q E s' := by
  obtain ⟨base, a0, h', tk, rfl, f, w, u⟩ := x
  exact lands_againW f fun h3 x3 x4 => h _ ⟨base, a0, h3, tk, rfl, x3, w, u.more x4⟩
theorem Fly.typeIs {l : List Env} {s s' : Shared} {e : Addr} (x : Fly l s e s') : s'.TypeIs (.ref e) ZDE := by
  obtain ⟨base, a0, h', tk, rfl, f, w, u⟩ := x
  obtain ⟨q1, q2, q3, oe, vs, T, oT, ts, e1, e2, _⟩ := f
  exact ⟨oe, e1, e2.1⟩
end Mine
end
section
open PySem PySem.W PyProof.Rows PySem.Calls
set_option linter.unusedSectionVars false
set_option linter.unusedVariables false
set_option maxRecDepth 100000
namespace Mine
variable [Bd]
inductive Out where
  | next (Γ : Ctx)
  | ret (d : D)
  | new
  | fly
noncomputable def Out.calm : Out → Bool
  | .next _ => true
  | .ret _ => true
  | _ => false
noncomputable def Post (A : Around) (s0 : Shared) (env : Env) (P : PySem.Str → Bool) (o : Out) (Q : Flow → Shared → Prop) (E : Value → Shared → Prop) : Prop := match o with
  | .next Γ => ∀ s', Fs s0 env P Γ s' → Q .next s'
  | .ret d => ∀ v as s', Kp s0 s' → Rd s'.heap v d as → (∀ a ∈ as, s0.heap.get? a = none) → Q (.ret v) s'
  | .new => ∀ s₂ e s', Kp s0 s₂ → (∃ m, s₂.heap.Ns env.locals m) → New s₂ e s' → E (.ref e) s'
  | .fly => ∀ l e s', A.frames = some l → Fly l s0 e s' → E (.ref e) s'
theorem Post.calm {A : Around} {s0 : Shared} {env : Env} {P : PySem.Str → Bool} {o : Out} {Q : Flow → Shared → Prop} {E E' : Value → Shared → Prop} (h : Post A s0 env P o Q E) (ho : o.calm = true) : Post A s0 env P o Q E' := by
  cases o with
  | next Γ => exact h
  | ret d => exact h
  | new => cases ho
  | fly => cases ho
section
variable (c : Cx)
noncomputable def Ex (n : Nat) (sc : Scope) (P : PySem.Str → Bool) (Γ : Ctx) (st : PySem.Stmt) (o : Out) : Prop :=
  ∀ env A s0 s E Q, Fm sc env → OkA n A → Wf c A env s0.heap → Fs s0 env P Γ s → Post A s0 env P o Q E → wpAny (model c.prog c.w) A (exec st env) Q E s
noncomputable def Exs (n : Nat) (sc : Scope) (P : PySem.Str → Bool) (Γ : Ctx) (st : List PySem.Stmt) (o : Out) : Prop :=
  ∀ env A s0 s E Q, Fm sc env → OkA n A → Wf c A env s0.heap → Fs s0 env P Γ s → Post A s0 env P o Q E → wpAny (model c.prog c.w) A (execs st env) Q E s
end
noncomputable def Sub (Γ' Γ : Ctx) : Prop := ∀ x d, Γ' x = some d → Γ x = some d
theorem sub_rfl {Γ : Ctx} : Sub Γ Γ := fun _ _ h => h
theorem sub_emp {Γ : Ctx} : Sub emp Γ := fun _ _ h => nomatch h
theorem sub_upd {Γ Γ' : Ctx} {x : PySem.Str} {d : D} (h : Γ x = some d) (r : Sub Γ' Γ) : Sub (upd Γ' x d) Γ := fun y e q => by
  by_cases hy : y = x
  · subst hy; rw [upd_same] at q; cases q; exact h
  · rw [upd_other hy rfl] at q; exact r y e q
section
variable {c : Cx} {n : Nat} {sc : Scope} {P : PySem.Str → Bool} {Γ Γ' : Ctx} {o : Out}
theorem exs_nil : Exs c n sc P Γ [] (.next Γ) := fun env A s0 s E Q _ _ _ F h => wpAny_execs_nil (h s F)
theorem exs_nil' (h : Sub Γ' Γ) : Exs c n sc P Γ [] (.next Γ') := fun env A s0 s E Q _ _ _ F k => wpAny_execs_nil (k s (F.sub h))
theorem exs_cons {st : PySem.Stmt} {r : List PySem.Stmt} (h1 : Ex c n sc P Γ st (.next Γ')) (h2 : Exs c n sc P Γ' r o) : Exs c n sc P Γ (st :: r) o := fun env A s0 s E Q F ok W V h =>
  wpAny_execs_cons (h1 env A s0 s E _ F ok W V fun s' V' => h2 env A s0 s' E Q F ok W V' h)
theorem exs_ret {st : PySem.Stmt} {r : List PySem.Stmt} {d : D} (h1 : Ex c n sc P Γ st (.ret d)) : Exs c n sc P Γ (st :: r) (.ret d) := fun env A s0 s E Q F ok W V h =>
  wpAny_execs_cons (h1 env A s0 s E _ F ok W V fun v as s' k r f => h v as s' k r f)
theorem Exs.weak {b : List PySem.Stmt} (h : Exs c n sc P Γ b o) (q : Sub Γ Γ') : Exs c n sc P Γ' b o := fun env A s0 s E Q F ok W V k => h env A s0 s E Q F ok W (V.sub q) k
theorem Exs.to {b : List PySem.Stmt} {Γ₁ : Ctx} (h : Exs c n sc P Γ b (.next Γ')) (q : Sub Γ₁ Γ') : Exs c n sc P Γ b (.next Γ₁) := fun env A s0 s E Q F ok W V k => h env A s0 s E Q F ok W V fun s' F' => k s' (F'.sub q)
theorem Ex.to {b : PySem.Stmt} {Γ₁ : Ctx} (h : Ex c n sc P Γ b (.next Γ')) (q : Sub Γ₁ Γ') : Ex c n sc P Γ b (.next Γ₁) := fun env A s0 s E Q F ok W V k => h env A s0 s E Q F ok W V fun s' F' => k s' (F'.sub q)
theorem kind_fm {env : Env} {x : PySem.Str} (F : Fm sc env) (h : sc.names.lookup x = some .local ∨ sc.names.lookup x = some .cell) : env.kindOf x = some .local ∨ env.kindOf x = some .cell := by
  unfold Env.kindOf; rw [F.names]; exact h
theorem ex_assign {x : PySem.Str} {e : PySem.Expr} {px p : Pos} {d : D} (he : Ev c n sc Γ true e d) (hx : sc.names.lookup x = some .local ∨ sc.names.lookup x = some .cell := by decide +kernel)
    (hs : ∀ env, swapsWith e (some (.Name x px)) p.line env = pure false := by intro _; rfl) : Ex c n sc P Γ (.Assign [.Name x px] e p) (.next (upd Γ x d)) := by
  intro env A s0 s E Q F ok W V h
  exact wpAny_Assign_Name (he env A s E _ F ok (V.wd W) V.toVars fun v as s₁ k₁ r₁ f₁ => store_fs V k₁ r₁ (f₁ rfl) F.kind (kind_fm F hx) h) (hs env)
/-- a comprehension into a name that is a cell -/
theorem swaps_cell {elt : PySem.Expr} {gs : List Comprehension} {s : Scope} {x : PySem.Str} {px p : Pos} {l : Nat} {env : Env} (h : env.kindOf x = some .cell) : swapsWith (.ListComp elt gs s p) (some (.Name x px)) l env = pure false := by
  unfold swapsWith
  have e : (env.kindOf x == some NameKind.local) = false := by rw [h]; decide
  show (pure (env.blockKind == .function && env.kindOf x == some .local && px.line == p.line && !(s.names.any fun x_1 => x_1.1 == x && (x_1.2 == .local || x_1.2 == .cell))) : Sem Bool) = pure false
  rw [e]; simp
theorem ex_assign_cc {x : PySem.Str} {elt : PySem.Expr} {gs : List Comprehension} {s : Scope} {px p p' : Pos} {d : D} (he : Ev c n sc Γ true (.ListComp elt gs s p') d) (hx : sc.names.lookup x = some .cell := by decide +kernel) :
    Ex c n sc P Γ (.Assign [.Name x px] (.ListComp elt gs s p') p) (.next (upd Γ x d)) := by
  intro env A s0 s E Q F ok W V h
  have hk : env.kindOf x = some .cell := by unfold Env.kindOf; rw [F.names]; exact hx
  exact wpAny_Assign_Name (he env A s E _ F ok (V.wd W) V.toVars fun v as s₁ k₁ r₁ f₁ => store_fs V k₁ r₁ (f₁ rfl) F.kind (.inr hk) h) (swaps_cell hk)
theorem ex_aug_add {x : PySem.Str} {e : PySem.Expr} {px p : Pos} {a b : Int} (hx : Γ x = some (.int a)) (he : Ev c n sc Γ false e (.int b)) (hk : sc.names.lookup x = some .local ∨ sc.names.lookup x = some .cell := by decide +kernel) :
    Ex c n sc P Γ (.AugAssign (.Name x px) .Add e p) (.next (upd Γ x (.int (a + b)))) := by
  intro env A s0 s E Q F ok W V h
  refine wpAny_AugAssign_Name ?_
  obtain ⟨v, as, ha, r⟩ := V.toVars x _ hx
  obtain ⟨ta, rfl⟩ : ∃ ta, v = .int a ta := by cases r; exact ⟨_, rfl⟩
  have go : wpAny (model c.prog c.w) A (eval e env) (fun v s₂ => wpAny (model c.prog c.w) A (inplaceOp .Add (.int a ta) v) (fun r s₃ => wpAny (model c.prog c.w) A (storeName env x r) (fun _ => Q Flow.next) E s₃) E s₂) E s :=
    he env A s E _ F ok (V.wd W) V.toVars fun w bs s₁ k₁ r₁ _ => by
      cases r₁
      exact iadd_int (store_fs V (k₁.trans' (tok_kp s₁ _)) (.int _ _) (fun _ h => nomatch h) F.kind (kind_fm F hk) h)
  rcases ha with ⟨a', m, b', e'⟩ | ⟨q, a', b', e'⟩
  · exact wpAny_loadName_local F.kind a' b' e' go
  · rcases a' with a' | ⟨a', a''⟩
    · exact wpAny_loadName_cell F.kind a' b' e' go
    · exact wpAny_loadName_free F.kind a' b' e' go a''
theorem ex_aug_sub {x : PySem.Str} {e : PySem.Expr} {px p : Pos} {a b : Int} (hx : Γ x = some (.int a)) (he : Ev c n sc Γ false e (.int b)) (hk : sc.names.lookup x = some .local ∨ sc.names.lookup x = some .cell := by decide +kernel) :
    Ex c n sc P Γ (.AugAssign (.Name x px) .Sub e p) (.next (upd Γ x (.int (a - b)))) := by
  intro env A s0 s E Q F ok W V h
  refine wpAny_AugAssign_Name ?_
  obtain ⟨v, as, ha, r⟩ := V.toVars x _ hx
  obtain ⟨ta, rfl⟩ : ∃ ta, v = .int a ta := by cases r; exact ⟨_, rfl⟩
  have go : wpAny (model c.prog c.w) A (eval e env) (fun v s₂ => wpAny (model c.prog c.w) A (inplaceOp .Sub (.int a ta) v) (fun r s₃ => wpAny (model c.prog c.w) A (storeName env x r) (fun _ => Q Flow.next) E s₃) E s₂) E s :=
    he env A s E _ F ok (V.wd W) V.toVars fun w bs s₁ k₁ r₁ _ => by
      cases r₁
      exact isub_int (store_fs V (k₁.trans' (tok_kp s₁ _)) (.int _ _) (fun _ h => nomatch h) F.kind (kind_fm F hk) h)
  rcases ha with ⟨a', m, b', e'⟩ | ⟨q, a', b', e'⟩
  · exact wpAny_loadName_local F.kind a' b' e' go
  · rcases a' with a' | ⟨a', a''⟩
    · exact wpAny_loadName_cell F.kind a' b' e' go
    · exact wpAny_loadName_free F.kind a' b' e' go a''
theorem ex_if_t {t : PySem.Expr} {b r : List PySem.Stmt} {p : Pos} (ht : Tr c n sc Γ t true) (hb : Exs c n sc P Γ b o) : Ex c n sc P Γ (.If t b r p) o := fun env A s0 s E Q F ok W V h =>
  wpAny_If (ht env A s E _ F ok (V.wd W) V.toVars fun s' k => by rw [if_pos rfl]; exact hb env A s0 s' E Q F ok W (V.grow k) h)
theorem ex_if_f {t : PySem.Expr} {b r : List PySem.Stmt} {p : Pos} (ht : Tr c n sc Γ t false) (hb : Exs c n sc P Γ r o) : Ex c n sc P Γ (.If t b r p) o := fun env A s0 s E Q F ok W V h =>
  wpAny_If (ht env A s E _ F ok (V.wd W) V.toVars fun s' k => by rw [if_neg (by decide)]; exact hb env A s0 s' E Q F ok W (V.grow k) h)
theorem ex_if {t : PySem.Expr} {b r : List PySem.Stmt} {p : Pos} {q : Bool} (ht : Tr c n sc Γ t q) (h1 : q = true → Exs c n sc P Γ b o) (h2 : q = false → Exs c n sc P Γ r o) : Ex c n sc P Γ (.If t b r p) o := by
  cases q with
  | true => exact ex_if_t ht (h1 rfl)
  | false => exact ex_if_f ht (h2 rfl)
theorem Tr.eq {t : PySem.Expr} {a b : Bool} (h : Tr c n sc Γ t a) (e : a = b) : Tr c n sc Γ t b := e ▸ h
theorem Ev.eq {t : PySem.Expr} {fr : Bool} {a b : D} (h : Ev c n sc Γ fr t a) (e : a = b) : Ev c n sc Γ fr t b := e ▸ h
theorem Ex.eq {t : PySem.Stmt} {a b : Out} (h : Ex c n sc P Γ t a) (e : a = b) : Ex c n sc P Γ t b := e ▸ h
theorem Exs.eq {t : List PySem.Stmt} {a b : Out} (h : Exs c n sc P Γ t a) (e : a = b) : Exs c n sc P Γ t b := e ▸ h
theorem ex_ret {e : PySem.Expr} {p : Pos} {d : D} (he : Ev c n sc Γ true e d) : Ex c n sc P Γ (.Return (some e) p) (.ret d) := fun env A s0 s E Q F ok W V h =>
  wpAny_Return_some (he env A s E _ F ok (V.wd W) V.toVars fun v as s' k r f => h v as s' (V.kp.trans' k) r fun a ha => none_up V.kp.st (f rfl a ha))
/-- a while: the turns' contexts -/
theorem ex_while {t : PySem.Expr} {b : List PySem.Stmt} {p : Pos} (G : Nat → Ctx) (m : Nat) (h0 : G 0 = Γ) (ht : ∀ i, i < m → Tr c n sc (G i) t true) (hb : ∀ i, i < m → Exs c n sc P (G i) b (.next (G (i + 1)))) (he : Tr c n sc (G m) t false) :
    Ex c n sc P Γ (.While t b [] p) (.next (G m)) := by
  subst h0
  intro env A s0 s E Q F ok W V h
  refine wpAny_While (codeAny_whileLoop (fun k s' => ∃ i, i ≤ m ∧ k = m - i ∧ Fs s0 env P (G i) s') (fun k s' hI => ?_) m ⟨0, Nat.zero_le _, rfl, V⟩)
  obtain ⟨i, hi, rfl, Vi⟩ := hI
  by_cases q : i = m
  · subst q
    refine he env A s' _ _ F ok (Vi.wd W) Vi.toVars fun s₁ k₁ => ?_
    rw [if_neg (by decide)]
    exact wpAny_execs_nil (h s₁ (Vi.grow k₁))
  · refine ht i (by omega) env A s' _ _ F ok (Vi.wd W) Vi.toVars fun s₁ k₁ => ?_
    rw [if_pos rfl]
    exact hb i (by omega) env A s0 s₁ _ _ F ok W (Vi.grow k₁) fun s₂ V₂ => ⟨m - (i + 1), by omega, i + 1, by omega, rfl, V₂⟩
/-- a while that is left by a return in its turn m -/
theorem ex_while_ret {t : PySem.Expr} {b : List PySem.Stmt} {p : Pos} {d : D} (G : Nat → Ctx) (m : Nat) (h0 : G 0 = Γ) (ht : ∀ i, i ≤ m → Tr c n sc (G i) t true) (hb : ∀ i, i < m → Exs c n sc P (G i) b (.next (G (i + 1)))) (he : Exs c n sc P (G m) b (.ret d)) :
    Ex c n sc P Γ (.While t b [] p) (.ret d) := by
  subst h0
  intro env A s0 s E Q F ok W V h
  refine wpAny_While (codeAny_whileLoop (fun k s' => ∃ i, i ≤ m ∧ k = m - i ∧ Fs s0 env P (G i) s') (fun k s' hI => ?_) m ⟨0, Nat.zero_le _, rfl, V⟩)
  obtain ⟨i, hi, rfl, Vi⟩ := hI
  refine ht i hi env A s' _ _ F ok (Vi.wd W) Vi.toVars fun s₁ k₁ => ?_
  rw [if_pos rfl]
  by_cases q : i = m
  · subst q
    exact he env A s0 s₁ _ _ F ok W (Vi.grow k₁) fun v as s₂ k r f => h v as s₂ k r f
  · exact hb i (by omega) env A s0 s₁ _ _ F ok W (Vi.grow k₁) fun s₂ V₂ => ⟨m - (i + 1), by omega, i + 1, by omega, rfl, V₂⟩
end
end Mine
end
section
open PySem PySem.W PyProof.Rows PySem.Calls
set_option linter.unusedSectionVars false
set_option linter.unusedVariables false
set_option maxRecDepth 100000
namespace Mine
variable [Bd]
theorem stays_cut {p : Addr → Prop} {h0 h : Heap} (k : Stays h0 h) (hp : ∀ b o, h0.get? b = some o → ¬ p b) : Stays h0 (cut p h) := fun b o e => by
  rw [(cut_get).2 (hp b o e)]
  exact k b o e
theorem stays_offs {h0 h h' : Heap} {wr : List Addr} (k : Stays h0 h) (hn : ∀ b ∈ wr, h0.get? b = none) (k' : ∀ b o, b ∉ wr → h.get? b = some o → h'.get? b = some o) : Stays h0 h' := fun b o e => by
  have hb : b ∉ wr := fun hw => by rw [hn b hw] at e; cases e
  rcases k b o e with q | ⟨q1, q2, sl, q3⟩
  · exact .inl (k' b _ hb q)
  · exact .inr ⟨q1, q2, sl, k' b _ hb q3⟩
/-- what lies at b is neither a frame, a cell, a list, a tuple nor a def -/
noncomputable def OffO (h : Heap) (b : Addr) : Prop := ∃ o, h.get? b = some o ∧ (∀ x y, o.data ≠ .dict x y) ∧ (∀ v, o.data ≠ .cell v) ∧ (∀ x y, o.data ≠ .seq x y) ∧ (∀ f, o.data ≠ .func f) ∧ ∀ vs q t, o.data = .fields vs → vs[1]? ≠ some (.str q t)
theorem offO_fields {h : Heap} {b : Addr} {o : Obj} {vs : Array Value} (e : h.get? b = some o) (d : o.data = .fields vs) (hv : ∀ q t, vs[1]? ≠ some (.str q t) := by intro _ _ q; simp [rawInt] at q) : OffO h b :=
  ⟨o, e, fun _ _ q => (by rw [d] at q; cases q), fun _ q => (by rw [d] at q; cases q), fun _ _ q => (by rw [d] at q; cases q), fun _ q => (by rw [d] at q; cases q), fun ws q t z => by rw [d] at z; cases z; exact hv q t⟩
noncomputable def KeepOff (wr : List Addr) (h h' : Heap) : Prop := ∀ b o, b ∉ wr → h.get? b = some o → h'.get? b = some o ∨ (¬ Bd.p b ∧ IsDic o ∧ ∃ sl, h'.get? b = some { o with slots := sl })
theorem KeepOff.of {wr : List Addr} {h h' : Heap} (k : ∀ b o, b ∉ wr → h.get? b = some o → h'.get? b = some o) : KeepOff wr h h' := fun b o hb e => .inl (k b o hb e)
theorem KeepOff.ex {wr : List Addr} {h h' : Heap} (k : KeepOff wr h h') {b : Addr} {o : Obj} (hb : b ∉ wr) (e : h.get? b = some o) (nd : ¬ IsDic o) : h'.get? b = some o := (k b o hb e).elim id fun q => absurd q.2.1 nd
theorem KeepOff.stays {wr : List Addr} {h h' h'' : Heap} (k : KeepOff wr h h') (k' : Stays h' h'') : KeepOff wr h h'' := fun b o hb e => by
  rcases k b o hb e with q | ⟨q1, q2, sl, q3⟩
  · exact k' b o q
  · rcases k' b _ q3 with q | ⟨_, _, sl', q⟩
    · exact .inr ⟨q1, q2, sl, q⟩
    · exact .inr ⟨q1, q2, sl', q⟩
theorem KeepOff.exact {wr : List Addr} {h h' h'' : Heap} (k : KeepOff wr h h') (k' : ∀ b o o', b ∉ wr → h.get? b = some o' → h'.get? b = some o → h''.get? b = some o) : KeepOff wr h h'' := fun b o hb e => by
  rcases k b o hb e with q | ⟨q1, q2, sl, q3⟩
  · exact .inl (k' b o o hb e q)
  · exact .inr ⟨q1, q2, sl, k' b _ o hb e q3⟩
theorem KeepOff.up {wr : List Addr} {h0 h h' : Heap} (k : KeepOff wr h h') (k0 : Stays h0 h) (hn : ∀ b ∈ wr, h0.get? b = none) : Stays h0 h' := fun b o e => by
  have hb : b ∉ wr := fun hw => by rw [hn b hw] at e; cases e
  rcases k0 b o e with q | ⟨q1, q2, sl, q3⟩
  · exact k b o hb q
  · rcases k b _ hb q3 with q | ⟨_, _, sl', q⟩
    · exact .inr ⟨q1, q2, sl, q⟩
    · exact .inr ⟨q1, q2, sl', q⟩
theorem Carry.offs {S : List Addr} {h h' : Heap} {wr : List Addr} (ho : ∀ b ∈ wr, OffO h b) (k : KeepOff wr h h') : Carry S h h' := by
  refine ⟨fun a vs _ ⟨n, e⟩ => ⟨n, k.ex (b := a) (fun q => ?_) e (notDic_seq rfl)⟩, fun a vs ⟨o', e, c, n, d⟩ => ⟨o', k.ex (b := a) (fun q => ?_) e (notDic_seq d), c, n, d⟩, fun a o' fd e d => ⟨o', k.ex (b := a) (fun q => ?_) e (notDic_func d), d⟩, fun _ _ ⟨a, o', vs, t, e1, e, d, e4⟩ => ⟨a, o', vs, t, e1, k.ex (b := a) (fun q => ?_) e (notDic_fields d), d, e4⟩⟩
  all_goals
    obtain ⟨o, e', h1, h2, h3, h4, h5⟩ := ho a q
    rw [e] at e'
    cases e'
    first | exact h3 _ _ d | exact h4 _ d | exact h5 _ _ _ d e4 | exact h3 _ _ rfl
section
variable {c : Cx} {s0 : Shared} {env : Env} {P : PySem.Str → Bool} {Γ : Ctx} {s : Shared}
theorem At.offs {h h' : Heap} {wr : List Addr} {x : PySem.Str} {v : Value} (a : At env h x v) (ho : ∀ b ∈ wr, OffO h b) (k : ∀ b o, b ∉ wr → h.get? b = some o → h'.get? b = some o) : At env h' x v := by
  rcases a with ⟨p, m, ⟨o, es, ep, q, qd, r⟩, e⟩ | ⟨q, p, b, o, e, d⟩
  · refine .inl ⟨p, m, ⟨o, es, ep, k _ _ (fun hw => ?_) q, qd, r⟩, e⟩
    obtain ⟨o', e', h1, _⟩ := ho _ hw
    rw [q] at e'; cases e'; exact h1 _ _ qd
  · refine .inr ⟨q, p, b, o, k _ _ (fun hw => ?_) e, d⟩
    obtain ⟨o', e', _, h1, _⟩ := ho _ hw
    rw [e] at e'; cases e'; exact h1 _ d
theorem Fs.offs {h' : Heap} {tk : Nat} {wr : List Addr} (F : Fs s0 env P Γ s) (ho : ∀ b ∈ wr, OffO s.heap b) (hn : ∀ b ∈ wr, s0.heap.get? b = none) (k : ∀ b o, b ∉ wr → s.heap.get? b = some o → h'.get? b = some o) : Fs s0 env P Γ { s with heap := h', toks := tk } := by
  obtain ⟨h2, t2, e2, k2⟩ := F.kp
  obtain ⟨f, V⟩ := F.vars
  refine ⟨⟨h', tk, by rw [e2], stays_offs F.kp.st hn k⟩, ?_, F.lnew, fun y q e => ?_, F.has, F.apart, f, fun x d e => ?_, V.apart, V.own⟩
  · obtain ⟨m, o, es, ep, q, qd, r⟩ := F.ns
    refine ⟨m, o, es, ep, k _ _ (fun hw => ?_) q, qd, r⟩
    obtain ⟨o', e', h1, _⟩ := ho _ hw
    rw [q] at e'; cases e'; exact h1 _ _ qd
  · obtain ⟨⟨v, o, e', d⟩, z⟩ := F.cell y q e
    refine ⟨⟨v, o, k _ _ (fun hw => ?_) e', d⟩, z⟩
    obtain ⟨o', e'', _, h1, _⟩ := ho _ hw
    rw [e'] at e''; cases e''; exact h1 _ d
  · obtain ⟨v, a, r⟩ := V.val x d e
    exact ⟨v, a.offs ho k, r.carry (Carry.offs (S := f x) ho (.of k)) fun _ h => h⟩
/-- what a frame may change -/
noncomputable def Mut (env : Env) (P : PySem.Str → Bool) (Γ : Ctx) (f : PySem.Str → List Addr) (a : Addr) : Prop := a = env.locals ∨ (∃ y, env.cells.lookup y = some a) ∨ ∃ x, P x = false ∧ Γ x ≠ none ∧ a ∈ f x
/-- the same frame over all that it may not change -/
theorem Fs.rebase (F : Fs s0 env P Γ s) {f : PySem.Str → List Addr} (V : VarsF s0 env P Γ s.heap f) : Stays s0.heap (cut (Mut env P Γ f) s.heap) ∧ Fs { s with heap := cut (Mut env P Γ f) s.heap } env P Γ s := by
  have hs : Stays s0.heap (cut (Mut env P Γ f) s.heap) := stays_cut F.kp.st fun b o e q => by
    rcases q with rfl | ⟨y, q⟩ | ⟨x, h1, h2, h3⟩
    · rw [F.lnew] at e; cases e
    · rw [(F.cell y b q).2] at e; cases e
    · rw [V.own x b h1 h2 h3] at e; cases e
  refine ⟨hs, ⟨⟨s.heap, s.toks, rfl, cut_stays _ _⟩, F.ns, (cut_get).1 (.inl rfl), fun y q e => ⟨(F.cell y q e).1, (cut_get).1 (.inr (.inl ⟨y, e⟩))⟩, F.has, F.apart, f, V.val, V.apart, fun x a h1 h2 h3 => (cut_get).1 (.inr (.inr ⟨x, h1, h2, h3⟩))⟩⟩
theorem Fs.rebaseX (F : Fs s0 env P Γ s) {f : PySem.Str → List Addr} (V : VarsF s0 env P Γ s.heap f) (X : Addr → Prop) (hX : ∀ a, X a → s0.heap.get? a = none) : Stays s0.heap (cut (fun a => Mut env P Γ f a ∨ X a) s.heap) ∧ VarsF { s with heap := cut (fun a => Mut env P Γ f a ∨ X a) s.heap } env P Γ s.heap f ∧ Fs { s with heap := cut (fun a => Mut env P Γ f a ∨ X a) s.heap } env P Γ s := by
  have hs : Stays s0.heap (cut (fun a => Mut env P Γ f a ∨ X a) s.heap) := stays_cut F.kp.st fun b o e q => by
    rcases q with (rfl | ⟨y, q⟩ | ⟨x, h1, h2, h3⟩) | q
    · rw [F.lnew] at e; cases e
    · rw [(F.cell y b q).2] at e; cases e
    · rw [V.own x b h1 h2 h3] at e; cases e
    · rw [hX b q] at e; cases e
  have V' : VarsF { s with heap := cut (fun a => Mut env P Γ f a ∨ X a) s.heap } env P Γ s.heap f := ⟨V.val, V.apart, fun x a h1 h2 h3 => (cut_get).1 (.inl (.inr (.inr ⟨x, h1, h2, h3⟩)))⟩
  exact ⟨hs, V', ⟨⟨s.heap, s.toks, rfl, cut_stays _ _⟩, F.ns, (cut_get).1 (.inl (.inl rfl)), fun y q e => ⟨(F.cell y q e).1, (cut_get).1 (.inl (.inr (.inl ⟨y, e⟩)))⟩, F.has, F.apart, f, V'⟩⟩
/-- another frame's dict changes -/
theorem Fs.other {h' : Heap} {C : Addr} {mC : PySem.Str → Option Value} (F : Fs s0 env P Γ s) (hC : s.heap.Ns C mC) (hCL : C ≠ env.locals) (hn : s0.heap.get? C = none) (k : Heap.SameBut C s.heap h') : Fs s0 env P Γ { s with heap := h' } := by
  obtain ⟨h2, t2, e2, k2⟩ := F.kp
  obtain ⟨f, V⟩ := F.vars
  have ca : ∀ S, Carry S s.heap h' := fun S => by
    obtain ⟨o, es, ep, ho, hd, _⟩ := hC
    exact Carry.off ho ⟨fun _ _ q => (by rw [hd] at q; cases q), fun _ q => (by rw [hd] at q; cases q), fun _ q => (by rw [hd] at q; cases q)⟩ k
  refine ⟨⟨h', s.toks, by rw [e2], stays_sameBut F.kp.st k hn⟩, ?_, F.lnew, fun y q e => ?_, F.has, F.apart, f, fun x d e => ?_, V.apart, V.own⟩
  · obtain ⟨m, hm⟩ := F.ns; exact ⟨m, hm.sameBut k (Ne.symm hCL)⟩
  · obtain ⟨⟨v, hv⟩, z⟩ := F.cell y q e
    exact ⟨⟨v, hv.sameBut k (cell_ne_ns hC hv)⟩, z⟩
  · obtain ⟨v, a, r⟩ := V.val x d e
    refine ⟨v, ?_, r.carry (ca (f x)) fun _ h => h⟩
    rcases a with ⟨p, m, hm, e'⟩ | ⟨q, p, b, hv⟩
    · exact .inl ⟨p, m, hm.sameBut k (Ne.symm hCL), e'⟩
    · exact .inr ⟨q, p, b, hv.sameBut k (cell_ne_ns hC hv)⟩
theorem Fs.down {g : Heap} {s' : Shared} (hs : Stays s0.heap g) (F0 : Kp s0 s) (F : Fs { s with heap := g } env P Γ s') : Fs s0 env P Γ s' := by
  obtain ⟨h1, t1, e1, k1⟩ := F0
  obtain ⟨h2, t2, e2, k2⟩ := F.kp
  obtain ⟨f, V⟩ := F.vars
  refine ⟨⟨h2, t2, by rw [e2, e1], hs.trans k2⟩, F.ns, none_up hs F.lnew, fun y q e => ⟨(F.cell y q e).1, none_up hs (F.cell y q e).2⟩, F.has, F.apart, f, V.val, V.apart, fun x a h1 h2 h3 => none_up hs (V.own x a h1 h2 h3)⟩
end
theorem Kp.down {s0 s s' : Shared} {g : Heap} (hs : Stays s0.heap g) (F0 : Kp s0 s) (F : Kp { s with heap := g } s') : Kp s0 s' := by
  obtain ⟨h1, t1, e1, k1⟩ := F0
  obtain ⟨h2, t2, e2, k2⟩ := F
  exact ⟨h2, t2, by rw [e2, e1], hs.trans k2⟩
theorem not_mut_off {s0 : Shared} {env : Env} {P : PySem.Str → Bool} {Γ : Ctx} {s : Shared} {f : PySem.Str → List Addr} {b : Addr} (F : Fs s0 env P Γ s) (V : VarsF s0 env P Γ s.heap f) (h : OffO s.heap b) : ¬ Mut env P Γ f b := by
  obtain ⟨o, e, h1, h2, h3, _⟩ := h
  rintro (rfl | ⟨y, z⟩ | ⟨y, z1, z2, z3⟩)
  · obtain ⟨m, o', es, ep, q, qd, _⟩ := F.ns
    rw [e] at q; cases q; exact h1 _ _ qd
  · obtain ⟨⟨v, o', q, qd⟩, _⟩ := F.cell y b z
    rw [e] at q; cases q; exact h2 _ qd
  · cases hq : Γ y with
    | none => exact z2 hq
    | some dd =>
      obtain ⟨v, _, r⟩ := V.val y dd hq
      obtain ⟨vs, hpl⟩ := r.lists b z3
      obtain ⟨o', q, _, nn, qd⟩ := hpl.is
      rw [e] at q; cases q; exact h3 _ _ qd
theorem not_mut_base {s0 : Shared} {env : Env} {P : PySem.Str → Bool} {Γ : Ctx} {s : Shared} {f : PySem.Str → List Addr} {b : Addr} {o : Obj} (F : Fs s0 env P Γ s) (V : VarsF s0 env P Γ s.heap f) (h : s0.heap.get? b = some o) : ¬ Mut env P Γ f b := by
  rintro (rfl | ⟨y, z⟩ | ⟨y, z1, z2, z3⟩)
  · rw [F.lnew] at h; cases h
  · rw [(F.cell y b z).2] at h; cases h
  · rw [V.own y b z1 z2 z3] at h; cases h
/-- a source of turns in a frame: an iterator that gives the data ds one by one -/
noncomputable def Src (c : Cx) (n : Nat) (sc : Scope) (P : PySem.Str → Bool) (Γ : Ctx) (e : PySem.Expr) (ds : List D) : Prop :=
  ∀ env A s0 s E (Q : Value → Shared → Prop), Fm sc env → OkA n A → Wf c A env s0.heap → Fs s0 env P Γ s →
    (∀ I fp wr PP St s', Kp s s' → Walks c.prog c.w A I fp wr ds.length PP St → St 0 s'.heap → (∀ i h, St i h → ∀ b ∈ wr, OffO h b) → (∀ b ∈ wr, s.heap.get? b = none) →
      (∃ f, VarsF s0 env P Γ s'.heap f ∧ ∀ b ∈ fp, b ∉ wr → ¬ Mut env P Γ f b ∧ ∃ o, s'.heap.get? b = some o ∧ ¬ IsDic o) →
      (∀ i v, PP i v → ∃ d, ds[i]? = some d ∧ Rd s'.heap v d []) → Q (.ref I) s') →
    wpAny (model c.prog c.w) A (eval e env) (fun x s₁ => wpAny (model c.prog c.w) A (pyIter x) Q E s₁) E s
section
variable {c : Cx} {n : Nat} {sc : Scope} {P : PySem.Str → Bool} {Γ : Ctx}
/-- for x in ..: the turns' contexts; left at turn m by a return, or never -/
theorem ex_for_gen {e : PySem.Expr} {x : PySem.Str} {px p : Pos} {b : List PySem.Stmt} {ds : List D} (hs : Src c n sc P Γ e ds) (G : Nat → Ctx) (h0 : G 0 = Γ) (m : Nat) (hm : m ≤ ds.length) (oe : List PySem.Stmt) (o : Out) (ho : o.calm = true)
    (hx : sc.names.lookup x = some .local ∨ sc.names.lookup x = some .cell) (hfs : ∀ env x, foldedSetIterable e env x = pure x)
    (hb : ∀ i d, i < m → ds[i]? = some d → Exs c n sc P (upd (G i) x d) b (.next (G (i + 1))))
    (hend : (m = ds.length ∧ Exs c n sc P (G m) oe o) ∨ ∃ r d, o = .ret r ∧ ds[m]? = some d ∧ Exs c n sc P (upd (G m) x d) b (.ret r)) :
    Ex c n sc P Γ (.For (.Name x px) e b oe p) o := by
  subst h0
  intro env A s0 s E Q F ok W V h
  refine wpAny_For (hs env A s0 s E _ F ok W V fun I fp wr PP St s' k WW hst hoff hwr hfp hP => ?_) (hfs env)
  obtain ⟨f, V1, hf⟩ := hfp
  have Vs := V.grow k
  -- the base of the loop: all that neither the frame nor the source may change
  have B0 : ∃ g, Stays s0.heap g ∧ Stays g s'.heap ∧ Fs { s' with heap := g } env P (G 0) s' ∧ (∀ b ∈ wr, g.get? b = none) ∧ (∀ b ∈ fp, b ∉ wr → ∃ o, g.get? b = some o ∧ ¬ IsDic o) ∧ Carry [] s'.heap g := by
    refine ⟨cut (fun a => Mut env P (G 0) f a ∨ a ∈ wr) s'.heap, stays_cut (V.kp.trans' k).st fun b o q z => ?_, cut_stays _ _, ?_, fun b hb => (cut_get).1 (.inr hb), fun b hb hbw => ?_, ?_⟩
    · rcases z with z | z
      · rcases z with rfl | ⟨y, z⟩ | ⟨y, z1, z2, z3⟩
        · rw [V.lnew] at q; cases q
        · rw [(V.cell y b z).2] at q; cases q
        · rw [V1.own y b z1 z2 z3] at q; cases q
      · rw [none_up V.kp.st (hwr b z)] at q; cases q
    · exact ⟨⟨s'.heap, s'.toks, rfl, cut_stays _ _⟩, Vs.ns, (cut_get).1 (.inl (.inl rfl)), fun y q e => ⟨(Vs.cell y q e).1, (cut_get).1 (.inl (.inr (.inl ⟨y, e⟩)))⟩, Vs.has, Vs.apart, f, V1.val, V1.apart, fun x a h1 h2 h3 => (cut_get).1 (.inl (.inr (.inr ⟨x, h1, h2, h3⟩)))⟩
    · obtain ⟨h1, o, h2, h3⟩ := hf b hb hbw
      exact ⟨o, ((cut_get).2 fun z => z.elim h1 hbw).trans h2, h3⟩
    · have hne : ∀ a o, s'.heap.get? a = some o → ((∃ fd, o.data = .func fd) ∨ (∃ vs n, o.data = .seq vs n ∧ o.cls = .type "tuple") ∨ (∃ vs q t, o.data = .fields vs ∧ vs[1]? = some (.str q t))) → ¬ (Mut env P (G 0) f a ∨ a ∈ wr) := by
        intro a o e ht z
        rcases z with z | z
        · rcases z with rfl | ⟨y, z⟩ | ⟨y, z1, z2, z3⟩
          · obtain ⟨m, o', es, ep, q, qd, _⟩ := Vs.ns
            rw [e] at q; cases q
            rcases ht with ⟨_, ht⟩ | ⟨_, _, ht, _⟩ | ⟨_, _, _, ht, _⟩ <;> (rw [qd] at ht; cases ht)
          · obtain ⟨⟨v, o', q, qd⟩, _⟩ := Vs.cell y a z
            rw [e] at q; cases q
            rcases ht with ⟨_, ht⟩ | ⟨_, _, ht, _⟩ | ⟨_, _, _, ht, _⟩ <;> (rw [qd] at ht; cases ht)
          · cases hq : G 0 y with
            | none => exact z2 hq
            | some dd =>
              obtain ⟨v, _, r⟩ := V1.val y dd hq
              obtain ⟨vs, hl⟩ := r.lists a z3
              obtain ⟨o', q, qc, nn, qd⟩ := hl.is
              rw [e] at q; cases q
              rcases ht with ⟨_, ht⟩ | ⟨_, _, ht, hc⟩ | ⟨_, _, _, ht, _⟩
              · rw [qd] at ht; cases ht
              · rw [qc] at hc; exact absurd hc (by decide)
              · rw [qd] at ht; cases ht
        · obtain ⟨o', q, h1, h2, h3, h4, h5⟩ := hoff 0 _ hst a z
          rw [e] at q; cases q
          rcases ht with ⟨_, ht⟩ | ⟨_, _, ht, _⟩ | ⟨_, _, _, ht, ht2⟩
          · exact h4 _ ht
          · exact h3 _ _ ht
          · exact h5 _ _ _ ht ht2
      exact ⟨(fun _ _ h => nomatch h), fun a vs ⟨o, e, cc, n, d⟩ => ⟨o, ((cut_get).2 (hne a o e (.inr (.inl ⟨_, n, d, cc⟩)))).trans e, cc, n, d⟩, fun a o fd e d => ⟨o, ((cut_get).2 (hne a o e (.inl ⟨fd, d⟩))).trans e, d⟩, fun _ _ ⟨a, o, vs, t, e1, e, d, e4⟩ => ⟨a, o, vs, t, e1, ((cut_get).2 (hne a o e (.inr (.inr ⟨vs, _, t, d, e4⟩)))).trans e, d, e4⟩⟩
  obtain ⟨g, hg0, hgs, Fg, hgw, hgf, hgc⟩ := B0
  have Wg : Wf c A env g := W.stays hg0
  have hx' := kind_fm F hx
  -- one turn up to the body
  refine codeAny_forLoop_any (fun q s'' => ∃ i, i ≤ m ∧ q = ds.length + 1 - i ∧ Fs { s' with heap := g } env P (G i) s'' ∧ St i s''.heap) (fun q s₁ hI => ?_) (ds.length + 1) ⟨0, Nat.zero_le _, rfl, Fg, hst⟩
  obtain ⟨i, hi, rfl, Fi, hSt⟩ := hI
  have fin : i = m → m = ds.length → Exs c n sc P (G m) oe o → ∀ h' tk, (∀ b o, b ∉ wr → s₁.heap.get? b = some o → h'.get? b = some o) →
      wpAny (model c.prog c.w) A (execs oe env) (fun f s₃ => Q f s₃) (notedBy (model c.prog c.w) A env fun e s' => cameBackBy (model c.prog c.w) A env E e s') { s₁ with heap := h', toks := tk } := by
    intro hm' _ hoe h' tk hk
    subst hm'
    exact hoe env A s0 _ _ _ F ok W ((Fi.offs (hoff i _ hSt) hgw hk).down hg0 (V.kp.trans' k)) (h.calm ho)
  by_cases hlt : i < ds.length
  · refine WW.item i s₁ _ _ hlt hSt fun v h' tk hv hSt' hk => ?_
    obtain ⟨d, hd, rd⟩ := hP i v hv
    have Fi' := Fi.offs (tk := tk) (hoff i _ hSt) hgw hk
    generalize hs2 : ({ s₁ with heap := h', toks := tk } : Shared) = s₂ at Fi'
    have eh : s₂.heap = h' := by rw [← hs2]
    -- the item's data, in the heap as it now stands
    have rd' : Rd s₂.heap v d [] := ((rd.carry hgc fun _ h => h).stays Fi'.kp.st)
    obtain ⟨f2, V2⟩ := Fi'.vars
    obtain ⟨hb1, F1⟩ := Fi'.rebase V2
    have hSt2 : St (i + 1) s₂.heap := by rw [eh]; exact hSt'
    have hkeep : ∀ s₄ : Shared, Stays (cut (Mut env P (G i) f2) s₂.heap) s₄.heap → St (i + 1) s₄.heap := fun s₄ k4 => WW.frame _ _ _ hSt2 fun b hb ob eb => by
      by_cases hw : b ∈ wr
      · refine k4.ex (((cut_get).2 (not_mut_off Fi' V2 (hoff _ _ hSt2 b hw))).trans eb) ?_
        obtain ⟨o', e', h1, _⟩ := hoff _ _ hSt2 b hw
        rw [eb] at e'; cases e'
        exact fun ⟨x, y, q⟩ => h1 x y q
      · obtain ⟨og, eg, nd⟩ := hgf b hb hw
        refine k4.ex (((cut_get).2 (not_mut_base Fi' V2 eg)).trans eb) ?_
        have := Fi'.kp.st.ex eg nd
        rw [eb] at this; cases this
        exact nd
    refine wpAny_of_eq (a := ()) rfl ?_
    refine wpAny_assign_Name (store_fs (c := c) F1 (.rfl' s₂) rd' (fun _ h => nomatch h) F.kind hx' fun s₃ F3 => ?_)
    by_cases him : i = m
    · -- the turn that leaves
      rcases hend with ⟨e1, _⟩ | ⟨r, d', rfl, hd', hbr⟩
      · omega
      · subst him
        rw [hd] at hd'; cases hd'
        refine hbr env A _ s₃ _ _ F ok (Wg.stays hb1) F3 fun v' as s₄ k4 r4 f4 => ?_
        exact h v' as s₄ (Kp.down hg0 (V.kp.trans' k) (Kp.down hb1 Fi'.kp k4)) r4 fun a ha => none_up hg0 (none_up hb1 (f4 a ha))
    · refine hb i d (by omega) hd env A _ s₃ _ _ F ok (Wg.stays hb1) F3 fun s₄ F4 => ?_
      exact ⟨ds.length + 1 - (i + 1), by omega, i + 1, by omega, rfl, F4.down hb1 Fi'.kp, hkeep s₄ F4.kp.st⟩
  · have hin : i = ds.length := by omega
    subst hin
    rcases hend with ⟨e1, hoe⟩ | ⟨r, d', _, hd', _⟩
    · exact WW.done s₁ _ _ hSt fun h' tk hk => fin e1.symm e1 hoe h' tk hk
    · rw [List.getElem?_eq_none (by omega)] at hd'; cases hd'
end
end Mine
end
section
open PySem PySem.W PyProof.Rows PySem.Calls
set_option linter.unusedSectionVars false
set_option linter.unusedVariables false
set_option maxRecDepth 100000
namespace Mine
variable [Bd]
mutual
noncomputable def nol : D → Bool
  | .list _ => false
  | .tuple l => nols l
  | _ => true
noncomputable def nols : List D → Bool
  | [] => true
  | d :: r => nol d && nols r
end
theorem rd_nol {h : Heap} : (∀ {v : Value} {d : D} {as : List Addr}, Rd h v d as → Mine.nol d = true → as = []) ∧ ∀ {vs : List Value} {ds : List D} {as : List Addr}, RdAll h vs ds as → nols ds = true → as = [] :=
  rd_ind (P := fun _ d as => Mine.nol d = true → as = []) (Q := fun _ ds as => nols ds = true → as = []) (fun _ => rfl) (fun _ _ => rfl) (fun _ _ _ => rfl) (fun _ _ _ => rfl) (fun _ _ _ e => nomatch e) (fun _ _ ih e => ih e) (fun _ _ _ _ _ => rfl) (fun _ => rfl)
    fun _ _ i1 i2 e => by
      have e' := Bool.and_eq_true_iff.mp e
      rw [i1 e'.1, i2 e'.2]; rfl
theorem Rd.nol {h : Heap} {v : Value} {d : D} {as : List Addr} (r : Rd h v d as) (e : Mine.nol d = true) : as = [] := rd_nol.1 r e
theorem RdAll.nol {h : Heap} {vs : List Value} {ds : List D} {as : List Addr} (r : RdAll h vs ds as) (e : nols ds = true) : as = [] := rd_nol.2 r e
theorem nol_flat {d : D} (h : flat d = true) : nol d = true := by cases d <;> simp_all [flat, nol]
theorem nols_flats : ∀ {l : List D}, flats l = true → nols l = true
  | [], _ => rfl
  | d :: r, h => by
    have h' : flat d = true ∧ flats r = true := by simpa [flats] using h
    simp only [nols, nol_flat h'.1, nols_flats h'.2, Bool.and_self]
/-- an iterator over the data ds -/
structure Iter (prog : Program) (w : World) (A : Around) (s s' : Shared) (ds : List D) (I : Addr) (fp wr : List Addr) (PP : Nat → Value → Prop) (St : Nat → Heap → Prop) : Prop where
  kp : Kp s s'
  walks : Walks prog w A I fp wr ds.length PP St
  st : St 0 s'.heap
  off : ∀ i h, St i h → ∀ b ∈ wr, OffO h b
  new : ∀ b ∈ wr, s.heap.get? b = none
  fp : ∀ b ∈ fp, ∃ o, s'.heap.get? b = some o ∧ ¬ IsDic o
  item : ∀ i v, PP i v → ∃ d, ds[i]? = some d ∧ Rd s'.heap v d []
  go : ∀ i h es m p T, St i h → ∀ (s : Shared) (E : Value → Shared → Prop) (Q : Unit → Shared → Prop), s.heap = h → Q () s → wpAny (model prog w) A (letOwnedTupleGo (.Tuple es m p) (.ref I) (.ref T)) Q E s
noncomputable def ItSrc (c : Cx) (n : Nat) (sc : Scope) (Γ : Ctx) (e : PySem.Expr) (ds : List D) : Prop :=
  ∀ env A s E (Q : Value → Shared → Prop), Fm sc env → OkA n A → Wd c A s.heap → Vars env s.heap Γ →
    (∀ I fp wr PP St s', Iter c.prog c.w A s s' ds I fp wr PP St → Q (.ref I) s') → wpAny (model c.prog c.w) A (eval e env) (fun x s₁ => wpAny (model c.prog c.w) A (pyIter x) Q E s₁) E s
section
variable {c : Cx} {n : Nat} {sc : Scope} {Γ : Ctx}
noncomputable def rng (k : Int) : List D := (List.range k.toNat).map fun i : Nat => .int i
theorem rng_length (k : Int) : (rng k).length = k.toNat := by simp [rng]
theorem rng_get {k : Int} {i : Nat} (h : i < k.toNat) : (rng k)[i]? = some (.int i) := by simp [rng, h]
theorem range_run {e : PySem.Expr} {np p : Pos} {k : Int} (g : GV c "range" (.type "range")) (he : Ev c n sc Γ false e (.int k)) (hk : k < 2 ^ 62) (hlo : -2 ^ 62 ≤ k) (hn : sc.names.lookup ("range" : PySem.Str) = some .globalImplicit)
    (hs : ∀ env, starEach [e] env = [(false, eval e env)]) {env : Env} {A : Around} {s : Shared} {E : Value → Shared → Prop} {Q : Value → Shared → Prop} (F : Fm sc env) (o : OkA n A) (W : Wd c A s.heap) (V : Vars env s.heap Γ)
    (h : ∀ I PP St s', Iter c.prog c.w A s s' (rng k) I [I] [I] PP St → Q (.ref I) s') :
    wpAny (model c.prog c.w) A (eval (.Call (.Name "range" np) [e] [] p) env) (fun x s₁ => wpAny (model c.prog c.w) A (pyIter x) Q E s₁) E s := by
  refine wpAny_Call_NameR (name_gv g F W hn (by decide +kernel) (PySem.callWith_type (any_false_backTo (by rw [hs env]; rfl)) ?_))
  have : wpAny (model c.prog c.w) A (spliced (backTo p (starEach [e] env))) (fun vs s' => wpAny (model c.prog c.w) A (call (.type "range") ([] ++ vs) []) (fun x s₁ => wpAny (model c.prog c.w) A (pyIter x) Q E s₁) E s') E s := by
    rw [hs env]
    refine Calls.spliced_cons (he env A s E _ F o W V fun v as s₁ k₁ r₁ _ => Calls.spliced_nil ?_)
    obtain ⟨t, rfl⟩ : ∃ t, v = .int k t := by cases r₁; exact ⟨_, rfl⟩
    refine call_range_1 ?_
    refine wpAny_pyIter_range (a := 0) (b := k) (c := 1) (t := s₁.toks) (u := t) (v := s₁.toks + 1) (Heap.get?_push_size _ rfl) (small_one (by omega) (by omega) (by omega) (by omega)) ?_
    rw [rangeSize_nat 0 k, Int.sub_zero]
    have kk := (k₁.trans' (kp_push s₁ { cls := .type "range", data := .fields #[.int 0 s₁.toks, .int k t, .int 1 (s₁.toks + 1)] } (s₁.toks + 1 + 1)))
    refine h _ (fun i v => i < k.toNat ∧ ∃ t, v = .int (0 + (i : Int) * 1) t) (fun i h => IsRangeIter h (s₁.heap.push { cls := .type "range", data := .fields #[.int 0 s₁.toks, .int k t, .int 1 (s₁.toks + 1)] }).objs.size (0 + (i : Int) * 1) ((k.toNat : Int) - (i : Int)) 1) _ ⟨kk.trans' (kp_push _ _ _), ?_, ?_, ?_, ?_, ?_, ?_, ?_⟩
    · rw [rng_length]
      exact Walks.range o.h _ 0 1 k.toNat |>.bound
    · show IsRangeIter _ _ _ _ _
      have e1 : (0 : Int) + ((0 : Nat) : Int) * 1 = 0 := by omega
      have e2 : ((k.toNat : Int) - ((0 : Nat) : Int)) = (k.toNat : Int) := by omega
      rw [e1, e2]
      exact Heap.get?_push_size _ rfl
    · intro i h hst b hb
      rw [List.mem_singleton.mp hb]
      exact offO_fields (show h.get? _ = _ from hst) rfl
    · intro b hb
      rw [List.mem_singleton.mp hb]
      exact none_up kk.st (new_none _)
    · intro b hb
      rw [List.mem_singleton.mp hb]
      exact ⟨_, Heap.get?_push_size _ rfl, notDic_fields rfl⟩
    · rintro i v ⟨hi, t', rfl⟩
      refine ⟨.int i, rng_get hi, ?_⟩
      have : (0 : Int) + (i : Int) * 1 = (i : Int) := by omega
      rw [this]; exact .int _ _
    · intro i h es m p T hst s E Q hsh hq
      subst hsh
      have hst' := show s.heap.get? _ = some _ from hst
      unfold letOwnedTupleGo
      exact wpAny_bind (wpAny_load hst' (wpAny_pure hq))
  rw [hs env] at this ⊢
  exact evalArgs_plain this
theorem itsrc_range {e : PySem.Expr} {np p : Pos} {k : Int} (g : GV c "range" (.type "range")) (he : Ev c n sc Γ false e (.int k)) (hk : k < 2 ^ 62 := by omega) (hlo : -2 ^ 62 ≤ k := by omega) (hn : sc.names.lookup ("range" : PySem.Str) = some .globalImplicit := by decide +kernel)
    (hs : ∀ env, starEach [e] env = [(false, eval e env)] := by intro _; rfl) : ItSrc c n sc Γ (.Call (.Name "range" np) [e] [] p) (rng k) := fun env A s E Q F o W V h =>
  range_run g he hk hlo hn hs F o W V fun I PP St s' it => h I _ _ PP St s' it
theorem src_range {P : PySem.Str → Bool} {e : PySem.Expr} {np p : Pos} {k : Int} (g : GV c "range" (.type "range")) (he : Ev c n sc Γ false e (.int k)) (hk : k < 2 ^ 62 := by omega) (hlo : -2 ^ 62 ≤ k := by omega) (hn : sc.names.lookup ("range" : PySem.Str) = some .globalImplicit := by decide +kernel)
    (hs : ∀ env, starEach [e] env = [(false, eval e env)] := by intro _; rfl) : Src c n sc P Γ (.Call (.Name "range" np) [e] [] p) (rng k) := fun env A s0 s E Q F o W V h =>
  range_run g he hk hlo hn hs F o (V.wd W) V.toVars fun I PP St s' it => h I _ _ PP St s' it.kp it.walks it.st it.off it.new
    (by
      obtain ⟨f, Vf⟩ := (V.grow it.kp).vars
      exact ⟨f, Vf, fun b hb hn => absurd hb hn⟩) it.item
/-- over a list of data without lists -/
theorem list_run {e : PySem.Expr} {ds : List D} (he : Ev c n sc Γ false e (.list ds)) (hf : nols ds = true) {env : Env} {A : Around} {s : Shared} {E : Value → Shared → Prop} {Q : Value → Shared → Prop} (F : Fm sc env) (o : OkA n A) (W : Wd c A s.heap) (V : Vars env s.heap Γ)
    (h : ∀ l I PP St s', (∃ vs, s'.heap.IsList l vs) → Iter c.prog c.w A s s' ds I [I, l] [I] PP St → Q (.ref I) s') :
    wpAny (model c.prog c.w) A (eval e env) (fun x s₁ => wpAny (model c.prog c.w) A (pyIter x) Q E s₁) E s := by
  refine he env A s E _ F o W V fun v as s₁ k₁ r₁ _ => ?_
  obtain ⟨l, vs, bs, rfl, rfl, hl, rl⟩ := r₁.list_inv
  obtain rfl := rl.nol hf
  refine wpAny_pyIter_list hl.is ?_
  have kp := kp_push s₁ { cls := .type "list_iterator", data := .fields #[.ref l, .int 0 0] } s₁.toks
  have hl' : (s₁.heap.push { cls := .type "list_iterator", data := .fields #[.ref l, .int 0 0] }).IsList l vs.toArray := isList_stays hl.is kp.st
  have hlt : l < s₁.heap.objs.size := by obtain ⟨ob, e⟩ := hl; exact Heap.lt_size e
  refine h l _ (fun i v => vs.toArray[i]? = some v) (fun i h => h.IsListIter s₁.heap.objs.size l i ∧ h.IsList l vs.toArray) _ ⟨_, hl'⟩ ⟨k₁.trans' kp, ?_, ⟨⟨_, Heap.get?_push_size _ rfl, rfl, rfl⟩, hl'⟩, ?_, ?_, ?_, ?_, ?_⟩
  · have := Walks.list (prog := c.prog) (w := c.w) o.h s₁.heap.objs.size l (Nat.ne_of_lt hlt) vs.toArray
    rw [show vs.toArray.size = ds.length by rw [List.size_toArray]; exact rl.length] at this
    exact this
  · rintro i h ⟨⟨ob, e, _, d⟩, _⟩ b hb
    rw [List.mem_singleton.mp hb]
    exact offO_fields e d
  · intro b hb
    rw [List.mem_singleton.mp hb]
    exact none_up k₁.st (new_none _)
  · intro b hb
    rcases List.mem_cons.mp hb with rfl | hb
    · exact ⟨_, Heap.get?_push_size _ rfl, notDic_fields rfl⟩
    · rw [List.mem_singleton.mp hb]
      obtain ⟨ob, e, _, _, d⟩ := hl'
      exact ⟨ob, e, notDic_seq d⟩
  · intro i v hv
    have hv' : vs[i]? = some v := by simpa using hv
    cases hd : ds[i]? with
    | none => rw [rl.none hd] at hv'; cases hv'
    | some d =>
      obtain ⟨v', bs, e1, r, hb⟩ := rl.get hd
      rw [hv'] at e1; cases e1
      obtain rfl : bs = [] := List.eq_nil_iff_forall_not_mem.mpr fun x hx => nomatch hb x hx
      exact ⟨d, rfl, r.stays kp.st⟩
  · rintro i h es m p T ⟨hst, _⟩ s E Q rfl hq
    exact wpAny_letOwnedTupleGo_listiter hst hq
theorem itsrc_list {e : PySem.Expr} {ds : List D} (he : Ev c n sc Γ false e (.list ds)) (hf : nols ds = true) : ItSrc c n sc Γ e ds := fun env A s E Q F o W V h =>
  list_run he hf F o W V fun l I PP St s' _ it => h I _ _ PP St s' it
/-- over a list that is a parameter -/
theorem src_param {P : PySem.Str → Bool} {x : PySem.Str} {p : Pos} {ds : List D} (hx : Γ x = some (.list ds)) (hP : P x = true) (hf : nols ds = true) (hd : (x == ("__debug__" : PySem.Str)) = false := by decide +kernel) : Src c n sc P Γ (.Name x p) ds := by
  intro env A s0 s E Q F o W V h
  obtain ⟨f, Vf⟩ := V.vars
  obtain ⟨v, ha, r⟩ := Vf.val x _ hx
  obtain ⟨l, vs, bs, rfl, efx, hl, rl⟩ := r.list_inv
  obtain rfl := rl.nol hf
  -- the name's value, at this very address
  have hev : Ev c n sc (upd emp x (.list ds)) false (.Name x p) (.list ds) := ev_name upd_same hd
  have : ∀ Q', (Q' (.ref l) s) → wpAny (model c.prog c.w) A (eval (.Name x p) env) Q' E s := fun Q' q => by
    refine wpAny_Name ?_ hd
    rcases ha with ⟨a', m, b', e'⟩ | ⟨z, a', b', e'⟩
    · exact wpAny_loadName_local F.kind a' b' e' q
    · rcases a' with a' | ⟨a', a''⟩
      · exact wpAny_loadName_cell F.kind a' b' e' q
      · exact wpAny_loadName_free F.kind a' b' e' q a''
  refine this _ (wpAny_pyIter_list hl.is ?_)
  have kp := kp_push s { cls := .type "list_iterator", data := .fields #[.ref l, .int 0 0] } s.toks
  have hl' : (s.heap.push { cls := .type "list_iterator", data := .fields #[.ref l, .int 0 0] }).IsList l vs.toArray := isList_stays hl.is kp.st
  have hlt : l < s.heap.objs.size := by obtain ⟨ob, e⟩ := hl; exact Heap.lt_size e
  refine h _ [s.heap.objs.size, l] [s.heap.objs.size] (fun i v => vs.toArray[i]? = some v) (fun i h => h.IsListIter s.heap.objs.size l i ∧ h.IsList l vs.toArray) _ kp ?_ ⟨⟨_, Heap.get?_push_size _ rfl, rfl, rfl⟩, hl'⟩ ?_ ?_ ⟨f, Vf.stays kp.st, ?_⟩ ?_
  · have := Walks.list (prog := c.prog) (w := c.w) o.h s.heap.objs.size l (Nat.ne_of_lt hlt) vs.toArray
    rw [show vs.toArray.size = ds.length by rw [List.size_toArray]; exact rl.length] at this
    exact this
  · rintro i h ⟨⟨ob, e, _, d⟩, _⟩ b hb
    rw [List.mem_singleton.mp hb]
    exact offO_fields e d
  · intro b hb
    rw [List.mem_singleton.mp hb]
    exact new_none _
  · intro b hb hn
    rcases List.mem_cons.mp hb with rfl | hb
    · exact absurd (List.mem_singleton.mpr rfl) hn
    · rw [List.mem_singleton.mp hb]
      obtain ⟨ob, e, cc, m, dd⟩ := id hl'
      refine ⟨?_, ob, e, notDic_seq dd⟩
      rintro (rfl | ⟨y, z⟩ | ⟨y, z1, z2, z3⟩)
      · obtain ⟨m', o', es, ep, q, qd, _⟩ := (V.grow kp).ns
        have q' : (s.heap.push { cls := .type "list_iterator", data := .fields #[.ref env.locals, .int 0 0] }).get? env.locals = some o' := q
        rw [e] at q'; cases q'; rw [dd] at qd; cases qd
      · obtain ⟨⟨v', o', q, qd⟩, _⟩ := (V.grow kp).cell y l z
        have q' : (s.heap.push { cls := .type "list_iterator", data := .fields #[.ref l, .int 0 0] }).get? l = some o' := q
        rw [e] at q'; cases q'; rw [dd] at qd; cases qd
      · have hyx : x ≠ y := fun q => by rw [q] at hP; rw [hP] at z1; cases z1
        exact Vf.apart y x l (Ne.symm hyx) z1 z2 (by rw [hx]; exact fun q => nomatch q) z3 (by rw [efx]; exact .head _)
  · intro i v hv
    have hv' : vs[i]? = some v := by simpa using hv
    cases hd : ds[i]? with
    | none => rw [rl.none hd] at hv'; cases hv'
    | some d =>
      obtain ⟨v', bs, e1, r, hb⟩ := rl.get hd
      rw [hv'] at e1; cases e1
      obtain rfl : bs = [] := List.eq_nil_iff_forall_not_mem.mpr fun x hx => nomatch hb x hx
      exact ⟨d, rfl, r.stays kp.st⟩
end
end Mine
end
section
open PySem PySem.W PyProof.Rows PySem.Calls
set_option linter.unusedSectionVars false
set_option linter.unusedVariables false
set_option maxRecDepth 100000
namespace Mine
variable [Bd]
section
variable {prog : Program} {w : World} {A : Around} {R : Result → Shared → Prop} {s : Shared}
theorem compLoop_g {elt target iter : PySem.Expr} {ifs : List PySem.Expr} {scope : Scope} {pos : Pos} {it acc : Value} {env : Env} (I : Nat → Shared → Prop)
    (turn : ∀ n s E, I n s → wpAny (model prog w) A (pyNext it) (fun r s₁ => match r with
      | none => R (.ok .next) s₁
      | some v => wpAny (model prog w) A (letOwnedTupleGo target it v) (fun _ s₁' => wpAny (model prog w) A (assign target env v) (fun _ s₂ =>
          wpAny (model prog w) A (forIn ifs true fun c r => if r = true then do let ok ← isTrue c env (eval c env); pure (ForInStep.yield ok) else pure (ForInStep.yield r)) (fun ok s₃ =>
            if ok = true then wpAny (model prog w) A (eval elt env) (fun x s₄ =>
              wpAny (model prog w) A (call (.builtin "list.append") [acc, x]) (fun _ s₅ => ∃ m, m < n ∧ I m s₅) E s₄) E s₃
            else ∃ m, m < n ∧ I m s₃) E s₂) E s₁') E s₁) E s)
    (n : Nat) (h : I n s) : codeAny (model prog w) A (.compLoop (.ListComp elt [⟨target, iter, ifs, 0⟩] scope pos) 0 it acc env) R s := by
  refine codeAny_loop rfl I (fun n s hI => ?_) n h
  show wpAny _ A ((compTurn (.ListComp elt [⟨target, iter, ifs, 0⟩] scope pos) 0 it acc env).onRaise (fun x => do noteFrame x env; theTreesLotGoes x)) _ _ s
  refine wpAny_noted ?_
  rw [compTurn_list]
  refine wpAny_bind (wpAny_standAt (wpAny_bind (wpAny_mono (turn n s _ hI) (fun r s₁ h₁ => ?_) fun _ _ h' => h')))
  cases r with
  | none => exact wpAny_pure h₁
  | some v =>
    refine wpAny_bind (wpAny_mono h₁ (fun _ s₁' h₁' => ?_) fun _ _ h' => h')
    refine wpAny_bind (wpAny_mono h₁' (fun _ s₂ h₂ => wpAny_bind (wpAny_mono h₂ (fun ok s₃ h₃ => ?_) fun _ _ h' => h')) fun _ _ h' => h')
    cases ok with
    | false => exact wpAny_pure ⟨rfl, h₃⟩
    | true => exact wpAny_bind (wpAny_bind (wpAny_mono h₃ (fun x s₄ h₄ => wpAny_bind (wpAny_mono h₄ (fun _ s₅ h₅ => wpAny_pure (wpAny_pure ⟨rfl, h₅⟩)) fun _ _ h' => h')) fun _ _ h' => h'))
end
/-- the comprehension's own frame -/
noncomputable def cEnv (scope : Scope) (cl : List (PySem.Str × Addr)) (C : Addr) (env : Env) : Env :=
  { scope := relabel scope env, locals := C, globals := env.globals, cells := cellsFrom (C + 1) scope.names cl, qual := env.qual, func := none, code := env.code, frame := env.frame, builtins := env.builtins }
noncomputable def relS (scope sc : Scope) : Scope :=
  { scope with names := scope.names.map fun (n, k) => if (k == .free && sc.names.lookup n == some .cell) = true then (n, .cell) else (n, k) }
noncomputable def inn (scope : Scope) (Γ : Ctx) : Ctx := fun y => if scope.names.lookup y = some .free then Γ y else none
theorem inn_free {scope : Scope} {Γ : Ctx} {y : PySem.Str} {r : Option D} (h : scope.names.lookup y = some .free) (e : Γ y = r) : inn scope Γ y = r := by unfold inn; rw [if_pos h]; exact e
noncomputable def HasFree (Γ : Ctx) : List (PySem.Str × NameKind) → Prop
  | [] => True
  | (y, .free) :: r => (∃ d, Γ y = some d) ∧ HasFree Γ r
  | _ :: r => HasFree Γ r
theorem HasFree.mem {Γ : Ctx} {y : PySem.Str} : ∀ {l : List (PySem.Str × NameKind)}, HasFree Γ l → (y, NameKind.free) ∈ l → ∃ d, Γ y = some d := by
  intro l
  induction l with
  | nil => intro _ hm; cases hm
  | cons p r ih =>
    obtain ⟨z, k⟩ := p
    intro h hm
    rcases List.mem_cons.mp hm with e | hm'
    · cases e; exact h.1
    · cases k <;> first | exact ih h.2 hm' | exact ih h hm'
/-- what must be so of the comprehension's scope in its surroundings -/
noncomputable def compOk (scope sc : Scope) : Bool :=
  scope.kind == .function && decide (scope.names.map (·.1)).Nodup && scope.names.all fun p => match p.2 with
    | .free => (sc.names.lookup p.1 == some .cell || sc.names.lookup p.1 == some .free) && !(p.1 == ("__classdict__" : PySem.Str))
    | _ => true
theorem lookup_mem_nodup {α : Type} : ∀ {l : List (PySem.Str × α)} {y : PySem.Str} {k : α}, (l.map (·.1)).Nodup → (y, k) ∈ l → l.lookup y = some k
  | (z, j) :: r, y, k, hn, hm => by
    rw [List.lookup_cons]
    rcases List.mem_cons.mp hm with e | hm
    · cases e; simp
    · have hn' := List.nodup_cons.mp hn
      have hne : (y == z) = false := by
        cases q : y == z with
        | false => rfl
        | true => exact absurd (List.mem_map.mpr ⟨(y, k), hm, beq_iff_eq.mp q⟩) hn'.1
      rw [hne]
      exact lookup_mem_nodup hn'.2 hm
theorem lookup_rel {scope sc : Scope} {y : PySem.Str} : (relS scope sc).names.lookup y = (scope.names.lookup y).map fun k => if (k == .free && sc.names.lookup y == some .cell) = true then .cell else k := by
  unfold relS
  dsimp only
  induction scope.names with
  | nil => rfl
  | cons p r ih =>
    obtain ⟨z, k⟩ := p
    rw [List.map_cons]
    by_cases q : (y == z) = true
    · have : y = z := beq_iff_eq.mp q
      subst this
      dsimp only
      by_cases t : (k == NameKind.free && sc.names.lookup y == some .cell) = true
      · rw [if_pos t, List.lookup_cons, List.lookup_cons, q]
        dsimp only
        rw [Option.map_some, if_pos t]
      · rw [if_neg t, List.lookup_cons, List.lookup_cons, q]
        dsimp only
        rw [Option.map_some, if_neg t]
    · have q' : (y == z) = false := by simpa using q
      have e1 : ∀ v : PySem.Str × NameKind, v.1 = z → (v :: (r.map fun (n, k) => if (k == .free && sc.names.lookup n == some .cell) = true then (n, NameKind.cell) else (n, k))).lookup y = (r.map fun (n, k) => if (k == .free && sc.names.lookup n == some .cell) = true then (n, NameKind.cell) else (n, k)).lookup y := by
        rintro ⟨a, b⟩ rfl
        rw [List.lookup_cons, q']
      rw [e1 _ (by split <;> rfl), List.lookup_cons, q']
      exact ih
theorem rel_names {scope sc : Scope} {env : Env} (F : Fm sc env) : (relabel scope env).names = (relS scope sc).names := by
  unfold relabel relS
  dsimp only
  refine List.map_congr_left fun p _ => ?_
  obtain ⟨n, k⟩ := p
  dsimp only
  have hk : (env.scope.kind == ScopeKind.function) = true := by rw [F.kind]; rfl
  have hn : env.kindOf n = sc.names.lookup n := by unfold Env.kindOf; rw [F.names]
  rw [hk, hn, Bool.and_true]
theorem cEnv_fm {scope sc : Scope} {env : Env} {cl : List (PySem.Str × Addr)} {C : Addr} (F : Fm sc env) (h : scope.kind = .function) : Fm (relS scope sc) (cEnv scope cl C env) := ⟨rel_names F, h, F.glob, F.bi⟩
theorem cellsFrom_app : ∀ (names : List (PySem.Str × NameKind)) (n : Nat) (acc cl : List (PySem.Str × Addr)), cellsFrom n names (acc ++ cl) = cellsFrom n names acc ++ cl
  | [], _, _, _ => rfl
  | (y, k) :: r, n, acc, cl => by
    unfold cellsFrom
    split
    · have := cellsFrom_app r (n + 1) ((y, n) :: acc) cl
      simpa using this
    · exact cellsFrom_app r n acc cl
theorem cellsFrom_keys : ∀ (names : List (PySem.Str × NameKind)) (n : Nat) (acc : List (PySem.Str × Addr)) (y : PySem.Str) (a : Addr), (y, a) ∈ cellsFrom n names acc → (y, NameKind.cell) ∈ names ∨ (y, a) ∈ acc
  | [], _, _, _, _, h => .inr h
  | (z, k) :: r, n, acc, y, a, h => by
    unfold cellsFrom at h
    split at h
    · rename_i hk
      rcases cellsFrom_keys r (n + 1) ((z, n) :: acc) y a h with q | q
      · exact .inl (.tail _ q)
      · rcases List.mem_cons.mp q with e | q
        · cases e
          have : k = .cell := beq_iff_eq.mp hk
          subst this
          exact .inl (.head _)
        · exact .inr q
    · rcases cellsFrom_keys r n acc y a h with q | q
      · exact .inl (.tail _ q)
      · exact .inr q
theorem lookup_app_none {α : Type} {l r : List (PySem.Str × α)} {y : PySem.Str} (h : ∀ a, (y, a) ∉ l) : (l ++ r).lookup y = r.lookup y := by
  induction l with
  | nil => rfl
  | cons p l ih =>
    obtain ⟨z, a⟩ := p
    have : (y == z) = false := by
      cases q : y == z with
      | false => rfl
      | true => exact absurd (by rw [beq_iff_eq.mp q]; exact .head _) (h a)
    rw [List.cons_append, List.lookup_cons, this]
    exact ih fun a ha => h a (.tail _ ha)
noncomputable def closG (env : Env) : List (PySem.Str × NameKind) → List (PySem.Str × Addr) → List (PySem.Str × Addr)
  | [], cs => cs
  | (y, k) :: r, cs => if k == .free then closG env r ((y, (env.cells.lookup y).getD 0) :: cs) else closG env r cs
theorem closure_eq {scope : Scope} {env : Env} (h : ∀ y, (y, NameKind.free) ∈ scope.names → ∃ q, env.cells.lookup y = some q) : closureFor scope env = pure (closG env scope.names []) := by
  unfold closureFor
  have : ∀ (l : List (PySem.Str × NameKind)) (cs : List (PySem.Str × Addr)), (∀ y, (y, NameKind.free) ∈ l → ∃ q, env.cells.lookup y = some q) →
      (forIn l cs fun p r => (match p with
        | (name, kind) => if (kind == NameKind.free) = true then do let a ← cellOf env name; pure (ForInStep.yield ((name, a) :: r)) else pure (ForInStep.yield r) : Sem (ForInStep (List (PySem.Str × Addr))))) = pure (closG env l cs) := by
    intro l
    induction l with
    | nil => intro cs _; rfl
    | cons p r ih =>
      intro cs h
      obtain ⟨y, k⟩ := p
      rw [List.forIn_cons]
      unfold closG
      by_cases q : (k == NameKind.free) = true
      · have hk : k = .free := beq_iff_eq.mp q
        subst hk
        obtain ⟨a, ha⟩ := h y (.head _)
        have hc : cellOf env y = pure a := by unfold cellOf; rw [ha]
        simp only [hc, ha, Option.getD_some, if_true, q]
        exact ih _ fun z hz => h z (.tail _ hz)
      · simp only [if_neg q]
        exact ih _ fun z hz => h z (.tail _ hz)
  have e := this scope.names [] h
  simpa using congrArg (fun t => t >>= pure) e
theorem closG_mem : ∀ (l : List (PySem.Str × NameKind)) (env : Env) (cs : List (PySem.Str × Addr)) (y : PySem.Str) (a : Addr), (y, a) ∈ closG env l cs → ((y, NameKind.free) ∈ l ∧ a = (env.cells.lookup y).getD 0) ∨ (y, a) ∈ cs
  | [], _, _, _, _, h => .inr h
  | (z, k) :: r, env, cs, y, a, h => by
    unfold closG at h
    split at h
    · rename_i hk
      have hk : k = .free := beq_iff_eq.mp hk
      subst hk
      rcases closG_mem r env _ y a h with ⟨q, e⟩ | q
      · exact .inl ⟨.tail _ q, e⟩
      · rcases List.mem_cons.mp q with e | q
        · cases e; exact .inl ⟨.head _, rfl⟩
        · exact .inr q
    · rcases closG_mem r env _ y a h with ⟨q, e⟩ | q
      · exact .inl ⟨.tail _ q, e⟩
      · exact .inr q
theorem closG_has : ∀ (l : List (PySem.Str × NameKind)) (env : Env) (cs : List (PySem.Str × Addr)) (y : PySem.Str), ((y, NameKind.free) ∈ l ∨ ∃ a, (y, a) ∈ cs) → ∃ a, (y, a) ∈ closG env l cs
  | [], _, _, _, h => h.elim (fun q => nomatch q) id
  | (z, k) :: r, env, cs, y, h => by
    unfold closG
    split
    · rename_i hk
      have hk : k = .free := beq_iff_eq.mp hk
      subst hk
      refine closG_has r env _ y ?_
      rcases h with h | ⟨a, h⟩
      · rcases List.mem_cons.mp h with e | h
        · cases e; exact .inr ⟨_, .head _⟩
        · exact .inl h
      · exact .inr ⟨a, .tail _ h⟩
    · rename_i hk
      refine closG_has r env _ y ?_
      rcases h with h | h
      · rcases List.mem_cons.mp h with e | h
        · cases e; exact absurd rfl hk
        · exact .inl h
      · exact .inr h
theorem lookup_of_all {α : Type} : ∀ {l : List (PySem.Str × α)} {y : PySem.Str} {v : α}, (∃ a, (y, a) ∈ l) → (∀ a, (y, a) ∈ l → a = v) → l.lookup y = some v
  | [], _, _, ⟨_, h⟩, _ => nomatch h
  | (z, b) :: r, y, v, ⟨a, h⟩, hv => by
    rw [List.lookup_cons]
    cases q : y == z with
    | true =>
      have : y = z := beq_iff_eq.mp q
      subst this
      rw [hv b (.head _)]
    | false =>
      rcases List.mem_cons.mp h with e | h
      · cases e; simp at q
      · exact lookup_of_all ⟨a, h⟩ fun a ha => hv a (.tail _ ha)
theorem closG_lookup {scope : Scope} {env : Env} {y : PySem.Str} {q : Addr} (hm : (y, NameKind.free) ∈ scope.names) (hq : env.cells.lookup y = some q) : (closG env scope.names []).lookup y = some q := by
  refine lookup_of_all (closG_has _ _ _ _ (.inl hm)) fun a ha => ?_
  rcases closG_mem _ _ _ _ _ ha with ⟨_, e⟩ | h
  · rw [e, hq]; rfl
  · cases h
/-- what the outer names are within -/
theorem inn_at {scope sc : Scope} {env : Env} {h h' : Heap} {C : Addr} {y : PySem.Str} {v : Value} (F : Fm sc env) (ok : compOk scope sc = true) (hy : scope.names.lookup y = some .free) (a : At env h y v)
    (k : ∀ q, env.cells.lookup y = some q → h.IsCell q (some v) → h'.IsCell q (some v)) : At (cEnv scope (closG env scope.names []) C env) h' y v := by
  unfold compOk at ok
  simp only [Bool.and_eq_true, beq_iff_eq, decide_eq_true_eq, List.all_eq_true] at ok
  obtain ⟨⟨hk, hnd⟩, hall⟩ := ok
  have hm : (y, NameKind.free) ∈ scope.names := mem_of_lookup hy
  have hf := hall _ hm
  simp only [Bool.and_eq_true, Bool.or_eq_true, beq_iff_eq, Bool.not_eq_true'] at hf
  obtain ⟨hsc, hcd⟩ := hf
  rcases a with ⟨p, _⟩ | ⟨q, p, b, e⟩
  · exfalso
    unfold Env.kindOf at p
    rw [F.names] at p
    rcases hsc with z | z <;> (rw [p] at z; cases z)
  · refine .inr ⟨q, ?_, ?_, k q b e⟩
    · unfold Env.kindOf cEnv
      dsimp only
      rw [rel_names F, lookup_rel, hy]
      by_cases t : sc.names.lookup y = some .cell
      · left; simp [t]
      · right; exact ⟨by simp [t], hcd⟩
    · show (cellsFrom (C + 1) scope.names (closG env scope.names [])).lookup y = some q
      have e1 : cellsFrom (C + 1) scope.names (closG env scope.names []) = cellsFrom (C + 1) scope.names [] ++ closG env scope.names [] := cellsFrom_app scope.names (C + 1) [] _
      rw [e1, lookup_app_none fun a ha => ?_]
      · exact closG_lookup hm b
      · rcases cellsFrom_keys _ _ _ _ _ ha with z | z
        · have := lookup_mem_nodup hnd z
          rw [hy] at this; cases this
        · cases z
end Mine
end
section
open PySem PySem.W PyProof.Rows PySem.Calls
set_option linter.unusedSectionVars false
set_option linter.unusedVariables false
set_option maxRecDepth 100000
namespace Mine
variable [Bd]
/-- a target takes a piece of data in the comprehension's frame: T the names that it gives; nc: the frame's own cells -/
noncomputable def Asg (c : Cx) (tgt : PySem.Expr) (env' : Env) (nc : List (PySem.Str × Addr)) (d : D) (T : Ctx) : Prop :=
  ∀ A s v E (Q : Unit → Shared → Prop), A.handled = none → Rd s.heap v d [] → (∃ m, s.heap.Ns env'.locals m) → (∀ y q, (y, q) ∈ nc → ∃ v, s.heap.IsCell q v) →
    (∀ h' tk, (∀ b o, b ≠ env'.locals → (∀ y, (y, b) ∉ nc) → s.heap.get? b = some o → h'.get? b = some o) → (∃ m, h'.Ns env'.locals m) → (∀ y q, (y, q) ∈ nc → ∃ v, h'.IsCell q v) →
      (∀ y d', T y = some d' → ∃ v, At env' h' y v ∧ Rd h' v d' []) → Q () { s with heap := h', toks := tk }) →
    wpAny (model c.prog c.w) A (assign tgt env' v) Q E s
noncomputable def Tests (c : Cx) (n : Nat) (sc : Scope) (Γ : Ctx) : List PySem.Expr → Bool → Prop
  | [], b => b = true
  | [t], b => Tr c n sc Γ t b
  | _, _ => False
noncomputable def join2 (T Γ : Ctx) : Ctx := fun y => match T y with | some d => some d | none => Γ y
theorem join2_l {T Γ : Ctx} {y : PySem.Str} {d : D} (h : T y = some d) : join2 T Γ y = some d := by unfold join2; rw [h]
theorem join2_upd {Γ : Ctx} {x : PySem.Str} {d : D} : join2 (upd emp x d) Γ = upd Γ x d := by
  funext y
  unfold join2 upd emp
  by_cases h : y = x
  · simp [h]
  · simp [h]
theorem pushCells_none : ∀ (names : List (PySem.Str × NameKind)) (h : Heap), Stays h (pushCells h names) := fun names h => .of fun b o e => pushCells_keeps names h b o e
theorem ltN' {h : Heap} {b : Nat} {ob : Obj} (e : h.get? b = some ob) : @LT.lt Nat _ b h.objs.size := Heap.lt_size e
/-- the loop of a comprehension -/
theorem comp_block {c : Cx} {n : Nat} {sc scope : Scope} {Γ : Ctx} {A : Around} {env : Env} {s s₂ : Shared} {E : Value → Shared → Prop} {ds : List D} {I : Addr} {fp wr : List Addr} {PP : Nat → Value → Prop} {St : Nat → Heap → Prop}
    {elt iter tgt : PySem.Expr} {ifs : List PySem.Expr} {pos : Pos} {RR : Value → Addr → Result → Shared → Prop} (T : Nat → Ctx) (q : Nat → Bool) (f : Nat → D)
    (F : Fm sc env) (o : OkA n A) (W : Wd c A s.heap) (V : Vars env s.heap Γ) (it : Iter c.prog c.w A s s₂ ds I fp wr PP St) (ok : compOk scope sc = true) (hz : ds.length ≤ sizeLine)
    (htg : (∃ x p, tgt = .Name x p) ∨ ∃ es m p, tgt = .Tuple es m p) (htup : (∃ es m p, tgt = .Tuple es m p) → ∀ d ∈ ds, ∃ l, d = .tuple l)
    (hasg : ∀ C i d, ds[i]? = some d → (C : Addr) = C → Asg c tgt (cEnv scope (closG env scope.names []) C env) (cellsFrom (C + 1) scope.names []) d (T i))
    (htest : ∀ i d, ds[i]? = some d → Tests c n (relS scope sc) (join2 (T i) (inn scope Γ)) ifs (q i))
    (helt : ∀ i d, ds[i]? = some d → q i = true → Ev c n (relS scope sc) (join2 (T i) (inn scope Γ)) false elt (f i)) (hnol : ∀ i d, ds[i]? = some d → q i = true → nol (f i) = true)
    (hRR : ∀ Dd C h' tk, s₂.heap.get? Dd = none → s₂.heap.get? C = none → Dd ≠ C → (∃ m, h'.Ns C m) → KeepOff wr s₂.heap h' →
      (∃ ys, PL h' Dd ys.toArray ∧ RdAll h' ys (((List.range ds.length).filter q).map f) []) → RR (.ref Dd) C (.ok .next) { s₂ with heap := h', toks := tk }) :
    wpAny (model c.prog c.w) A (newList []) (fun acc s₃ => wpAny (model c.prog c.w) A (newFunctionEnv scope env.globals (closG env scope.names []) [] env.qual none .none (some env)) (fun cenv s₄ =>
      codeAny (model c.prog c.w) A (.compStart (.ListComp elt [⟨tgt, iter, ifs, 0⟩] scope pos) 0 (.ref I) acc { cenv with scope := relabel scope env }) (RR acc cenv.locals) s₄) E s₃) E s₂ := by
  have okk := ok
  unfold compOk at okk
  simp only [Bool.and_eq_true, beq_iff_eq, decide_eq_true_eq, List.all_eq_true] at okk
  obtain ⟨⟨hk, hnd⟩, hall⟩ := okk
  refine wpAny_newList (items := []) ?_
  -- the accumulator
  generalize hH1 : s₂.heap.push { cls := .type "list", data := .seq ([] : List Value).toArray } = H1
  have hsz1 : H1.objs.size = s₂.heap.objs.size + 1 := by rw [← hH1, Heap.size_push]
  have st1' : ∀ b ob, s₂.heap.get? b = some ob → H1.get? b = some ob := fun b ob e => by rw [← hH1]; exact Heap.get?_push_of_some _ e
  have hacc1 : H1.get? s₂.heap.objs.size = some { cls := .type "list", data := .seq ([] : List Value).toArray } := by rw [← hH1]; exact Heap.get?_push_size _ rfl
  simp only [newFunctionEnv, Option.isSome_some, if_true]
  refine wpAny_bind (wpAny_alloc ?_)
  refine wpAny_bind (wpAny_layCells _ (fun name kind cells => by cases hkc : kind == NameKind.cell <;> simp [hkc]) _ _ _ _ ?_)
  refine wpAny_bind ?_
  rw [List.forIn_nil]
  refine wpAny_pure (wpAny_pure ?_)
  dsimp only
  rw [Heap.size_push]
  generalize hC : H1.objs.size = C
  have hCs : C = s₂.heap.objs.size + 1 := by rw [← hC, hsz1]
  generalize hH3 : pushCells (H1.push { cls := .type "dict", data := .dict #[] }) scope.names = H3
  have st3' : ∀ b ob, H1.get? b = some ob → H3.get? b = some ob := fun b ob e => by rw [← hH3]; exact pushCells_keeps _ _ b ob (Heap.get?_push_of_some _ e)
  have st3 : Stays H1 H3 := .of st3'
  have hns3 : ∃ m, H3.Ns C m := by
    refine ⟨_, (show H3.Ns C fun _ => none from ?_)⟩
    rw [← hH3, ← hC]
    exact (Heap.Ns.new H1 (.type "dict")).keeps (pushCells_keeps _ _)
  have okc := cellsFrom_ok scope.names (H1.push { cls := .type "dict", data := .dict #[] }) (C + 1) [] ⟨fun _ _ hm => (nomatch hm), List.Pairwise.nil⟩ (by rw [Heap.size_push, hC]; exact Nat.le_refl _)
  rw [Heap.size_push, hC, hH3] at okc
  have hnc : ∀ y a, (y, a) ∈ cellsFrom (C + 1) scope.names [] → H3.IsCell a none ∧ C + 1 ≤ a := okc.empty
  have fresh : ∀ a, s₂.heap.objs.size ≤ a → s₂.heap.get? a = none := fun a ha => Heap.get?_none_of_le ha
  have fplt : ∀ b : Nat, b ∈ fp → @LT.lt Nat _ b s₂.heap.objs.size := fun b hb => let ⟨ob, e, _⟩ := it.fp b hb; ltN' e
  have wrlt : ∀ b : Nat, b ∈ wr → @LT.lt Nat _ b s₂.heap.objs.size := fun b hb => fplt b (it.walks.sub b hb)
  -- what stays the loop through: its invariant
  let Inv : Nat → Shared → Prop := fun i s' => ∃ h' tk, s' = { s₂ with heap := h', toks := tk } ∧ KeepOff wr s₂.heap h' ∧ St i h' ∧ (∃ m, h'.Ns C m) ∧ (∀ y a, (y, a) ∈ cellsFrom (C + 1) scope.names [] → ∃ v, h'.IsCell a v) ∧
    ∃ ys, PL h' s₂.heap.objs.size ys.toArray ∧ RdAll h' ys (((List.range i).filter q).map f) []
  have loop : ∀ s₄, Inv 0 s₄ → codeAny (model c.prog c.w) A (.compLoop (.ListComp elt [⟨tgt, iter, ifs, 0⟩] scope pos) 0 (.ref I) (.ref s₂.heap.objs.size) (cEnv scope (closG env scope.names []) C env)) (RR (.ref s₂.heap.objs.size) C) s₄ := by
    intro s₄ h4
    refine compLoop_g (fun k s' => ∃ i, i ≤ ds.length ∧ k = ds.length + 1 - i ∧ Inv i s') (fun k s' E' hI => ?_) (ds.length + 1) ⟨0, Nat.zero_le _, rfl, h4⟩
    obtain ⟨i, hi, rfl, h', tk, rfl, hkeep, hst, hns, hcells, ys, hys, hrd⟩ := hI
    have hys' := id hys
    by_cases hlt : i < ds.length
    · refine it.walks.item i _ _ _ hlt hst fun v h₁ tk₁ hv hst₁ hk₁ => ?_
      obtain ⟨d, hd, rd⟩ := it.item i v hv
      have keep1 : KeepOff wr s₂.heap h₁ := hkeep.exact fun b ob _ hb _ e => hk₁ b ob hb e
      have Cwr : C ∉ wr := fun q => by have := wrlt C q; omega
      have Dwr : s₂.heap.objs.size ∉ wr := fun q => Nat.lt_irrefl _ (wrlt _ q)
      have ncwr : ∀ y a, (y, a) ∈ cellsFrom (C + 1) scope.names [] → a ∉ wr := fun y a h q => by have := wrlt a q; have := (hnc y a h).2; omega
      have offs2 : ∀ b ∈ wr, OffO s₂.heap b := it.off 0 _ it.st
      have rd1 : Rd h₁ v d [] := rd.carry (Carry.offs (S := []) offs2 keep1) fun _ h => h
      have ns1 : ∃ m, h₁.Ns C m := by obtain ⟨m, ob, es, ep, e, r⟩ := hns; exact ⟨m, ob, es, ep, hk₁ _ _ Cwr e, r⟩
      have cells1 : ∀ y a, (y, a) ∈ cellsFrom (C + 1) scope.names [] → ∃ v, h₁.IsCell a v := fun y a hm => by obtain ⟨v, ob, e, dd⟩ := hcells y a hm; exact ⟨v, ob, hk₁ _ _ (ncwr y a hm) e, dd⟩
      have D1 : PL h₁ s₂.heap.objs.size ys.toArray := hys'.keeps fun _ e => hk₁ _ _ Dwr e
      have rdD1 : RdAll h₁ ys (((List.range i).filter q).map f) [] := hrd.carry (Carry.offs (S := []) (it.off i _ hst) (.of hk₁)) fun _ h => h
      refine (show wpAny _ _ _ _ _ _ from ?_ : _)
      have go : ∀ (Q' : Unit → Shared → Prop), Q' () { s₂ with heap := h₁, toks := tk₁ } → wpAny (model c.prog c.w) A (letOwnedTupleGo tgt (.ref I) v) Q' E' { s₂ with heap := h₁, toks := tk₁ } := fun Q' hq => by
        rcases htg with ⟨x, p, rfl⟩ | ⟨es, m, p, rfl⟩
        · exact wpAny_pure hq
        · obtain ⟨l, rfl⟩ := htup ⟨es, m, p, rfl⟩ d (List.mem_of_getElem? hd)
          obtain ⟨a, vs, rfl, _, _⟩ := rd.tuple_inv
          exact it.go (i + 1) h₁ es m p a hst₁ _ E' Q' rfl hq
      refine go _ ?_
      refine hasg C i d hd rfl A _ v E' _ o.h rd1 ns1 cells1 fun h₂ tk₂ keep2 ns2 cells2 hT => ?_
      have keep12 : KeepOff wr s₂.heap h₂ := keep1.exact fun b ob ob' hb e e1 => keep2 b ob (fun q => by
        have := ltN' e; have : @Eq Nat b C := q; omega) (fun y q => by have := (hnc y b q).2; have := ltN' e; omega) e1
      have car : ∀ S, Carry S s₂.heap h₂ := fun S => Carry.offs offs2 keep12
      have V2 : Vars (cEnv scope (closG env scope.names []) C env) h₂ (join2 (T i) (inn scope Γ)) := fun y d' e => by
        unfold join2 at e
        cases hTy : T i y with
        | some d'' =>
          rw [hTy] at e
          cases e
          obtain ⟨v', a', r'⟩ := hT y _ hTy
          exact ⟨v', [], a', r'⟩
        | none =>
          rw [hTy] at e
          unfold inn at e
          dsimp only at e
          by_cases hfr : scope.names.lookup y = some .free
          · rw [if_pos hfr] at e
            obtain ⟨v', as', a', r'⟩ := V y d' e
            refine ⟨v', as', inn_at F ok hfr (a'.stays it.kp.st) fun qq _ hcell => ?_, ((r'.stays it.kp.st).carry (car as') fun _ h => h)⟩
            obtain ⟨ob, e1, e2⟩ := hcell
            exact ⟨ob, keep12.ex (fun hw => by
              obtain ⟨o', e', _, h1, _⟩ := offs2 _ hw
              rw [e1] at e'; cases e'; exact h1 _ e2) e1 (notDic_cell e2), e2⟩
          · rw [if_neg hfr] at e; cases e
      have F2 : Fm (relS scope sc) (cEnv scope (closG env scope.names []) C env) := cEnv_fm F hk
      have W2 : Wd c A h₂ := W.stays (keep12.up it.kp.st it.new)
      have hst2 : St (i + 1) h₂ := it.walks.frame _ _ _ hst₁ fun b hb ob e => keep2 b ob (fun q => by have := fplt b hb; have : @Eq Nat b C := q; omega) (fun y q => by have := (hnc y b q).2; have := fplt b hb; omega) e
      have fpnd : ∀ b ∈ fp, ∀ ob, h₂.get? b = some ob → ¬ IsDic ob := fun b hb ob e => by
        by_cases hw : b ∈ wr
        · obtain ⟨o', e', h1, _⟩ := it.off (i + 1) h₂ hst2 b hw
          rw [e] at e'; cases e'
          exact fun ⟨x, y, q⟩ => h1 x y q
        · obtain ⟨o', e', nd⟩ := it.fp b hb
          have := keep12.ex hw e' nd
          rw [e] at this; cases this
          exact nd
      have D2 : PL h₂ s₂.heap.objs.size ys.toArray :=
        D1.keeps fun _ e => keep2 _ _ (fun q => by have : @Eq Nat s₂.heap.objs.size C := q; omega) (fun y q => by have := (hnc y _ q).2; omega) e
      have car2 : Carry [] h₁ h₂ := by
        refine ⟨(fun _ _ h => nomatch h), fun a vs ⟨ob, e, r⟩ => ⟨ob, keep2 a ob (fun q => ?_) (fun y q => ?_) e, r⟩, fun a ob fd e dd => ⟨ob, keep2 a ob (fun q => ?_) (fun y q => ?_) e, dd⟩, fun _ _ ⟨a, ob, vs, tt, e1, e, dd, e4⟩ => ⟨a, ob, vs, tt, e1, keep2 a ob (fun q => ?_) (fun y q => ?_) e, dd, e4⟩⟩
        · obtain ⟨m, o', es, ep, e', d', _⟩ := ns1
          have q' : a = C := q
          subst q'
          rw [e] at e'; cases e'
          obtain ⟨_, _, r⟩ := r
          rw [r] at d'; cases d'
        · obtain ⟨v', o', e', d'⟩ := cells1 y a q
          rw [e] at e'; cases e'
          obtain ⟨_, _, r⟩ := r
          rw [r] at d'; cases d'
        · obtain ⟨m, o', es, ep, e', d', _⟩ := ns1
          have q' : a = C := q
          subst q'
          rw [e] at e'; cases e'
          rw [dd] at d'; cases d'
        · obtain ⟨v', o', e', d'⟩ := cells1 y a q
          rw [e] at e'; cases e'
          rw [dd] at d'; cases d'
        · obtain ⟨m, o', es, ep, e', d', _⟩ := ns1
          have q' : a = C := q
          subst q'
          rw [e] at e'; cases e'
          rw [dd] at d'; cases d'
        · obtain ⟨v', o', e', d'⟩ := cells1 y a q
          rw [e] at e'; cases e'
          rw [dd] at d'; cases d'
      have rdD2 : RdAll h₂ ys (((List.range i).filter q).map f) [] := rdD1.carry car2 fun _ h => h
      have cont : ∀ s₃, Kp { s₂ with heap := h₂, toks := tk₂ } s₃ →
          (if q i = true then wpAny (model c.prog c.w) A (eval elt (cEnv scope (closG env scope.names []) C env)) (fun x s₄ => wpAny (model c.prog c.w) A (call (.builtin "list.append") [.ref s₂.heap.objs.size, x]) (fun _ s₅ => ∃ m, m < ds.length + 1 - i ∧ ∃ i, i ≤ ds.length ∧ m = ds.length + 1 - i ∧ Inv i s₅) E' s₄) E' s₃
           else ∃ m, m < ds.length + 1 - i ∧ ∃ i, i ≤ ds.length ∧ m = ds.length + 1 - i ∧ Inv i s₃) := by
        intro s₃ k3
        have hrange : ((List.range (i + 1)).filter q).map f = ((List.range i).filter q).map f ++ (if q i = true then [f i] else []) := by
          rw [List.range_succ, List.filter_append, List.map_append]
          by_cases hq : q i = true
          · simp [hq]
          · simp [hq]
        by_cases hq : q i = true
        · rw [if_pos hq]
          refine helt i d hd hq _ A s₃ E' _ F2 o (W2.stays k3.st) (V2.stays k3.st) fun x as s₅ k5 r5 _ => ?_
          obtain rfl := r5.nol (hnol i d hd hq)
          have k35 := k3.trans' k5
          obtain ⟨h5, t5, rfl, st5⟩ := k35
          have D5 : PL h5 s₂.heap.objs.size ys.toArray := D2.stays st5
          refine wpAny_list_append_plain D5 (fun h6 hl6 hs6 => ?_) (by
            rw [List.size_toArray, rdD2.length, List.length_map]
            have := List.length_filter_le q (List.range i)
            rw [List.length_range] at this
            omega)
          refine ⟨ds.length + 1 - (i + 1), by omega, i + 1, by omega, rfl, h6, t5, rfl, (keep12.stays st5).exact fun b ob _ hb e e1 => (hs6.2 b fun z => ?_).trans e1, ?_, ?_, fun y a hm => ?_, ys ++ [x], ?_, ?_⟩
          · rw [z, fresh _ (Nat.le_refl _)] at e; cases e
          · exact it.walks.frame _ _ _ hst2 fun b hb ob e => (hs6.2 b fun z => by have := fplt b hb; have : @Eq Nat b s₂.heap.objs.size := z; omega).trans (st5.ex e (fpnd b hb ob e))
          · obtain ⟨m, hm⟩ := ns2
            obtain ⟨ob, es, ep, e, r⟩ := ns_stays hm st5
            exact ⟨m, ob, es, ep, (hs6.2 C fun z => by have : @Eq Nat C s₂.heap.objs.size := z; omega).trans e, r⟩
          · obtain ⟨v', ob, e, dd⟩ := cells2 y a hm
            exact ⟨v', ob, (hs6.2 a fun z => by have := (hnc y a hm).2; have : @Eq Nat a s₂.heap.objs.size := z; omega).trans (st5.ex e (notDic_cell dd)), dd⟩
          · have : (ys ++ [x]).toArray = ys.toArray.push x := by simp
            rw [this]; exact hl6
          · rw [hrange, if_pos hq]
            have c6 : Carry [] h5 h6 := Carry.offList D5.is (fun h => nomatch h) hs6
            exact ((rdD2.stays st5).carry c6 fun _ h => h).append (.cons (as := []) (bs := []) (r5.carry c6 fun _ h => h) .nil)
        · rw [if_neg hq]
          obtain ⟨h3, t3, rfl, st3'⟩ := k3
          refine ⟨ds.length + 1 - (i + 1), by omega, i + 1, by omega, rfl, h3, t3, rfl, keep12.stays st3', ?_, ?_, fun y a hm => ?_, ys, ?_, ?_⟩
          · exact it.walks.frame _ _ _ hst2 fun b hb ob e => st3'.ex e (fpnd b hb ob e)
          · obtain ⟨m, hm⟩ := ns2; exact ⟨m, ns_stays hm st3'⟩
          · obtain ⟨v', hv'⟩ := cells2 y a hm; exact ⟨v', cell_stays hv' st3'⟩
          · exact D2.stays st3'
          · rw [hrange, if_neg hq, List.append_nil]; exact rdD2.stays st3'
      have ht := htest i d hd
      match ifs, ht with
      | [], hb =>
        have hb : q i = true := hb
        refine wpAny_tests_nil ?_
        have := cont _ (.rfl' _)
        rw [if_pos hb] at this
        rw [if_pos rfl]; exact this
      | [t], hb =>
        refine wpAny_tests_one (hb _ A _ E' _ F2 o W2 V2 fun s₃ k3 => ?_)
        exact cont s₃ k3
    · have hin : i = ds.length := by omega
      subst hin
      refine it.walks.done _ _ _ hst fun h₁ tk₁ hk₁ => ?_
      have Cwr : C ∉ wr := fun q => by have := wrlt C q; omega
      have Dwr : s₂.heap.objs.size ∉ wr := fun q => Nat.lt_irrefl _ (wrlt _ q)
      refine hRR _ C h₁ tk₁ (fresh _ (Nat.le_refl _)) (fresh _ (by rw [hCs]; exact Nat.le_succ _)) (fun z => by have : @Eq Nat s₂.heap.objs.size C := z; omega) ?_ (hkeep.exact fun b ob _ hb _ e => hk₁ b ob hb e) ⟨ys, ?_, ?_⟩
      · obtain ⟨m, ob, es, ep, e, r⟩ := hns; exact ⟨m, ob, es, ep, hk₁ _ _ Cwr e, r⟩
      · exact hys'.keeps fun _ e => hk₁ _ _ Dwr e
      · exact hrd.carry (Carry.offs (S := []) (it.off _ _ hst) (.of hk₁)) fun _ h => h
  have h0 : Inv 0 { s₂ with heap := H3, toks := s₂.toks } := by
    refine ⟨H3, s₂.toks, rfl, KeepOff.of (fun b ob _ e => st3' _ _ (st1' _ _ e)), it.walks.frame _ _ _ it.st fun b _ ob e => st3' _ _ (st1' _ _ e), hns3, fun y a hm => ⟨none, (hnc y a hm).1⟩, [], ⟨_, st3' _ _ hacc1⟩, ?_⟩
    simpa using RdAll.nil
  have hst0 : St 0 H3 := by obtain ⟨h', tk, e, _, hst, _⟩ := h0; cases e; exact hst
  exact codeAny_compStart_list (loop _ h0) (it.walks.self 0 _ _ _ hst0 (loop _ h0))
end Mine
end
section
open PySem PySem.W PyProof.Rows PySem.Calls
set_option linter.unusedSectionVars false
set_option linter.unusedVariables false
set_option maxRecDepth 100000
namespace Mine
variable [Bd]
section
variable {c : Cx} {n : Nat} {sc scope : Scope} {Γ : Ctx} {fr : Bool}
theorem asg_local {x : PySem.Str} {p : Pos} {env' : Env} {nc : List (PySem.Str × Addr)} {d : D} (hk : env'.scope.kind = .function) (hx : env'.kindOf x = some .local) : Asg c (.Name x p) env' nc d (upd emp x d) := by
  intro A s v E Q hh rd ns cells h
  obtain ⟨m, hm⟩ := ns
  refine wpAny_assign_Name (wpAny_storeName_local hx hm (fun h' hn' hs' => ?_) (by rw [hk]; rfl))
  have ca : Carry [] s.heap h' := by
    obtain ⟨o, es, ep, ho, hd, _⟩ := hm
    exact Carry.off ho ⟨fun _ _ q => (by rw [hd] at q; cases q), fun _ q => (by rw [hd] at q; cases q), fun _ q => (by rw [hd] at q; cases q)⟩ hs'
  refine h h' _ (fun b o hb _ e => (hs'.2 b hb).trans e) ⟨_, hn'⟩ (fun y q hq => ?_) fun y d' e => ?_
  · obtain ⟨u, hu⟩ := cells y q hq
    exact ⟨u, hu.sameBut hs' (cell_ne_ns hm hu)⟩
  · by_cases hy : y = x
    · subst hy
      rw [upd_same] at e; cases e
      exact ⟨v, .inl ⟨hx, _, hn', by simp⟩, rd.carry ca fun _ h => h⟩
    · rw [upd_other hy rfl] at e; cases e
theorem asg_cell {x : PySem.Str} {p : Pos} {env' : Env} {nc : List (PySem.Str × Addr)} {d : D} {q : Addr} (hk : env'.scope.kind = .function) (hx : env'.kindOf x = some .cell) (hq : env'.cells.lookup x = some q) (hm : (x, q) ∈ nc) : Asg c (.Name x p) env' nc d (upd emp x d) := by
  intro A s v E Q hh rd ns cells h
  obtain ⟨u, hu⟩ := cells x q hm
  refine wpAny_assign_Name (wpAny_storeName_cell hk hx hq hu fun h' hc' hs' => ?_)
  have ca : Carry [] s.heap h' := by
    obtain ⟨o, ho, hd⟩ := hu
    exact Carry.off ho ⟨fun _ _ q => (by rw [hd] at q; cases q), fun _ q => (by rw [hd] at q; cases q), fun _ q => (by rw [hd] at q; cases q)⟩ hs'
  refine h h' s.toks (fun b o _ hb e => (hs'.2 b fun z => hb x (z ▸ hm)).trans e) ?_ (fun y a ha => ?_) fun y d' e => ?_
  · obtain ⟨m, hn⟩ := ns
    exact ⟨m, hn.sameBut hs' (Ne.symm (cell_ne_ns hn hu))⟩
  · by_cases haq : a = q
    · subst haq; exact ⟨_, hc'⟩
    · obtain ⟨u', hu'⟩ := cells y a ha
      exact ⟨u', hu'.sameBut hs' haq⟩
  · by_cases hy : y = x
    · subst hy
      rw [upd_same] at e; cases e
      exact ⟨v, .inr ⟨q, .inl hx, hq, hc'⟩, rd.carry ca fun _ h => h⟩
    · rw [upd_other hy rfl] at e; cases e
theorem asg_tuple {x y : PySem.Str} {p1 p2 p : Pos} {k : Nat} {env' : Env} {nc : List (PySem.Str × Addr)} {d e : D} (hk : env'.scope.kind = .function) (hx : env'.kindOf x = some .local) (hy : env'.kindOf y = some .local) (hxy : x ≠ y) (fd : flat d = true) (fe : flat e = true) :
    Asg c (.Tuple [.Name x p1, .Name y p2] k p) env' nc (.tuple [d, e]) (upd (upd emp x d) y e) := by
  intro A s v E Q hh rd ns cells h
  obtain ⟨t, vs, rfl, ht, rl⟩ := rd.tuple_inv
  obtain ⟨v1, v2, as, bs, rfl, _, r1, r2⟩ := rl.two
  obtain rfl := r1.flat fd
  obtain rfl := r2.flat fe
  refine wpAny_assign_Tuple hh ht rfl rfl fun h1 he => ?_
  have new : ∀ b o, s.heap.get? b = some o → h1.get? b = some o := fun b o e => he b o (Nat.ne_of_lt (Heap.lt_size e)) e
  have ns1 : ∃ m, h1.Ns env'.locals m := let ⟨m, hm⟩ := ns; ⟨m, hm.keeps new⟩
  have cells1 : ∀ y q, (y, q) ∈ nc → ∃ v, h1.IsCell q v := fun y q hq => let ⟨u, hu⟩ := cells y q hq; ⟨u, hu.keeps new⟩
  obtain ⟨m, hm⟩ := ns1
  have hp : (env'.scope.kind == .class || (env'.scope.kind == .module && env'.locals != env'.globals)) = false := by rw [hk]; rfl
  refine wpAny_assignInOrder_more (wpAny_assign_Name (wpAny_storeName_local hx hm (fun h2 hn2 hs2 => ?_) hp))
  refine wpAny_assignInOrder_more (wpAny_assign_Name (wpAny_storeName_local (s := { s with heap := h2, toks := _ }) hy hn2 (fun h3 hn3 hs3 => wpAny_assignInOrder_none ?_) hp))
  have ca2 : Carry [] h1 h2 := by
    obtain ⟨o, es, ep, ho, hd, _⟩ := hm
    exact Carry.off ho ⟨fun _ _ q => (by rw [hd] at q; cases q), fun _ q => (by rw [hd] at q; cases q), fun _ q => (by rw [hd] at q; cases q)⟩ hs2
  have ca3 : Carry [] h2 h3 := by
    obtain ⟨o, es, ep, ho, hd, _⟩ := hn2
    exact Carry.off ho ⟨fun _ _ q => (by rw [hd] at q; cases q), fun _ q => (by rw [hd] at q; cases q), fun _ q => (by rw [hd] at q; cases q)⟩ hs3
  refine h h3 _ (fun b o hb _ ee => (hs3.2 b hb).trans ((hs2.2 b hb).trans (new _ _ ee))) ⟨_, hn3⟩ (fun z q hq => ?_) fun z d' e' => ?_
  · obtain ⟨u, hu⟩ := cells1 z q hq
    have hqL := cell_ne_ns hm hu
    exact ⟨u, (hu.sameBut hs2 hqL).sameBut hs3 hqL⟩
  · by_cases hz : z = y
    · subst hz
      rw [upd_same] at e'; cases e'
      exact ⟨v2, .inl ⟨hy, _, hn3, by simp⟩, (((r2.stays (.of new)).carry ca2 fun _ h => h).carry ca3 fun _ h => h)⟩
    · rw [upd_other hz rfl] at e'
      by_cases hzx : z = x
      · subst hzx
        rw [upd_same] at e'; cases e'
        exact ⟨v1, .inl ⟨hx, _, hn3, by simp [hz]⟩, (((r1.stays (.of new)).carry ca2 fun _ h => h).carry ca3 fun _ h => h)⟩
      · rw [upd_other hzx rfl] at e'; cases e'
theorem compOk_kind (h : compOk scope sc = true) : scope.kind = .function := by
  unfold compOk at h
  simp only [Bool.and_eq_true, beq_iff_eq] at h
  exact h.1.1
theorem compOk_local (h : compOk scope sc = true) : ∀ x ∈ scope.names, x.2 = .local → scope.names.lookup x.1 = some .local := by
  unfold compOk at h
  simp only [Bool.and_eq_true, beq_iff_eq, decide_eq_true_eq] at h
  rintro ⟨y, k⟩ hx rfl
  exact lookup_mem_nodup h.1.2 hx
theorem clos_ok {env : Env} {h : Heap} (F : Fm sc env) (ok : compOk scope sc = true) (hf : HasFree Γ scope.names) (V : Vars env h Γ) : closureFor scope env = pure (closG env scope.names []) := by
  refine closure_eq fun y hy => ?_
  obtain ⟨d, hd⟩ := hf.mem hy
  obtain ⟨v, as, a, _⟩ := V y d hd
  unfold compOk at ok
  simp only [Bool.and_eq_true, beq_iff_eq, decide_eq_true_eq, List.all_eq_true] at ok
  have := ok.2 _ hy
  simp only [Bool.and_eq_true, Bool.or_eq_true, beq_iff_eq] at this
  rcases a with ⟨p, _⟩ | ⟨q, _, b, _⟩
  · exfalso
    unfold Env.kindOf at p
    rw [F.names] at p
    rcases this.1 with z | z <;> (rw [p] at z; cases z)
  · exact ⟨q, b⟩
/-- a target of a comprehension -/
inductive TgtOk (scope : Scope) : PySem.Expr → D → Ctx → Prop
  | loc {x p d} : scope.names.lookup x = some .local → TgtOk scope (.Name x p) d (upd emp x d)
  | cell {x p d} : scope.names.lookup x = some .cell → TgtOk scope (.Name x p) d (upd emp x d)
  | pair {x y p1 p2 p k d e} : scope.names.lookup x = some .local → scope.names.lookup y = some .local → x ≠ y → flat d = true → flat e = true → TgtOk scope (.Tuple [.Name x p1, .Name y p2] k p) (.tuple [d, e]) (upd (upd emp x d) y e)
theorem tgt_asg {tgt : PySem.Expr} {d : D} {T : Ctx} {env : Env} {C : Addr} (F : Fm sc env) (ok : compOk scope sc = true) (h : TgtOk scope tgt d T) : Asg c tgt (cEnv scope (closG env scope.names []) C env) (cellsFrom (C + 1) scope.names []) d T := by
  have hk : (cEnv scope (closG env scope.names []) C env).scope.kind = .function := show scope.kind = .function from compOk_kind ok
  have hl : ∀ x, scope.names.lookup x = some .local → (cEnv scope (closG env scope.names []) C env).kindOf x = some .local := fun x h => by
    unfold Env.kindOf cEnv
    dsimp only
    rw [rel_names F, lookup_rel, h]
    rfl
  cases h with
  | loc h => exact asg_local hk (hl _ h)
  | cell h =>
    rename_i x p
    have hx : (cEnv scope (closG env scope.names []) C env).kindOf x = some .cell := by
      unfold Env.kindOf cEnv
      dsimp only
      rw [rel_names F, lookup_rel, h]
      rfl
    have nd : (scope.names.map (·.1)).Nodup := by
      unfold compOk at ok
      simp only [Bool.and_eq_true, beq_iff_eq, decide_eq_true_eq] at ok
      exact ok.1.2
    have has : ∀ (l : List (PySem.Str × NameKind)) (n : Nat) (acc : List (PySem.Str × Addr)), ((x, NameKind.cell) ∈ l ∨ ∃ a, (x, a) ∈ acc) → ∃ a, (x, a) ∈ cellsFrom n l acc := by
      intro l
      induction l with
      | nil => intro n acc h; exact h.elim (fun q => nomatch q) id
      | cons p r ih =>
        obtain ⟨z, k⟩ := p
        intro n acc h
        unfold cellsFrom
        split
        · refine ih _ _ ?_
          rcases h with h | ⟨a, h⟩
          · rcases List.mem_cons.mp h with e | h
            · cases e; exact .inr ⟨_, .head _⟩
            · exact .inl h
          · exact .inr ⟨a, .tail _ h⟩
        · rename_i hk'
          refine ih _ _ ?_
          rcases h with h | h
          · rcases List.mem_cons.mp h with e | h
            · cases e; exact absurd rfl hk'
            · exact .inl h
          · exact .inr h
    obtain ⟨a, ha⟩ := has scope.names (C + 1) [] (.inl (mem_of_lookup h))
    have hlook : ∃ q, (cellsFrom (C + 1) scope.names []).lookup x = some q := by
      cases hq : (cellsFrom (C + 1) scope.names []).lookup x with
      | some q => exact ⟨q, rfl⟩
      | none =>
        have := List.lookup_eq_none_iff.mp hq _ ha
        simp at this
    obtain ⟨q, hq⟩ := hlook
    have hq' : (cEnv scope (closG env scope.names []) C env).cells.lookup x = some q := by
      show (cellsFrom (C + 1) scope.names (closG env scope.names [])).lookup x = some q
      have e1 : cellsFrom (C + 1) scope.names (closG env scope.names []) = cellsFrom (C + 1) scope.names [] ++ closG env scope.names [] := cellsFrom_app scope.names (C + 1) [] _
      rw [e1]
      have app : ∀ (l r : List (PySem.Str × Addr)), l.lookup x = some q → (l ++ r).lookup x = some q := by
        intro l r
        induction l with
        | nil => intro h; cases h
        | cons p l ih =>
          obtain ⟨z, b⟩ := p
          intro h
          rw [List.cons_append, List.lookup_cons]
          rw [List.lookup_cons] at h
          cases t : x == z with
          | true => rw [t] at h; exact h
          | false => rw [t] at h; exact ih h
      exact app _ _ hq
    exact asg_cell hk hx hq' (mem_of_lookup hq)
  | pair h1 h2 h3 h4 h5 => exact asg_tuple hk (hl _ h1) (hl _ h2) h3 h4 h5
theorem TgtOk.form {tgt : PySem.Expr} {d : D} {T : Ctx} (h : TgtOk scope tgt d T) : ((∃ x p, tgt = .Name x p) ∨ ∃ es m p, tgt = .Tuple es m p) ∧ ((∃ es m p, tgt = .Tuple es m p) → ∃ l, d = .tuple l) := by
  cases h with
  | loc _ => exact ⟨.inl ⟨_, _, rfl⟩, fun ⟨_, _, _, e⟩ => nomatch e⟩
  | cell _ => exact ⟨.inl ⟨_, _, rfl⟩, fun ⟨_, _, _, e⟩ => nomatch e⟩
  | pair _ _ _ _ _ => exact ⟨.inr ⟨_, _, _, rfl⟩, fun _ => ⟨_, rfl⟩⟩
/-- a comprehension's value, by places -/
theorem ev_comp {elt iter tgt : PySem.Expr} {ifs : List PySem.Expr} {pos : Pos} {ds : List D} (T : Nat → Ctx) (q : Nat → Bool) (f : Nat → D) (hs : ItSrc c n sc Γ iter ds) (ok : compOk scope sc = true) (hf : HasFree Γ scope.names) (hz : ds.length ≤ sizeLine)
    (hfs : ∀ env x, foldedSetIterable iter env x = pure x) (htg : (∃ x p, tgt = .Name x p) ∨ ∃ es m p, tgt = .Tuple es m p)
    (ht : ∀ i d, ds[i]? = some d → TgtOk scope tgt d (T i))
    (htest : ∀ i d, ds[i]? = some d → Tests c n (relS scope sc) (join2 (T i) (inn scope Γ)) ifs (q i))
    (helt : ∀ i d, ds[i]? = some d → q i = true → Ev c n (relS scope sc) (join2 (T i) (inn scope Γ)) false elt (f i)) (hnol : ∀ i d, ds[i]? = some d → q i = true → nol (f i) = true) :
    Ev c n sc Γ fr (.ListComp elt [⟨tgt, iter, ifs, 0⟩] scope pos) (.list (((List.range ds.length).filter q).map f)) := by
  intro env A s E Q F o W V h
  rw [eval_ListComp]
  refine wpAny_comprehension_free (use := none) rfl (hfs env) (clos_ok F ok hf V) (compOk_kind ok) (compOk_local ok) (hs env A s E _ F o W V fun I fp wr PP St s₂ it => ?_)
  have htup : (∃ es m p, tgt = .Tuple es m p) → ∀ d ∈ ds, ∃ l, d = .tuple l := fun e d hd => by
    obtain ⟨i, hi⟩ := List.getElem?_of_mem hd
    exact (ht i d hi).form.2 e
  refine comp_block T q f F o W V it ok hz htg htup (fun C i d hd _ => tgt_asg F ok (ht i d hd)) htest helt hnol fun Dd C h' tk hD hC hDC hns hk hys => ?_
  obtain ⟨m, hm⟩ := hns
  obtain ⟨ys, hl, hr⟩ := hys
  refine ⟨m, hm, fun h'' hs'' => ?_⟩
  have ca : Carry [] h' h'' := by
    obtain ⟨o, es, ep, ho, hd, _⟩ := hm
    exact Carry.off ho ⟨fun _ _ q => (by rw [hd] at q; cases q), fun _ q => (by rw [hd] at q; cases q), fun _ q => (by rw [hd] at q; cases q)⟩ hs''
  have hl' : PL h'' Dd ys.toArray := hl.keeps fun _ e => (hs''.2 Dd hDC).trans e
  have k12 := it.kp
  have kp : Kp s { s₂ with heap := h'', toks := tk } := by
    obtain ⟨hh, tt, rfl, st⟩ := k12
    exact ⟨h'', tk, rfl, stays_sameBut (hk.up st it.new) hs'' (st.none hC)⟩
  refine h _ [Dd] _ kp (.list hl' (hr.carry ca fun _ h => h)) fun _ a ha => ?_
  rw [List.mem_singleton.mp ha]
  exact none_up k12.st hD
/-- a comprehension into a name of the frame -/
theorem ex_assign_comp {P : PySem.Str → Bool} {elt iter tgt : PySem.Expr} {ifs : List PySem.Expr} {x : PySem.Str} {px pos p : Pos} {ds : List D} (T : Nat → Ctx) (q : Nat → Bool) (f : Nat → D) (hs : ItSrc c n sc Γ iter ds) (ok : compOk scope sc = true) (hf : HasFree Γ scope.names) (hz : ds.length ≤ sizeLine)
    (hfs : ∀ env x, foldedSetIterable iter env x = pure x) (htg : (∃ x p, tgt = .Name x p) ∨ ∃ es m p, tgt = .Tuple es m p)
    (ht : ∀ i d, ds[i]? = some d → TgtOk scope tgt d (T i))
    (htest : ∀ i d, ds[i]? = some d → Tests c n (relS scope sc) (join2 (T i) (inn scope Γ)) ifs (q i))
    (helt : ∀ i d, ds[i]? = some d → q i = true → Ev c n (relS scope sc) (join2 (T i) (inn scope Γ)) false elt (f i)) (hnol : ∀ i d, ds[i]? = some d → q i = true → nol (f i) = true)
    (hx : sc.names.lookup x = some .local) (hsw : (px.line == pos.line && !(scope.names.any fun y => y.1 == x && (y.2 == .local || y.2 == .cell))) = true) :
    Ex c n sc P Γ (.Assign [.Name x px] (.ListComp elt [⟨tgt, iter, ifs, 0⟩] scope pos) p) (.next (upd Γ x (.list (((List.range ds.length).filter q).map f)))) := by
  intro env A s0 s E Q F o W V h
  have hkx : env.kindOf x = some .local := by unfold Env.kindOf; rw [F.names]; exact hx
  have sw : swapsWith (.ListComp elt [⟨tgt, iter, ifs, 0⟩] scope pos) (some (.Name x px)) p.line env = pure true := by
    unfold swapsWith
    show (pure (env.blockKind == .function && env.kindOf x == some .local && px.line == pos.line && !(scope.names.any fun y => y.1 == x && (y.2 == .local || y.2 == .cell))) : Sem Bool) = pure true
    have e1 : (env.blockKind == ScopeKind.function) = true := by
      unfold Env.blockKind
      rw [F.kind]; rfl
    simp only [Bool.and_eq_true] at hsw
    rw [e1, hkx, hsw.1, hsw.2]; rfl
  rw [exec_Assign_Name_used _ _ _ _ sw]
  refine wpAny_bind (wpAny_standAt (wpAny_bind ?_))
  show wpAny _ A (do let _ ← comprehension (.ListComp elt [⟨tgt, iter, ifs, 0⟩] scope pos) scope env _ (newList []) false (eval iter env) (some (assign (.Name x px) env))) _ _ s
  have W' := V.wd W
  refine wpAny_bind (wpAny_mono (wpAny_comprehension_free (use := some (assign (.Name x px) env)) (Q := fun _ s' => Q .next s') rfl (hfs env) (clos_ok F ok hf V.toVars) (compOk_kind ok) (compOk_local ok) (hs env A s E _ F o W' V.toVars fun I fp wr PP St s₂ it => ?_))
    (fun _ s' hq => wpAny_pure (wpAny_pure hq)) fun _ _ e => e)
  have htup : (∃ es m p, tgt = .Tuple es m p) → ∀ d ∈ ds, ∃ l, d = .tuple l := fun e d hd => by
    obtain ⟨i, hi⟩ := List.getElem?_of_mem hd
    exact (ht i d hi).form.2 e
  refine comp_block T q f F o W' V.toVars it ok hz htg htup (fun C i d hd _ => tgt_asg F ok (ht i d hd)) htest helt hnol fun Dd C h' tk hD hC hDC hns hk hys => ?_
  obtain ⟨m, hm⟩ := hns
  obtain ⟨ys, hl, hr⟩ := hys
  have k12 := it.kp
  have kp : Kp s { s₂ with heap := h', toks := tk } := by
    obtain ⟨hh, tt, rfl, st⟩ := k12
    exact ⟨h', tk, rfl, hk.up st it.new⟩
  have V' := V.grow kp
  obtain ⟨f0, Vf⟩ := V.vars
  have Vf' := Vf.stays kp.st
  have hD0 : s.heap.get? Dd = none := none_up k12.st hD
  have hC0 : s0.heap.get? C = none := none_up V.kp.st (none_up k12.st hC)
  have hCL : C ≠ env.locals := by
    rintro rfl
    obtain ⟨m', ob, es, ep, e, _⟩ := V.ns
    rw [k12.st.none hC] at e; cases e
  -- the base: all but the frame's own and the new list; the comprehension's dict is in it
  obtain ⟨b1, V1, F1⟩ := V'.rebaseX Vf' (fun a => a = Dd) (fun a e => by rw [e]; exact none_up V.kp.st hD0)
  have hCg : ∀ ob, h'.get? C = some ob → (cut (fun a => Mut env P Γ f0 a ∨ a = Dd) h').get? C = some ob := fun ob e => ((cut_get).2 fun z => by
    obtain ⟨o1, es, ep, e1, d1, _⟩ := hm
    rcases z with (z | ⟨y, z⟩ | ⟨y, z1, z2, z3⟩) | z
    · exact hCL z
    · obtain ⟨⟨v', o', q, qd⟩, _⟩ := V'.cell y C z
      have q : h'.get? C = some o' := q
      rw [e1] at q; cases q; rw [d1] at qd; cases qd
    · cases hq : Γ y with
      | none => exact z2 hq
      | some dd =>
        obtain ⟨v', _, r⟩ := Vf'.val y dd hq
        obtain ⟨vs, hpl⟩ := r.lists C z3
        obtain ⟨o', q, _, nn, qd⟩ := hpl.is
        have q : h'.get? C = some o' := q
        rw [e1] at q; cases q; rw [d1] at qd; cases qd
    · exact hDC z.symm).trans e
  show wpAny _ A (assign (.Name x px) env (.ref Dd)) _ _ _
  refine wpAny_assign_Name (store_core (c := c) F1 V1 (Rd.list hl hr) (fun a ha => ?_) (fun y _ hg a ha hf => ?_) F.kind (.inl hkx) fun s₃ F3 => ?_)
  · rw [List.mem_singleton.mp ha]
    exact (cut_get).1 (.inr rfl)
  · rw [List.mem_singleton.mp ha] at hf
    cases hq : Γ y with
    | none => exact hg hq
    | some dd =>
      obtain ⟨v', _, r⟩ := Vf.val y dd hq
      obtain ⟨o', e⟩ := r.there Dd hf
      rw [hD0] at e; cases e
  · have hm3 : s₃.heap.Ns C m := by
      obtain ⟨o1, es, ep, e1, d1, r1⟩ := hm
      exact ns_stays ⟨o1, es, ep, hCg o1 e1, d1, r1⟩ F3.kp.st
    have F0 := F3.down b1 V'.kp
    exact ⟨m, hm3, fun h'' hs'' => h _ (F0.other hm3 hCL hC0 hs'')⟩
end
end Mine
end
section
open PySem PySem.W PyProof.Rows PySem.Calls
set_option linter.unusedSectionVars false
set_option linter.unusedVariables false
set_option maxRecDepth 100000
namespace Mine
variable [Bd]
noncomputable def pars (ps : List PySem.Str) : PySem.Str → Bool := fun y => ps.contains y
noncomputable def binds (ps : List PySem.Str) (ds : List D) : Ctx := fun y => (ps.zip ds).lookup y
theorem vars_choose {env : Env} {h : Heap} {Γ : Ctx} (V : Vars env h Γ) : ∃ f : PySem.Str → List Addr, ∀ x d, Γ x = some d → ∃ v, At env h x v ∧ Rd h v d (f x) := by
  have : ∀ x, ∃ as : List Addr, ∀ d, Γ x = some d → ∃ v, At env h x v ∧ Rd h v d as := fun x => by
    cases q : Γ x with
    | none => exact ⟨[], fun d e => nomatch e⟩
    | some d =>
      obtain ⟨v, as, a, r⟩ := V x d q
      exact ⟨as, fun d' e => by cases e; exact ⟨v, a, r⟩⟩
  exact ⟨fun x => (this x).choose, fun x d e => (this x).choose_spec d e⟩
theorem bindL_other {k : PySem.Str → Option NameKind} : ∀ {bs : List (PySem.Str × Value)} {m : PySem.Str → Option Value} {y : PySem.Str}, (∀ v, (y, v) ∉ bs) → bindL k bs m y = m y
  | [], _, _, _ => rfl
  | (n, v) :: r, m, y, h => by
    unfold bindL
    rw [bindL_other fun u hu => h u (.tail _ hu)]
    have hne : y ≠ n := fun e => h v (e ▸ .head _)
    split
    · simp [hne]
    · rfl
theorem bindC_other {k : PySem.Str → Option NameKind} : ∀ {bs : List (PySem.Str × Value)} {m : PySem.Str → Option Value} {y : PySem.Str}, (∀ v, (y, v) ∉ bs) → bindC k bs m y = m y
  | [], _, _, _ => rfl
  | (n, v) :: r, m, y, h => by
    unfold bindC
    rw [bindC_other fun u hu => h u (.tail _ hu)]
    have hne : y ≠ n := fun e => h v (e ▸ .head _)
    split
    · rfl
    · simp [hne]
theorem bindL_mem {k : PySem.Str → Option NameKind} : ∀ {bs : List (PySem.Str × Value)} {m : PySem.Str → Option Value} {y : PySem.Str} {v : Value}, (bs.map (·.1)).Nodup → (y, v) ∈ bs → k y = some .local → bindL k bs m y = some v
  | (n, u) :: r, m, y, v, hn, hm, hk => by
    have hn' := List.nodup_cons.mp hn
    unfold bindL
    rcases List.mem_cons.mp hm with e | hm
    · cases e
      rw [if_pos hk, bindL_other fun w hw => hn'.1 (List.mem_map.mpr ⟨(_, w), hw, rfl⟩)]
      simp
    · exact bindL_mem hn'.2 hm hk
theorem bindC_mem {k : PySem.Str → Option NameKind} : ∀ {bs : List (PySem.Str × Value)} {m : PySem.Str → Option Value} {y : PySem.Str} {v : Value}, (bs.map (·.1)).Nodup → (y, v) ∈ bs → k y ≠ some .local → bindC k bs m y = some v
  | (n, u) :: r, m, y, v, hn, hm, hk => by
    have hn' := List.nodup_cons.mp hn
    unfold bindC
    rcases List.mem_cons.mp hm with e | hm
    · cases e
      rw [if_neg hk, bindC_other fun w hw => hn'.1 (List.mem_map.mpr ⟨(_, w), hw, rfl⟩)]
      simp
    · exact bindC_mem hn'.2 hm hk
theorem zip_look {h : Heap} : ∀ {ps : List PySem.Str} {vs : List Value} {ds : List D} {as : List Addr} {y : PySem.Str} {d : D}, RdAll h vs ds as → (ps.zip ds).lookup y = some d → ∃ v bs, (y, v) ∈ ps.zip vs ∧ Rd h v d bs
  | p :: ps, _, _, _, y, d, .cons (v := v) (d := e) (as := as) h1 h2, hl => by
    rw [List.zip_cons_cons, List.lookup_cons] at hl
    rw [List.zip_cons_cons]
    cases q : y == p with
    | true =>
      rw [q] at hl; cases hl
      exact ⟨v, as, by rw [beq_iff_eq.mp q]; exact .head _, h1⟩
    | false =>
      rw [q] at hl
      obtain ⟨v', bs, hm, r⟩ := zip_look h2 hl
      exact ⟨v', bs, .tail _ hm, r⟩
  | _ :: _, _, _, _, _, _, .nil, hl => by simp at hl
  | [], _, _, _, _, _, _, hl => by simp at hl
/-- a def of the text, as it lies in the written part -/
structure DefAt (c : Cx) (f : Addr) (ps : List PySem.Str) (scope : Scope) (body : List PySem.Stmt) : Prop where
  ex : ∃ ob fd, c.K.lookup f = some ob ∧ ob.data = .func fd ∧ codeIn c.K fd.code fd.qualname = true ∧ fd.body = .stmts body ∧ fd.closure = [] ∧ fd.scope = scope ∧ fd.globals = mainGlobals ∧ fd.builtins = builtinsNs ∧
    ∀ vs : List Value, vs.length = ps.length → bindArgs fd ⟨vs, []⟩ = pure (ps.zip vs)
/-- what must be so of a def's scope -/
noncomputable def defOk (scope : Scope) (ps : List PySem.Str) : Bool :=
  scope.kind == .function && !scope.isCoroutine && !scope.isGenerator && decide ps.Nodup && ps.all fun y => scope.names.lookup y == some .local || scope.names.lookup y == some .cell
theorem enter_def {c : Cx} {f : Addr} {ps : List PySem.Str} {scope : Scope} {body : List PySem.Stmt} {ds : List D} (P : PySem.Str → Bool) (hP : ∀ y ∈ ps, P y = true) (hf : DefAt c f ps scope body) (hlen : ds.length = ps.length) (ok : defOk scope ps = true)
    {A : Around} {s : Shared} {E : Value → Shared → Prop} {Q : Value → Shared → Prop} {vs : List Value} {as : List Addr} (room : A.depth < recursionLimit) (W : Wd c A s.heap) (r : RdAll s.heap vs ds as)
    (h : ∀ env s₁, Fm scope env → Wf c (A.deeper env) env s.heap → Fs s env P (binds ps ds) s₁ → (∀ ob fd, c.K.lookup f = some ob → ob.data = .func fd → env.code = fd.code) → wpAny (model c.prog c.w) (A.deeper env) (execs body env) (fun f s' => Q (match f with | .ret v => v | _ => .none) s')
      (fun e s' => wpAny (model c.prog c.w) (A.deeper env) (leaving env e) (fun _ s'' => E e s'') (fun e' s'' => E e' s'') s') s₁) : wpAny (model c.prog c.w) A (call (.ref f) vs) Q E s := by
  obtain ⟨ob, fd, h1, h2, h3, h4, h5, h6, h7, h8, h9⟩ := hf.ex
  unfold defOk at ok
  simp only [Bool.and_eq_true, beq_iff_eq, decide_eq_true_eq, List.all_eq_true, Bool.or_eq_true, Bool.not_eq_true'] at ok
  obtain ⟨⟨⟨⟨k1, k2⟩, k3⟩, k4⟩, k5⟩ := ok
  subst h6
  have hvl : vs.length = ps.length := r.length.trans hlen
  have hmem : ∀ x ∈ ps.zip vs, x.1 ∈ ps := fun x hx => (List.of_mem_zip hx).1
  have hnd : ((ps.zip vs).map (·.1)).Nodup := by
    rw [List.map_fst_zip (by omega)]; exact k4
  have cellHas : ∀ m y, fd.scope.names.lookup y = some .cell → ∃ q, (cellsFrom m fd.scope.names []).lookup y = some q := fun m y hy =>
    Option.isSome_iff_exists.mp (cellsFrom_some fd.scope.names m [] (.inl hy))
  refine wpAny_call (codeAny_call_cells room (W.K _ _ h1) h2 W.lim (codeRec_of W.K h3) h4 (h9 vs hvl) h5 (fun x hx => ?_) (fun s₁ X => ?_) k2 k3 k1)
  · rcases k5 _ (hmem x hx) with q | q
    · exact .inl q
    · obtain ⟨a, ha⟩ := cellHas (s.heap.objs.size + 1) _ q
      exact .inr ⟨q, by rw [ha]; rfl⟩
  · generalize henv : callEnvC fd s.heap.objs.size f = env at X
    have e1 : env.scope = fd.scope := by rw [← henv]; rfl
    have e2 : env.locals = s.heap.objs.size := by rw [← henv]; rfl
    have e3 : env.cells = cellsFrom (s.heap.objs.size + 1) fd.scope.names [] := by rw [← henv]; rfl
    have F : Fm fd.scope env := ⟨by rw [e1], by rw [e1]; exact k1, by rw [← henv]; exact h7, by rw [← henv]; exact h8⟩
    have hkind : ∀ y, env.kindOf y = fd.scope.names.lookup y := fun y => by unfold Env.kindOf; rw [e1]
    obtain ⟨h', tk, es, hk'⟩ := X.done
    have kp : Kp s s₁ := ⟨h', tk, es, .of hk'⟩
    have V : Vars env s₁.heap (binds ps ds) := fun y d' e => by
      obtain ⟨v, bs, hm, rd⟩ := zip_look r e
      refine ⟨v, bs, ?_, rd.stays kp.st⟩
      rcases k5 _ (hmem _ hm) with q | q
      · exact .inl ⟨(hkind y).trans q, _, X.toInCall.ns, bindL_mem hnd hm ((hkind y).trans q)⟩
      · obtain ⟨a, ha⟩ := cellHas (s.heap.objs.size + 1) y q
        rw [← e3] at ha
        refine .inr ⟨a, .inl ((hkind y).trans q), ha, ?_⟩
        have := X.cell y a ha
        rwa [bindC_mem hnd hm (by rw [hkind, q]; exact fun z => nomatch z)] at this
    obtain ⟨g, hg⟩ := vars_choose V
    have hnone : ∀ y, P y = false → binds ps ds y = none := fun y hy => by
      cases q : binds ps ds y with
      | none => rfl
      | some d' =>
        obtain ⟨v, bs, hm, _⟩ := zip_look r q
        have : y ∈ ps := hmem _ hm
        rw [hP y this] at hy; cases hy
    have FF : Fs s env P (binds ps ds) s₁ := by
      refine ⟨kp, ⟨_, X.toInCall.ns⟩, by rw [e2]; exact new_none _, fun y q e => ⟨⟨_, X.cell y q e⟩, Heap.get?_none_of_le (Nat.le_of_lt ?_)⟩, fun y hy => ?_, fun y z q hy hz => name_of_addr X.apart (mem_of_lookup hy) (mem_of_lookup hz), g, hg, fun x y a _ hp hx => absurd (hnone x hp) hx, fun x a hp hx => absurd (hnone x hp) hx⟩
      · have := X.above y q (mem_of_lookup e); rw [e2] at this; exact this
      · rw [hkind] at hy
        rw [e3]
        exact cellHas _ y hy
    exact h env s₁ F (W.deeper ⟨by rw [e1, k1]; exact fun q => (nomatch q), by rw [e1]; exact k3, by rw [e1]; exact k2, F.bi, F.glob⟩ (by rw [← henv]; rfl)) FF fun ob' fd' q1 q2 => by
      rw [h1] at q1; cases q1
      rw [h2] at q2; cases q2
      rw [← henv]; rfl
theorem call_defP {c : Cx} {n : Nat} {f : Addr} {ps : List PySem.Str} {scope : Scope} {body : List PySem.Stmt} {ds : List D} {d : D} (P : PySem.Str → Bool) (hP : ∀ y ∈ ps, P y = true) (hf : DefAt c f ps scope body) (hlen : ds.length = ps.length) (ok : defOk scope ps = true)
    (h : Exs c n scope P (binds ps ds) body (.ret d)) : CallV c (n + 1) (.ref f) ds d := by
  intro A s E Q vs as o W r k
  refine enter_def P hP hf hlen ok o.room W r fun env s₁ F Wf FF _ => ?_
  exact h env _ s s₁ _ _ F (o.deeper _) Wf FF fun v as' s' kk rr ff => k v as' s' kk rr fun _ => ff
theorem call_def {c : Cx} {n : Nat} {f : Addr} {ps : List PySem.Str} {scope : Scope} {body : List PySem.Stmt} {ds : List D} {d : D} (hf : DefAt c f ps scope body) (hlen : ds.length = ps.length) (ok : defOk scope ps = true)
    (h : Exs c n scope (pars ps) (binds ps ds) body (.ret d)) : CallV c (n + 1) (.ref f) ds d :=
  call_defP (pars ps) (fun y hy => by unfold pars; simpa using hy) hf hlen ok h
end Mine
end
section
open PySem PySem.W PyProof.Rows PySem.Calls
set_option linter.unusedSectionVars false
set_option linter.unusedVariables false
set_option maxRecDepth 100000
namespace Mine
variable [Bd]
section
variable {c : Cx} {n : Nat} {sc : Scope} {Γ : Ctx} {fr : Bool} {P : PySem.Str → Bool}
/-- a method of a text -/
theorem ev_str_meth0 {o : PySem.Expr} {name : PySem.Str} {id : String} {apos pos : Pos} {x : PySem.Str} {d : D} (ho : Ev c n sc Γ false o (.str x)) (hc : CallV c n (.builtin id) [.str x] d)
    (hsl : Slot "str" name id) (hty : typeOf (Value.builtin id) = pure (Value.type "method_descriptor"))
    (hb : ∀ env, attributeBase o name env (eval o env) = eval o env := by intro _; rfl) (hl : (apos.endLine == pos.line) = true := by rfl) : Ev c n sc Γ fr ((o.Attribute name apos).Call [] [] pos) d := by
  intro env A s E Q F ok W V h
  refine wpAny_Call_method (hb env) rfl hl PySem.F.plainAttrs_str hsl hty (ho env A s E _ F ok W V fun v as s₁ k₁ r₁ _ => ?_)
  obtain ⟨t, rfl⟩ : ∃ t, v = .str x t := by cases r₁; exact ⟨_, rfl⟩
  refine ⟨rfl, (fun a e => nomatch e), Calls.callWith_builtin rfl (PySem.evalArgs_none ?_)⟩
  exact hc A s₁ E Q [.str x t] _ ok (W.stays k₁.st) (.cons r₁ .nil) (h.of k₁).weak
theorem ev_str_meth {o : PySem.Expr} {name : PySem.Str} {id : String} {apos pos : Pos} {x : PySem.Str} {d : D} {e : PySem.Expr} {es : List PySem.Expr} {ds : List D} (ho : Ev c n sc Γ false o (.str x)) (ha : Evs c n sc Γ false (e :: es) ds) (hc : CallV c n (.builtin id) (.str x :: ds) d)
    (hsl : Slot "str" name id) (hty : typeOf (Value.builtin id) = pure (Value.type "method_descriptor"))
    (hb : ∀ env, attributeBase o name env (eval o env) = eval o env := by intro _; rfl) (hl : (apos.endLine == pos.line) = true := by rfl)
    (hs : ∀ env, starEach (e :: es) env = (false, eval e env) :: starEach es env := by intro _; rfl) (hp : ∀ env, (starEach (e :: es) env).any (·.1) = false := by intro _; rfl)
    (hq : ∀ env, ((((backTo pos (starEach (e :: es) env)).all fun x => !x.fst) && (backToKw pos (keywordEach [] env)).all fun x => x.fst.isSome) && decide (((e :: es).length + ([] : List Keyword).length + if ([] : List Keyword).isEmpty = true then 0 else 1) < 30)) = true := by intro _; rfl) : Ev c n sc Γ fr ((o.Attribute name apos).Call (e :: es) [] pos) d := by
  intro env A s E Q F ok W V h
  refine wpAny_Call_method (hb env) (hq env) hl PySem.F.plainAttrs_str hsl hty (ho env A s E _ F ok W V fun v as s₁ k₁ r₁ _ => ?_)
  obtain ⟨t, rfl⟩ : ∃ t, v = .str x t := by cases r₁; exact ⟨_, rfl⟩
  refine ⟨rfl, (fun a e => nomatch e), Calls.callWith_builtin (any_false_backTo (hp env)) ?_⟩
  have := ha env A s₁ E pos (fun vs s' => wpAny (model c.prog c.w) A (call (.builtin id) ([.str x t] ++ vs) []) Q E s') F ok (W.stays k₁.st) (V.stays k₁.st) fun vs as s₂ k₂ r₂ _ =>
    hc A s₂ E Q (.str x t :: vs) _ ok (W.stays (k₁.trans' k₂).st) (.cons (r₁.stays k₂.st) r₂) (h.of (k₁.trans' k₂)).weak
  rw [hs env] at this ⊢
  exact evalArgs_plain this
theorem call_lower {x : PySem.Str} (h : Builtin.Str.tooLong (Txt.lower x).length = false) : CallV c n (.builtin "str.lower") [.str x] (.str (Txt.lower x)) := by
  intro A s E Q vs as o W r k
  obtain ⟨v, rfl, h1⟩ := r.one
  cases h1
  exact SC.lower h (k _ [] _ (tok_kp s _) (.str _ _) fun _ a ha => nomatch ha)
theorem call_count {x y : PySem.Str} : CallV c n (.builtin "str.count") [.str x, .str y] (.int (Txt.count x y)) := by
  intro A s E Q vs as o W r k
  obtain ⟨v, u, bs, cs, rfl, rfl, h1, h2⟩ := r.two
  cases h1; cases h2
  exact SC.count (k _ [] _ (tok_kp s _) (.int _ _) fun _ a ha => nomatch ha)
theorem call_index {x y : PySem.Str} (h : 0 ≤ Txt.find x y) : CallV c n (.builtin "str.index") [.str x, .str y] (.int (Txt.find x y)) := by
  intro A s E Q vs as o W r k
  obtain ⟨v, u, bs, cs, rfl, rfl, h1, h2⟩ := r.two
  cases h1; cases h2
  exact index_or o.h (fun h1 => by omega) fun _ _ => k _ [] _ (tok_kp s _) (.int _ _) fun _ a ha => nomatch ha
theorem ev_lower {o : PySem.Expr} {apos pos : Pos} {x : PySem.Str} (ho : Ev c n sc Γ false o (.str x)) (h : Builtin.Str.tooLong (Txt.lower x).length = false)
    (hb : ∀ env, attributeBase o (Str.ofString "lower") env (eval o env) = eval o env := by intro _; rfl) (hl : (apos.endLine == pos.line) = true := by rfl) : Ev c n sc Γ fr ((o.Attribute (Str.ofString "lower") apos).Call [] [] pos) (.str (Txt.lower x)) :=
  ev_str_meth0 ho (call_lower h) PySem.F.slot_str_lower rfl hb hl
/-- a name's value, where it stands -/
theorem ev_at {env : Env} {A : Around} {s : Shared} {E : Value → Shared → Prop} {Q : Value → Shared → Prop} {x : PySem.Str} {p : Pos} {v : Value} (F : Fm sc env) (a : At env s.heap x v) (hd : (x == ("__debug__" : PySem.Str)) = false) (h : Q v s) : wpAny (model c.prog c.w) A (eval (.Name x p) env) Q E s := by
  refine wpAny_Name ?_ hd
  rcases a with ⟨a, m, b, e⟩ | ⟨q, a, b, e⟩
  · exact wpAny_loadName_local F.kind a b e h
  · rcases a with a | ⟨a, a'⟩
    · exact wpAny_loadName_cell F.kind a b e h
    · exact wpAny_loadName_free F.kind a b e h a'
/-- a list of the frame's own changes where it lies -/
theorem Fs.mut {s0 : Shared} {env : Env} {s : Shared} {f : PySem.Str → List Addr} {x : PySem.Str} {l : Addr} {vs vs' : List Value} {xs xs' : List D} {h' : Heap} {tk : Nat} (F : Fs s0 env P Γ s) (V : VarsF s0 env P Γ s.heap f) (hP : P x = false) (hΓ : Γ x = some (.list xs)) 
    (hv : At env s.heap x (.ref l)) (hl : PL s.heap l vs.toArray) (hf : f x = [l]) (hl' : PL h' l vs'.toArray) (hr : RdAll h' vs' xs' []) (hs : Heap.SameBut l s.heap h') : Fs s0 env P (upd Γ x (.list xs')) { s with heap := h', toks := tk } := by
  obtain ⟨h2, t2, e2, k2⟩ := F.kp
  have hn : s0.heap.get? l = none := V.own x l hP (by rw [hΓ]; exact fun z => nomatch z) (by rw [hf]; exact .head _)
  obtain ⟨nl, ol⟩ := id hl
  have ne1 : env.locals ≠ l := by
    obtain ⟨m, o, es, ep, q, qd, _⟩ := F.ns
    rintro rfl
    rw [ol] at q; cases q; cases qd
  have ne2 : ∀ {q v}, s.heap.IsCell q v → q ≠ l := by
    rintro q v ⟨o, e, d⟩ rfl
    rw [ol] at e; cases e; cases d
  have hat : ∀ y v, At env s.heap y v → At env h' y v := by
    intro y v a
    rcases a with ⟨p, m, hm, e'⟩ | ⟨q, p, b, hv⟩
    · exact .inl ⟨p, m, hm.sameBut hs ne1, e'⟩
    · exact .inr ⟨q, p, b, hv.sameBut hs (ne2 hv)⟩
  refine ⟨⟨h', tk, by rw [e2], stays_sameBut F.kp.st hs hn⟩, ?_, F.lnew, fun y q e => ?_, F.has, F.apart, f, fun y d e => ?_, fun y z a h1 h2 h3 h4 h5 => ?_, fun y a h1 h2 h3 => ?_⟩
  · obtain ⟨m, hm⟩ := F.ns; exact ⟨m, hm.sameBut hs ne1⟩
  · obtain ⟨⟨v, hv⟩, z⟩ := F.cell y q e
    exact ⟨⟨v, hv.sameBut hs (ne2 hv)⟩, z⟩
  · by_cases hy : y = x
    · subst hy
      rw [upd_same] at e; cases e
      refine ⟨_, hat _ _ hv, ?_⟩
      rw [hf]
      exact .list hl' hr
    · rw [upd_other hy rfl] at e
      obtain ⟨v, a, r⟩ := V.val y d e
      refine ⟨v, hat _ _ a, r.carry (Carry.offList (S := f y) hl.is (fun hm => ?_) hs) fun _ h => h⟩
      exact V.apart x y l (Ne.symm hy) hP (by rw [hΓ]; exact fun z => nomatch z) (by rw [e]; exact fun z => nomatch z) (by rw [hf]; exact .head _) hm
  · refine V.apart y z a h1 h2 (fun q => h3 ?_) (fun q => h4 ?_) h5
    · by_cases hy : y = x
      · subst hy; rw [hΓ] at q; cases q
      · rw [upd_other hy q]
    · by_cases hy : z = x
      · subst hy; rw [hΓ] at q; cases q
      · rw [upd_other hy q]
  · refine V.own y a h1 (fun q => h2 ?_) h3
    by_cases hy : y = x
    · subst hy; rw [hΓ] at q; cases q
    · rw [upd_other hy q]
theorem pl_plainL {h : Heap} {l : Addr} {vs : Array Value} (p : PL h l vs) : PlainL h l vs := let ⟨m, e⟩ := p; ⟨_, m, e, rfl, rfl, rfl⟩
theorem own_list {s0 : Shared} {env : Env} {s : Shared} {x : PySem.Str} {xs : List D} (F : Fs s0 env P Γ s) (hΓ : Γ x = some (.list xs)) (fx : flats xs = true) :
    ∃ f l vs, VarsF s0 env P Γ s.heap f ∧ At env s.heap x (.ref l) ∧ PL s.heap l vs.toArray ∧ f x = [l] ∧ RdAll s.heap vs xs [] := by
  obtain ⟨f, V⟩ := F.vars
  obtain ⟨v, a, r⟩ := V.val x _ hΓ
  obtain ⟨l, vs, bs, rfl, e, hl, rl⟩ := r.list_inv
  obtain rfl := rl.flat fx
  exact ⟨f, l, vs, V, a, hl, e, rl⟩
theorem flats_cons {d : D} {ds : List D} : flats (d :: ds) = (flat d && flats ds) := rfl
theorem flats_app {ds es : List D} : flats (ds ++ es) = (flats ds && flats es) := List.all_append
theorem wpAny_Expr' {M : Model} {A : Around} {E : Value → Shared → Prop} {s : Shared} {env : Env} {e : PySem.Expr} {pos : Pos} {Q : Flow → Shared → Prop}
    (h : wpAny M A (eval e env) (fun v s' => v = .none ∧ Q .next s' ∨ (∃ i t, v = .int i t) ∧ Q .next s') E s) (h1 : interactive env = false) (h2 : swapsWith e none pos.line env = pure false) : wpAny M A (exec (Stmt.Expr e pos) env) Q E s := by
  refine wpAny_Expr ?_ h1 h2
  refine wpAny_mono h (fun v s' h => ?_) (fun _ _ h => h)
  rcases h with ⟨rfl, h⟩ | ⟨⟨i, t, rfl⟩, h⟩ <;> exact h
theorem ex_append {x : PySem.Str} {e : PySem.Expr} {xp apos pos p : Pos} {xs : List D} {d : D} (hΓ : Γ x = some (.list xs)) (hP : P x = false) (fx : flats xs = true) (fd : flat d = true) (he : Ev c n sc Γ false e d) (hz : xs.length ≤ sizeLine) (hd : (x == ("__debug__" : PySem.Str)) = false := by decide +kernel)
    (hb : ∀ env, attributeBase (.Name x xp) (Str.ofString "append") env (eval (.Name x xp) env) = eval (.Name x xp) env := by intro _; rfl) (hl : (apos.endLine == pos.line) = true := by rfl)
    (hs : ∀ env, backTo pos (starEach [e] env) = [(false, eval e env)] := by intro _; rfl)
    (hq : ∀ env, ((((backTo pos (starEach [e] env)).all fun x => !x.fst) && (backToKw pos (keywordEach [] env)).all fun x => x.fst.isSome) && decide (([e].length + ([] : List Keyword).length + if ([] : List Keyword).isEmpty = true then 0 else 1) < 30)) = true := by intro _; rfl)
    (hi : ∀ env, env.scope.kind = .function → interactive env = false := by intro _ h; unfold interactive; rw [h]; rfl) (hw : ∀ env, swapsWith (((PySem.Expr.Name x xp).Attribute (Str.ofString "append") apos).Call [e] [] pos) none p.line env = pure false := by intro _; rfl) :
    Ex c n sc P Γ (.Expr (((PySem.Expr.Name x xp).Attribute (Str.ofString "append") apos).Call [e] [] pos) p) (.next (upd Γ x (.list (xs ++ [d])))) := by
  intro env A s0 s E Q F ok W V h
  refine wpAny_Expr' (wpAny_Call_append (hb env) (hq env) hl (hs env) ?_) (hi env F.kind) (hw env)
  obtain ⟨f, l, vs, VV, a, hL, hf, rl⟩ := own_list V hΓ fx
  refine ev_at F a hd ⟨l, vs.toArray, rfl, pl_plainL hL, ?_⟩
  refine he env A s E _ F ok (V.wd W) V.toVars fun v as s₁ k₁ r₁ _ => ?_
  obtain rfl := r₁.flat fd
  have hL₁ : PL s₁.heap l vs.toArray := hL.stays k₁.st
  refine wpAny_list_append_plain hL₁ (fun h' hl' hs' => .inl ⟨rfl, h _ ?_⟩) (by rw [List.size_toArray, rl.length]; exact hz)
  have V1 := V.grow k₁
  have e1 : vs.toArray.push v = (vs ++ [v]).toArray := by simp
  rw [e1] at hl'
  have rl1 : RdAll s₁.heap (vs ++ [v]) (xs ++ [d]) [] := RdAll.append (as := []) (bs := [] ++ []) (rl.stays k₁.st) (.cons r₁ .nil)
  exact V1.mut (VV.stays k₁.st) hP hΓ (a.stays k₁.st) hL₁ hf hl' (rl1.carry (Carry.offList (S := []) hL₁.is (fun q => nomatch q) hs') fun _ h => h) hs'
theorem RdAll.split1 {h : Heap} : ∀ {vs : List Value} {u : Value} {ds : List D} {d : D}, RdAll h (vs ++ [u]) (ds ++ [d]) [] → RdAll h vs ds [] ∧ Rd h u d []
  | [], u, [], d, r => by
    obtain ⟨v, e, r'⟩ := RdAll.one (d := d) r
    cases e; exact ⟨.nil, r'⟩
  | [], u, e :: ds, d, r => by
    have := r.length; simp at this
  | v :: vs, u, [], d, r => by
    have := r.length; simp at this
  | v :: vs, u, e :: ds, d, r => by
    generalize hn : ([] : List Addr) = z at r
    cases r with | cons h1 h2 =>
    obtain ⟨rfl, rfl⟩ := List.append_eq_nil_iff.mp hn.symm
    obtain ⟨a, b⟩ := h2.split1
    exact ⟨.cons (as := []) h1 a, b⟩
theorem PL.upd {h : Heap} {l : Addr} {vs : Array Value} (p : PL h l vs) (g : Array Value → Array Value) : PL (h.update l (Obj.mapSeq g)) l (g vs) := by
  obtain ⟨m, e⟩ := p
  exact ⟨_, get?_update_seq e g⟩
theorem RdAll.set {h : Heap} : ∀ {vs : List Value} {ds : List D} (i : Nat) {v : Value} {d : D}, RdAll h vs ds [] → Rd h v d [] → RdAll h (vs.set i v) (ds.set i d) []
  | [], [], i, v, d, r, _ => by simpa using r
  | [], _ :: _, _, _, _, r, _ => by have := r.length; simp at this
  | _ :: _, [], _, _, _, r, _ => by have := r.length; simp at this
  | u :: vs, e :: ds, i, v, d, r, rv => by
    generalize hn : ([] : List Addr) = z at r
    cases r with | cons h1 h2 =>
    obtain ⟨rfl, rfl⟩ := List.append_eq_nil_iff.mp hn.symm
    cases i with
    | zero => exact .cons (as := []) rv h2
    | succ i => exact .cons (as := []) h1 (h2.set i rv)
theorem ex_pop {x : PySem.Str} {xp apos pos p : Pos} {xs : List D} {d : Int} (hΓ : Γ x = some (.list (xs ++ [.int d]))) (hP : P x = false) (fx : flats xs = true) (hz : xs.length < sizeLine) (hd : (x == ("__debug__" : PySem.Str)) = false := by decide +kernel)
    (hb : ∀ env, attributeBase (.Name x xp) (Str.ofString "pop") env (eval (.Name x xp) env) = eval (.Name x xp) env := by intro _; rfl) (hl : (apos.endLine == pos.line) = true := by rfl)
    (hi : ∀ env, env.scope.kind = .function → interactive env = false := by intro _ h; unfold interactive; rw [h]; rfl) (hw : ∀ env, swapsWith (((PySem.Expr.Name x xp).Attribute (Str.ofString "pop") apos).Call [] [] pos) none p.line env = pure false := by intro _; rfl) :
    Ex c n sc P Γ (.Expr (((PySem.Expr.Name x xp).Attribute (Str.ofString "pop") apos).Call [] [] pos) p) (.next (upd Γ x (.list xs))) := by
  intro env A s0 s E Q F ok W V h
  obtain ⟨f, l, vs, VV, a, hL, hf, rl⟩ := own_list V hΓ (by rw [flats_app, fx]; rfl)
  obtain ⟨ws, u, rfl⟩ : ∃ ws u, vs = ws ++ [u] := by
    rcases List.eq_nil_or_concat vs with rfl | ⟨ws, u, e⟩
    · have := rl.length; simp at this
    · exact ⟨ws, u, by simpa using e⟩
  obtain ⟨rw', ru⟩ := rl.split1
  obtain ⟨t, rfl⟩ : ∃ t, u = .int d t := by cases ru; exact ⟨_, rfl⟩
  have hlen := rw'.length
  obtain ⟨m, ho⟩ := id hL
  refine wpAny_Expr' (wpAny_Call_method (hb env) rfl hl PySem.F.plainAttrs_list PySem.F.slot_list_pop rfl ?_) (hi env F.kind) (hw env)
  refine ev_at F a hd ⟨⟨_, ho, rfl⟩, (fun b e => by cases e; exact ⟨_, ho, rfl⟩), Calls.callWith_builtin rfl (PySem.evalArgs_none ?_)⟩
  have hsz : (ws ++ [Value.int d t]).toArray.size - 1 = ws.length := by simp
  refine call_meets PySem.F.slot_list_pop ⟨_, ho, rfl⟩ PySem.F.entry_list_pop (PySem.F.args_list_pop_1 _) (MeetsSeq.list_pop_last l (ws ++ [Value.int d t]).toArray m (.int d t) (by rw [hsz]; simp) (by rw [List.size_toArray, List.length_append, hlen]; simp; omega)) ⟨ho, ?_⟩
  refine .inr ⟨⟨_, _, rfl⟩, h _ ?_⟩
  rw [hsz]
  have hl' := hL.upd fun xs_1 => xs_1.eraseIdxIfInBounds ws.length
  have e1 : (ws ++ [Value.int d t]).toArray.eraseIdxIfInBounds ws.length = ws.toArray := by
    simp only [Array.eraseIdxIfInBounds]
    simp
    rw [List.eraseIdx_append_of_length_le (Nat.le_refl _)]
    simp
  rw [e1] at hl'
  have hs' : Heap.SameBut l s.heap (s.heap.update l (Obj.mapSeq fun xs_1 => xs_1.eraseIdxIfInBounds ws.length)) := Heap.SameBut.update ..
  exact V.mut VV hP hΓ a hL hf hl' (rw'.carry (Carry.offList (S := []) hL.is (fun q => nomatch q) hs') fun _ h => h) hs'
/-- a store at an index: the list stays plain -/
theorem setItem_list_plain {prog : Program} {w : World} {A : Around} {E : Value → Shared → Prop} {s : Shared} {l : Addr} {items : Array Value} {k : Int} {t : Tok} {v : Value} {Q : Unit → Shared → Prop} (hl : PL s.heap l items) (h0 : 0 ≤ k) (hfit : k < 2 ^ 63) (hn : k < items.size)
    (hQ : ∀ h', PL h' l (items.setIfInBounds k.toNat v) → Heap.SameBut l s.heap h' → Q () { s with heap := h' }) : wpAny (model prog w) A (setItem (.ref l) (.int k t) v) Q E s := by
  obtain ⟨m, ho⟩ := id hl
  have ti : s.TypeIs (.ref l) "list" := hl.is.typeIs
  unfold setItem
  try with_reducible refine wpAny_holding ?_
  first | refine wpAny_bind (wpAny_pure ?_) | skip
  refine wpAny_bind (wpAny_sequenceKey ti (by decide) ?_)
  refine wpAny_bind (wpAny_callSpecial?_slot (name := Str.ofString "__setitem__") ti PySem.slot_list_setitem (wpAny_call_entry PySem.slot_list_setitem ti PySem.entry_list_setitem ?_ (PySem.args_list_setitem _ _ _)))
  show wpAny _ _ (Builtin.List.listSubscript? (.int k t) >>= _) _ _ s
  refine wpAny_bind (wpAny_listSubscript_int (fitsIndex_of h0 hfit) ?_)
  clear hfit
  obtain ⟨j, rfl⟩ := Int.eq_ofNat_of_zero_le h0
  have hj : j < items.size := by omega
  have done := hQ _ (hl.upd (·.setIfInBounds j v)) (Heap.SameBut.update ..)
  have hx' : items[j]? = some items[j] := Array.getElem?_eq_getElem hj
  show wpAny _ _ ((seqItemAt l j >>= fun r => pure (r.map (j, ·))) >>= _) _ _ s
  refine wpAny_bind (wpAny_bind (wpAny_seqItemAt ho rfl (wpAny_pure ?_)))
  rw [hx']
  show wpAny _ _ (setSeqItemAt l j v >>= _) _ _ s
  refine wpAny_bind (wpAny_setSeqItemAt ho rfl ?_)
  first
    | exact wpAny_bind (wpAny_pure (wpAny_pure ⟨.none, rfl, wpAny_pure done⟩))
    | exact wpAny_pure ⟨.none, rfl, wpAny_pure done⟩
theorem ex_setitem {x : PySem.Str} {e ie : PySem.Expr} {xp sp p : Pos} {xs : List D} {i : Int} {d : D} (hΓ : Γ x = some (.list xs)) (hP : P x = false) (fx : flats xs = true) (fd : flat d = true) (he : Ev c n sc Γ false e d) (hi : Ev c n sc Γ false ie (.int i)) (h0 : 0 ≤ i) (h1 : i < 2 ^ 62) (hlt : i < (xs.length : Int)) (hd : (x == ("__debug__" : PySem.Str)) = false := by decide +kernel)
    (hw : ∀ env, swapsWith e (some ((PySem.Expr.Name x xp).Subscript ie sp)) p.line env = pure false := by intro _; rfl) :
    Ex c n sc P Γ (.Assign [(PySem.Expr.Name x xp).Subscript ie sp] e p) (.next (upd Γ x (.list (xs.set i.toNat d)))) := by
  intro env A s0 s E Q F ok W V h
  refine wpAny_Assign_Subscript (he env A s E _ F ok (V.wd W) V.toVars fun v as s₁ k₁ r₁ _ => ?_) (hw env)
  obtain rfl := r₁.flat fd
  have V1 := V.grow k₁
  obtain ⟨f, l, vs, VV, a, hL, hf, rl⟩ := own_list V1 hΓ fx
  refine ev_at F a hd ?_
  refine hi env A s₁ E _ F ok (V1.wd W) V1.toVars fun iv bs s₂ k₂ r₂ _ => ?_
  obtain ⟨t, rfl⟩ : ∃ t, iv = .int i t := by cases r₂; exact ⟨_, rfl⟩
  have hL₂ : PL s₂.heap l vs.toArray := hL.stays k₂.st
  have e1 : vs.toArray.setIfInBounds i.toNat v = (vs.set i.toNat v).toArray := by simp
  refine setItem_list_plain hL₂ h0 (by omega) (by rw [List.size_toArray, rl.length]; exact hlt) fun h' hl' hs' => h _ ?_
  rw [e1] at hl'
  have rl2 : RdAll s₂.heap (vs.set i.toNat v) (xs.set i.toNat d) [] := (rl.stays k₂.st).set _ (r₁.stays k₂.st)
  exact (V1.grow k₂).mut (VV.stays k₂.st) hP hΓ (a.stays k₂.st) hL₂ hf hl' (rl2.carry (Carry.offList (S := []) hL₂.is (fun q => nomatch q) hs') fun _ h => h) hs'
end
end Mine
end
section
open PySem PySem.W PyProof.Rows PySem.Calls
set_option linter.unusedSectionVars false
set_option linter.unusedVariables false
set_option maxRecDepth 100000
namespace Mine
variable [Bd]
section
variable {c : Cx} {n : Nat} {sc : Scope} {Γ : Ctx} {fr : Bool} {P : PySem.Str → Bool}
theorem RdAll.three {h : Heap} {vs : List Value} {d e g : D} {as : List Addr} (r : RdAll h vs [d, e, g] as) : ∃ v u t bs cs ds, vs = [v, u, t] ∧ as = bs ++ (cs ++ ds) ∧ Rd h v d bs ∧ Rd h u e cs ∧ Rd h t g ds := by
  cases r with | cons h1 h2 => obtain ⟨u, t, cs, ds, rfl, rfl, h3, h4⟩ := h2.two; exact ⟨_, _, _, _, _, _, rfl, rfl, h1, h3, h4⟩
theorem extBut_kp {s : Shared} {h' : Heap} (he : Heap.ExtBut s.heap.objs.size s.heap h') : Kp s { s with heap := h' } := kp_of (tk := s.toks) fun b o e => he b o (Nat.ne_of_lt (Heap.lt_size e)) e
/-- x, y = a call's tuple, in a frame whose lists never change -/
theorem ex_unpack2 {x y : PySem.Str} {e : PySem.Expr} {p1 p2 tp p : Pos} {k : Nat} {d1 d2 : D} (hP : ∀ y, P y = true) (he : Ev c n sc Γ false e (.tuple [d1, d2])) (hx : sc.names.lookup x = some .local ∨ sc.names.lookup x = some .cell := by decide +kernel) (hy : sc.names.lookup y = some .local ∨ sc.names.lookup y = some .cell := by decide +kernel)
    (hs : ∀ env, swapsWithSole [.Tuple [.Name x p1, .Name y p2] k tp] e p.line env = pure false := by intro _; rfl) (hw : ∀ env, swappedStores [.Tuple [.Name x p1, .Name y p2] k tp] e env = pure none := by intro _; rfl) :
    Ex c n sc P Γ (.Assign [.Tuple [.Name x p1, .Name y p2] k tp] e p) (.next (upd (upd Γ x d1) y d2)) := by
  intro env A s0 s E Q F ok W V h
  refine Assign_Tuple (he env A s E _ F ok (V.wd W) V.toVars fun v as s₁ k₁ r₁ _ => ?_) (hs env) (hw env)
  obtain ⟨t, vs, rfl, ht, rl⟩ := r₁.tuple_inv
  obtain ⟨v1, v2, as, bs, rfl, _, r1, r2⟩ := rl.two
  refine wpAny_assign_Tuple ok.h ht rfl rfl fun h1 he => ?_
  have kk := extBut_kp he
  have V1 := (V.grow k₁).grow kk
  refine wpAny_assignInOrder_more (wpAny_assign_Name (store_all V1 hP (r1.stays kk.st) F.kind (kind_fm F hx) fun s3 V3 c3 => ?_))
  refine wpAny_assignInOrder_more (wpAny_assign_Name (store_all V3 hP ((r2.stays kk.st).carry (c3 bs) fun _ h => h) F.kind (kind_fm F hy) fun s4 V4 c4 => ?_))
  exact wpAny_assignInOrder_none (h _ V4)
theorem ex_unpack3 {x y z : PySem.Str} {e : PySem.Expr} {p1 p2 p3 tp p : Pos} {k : Nat} {d1 d2 d3 : D} (hP : ∀ y, P y = true) (he : Ev c n sc Γ false e (.tuple [d1, d2, d3])) (hx : sc.names.lookup x = some .local ∨ sc.names.lookup x = some .cell := by decide +kernel) (hy : sc.names.lookup y = some .local ∨ sc.names.lookup y = some .cell := by decide +kernel) (hz : sc.names.lookup z = some .local ∨ sc.names.lookup z = some .cell := by decide +kernel)
    (hs : ∀ env, swapsWithSole [.Tuple [.Name x p1, .Name y p2, .Name z p3] k tp] e p.line env = pure false := by intro _; rfl) (hw : ∀ env, swappedStores [.Tuple [.Name x p1, .Name y p2, .Name z p3] k tp] e env = pure none := by intro _; rfl) :
    Ex c n sc P Γ (.Assign [.Tuple [.Name x p1, .Name y p2, .Name z p3] k tp] e p) (.next (upd (upd (upd Γ x d1) y d2) z d3)) := by
  intro env A s0 s E Q F ok W V h
  refine Assign_Tuple (he env A s E _ F ok (V.wd W) V.toVars fun v as s₁ k₁ r₁ _ => ?_) (hs env) (hw env)
  obtain ⟨t, vs, rfl, ht, rl⟩ := r₁.tuple_inv
  obtain ⟨v1, v2, v3, as, bs, cs, rfl, _, r1, r2, r3⟩ := rl.three
  refine wpAny_assign_Tuple ok.h ht rfl rfl fun h1 he => ?_
  have kk := extBut_kp he
  have V1 := (V.grow k₁).grow kk
  refine wpAny_assignInOrder_more (wpAny_assign_Name (store_all V1 hP (r1.stays kk.st) F.kind (kind_fm F hx) fun s3 V3 c3 => ?_))
  refine wpAny_assignInOrder_more (wpAny_assign_Name (store_all V3 hP ((r2.stays kk.st).carry (c3 bs) fun _ h => h) F.kind (kind_fm F hy) fun s4 V4 c4 => ?_))
  refine wpAny_assignInOrder_more (wpAny_assign_Name (store_all V4 hP (((r3.stays kk.st).carry (c3 cs) fun _ h => h).carry (c4 cs) fun _ h => h) F.kind (kind_fm F hz) fun s5 V5 c5 => ?_))
  exact wpAny_assignInOrder_none (h _ V5)
/-- x, y = (y, x), both flat -/
theorem ex_swap {x y : PySem.Str} {p1 p2 p3 p4 tp vp p : Pos} {k k' : Nat} {d1 d2 : D} (hxy : x ≠ y) (e1 : Γ x = some d1) (e2 : Γ y = some d2) (f1 : flat d1 = true) (f2 : flat d2 = true) (hx : sc.names.lookup x = some .local := by decide +kernel) (hy : sc.names.lookup y = some .local := by decide +kernel) (hl : p2.line = p1.line := by rfl)
    (hdx : (x == ("__debug__" : PySem.Str)) = false := by decide +kernel) (hdy : (y == ("__debug__" : PySem.Str)) = false := by decide +kernel) :
    Ex c n sc P Γ (.Assign [.Tuple [.Name x p1, .Name y p2] k tp] (.Tuple [.Name y p3, .Name x p4] k' vp) p) (.next (upd (upd Γ y d1) x d2)) := by
  intro env A s0 s E Q F ok W V h
  have kx : env.kindOf x = some .local := by unfold Env.kindOf; rw [F.names]; exact hx
  have ky : env.kindOf y = some .local := by unfold Env.kindOf; rw [F.names]; exact hy
  have bk : env.blockKind = .function := by unfold Env.blockKind; rw [F.kind]; rfl
  have hw : swappedStores [.Tuple [.Name x p1, .Name y p2] k tp] (.Tuple [.Name y p3, .Name x p4] k' vp) env = pure (some [x, y]) := by
    have b1 : (x == y) = false := by rw [beq_eq_false_iff_ne]; exact hxy
    have b2 : (y == x) = false := by rw [beq_eq_false_iff_ne]; exact fun e => hxy e.symm
    have f1 : ([PySem.Expr.Name y p3, .Name x p4].all (foldedForSure 8)) = false := rfl
    have f2 : ([PySem.Expr.Name y p3, .Name x p4].all (constantsAlone 8)) = false := by
      have : constantsAlone 8 (PySem.Expr.Name y p3) = false := hdy
      simp [this]
    unfold swappedStores
    simp only [f1, f2]
    have e9 : (List.eraseDupsBy (fun x1 x2 => x1 == x2) [x, y]).length = 2 := by
      simp [List.eraseDupsBy, List.eraseDupsBy.loop, b1, b2]
    simp [bk, kx, ky, hl, PySem.Expr.pos, List.eraseDups, e9]
  have he : Ev c n sc Γ false (.Tuple [.Name y p3, .Name x p4] k' vp) (.tuple [d2, d1]) := ev_tuple (evs_cons (ev_name e2 hdy) (evs_cons (ev_name e1 hdx) evs_nil)) (by show 2 ≤ sizeLine; decide)
  refine Assign_Tuple_swapped (names := [x, y]) (he env A s E _ F ok (V.wd W) V.toVars fun v as s₁ k₁ r₁ _ => ?_) rfl hw
  obtain ⟨t, vs, rfl, ht, rl⟩ := r₁.tuple_inv
  obtain ⟨v1, v2, as, bs, rfl, _, r1, r2⟩ := rl.two
  obtain rfl := r1.flat f2
  obtain rfl := r2.flat f1
  have e2 : ∀ (Q' : List Value → Shared → Prop), (∀ h' : Heap, Heap.ExtBut s₁.heap.objs.size s₁.heap h' → Q' [v1, v2] { s₁ with heap := h' }) → wpAny (model c.prog c.w) A (unpackItems (.ref t) [x, y].length none) Q' E s₁ := fun Q' hq =>
    wpAny_unpackItems_tuple (items := #[v1, v2]) ok.h ht hq
  refine e2 _ fun h1 he => ?_
  show wpAny _ _ (assignInOrder [bindName env y, bindName env x] [v2, v1]) _ _ _
  have kk := extBut_kp he
  have V1 := (V.grow k₁).grow kk
  refine wpAny_assignInOrder_more (wpAny_bindName (store_flat V1 (r2.stays kk.st) F.kind (.inl ky) fun s3 V3 c3 => ?_))
  refine wpAny_assignInOrder_more (wpAny_bindName (store_flat V3 ((r1.stays kk.st).carry (c3 []) fun _ h => h) F.kind (.inl kx) fun s4 V4 c4 => ?_))
  exact wpAny_assignInOrder_none (h _ V4)
/-- return of a tuple of three names of the frame's own -/
theorem ex_ret_own3 {x y z : PySem.Str} {p1 p2 p3 tp p : Pos} {k : Nat} {d1 d2 d3 : D} (e1 : Γ x = some d1) (e2 : Γ y = some d2) (e3 : Γ z = some d3) (h1 : P x = false) (h2 : P y = false) (h3 : P z = false)
    (hdx : (x == ("__debug__" : PySem.Str)) = false := by decide +kernel) (hdy : (y == ("__debug__" : PySem.Str)) = false := by decide +kernel) (hdz : (z == ("__debug__" : PySem.Str)) = false := by decide +kernel) :
    Ex c n sc P Γ (.Return (some (.Tuple [.Name x p1, .Name y p2, .Name z p3] k tp)) p) (.ret (.tuple [d1, d2, d3])) := by
  intro env A s0 s E Q F ok W V h
  obtain ⟨f, VV⟩ := V.vars
  obtain ⟨v1, a1, r1⟩ := VV.val x d1 e1
  obtain ⟨v2, a2, r2⟩ := VV.val y d2 e2
  obtain ⟨v3, a3, r3⟩ := VV.val z d3 e3
  have rr : RdAll s.heap [v1, v2, v3] [d1, d2, d3] (f x ++ (f y ++ (f z ++ []))) := .cons r1 (.cons r2 (.cons r3 .nil))
  refine wpAny_Return_some (Tuple_ ?_)
  refine wpAny_items_cons (ev_at F a1 hdx ?_) rfl
  refine wpAny_items_cons (ev_at F a2 hdy ?_) rfl
  refine wpAny_items_cons (ev_at F a3 hdz ?_) rfl
  refine wpAny_items_nil (wpAny_newTuple ?_ (by show 3 ≤ sizeLine; decide))
  refine h _ _ _ (V.kp.trans' (kp_push s _ s.toks)) (rd_newT rr) fun a ha => ?_
  rcases List.mem_append.mp ha with ha | ha
  · exact VV.own x a h1 (by rw [e1]; exact fun z => nomatch z) ha
  rcases List.mem_append.mp ha with ha | ha
  · exact VV.own y a h2 (by rw [e2]; exact fun z => nomatch z) ha
  rcases List.mem_append.mp ha with ha | ha
  · exact VV.own z a h3 (by rw [e3]; exact fun z => nomatch z) ha
  · cases ha
end
end Mine
end
section
open PySem PySem.W PyProof.Rows PySem.Calls
set_option linter.unusedSectionVars false
set_option linter.unusedVariables false
set_option maxRecDepth 100000
namespace Mine
variable [Bd]
section
variable {c : Cx} {n : Nat} {sc : Scope} {Γ : Ctx} {fr : Bool} {P : PySem.Str → Bool}
noncomputable abbrev intD (l : List Int) : List D := l.map .int
theorem flats_intD {l : List Int} : flats (intD l) = true := by
  unfold flats intD; rw [List.all_map]; exact List.all_eq_true.mpr fun _ _ => rfl
theorem RdAll.intD {h : Heap} : ∀ {l : List Int} {vs : List Value} {as : List Addr}, RdAll h vs (Mine.intD l) as → ∃ xs : List (Int × Tok), vs = xs.map (fun p => .int p.1 p.2) ∧ xs.map (·.1) = l
  | [], vs, as, r => by cases r; exact ⟨[], rfl, rfl⟩
  | i :: l, vs, as, r => by
    cases r with | cons h1 h2 =>
    obtain ⟨xs, e1, e2⟩ := RdAll.intD h2
    rename_i v vs' as' bs'
    obtain ⟨t, rfl⟩ : ∃ t, v = .int i t := by cases h1; exact ⟨_, rfl⟩
    exact ⟨(i, t) :: xs, by rw [e1]; rfl, by rw [List.map_cons, e2]⟩
theorem RdAll.intsAre {h : Heap} : ∀ {l : List Int} {vs : List Value} {as : List Addr}, RdAll h vs (Mine.intD l) as → IntsAre vs l
  | [], vs, as, r => by cases r; exact .nil
  | i :: l, vs, as, r => by
    cases r with | cons h1 h2 =>
    have := RdAll.intsAre h2
    rename_i v vs' as' bs'
    obtain ⟨t, rfl⟩ : ∃ t, v = .int i t := by cases h1; exact ⟨_, rfl⟩
    exact .cons _ _ this
theorem preSum_eq (l : List Int) : ∀ k, k ≤ l.length → preSum (fun i => l.getD i 0) k = (l.take k).sum
  | 0, _ => by simp [preSum]
  | k + 1, h => by
    rw [preSum.eq_2, preSum_eq l k (by omega), List.take_add_one, List.sum_append]
    congr 1
    rw [List.getElem?_eq_getElem (by omega), List.getD_eq_getElem?_getD, List.getElem?_eq_getElem (by omega)]; simp
/-- a sum of ints of any size -/
theorem call_sum {l : List Int} : CallV c n (.builtin "sum") [.list (intD l)] (.int l.sum) := by
  intro A s E Q vs as o W r k
  obtain ⟨v, rfl, h1⟩ := r.one
  obtain ⟨a, ws, bs, rfl, rfl, hl, rl⟩ := h1.list_inv
  have hlen : ws.length = l.length := by rw [rl.length]; simp [intD]
  refine call_sum_walkAnyS (wpAny_pyIter_list hl.is ?_)
  have hlt : a < s.heap.objs.size := by obtain ⟨m, e⟩ := hl; exact Heap.lt_size e
  have hl' : (s.heap.push { cls := .type "list_iterator", data := .fields #[.ref a, .int 0 0] }).IsList a ws.toArray := by obtain ⟨ob, e, r⟩ := hl.is; exact ⟨ob, Heap.get?_push_of_some _ e, r⟩
  have WW := (Walks.list (prog := c.prog) (w := c.w) (A := A.in1) o.h s.heap.objs.size a (Nat.ne_of_lt hlt) ws.toArray).toS
  refine ⟨_, _, _, _, _, _, _, fun i => l.getD i 0, rfl, WW, ⟨⟨_, Heap.get?_push_size _ rfl, rfl, rfl⟩, hl'⟩, ?_, ?_, ?_⟩
  · intro b hb
    rcases List.mem_cons.mp hb with rfl | hb
    · exact Heap.lt_size (Heap.get?_push_size _ rfl)
    · rw [List.mem_singleton.mp hb]; obtain ⟨ob, e, _⟩ := hl'; exact Heap.lt_size e
  · intro i v hv
    have hv' : ws[i]? = some v := by simpa using hv
    cases hd : l[i]? with
    | none => rw [rl.none (by simp [intD, hd])] at hv'; cases hv'
    | some d =>
      obtain ⟨v', bs, e1, r, _⟩ := rl.get (i := i) (d := .int d) (by simp [intD, hd])
      rw [hv'] at e1; cases e1
      obtain ⟨t, rfl⟩ : ∃ t, v = .int d t := by cases r; exact ⟨_, rfl⟩
      exact ⟨t, by show Value.int d t = Value.int (l.getD i 0) t; rw [List.getD_eq_getElem?_getD, hd]; rfl⟩
  · intro s' t' M
    have e : preSum (fun i => l.getD i 0) ws.toArray.size = l.sum := by
      rw [List.size_toArray, hlen, preSum_eq l _ (Nat.le_refl _), List.take_length]
    rw [e]
    have M' := M
    refine k _ [] s' ?_ (.int _ _) fun _ a ha => nomatch ha
    obtain ⟨h', g', d', t', o'⟩ := s'
    obtain ⟨m1, m2, m3, m4, m5⟩ := M
    simp only at m1 m2 m3 m4
    refine ⟨h', t', by rw [m2, m3, m4], .of fun b ob e => m1 b ob (fun hb => ?_) (Heap.get?_push_of_some _ e)⟩
    rw [List.mem_singleton.mp hb, new_none] at e; cases e
noncomputable def maxI : List Int → Int
  | [] => 0
  | [a] => a
  | a :: b :: l => max a (maxI (b :: l))
theorem maxI_spec : ∀ {l : List Int}, l ≠ [] → maxI l ∈ l ∧ ∀ x ∈ l, x ≤ maxI l
  | [a], _ => ⟨by simp [maxI], by simp [maxI]⟩
  | a :: b :: l, _ => by
    obtain ⟨h1, h2⟩ := maxI_spec (l := b :: l) (by simp)
    refine ⟨?_, fun x hx => ?_⟩
    · show max a (maxI (b :: l)) ∈ _
      by_cases q : a ≤ maxI (b :: l)
      · rw [Int.max_eq_right q]; exact .tail _ h1
      · rw [Int.max_eq_left (by omega)]; exact .head _
    · show x ≤ max a (maxI (b :: l))
      rcases List.mem_cons.mp hx with rfl | hx
      · exact Int.le_max_left _ _
      · exact Int.le_trans (h2 x hx) (Int.le_max_right _ _)
theorem call_max {l : List Int} (hne : l ≠ []) : CallV c n (.builtin "max") [.list (intD l)] (.int (maxI l)) := by
  intro A s E Q vs as o W r k
  obtain ⟨v, rfl, h1⟩ := r.one
  obtain ⟨a, ws, bs, rfl, rfl, hl, rl⟩ := h1.list_inv
  obtain ⟨xs, rfl, rfl⟩ := rl.intD
  have e1 : (xs.map fun p => Value.int p.1 p.2).toArray = intItems xs.toArray := by simp [intItems]
  rw [e1] at hl
  have hpos : 0 < xs.toArray.size := by rw [List.size_toArray]; cases xs <;> simp_all
  refine max_intList o.h hl.is hpos fun v h' tk hv hk => ?_
  have hnum : ∀ i, i < xs.length → numAt xs.toArray i = (xs.map (·.1)).getD i 0 := fun i hi => by
    unfold numAt; simp [List.getD_eq_getElem?_getD, hi]
  obtain ⟨b1, b2⟩ := argBest_gt (numAt xs.toArray) (xs.toArray.size - 1)
  generalize argBest (fun i j => decide (numAt xs.toArray i > numAt xs.toArray j)) (xs.toArray.size - 1) = q at hv b1 b2
  rw [List.size_toArray] at b1 b2 hpos
  have hq : q < xs.length := by omega
  have hv' : v = .int (xs[q]).1 (xs[q]).2 := by
    simp [intItems, hq] at hv
    exact hv.symm
  have hbest : (xs[q]).1 = maxI (xs.map (·.1)) := by
    obtain ⟨m1, m2⟩ := maxI_spec hne
    refine Int.le_antisymm (m2 _ (List.mem_map.mpr ⟨_, List.getElem_mem hq, rfl⟩)) ?_
    obtain ⟨p, hp, ep⟩ := List.mem_map.mp m1
    obtain ⟨j, hj, rfl⟩ := List.getElem_of_mem hp
    have := b2 j (by omega)
    rw [hnum j hj, hnum q hq] at this
    simp [List.getD_eq_getElem?_getD, hj, hq] at this
    rw [← ep]; exact this
  rw [hv', hbest]
  exact k _ [] _ (kp_of hk) (.int _ _) fun _ a ha => nomatch ha
/-- list(range(a, b, c)) -/
theorem ev_list_range3 {e1 e2 e3 : PySem.Expr} {np1 np2 p1 p2 : Pos} {a b st : Int} {m : Nat} (gl : GV c "list" (.type "list")) (gr : GV c "range" (.type "range")) (h1 : Ev c n sc Γ false e1 (.int a)) (h2 : Ev c n sc Γ false e2 (.int b)) (h3 : Ev c n sc Γ false e3 (.int st))
    (hc : st ≠ 0) (hc' : st.natAbs < 1073741824) (hsm : Builtin.Range.small a b st = true) (hsz : Builtin.Range.rangeSize a b st = (m : Int)) (hm : m ≤ 2 ^ 24)
    (kl : sc.names.lookup ("list" : PySem.Str) = some .globalImplicit := by decide +kernel) (kr : sc.names.lookup ("range" : PySem.Str) = some .globalImplicit := by decide +kernel)
    (hs : ∀ env, starEach [e1, e2, e3] env = [(false, eval e1 env), (false, eval e2 env), (false, eval e3 env)] := by intro _; rfl) :
    Ev c n sc Γ true (.Call (.Name "list" np1) [.Call (.Name "range" np2) [e1, e2, e3] [] p2] [] p1) (.list (intD ((List.range m).map fun i : Nat => a + (i : Int) * st))) := by
  intro env A s E Q F o W V h
  refine wpAny_Call_NameR (name_gv gl F W kl (by decide +kernel) (PySem.callWith_type rfl (evalArgs_plain (Calls.spliced_cons ?_))))
  refine wpAny_Call_NameR (name_gv gr F W kr (by decide +kernel) (PySem.callWith_type (any_false_backTo (by rw [hs env]; rfl)) ?_))
  rw [hs env]
  refine evalArgs_plain (Calls.spliced_cons ?_)
  refine h1 env A s E _ F o W V fun v1 _ s₁ k₁ r₁ _ => Calls.spliced_cons ?_
  refine h2 env A s₁ E _ F o (W.stays k₁.st) (V.stays k₁.st) fun v2 _ s₂ k₂ r₂ _ => Calls.spliced_cons ?_
  refine h3 env A s₂ E _ F o (W.stays (k₁.trans' k₂).st) (V.stays (k₁.trans' k₂).st) fun v3 _ s₃ k₃ r₃ _ => Calls.spliced_nil ?_
  obtain ⟨t1, rfl⟩ : ∃ t, v1 = .int a t := by cases r₁; exact ⟨_, rfl⟩
  obtain ⟨t2, rfl⟩ : ∃ t, v2 = .int b t := by cases r₂; exact ⟨_, rfl⟩
  obtain ⟨t3, rfl⟩ : ∃ t, v3 = .int st t := by cases r₃; exact ⟨_, rfl⟩
  have k13 := (k₁.trans' k₂).trans' k₃
  refine call_range_3 hc (Calls.spliced_nil ?_) (.inl (PyProof.noPylong_small hc'))
  have kr := kp_push s₃ { cls := Value.type "range", data := Data.fields #[Value.int a t1, Value.int b t2, Value.int st t3] } s₃.toks
  refine PySem.call_list_range (a := a) (b := b) (c := st) (n := m) o.h (Heap.get?_push_size _ rfl) hsm hsz hm fun h' tk acc c' hk he hit => ?_
  have kk : Kp s { s₃ with heap := h', toks := tk } := (k13.trans' kr).trans' (kp_of hk)
  obtain ⟨hit1, hit2⟩ := hit
  have nn : ∀ (x : Addr), x = (s₃.heap.push { cls := Value.type "range", data := Data.fields #[Value.int a t1, Value.int b t2, Value.int st t3] }).objs.size → s.heap.get? x = none := fun x hx => by
    cases q : s.heap.get? x with
    | none => rfl
    | some ob =>
      have := Heap.lt_size ((k13.trans' kr).st.has q).choose_spec
      rw [hx] at this; exact absurd this (Nat.lt_irrefl _)
  have rr : ∀ (k : Nat) (l : List Value), l.length = m - k → k ≤ m → (∀ j v, l[j]? = some v → ∃ t, v = Value.int (a + ((k + j : Nat) : Int) * st) t) → RdAll h' l (intD (((List.range m).drop k).map fun i : Nat => a + (i : Int) * st)) [] := by
    intro k l
    induction l generalizing k with
    | nil =>
      intro e hk _
      rw [List.drop_eq_nil_of_le (by rw [List.length_range]; simp at e; omega)]
      exact .nil
    | cons v l ih =>
      intro e hk hv
      rw [List.length_cons] at e
      have hkm : k < m := by omega
      rw [List.drop_eq_getElem_cons (by rw [List.length_range]; exact hkm)]
      obtain ⟨t, rfl⟩ := hv 0 v rfl
      refine .cons (as := []) ?_ (ih (k + 1) (by omega) (by omega) fun j v hj => ?_)
      · simp only [Nat.add_zero, List.getElem_range]
        exact .int _ _
      · obtain ⟨t, e⟩ := hv (j + 1) v (by simpa using hj)
        exact ⟨t, by rw [e]; congr 3; omega⟩
  have := rr 0 acc.toList (by rw [Array.length_toList, hit1]; rfl) (Nat.zero_le _) fun j v hj => by
    simp only [Nat.zero_add]
    exact hit2 j v (by simpa using hj)
  rw [List.drop_zero] at this
  refine h _ _ _ kk (.list ⟨c', by simpa using he⟩ this) fun _ x hx => ?_
  rw [List.mem_singleton.mp hx]; exact nn _ rfl
/-- an item from the end -/
theorem item_list_neg {xs : List D} {i : Int} {d : D} (h0 : i < 0) (h1 : -(xs.length : Int) ≤ i) (h2 : -2 ^ 62 ≤ i) (hx : xs[(i + xs.length).toNat]? = some d) : Item c n (.list xs) (.int i) d := by
  intro A s E Q va vb as bs o W ra rb h
  cases rb
  obtain ⟨l, vs, bs, rfl, rfl, hl, rl⟩ := ra.list_inv
  obtain ⟨v, cs, e, r, _⟩ := rl.get hx
  have hs : (vs.toArray.size : Int) = xs.length := by rw [List.size_toArray, rl.length]
  refine ⟨"list", _, hl.is.typeIs, slot_list_getitem.lookup, wpAny_getItem_list_neg hl.is h0 (by rw [hs]; exact h1) (by omega) (by rw [hs]; simpa using e) (h v cs s (.rfl' s) r fun q => nomatch q)⟩
theorem cmp_in_ints {x : Int} {l : List Int} : Cmp c n .In (.int x) (.list (intD l)) (l.any fun y => y == x) := by
  intro A s E Q va vb as bs o W ra rb h
  cases ra
  obtain ⟨a, vs, bs, rfl, rfl, hl, rl⟩ := rb.list_inv
  exact in_list_ints hl.is rl.intsAre (h s (.rfl' s))
end
end Mine
end
section
open PySem PySem.W PyProof.Rows PySem.Calls
set_option linter.unusedSectionVars false
set_option linter.unusedVariables false
set_option maxRecDepth 100000
namespace Mine
variable [Bd]
section
variable {c : Cx} {n : Nat} {sc : Scope} {Γ : Ctx} {fr : Bool} {P : PySem.Str → Bool}
/-- a cut with a step -/
theorem ev_slice_step {v ste : PySem.Expr} {le ue : Option PySem.Expr} {lo hi : Option Int} {st : Int} {p q : Pos} {xs : List D} (hv : Ev c n sc Γ false v (.list xs)) (hl : PartD le lo c n sc Γ) (hu : PartD ue hi c n sc Γ) (hst : Ev c n sc Γ false ste (.int st)) (h0 : st ≠ 0) (fx : flats xs = true) (hz : xs.length ≤ sizeLine)
    (hlt : ∀ o r : Value, letTemporaryGo v o r = pure () := by intro _ _; rfl) :
    Ev c n sc Γ fr (.Subscript v (.Slice le ue (some ste) q) p) (.list (slcS lo hi (some st) xs)) := by
  intro env A s E Q F o W V h
  refine wpAny_Subscript_Slice_step slot_list_getitem.lookup (hv env A s E _ F o W V fun va as s₁ k₁ r₁ _ => ?_) hlt
  refine wpAny_Slice (part_run hl F o (W.stays k₁.st) (V.stays k₁.st) fun vl s₂ pl k₂ => part_run hu F o (W.stays (k₁.trans' k₂).st) (V.stays (k₁.trans' k₂).st) fun vu s₃ pu k₃ => ?_)
  have k13 := (k₁.trans' k₂).trans' k₃
  refine wpAny_evalPart_some (hst env A s₃ E _ F o (W.stays k13.st) (V.stays k13.st) fun vs' _ s₄ k₄ r₄ _ => ?_)
  obtain ⟨ts, rfl⟩ : ∃ t, vs' = .int st t := by cases r₄; exact ⟨_, rfl⟩
  obtain ⟨l, vs, bs, rfl, rfl, hL, rL⟩ := r₁.list_inv
  obtain rfl := rL.flat fx
  have kp := kp_push s₄ { cls := .type "slice", data := .fields #[vl, vu, Value.int st ts] } s₄.toks
  have k14 := k13.trans' k₄
  have st' := (((k₂.trans' k₃).trans' k₄).trans' kp).st
  have hL' : (s₄.heap.push { cls := .type "slice", data := .fields #[vl, vu, Value.int st ts] }).IsList l vs.toArray := isList_stays hL.is st'
  refine ⟨hL'.typeIs, ?_⟩
  refine wpAny_getItem_list_slice (s := { s₄ with heap := s₄.heap.push { cls := .type "slice", data := .fields #[vl, vu, Value.int st ts] } }) hL' ⟨_, Heap.get?_push_size _ rfl, rfl, rfl⟩ pl pu (.int _ _) (by simpa using h0) ?_ (by rw [List.size_toArray, rL.length]; exact hz)
  have e : slicePick vs.toArray lo hi (some st) = (slcS lo hi (some st) vs).toArray := by
    unfold slicePick slcS
    simp
  rw [e]
  have rL' : RdAll (s₄.heap.push { cls := .type "slice", data := .fields #[vl, vu, Value.int st ts] }) (slcS lo hi (some st) vs) (slcS lo hi (some st) xs) [] := by
    unfold slcS
    rw [rL.length]
    exact (rL.stays st').pick _
  exact h _ _ _ ((k14.trans' kp).trans' (kp_push _ _ _)) (rd_new rL' rfl) fun _ a ha => by
    rw [List.mem_singleton.mp ha]
    cases q : s.heap.get? (s₄.heap.push { cls := .type "slice", data := .fields #[vl, vu, Value.int st ts] }).objs.size with
    | none => rfl
    | some ob => exact absurd (Heap.lt_size ((k14.trans' kp).st.has q).choose_spec) (Nat.lt_irrefl _)
noncomputable def boolD (l : List Bool) : List D := l.map .bool
theorem RdAll.boolD {h : Heap} : ∀ {l : List Bool} {vs : List Value} {as : List Addr}, RdAll h vs (Mine.boolD l) as → vs = l.map .bool
  | [], vs, as, r => by cases r; rfl
  | i :: l, vs, as, r => by
    cases r with | cons h1 h2 =>
    have := RdAll.boolD h2
    rename_i v vs' as' bs'
    obtain rfl : v = .bool i := by cases h1; rfl
    rw [this]; rfl
theorem carriedAll_bools : ∀ l : List Bool, CarriedAll (l.map Value.bool) (l.map PyData.bool)
  | [] => .nil
  | b :: l => .cons (.bool b) (carriedAll_bools l)
theorem OkA.units65 {A : Around} (o : OkA n A) : A.units + 65 < cLine := by have := o.u; show A.units + 65 < 9900; omega
theorem few_bools {p : List Bool → Prop} (h : ∀ l : List Bool, l ∈ ([[]] : List (List Bool)) ++ [[false], [true]] ++ ([[false], [true]].flatMap fun a => [[false], [true]].map fun b => a ++ b) ++ ([[false], [true]].flatMap fun a => [[false], [true]].flatMap fun b => [[false], [true]].map fun c => a ++ b ++ c) ++ ([[false], [true]].flatMap fun a => [[false], [true]].flatMap fun b => [[false], [true]].flatMap fun c => [[false], [true]].map fun d => a ++ b ++ c ++ d) → p l) : ∀ l : List Bool, l.length ≤ 4 → p l := by
  intro l hl
  refine h l ?_
  rcases l with _ | ⟨a, _ | ⟨b, _ | ⟨c, _ | ⟨d, _ | ⟨e, l⟩⟩⟩⟩⟩
  · decide
  · cases a <;> decide
  · cases a <;> cases b <;> decide
  · cases a <;> cases b <;> cases c <;> decide
  · cases a <;> cases b <;> cases c <;> cases d <;> decide
  · simp at hl
theorem pyAll_bools : ∀ l : List Bool, pyAll (boolD l) = l.map PyData.bool
  | [] => by simp [boolD, pyAll]
  | b :: l => by
    have := pyAll_bools l
    simp only [boolD] at this
    simp [boolD, pyAll, D.py, this]
theorem dataAll_bools : ∀ l : List Bool, dataAll (boolD l) = true
  | [] => by simp [boolD, dataAll]
  | b :: l => by
    have := dataAll_bools l
    simp only [boolD] at this
    simp [boolD, dataAll, D.data, this]
theorem few_shaped : ∀ l : List Bool, l.length ≤ 4 → SeqAt.shaped (PyData.list (l.map PyData.bool)) = true := few_bools (by decide +kernel)
theorem few_count : ∀ l : List Bool, l.length ≤ 4 → decide (Spec.countIn (PyData.bool true) (l.map PyData.bool) ≠ 0) = l.any fun y => y := few_bools (by decide +kernel)
/-- True in a list of bools -/
theorem cmp_true_in {l : List Bool} (hl : l.length ≤ 4) : Cmp c n .In (.bool true) (.list (boolD l)) (l.any fun y => y) := by
  intro A s E Q va vb as bs o W ra rb h
  have ra' := ra
  cases ra
  have rb' := rb.reads (by simp only [D.data]; exact dataAll_bools l)
  simp only [D.py, pyAll_bools] at rb'
  have ra2 := ra'.reads rfl
  simp only [D.py] at ra2
  refine in_list_dataH rb' ra2 (few_shaped l hl) rfl o.units65 (fun y hy => ?_) ?_
  · obtain ⟨b, _, rfl⟩ := List.mem_map.mp hy
    cases b <;> decide +kernel
  · rw [few_count l hl]; exact h s (.rfl' s)
theorem RdAll.rep {h : Heap} {vs : List Value} {xs : List D} (r : RdAll h vs xs []) : ∀ k : Nat, RdAll h (List.replicate k vs).flatten (List.replicate k xs).flatten []
  | 0 => .nil
  | k + 1 => by
    rw [List.replicate_succ, List.replicate_succ, List.flatten_cons, List.flatten_cons]
    exact RdAll.append (as := []) (bs := []) r (r.rep k)
/-- a list, times a number -/
theorem bin_mul_list {xs : List D} {k : Nat} (fx : flats xs = true) (hk : k < 2 ^ 31) (hz : xs.length * k ≤ 2 ^ 24) : Bin c n .Mult (.list xs) (.int k) (.list (List.replicate k xs).flatten) := by
  intro A s E Q va vb as bs o W ra rb h
  obtain ⟨u, rfl⟩ : ∃ u, vb = .int k u := by cases rb; exact ⟨_, rfl⟩
  obtain ⟨l, vs, cs, rfl, rfl, hl, rl⟩ := ra.list_inv
  obtain rfl := rl.flat fx
  obtain ⟨m, ho⟩ := hl
  obtain ⟨x, hx⟩ : ∃ x : Int, x = k := ⟨_, rfl⟩
  have hxk : x.toNat = k := by omega
  rw [← hx]
  rw [← hxk] at h
  have hz' : vs.toArray.size * x.toNat ≤ 2 ^ 24 := by rw [List.size_toArray, rl.length, hxk]; exact hz
  refine wpAny_binaryOp_repeat_ref (T := "list") (U := "int") (by decide) ⟨_, ho, rfl⟩ (fun s' => typeIs_int s' x u) noFill_list_mul PySem.F.fills_int_mul PySem.F.slot_int_rmul repeat_list PySem.F.slot_int_index.lookup
    (call_meets PySem.F.slot_int_rmul (typeIs_int s x u) PySem.F.entry_int_rmul (PySem.F.args_int_rmul_2 _ _) (int___rmul___int_list x u l vs.toArray m)
      ⟨ho, rfl, ⟨_, ho, rfl⟩, call_meets PySem.F.slot_list_mul ⟨_, ho, rfl⟩ PySem.F.entry_list_mul (PySem.F.args_list_mul_2 _ _)
        (lm_list_mul_any l vs.toArray m none #[] x u (by simp [Builtin.List.listFitsIndex]; omega) (by omega) (by simp [Builtin.List.listTooLong, sizeLine]; omega))
        ⟨ho, ?_⟩⟩)
  rw [listMul_foldl_if]
  refine h _ _ _ (kp_push s _ s.toks) (rd_new (rl.rep _) rfl) fun _ a ha => ?_
  rw [List.mem_singleton.mp ha]; exact new_none _
end
end Mine
end
section
open PySem PySem.W PyProof.Rows PySem.Calls
set_option linter.unusedSectionVars false
set_option linter.unusedVariables false
set_option maxRecDepth 100000
namespace Mine
variable [Bd]
section
variable {c : Cx} {n : Nat} {sc : Scope} {Γ : Ctx} {P : PySem.Str → Bool}
theorem boolD_get {l : List Bool} {i : Nat} : (boolD l)[i]? = (l[i]?).map .bool := by simp [boolD]
/-- for i, j in enumerate(a) over a parameter's bools: left at turn m by a return -/
theorem ex_for_enum {x i j : PySem.Str} {bs : List Bool} {np xp ip jp tp cp p : Pos} {k : Nat} {body oe : List PySem.Stmt} {m : Nat} {b : Bool} {r : D} (g : GV c "enumerate" (.type "enumerate")) (hΓ : Γ x = some (.list (boolD bs))) (hP : P x = true) (hij : i ≠ j) (hΓi : Γ i = none) (hΓj : Γ j = none)
    (hb : ∀ k b, k < m → bs[k]? = some b → Exs c n sc P (upd (upd Γ i (.int k)) j (.bool b)) body (.next (upd (upd Γ i (.int k)) j (.bool b)))) (hm : bs[m]? = some b) (hr : Exs c n sc P (upd (upd Γ i (.int m)) j (.bool b)) body (.ret r))
    (hk : sc.names.lookup ("enumerate" : PySem.Str) = some .globalImplicit := by decide +kernel) (hi : sc.names.lookup i = some .local ∨ sc.names.lookup i = some .cell := by decide +kernel) (hj : sc.names.lookup j = some .local ∨ sc.names.lookup j = some .cell := by decide +kernel) (hd : (x == ("__debug__" : PySem.Str)) = false := by decide +kernel) :
    Ex c n sc P Γ (.For (.Tuple [.Name i ip, .Name j jp] k tp) (.Call (.Name "enumerate" np) [.Name x xp] [] cp) body oe p) (.ret r) := by
  intro env A s0 s E Q F ok W V h
  obtain ⟨f, VV⟩ := V.vars
  obtain ⟨v, a, rx⟩ := VV.val x _ hΓ
  obtain ⟨l, vs, as, rfl, hf, hl, rl⟩ := rx.list_inv
  obtain rfl := rl.boolD
  have hlen : ((bs.map Value.bool).toArray).size = bs.length := by simp
  refine wpAny_For ?_ (by intro _; rfl)
  refine wpAny_Call_NameR (name_gv g F (V.wd W) hk (by decide +kernel) (PySem.callWith_type rfl (evalArgs_plain (Calls.spliced_cons (ev_at F a hd (Calls.spliced_nil ?_))))))
  refine call_enumerate_list hl.is fun h1 ie il hz k1 => ?_
  have hK : Kp s { s with heap := h1 } := kp_of (tk := s.toks) k1
  refine wpAny_pyIter_enum ie ?_
  generalize hs1 : ({ s with heap := h1 } : Shared) = s1 at hK
  have eh1 : s1.heap = h1 := by rw [← hs1]
  have ie1 : IsEnum s1.heap (s.heap.objs.size + 1) s.heap.objs.size 0 Value.none := by rw [eh1]; exact ie
  have il1 : s1.heap.IsListIter s.heap.objs.size l 0 := by rw [eh1]; exact il
  have ne1 : s.heap.get? s.heap.objs.size = none := new_none _
  have ne2 : s.heap.get? (s.heap.objs.size + 1) = none := Heap.get?_none_of_le (Nat.le_succ _)
  have hne : s.heap.objs.size + 1 ≠ s.heap.objs.size := Nat.succ_ne_self _
  have hlt : @LT.lt Nat _ l s.heap.objs.size := by obtain ⟨q, e⟩ := hl; exact Heap.lt_size e
  have hl1 : PL s1.heap l (bs.map Value.bool).toArray := hl.stays hK.st
  have hle : l ≠ s.heap.objs.size + 1 := fun e => by rw [e] at hlt; exact absurd hlt (by show ¬ (s.heap.objs.size + 1 < s.heap.objs.size); omega)
  have hli : l ≠ s.heap.objs.size := fun e => by rw [e] at hlt; exact absurd hlt (Nat.lt_irrefl _)
  generalize s.heap.objs.size + 1 = e at *
  generalize s.heap.objs.size = it at *
  have F1 := V.grow hK
  have V1 := VV.stays hK.st
  -- the base of the loop
  obtain ⟨hg0, VX, Fg⟩ := F1.rebaseX V1 (fun a => a = e ∨ a = it) (fun a q => q.elim (fun q => by rw [q]; exact none_up V.kp.st ne2) (fun q => by rw [q]; exact none_up V.kp.st ne1))
  have hgl : PL (cut (fun a => Mut env P Γ f a ∨ a = e ∨ a = it) s1.heap) l (bs.map Value.bool).toArray := by
    obtain ⟨q, eq⟩ := hl1
    refine ⟨q, ((cut_get).2 ?_).trans eq⟩
    rintro ((rfl | ⟨y, z⟩ | ⟨y, z1, z2, z3⟩) | rfl | rfl)
    · obtain ⟨m', o', es, ep, q', qd, _⟩ := F1.ns
      rw [eq] at q'; cases q'; cases qd
    · obtain ⟨⟨v', o', q', qd⟩, _⟩ := F1.cell y l z
      rw [eq] at q'; cases q'; cases qd
    · have hyx : x ≠ y := fun q => by rw [q] at hP; rw [hP] at z1; cases z1
      exact VV.apart y x l (Ne.symm hyx) z1 z2 (by rw [hΓ]; exact fun q => nomatch q) z3 (by rw [hf]; exact .head _)
    · exact hle rfl
    · exact hli rfl
  have hge : (cut (fun a => Mut env P Γ f a ∨ a = e ∨ a = it) s1.heap).get? e = none := (cut_get).1 (.inr (.inl rfl))
  have hgi : (cut (fun a => Mut env P Γ f a ∨ a = e ∨ a = it) s1.heap).get? it = none := (cut_get).1 (.inr (.inr rfl))
  generalize cut (fun a => Mut env P Γ f a ∨ a = e ∨ a = it) s1.heap = gg at hg0 Fg hgl hge hgi
  have Wg : Wf c A env gg := W.stays hg0
  refine codeAny_forLoop_any (fun q s'' => ∃ i, i ≤ m ∧ q = m + 1 - i ∧ Fs { s1 with heap := gg } env P Γ s'' ∧ ∃ old, IsEnum s''.heap e it (i : Int) old ∧ s''.heap.IsListIter it l i) (fun q s₁ hI => ?_) (m + 1) ⟨0, Nat.zero_le _, rfl, Fg, _, ie1, il1⟩
  obtain ⟨t, ht, rfl, Ft, old, iet, ilt⟩ := hI
  have hlt' : PL s₁.heap l (bs.map Value.bool).toArray := hgl.stays Ft.kp.st
  have hml : m < bs.length := (List.getElem?_eq_some_iff.mp hm).1
  obtain ⟨bt, hbt⟩ : ∃ bt, bs[t]? = some bt := ⟨_, List.getElem?_eq_getElem (by omega)⟩
  refine wpAny_pyNext_enum_item (items := (bs.map Value.bool).toArray) (x := .bool bt) iet ilt hlt'.is (by simp [hbt]) hne fun h2 ie2 il2 tu2 sz2 k2 => ?_
  have offe : OffO s₁.heap e := offO_fields iet rfl
  have offi : OffO s₁.heap it := by obtain ⟨o', q1, q2, q3⟩ := ilt; exact offO_fields q1 q3
  have F2 := Ft.offs (h' := h2) (tk := s₁.toks + 1) (wr := [e, it]) (by simp; exact ⟨offe, offi⟩) (by simp; exact ⟨hge, hgi⟩) (fun b o hb eo => k2 b o (fun q => hb (by simp [q])) (fun q => hb (by simp [q])) eo)
  refine wpAny_letOwnedTupleGo_enum (s := { s₁ with heap := h2, toks := s₁.toks + 1 }) ie2 fun h3 ie3 k3 => ?_
  have F3 := F2.offs (h' := h3) (tk := s₁.toks + 1) (wr := [e]) (by simp; exact offO_fields ie2 rfl) (by simp; exact hge) (fun b o hb eo => (k3.2 b fun q => hb (by simp [q])).trans eo)
  have tu3 : h3.get? s₁.heap.objs.size = some { cls := Value.type "tuple", data := Data.seq #[Value.int (t : Int) s₁.toks, .bool bt] } := (k3.2 _ fun q => by have := Heap.lt_size iet; rw [← q] at this; exact absurd this (Nat.lt_irrefl _)).trans tu2
  have il3 : h3.IsListIter it l (t + 1) := by obtain ⟨o', q1, q2⟩ := il2; exact ⟨o', (k3.2 _ fun q => hne q.symm).trans q1, q2⟩
  generalize hs3 : ({ s₁ with heap := h3, toks := s₁.toks + 1 } : Shared) = s₃ at F3
  have eh3 : s₃.heap = h3 := by rw [← hs3]
  have ie3' : IsEnum s₃.heap e it ((t + 1 : Nat) : Int) (.bool bt) := by rw [eh3]; exact_mod_cast ie3
  have il3' : s₃.heap.IsListIter it l (t + 1) := by rw [eh3]; exact il3
  have tu3' : s₃.heap.IsTuple s₁.heap.objs.size #[Value.int (t : Int) s₁.toks, .bool bt] := ⟨_, by rw [eh3]; exact tu3, rfl, _, rfl⟩
  obtain ⟨f3, V3⟩ := F3.vars
  obtain ⟨hb1, FB⟩ := F3.rebase V3
  have offe3 : OffO s₃.heap e := offO_fields ie3' rfl
  have offi3 : OffO s₃.heap it := by obtain ⟨o', q1, q2, q3⟩ := il3'; exact offO_fields q1 q3
  have hbe : ∀ s₄ : Shared, Stays (cut (Mut env P Γ f3) s₃.heap) s₄.heap → IsEnum s₄.heap e it ((t + 1 : Nat) : Int) (.bool bt) ∧ s₄.heap.IsListIter it l (t + 1) := fun s₄ k4 => by
    refine ⟨k4.ex (((cut_get).2 (not_mut_off F3 V3 offe3)).trans ie3') (notDic_fields rfl), ?_⟩
    obtain ⟨o', q1, q2, q3⟩ := il3'
    exact ⟨o', k4.ex (((cut_get).2 (not_mut_off F3 V3 offi3)).trans q1) (notDic_fields q3), q2, q3⟩
  refine wpAny_assign_Tuple ok.h tu3' rfl rfl fun h4 he4 => ?_
  have kk := extBut_kp he4
  have F4 := FB.grow kk
  refine wpAny_assignInOrder_more (wpAny_assign_Name (store_flat (c := c) F4 (.int _ _) F.kind (kind_fm F hi) fun s5 F5 c5 => ?_))
  refine wpAny_assignInOrder_more (wpAny_assign_Name (store_flat (c := c) F5 (.bool _) F.kind (kind_fm F hj) fun s6 F6 c6 => ?_))
  refine wpAny_assignInOrder_none ?_
  by_cases hmt : t = m
  · subst hmt
    rw [hm] at hbt; cases hbt
    refine hr env A _ s6 _ _ F ok (Wg.stays hb1) F6 fun v' as s7 k7 r7 f7 => ?_
    refine h v' as s7 (Kp.down hg0 (V.kp.trans' hK) (Kp.down hb1 F3.kp k7)) r7 fun a ha => none_up hg0 (none_up hb1 (f7 a ha))
  · refine hb t bt (by omega) hbt env A _ s6 _ _ F ok (Wg.stays hb1) F6 fun s7 F7 => ?_
    have hsub : Sub Γ (upd (upd Γ i (.int t)) j (.bool bt)) := fun y d e => by
      have hyi : y ≠ i := fun q => by rw [q, hΓi] at e; cases e
      have hyj : y ≠ j := fun q => by rw [q, hΓj] at e; cases e
      rw [upd_other hyj (upd_other hyi e)]
    exact ⟨m + 1 - (t + 1), by omega, t + 1, by omega, rfl, (F7.sub hsub).down hb1 F3.kp, _, hbe s7 F7.kp.st⟩
end
end Mine
end
section
open PySem PySem.W PyProof.Rows PySem.Calls
set_option linter.unusedSectionVars false
set_option linter.unusedVariables false
set_option maxRecDepth 100000
namespace Mine
variable [Bd]
section
variable (c : Cx)
noncomputable def EvN (n : Nat) (sc : Scope) (Γ : Ctx) (e : PySem.Expr) : Prop :=
  ∀ env A s E Q, Fm sc env → OkA n A → Wd c A s.heap → Vars env s.heap Γ → (∀ e s', New s e s' → E (.ref e) s') → wpAny (model c.prog c.w) A (eval e env) Q E s
noncomputable def EvF (n : Nat) (sc : Scope) (Γ : Ctx) (e : PySem.Expr) : Prop :=
  ∀ env A s E Q, Fm sc env → OkA n A → Wd c A s.heap → Vars env s.heap Γ → (∀ l e s', A.frames = some l → Fly l s e s' → E (.ref e) s') → wpAny (model c.prog c.w) A (eval e env) Q E s
noncomputable def BinN (n : Nat) (op : Operator) (a b : D) : Prop :=
  ∀ A s E Q va vb as bs, OkA n A → Wd c A s.heap → Rd s.heap va a as → Rd s.heap vb b bs → (∀ e s', New s e s' → E (.ref e) s') → wpAny (model c.prog c.w) A (binaryOp op va vb) Q E s
noncomputable def CallR (n : Nat) (f : Value) (args : List D) : Prop :=
  ∀ A s E Q vs as, OkA n A → Wd c A s.heap → RdAll s.heap vs args as → (∀ l e s', A.frames = some l → Fly l s e s' → E (.ref e) s') → wpAny (model c.prog c.w) A (call f vs) Q E s
end
section
variable {c : Cx} {n : Nat} {sc : Scope} {Γ Γ' : Ctx} {P : PySem.Str → Bool}
theorem evN_bin {l r : PySem.Expr} {op : Operator} {p : Pos} {a b : D} (hl : Ev c n sc Γ false l a) (hr : Ev c n sc Γ false r b) (hb : BinN c n op a b) : EvN c n sc Γ (.BinOp l op r p) := by
  intro env A s E Q F o W V h
  refine wpAny_BinOp (hl env A s E _ F o W V fun va as s₁ k₁ r₁ _ => hr env A s₁ E _ F o (W.stays k₁.st) (V.stays k₁.st) fun vb bs s₂ k₂ r₂ _ => ?_)
  exact hb A s₂ E Q va vb as bs o (W.stays (k₁.trans' k₂).st) (r₁.stays k₂.st) r₂ fun e s' x => h e s' (x.pre (k₁.trans' k₂))
theorem evF_bin_l {l r : PySem.Expr} {op : Operator} {p : Pos} (hl : EvF c n sc Γ l) : EvF c n sc Γ (.BinOp l op r p) := fun env A s E Q F o W V h => wpAny_BinOp (hl env A s E _ F o W V h)
theorem evF_bin_r {l r : PySem.Expr} {op : Operator} {p : Pos} {a : D} (hl : Ev c n sc Γ false l a) (hr : EvF c n sc Γ r) : EvF c n sc Γ (.BinOp l op r p) := fun env A s E Q F o W V h =>
  wpAny_BinOp (hl env A s E _ F o W V fun va as s₁ k₁ r₁ _ => hr env A s₁ E _ F o (W.stays k₁.st) (V.stays k₁.st) fun l e s' el x => h l e s' el (x.pre k₁))
theorem evF_list1 {e : PySem.Expr} {p : Pos} (he : EvF c n sc Γ e) (hs : ∀ env, starEach [e] env = (false, eval e env) :: starEach [] env := by intro _; rfl) : EvF c n sc Γ (.List [e] p) := fun env A s E Q F o W V h =>
  List_ (wpAny_items_cons (he env A s E _ F o W V h) (hs env))
theorem evF_ifexp {t b o : PySem.Expr} {p : Pos} (ht : Tr c n sc Γ t true) (hb : EvF c n sc Γ b) : EvF c n sc Γ (.IfExp t b o p) := fun env A s E Q F ok W V h =>
  wpAny_IfExp (ht env A s E _ F ok W V fun s' k => by rw [if_pos rfl]; exact hb env A s' E Q F ok (W.stays k.st) (V.stays k.st) fun l e s' el x => h l e s' el (x.pre k))
theorem evF_call_def {x : PySem.Str} {f : Addr} {ob : Obj} {fd : FuncData} {e : PySem.Expr} {es : List PySem.Expr} {np p : Pos} {ds : List D} (g : GV c x (.ref f)) (ho : c.K.lookup f = some ob) (hf : ob.data = .func fd)
    (ha : Evs c n sc Γ false (e :: es) ds) (hc : CallR c n (.ref f) ds) (hk : sc.names.lookup x = some .globalImplicit := by decide +kernel) (hd : (x == ("__debug__" : PySem.Str)) = false := by decide +kernel)
    (hs : ∀ env, starEach (e :: es) env = (false, eval e env) :: starEach es env := by intro _; rfl) : EvF c n sc Γ (.Call (.Name x np) (e :: es) [] p) := by
  intro env A s E Q F o W V h
  refine wpAny_Call_NameR (name_gv g F W hk hd (callWith_function (o := ob) (fd := fd) ?_))
  have := ha env A s E p (fun vs s' => (s'.heap.get? f = some ob ∧ ob.data = .func fd) ∧ wpAny (model c.prog c.w) A (call (.ref f) ([] ++ vs) []) Q E s') F o W V fun vs as s₁ k₁ r₁ _ =>
    ⟨⟨(W.stays k₁.st).K _ _ ho, hf⟩, hc A s₁ E Q vs as o (W.stays k₁.st) r₁ fun l e s' el x => h l e s' el (x.pre k₁)⟩
  rw [hs env] at this ⊢
  exact evalArgs_plain this
theorem ex_ret_new {e : PySem.Expr} {p : Pos} (he : EvN c n sc Γ e) : Ex c n sc P Γ (.Return (some e) p) .new := fun env A s0 s E Q F ok W V h =>
  wpAny_Return_some (he env A s E _ F ok (V.wd W) V.toVars fun e s' x => h s e s' V.kp V.ns x)
theorem ex_ret_fly {e : PySem.Expr} {p : Pos} (he : EvF c n sc Γ e) : Ex c n sc P Γ (.Return (some e) p) .fly := fun env A s0 s E Q F ok W V h =>
  wpAny_Return_some (he env A s E _ F ok (V.wd W) V.toVars fun l e s' el x => h l e s' el (x.pre V.kp))
theorem ex_assign_fly {x : PySem.Str} {e : PySem.Expr} {px p : Pos} (he : EvF c n sc Γ e) (hs : ∀ env, swapsWith e (some (.Name x px)) p.line env = pure false := by intro _; rfl) : Ex c n sc P Γ (.Assign [.Name x px] e p) .fly := fun env A s0 s E Q F ok W V h =>
  wpAny_Assign_Name (he env A s E _ F ok (V.wd W) V.toVars fun l e s' el x => h l e s' el (x.pre V.kp)) (hs env)
theorem exs_new {st : PySem.Stmt} {r : List PySem.Stmt} (h1 : Ex c n sc P Γ st .new) : Exs c n sc P Γ (st :: r) .new := fun env A s0 s E Q F ok W V h => wpAny_execs_cons (h1 env A s0 s E _ F ok W V h)
theorem exs_fly {st : PySem.Stmt} {r : List PySem.Stmt} (h1 : Ex c n sc P Γ st .fly) : Exs c n sc P Γ (st :: r) .fly := fun env A s0 s E Q F ok W V h => wpAny_execs_cons (h1 env A s0 s E _ F ok W V h)
theorem Wd.mark {A : Around} {h : Heap} {v : Option Value} (W : Wd c A h) : Wd c (A.mark v) h := ⟨W.toWd0, W.stk⟩
theorem handle_zde {env : Env} {A : Around} {l : List Env} {s s' : Shared} {e : Addr} {E : Value → Shared → Prop} {Q : Flow → Shared → Prop} {zp hp : Pos} {b₀ : PySem.Stmt} {suite : List PySem.Stmt} (gz : GV c ZDE (.type ZDE)) (F : Fm sc env) (W : Wd0 c s.heap) (hk : sc.names.lookup (ZDE : PySem.Str) = some .globalImplicit)
    (x : Fly l s e s') (h : ∀ E' s'', Fly l s e s'' → wpAny (model c.prog c.w) (A.mark (some (.ref e))) (execs (b₀ :: suite) env) Q E' s'') :
    wpAny (model c.prog c.w) A (handleBy (.ref e) env [.ExceptHandler (some (.Name ZDE zp)) none (b₀ :: suite) hp]) Q E s' := by
  refine wpAny_handleBy_builtin (X := ZDE) (T := ZDE) (b := true) (by kernel_rfl) (by kernel_rfl) (by kernel_rfl) ?_
  refine name_gv0 gz F (W.stays x.kp.st) hk (by decide +kernel) ⟨rfl, x.typeIs, ?_⟩
  rw [if_pos rfl]
  exact land_fly x fun s'' x' => h _ s'' x'
/-- a try that takes its body's exception in: x = call, except: y = True -/
theorem ex_try_assign {x y : PySem.Str} {e : PySem.Expr} {px p zp yp cp ap hp tp : Pos} {k : Nat} {b : Bool} (gz : GV c ZDE (.type ZDE)) (he : EvF c n sc Γ e) (hk : sc.names.lookup (ZDE : PySem.Str) = some .globalImplicit := by decide +kernel)
    (hy : sc.names.lookup y = some .local ∨ sc.names.lookup y = some .cell := by decide +kernel) (hs : ∀ env, swapsWith e (some (.Name x px)) p.line env = pure false := by intro _; rfl) (hs' : ∀ env, swapsWith (.Constant (.bool b) k cp) (some (.Name y yp)) ap.line env = pure false := by intro _; rfl) :
    Ex c n sc P Γ (.Try [.Assign [.Name x px] e p] [.ExceptHandler (some (.Name ZDE zp)) none [.Assign [.Name y yp] (.Constant (.bool b) k cp) ap] hp] [] [] tp) (.next (upd Γ y (.bool b))) := by
  intro env A s0 s E Q F ok W V h
  obtain ⟨l, hfr, _⟩ := W.stk
  refine wpAny_Try_except (wpAny_execs_cons (wpAny_Assign_Name (he env A s _ _ F ok (V.wd W) V.toVars fun l' e s' el x => ?_) (hs env)))
  rw [hfr] at el; cases el
  refine try_fly hfr W.fm x fun s₃ x₃ => ?_
  refine handle_zde gz F (V.wd W).toWd0 hk x₃ fun E' s₄ x₄ => ?_
  have V4 := V.grow x₄.kp
  refine wpAny_execs_cons (wpAny_Assign_Name (wpAny_Constant_bool (store_flat (c := c) V4 (.bool b) F.kind (kind_fm F hy) fun s₅ V5 _ => ?_)) (hs' env))
  exact wpAny_execs_nil (h s₅ V5)
/-- a try whose body goes through -/
theorem ex_try_next {body : List PySem.Stmt} {h₀ : ExceptHandler} {hs : List ExceptHandler} {tp : Pos} (hb : Exs c n sc P Γ body (.next Γ')) : Ex c n sc P Γ (.Try body (h₀ :: hs) [] [] tp) (.next Γ') := by
  intro env A s0 s E Q F ok W V h
  exact wpAny_Try_except (hb env A s0 s _ _ F ok W V fun s' V' => wpAny_execs_nil (h s' V'))
theorem ex_try_ret {body : List PySem.Stmt} {h₀ : ExceptHandler} {hs : List ExceptHandler} {tp : Pos} {d : D} (hb : Exs c n sc P Γ body (.ret d)) : Ex c n sc P Γ (.Try body (h₀ :: hs) [] [] tp) (.ret d) := by
  intro env A s0 s E Q F ok W V h
  exact wpAny_Try_except (hb env A s0 s _ _ F ok W V fun v as s' k r f => h v as s' k r f)
/-- a try around a while whose turn m raises: except: return None -/
theorem ex_try_while {t : PySem.Expr} {b : List PySem.Stmt} {zp cp rp hp wp tp : Pos} {k : Nat} (gz : GV c ZDE (.type ZDE)) (G : Nat → Ctx) (m : Nat) (h0 : G 0 = Γ) (ht : ∀ i, i ≤ m → Tr c n sc (G i) t true) (hb : ∀ i, i < m → Exs c n sc P (G i) b (.next (G (i + 1)))) (hr : Exs c n sc P (G m) b .fly)
    (hk : sc.names.lookup (ZDE : PySem.Str) = some .globalImplicit := by decide +kernel) :
    Exs c n sc P Γ [.Try [.While t b [] wp] [.ExceptHandler (some (.Name ZDE zp)) none [.Return (some (.Constant .none k cp)) rp] hp] [] [] tp] (.ret .none) := by
  subst h0
  intro env A s0 s E Q F ok W V h
  obtain ⟨l, hfr, _⟩ := W.stk
  refine wpAny_execs_cons (wpAny_Try_except (wpAny_execs_cons ?_))
  refine wpAny_While (codeAny_whileLoop (fun k s' => ∃ i, i ≤ m ∧ k = m - i ∧ Fs s0 env P (G i) s') (fun k s' hI => ?_) m ⟨0, Nat.zero_le _, rfl, V⟩)
  obtain ⟨i, hi, rfl, Vi⟩ := hI
  refine ht i hi env A s' _ _ F ok (Vi.wd W) Vi.toVars fun s₁ k₁ => ?_
  rw [if_pos rfl]
  by_cases q : i = m
  · subst q
    refine hr env A s0 s₁ _ _ F ok W (Vi.grow k₁) fun l' e s₂ el x => ?_
    rw [hfr] at el; cases el
    refine loop_fly hfr W.fm x fun s₃ x₃ => ?_
    refine try_held hfr W.fm x₃ fun s₄ x₄ => ?_
    refine handle_zde gz F W.toWd0 hk x₄ fun E' s₅ x₅ => ?_
    exact wpAny_execs_cons (wpAny_Return_some (wpAny_Constant_none (h .none [] s₅ x₅.kp .none fun a ha => nomatch ha)))
  · exact hb i (by omega) env A s0 s₁ _ _ F ok W (Vi.grow k₁) fun s₂ V₂ => ⟨m - (i + 1), by omega, i + 1, by omega, rfl, V₂⟩
end
end Mine
end
section
open PySem PySem.W PyProof.Rows PySem.Calls
set_option linter.unusedSectionVars false
set_option linter.unusedVariables false
set_option maxRecDepth 100000
namespace Mine
variable [Bd]
section
variable {c : Cx} {n : Nat} {sc : Scope} {Γ Γ' : Ctx} {P : PySem.Str → Bool}
theorem Wf.stk' {A : Around} {env : Env} {s0 s : Shared} (W : Wf c A env s0.heap) (k : Kp s0 s) (hm : ∃ m, s.heap.Ns env.locals m) (hn : s0.heap.get? env.locals = none) {l : List Env} (hfr : A.frames = some (env :: l)) : ∀ s₁, Kp s s₁ → StkL (env :: l) s₁.heap := fun s₁ k₁ => by
  obtain ⟨m, hm⟩ := hm
  obtain ⟨l', e, st⟩ := (W.wd (k.trans' k₁).st hn (ns_stays hm k₁.st)).stk
  rw [hfr] at e; cases e
  exact st
/-- a def whose body raises -/
theorem call_new {f : Addr} {ps : List PySem.Str} {scope : Scope} {body : List PySem.Stmt} {ds : List D} (hf : DefAt c f ps scope body) (hlen : ds.length = ps.length) (ok : defOk scope ps = true)
    (h : Exs c n scope (pars ps) (binds ps ds) body .new) : CallR c (n + 1) (.ref f) ds := by
  intro A s E Q vs as o W r k
  refine enter_def (pars ps) (fun y hy => by unfold pars; simpa using hy) hf hlen ok o.room W r fun env s₁ F Wf FF _ => ?_
  obtain ⟨l, hfr, _⟩ := Wf.stk
  have hl : A.frames = some l := by
    obtain ⟨l', e, _⟩ := W.stk
    rw [e]
    have : (A.deeper env).frames = some (env :: l') := by show Option.map _ A.frames = _; rw [e]; rfl
    rw [this] at hfr; cases hfr; rfl
  refine h env _ s s₁ _ _ F (o.deeper _) Wf FF fun s₂ e s' k₂ hm x => ?_
  exact leave_new hfr Wf.fm (Wf.stk' k₂ hm FF.lnew hfr) k₂ x fun s'' x' => k l e s'' hl x'
theorem call_fly {f : Addr} {ps : List PySem.Str} {scope : Scope} {body : List PySem.Stmt} {ds : List D} (hf : DefAt c f ps scope body) (hlen : ds.length = ps.length) (ok : defOk scope ps = true)
    (h : Exs c n scope (pars ps) (binds ps ds) body .fly) : CallR c (n + 1) (.ref f) ds := by
  intro A s E Q vs as o W r k
  refine enter_def (pars ps) (fun y hy => by unfold pars; simpa using hy) hf hlen ok o.room W r fun env s₁ F Wf FF _ => ?_
  obtain ⟨l, hfr, _⟩ := Wf.stk
  have hl : A.frames = some l := by
    obtain ⟨l', e, _⟩ := W.stk
    rw [e]
    have : (A.deeper env).frames = some (env :: l') := by show Option.map _ A.frames = _; rw [e]; rfl
    rw [this] at hfr; cases hfr; rfl
  refine h env _ s s₁ _ _ F (o.deeper _) Wf FF fun l' e s' el x => ?_
  rw [hfr] at el; cases el
  exact leave_fly hfr Wf.fm (.rfl' s) x fun s'' x' => k l e s'' hl x'
/-- a lambda of the menu -/
structure LamAt (i : Nat) (ps : List PySem.Str) (scope : Scope) (b : PySem.Expr) : Prop where
  ex : ∃ params, lamTable[i]? = some (params, b, scope) ∧ ∀ fd : FuncData, fd.params = params → fd.defaults = .none → fd.kwdefaults = .none → ∀ vs : List Value, vs.length = ps.length → bindArgs fd ⟨vs, []⟩ = pure (ps.zip vs)
noncomputable def lamOk (scope : Scope) (ps : List PySem.Str) : Bool :=
  scope.kind == .function && !scope.isCoroutine && !scope.isGenerator && decide ps.Nodup && (ps.all fun y => scope.names.lookup y == some .local) && scope.names.all fun x => x.2 != .cell
noncomputable def CallVL (c : Cx) (n : Nat) (i : Nat) (args : List D) (d : D) : Prop :=
  ∀ A s E Q a vs as, OkA n A → Wd c A s.heap → Rd s.heap (.ref a) (.lam i) [] → RdAll s.heap vs args as → Res s true d Q → wpAny (model c.prog c.w) A (call (.ref a) vs) Q E s
noncomputable def CallRL (c : Cx) (n : Nat) (i : Nat) (args : List D) : Prop :=
  ∀ A s E Q a vs as, OkA n A → Wd c A s.heap → Rd s.heap (.ref a) (.lam i) [] → RdAll s.heap vs args as → (∀ l e s', A.frames = some l → Fly l s e s' → E (.ref e) s') → wpAny (model c.prog c.w) A (call (.ref a) vs) Q E s
theorem lookup_zip_rev {ps : List PySem.Str} {vs : List Value} {y : PySem.Str} {v : Value} (hnd : ps.Nodup) (hl : vs.length = ps.length) (hm : (y, v) ∈ ps.zip vs) : (ps.zip vs).reverse.lookup y = some v := by
  refine lookup_mem_nodup ?_ (List.mem_reverse.mpr hm)
  rw [List.map_reverse]
  rw [List.map_fst_zip (by omega)]
  exact List.pairwise_reverse.mpr (hnd.imp Ne.symm)
theorem enter_lam {i : Nat} {ps : List PySem.Str} {scope : Scope} {b : PySem.Expr} {ds : List D} (hL : LamAt i ps scope b) (hlen : ds.length = ps.length) (ok : lamOk scope ps = true)
    {A : Around} {s : Shared} {E : Value → Shared → Prop} {Q : Value → Shared → Prop} {a : Addr} {vs : List Value} {as : List Addr} (o : OkA (n + 1) A) (W : Wd c A s.heap) (rl : Rd s.heap (.ref a) (.lam i) []) (r : RdAll s.heap vs ds as)
    (h : ∀ env s₁ l, Fm scope env → env.frame = some env.locals → (A.deeper env).frames = some (env :: l) → A.frames = some l → Wd c (A.deeper env) s₁.heap → Kp s s₁ → (∀ s₂, Kp s₁ s₂ → StkL (env :: l) s₂.heap) → Vars env s₁.heap (binds ps ds) → wpAny (model c.prog c.w) (A.deeper env) (eval b env) Q
      (fun e s' => wpAny (model c.prog c.w) (A.deeper env) (leaving env e) (fun _ s'' => E e s'') (fun e' s'' => E e' s'') s') s₁) : wpAny (model c.prog c.w) A (call (.ref a) vs) Q E s := by
  obtain ⟨params, hT, hbind⟩ := hL.ex
  obtain ⟨ob, fd, h1, h2, ⟨b', h3, h4, h5, h6, h7, h8, h9⟩, hrec⟩ : ∃ ob fd, s.heap.get? a = some ob ∧ ob.data = .func fd ∧ Lm i fd ∧ s.heap.CodeRec fd.code fd.qualname := by
    cases rl with | lam e1 e2 e3 e4 => exact ⟨_, _, e1, e2, e3, e4⟩
  rw [hT] at h3
  obtain ⟨rfl, rfl, rfl⟩ : params = fd.params ∧ b = b' ∧ scope = fd.scope := by
    have := Option.some.inj h3
    exact ⟨congrArg (·.1) this, congrArg (·.2.1) this, congrArg (·.2.2) this⟩
  unfold lamOk at ok
  simp only [Bool.and_eq_true, beq_iff_eq, decide_eq_true_eq, List.all_eq_true, Bool.not_eq_true', bne_iff_ne] at ok
  obtain ⟨⟨⟨⟨⟨k1, k2⟩, k3⟩, k4⟩, k5⟩, k6⟩ := ok
  have hvl : vs.length = ps.length := r.length.trans hlen
  refine wpAny_call (kla_callFunE o.room h1 h2 k2 k3 h4 hrec ?_)
  rw [hbind fd rfl h8 h9 vs hvl]
  refine wpAny_pure (wpAny_newFunctionEnv (fun x hx => k6 x hx) (fun x hx => k5 x.1 (List.of_mem_zip hx).1) (fun h' hns hsb => ⟨?_, ?_⟩) k1)
  all_goals
    have keep : ∀ b o, s.heap.get? b = some o → h'.get? b = some o := fun b o e => hsb.extBut b o (Nat.ne_of_lt (Heap.lt_size e)) (Heap.get?_push_of_some _ e)
  · exact noLimit_stays W.lim (.of keep)
  · generalize henv : newEnv fd.scope s.heap.objs.size fd.globals fd.closure (fd.qualname ++ Str.ofString ".<locals>.") (some a) fd.code none fd.builtins = env
    have e1 : env.scope = fd.scope := by rw [← henv]; rfl
    have e2 : env.locals = s.heap.objs.size := by rw [← henv]; rfl
    have F : Fm fd.scope env := ⟨by rw [e1], by rw [e1]; exact k1, by rw [← henv]; exact h6, by rw [← henv]; exact h7⟩
    have hfm : env.frame = some env.locals := by rw [← henv]; rfl
    have hkd : EnvOk env := ⟨by rw [e1, k1]; exact fun q => (nomatch q), by rw [e1]; exact k3, by rw [e1]; exact k2, F.bi, F.glob⟩
    have kp : Kp s { s with heap := h', toks := s.toks + (ps.zip vs).length } := kp_of keep
    have Wf' := W.deeper hkd hfm
    have hn : s.heap.get? env.locals = none := by rw [e2]; exact new_none _
    have hns' : h'.Ns env.locals fun x => (ps.zip vs).reverse.lookup x := by rw [e2]; exact hns
    obtain ⟨l, hfr, _⟩ := Wf'.stk
    have hl : A.frames = some l := by
      obtain ⟨l', e, _⟩ := W.stk
      rw [e]
      have : (A.deeper env).frames = some (env :: l') := by show Option.map _ A.frames = _; rw [e]; rfl
      rw [this] at hfr; cases hfr; rfl
    refine kla_codeExpr ?_
    refine h env _ l F hfm hfr hl (Wf'.wd kp.st hn hns') kp (fun s₂ k₂ => Wf'.stk' kp ⟨_, hns'⟩ hn hfr s₂ k₂) fun y d e => ?_
    obtain ⟨v, bs, hm, rd⟩ := zip_look r e
    refine ⟨v, bs, .inl ⟨?_, _, hns', lookup_zip_rev k4 hvl hm⟩, rd.stays kp.st⟩
    unfold Env.kindOf; rw [e1]; exact k5 y (List.of_mem_zip hm).1
theorem call_lam {i : Nat} {ps : List PySem.Str} {scope : Scope} {b : PySem.Expr} {ds : List D} {d : D} (hL : LamAt i ps scope b) (hlen : ds.length = ps.length) (ok : lamOk scope ps = true) (h : Ev c n scope (binds ps ds) true b d) : CallVL c (n + 1) i ds d := by
  intro A s E Q a vs as o W rl r k
  refine enter_lam hL hlen ok o W rl r fun env s₁ l F _ _ _ W₁ k₁ _ V => ?_
  exact h env _ s₁ _ _ F (o.deeper _) W₁ V (k.of k₁)
theorem call_lam_new {i : Nat} {ps : List PySem.Str} {scope : Scope} {b : PySem.Expr} {ds : List D} (hL : LamAt i ps scope b) (hlen : ds.length = ps.length) (ok : lamOk scope ps = true) (h : EvN c n scope (binds ps ds) b) : CallRL c (n + 1) i ds := by
  intro A s E Q a vs as o W rl r k
  refine enter_lam hL hlen ok o W rl r fun env s₁ l F hf hfr hl W₁ k₁ st V => ?_
  exact h env _ s₁ _ _ F (o.deeper _) W₁ V fun e s' x => leave_new hfr hf st k₁ x fun s'' x' => k l e s'' hl x'
/-- a call of a lambda that a subscript gives -/
theorem call_subR {v i : PySem.Expr} {p pos : Pos} {es : List PySem.Expr} {env : Env} {A : Around} {s : Shared} {E Q : Value → Shared → Prop}
    (h : wpAny (model c.prog c.w) A (eval (.Subscript v i p) env) (fun f s₁ => wpAny (model c.prog c.w) A (callWith pos f [] (backTo pos (starEach es env)) (backToKw pos (keywordEach [] env))) Q E s₁) E s) :
    wpAny (model c.prog c.w) A (eval (.Call (.Subscript v i p) es [] pos) env) Q E s := by
  show wpAny _ A (do callWith pos (← eval (.Subscript v i p) env) [] (backTo pos (starEach es env)) (backToKw pos (keywordEach [] env))) Q E s
  exact wpAny_bind h
theorem ev_call_lam {v i : PySem.Expr} {p pos : Pos} {e : PySem.Expr} {es : List PySem.Expr} {m : Nat} {ds : List D} {d : D} {fr : Bool} (hf : Ev c n sc Γ false (.Subscript v i p) (.lam m)) (ha : Evs c n sc Γ false (e :: es) ds) (hc : CallVL c n m ds d)
    (hs : ∀ env, starEach (e :: es) env = (false, eval e env) :: starEach es env := by intro _; rfl) : Ev c n sc Γ fr (.Call (.Subscript v i p) (e :: es) [] pos) d := by
  intro env A s E Q F o W V h
  refine call_subR (hf env A s E _ F o W V fun f as s₁ k₁ r₁ _ => ?_)
  obtain ⟨a, ob, fd, rfl, h1, h2⟩ : ∃ a ob fd, f = .ref a ∧ s₁.heap.get? a = some ob ∧ ob.data = .func fd := by cases r₁ with | lam e1 e2 e3 e4 => exact ⟨_, _, _, rfl, e1, e2⟩
  obtain rfl := r₁.flat rfl
  refine callWith_function (o := ob) (fd := fd) ?_
  have := ha env A s₁ E pos (fun vs s' => (s'.heap.get? a = some ob ∧ ob.data = .func fd) ∧ wpAny (model c.prog c.w) A (call (.ref a) ([] ++ vs) []) Q E s') F o (W.stays k₁.st) (V.stays k₁.st) fun vs as s₂ k₂ r₂ _ =>
    ⟨⟨k₂.st.ex h1 (notDic_func h2), h2⟩, hc A s₂ E Q a vs as o (W.stays (k₁.trans' k₂).st) (r₁.stays k₂.st) r₂ (h.of (k₁.trans' k₂)).weak⟩
  rw [hs env] at this ⊢
  exact evalArgs_plain this
theorem evF_call_lam {v i : PySem.Expr} {p pos : Pos} {e : PySem.Expr} {es : List PySem.Expr} {m : Nat} {ds : List D} (hf : Ev c n sc Γ false (.Subscript v i p) (.lam m)) (ha : Evs c n sc Γ false (e :: es) ds) (hc : CallRL c n m ds)
    (hs : ∀ env, starEach (e :: es) env = (false, eval e env) :: starEach es env := by intro _; rfl) : EvF c n sc Γ (.Call (.Subscript v i p) (e :: es) [] pos) := by
  intro env A s E Q F o W V h
  refine call_subR (hf env A s E _ F o W V fun f as s₁ k₁ r₁ _ => ?_)
  obtain ⟨a, ob, fd, rfl, h1, h2⟩ : ∃ a ob fd, f = .ref a ∧ s₁.heap.get? a = some ob ∧ ob.data = .func fd := by cases r₁ with | lam e1 e2 e3 e4 => exact ⟨_, _, _, rfl, e1, e2⟩
  obtain rfl := r₁.flat rfl
  refine callWith_function (o := ob) (fd := fd) ?_
  have := ha env A s₁ E pos (fun vs s' => (s'.heap.get? a = some ob ∧ ob.data = .func fd) ∧ wpAny (model c.prog c.w) A (call (.ref a) ([] ++ vs) []) Q E s') F o (W.stays k₁.st) (V.stays k₁.st) fun vs as s₂ k₂ r₂ _ =>
    ⟨⟨k₂.st.ex h1 (notDic_func h2), h2⟩, hc A s₂ E Q a vs as o (W.stays (k₁.trans' k₂).st) (r₁.stays k₂.st) r₂ fun l e s' el x => h l e s' el (x.pre (k₁.trans' k₂))⟩
  rw [hs env] at this ⊢
  exact evalArgs_plain this
end
end Mine
end
section
open PySem PySem.W PyProof.Rows PySem.Calls
set_option linter.unusedSectionVars false
set_option linter.unusedVariables false
set_option maxRecDepth 100000
namespace Mine
theorem again_gives {id : String} {args : Args} {B : Builtin} {m : Made} (plain : plainId id = true) (entry : entryFor table id = some B) (g : Gives (B args) m) {prog : Program} {w : World} {A : Around} {R : Result → Shared → Prop} {s : Shared}
    (h : m.post (fun v s' => R (.ok (.ret v)) s') s) : (Code.builtin id args).quiet = true ∧ codeAny (model prog w) A (.builtin id args) R s :=
  ⟨plainId_quiet plain _, codeAny_builtin entry (by rw [Around.under_plainId plain args]; exact g prog w A R s h)⟩
theorem gi_and_bi (p : Bool) (b : Int) (u : Tok) : Gives (Builtin.«int.__and__» ⟨[.bool p, .int b u], []⟩) (.int (Builtin.bitAnd (b2i p) b)) :=
  .of_wp fun M A E s Q h => by obtain ⟨hp, g, d, tk, os⟩ := s; wp_walk; exact ⟨_, rfl, h⟩
theorem gi_and_ib (a : Int) (t : Tok) (q : Bool) : Gives (Builtin.«int.__and__» ⟨[.int a t, .bool q], []⟩) (.int (Builtin.bitAnd a (b2i q))) :=
  .of_wp fun M A E s Q h => by obtain ⟨hp, g, d, tk, os⟩ := s; wp_walk; exact ⟨_, rfl, h⟩
theorem g_and_bi (p : Bool) (b : Int) (u : Tok) : Gives (Builtin.«bool.__and__» ⟨[.bool p, .int b u], []⟩) (.int (Builtin.bitAnd (b2i p) b)) :=
  fun prog w A R s h => by obtain ⟨hp, g, d, tk, os⟩ := s; wp_walk; exact again_gives (by kernel_rfl) PySem.F.entry_int_and (gi_and_bi p b u) h
theorem g_rand_bi (a : Int) (t : Tok) (q : Bool) : Gives (Builtin.«bool.__rand__» ⟨[.bool q, .int a t], []⟩) (.int (Builtin.bitAnd a (b2i q))) :=
  fun prog w A R s h => by obtain ⟨hp, g, d, tk, os⟩ := s; wp_walk; exact again_gives (by kernel_rfl) PySem.F.entry_int_and (gi_and_ib a t q) h
theorem gi_or_bi (p : Bool) (b : Int) (u : Tok) : Gives (Builtin.«int.__or__» ⟨[.bool p, .int b u], []⟩) (.int (Builtin.bitOr (b2i p) b)) :=
  .of_wp fun M A E s Q h => by obtain ⟨hp, g, d, tk, os⟩ := s; wp_walk; exact ⟨_, rfl, h⟩
theorem gi_or_ib (a : Int) (t : Tok) (q : Bool) : Gives (Builtin.«int.__or__» ⟨[.int a t, .bool q], []⟩) (.int (Builtin.bitOr a (b2i q))) :=
  .of_wp fun M A E s Q h => by obtain ⟨hp, g, d, tk, os⟩ := s; wp_walk; exact ⟨_, rfl, h⟩
theorem g_or_bi (p : Bool) (b : Int) (u : Tok) : Gives (Builtin.«bool.__or__» ⟨[.bool p, .int b u], []⟩) (.int (Builtin.bitOr (b2i p) b)) :=
  fun prog w A R s h => by obtain ⟨hp, g, d, tk, os⟩ := s; wp_walk; exact again_gives (by kernel_rfl) PySem.F.entry_int_or (gi_or_bi p b u) h
theorem g_ror_bi (a : Int) (t : Tok) (q : Bool) : Gives (Builtin.«bool.__ror__» ⟨[.bool q, .int a t], []⟩) (.int (Builtin.bitOr a (b2i q))) :=
  fun prog w A R s h => by obtain ⟨hp, g, d, tk, os⟩ := s; wp_walk; exact again_gives (by kernel_rfl) PySem.F.entry_int_or (gi_or_ib a t q) h
theorem gi_xor_bi (p : Bool) (b : Int) (u : Tok) : Gives (Builtin.«int.__xor__» ⟨[.bool p, .int b u], []⟩) (.int (Builtin.bitXor (b2i p) b)) :=
  .of_wp fun M A E s Q h => by obtain ⟨hp, g, d, tk, os⟩ := s; wp_walk; exact ⟨_, rfl, h⟩
theorem gi_xor_ib (a : Int) (t : Tok) (q : Bool) : Gives (Builtin.«int.__xor__» ⟨[.int a t, .bool q], []⟩) (.int (Builtin.bitXor a (b2i q))) :=
  .of_wp fun M A E s Q h => by obtain ⟨hp, g, d, tk, os⟩ := s; wp_walk; exact ⟨_, rfl, h⟩
theorem g_xor_bi (p : Bool) (b : Int) (u : Tok) : Gives (Builtin.«bool.__xor__» ⟨[.bool p, .int b u], []⟩) (.int (Builtin.bitXor (b2i p) b)) :=
  fun prog w A R s h => by obtain ⟨hp, g, d, tk, os⟩ := s; wp_walk; exact again_gives (by kernel_rfl) PySem.F.entry_int_xor (gi_xor_bi p b u) h
theorem g_rxor_bi (a : Int) (t : Tok) (q : Bool) : Gives (Builtin.«bool.__rxor__» ⟨[.bool q, .int a t], []⟩) (.int (Builtin.bitXor a (b2i q))) :=
  fun prog w A R s h => by obtain ⟨hp, g, d, tk, os⟩ := s; wp_walk; exact again_gives (by kernel_rfl) PySem.F.entry_int_xor (gi_xor_ib a t q) h
theorem g_lt_bi (p : Bool) (b : Int) (u : Tok) : Gives (Builtin.«int.__lt__» ⟨[.bool p, .int b u], []⟩) (.val (.bool (decide (b2i p < b)))) :=
  .of_wp fun M A E s Q h => by obtain ⟨hp, g, d, tk, os⟩ := s; wp_walk; exact ⟨_, rfl, h⟩
theorem m_fdiv_bi0 (p : Bool) (u : Tok) : Meets (Builtin.«int.__floordiv__» ⟨[.bool p, .int 0 u], []⟩) (fun A R s => raisesNew "ZeroDivisionError" A R s) :=
  .of_wp fun prog w A R s h => by obtain ⟨hp, g, d, tk, os⟩ := s; wp_walk; exact_raiseError plainExc_ZeroDivisionError h.1 h.2
theorem g_fdiv_bi (p : Bool) (b : Int) (u : Tok) (hb : (b == 0) = false) (hp : Builtin.divisionGoesByPylong (if p = true then 1 else 0) b = false) : Gives (Builtin.«int.__floordiv__» ⟨[.bool p, .int b u], []⟩) (.int ((b2i p).fdiv b)) :=
  .of_wp fun M A E s Q h => by obtain ⟨hp, g, d, tk, os⟩ := s; wp_walk; exact ⟨_, rfl, h⟩
theorem g_le_bi (p : Bool) (b : Int) (u : Tok) : Gives (Builtin.«int.__le__» ⟨[.bool p, .int b u], []⟩) (.val (.bool (decide (b2i p ≤ b)))) :=
  .of_wp fun M A E s Q h => by obtain ⟨hp, g, d, tk, os⟩ := s; wp_walk; exact ⟨_, rfl, h⟩
theorem g_gt_bi (p : Bool) (b : Int) (u : Tok) : Gives (Builtin.«int.__gt__» ⟨[.bool p, .int b u], []⟩) (.val (.bool (decide (b2i p > b)))) :=
  .of_wp fun M A E s Q h => by obtain ⟨hp, g, d, tk, os⟩ := s; wp_walk; exact ⟨_, rfl, h⟩
theorem g_ge_bi (p : Bool) (b : Int) (u : Tok) : Gives (Builtin.«int.__ge__» ⟨[.bool p, .int b u], []⟩) (.val (.bool (decide (b2i p ≥ b)))) :=
  .of_wp fun M A E s Q h => by obtain ⟨hp, g, d, tk, os⟩ := s; wp_walk; exact ⟨_, rfl, h⟩
theorem m_mod_bi0 (p : Bool) (u : Tok) : Meets (Builtin.«int.__mod__» ⟨[.bool p, .int 0 u], []⟩) (fun A R s => raisesNew "ZeroDivisionError" A R s) :=
  .of_wp fun prog w A R s h => by obtain ⟨hp, g, d, tk, os⟩ := s; wp_walk; exact_raiseError plainExc_ZeroDivisionError h.1 h.2
theorem g_mod_bi (p : Bool) (b : Int) (u : Tok) (hb : (b == 0) = false) : Gives (Builtin.«int.__mod__» ⟨[.bool p, .int b u], []⟩) (.int ((b2i p).fmod b)) :=
  .of_wp fun M A E s Q h => by obtain ⟨hp, g, d, tk, os⟩ := s; wp_walk; exact ⟨_, rfl, h⟩
theorem m_mod_bb0 (p : Bool) : Meets (Builtin.«int.__mod__» ⟨[.bool p, .bool false], []⟩) (fun A R s => raisesNew "ZeroDivisionError" A R s) :=
  .of_wp fun prog w A R s h => by obtain ⟨hp, g, d, tk, os⟩ := s; wp_walk; exact_raiseError plainExc_ZeroDivisionError h.1 h.2
theorem m_fdiv_bb0 (p : Bool) : Meets (Builtin.«int.__floordiv__» ⟨[.bool p, .bool false], []⟩) (fun A R s => raisesNew "ZeroDivisionError" A R s) :=
  .of_wp fun prog w A R s h => by obtain ⟨hp, g, d, tk, os⟩ := s; wp_walk; exact_raiseError plainExc_ZeroDivisionError h.1 h.2
theorem g_mod_bb (p : Bool) : Gives (Builtin.«int.__mod__» ⟨[.bool p, .bool true], []⟩) (.int ((b2i p).fmod 1)) :=
  .of_wp fun M A E s Q h => by obtain ⟨hp, g, d, tk, os⟩ := s; wp_walk; exact ⟨_, rfl, h⟩
theorem g_fdiv_bb (p : Bool) (hp : Builtin.divisionGoesByPylong (if p = true then 1 else 0) 1 = false) : Gives (Builtin.«int.__floordiv__» ⟨[.bool p, .bool true], []⟩) (.int ((b2i p).fdiv 1)) :=
  .of_wp fun M A E s Q h => by obtain ⟨hp, g, d, tk, os⟩ := s; wp_walk; exact ⟨_, rfl, h⟩
theorem m_mod_ib0 (a : Int) (t : Tok) : Meets (Builtin.«int.__mod__» ⟨[.int a t, .bool false], []⟩) (fun A R s => raisesNew "ZeroDivisionError" A R s) :=
  .of_wp fun prog w A R s h => by obtain ⟨hp, g, d, tk, os⟩ := s; wp_walk; exact_raiseError plainExc_ZeroDivisionError h.1 h.2
theorem m_fdiv_ib0 (a : Int) (t : Tok) : Meets (Builtin.«int.__floordiv__» ⟨[.int a t, .bool false], []⟩) (fun A R s => raisesNew "ZeroDivisionError" A R s) :=
  .of_wp fun prog w A R s h => by obtain ⟨hp, g, d, tk, os⟩ := s; wp_walk; exact_raiseError plainExc_ZeroDivisionError h.1 h.2
theorem g_mod_ib (a : Int) (t : Tok) : Gives (Builtin.«int.__mod__» ⟨[.int a t, .bool true], []⟩) (.int (a.fmod 1)) :=
  .of_wp fun M A E s Q h => by obtain ⟨hp, g, d, tk, os⟩ := s; wp_walk; exact ⟨_, rfl, h⟩
theorem g_fdiv_ib (a : Int) (t : Tok) (hp : Builtin.divisionGoesByPylong a 1 = false) : Gives (Builtin.«int.__floordiv__» ⟨[.int a t, .bool true], []⟩) (.int (a.fdiv 1)) :=
  .of_wp fun M A E s Q h => by obtain ⟨hp, g, d, tk, os⟩ := s; wp_walk; exact ⟨_, rfl, h⟩
theorem g_lt_ib (a : Int) (t : Tok) (q : Bool) : Gives (Builtin.«int.__lt__» ⟨[.int a t, .bool q], []⟩) (.val (.bool (decide (a < b2i q)))) :=
  .of_wp fun M A E s Q h => by obtain ⟨hp, g, d, tk, os⟩ := s; wp_walk; exact ⟨_, rfl, h⟩
theorem g_le_ib (a : Int) (t : Tok) (q : Bool) : Gives (Builtin.«int.__le__» ⟨[.int a t, .bool q], []⟩) (.val (.bool (decide (a ≤ b2i q)))) :=
  .of_wp fun M A E s Q h => by obtain ⟨hp, g, d, tk, os⟩ := s; wp_walk; exact ⟨_, rfl, h⟩
theorem g_gt_ib (a : Int) (t : Tok) (q : Bool) : Gives (Builtin.«int.__gt__» ⟨[.int a t, .bool q], []⟩) (.val (.bool (decide (a > b2i q)))) :=
  .of_wp fun M A E s Q h => by obtain ⟨hp, g, d, tk, os⟩ := s; wp_walk; exact ⟨_, rfl, h⟩
theorem g_ge_ib (a : Int) (t : Tok) (q : Bool) : Gives (Builtin.«int.__ge__» ⟨[.int a t, .bool q], []⟩) (.val (.bool (decide (a ≥ b2i q)))) :=
  .of_wp fun M A E s Q h => by obtain ⟨hp, g, d, tk, os⟩ := s; wp_walk; exact ⟨_, rfl, h⟩
end Mine
end
section
open PySem PySem.W PyProof.Rows PySem.Calls
set_option linter.unusedSectionVars false
set_option linter.unusedVariables false
set_option maxRecDepth 100000
namespace Mine
section
variable {M : Model} {A : Around} {E : Value → Shared → Prop} {s : Shared}
/-- the right side's own reflected method goes first -/
theorem binaryOp_refl {a b : Value} {T U idr : String} {op : Operator} {Q : Value → Shared → Prop} (hTU : T ≠ U) (ha : s.TypeIs a T) (hb : s.TypeIs b U)
    (hfT : fillsNumberSlot (.type T) op.info.2 = pure true) (hfU : fillsNumberSlot (.type U) op.info.2 = pure true) (hsub : isSubtype (.type U) (.type T) = pure true)
    (hdiff : reflectedDiffers (.type T) (.type U) op.info.2 = pure true) (hr : Slot U (dunderR op.info.2) idr)
    (hc : wpAny M A (call (.builtin idr) [b, a]) (fun v s₁ => v ≠ .notImplemented ∧ Q v s₁) E s) : wpAny M A (binaryOp op a b) Q E s := by
  rcases hi : op.info with ⟨sym, nm⟩
  rw [hi] at hfT hfU hdiff hr
  simp only [binaryOp, hi]
  refine wpAny_holding ?_
  simp only [binaryOp1]
  refine wpAny_bind ?_
  refine wpAny_bind (wpAny_typeOf ha (wpAny_bind (wpAny_typeOf hb (wpAny_bind (wpAny_of_eq hfT ?_)))))
  have hne : (Value.type T == Value.type U) = false := by simpa using hTU
  simp only [hne, Bool.false_eq_true, if_false]
  refine wpAny_bind (wpAny_of_eq hfU ?_)
  simp only [Bool.and_self, if_true]
  refine wpAny_bind (wpAny_of_eq hsub ?_)
  simp only [if_true]
  refine wpAny_bind (wpAny_of_eq hdiff ?_)
  simp only [if_true]
  refine wpAny_bind (wpAny_rule ?_)
  simp only [tryMethod]
  refine wpAny_bind (wpAny_bind (wpAny_callSpecial?_slot hb hr (wpAny_mono hc (fun v s₁ h₁ => ?_) fun _ _ x => x)))
  obtain ⟨hv, hq⟩ := h₁
  cases v <;> first | exact absurd rfl hv | exact wpAny_pure (wpAny_pure (wpAny_pure hq))
theorem richCompare_refl {a b : Value} {Ta Tb idb : String} {op : CmpOp} {Q : Value → Shared → Prop} (ha : s.TypeIs a Ta) (hb : s.TypeIs b Tb)
    (hne : (Value.type Ta != Value.type Tb) = true) (hsub : isSubtype (.type Tb) (.type Ta) = pure true) (h2 : Slot Tb (cmpInfo op).2.2 idb)
    (hc : wpAny M A (call (.builtin idb) [b, a]) (fun v s' => v ≠ .notImplemented ∧ Q v s') E s)
    (hv : [a, b].any Value.onHeap = false := by rfl) : wpAny M A (richCompare op a b) Q E s := by
  rcases hi : cmpInfo op with ⟨sym, f, r⟩
  rw [hi] at h2
  simp only [richCompare, hi, ha.oneThing_none]
  try with_reducible refine wpAny_holding ?_
  simp only [cRoomFor, hv, Bool.false_eq_true, if_false, pure_bind]
  refine wpAny_bind (wpAny_typeOf ha (wpAny_bind (wpAny_typeOf hb ?_)))
  simp only [hne, if_true]
  refine wpAny_bind (wpAny_of_eq hsub ?_)
  simp only [if_true]
  exact wpAny_bind (wpAny_tryCompare_slot hb h2 (wpAny_mono hc (fun v s' h' => ⟨h'.1, wpAny_bind (wpAny_rule (wpAny_pure h'.2))⟩) fun _ _ h' => h'))
end
theorem differs_and : reflectedDiffers (.type "int") (.type "bool") "and" = pure true := by
  unfold reflectedDiffers
  show (typeLookup (.type "bool") (dunderR "and") >>= fun rb => typeLookup (.type "int") (dunderR "and") >>= fun ra => pure (rb.isSome && rb != ra)) = pure true
  rw [typeLookup_type, typeLookup_type, builtinLookup_eq_fast]; kernel_rfl
theorem differs_or : reflectedDiffers (.type "int") (.type "bool") "or" = pure true := by
  unfold reflectedDiffers
  show (typeLookup (.type "bool") (dunderR "or") >>= fun rb => typeLookup (.type "int") (dunderR "or") >>= fun ra => pure (rb.isSome && rb != ra)) = pure true
  rw [typeLookup_type, typeLookup_type, builtinLookup_eq_fast]; kernel_rfl
theorem differs_xor : reflectedDiffers (.type "int") (.type "bool") "xor" = pure true := by
  unfold reflectedDiffers
  show (typeLookup (.type "bool") (dunderR "xor") >>= fun rb => typeLookup (.type "int") (dunderR "xor") >>= fun ra => pure (rb.isSome && rb != ra)) = pure true
  rw [typeLookup_type, typeLookup_type, builtinLookup_eq_fast]; kernel_rfl
theorem same_fdiv : reflectedDiffers (.type "int") (.type "bool") "floordiv" = pure false := by
  unfold reflectedDiffers
  show (typeLookup (.type "bool") (dunderR "floordiv") >>= fun rb => typeLookup (.type "int") (dunderR "floordiv") >>= fun ra => pure (rb.isSome && rb != ra)) = pure false
  rw [typeLookup_type, typeLookup_type, builtinLookup_eq_fast]; kernel_rfl
theorem same_mod : reflectedDiffers (.type "int") (.type "bool") "mod" = pure false := by
  unfold reflectedDiffers
  show (typeLookup (.type "bool") (dunderR "mod") >>= fun rb => typeLookup (.type "int") (dunderR "mod") >>= fun ra => pure (rb.isSome && rb != ra)) = pure false
  rw [typeLookup_type, typeLookup_type, builtinLookup_eq_fast]; kernel_rfl
section
variable {prog : Program} {w : World} {A : Around} {E : Value → Shared → Prop} {s : Shared} {Q : Value → Shared → Prop}
theorem and_bi {p : Bool} {b : Int} {u : Tok} (h : Q (.int (Builtin.bitAnd (b2i p) b) s.toks) { s with toks := s.toks + 1 }) : wpAny (model prog w) A (binaryOp .BitAnd (.bool p) (.int b u)) Q E s :=
  binaryOp_left_gives (op := .BitAnd) (T := "bool") (U := "int") (by decide) rfl (fun s' => typeIs_int s' b u) PySem.F.fills_bool_and PySem.F.fills_int_and PySem.F.sub_int_bool PySem.F.slot_bool_and PySem.F.slot_int_rand PySem.F.entry_bool_and (PySem.F.args_bool_and_2 _ _) (g_and_bi p b u) trivial h
theorem or_bi {p : Bool} {b : Int} {u : Tok} (h : Q (.int (Builtin.bitOr (b2i p) b) s.toks) { s with toks := s.toks + 1 }) : wpAny (model prog w) A (binaryOp .BitOr (.bool p) (.int b u)) Q E s :=
  binaryOp_left_gives (op := .BitOr) (T := "bool") (U := "int") (by decide) rfl (fun s' => typeIs_int s' b u) PySem.F.fills_bool_or PySem.F.fills_int_or PySem.F.sub_int_bool PySem.F.slot_bool_or PySem.F.slot_int_ror PySem.F.entry_bool_or (PySem.F.args_bool_or_2 _ _) (g_or_bi p b u) trivial h
theorem xor_bi {p : Bool} {b : Int} {u : Tok} (h : Q (.int (Builtin.bitXor (b2i p) b) s.toks) { s with toks := s.toks + 1 }) : wpAny (model prog w) A (binaryOp .BitXor (.bool p) (.int b u)) Q E s :=
  binaryOp_left_gives (op := .BitXor) (T := "bool") (U := "int") (by decide) rfl (fun s' => typeIs_int s' b u) PySem.F.fills_bool_xor PySem.F.fills_int_xor PySem.F.sub_int_bool PySem.F.slot_bool_xor PySem.F.slot_int_rxor PySem.F.entry_bool_xor (PySem.F.args_bool_xor_2 _ _) (g_xor_bi p b u) trivial h
theorem and_ib {a : Int} {t : Tok} {q : Bool} (h : Q (.int (Builtin.bitAnd a (b2i q)) s.toks) { s with toks := s.toks + 1 }) : wpAny (model prog w) A (binaryOp .BitAnd (.int a t) (.bool q)) Q E s :=
  binaryOp_refl (op := .BitAnd) (T := "int") (U := "bool") (by decide) (typeIs_int s a t) rfl PySem.F.fills_int_and PySem.F.fills_bool_and isSubtype_bool_int differs_and PySem.F.slot_bool_rand
    (call_gives PySem.F.slot_bool_rand rfl PySem.F.entry_bool_rand (PySem.F.args_bool_rand_2 _ _) (g_rand_bi a t q) (Made.post_and trivial h))
theorem or_ib {a : Int} {t : Tok} {q : Bool} (h : Q (.int (Builtin.bitOr a (b2i q)) s.toks) { s with toks := s.toks + 1 }) : wpAny (model prog w) A (binaryOp .BitOr (.int a t) (.bool q)) Q E s :=
  binaryOp_refl (op := .BitOr) (T := "int") (U := "bool") (by decide) (typeIs_int s a t) rfl PySem.F.fills_int_or PySem.F.fills_bool_or isSubtype_bool_int differs_or PySem.F.slot_bool_ror
    (call_gives PySem.F.slot_bool_ror rfl PySem.F.entry_bool_ror (PySem.F.args_bool_ror_2 _ _) (g_ror_bi a t q) (Made.post_and trivial h))
theorem xor_ib {a : Int} {t : Tok} {q : Bool} (h : Q (.int (Builtin.bitXor a (b2i q)) s.toks) { s with toks := s.toks + 1 }) : wpAny (model prog w) A (binaryOp .BitXor (.int a t) (.bool q)) Q E s :=
  binaryOp_refl (op := .BitXor) (T := "int") (U := "bool") (by decide) (typeIs_int s a t) rfl PySem.F.fills_int_xor PySem.F.fills_bool_xor isSubtype_bool_int differs_xor PySem.F.slot_bool_rxor
    (call_gives PySem.F.slot_bool_rxor rfl PySem.F.entry_bool_rxor (PySem.F.args_bool_rxor_2 _ _) (g_rxor_bi a t q) (Made.post_and trivial h))
theorem cmp_bi {op : CmpOp} {p : Bool} {b : Int} {u : Tok} {id : String} {B : Builtin} {r : Bool} (hop : compareOp op (.bool p) (.int b u) = richCompare op (.bool p) (.int b u)) (slot : Slot "bool" (cmpInfo op).2.1 id) (entry : entryFor table id = some B) (args : argsOk id ⟨[.bool p, .int b u], []⟩) (g : Gives (B ⟨[.bool p, .int b u], []⟩) (.val (.bool r))) (h : Q (.bool r) s) :
    wpAny (model prog w) A (compareOp op (.bool p) (.int b u)) Q E s := by
  rw [hop]
  exact wpAny_richCompare_left (Ta := "bool") (Tb := "int") rfl (typeIs_int s b u) (by decide) PySem.F.sub_int_bool slot (call_gives slot rfl entry args g ⟨(fun q => nomatch q), h⟩)
theorem cmp_ib {op : CmpOp} {a : Int} {t : Tok} {q : Bool} {id : String} {B : Builtin} {r : Bool} (hop : compareOp op (.int a t) (.bool q) = richCompare op (.int a t) (.bool q)) (slot : Slot "bool" (cmpInfo op).2.2 id) (entry : entryFor table id = some B) (args : argsOk id ⟨[.bool q, .int a t], []⟩) (g : Gives (B ⟨[.bool q, .int a t], []⟩) (.val (.bool r))) (h : Q (.bool r) s) :
    wpAny (model prog w) A (compareOp op (.int a t) (.bool q)) Q E s := by
  rw [hop]
  exact richCompare_refl (Ta := "int") (Tb := "bool") (typeIs_int s a t) rfl (by decide) isSubtype_bool_int slot (call_gives slot rfl entry args g ⟨(fun q => nomatch q), h⟩)
theorem lt_bi {p : Bool} {b : Int} {u : Tok} (h : Q (.bool (decide (b2i p < b))) s) : wpAny (model prog w) A (compareOp .Lt (.bool p) (.int b u)) Q E s := cmp_bi rfl PySem.F.slot_bool_lt PySem.F.entry_int_lt (PySem.F.args_int_lt_2 _ _) (g_lt_bi p b u) h
theorem le_bi {p : Bool} {b : Int} {u : Tok} (h : Q (.bool (decide (b2i p ≤ b))) s) : wpAny (model prog w) A (compareOp .LtE (.bool p) (.int b u)) Q E s := cmp_bi rfl PySem.F.slot_bool_le PySem.F.entry_int_le (PySem.F.args_int_le_2 _ _) (g_le_bi p b u) h
theorem gt_bi {p : Bool} {b : Int} {u : Tok} (h : Q (.bool (decide (b2i p > b))) s) : wpAny (model prog w) A (compareOp .Gt (.bool p) (.int b u)) Q E s := cmp_bi rfl PySem.F.slot_bool_gt PySem.F.entry_int_gt (PySem.F.args_int_gt_2 _ _) (g_gt_bi p b u) h
theorem ge_bi {p : Bool} {b : Int} {u : Tok} (h : Q (.bool (decide (b2i p ≥ b))) s) : wpAny (model prog w) A (compareOp .GtE (.bool p) (.int b u)) Q E s := cmp_bi rfl PySem.F.slot_bool_ge PySem.F.entry_int_ge (PySem.F.args_int_ge_2 _ _) (g_ge_bi p b u) h
theorem lt_ib {a : Int} {t : Tok} {q : Bool} (h : Q (.bool (decide (b2i q > a))) s) : wpAny (model prog w) A (compareOp .Lt (.int a t) (.bool q)) Q E s := cmp_ib rfl PySem.F.slot_bool_gt PySem.F.entry_int_gt (PySem.F.args_int_gt_2 _ _) (g_gt_bi q a t) h
theorem le_ib {a : Int} {t : Tok} {q : Bool} (h : Q (.bool (decide (b2i q ≥ a))) s) : wpAny (model prog w) A (compareOp .LtE (.int a t) (.bool q)) Q E s := cmp_ib rfl PySem.F.slot_bool_ge PySem.F.entry_int_ge (PySem.F.args_int_ge_2 _ _) (g_ge_bi q a t) h
theorem gt_ib {a : Int} {t : Tok} {q : Bool} (h : Q (.bool (decide (b2i q < a))) s) : wpAny (model prog w) A (compareOp .Gt (.int a t) (.bool q)) Q E s := cmp_ib rfl PySem.F.slot_bool_lt PySem.F.entry_int_lt (PySem.F.args_int_lt_2 _ _) (g_lt_bi q a t) h
theorem ge_ib {a : Int} {t : Tok} {q : Bool} (h : Q (.bool (decide (b2i q ≤ a))) s) : wpAny (model prog w) A (compareOp .GtE (.int a t) (.bool q)) Q E s := cmp_ib rfl PySem.F.slot_bool_le PySem.F.entry_int_le (PySem.F.args_int_le_2 _ _) (g_le_bi q a t) h
-- divisions
theorem div_bi {op : Operator} {id idr : String} {p : Bool} {b : Int} {u : Tok} (fillsT : fillsNumberSlot (.type "bool") op.info.2 = pure true) (fillsU : fillsNumberSlot (.type "int") op.info.2 = pure true)
    (slot : Slot "bool" (dunder op.info.2) id) (slotR : Slot "int" (dunderR op.info.2) idr) (h : wpAny (model prog w) A (call (.builtin id) [.bool p, .int b u]) (fun v s' => v ≠ .notImplemented ∧ Q v s') E s) :
    wpAny (model prog w) A (binaryOp op (.bool p) (.int b u)) Q E s :=
  wpAny_binaryOp_two (T := "bool") (U := "int") (by decide) rfl (fun s' => typeIs_int s' b u) fillsT fillsU PySem.F.sub_int_bool slot slotR (wpAny_mono h (fun _ _ x => .inl x) fun _ _ x => x)
theorem fdiv_bi {p : Bool} {b : Int} {u : Tok} (hb : b ≠ 0) (h : Q (.int ((b2i p).fdiv b) s.toks) { s with toks := s.toks + 1 }) (hp : Builtin.divisionGoesByPylong (if p = true then 1 else 0) b = false) : wpAny (model prog w) A (binaryOp .FloorDiv (.bool p) (.int b u)) Q E s :=
  div_bi (op := .FloorDiv) PySem.F.fills_bool_floordiv PySem.F.fills_int_floordiv PySem.F.slot_bool_floordiv PySem.F.slot_int_rfloordiv (call_gives PySem.F.slot_bool_floordiv rfl PySem.F.entry_int_floordiv (PySem.F.args_int_floordiv_2 _ _) (g_fdiv_bi p b u (by simpa using hb) hp) (Made.post_and trivial h))
theorem mod_bi {p : Bool} {b : Int} {u : Tok} (hb : b ≠ 0) (h : Q (.int ((b2i p).fmod b) s.toks) { s with toks := s.toks + 1 }) : wpAny (model prog w) A (binaryOp .Mod (.bool p) (.int b u)) Q E s :=
  div_bi (op := .Mod) PySem.F.fills_bool_mod PySem.F.fills_int_mod PySem.F.slot_bool_mod PySem.F.slot_int_rmod (call_gives PySem.F.slot_bool_mod rfl PySem.F.entry_int_mod (PySem.F.args_int_mod_2 _ _) (g_mod_bi p b u (by simpa using hb)) (Made.post_and trivial h))
theorem fdiv_bi0 {p : Bool} {u : Tok} (hh : A.handled = none) (h : ∀ h' tk e, s.heap.NewExc h' e ZDE → E (.ref e) { s with heap := h', toks := tk }) : wpAny (model prog w) A (binaryOp .FloorDiv (.bool p) (.int 0 u)) Q E s :=
  div_bi (op := .FloorDiv) PySem.F.fills_bool_floordiv PySem.F.fills_int_floordiv PySem.F.slot_bool_floordiv PySem.F.slot_int_rfloordiv (call_meets PySem.F.slot_bool_floordiv rfl PySem.F.entry_int_floordiv (PySem.F.args_int_floordiv_2 _ _) (m_fdiv_bi0 p u) ⟨hh, h⟩)
theorem mod_bi0 {p : Bool} {u : Tok} (hh : A.handled = none) (h : ∀ h' tk e, s.heap.NewExc h' e ZDE → E (.ref e) { s with heap := h', toks := tk }) : wpAny (model prog w) A (binaryOp .Mod (.bool p) (.int 0 u)) Q E s :=
  div_bi (op := .Mod) PySem.F.fills_bool_mod PySem.F.fills_int_mod PySem.F.slot_bool_mod PySem.F.slot_int_rmod (call_meets PySem.F.slot_bool_mod rfl PySem.F.entry_int_mod (PySem.F.args_int_mod_2 _ _) (m_mod_bi0 p u) ⟨hh, h⟩)
theorem fdiv_ib1 {a : Int} {t : Tok} (h : Q (.int (a.fdiv 1) s.toks) { s with toks := s.toks + 1 }) (hp : Builtin.divisionGoesByPylong a 1 = false) : wpAny (model prog w) A (binaryOp .FloorDiv (.int a t) (.bool true)) Q E s :=
  binaryOp_sub_gives (op := .FloorDiv) (T := "int") (U := "bool") (by decide) (typeIs_int s a t) rfl PySem.F.fills_int_floordiv PySem.F.fills_bool_floordiv isSubtype_bool_int same_fdiv PySem.F.slot_int_floordiv PySem.F.entry_int_floordiv (PySem.F.args_int_floordiv_2 _ _) (g_fdiv_ib a t hp) trivial h
theorem mod_ib1 {a : Int} {t : Tok} (h : Q (.int (a.fmod 1) s.toks) { s with toks := s.toks + 1 }) : wpAny (model prog w) A (binaryOp .Mod (.int a t) (.bool true)) Q E s :=
  binaryOp_sub_gives (op := .Mod) (T := "int") (U := "bool") (by decide) (typeIs_int s a t) rfl PySem.F.fills_int_mod PySem.F.fills_bool_mod isSubtype_bool_int same_mod PySem.F.slot_int_mod PySem.F.entry_int_mod (PySem.F.args_int_mod_2 _ _) (g_mod_ib a t) trivial h
theorem fdiv_ib0 {a : Int} {t : Tok} (hh : A.handled = none) (h : ∀ h' tk e, s.heap.NewExc h' e ZDE → E (.ref e) { s with heap := h', toks := tk }) : wpAny (model prog w) A (binaryOp .FloorDiv (.int a t) (.bool false)) Q E s :=
  wpAny_binaryOp_sub (op := .FloorDiv) (T := "int") (U := "bool") (by decide) (typeIs_int s a t) rfl PySem.F.fills_int_floordiv PySem.F.fills_bool_floordiv isSubtype_bool_int same_fdiv PySem.F.slot_int_floordiv (call_meets PySem.F.slot_int_floordiv (typeIs_int s a t) PySem.F.entry_int_floordiv (PySem.F.args_int_floordiv_2 _ _) (m_fdiv_ib0 a t) ⟨hh, h⟩)
theorem mod_ib0 {a : Int} {t : Tok} (hh : A.handled = none) (h : ∀ h' tk e, s.heap.NewExc h' e ZDE → E (.ref e) { s with heap := h', toks := tk }) : wpAny (model prog w) A (binaryOp .Mod (.int a t) (.bool false)) Q E s :=
  wpAny_binaryOp_sub (op := .Mod) (T := "int") (U := "bool") (by decide) (typeIs_int s a t) rfl PySem.F.fills_int_mod PySem.F.fills_bool_mod isSubtype_bool_int same_mod PySem.F.slot_int_mod (call_meets PySem.F.slot_int_mod (typeIs_int s a t) PySem.F.entry_int_mod (PySem.F.args_int_mod_2 _ _) (m_mod_ib0 a t) ⟨hh, h⟩)
theorem typeIs_bool'' (s : Shared) (p : Bool) : s.TypeIs (.bool p) "bool" := rfl
theorem fdiv_bb1 {p : Bool} (h : Q (.int ((b2i p).fdiv 1) s.toks) { s with toks := s.toks + 1 }) (hp : Builtin.divisionGoesByPylong (if p = true then 1 else 0) 1 = false) : wpAny (model prog w) A (binaryOp .FloorDiv (.bool p) (.bool true)) Q E s :=
  binaryOp_gives (op := .FloorDiv) (typeIs_bool'' s p) (typeIs_bool'' s true) PySem.F.fills_bool_floordiv PySem.F.slot_bool_floordiv PySem.F.entry_int_floordiv (PySem.F.args_int_floordiv_2 _ _) (g_fdiv_bb p hp) trivial h
theorem mod_bb1 {p : Bool} (h : Q (.int ((b2i p).fmod 1) s.toks) { s with toks := s.toks + 1 }) : wpAny (model prog w) A (binaryOp .Mod (.bool p) (.bool true)) Q E s :=
  binaryOp_gives (op := .Mod) (typeIs_bool'' s p) (typeIs_bool'' s true) PySem.F.fills_bool_mod PySem.F.slot_bool_mod PySem.F.entry_int_mod (PySem.F.args_int_mod_2 _ _) (g_mod_bb p) trivial h
theorem fdiv_bb0 {p : Bool} (hh : A.handled = none) (h : ∀ h' tk e, s.heap.NewExc h' e ZDE → E (.ref e) { s with heap := h', toks := tk }) : wpAny (model prog w) A (binaryOp .FloorDiv (.bool p) (.bool false)) Q E s :=
  wpAny_binaryOp_same (op := .FloorDiv) (T := "bool") rfl rfl PySem.F.fills_bool_floordiv PySem.F.slot_bool_floordiv (call_meets PySem.F.slot_bool_floordiv rfl PySem.F.entry_int_floordiv (PySem.F.args_int_floordiv_2 _ _) (m_fdiv_bb0 p) ⟨hh, h⟩)
theorem mod_bb0 {p : Bool} (hh : A.handled = none) (h : ∀ h' tk e, s.heap.NewExc h' e ZDE → E (.ref e) { s with heap := h', toks := tk }) : wpAny (model prog w) A (binaryOp .Mod (.bool p) (.bool false)) Q E s :=
  wpAny_binaryOp_same (op := .Mod) (T := "bool") rfl rfl PySem.F.fills_bool_mod PySem.F.slot_bool_mod (call_meets PySem.F.slot_bool_mod rfl PySem.F.entry_int_mod (PySem.F.args_int_mod_2 _ _) (m_mod_bb0 p) ⟨hh, h⟩)
end
end Mine
end
section
open PySem PySem.W PyProof.Rows PySem.Calls
set_option linter.unusedSectionVars false
set_option linter.unusedVariables false
set_option maxRecDepth 100000
namespace Mine
variable [Bd]
/-- a worth: a bool or an int -/
inductive Wv where
  | b (x : Bool)
  | i (x : Int)
noncomputable def Wv.d : Wv → D
  | .b x => .bool x
  | .i x => .int x
noncomputable def Wv.z : Wv → Int
  | .b x => b2i x
  | .i x => x
noncomputable def wbit (f : Bool → Bool → Bool) (g : Int → Int → Int) : Wv → Wv → Wv
  | .b x, .b y => .b (f x y)
  | x, y => .i (g x.z y.z)
section
variable {c : Cx} {n : Nat}
theorem Rd.w {h : Heap} {v : Value} {x : Wv} {as : List Addr} (r : Rd h v x.d as) : (∃ b, x = .b b ∧ v = .bool b) ∨ (∃ i t, x = .i i ∧ v = .int i t) := by
  cases x with
  | b b => cases r; exact .inl ⟨b, rfl, rfl⟩
  | i i => cases r; exact .inr ⟨i, _, rfl, rfl⟩
theorem Res.int {s : Shared} {Q : Value → Shared → Prop} {i : Int} (h : Res s true (.int i) Q) : Q (.int i s.toks) { s with toks := s.toks + 1 } := h _ [] _ (tok_kp s _) (.int _ _) fun _ _ h => nomatch h
theorem Res.bool {s : Shared} {Q : Value → Shared → Prop} {b : Bool} (h : Res s true (.bool b) Q) : Q (.bool b) s := h _ [] _ (.rfl' s) (.bool _) fun _ _ h => nomatch h
theorem w_add {x y : Wv} : Bin c n .Add x.d y.d (.int (x.z + y.z)) := by
  intro A s E Q va vb as bs o W ra rb h
  rcases ra.w with ⟨p, rfl, rfl⟩ | ⟨a, t, rfl, rfl⟩ <;> rcases rb.w with ⟨q, rfl, rfl⟩ | ⟨b, u, rfl, rfl⟩
  · exact add_bool h.int
  · exact PySem.IntBool.add_bool_int h.int
  · exact PySem.add_int_bool h.int
  · exact add_int h.int
theorem w_sub {x y : Wv} : Bin c n .Sub x.d y.d (.int (x.z - y.z)) := by
  intro A s E Q va vb as bs o W ra rb h
  rcases ra.w with ⟨p, rfl, rfl⟩ | ⟨a, t, rfl, rfl⟩ <;> rcases rb.w with ⟨q, rfl, rfl⟩ | ⟨b, u, rfl, rfl⟩
  · exact sub_bool h.int
  · exact PySem.IntBool.sub_bool_int h.int
  · exact PySem.IntBool.sub_int_bool h.int
  · exact sub_int h.int
theorem w_mul {x y : Wv} (hm : IntMulOk x.z y.z) : Bin c n .Mult x.d y.d (.int (x.z * y.z)) := by
  intro A s E Q va vb as bs o W ra rb h
  rcases ra.w with ⟨p, rfl, rfl⟩ | ⟨a, t, rfl, rfl⟩ <;> rcases rb.w with ⟨q, rfl, rfl⟩ | ⟨b, u, rfl, rfl⟩
  · exact mul_bool h.int
  · exact PySem.IntBool.mul_bool_int h.int
  · exact PySem.IntBool.mul_int_bool h.int
  · exact mul_int h.int hm
theorem w_and {x y : Wv} : Bin c n .BitAnd x.d y.d (wbit (· && ·) Builtin.bitAnd x y).d := by
  intro A s E Q va vb as bs o W ra rb h
  rcases ra.w with ⟨p, rfl, rfl⟩ | ⟨a, t, rfl, rfl⟩ <;> rcases rb.w with ⟨q, rfl, rfl⟩ | ⟨b, u, rfl, rfl⟩
  · exact and_bool h.bool
  · exact and_bi h.int
  · exact and_ib h.int
  · exact and_int h.int
theorem w_or {x y : Wv} : Bin c n .BitOr x.d y.d (wbit (· || ·) Builtin.bitOr x y).d := by
  intro A s E Q va vb as bs o W ra rb h
  rcases ra.w with ⟨p, rfl, rfl⟩ | ⟨a, t, rfl, rfl⟩ <;> rcases rb.w with ⟨q, rfl, rfl⟩ | ⟨b, u, rfl, rfl⟩
  · exact or_bool h.bool
  · exact or_bi h.int
  · exact or_ib h.int
  · exact or_int h.int
theorem w_xor {x y : Wv} : Bin c n .BitXor x.d y.d (wbit (· != ·) Builtin.bitXor x y).d := by
  intro A s E Q va vb as bs o W ra rb h
  rcases ra.w with ⟨p, rfl, rfl⟩ | ⟨a, t, rfl, rfl⟩ <;> rcases rb.w with ⟨q, rfl, rfl⟩ | ⟨b, u, rfl, rfl⟩
  · exact xor_bool h.bool
  · exact xor_bi h.int
  · exact xor_ib h.int
  · exact xor_int h.int
theorem pylongRoom {A : Around} {s : Shared} (o : OkA n A) (W : Wd c A s.heap) : PySem.PylongRoom (model c.prog c.w) A s := by
  obtain ⟨l, e, st⟩ := W.stk
  cases l with
  | nil => exact absurd e o.ne
  | cons env l =>
    obtain ⟨⟨_, h1, h2, h3, h4⟩, _⟩ := st env (.head _)
    refine PylongRoom.of W.lim ?_ (PySem.SeerAt.of W.seer W.tree e h1 h2 h3 h4)
    have := o.d
    show A.depth + Builtin.pylongFrames < 1000
    have : Builtin.pylongFrames ≤ 350 := by decide
    omega
theorem noPy_small (p : Bool) (b : Int) : Builtin.divisionGoesByPylong (if p = true then 1 else 0) b = false := by
  unfold Builtin.divisionGoesByPylong
  dsimp only
  rw [Bool.and_eq_false_iff]
  refine .inr (decide_eq_false ?_)
  cases p
  · simp
  · have : Nat.log2 1 = 0 := by decide
    simp [this]
theorem noPy_one (a : Int) : Builtin.divisionGoesByPylong a 1 = false := PyProof.noPylong_small (by decide)
theorem w_fdiv {x y : Wv} (hy : y.z ≠ 0) : Bin c n .FloorDiv x.d y.d (.int (x.z.fdiv y.z)) := by
  intro A s E Q va vb as bs o W ra rb h
  rcases ra.w with ⟨p, rfl, rfl⟩ | ⟨a, t, rfl, rfl⟩ <;> rcases rb.w with ⟨q, rfl, rfl⟩ | ⟨b, u, rfl, rfl⟩
  · cases q
    · exact absurd rfl hy
    · exact fdiv_bb1 h.int (noPy_small _ _)
  · exact fdiv_bi hy h.int (noPy_small _ _)
  · cases q
    · exact absurd rfl hy
    · exact fdiv_ib1 h.int (noPy_one _)
  · exact floordiv_int hy h.int (.inr (pylongRoom o W))
theorem w_mod {x y : Wv} (hy : y.z ≠ 0) : Bin c n .Mod x.d y.d (.int (x.z.fmod y.z)) := by
  intro A s E Q va vb as bs o W ra rb h
  rcases ra.w with ⟨p, rfl, rfl⟩ | ⟨a, t, rfl, rfl⟩ <;> rcases rb.w with ⟨q, rfl, rfl⟩ | ⟨b, u, rfl, rfl⟩
  · cases q
    · exact absurd rfl hy
    · exact mod_bb1 h.int
  · exact mod_bi hy h.int
  · cases q
    · exact absurd rfl hy
    · exact mod_ib1 h.int
  · exact mod_int' hy h.int
theorem new_of {s : Shared} {E : Value → Shared → Prop} (h : ∀ e s', New s e s' → E (.ref e) s') : ∀ h' tk e, s.heap.NewExc h' e ZDE → E (.ref e) { s with heap := h', toks := tk } := fun h' tk e x => h e _ ⟨s, h', tk, .rfl' s, x, rfl⟩
theorem w_fdiv0 {x y : Wv} (hy : y.z = 0) : BinN c n .FloorDiv x.d y.d := by
  intro A s E Q va vb as bs o W ra rb h
  rcases ra.w with ⟨p, rfl, rfl⟩ | ⟨a, t, rfl, rfl⟩ <;> rcases rb.w with ⟨q, rfl, rfl⟩ | ⟨b, u, rfl, rfl⟩
  · cases q
    · exact fdiv_bb0 o.h (new_of h)
    · exact absurd hy (by decide)
  · obtain rfl : b = 0 := hy; exact fdiv_bi0 o.h (new_of h)
  · cases q
    · exact fdiv_ib0 o.h (new_of h)
    · exact absurd hy (by decide)
  · exact floordiv_int_or o.h (fun _ => new_of h) (fun q => absurd hy q) fun q => absurd hy q
theorem w_mod0 {x y : Wv} (hy : y.z = 0) : BinN c n .Mod x.d y.d := by
  intro A s E Q va vb as bs o W ra rb h
  rcases ra.w with ⟨p, rfl, rfl⟩ | ⟨a, t, rfl, rfl⟩ <;> rcases rb.w with ⟨q, rfl, rfl⟩ | ⟨b, u, rfl, rfl⟩
  · cases q
    · exact mod_bb0 o.h (new_of h)
    · exact absurd hy (by decide)
  · obtain rfl : b = 0 := hy; exact mod_bi0 o.h (new_of h)
  · cases q
    · exact mod_ib0 o.h (new_of h)
    · exact absurd hy (by decide)
  · exact mod_int_or o.h (fun _ => new_of h) (fun q => absurd hy q)
theorem wc_lt {x y : Wv} : Cmp c n .Lt x.d y.d (decide (x.z < y.z)) := by
  intro A s E Q va vb as bs o W ra rb h
  rcases ra.w with ⟨p, rfl, rfl⟩ | ⟨a, t, rfl, rfl⟩ <;> rcases rb.w with ⟨q, rfl, rfl⟩ | ⟨b, u, rfl, rfl⟩
  · exact lt_bool (h s (.rfl' s))
  · exact lt_bi (h s (.rfl' s))
  · exact lt_ib (h s (.rfl' s))
  · exact lt_int (h s (.rfl' s))
theorem wc_le {x y : Wv} : Cmp c n .LtE x.d y.d (decide (x.z ≤ y.z)) := by
  intro A s E Q va vb as bs o W ra rb h
  rcases ra.w with ⟨p, rfl, rfl⟩ | ⟨a, t, rfl, rfl⟩ <;> rcases rb.w with ⟨q, rfl, rfl⟩ | ⟨b, u, rfl, rfl⟩
  · exact le_bool (h s (.rfl' s))
  · exact le_bi (h s (.rfl' s))
  · exact le_ib (h s (.rfl' s))
  · exact le_int (h s (.rfl' s))
theorem wc_gt {x y : Wv} : Cmp c n .Gt x.d y.d (decide (y.z < x.z)) := by
  intro A s E Q va vb as bs o W ra rb h
  rcases ra.w with ⟨p, rfl, rfl⟩ | ⟨a, t, rfl, rfl⟩ <;> rcases rb.w with ⟨q, rfl, rfl⟩ | ⟨b, u, rfl, rfl⟩
  · exact gt_bool (h s (.rfl' s))
  · exact gt_bi (h s (.rfl' s))
  · exact gt_ib (h s (.rfl' s))
  · exact gt_int (h s (.rfl' s))
theorem wc_ge {x y : Wv} : Cmp c n .GtE x.d y.d (decide (y.z ≤ x.z)) := by
  intro A s E Q va vb as bs o W ra rb h
  rcases ra.w with ⟨p, rfl, rfl⟩ | ⟨a, t, rfl, rfl⟩ <;> rcases rb.w with ⟨q, rfl, rfl⟩ | ⟨b, u, rfl, rfl⟩
  · exact ge_bool (h s (.rfl' s))
  · exact ge_bi (h s (.rfl' s))
  · exact ge_ib (h s (.rfl' s))
  · exact ge_int (h s (.rfl' s))
theorem b2i_inj (p q : Bool) : decide (b2i p = b2i q) = (p == q) := by cases p <;> cases q <;> decide
theorem beq_dec (a b : Int) : (a == b) = decide (a = b) := rfl
theorem wc_eq {x y : Wv} : Cmp c n .Eq x.d y.d (decide (x.z = y.z)) := by
  intro A s E Q va vb as bs o W ra rb h
  rcases ra.w with ⟨p, rfl, rfl⟩ | ⟨a, t, rfl, rfl⟩ <;> rcases rb.w with ⟨q, rfl, rfl⟩ | ⟨b, u, rfl, rfl⟩
  · refine eq_bool ?_
    rw [← b2i_inj]; exact h s (.rfl' s)
  · exact PySem.EqBoolInt.eq_bool_int (h s (.rfl' s))
  · exact PySem.EqBoolInt.eq_int_bool (h s (.rfl' s))
  · exact eq_int (h s (.rfl' s))
theorem wc_ne {x y : Wv} : Cmp c n .NotEq x.d y.d (!decide (x.z = y.z)) := by
  intro A s E Q va vb as bs o W ra rb h
  rcases ra.w with ⟨p, rfl, rfl⟩ | ⟨a, t, rfl, rfl⟩ <;> rcases rb.w with ⟨q, rfl, rfl⟩ | ⟨b, u, rfl, rfl⟩
  · refine ne_bool ?_
    show Q (.bool (!(p == q))) s
    rw [← b2i_inj]; exact h s (.rfl' s)
  · exact PySem.EqBoolInt.ne_bool_int (h s (.rfl' s))
  · exact PySem.EqBoolInt.ne_int_bool (h s (.rfl' s))
  · exact ne_int (h s (.rfl' s))
end
end Mine
end
section
open PySem PySem.W PyProof.Rows PySem.Calls
set_option linter.unusedSectionVars false
set_option linter.unusedVariables false
set_option maxRecDepth 100000
namespace Mine
variable [Bd]
/-- a dict of the top, from texts to ints -/
noncomputable def Tab (c : Cx) (x : PySem.Str) (D : List (PyData × PyData)) : Prop := ∃ d, GV c x (.ref d) ∧ ∀ h, Wd0 c h → TabAt (PySem.strKind c.prog c.w) PyData.str h d D
section
variable {c : Cx} {n : Nat} {sc : Scope} {Γ : Ctx} {fr : Bool}
theorem same_str (a b : PySem.Str) : PySem.Spec.same (PyData.str a) (PyData.str b) = decide (a = b) := by
  exact PyProof.V.same_str a b
theorem tr_in_tab {e : PySem.Expr} {x k : PySem.Str} {np p : Pos} {D : List (PyData × PyData)} (T : Tab c x D) (he : Ev c n sc Γ false e (.str k)) (hk : sc.names.lookup x = some .globalImplicit := by decide +kernel) (hd : (x == ("__debug__" : PySem.Str)) = false := by decide +kernel) :
    Tr c n sc Γ (.Compare e [.In] [.Name x np] p) (PySem.Spec.lookup (PyData.str k) D).isSome := by
  intro env A s E Q F o W V h
  obtain ⟨d, g, hT⟩ := T
  refine wpAny_isTrue_Compare1 (he env A s E _ F o W V fun v as s₁ k₁ r₁ _ => name_gv g F (W.stays k₁.st) hk hd ?_) rfl
  obtain ⟨t, rfl⟩ : ∃ t, v = .str k t := by cases r₁; exact ⟨_, rfl⟩
  have W1 := W.stays k₁.st
  refine in_tab (k := k) same_str (by show decide _ = true; simp) (hT _ W1.toWd0) ?_
  exact wpAny_truthy_bool (h _ (k₁.trans' (kp_tok _ _)))
theorem ev_sub_tab {i : PySem.Expr} {x k : PySem.Str} {np p : Pos} {D : List (PyData × PyData)} {m : Int} (T : Tab c x D) (he : Ev c n sc Γ false i (.str k)) (hl : PySem.Spec.lookup (PyData.str k) D = some (.int m)) (hk : sc.names.lookup x = some .globalImplicit := by decide +kernel) (hd : (x == ("__debug__" : PySem.Str)) = false := by decide +kernel)
    (hs : ∀ o i', subscripted i false o i' = operate [o, i'] (getItem o i') := by intro _ _; rfl) :
    Ev c n sc Γ fr (.Subscript (.Name x np) i p) (.int m) := by
  intro env A s E Q F o W V h
  obtain ⟨d, g, hT⟩ := T
  refine Subscript_ (name_gv g F W hk hd (he env A s E _ F o W V fun v as s₁ k₁ r₁ _ => ?_))
  obtain ⟨t, rfl⟩ : ∃ t, v = .str k t := by cases r₁; exact ⟨_, rfl⟩
  have TT := hT _ (W.stays k₁.st).toWd0
  refine tab_tail TT ?_ (hs _ _)
  refine getItem_tab (k := k) same_str (by show decide _ = true; simp) TT hl fun v hv => ?_
  obtain ⟨u, rfl⟩ : ∃ u, v = .int m u := by
    have := hv s.heap
    cases this; exact ⟨_, rfl⟩
  exact h _ [] _ (k₁.trans' (kp_tok _ _)) (.int _ _) fun _ a ha => nomatch ha
end
end Mine
end
section
open PySem PySem.W PyProof.Rows PySem.Calls
set_option linter.unusedSectionVars false
set_option linter.unusedVariables false
set_option maxRecDepth 100000
namespace Mine
variable [Bd]
/-- the table of the code objects of the lambdas -/
structure TabIs (P : Addr) (ps : Array Value) (h : Heap) : Prop where
  at_ : h.get? P = some (tabObj ps)
/-- all but the table stays -/
noncomputable def KpT (P : Addr) (s s' : Shared) : Prop := ∃ h' tk, s' = { s with heap := h', toks := tk } ∧ ∀ b o, b ≠ P → s.heap.get? b = some o → h'.get? b = some o
section
variable {c : Cx} {n : Nat} {sc : Scope} {Γ : Ctx} {Pf : PySem.Str → Bool}
theorem lam_run {env : Env} {A : Around} {s : Shared} {E Q : Value → Shared → Prop} {cc P : Addr} {ps : Array Value} {params : Arguments} {body : PySem.Expr} {scope : Scope} {pos : Pos} {i : Nat} (F : Fm sc env) (W : Wd0 c s.heap) (hcode : env.code = .ref cc) (C : CodeHd s.heap cc P) (hP : s.heap.get? P = some (tabObj ps)) (ht : TriplesOk ps.toList) (hnf : codeAmong pos ps.toList = none)
    (hcl : closureFor scope env = pure []) (hdef : defaultsOf params env = ([], [])) (hT : lamTable[i]? = some (params, body, scope))
    (h : ∀ a c' s', KpT P s s' → s'.heap.get? P = some (tabObj (ps ++ #[rawInt pos.line, rawInt pos.col, .ref c'])) → Rd s'.heap (.ref a) (.lam i) [] → Q (.ref a) s') :
    wpAny (model c.prog c.w) A (eval (.Lambda params body scope pos) env) Q E s := by
  obtain ⟨bm, ob, b1, b2, b3, b4, b5, b6, b7⟩ := W.bm
  have hgP : mainGlobals ≠ P := fun q => by
    obtain ⟨o, es, ep, e, hd, _⟩ := W.g
    rw [q, hP] at e; cases e; cases hd
  have hbP : bm ≠ P := fun q => by
    rw [q, hP] at b4; cases b4; cases b7
  refine kla_eval hdef (kla_makeFunction (mg := c.mg) hcl F.glob W.g hcode C hP ht hnf hgP ⟨bm, ob, b1, b2, b3, hbP, b4, b5, b6, b7⟩ fun c' ctv h' tk hx hge hlt hrec htb => ?_)
  have hPs : P < h'.objs.size := Heap.lt_size htb
  refine h h'.objs.size c' _ ⟨_, tk, rfl, fun b o hb e => Heap.get?_push_of_some _ (hx b o hb e)⟩ (Heap.get?_push_of_some _ htb) ?_
  refine .lam (Heap.get?_push_size _ rfl) rfl ⟨body, hT, rfl, rfl, rfl, rfl, rfl, rfl⟩ ?_
  obtain ⟨c2, oc, vs, t, e1, e2, e3, e4⟩ := hrec
  exact ⟨c2, oc, vs, t, e1, Heap.get?_push_of_some _ e2, e3, e4⟩
noncomputable abbrev tabN (ps : Array Value) (pos : Pos) (c' : Addr) : Array Value := ps ++ #[rawInt pos.line, rawInt pos.col, .ref c']
theorem Fs.tab {s0 : Shared} {env : Env} {s s' : Shared} {P : Addr} {ps : Array Value} (V : Fs s0 env Pf Γ s) (hn : s0.heap.get? P = none) (hP : s.heap.get? P = some (tabObj ps)) (hstr : ∀ q t, ps[1]? ≠ some (.str q t)) (k : KpT P s s') : Fs s0 env Pf Γ s' := by
  obtain ⟨h', tk, rfl, k⟩ := k
  exact V.offs (wr := [P]) (by simp; exact offO_fields hP rfl hstr) (by simp; exact hn) fun b o hb e => k b o (by simpa using hb) e
theorem lam_keep {s s' : Shared} {P : Addr} {ps : Array Value} {v : Value} {i : Nat} (hP : s.heap.get? P = some (tabObj ps)) (hstr : ∀ q t, ps[1]? ≠ some (.str q t)) (k : KpT P s s') (r : Rd s.heap v (.lam i) []) : Rd s'.heap v (.lam i) [] := by
  obtain ⟨h', tk, rfl, k⟩ := k
  exact r.carry (Carry.offs (S := []) (wr := [P]) (by simp; exact offO_fields hP rfl hstr) (.of fun b o hb e => k b o (by simpa using hb) e)) fun _ h => h
/-- x = [lambda, lambda, lambda] -/
theorem ex_lams3 {env : Env} {A : Around} {s0 s : Shared} {E : Value → Shared → Prop} {Q : Flow → Shared → Prop} {x : PySem.Str} {cc P : Addr} {ps : Array Value} {a1 a2 a3 : Arguments} {b1 b2 b3 : PySem.Expr} {c1 c2 c3 : Scope} {q1 q2 q3 px lp p : Pos} {i1 i2 i3 : Nat}
    (F : Fm sc env) (W : Wf c A env s0.heap) (V : Fs s0 env Pf Γ s) (hcode : env.code = .ref cc) (hC : ∀ h, Wd0 c h → CodeHd h cc P) (hn : s0.heap.get? P = none) (hP : s.heap.get? P = some (tabObj ps))
    (hs : ∀ q t, ps[1]? ≠ some (.str q t)) (hs1 : ∀ u q t, (tabN ps q1 u)[1]? ≠ some (.str q t)) (hs2 : ∀ u u' q t, (tabN (tabN ps q1 u) q2 u')[1]? ≠ some (.str q t)) (hs3 : ∀ u u' u'' q t, (tabN (tabN (tabN ps q1 u) q2 u') q3 u'')[1]? ≠ some (.str q t))
    (t1 : TriplesOk ps.toList) (n1 : codeAmong q1 ps.toList = none) (t2 : ∀ u, TriplesOk (tabN ps q1 u).toList) (n2 : ∀ u, codeAmong q2 (tabN ps q1 u).toList = none) (t3 : ∀ u u', TriplesOk (tabN (tabN ps q1 u) q2 u').toList) (n3 : ∀ u u', codeAmong q3 (tabN (tabN ps q1 u) q2 u').toList = none)
    (hcl : ∀ scp ∈ [c1, c2, c3], closureFor scp env = pure []) (hdef : ∀ a ∈ [a1, a2, a3], defaultsOf a env = ([], [])) (hT1 : lamTable[i1]? = some (a1, b1, c1)) (hT2 : lamTable[i2]? = some (a2, b2, c2)) (hT3 : lamTable[i3]? = some (a3, b3, c3))
    (hx : sc.names.lookup x = some .local ∨ sc.names.lookup x = some .cell)
    (h : ∀ s' u u' u'', Fs s0 env Pf (upd Γ x (.list [.lam i1, .lam i2, .lam i3])) s' → s'.heap.get? P = some (tabObj (tabN (tabN (tabN ps q1 u) q2 u') q3 u'')) → Q .next s') :
    wpAny (model c.prog c.w) A (exec (.Assign [.Name x px] (.List [.Lambda a1 b1 c1 q1, .Lambda a2 b2 c2 q2, .Lambda a3 b3 c3 q3] lp) p) env) Q E s := by
  refine wpAny_Assign_Name (List_ ?_) rfl
  refine wpAny_items_cons ?_ rfl
  refine lam_run F (W.toWd0.stays V.kp.st) hcode (hC _ (W.toWd0.stays V.kp.st)) hP t1 n1 (hcl _ (by simp)) (hdef _ (by simp)) hT1 fun v1 u1 s1 k1 P1 r1 => ?_
  have V1 := V.tab hn hP hs k1
  refine wpAny_items_cons ?_ rfl
  refine lam_run F (W.toWd0.stays V1.kp.st) hcode (hC _ (W.toWd0.stays V1.kp.st)) P1 (t2 _) (n2 _) (hcl _ (by simp)) (hdef _ (by simp)) hT2 fun v2 u2 s2 k2 P2 r2 => ?_
  have V2 := V1.tab hn P1 (hs1 _) k2
  have r12 := lam_keep P1 (hs1 _) k2 r1
  refine wpAny_items_cons ?_ rfl
  refine lam_run F (W.toWd0.stays V2.kp.st) hcode (hC _ (W.toWd0.stays V2.kp.st)) P2 (t3 _ _) (n3 _ _) (hcl _ (by simp)) (hdef _ (by simp)) hT3 fun v3 u3 s3 k3 P3 r3 => ?_
  have V3 := V2.tab hn P2 (hs2 _ _) k3
  have r13 := lam_keep P2 (hs2 _ _) k3 r12
  have r23 := lam_keep P2 (hs2 _ _) k3 r2
  have rr : RdAll s3.heap [Value.ref v1, .ref v2, .ref v3] [.lam i1, .lam i2, .lam i3] [] := .cons (as := []) r13 (.cons (as := []) r23 (.cons (as := []) (bs := []) r3 .nil))
  refine wpAny_items_nil (wpAny_newList ?_)
  have kp := kp_push s3 { cls := .type "list", data := .seq [Value.ref v1, .ref v2, .ref v3].toArray } s3.toks
  -- the base: all but the frame's own; the table is in it
  obtain ⟨f3, VV3⟩ := V3.vars
  obtain ⟨hb, FB⟩ := V3.rebase VV3
  have offP : OffO s3.heap P := offO_fields P3 rfl (hs3 _ _ _)
  have gP := ((cut_get).2 (not_mut_off V3 VV3 offP)).trans P3
  refine store_fs (c := c) FB kp (rd_new rr rfl) (fun a ha => by rw [List.mem_singleton.mp ha]; exact new_none _) F.kind (kind_fm F hx) fun s5 F5 => ?_
  exact h s5 _ _ _ (F5.down hb V3.kp) (F5.kp.st.ex gP (notDic_fields rfl))
end
end Mine
end
section
open PySem PySem.W PyProof.Rows PySem.Calls
set_option linter.unusedSectionVars false
set_option linter.unusedVariables false
set_option maxRecDepth 100000
set_option maxHeartbeats 4000000
namespace Mine
variable [Bd]
noncomputable abbrev cx (w : World) (mg mb : PySem.Str → Option Value) : Cx := ⟨PySem.Challenge.rw_ti0036_01.row.prog, w, K0 w.params, mg, mb⟩
noncomputable abbrev ab : List PySem.Str := [Str.ofString "a", Str.ofString "b"]
variable {w : World} {mg mb : PySem.Str → Option Value} {n : Nat}
theorem len_cons {α : Type} {l : List α} {n : Nat} (h : l.length = n + 1) : ∃ a r, l = a :: r ∧ r.length = n := by
  cases l with
  | nil => cases h
  | cons a r => exact ⟨a, r, rfl, Nat.succ.inj h⟩
theorem bind2 {fd : FuncData} {ps : List PySem.Str} (h : ∀ v u, bindArgs fd ⟨[v, u], []⟩ = pure (ps.zip [v, u])) (hp : ps.length = 2) : ∀ vs : List Value, vs.length = ps.length → bindArgs fd ⟨vs, []⟩ = pure (ps.zip vs) := by
  intro vs hv
  obtain ⟨v, r, rfl, h1⟩ := len_cons (hv.trans hp)
  obtain ⟨u, r, rfl, h2⟩ := len_cons h1
  cases List.eq_nil_of_length_eq_zero h2
  exact h v u
theorem bind1 {fd : FuncData} {ps : List PySem.Str} (h : ∀ v, bindArgs fd ⟨[v], []⟩ = pure (ps.zip [v])) (hp : ps.length = 1) : ∀ vs : List Value, vs.length = ps.length → bindArgs fd ⟨vs, []⟩ = pure (ps.zip vs) := by
  intro vs hv
  obtain ⟨v, r, rfl, h1⟩ := len_cons (hv.trans hp)
  cases List.eq_nil_of_length_eq_zero h1
  exact h v
theorem bind3 {fd : FuncData} {ps : List PySem.Str} (h : ∀ v u t, bindArgs fd ⟨[v, u, t], []⟩ = pure (ps.zip [v, u, t])) (hp : ps.length = 3) : ∀ vs : List Value, vs.length = ps.length → bindArgs fd ⟨vs, []⟩ = pure (ps.zip vs) := by
  intro vs hv
  obtain ⟨v, r, rfl, h1⟩ := len_cons (hv.trans hp)
  obtain ⟨u, r, rfl, h2⟩ := len_cons h1
  obtain ⟨t, r, rfl, h3⟩ := len_cons h2
  cases List.eq_nil_of_length_eq_zero h3
  exact h v u t
theorem lt14 : ∀ k : Nat, k < 14 → k = 0 ∨ k = 1 ∨ k = 2 ∨ k = 3 ∨ k = 4 ∨ k = 5 ∨ k = 6 ∨ k = 7 ∨ k = 8 ∨ k = 9 ∨ k = 10 ∨ k = 11 ∨ k = 12 ∨ k = 13 := by decide +kernel
theorem c_add {x y : Wv} : CallV (cx w mg mb) (n + 1) (.ref 77) [x.d, y.d] (.int (x.z + y.z)) :=
  call_def (ps := ab) ⟨_, _, rfl, rfl, by kernel_rfl, rfl, rfl, rfl, rfl, rfl, bind2 (fun _ _ => rfl) rfl⟩ rfl (by kernel_rfl) (exs_ret (ex_ret (ev_bin (ev_name rfl) (ev_name rfl) w_add)))
theorem c_and_ {x y : Wv} : CallV (cx w mg mb) (n + 1) (.ref 84) [x.d, y.d] ((wbit (· && ·) Builtin.bitAnd x y).d) :=
  call_def (ps := ab) ⟨_, _, rfl, rfl, by kernel_rfl, rfl, rfl, rfl, rfl, rfl, bind2 (fun _ _ => rfl) rfl⟩ rfl (by kernel_rfl) (exs_ret (ex_ret (ev_bin (ev_name rfl) (ev_name rfl) w_and)))
theorem c_or_ {x y : Wv} : CallV (cx w mg mb) (n + 1) (.ref 112) [x.d, y.d] ((wbit (· || ·) Builtin.bitOr x y).d) :=
  call_def (ps := ab) ⟨_, _, rfl, rfl, by kernel_rfl, rfl, rfl, rfl, rfl, rfl, bind2 (fun _ _ => rfl) rfl⟩ rfl (by kernel_rfl) (exs_ret (ex_ret (ev_bin (ev_name rfl) (ev_name rfl) w_or)))
theorem c_xor {x y : Wv} : CallV (cx w mg mb) (n + 1) (.ref 126) [x.d, y.d] ((wbit (· != ·) Builtin.bitXor x y).d) :=
  call_def (ps := ab) ⟨_, _, rfl, rfl, by kernel_rfl, rfl, rfl, rfl, rfl, rfl, bind2 (fun _ _ => rfl) rfl⟩ rfl (by kernel_rfl) (exs_ret (ex_ret (ev_bin (ev_name rfl) (ev_name rfl) w_xor)))
theorem c_sub {x y : Wv} : CallV (cx w mg mb) (n + 1) (.ref 119) [x.d, y.d] (.int (x.z - y.z)) :=
  call_def (ps := ab) ⟨_, _, rfl, rfl, by kernel_rfl, rfl, rfl, rfl, rfl, rfl, bind2 (fun _ _ => rfl) rfl⟩ rfl (by kernel_rfl) (exs_ret (ex_ret (ev_bin (ev_name rfl) (ev_name rfl) w_sub)))
theorem c_mul {x y : Wv} (hm : IntMulOk x.z y.z) : CallV (cx w mg mb) (n + 1) (.ref 105) [x.d, y.d] (.int (x.z * y.z)) :=
  call_def (ps := ab) ⟨_, _, rfl, rfl, by kernel_rfl, rfl, rfl, rfl, rfl, rfl, bind2 (fun _ _ => rfl) rfl⟩ rfl (by kernel_rfl) (exs_ret (ex_ret (ev_bin (ev_name rfl) (ev_name rfl) (w_mul hm))))
theorem c_floordiv {x y : Wv} (hy : y.z ≠ 0) : CallV (cx w mg mb) (n + 1) (.ref 91) [x.d, y.d] (.int (x.z.fdiv y.z)) :=
  call_def (ps := ab) ⟨_, _, rfl, rfl, by kernel_rfl, rfl, rfl, rfl, rfl, rfl, bind2 (fun _ _ => rfl) rfl⟩ rfl (by kernel_rfl) (exs_ret (ex_ret (ev_bin (ev_name rfl) (ev_name rfl) (w_fdiv hy))))
theorem c_mod {x y : Wv} (hy : y.z ≠ 0) : CallV (cx w mg mb) (n + 1) (.ref 98) [x.d, y.d] (.int (x.z.fmod y.z)) :=
  call_def (ps := ab) ⟨_, _, rfl, rfl, by kernel_rfl, rfl, rfl, rfl, rfl, rfl, bind2 (fun _ _ => rfl) rfl⟩ rfl (by kernel_rfl) (exs_ret (ex_ret (ev_bin (ev_name rfl) (ev_name rfl) (w_mod hy))))
theorem r_floordiv {x y : Wv} (hy : y.z = 0) : CallR (cx w mg mb) (n + 1) (.ref 91) [x.d, y.d] :=
  call_new (ps := ab) ⟨_, _, rfl, rfl, by kernel_rfl, rfl, rfl, rfl, rfl, rfl, bind2 (fun _ _ => rfl) rfl⟩ rfl (by kernel_rfl) (exs_new (ex_ret_new (evN_bin (ev_name rfl) (ev_name rfl) (w_fdiv0 hy))))
theorem r_mod {x y : Wv} (hy : y.z = 0) : CallR (cx w mg mb) (n + 1) (.ref 98) [x.d, y.d] :=
  call_new (ps := ab) ⟨_, _, rfl, rfl, by kernel_rfl, rfl, rfl, rfl, rfl, rfl, bind2 (fun _ _ => rfl) rfl⟩ rfl (by kernel_rfl) (exs_new (ex_ret_new (evN_bin (ev_name rfl) (ev_name rfl) (w_mod0 hy))))
theorem c_lt {x y : Wv} : CallV (cx w mg mb) (n + 1) (.ref 35) [x.d, y.d] (.bool (decide (x.z < y.z))) :=
  call_def (ps := ab) ⟨_, _, rfl, rfl, by kernel_rfl, rfl, rfl, rfl, rfl, rfl, bind2 (fun _ _ => rfl) rfl⟩ rfl (by kernel_rfl) (exs_ret (ex_ret (ev_cmp (ev_name rfl) (ev_name rfl) wc_lt)))
theorem c_le {x y : Wv} : CallV (cx w mg mb) (n + 1) (.ref 42) [x.d, y.d] (.bool (decide (x.z ≤ y.z))) :=
  call_def (ps := ab) ⟨_, _, rfl, rfl, by kernel_rfl, rfl, rfl, rfl, rfl, rfl, bind2 (fun _ _ => rfl) rfl⟩ rfl (by kernel_rfl) (exs_ret (ex_ret (ev_cmp (ev_name rfl) (ev_name rfl) wc_le)))
theorem c_eq {x y : Wv} : CallV (cx w mg mb) (n + 1) (.ref 49) [x.d, y.d] (.bool (decide (x.z = y.z))) :=
  call_def (ps := ab) ⟨_, _, rfl, rfl, by kernel_rfl, rfl, rfl, rfl, rfl, rfl, bind2 (fun _ _ => rfl) rfl⟩ rfl (by kernel_rfl) (exs_ret (ex_ret (ev_cmp (ev_name rfl) (ev_name rfl) wc_eq)))
theorem c_ne {x y : Wv} : CallV (cx w mg mb) (n + 1) (.ref 56) [x.d, y.d] (.bool (!decide (x.z = y.z))) :=
  call_def (ps := ab) ⟨_, _, rfl, rfl, by kernel_rfl, rfl, rfl, rfl, rfl, rfl, bind2 (fun _ _ => rfl) rfl⟩ rfl (by kernel_rfl) (exs_ret (ex_ret (ev_cmp (ev_name rfl) (ev_name rfl) wc_ne)))
theorem c_ge {x y : Wv} : CallV (cx w mg mb) (n + 1) (.ref 63) [x.d, y.d] (.bool (decide (y.z ≤ x.z))) :=
  call_def (ps := ab) ⟨_, _, rfl, rfl, by kernel_rfl, rfl, rfl, rfl, rfl, rfl, bind2 (fun _ _ => rfl) rfl⟩ rfl (by kernel_rfl) (exs_ret (ex_ret (ev_cmp (ev_name rfl) (ev_name rfl) wc_ge)))
theorem c_gt {x y : Wv} : CallV (cx w mg mb) (n + 1) (.ref 70) [x.d, y.d] (.bool (decide (y.z < x.z))) :=
  call_def (ps := ab) ⟨_, _, rfl, rfl, by kernel_rfl, rfl, rfl, rfl, rfl, rfl, bind2 (fun _ _ => rfl) rfl⟩ rfl (by kernel_rfl) (exs_ret (ex_ret (ev_cmp (ev_name rfl) (ev_name rfl) wc_gt)))
end Mine
end
section
open PySem PySem.W PyProof.Rows PySem.Calls
set_option linter.unusedSectionVars false
set_option linter.unusedVariables false
set_option maxRecDepth 100000
set_option maxHeartbeats 4000000
namespace Mine
variable [Bd]
variable {w : World} {mg mb : PySem.Str → Option Value} {n : Nat}
noncomputable abbrev S (x : String) : PySem.Str := Str.ofString x
/-- the int globals of the text -/
theorem gi_int {x : PySem.Str} {i : Int} {t : Tok} (e : nsIn (cx w mg mb).K mainGlobals x = some (some (.int i t))) : GV (cx w mg mb) x (.int i t) := gv_K e
theorem c_isterminal {x : Int} : CallV (cx w mg mb) (n + 1) (.ref 143) [.int x] (.bool (decide (x < 256))) :=
  call_def (ps := [S "x"]) ⟨_, _, rfl, rfl, by kernel_rfl, rfl, rfl, rfl, rfl, rfl, bind1 (fun _ => rfl) rfl⟩ rfl (by kernel_rfl)
    (exs_ret (ex_ret (ev_cmp (ev_name rfl) (ev_glob (gv_K (c := cx w mg mb) (v := .int 256 447) (by kernel_rfl)) (fun _ => .int _ _) (by kernel_rfl) (by kernel_rfl)) cmp_int_lt)))
theorem c_isnonterminal {x : Int} : CallV (cx w mg mb) (n + 1) (.ref 150) [.int x] (.bool (decide (256 ≤ x))) :=
  call_def (ps := [S "x"]) ⟨_, _, rfl, rfl, by kernel_rfl, rfl, rfl, rfl, rfl, rfl, bind1 (fun _ => rfl) rfl⟩ rfl (by kernel_rfl)
    (exs_ret (ex_ret (ev_cmp (ev_name rfl) (ev_glob (gv_K (c := cx w mg mb) (v := .int 256 447) (by kernel_rfl)) (fun _ => .int _ _) (by kernel_rfl) (by kernel_rfl)) cmp_int_ge)))
theorem c_iseof {x : Int} : CallV (cx w mg mb) (n + 1) (.ref 157) [.int x] (.bool (x == 0)) :=
  call_def (ps := [S "x"]) ⟨_, _, rfl, rfl, by kernel_rfl, rfl, rfl, rfl, rfl, rfl, bind1 (fun _ => rfl) rfl⟩ rfl (by kernel_rfl)
    (exs_ret (ex_ret (ev_cmp (ev_name rfl) (ev_glob (gv_K (c := cx w mg mb) (v := .int 0 349) (by kernel_rfl)) (fun _ => .int _ _) (by kernel_rfl) (by kernel_rfl)) cmp_int_eq)))
/-- what it costs to put one sign for another -/
noncomputable def subst (a b : PySem.Str) : Int := if (a == b) = true then 0 else if (Txt.lower a == Txt.lower b) = true then 1 else 2
theorem c_subst {a b : PySem.Str} (ha : Builtin.Str.tooLong (Txt.lower a).length = false) (hb : Builtin.Str.tooLong (Txt.lower b).length = false) : CallV (cx w mg mb) (n + 1) (.ref 21) [.str a, .str b] (.int (subst a b)) := by
  refine call_def (ps := [S "ch_a", S "ch_b"]) ⟨_, _, rfl, rfl, by kernel_rfl, rfl, rfl, rfl, rfl, rfl, bind2 (fun _ _ => rfl) rfl⟩ rfl (by kernel_rfl) ?_
  unfold subst
  by_cases h1 : (a == b) = true
  · rw [if_pos h1]
    exact exs_ret (ex_if_t ((tr_cmp (ev_name rfl) (ev_name rfl) cmp_str_eq).eq h1) (exs_ret (ex_ret ev_int)))
  · rw [if_neg h1]
    have h1' : (a == b) = false := by simpa using h1
    refine exs_cons (ex_if_f ((tr_cmp (ev_name rfl) (ev_name rfl) cmp_str_eq).eq h1') exs_nil) ?_
    by_cases h2 : (Txt.lower a == Txt.lower b) = true
    · rw [if_pos h2]
      exact exs_ret (ex_if_t ((tr_cmp (ev_lower (ev_name rfl) ha) (ev_lower (ev_name rfl) hb) cmp_str_eq).eq h2) (exs_ret (ex_ret (ev_glob (gv_K (c := cx w mg mb) (v := .int 1 193) (by kernel_rfl)) (fun _ => .int _ _) (by kernel_rfl) (by kernel_rfl)))))
    · rw [if_neg h2]
      have h2' : (Txt.lower a == Txt.lower b) = false := by simpa using h2
      refine exs_cons (ex_if_f ((tr_cmp (ev_lower (ev_name rfl) ha) (ev_lower (ev_name rfl) hb) cmp_str_eq).eq h2') exs_nil) ?_
      exact exs_ret (ex_ret (ev_glob (gv_K (c := cx w mg mb) (v := .int 2 191) (by kernel_rfl)) (fun _ => .int _ _) (by kernel_rfl) (by kernel_rfl)))
end Mine
end
section
open PySem PySem.W PyProof.Rows PySem.Calls
set_option linter.unusedSectionVars false
set_option linter.unusedVariables false
set_option maxRecDepth 100000
set_option maxHeartbeats 4000000
namespace Mine
variable [Bd]
variable {w : World} {mg mb : PySem.Str → Option Value} {n : Nat}
/-- what the sign k makes of two worths; none: a division by zero -/
noncomputable def wop : Nat → Wv → Wv → Option Wv
  | 0, x, y => some (.i (x.z + y.z))
  | 1, x, y => some (.i (x.z - y.z))
  | 2, x, y => some (.i (x.z * y.z))
  | 3, x, y => some (wbit (· && ·) Builtin.bitAnd x y)
  | 4, x, y => some (wbit (· || ·) Builtin.bitOr x y)
  | 5, x, y => some (wbit (· != ·) Builtin.bitXor x y)
  | 6, x, y => if y.z = 0 then none else some (.i (x.z.fdiv y.z))
  | 7, x, y => if y.z = 0 then none else some (.i (x.z.fmod y.z))
  | 8, x, y => some (.b (decide (x.z < y.z)))
  | 9, x, y => some (.b (decide (x.z ≤ y.z)))
  | 10, x, y => some (.b (decide (x.z = y.z)))
  | 11, x, y => some (.b (!decide (x.z = y.z)))
  | 12, x, y => some (.b (decide (y.z < x.z)))
  | _, x, y => some (.b (decide (y.z ≤ x.z)))
/-- the token of the sign k -/
noncomputable def tokOf (k : Nat) : Int := [14, 15, 16, 19, 18, 32, 47, 24, 20, 29, 27, 28, 21, 30].getD k 0
noncomputable abbrev noo : List PySem.Str := [S "number", S "one", S "other"]
theorem deed_args {x y : Wv} {num : Int} {p1 p2 : Pos} {sc : Scope} : Evs (cx w mg mb) n sc (binds noo [.int num, x.d, y.d]) false [.Name "one" p1, .Name "other" p2] [x.d, y.d] :=
  evs_cons (ev_name rfl) (evs_cons (ev_name rfl) evs_nil)
theorem deed_0 {x y : Wv} : CallV (cx w mg mb) (n + 2) (.ref 198) [.int 14, x.d, y.d] (((wop 0 x y).getD (.i 0)).d) :=
  call_def (ps := noo) ⟨_, _, rfl, rfl, by kernel_rfl, rfl, rfl, rfl, rfl, rfl, bind3 (fun _ _ _ => rfl) rfl⟩ rfl (by kernel_rfl) (exs_ret (ex_if_t ((tr_cmp (ev_name rfl) ev_int cmp_int_eq).eq (by decide)) (exs_ret (ex_ret (ev_call_def (gv_K (c := cx w mg mb) (v := .ref 77) (by kernel_rfl)) rfl rfl deed_args c_add (by kernel_rfl) (by kernel_rfl))))))
theorem deed_1 {x y : Wv} : CallV (cx w mg mb) (n + 2) (.ref 198) [.int 15, x.d, y.d] (((wop 1 x y).getD (.i 0)).d) :=
  call_def (ps := noo) ⟨_, _, rfl, rfl, by kernel_rfl, rfl, rfl, rfl, rfl, rfl, bind3 (fun _ _ _ => rfl) rfl⟩ rfl (by kernel_rfl) (exs_cons (ex_if_f ((tr_cmp (ev_name rfl) ev_int cmp_int_eq).eq (by decide)) exs_nil) (exs_ret (ex_if_t ((tr_cmp (ev_name rfl) ev_int cmp_int_eq).eq (by decide)) (exs_ret (ex_ret (ev_call_def (gv_K (c := cx w mg mb) (v := .ref 119) (by kernel_rfl)) rfl rfl deed_args c_sub (by kernel_rfl) (by kernel_rfl)))))))
theorem deed_2 {x y : Wv} (hm : IntMulOk x.z y.z) : CallV (cx w mg mb) (n + 2) (.ref 198) [.int 16, x.d, y.d] (((wop 2 x y).getD (.i 0)).d) :=
  call_def (ps := noo) ⟨_, _, rfl, rfl, by kernel_rfl, rfl, rfl, rfl, rfl, rfl, bind3 (fun _ _ _ => rfl) rfl⟩ rfl (by kernel_rfl) (exs_cons (ex_if_f ((tr_cmp (ev_name rfl) ev_int cmp_int_eq).eq (by decide)) exs_nil) (exs_cons (ex_if_f ((tr_cmp (ev_name rfl) ev_int cmp_int_eq).eq (by decide)) exs_nil) (exs_ret (ex_if_t ((tr_cmp (ev_name rfl) ev_int cmp_int_eq).eq (by decide)) (exs_ret (ex_ret (ev_call_def (gv_K (c := cx w mg mb) (v := .ref 105) (by kernel_rfl)) rfl rfl deed_args (c_mul hm) (by kernel_rfl) (by kernel_rfl))))))))
theorem deed_3 {x y : Wv} : CallV (cx w mg mb) (n + 2) (.ref 198) [.int 19, x.d, y.d] (((wop 3 x y).getD (.i 0)).d) :=
  call_def (ps := noo) ⟨_, _, rfl, rfl, by kernel_rfl, rfl, rfl, rfl, rfl, rfl, bind3 (fun _ _ _ => rfl) rfl⟩ rfl (by kernel_rfl) (exs_cons (ex_if_f ((tr_cmp (ev_name rfl) ev_int cmp_int_eq).eq (by decide)) exs_nil) (exs_cons (ex_if_f ((tr_cmp (ev_name rfl) ev_int cmp_int_eq).eq (by decide)) exs_nil) (exs_cons (ex_if_f ((tr_cmp (ev_name rfl) ev_int cmp_int_eq).eq (by decide)) exs_nil) (exs_cons (ex_if_f ((tr_cmp (ev_name rfl) ev_int cmp_int_eq).eq (by decide)) exs_nil) (exs_ret (ex_if_t ((tr_cmp (ev_name rfl) ev_int cmp_int_eq).eq (by decide)) (exs_ret (ex_ret (ev_call_def (gv_K (c := cx w mg mb) (v := .ref 84) (by kernel_rfl)) rfl rfl deed_args c_and_ (by kernel_rfl) (by kernel_rfl))))))))))
theorem deed_4 {x y : Wv} : CallV (cx w mg mb) (n + 2) (.ref 198) [.int 18, x.d, y.d] (((wop 4 x y).getD (.i 0)).d) :=
  call_def (ps := noo) ⟨_, _, rfl, rfl, by kernel_rfl, rfl, rfl, rfl, rfl, rfl, bind3 (fun _ _ _ => rfl) rfl⟩ rfl (by kernel_rfl) (exs_cons (ex_if_f ((tr_cmp (ev_name rfl) ev_int cmp_int_eq).eq (by decide)) exs_nil) (exs_cons (ex_if_f ((tr_cmp (ev_name rfl) ev_int cmp_int_eq).eq (by decide)) exs_nil) (exs_cons (ex_if_f ((tr_cmp (ev_name rfl) ev_int cmp_int_eq).eq (by decide)) exs_nil) (exs_ret (ex_if_t ((tr_cmp (ev_name rfl) ev_int cmp_int_eq).eq (by decide)) (exs_ret (ex_ret (ev_call_def (gv_K (c := cx w mg mb) (v := .ref 112) (by kernel_rfl)) rfl rfl deed_args c_or_ (by kernel_rfl) (by kernel_rfl)))))))))
theorem deed_5 {x y : Wv} : CallV (cx w mg mb) (n + 2) (.ref 198) [.int 32, x.d, y.d] (((wop 5 x y).getD (.i 0)).d) :=
  call_def (ps := noo) ⟨_, _, rfl, rfl, by kernel_rfl, rfl, rfl, rfl, rfl, rfl, bind3 (fun _ _ _ => rfl) rfl⟩ rfl (by kernel_rfl) (exs_cons (ex_if_f ((tr_cmp (ev_name rfl) ev_int cmp_int_eq).eq (by decide)) exs_nil) (exs_cons (ex_if_f ((tr_cmp (ev_name rfl) ev_int cmp_int_eq).eq (by decide)) exs_nil) (exs_cons (ex_if_f ((tr_cmp (ev_name rfl) ev_int cmp_int_eq).eq (by decide)) exs_nil) (exs_cons (ex_if_f ((tr_cmp (ev_name rfl) ev_int cmp_int_eq).eq (by decide)) exs_nil) (exs_cons (ex_if_f ((tr_cmp (ev_name rfl) ev_int cmp_int_eq).eq (by decide)) exs_nil) (exs_cons (ex_if_f ((tr_cmp (ev_name rfl) ev_int cmp_int_eq).eq (by decide)) exs_nil) (exs_cons (ex_if_f ((tr_cmp (ev_name rfl) ev_int cmp_int_eq).eq (by decide)) exs_nil) (exs_cons (ex_if_f ((tr_cmp (ev_name rfl) ev_int cmp_int_eq).eq (by decide)) exs_nil) (exs_cons (ex_if_f ((tr_cmp (ev_name rfl) ev_int cmp_int_eq).eq (by decide)) exs_nil) (exs_cons (ex_if_f ((tr_cmp (ev_name rfl) ev_int cmp_int_eq).eq (by decide)) exs_nil) (exs_cons (ex_if_f ((tr_cmp (ev_name rfl) ev_int cmp_int_eq).eq (by decide)) exs_nil) (exs_cons (ex_if_f ((tr_cmp (ev_name rfl) ev_int cmp_int_eq).eq (by decide)) exs_nil) (exs_ret (ex_if_t ((tr_cmp (ev_name rfl) ev_int cmp_int_eq).eq (by decide)) (exs_ret (ex_ret (ev_call_def (gv_K (c := cx w mg mb) (v := .ref 126) (by kernel_rfl)) rfl rfl deed_args c_xor (by kernel_rfl) (by kernel_rfl))))))))))))))))))
theorem deed_6 {x y : Wv} (hy : y.z ≠ 0) : CallV (cx w mg mb) (n + 2) (.ref 198) [.int 47, x.d, y.d] (.int (x.z.fdiv y.z)) :=
  call_def (ps := noo) ⟨_, _, rfl, rfl, by kernel_rfl, rfl, rfl, rfl, rfl, rfl, bind3 (fun _ _ _ => rfl) rfl⟩ rfl (by kernel_rfl) (exs_cons (ex_if_f ((tr_cmp (ev_name rfl) ev_int cmp_int_eq).eq (by decide)) exs_nil) (exs_cons (ex_if_f ((tr_cmp (ev_name rfl) ev_int cmp_int_eq).eq (by decide)) exs_nil) (exs_cons (ex_if_f ((tr_cmp (ev_name rfl) ev_int cmp_int_eq).eq (by decide)) exs_nil) (exs_cons (ex_if_f ((tr_cmp (ev_name rfl) ev_int cmp_int_eq).eq (by decide)) exs_nil) (exs_cons (ex_if_f ((tr_cmp (ev_name rfl) ev_int cmp_int_eq).eq (by decide)) exs_nil) (exs_cons (ex_if_f ((tr_cmp (ev_name rfl) ev_int cmp_int_eq).eq (by decide)) exs_nil) (exs_cons (ex_if_f ((tr_cmp (ev_name rfl) ev_int cmp_int_eq).eq (by decide)) exs_nil) (exs_cons (ex_if_f ((tr_cmp (ev_name rfl) ev_int cmp_int_eq).eq (by decide)) exs_nil) (exs_cons (ex_if_f ((tr_cmp (ev_name rfl) ev_int cmp_int_eq).eq (by decide)) exs_nil) (exs_cons (ex_if_f ((tr_cmp (ev_name rfl) ev_int cmp_int_eq).eq (by decide)) exs_nil) (exs_cons (ex_if_f ((tr_cmp (ev_name rfl) ev_int cmp_int_eq).eq (by decide)) exs_nil) (exs_cons (ex_if_f ((tr_cmp (ev_name rfl) ev_int cmp_int_eq).eq (by decide)) exs_nil) (exs_cons (ex_if_f ((tr_cmp (ev_name rfl) ev_int cmp_int_eq).eq (by decide)) exs_nil) (exs_ret (ex_ret (ev_ifexp (q := true) ((tr_cmp (ev_name rfl) ev_int cmp_int_eq).eq (by decide)) (fun _ => (ev_call_def (gv_K (c := cx w mg mb) (v := .ref 91) (by kernel_rfl)) rfl rfl deed_args (c_floordiv hy) (by kernel_rfl) (by kernel_rfl))) (fun h => nomatch h)))))))))))))))))
theorem deed_7 {x y : Wv} (hy : y.z ≠ 0) : CallV (cx w mg mb) (n + 2) (.ref 198) [.int 24, x.d, y.d] (.int (x.z.fmod y.z)) :=
  call_def (ps := noo) ⟨_, _, rfl, rfl, by kernel_rfl, rfl, rfl, rfl, rfl, rfl, bind3 (fun _ _ _ => rfl) rfl⟩ rfl (by kernel_rfl) (exs_cons (ex_if_f ((tr_cmp (ev_name rfl) ev_int cmp_int_eq).eq (by decide)) exs_nil) (exs_cons (ex_if_f ((tr_cmp (ev_name rfl) ev_int cmp_int_eq).eq (by decide)) exs_nil) (exs_cons (ex_if_f ((tr_cmp (ev_name rfl) ev_int cmp_int_eq).eq (by decide)) exs_nil) (exs_cons (ex_if_f ((tr_cmp (ev_name rfl) ev_int cmp_int_eq).eq (by decide)) exs_nil) (exs_cons (ex_if_f ((tr_cmp (ev_name rfl) ev_int cmp_int_eq).eq (by decide)) exs_nil) (exs_cons (ex_if_f ((tr_cmp (ev_name rfl) ev_int cmp_int_eq).eq (by decide)) exs_nil) (exs_cons (ex_if_f ((tr_cmp (ev_name rfl) ev_int cmp_int_eq).eq (by decide)) exs_nil) (exs_ret (ex_if_t ((tr_cmp (ev_name rfl) ev_int cmp_int_eq).eq (by decide)) (exs_ret (ex_ret (ev_call_def (gv_K (c := cx w mg mb) (v := .ref 98) (by kernel_rfl)) rfl rfl deed_args (c_mod hy) (by kernel_rfl) (by kernel_rfl)))))))))))))
theorem deed_8 {x y : Wv} : CallV (cx w mg mb) (n + 2) (.ref 198) [.int 20, x.d, y.d] (((wop 8 x y).getD (.i 0)).d) :=
  call_def (ps := noo) ⟨_, _, rfl, rfl, by kernel_rfl, rfl, rfl, rfl, rfl, rfl, bind3 (fun _ _ _ => rfl) rfl⟩ rfl (by kernel_rfl) (exs_cons (ex_if_f ((tr_cmp (ev_name rfl) ev_int cmp_int_eq).eq (by decide)) exs_nil) (exs_cons (ex_if_f ((tr_cmp (ev_name rfl) ev_int cmp_int_eq).eq (by decide)) exs_nil) (exs_cons (ex_if_f ((tr_cmp (ev_name rfl) ev_int cmp_int_eq).eq (by decide)) exs_nil) (exs_cons (ex_if_f ((tr_cmp (ev_name rfl) ev_int cmp_int_eq).eq (by decide)) exs_nil) (exs_cons (ex_if_f ((tr_cmp (ev_name rfl) ev_int cmp_int_eq).eq (by decide)) exs_nil) (exs_ret (ex_if_t ((tr_cmp (ev_name rfl) ev_int cmp_int_eq).eq (by decide)) (exs_ret (ex_ret (ev_call_def (gv_K (c := cx w mg mb) (v := .ref 35) (by kernel_rfl)) rfl rfl deed_args c_lt (by kernel_rfl) (by kernel_rfl)))))))))))
theorem deed_9 {x y : Wv} : CallV (cx w mg mb) (n + 2) (.ref 198) [.int 29, x.d, y.d] (((wop 9 x y).getD (.i 0)).d) :=
  call_def (ps := noo) ⟨_, _, rfl, rfl, by kernel_rfl, rfl, rfl, rfl, rfl, rfl, bind3 (fun _ _ _ => rfl) rfl⟩ rfl (by kernel_rfl) (exs_cons (ex_if_f ((tr_cmp (ev_name rfl) ev_int cmp_int_eq).eq (by decide)) exs_nil) (exs_cons (ex_if_f ((tr_cmp (ev_name rfl) ev_int cmp_int_eq).eq (by decide)) exs_nil) (exs_cons (ex_if_f ((tr_cmp (ev_name rfl) ev_int cmp_int_eq).eq (by decide)) exs_nil) (exs_cons (ex_if_f ((tr_cmp (ev_name rfl) ev_int cmp_int_eq).eq (by decide)) exs_nil) (exs_cons (ex_if_f ((tr_cmp (ev_name rfl) ev_int cmp_int_eq).eq (by decide)) exs_nil) (exs_cons (ex_if_f ((tr_cmp (ev_name rfl) ev_int cmp_int_eq).eq (by decide)) exs_nil) (exs_cons (ex_if_f ((tr_cmp (ev_name rfl) ev_int cmp_int_eq).eq (by decide)) exs_nil) (exs_cons (ex_if_f ((tr_cmp (ev_name rfl) ev_int cmp_int_eq).eq (by decide)) exs_nil) (exs_cons (ex_if_f ((tr_cmp (ev_name rfl) ev_int cmp_int_eq).eq (by decide)) exs_nil) (exs_cons (ex_if_f ((tr_cmp (ev_name rfl) ev_int cmp_int_eq).eq (by decide)) exs_nil) (exs_ret (ex_if_t ((tr_cmp (ev_name rfl) ev_int cmp_int_eq).eq (by decide)) (exs_ret (ex_ret (ev_call_def (gv_K (c := cx w mg mb) (v := .ref 42) (by kernel_rfl)) rfl rfl deed_args c_le (by kernel_rfl) (by kernel_rfl))))))))))))))))
theorem deed_10 {x y : Wv} : CallV (cx w mg mb) (n + 2) (.ref 198) [.int 27, x.d, y.d] (((wop 10 x y).getD (.i 0)).d) :=
  call_def (ps := noo) ⟨_, _, rfl, rfl, by kernel_rfl, rfl, rfl, rfl, rfl, rfl, bind3 (fun _ _ _ => rfl) rfl⟩ rfl (by kernel_rfl) (exs_cons (ex_if_f ((tr_cmp (ev_name rfl) ev_int cmp_int_eq).eq (by decide)) exs_nil) (exs_cons (ex_if_f ((tr_cmp (ev_name rfl) ev_int cmp_int_eq).eq (by decide)) exs_nil) (exs_cons (ex_if_f ((tr_cmp (ev_name rfl) ev_int cmp_int_eq).eq (by decide)) exs_nil) (exs_cons (ex_if_f ((tr_cmp (ev_name rfl) ev_int cmp_int_eq).eq (by decide)) exs_nil) (exs_cons (ex_if_f ((tr_cmp (ev_name rfl) ev_int cmp_int_eq).eq (by decide)) exs_nil) (exs_cons (ex_if_f ((tr_cmp (ev_name rfl) ev_int cmp_int_eq).eq (by decide)) exs_nil) (exs_cons (ex_if_f ((tr_cmp (ev_name rfl) ev_int cmp_int_eq).eq (by decide)) exs_nil) (exs_cons (ex_if_f ((tr_cmp (ev_name rfl) ev_int cmp_int_eq).eq (by decide)) exs_nil) (exs_ret (ex_if_t ((tr_cmp (ev_name rfl) ev_int cmp_int_eq).eq (by decide)) (exs_ret (ex_ret (ev_call_def (gv_K (c := cx w mg mb) (v := .ref 49) (by kernel_rfl)) rfl rfl deed_args c_eq (by kernel_rfl) (by kernel_rfl))))))))))))))
theorem deed_11 {x y : Wv} : CallV (cx w mg mb) (n + 2) (.ref 198) [.int 28, x.d, y.d] (((wop 11 x y).getD (.i 0)).d) :=
  call_def (ps := noo) ⟨_, _, rfl, rfl, by kernel_rfl, rfl, rfl, rfl, rfl, rfl, bind3 (fun _ _ _ => rfl) rfl⟩ rfl (by kernel_rfl) (exs_cons (ex_if_f ((tr_cmp (ev_name rfl) ev_int cmp_int_eq).eq (by decide)) exs_nil) (exs_cons (ex_if_f ((tr_cmp (ev_name rfl) ev_int cmp_int_eq).eq (by decide)) exs_nil) (exs_cons (ex_if_f ((tr_cmp (ev_name rfl) ev_int cmp_int_eq).eq (by decide)) exs_nil) (exs_cons (ex_if_f ((tr_cmp (ev_name rfl) ev_int cmp_int_eq).eq (by decide)) exs_nil) (exs_cons (ex_if_f ((tr_cmp (ev_name rfl) ev_int cmp_int_eq).eq (by decide)) exs_nil) (exs_cons (ex_if_f ((tr_cmp (ev_name rfl) ev_int cmp_int_eq).eq (by decide)) exs_nil) (exs_cons (ex_if_f ((tr_cmp (ev_name rfl) ev_int cmp_int_eq).eq (by decide)) exs_nil) (exs_cons (ex_if_f ((tr_cmp (ev_name rfl) ev_int cmp_int_eq).eq (by decide)) exs_nil) (exs_cons (ex_if_f ((tr_cmp (ev_name rfl) ev_int cmp_int_eq).eq (by decide)) exs_nil) (exs_ret (ex_if_t ((tr_cmp (ev_name rfl) ev_int cmp_int_eq).eq (by decide)) (exs_ret (ex_ret (ev_call_def (gv_K (c := cx w mg mb) (v := .ref 56) (by kernel_rfl)) rfl rfl deed_args c_ne (by kernel_rfl) (by kernel_rfl)))))))))))))))
theorem deed_12 {x y : Wv} : CallV (cx w mg mb) (n + 2) (.ref 198) [.int 21, x.d, y.d] (((wop 12 x y).getD (.i 0)).d) :=
  call_def (ps := noo) ⟨_, _, rfl, rfl, by kernel_rfl, rfl, rfl, rfl, rfl, rfl, bind3 (fun _ _ _ => rfl) rfl⟩ rfl (by kernel_rfl) (exs_cons (ex_if_f ((tr_cmp (ev_name rfl) ev_int cmp_int_eq).eq (by decide)) exs_nil) (exs_cons (ex_if_f ((tr_cmp (ev_name rfl) ev_int cmp_int_eq).eq (by decide)) exs_nil) (exs_cons (ex_if_f ((tr_cmp (ev_name rfl) ev_int cmp_int_eq).eq (by decide)) exs_nil) (exs_cons (ex_if_f ((tr_cmp (ev_name rfl) ev_int cmp_int_eq).eq (by decide)) exs_nil) (exs_cons (ex_if_f ((tr_cmp (ev_name rfl) ev_int cmp_int_eq).eq (by decide)) exs_nil) (exs_cons (ex_if_f ((tr_cmp (ev_name rfl) ev_int cmp_int_eq).eq (by decide)) exs_nil) (exs_ret (ex_if_t ((tr_cmp (ev_name rfl) ev_int cmp_int_eq).eq (by decide)) (exs_ret (ex_ret (ev_call_def (gv_K (c := cx w mg mb) (v := .ref 70) (by kernel_rfl)) rfl rfl deed_args c_gt (by kernel_rfl) (by kernel_rfl))))))))))))
theorem deed_13 {x y : Wv} : CallV (cx w mg mb) (n + 2) (.ref 198) [.int 30, x.d, y.d] (((wop 13 x y).getD (.i 0)).d) :=
  call_def (ps := noo) ⟨_, _, rfl, rfl, by kernel_rfl, rfl, rfl, rfl, rfl, rfl, bind3 (fun _ _ _ => rfl) rfl⟩ rfl (by kernel_rfl) (exs_cons (ex_if_f ((tr_cmp (ev_name rfl) ev_int cmp_int_eq).eq (by decide)) exs_nil) (exs_cons (ex_if_f ((tr_cmp (ev_name rfl) ev_int cmp_int_eq).eq (by decide)) exs_nil) (exs_cons (ex_if_f ((tr_cmp (ev_name rfl) ev_int cmp_int_eq).eq (by decide)) exs_nil) (exs_cons (ex_if_f ((tr_cmp (ev_name rfl) ev_int cmp_int_eq).eq (by decide)) exs_nil) (exs_cons (ex_if_f ((tr_cmp (ev_name rfl) ev_int cmp_int_eq).eq (by decide)) exs_nil) (exs_cons (ex_if_f ((tr_cmp (ev_name rfl) ev_int cmp_int_eq).eq (by decide)) exs_nil) (exs_cons (ex_if_f ((tr_cmp (ev_name rfl) ev_int cmp_int_eq).eq (by decide)) exs_nil) (exs_cons (ex_if_f ((tr_cmp (ev_name rfl) ev_int cmp_int_eq).eq (by decide)) exs_nil) (exs_cons (ex_if_f ((tr_cmp (ev_name rfl) ev_int cmp_int_eq).eq (by decide)) exs_nil) (exs_cons (ex_if_f ((tr_cmp (ev_name rfl) ev_int cmp_int_eq).eq (by decide)) exs_nil) (exs_cons (ex_if_f ((tr_cmp (ev_name rfl) ev_int cmp_int_eq).eq (by decide)) exs_nil) (exs_ret (ex_if_t ((tr_cmp (ev_name rfl) ev_int cmp_int_eq).eq (by decide)) (exs_ret (ex_ret (ev_call_def (gv_K (c := cx w mg mb) (v := .ref 63) (by kernel_rfl)) rfl rfl deed_args c_ge (by kernel_rfl) (by kernel_rfl)))))))))))))))))
theorem deedR_6 {x y : Wv} (hy : y.z = 0) : CallR (cx w mg mb) (n + 2) (.ref 198) [.int 47, x.d, y.d] :=
  call_fly (ps := noo) ⟨_, _, rfl, rfl, by kernel_rfl, rfl, rfl, rfl, rfl, rfl, bind3 (fun _ _ _ => rfl) rfl⟩ rfl (by kernel_rfl) (exs_cons (ex_if_f ((tr_cmp (ev_name rfl) ev_int cmp_int_eq).eq (by decide)) exs_nil) (exs_cons (ex_if_f ((tr_cmp (ev_name rfl) ev_int cmp_int_eq).eq (by decide)) exs_nil) (exs_cons (ex_if_f ((tr_cmp (ev_name rfl) ev_int cmp_int_eq).eq (by decide)) exs_nil) (exs_cons (ex_if_f ((tr_cmp (ev_name rfl) ev_int cmp_int_eq).eq (by decide)) exs_nil) (exs_cons (ex_if_f ((tr_cmp (ev_name rfl) ev_int cmp_int_eq).eq (by decide)) exs_nil) (exs_cons (ex_if_f ((tr_cmp (ev_name rfl) ev_int cmp_int_eq).eq (by decide)) exs_nil) (exs_cons (ex_if_f ((tr_cmp (ev_name rfl) ev_int cmp_int_eq).eq (by decide)) exs_nil) (exs_cons (ex_if_f ((tr_cmp (ev_name rfl) ev_int cmp_int_eq).eq (by decide)) exs_nil) (exs_cons (ex_if_f ((tr_cmp (ev_name rfl) ev_int cmp_int_eq).eq (by decide)) exs_nil) (exs_cons (ex_if_f ((tr_cmp (ev_name rfl) ev_int cmp_int_eq).eq (by decide)) exs_nil) (exs_cons (ex_if_f ((tr_cmp (ev_name rfl) ev_int cmp_int_eq).eq (by decide)) exs_nil) (exs_cons (ex_if_f ((tr_cmp (ev_name rfl) ev_int cmp_int_eq).eq (by decide)) exs_nil) (exs_cons (ex_if_f ((tr_cmp (ev_name rfl) ev_int cmp_int_eq).eq (by decide)) exs_nil) (exs_fly (ex_ret_fly (evF_ifexp ((tr_cmp (ev_name rfl) ev_int cmp_int_eq).eq (by decide)) (evF_call_def (gv_K (c := cx w mg mb) (v := .ref 91) (by kernel_rfl)) rfl rfl deed_args (r_floordiv hy) (by kernel_rfl) (by kernel_rfl))))))))))))))))))
theorem deedR_7 {x y : Wv} (hy : y.z = 0) : CallR (cx w mg mb) (n + 2) (.ref 198) [.int 24, x.d, y.d] :=
  call_fly (ps := noo) ⟨_, _, rfl, rfl, by kernel_rfl, rfl, rfl, rfl, rfl, rfl, bind3 (fun _ _ _ => rfl) rfl⟩ rfl (by kernel_rfl) (exs_cons (ex_if_f ((tr_cmp (ev_name rfl) ev_int cmp_int_eq).eq (by decide)) exs_nil) (exs_cons (ex_if_f ((tr_cmp (ev_name rfl) ev_int cmp_int_eq).eq (by decide)) exs_nil) (exs_cons (ex_if_f ((tr_cmp (ev_name rfl) ev_int cmp_int_eq).eq (by decide)) exs_nil) (exs_cons (ex_if_f ((tr_cmp (ev_name rfl) ev_int cmp_int_eq).eq (by decide)) exs_nil) (exs_cons (ex_if_f ((tr_cmp (ev_name rfl) ev_int cmp_int_eq).eq (by decide)) exs_nil) (exs_cons (ex_if_f ((tr_cmp (ev_name rfl) ev_int cmp_int_eq).eq (by decide)) exs_nil) (exs_cons (ex_if_f ((tr_cmp (ev_name rfl) ev_int cmp_int_eq).eq (by decide)) exs_nil) (exs_fly (ex_if_t ((tr_cmp (ev_name rfl) ev_int cmp_int_eq).eq (by decide)) (exs_fly (ex_ret_fly (evF_call_def (gv_K (c := cx w mg mb) (v := .ref 98) (by kernel_rfl)) rfl rfl deed_args (r_mod hy) (by kernel_rfl) (by kernel_rfl)))))))))))))
end Mine
end
section
open PySem PySem.W PyProof.Rows PySem.Calls
set_option linter.unusedSectionVars false
set_option linter.unusedVariables false
set_option maxRecDepth 100000
set_option maxHeartbeats 4000000
namespace Mine
variable [Bd]
variable {w : World} {mg mb : PySem.Str → Option Value} {n : Nat}
/-- one sign of a text -/
noncomputable def chr (x : PySem.Str) (i : Int) : PySem.Str := ⟨#[(x.cps[i.toNat]?).getD 0]⟩
theorem item_chr {c : Cx} {x : PySem.Str} {i : Int} (h0 : 0 ≤ i) (h1 : i < x.length) (hz : x.length ≤ 2 ^ 24) : Item c n (.str x) (.int i) (.str (chr x i)) := by
  refine item_str (by omega) (by omega) ?_
  have hn : ¬ i < 0 := by omega
  have hz' : i < (x.length : Int) := h1
  simp only [seqIndex?, if_neg hn, decide_eq_true h0, decide_eq_true hz', Bool.and_self, if_true, Option.bind_some]
  have hs : i.toNat < x.cps.size := by have : x.length = x.cps.size := rfl; omega
  rw [Array.getElem?_eq_getElem hs]; rfl
noncomputable def lword (l : List Int) (way : Int) : PySem.Str :=
  let m := way.fmod 3
  let a := (m + 1).fmod 3
  let b := (m + 2).fmod 3
  let letters : PySem.Str := if (l.any fun y => y == m) = true then (if (way.fdiv 12).fmod 2 = 0 then S "ABC" else S "def") else S "abc"
  let w1 := S "x" ++ chr letters m ++ S "y"
  let w2 := if ((l.any fun y => y == a) == ((way.fdiv 3).fmod 2 == 1)) = true then chr (S "abc") a ++ w1 else w1
  if ((l.any fun y => y == b) == ((way.fdiv 6).fmod 2 == 1)) = true then w2 ++ chr (S "abc") b else w2
theorem mod3 (i : Int) : 0 ≤ i.fmod 3 ∧ i.fmod 3 < 3 := ⟨Int.fmod_nonneg_of_pos _ (by decide), Int.fmod_lt_of_pos _ (by decide)⟩
theorem mod2 (i : Int) : i.fmod 2 = 0 ∨ i.fmod 2 = 1 := by
  have h1 := Int.fmod_nonneg_of_pos i (b := 2) (by decide)
  have h2 := Int.fmod_lt_of_pos i (b := 2) (by decide)
  omega
theorem chr_len (x : PySem.Str) (i : Int) : (chr x i).length = 1 := rfl
theorem ex_if_upd {c : Cx} {sc : Scope} {P : PySem.Str → Bool} {Γ : Ctx} {t : PySem.Expr} {b r : List PySem.Stmt} {p : Pos} {q : Bool} (x : PySem.Str) (d : D) (ht : Tr c n sc Γ t q) (h1 : q = true → Exs c n sc P Γ b (.next (upd Γ x d))) (h2 : q = false → Exs c n sc P Γ r (.next (upd Γ x d))) : Ex c n sc P Γ (.If t b r p) (.next (upd Γ x d)) := ex_if ht h1 h2
theorem str_len_app (a b : PySem.Str) : (a ++ b).length = a.length + b.length := by
  show (a.cps ++ b.cps).size = a.cps.size + b.cps.size
  rw [Array.size_append]
theorem c_word {l : List Int} {way : Int} : CallV (cx w mg mb) (n + 1) (.ref 179) [.list (intD l), .int way] (.str (lword l way)) := by
  have m3 := mod3 way
  have a3 := mod3 (way.fmod 3 + 1)
  have b3 := mod3 (way.fmod 3 + 2)
  have labc : (S "abc").length = 3 := by decide +kernel
  have lx : (S "x").length = 1 := by decide +kernel
  have ly : (S "y").length = 1 := by decide +kernel
  refine call_def (ps := [S "opens", S "way"]) ⟨_, _, rfl, rfl, by kernel_rfl, rfl, rfl, rfl, rfl, rfl, bind2 (fun _ _ => rfl) rfl⟩ rfl (by kernel_rfl) ?_
  refine exs_cons (ex_assign (ev_bin (ev_name rfl) ev_int (bin_mod_int (by decide)))) ?_
  refine exs_cons (ex_assign (ev_bin (ev_bin (ev_name rfl) ev_int bin_add_int) ev_int (bin_mod_int (by decide)))) ?_
  refine exs_cons (ex_assign (ev_bin (ev_bin (ev_name rfl) ev_int bin_add_int) ev_int (bin_mod_int (by decide)))) ?_
  -- the letters
  have hlet : ∀ {nn : Nat} {sc : Scope} {Γ : Ctx} {p1 p2 p3 p4 p5 p6 p7 p8 p9 p10 p11 p12 p13 : Pos} {k1 k2 k3 k4 k5 : Nat}, Γ (S "way") = some (.int way) → Γ (S "opens") = some (.list (intD l)) → Γ (S "middle") = some (.int (way.fmod 3)) →
      Ev (cx w mg mb) nn sc Γ true (.IfExp (.Compare (.Name (S "middle") p1) [.In] [.Name (S "opens") p2] p3) (.Subscript (.List [.Constant (.str (S "ABC")) k1 p4, .Constant (.str (S "def")) k2 p5] p6) (.BinOp (.BinOp (.Name (S "way") p7) .FloorDiv (.Constant (.int 12) k3 p8) p9) .Mod (.Constant (.int 2) k4 p10) p11) p12) (.Constant (.str (S "abc")) k5 p13) p13)
        (.str (if (l.any fun y => y == way.fmod 3) = true then (if (way.fdiv 12).fmod 2 = 0 then S "ABC" else S "def") else S "abc")) := by
    intro nn sc Γ p1 p2 p3 p4 p5 p6 p7 p8 p9 p10 p11 p12 p13 k1 k2 k3 k4 k5 e1 e2 e3
    refine ev_ifexp (tr_cmp (ev_name e3) (ev_name e2) cmp_in_ints) (fun h => ?_) (fun h => ?_)
    · rw [if_pos h]
      refine Ev.flat (ev_sub (ev_list (evs_cons ev_str (evs_cons ev_str evs_nil)) (by decide)) (ev_bin (ev_bin (ev_name e1) ev_int (bin_fdiv_int (by decide) (by decide))) ev_int (bin_mod_int (by decide))) (item_list (by have := mod2 (way.fdiv 12); omega) (by have := mod2 (way.fdiv 12); omega) ?_)) rfl
      rcases mod2 (way.fdiv 12) with q | q <;> rw [q] <;> rfl
    · rw [h]; exact ev_str
  refine exs_cons (ex_assign (hlet rfl rfl rfl)) ?_
  generalize hL : (if (l.any fun y => y == way.fmod 3) = true then (if (way.fdiv 12).fmod 2 = 0 then S "ABC" else S "def") else S "abc") = letters
  have hlen : letters.length = 3 := by rw [← hL]; split <;> (try split) <;> decide +kernel
  have hc1 : (chr letters (way.fmod 3)).length = 1 := rfl
  refine exs_cons (ex_assign (ev_bin (ev_bin ev_str (ev_sub (ev_name rfl) (ev_name rfl) (item_chr m3.1 (by rw [hlen]; exact m3.2) (by rw [hlen]; decide))) (bin_add_str (by rw [lx, hc1]; decide))) ev_str (bin_add_str (by rw [str_len_app, lx, hc1, ly]; decide)))) ?_
  generalize hW1 : (S "x" ++ chr letters (way.fmod 3) ++ S "y" : PySem.Str) = w1
  have hw1 : w1.length = 3 := by rw [← hW1, str_len_app, str_len_app, lx, hc1, ly]
  have ca : (chr (S "abc") ((way.fmod 3 + 1).fmod 3)).length = 1 := rfl
  have cb : (chr (S "abc") ((way.fmod 3 + 2).fmod 3)).length = 1 := rfl
  refine exs_cons (ex_if_upd (S "word") (.str (if ((l.any fun y => y == (way.fmod 3 + 1).fmod 3) == ((way.fdiv 3).fmod 2 == 1)) = true then chr (S "abc") ((way.fmod 3 + 1).fmod 3) ++ w1 else w1))
    (tr_cmp (ev_cmp (ev_name rfl) (ev_name rfl) cmp_in_ints) (ev_cmp (ev_bin (ev_bin (ev_name rfl) ev_int (bin_fdiv_int (by decide) (by decide))) ev_int (bin_mod_int (by decide))) ev_int cmp_int_eq) cmp_bool_eq) (fun h => ?_) (fun h => ?_)) ?_
  · rw [if_pos h]
    exact exs_cons (ex_assign (ev_bin (Ev.flat (ev_sub ev_str (ev_name rfl) (item_chr a3.1 (by rw [labc]; exact a3.2) (by rw [labc]; decide))) rfl) (ev_name rfl) (bin_add_str (by rw [ca, hw1]; decide)))) exs_nil
  · rw [if_neg (by rw [h]; decide)]
    exact exs_nil' (sub_upd rfl sub_rfl)
  generalize hW2 : (if ((l.any fun y => y == (way.fmod 3 + 1).fmod 3) == ((way.fdiv 3).fmod 2 == 1)) = true then chr (S "abc") ((way.fmod 3 + 1).fmod 3) ++ w1 else w1) = w2
  have hw2 : w2.length ≤ 4 := by rw [← hW2]; split <;> (try rw [str_len_app]) <;> omega
  refine exs_cons (ex_if_upd (S "word") (.str (if ((l.any fun y => y == (way.fmod 3 + 2).fmod 3) == ((way.fdiv 6).fmod 2 == 1)) = true then w2 ++ chr (S "abc") ((way.fmod 3 + 2).fmod 3) else w2))
    (tr_cmp (ev_cmp (ev_name rfl) (ev_name rfl) cmp_in_ints) (ev_cmp (ev_bin (ev_bin (ev_name rfl) ev_int (bin_fdiv_int (by decide) (by decide))) ev_int (bin_mod_int (by decide))) ev_int cmp_int_eq) cmp_bool_eq) (fun h => ?_) (fun h => ?_)) ?_
  · rw [if_pos h]
    exact exs_cons (ex_assign (ev_bin (ev_name rfl) (Ev.flat (ev_sub ev_str (ev_name rfl) (item_chr b3.1 (by rw [labc]; exact b3.2) (by rw [labc]; decide))) rfl) (bin_add_str (by rw [cb]; unfold sizeLine; omega)))) exs_nil
  · rw [if_neg (by rw [h]; decide)]
    exact exs_nil' (sub_upd rfl sub_rfl)
  refine exs_ret (ex_ret (Ev.flat (Ev.eq (ev_name rfl) ?_) rfl))
  unfold lword
  dsimp only
  rw [hL, hW1, hW2]
end Mine
end
section
open PySem PySem.W PyProof.Rows PySem.Calls
set_option linter.unusedSectionVars false
set_option linter.unusedVariables false
set_option maxRecDepth 100000
set_option maxHeartbeats 4000000
namespace Mine
variable [Bd]
variable {w : World} {mg mb : PySem.Str → Option Value} {n : Nat}
theorem cmp_is_bi {c : Cx} {p : Bool} {i : Int} : Cmp c n .Is (.bool p) (.int i) false := by
  intro A s E Q va vb as bs o W ra rb h
  cases ra; cases rb
  exact wpAny_is_other rfl (fun q => nomatch q) (h s (.rfl' s))
theorem c_indexOf {bs : List Bool} {m : Nat} (hm : bs[m]? = some true) (hl : ∀ k, k < m → bs[k]? = some false) : CallV (cx w mg mb) (n + 1) (.ref 133) [.list (boolD bs), .int 1] (.int m) := by
  refine call_def (ps := ab) ⟨_, _, rfl, rfl, by kernel_rfl, rfl, rfl, rfl, rfl, rfl, bind2 (fun _ _ => rfl) rfl⟩ rfl (by kernel_rfl) ?_
  refine exs_ret (ex_for_enum (m := m) (b := true) (gv_B (by kernel_rfl) (by kernel_rfl) (by decide +kernel)) rfl rfl (by decide +kernel) rfl rfl (fun k b hk hb => ?_) hm ?_ (by kernel_rfl) (by decide +kernel) (by decide +kernel))
  · rw [hl k hk] at hb; cases hb
    refine exs_cons (ex_if_f ?_ exs_nil) exs_nil
    exact (tr_or2 (tr_cmp (ev_name rfl) (ev_name rfl) cmp_is_bi) fun _ => tr_cmp (ev_name rfl) (ev_name rfl) (wc_eq (x := .b false) (y := .i 1))).eq rfl
  · refine exs_ret (ex_if_t ?_ (exs_ret (ex_ret (Ev.flat (ev_name rfl) rfl))))
    exact (tr_or2 (tr_cmp (ev_name rfl) (ev_name rfl) cmp_is_bi) fun _ => tr_cmp (ev_name rfl) (ev_name rfl) (wc_eq (x := .b true) (y := .i 1))).eq rfl
end Mine
end
section
open PySem PySem.W PyProof.Rows PySem.Calls
set_option linter.unusedSectionVars false
set_option linter.unusedVariables false
set_option maxRecDepth 100000
set_option maxHeartbeats 4000000
namespace Mine
variable [Bd]
variable {w : World} {mg mb : PySem.Str → Option Value} {n : Nat}
noncomputable def own : List Int := [16, 1, 20, 115, 7, -3, 12, 50, -8]
noncomputable def drawsOf (l : List Int) : List Int := (List.range 9).map fun k : Nat => own.getD k 0 + (slcS (some (k : Int)) none (some 9) l).sum
theorem slcS_map {α β : Type} (f : α → β) (lo hi st : Option Int) (l : List α) : slcS lo hi st (l.map f) = (slcS lo hi st l).map f := by
  unfold slcS
  rw [List.length_map, List.map_filterMap]
  refine congrArg (fun g => List.filterMap g _) (funext fun i => ?_)
  simp
theorem c_draws {l : List Int} (hz : l.length ≤ sizeLine) : CallV (cx w mg mb) (n + 1) (.ref 162) [.list (intD l)] (.list (intD (drawsOf l))) := by
  refine call_def (ps := [S "script"]) ⟨_, _, rfl, rfl, by kernel_rfl, rfl, rfl, rfl, rfl, rfl, bind1 (fun _ => rfl) rfl⟩ rfl (by kernel_rfl) ?_
  refine exs_cons (ex_assign (d := .list (intD own)) (ev_list (evs_cons ev_int (evs_cons ev_int (evs_cons ev_int (evs_cons ev_int (evs_cons ev_int (evs_cons (ev_neg ev_int) (evs_cons ev_int (evs_cons ev_int (evs_cons (ev_neg ev_int) evs_nil))))))))) (by decide))) ?_
  refine exs_ret (ex_ret (Ev.eq (ev_comp (ds := rng 9) (fun i => upd emp (S "k") (.int i)) (fun _ => true) (fun i => .int (own.getD i 0 + (slcS (some (i : Int)) none (some 9) l).sum)) (itsrc_range (k := 9) (gv_B (by kernel_rfl) (by kernel_rfl) (by decide +kernel)) ev_int (by decide) (by decide) (by kernel_rfl)) (by kernel_rfl) ?_ (by decide) (by intro _ _; rfl) (.inl ⟨_, _, rfl⟩) (fun i d hd => ?_) (fun i d hd => ?_) (fun i d hd _ => ?_) (fun i d hd _ => ?_)) ?_))
  · exact ⟨⟨_, rfl⟩, ⟨_, rfl⟩, trivial⟩
  · have hi : i < 9 := by
      have := (List.getElem?_eq_some_iff.mp hd).1
      rw [rng_length] at this; exact this
    rw [rng_get hi] at hd; cases hd
    exact .loc (by kernel_rfl)
  · exact rfl
  · have hi : i < 9 := by
      have := (List.getElem?_eq_some_iff.mp hd).1
      rw [rng_length] at this; exact this
    refine ev_bin (ev_sub (ev_name rfl) (ev_name rfl) (item_list (by omega) (by omega) ?_)) (ev_call_builtin (gv_B (by kernel_rfl) (by kernel_rfl) (by decide +kernel)) (evs_cons ((ev_slice_step (lo := some (i : Int)) (hi := none) (ev_name rfl) (part_some (ev_name rfl)) part_none ev_int (by decide) flats_intD (by simpa [intD] using hz)).eq ?_) evs_nil) call_sum (by kernel_rfl) (by decide +kernel)) bin_add_int
    · show (intD own)[i]? = some (.int (own.getD i 0))
      have : i < own.length := hi
      simp [intD, this]
    · show D.list _ = .list (intD _)
      rw [slcS_map]
  · rfl
  · rfl
end Mine
end
section
open PySem PySem.W PyProof.Rows PySem.Calls
set_option linter.unusedSectionVars false
set_option linter.unusedVariables false
set_option maxRecDepth 100000
set_option maxHeartbeats 4000000
namespace Mine
variable [Bd]
variable {w : World} {mg mb : PySem.Str → Option Value} {n : Nat}
/-- x = y = a flat value -/
theorem ex_assign2 {c : Cx} {sc : Scope} {Γ : Ctx} {P : PySem.Str → Bool} {x y : PySem.Str} {e : PySem.Expr} {p1 p2 p : Pos} {d : D} (he : Ev c n sc Γ false e d) (hf : flat d = true) (hx : sc.names.lookup x = some .local ∨ sc.names.lookup x = some .cell := by decide +kernel) (hy : sc.names.lookup y = some .local ∨ sc.names.lookup y = some .cell := by decide +kernel) :
    Ex c n sc P Γ (.Assign [.Name x p1, .Name y p2] e p) (.next (upd (upd Γ x d) y d)) := by
  intro env A s0 s E Q F ok W V h
  refine wpAny_Assign_two (he env A s E _ F ok (V.wd W) V.toVars fun v as s₁ k₁ r₁ _ => ?_) rfl rfl
  obtain rfl := r₁.flat hf
  refine wpAny_assign_Name (store_flat (c := c) (V.grow k₁) r₁ F.kind (kind_fm F hx) fun s3 V3 c3 => ?_)
  exact wpAny_assign_Name (store_flat (c := c) V3 (r₁.carry (c3 []) fun _ h => h) F.kind (kind_fm F hy) fun s4 V4 c4 => h s4 V4)
/-- how long the two agree -/
noncomputable def cpre : List Nat → List Nat → Nat
  | x :: a, y :: b => if x = y then cpre a b + 1 else 0
  | _, _ => 0
/-- one step of the inner loop: distance, result, minimum, row -/
structure LS where
  dist : Int
  res : Int
  mini : Int
  row : List Int
noncomputable def ch1 (x : Nat) : PySem.Str := ⟨#[x]⟩
noncomputable def imin (a b : Int) : Int := if b < a then b else a
noncomputable def istep (bc : Nat) (a : List Nat) (st : LS) (k : Nat) : LS :=
  let sub := st.dist + subst (ch1 bc) (ch1 (a.getD k 0))
  let d := st.row.getD k 0
  let r := imin (imin st.res d + 2) sub
  ⟨d, r, if r < st.mini then r else st.mini, st.row.set k r⟩
noncomputable def inner (bc : Nat) (a : List Nat) (st : LS) : Nat → LS
  | 0 => st
  | k + 1 => istep bc a (inner bc a st k) k
/-- the outer loop up to turn k: row and result, if no turn broke off -/
noncomputable def outer (a b : List Nat) (mx : Int) : Nat → Option (List Int × Int)
  | 0 => some ((List.range a.length).map fun i : Nat => 2 + (i : Int) * 2, 0)
  | k + 1 => match outer a b mx k with
    | none => none
    | some (row, _) =>
      let st := inner (b.getD k 0) a ⟨2 * k, 2 * k, 9223372036854775807, row⟩ a.length
      if st.mini > mx then none else some (st.row, st.res)
noncomputable def lev (a b : List Nat) (mx : Int) : Int :=
  if a = b then 0 else
  let p := cpre a b
  let a1 := a.drop p
  let b1 := b.drop p
  let q := cpre a1.reverse b1.reverse
  let a2 := a1.take (a1.length - q)
  let b2 := b1.take (b1.length - q)
  if a2 = [] ∨ b2 = [] then 2 * ((a2.length : Int) + b2.length) else
  let a3 := if b2.length < a2.length then b2 else a2
  let b3 := if b2.length < a2.length then a2 else b2
  if ((b3.length : Int) - a3.length) * 2 > mx then mx + 1 else
  match outer a3 b3 mx b3.length with
  | none => mx + 1
  | some (_, r) => r
noncomputable def low1 (x : Nat) : Prop := Builtin.Str.tooLong (Txt.lower (ch1 x)).length = false
/-- the names of the outer loop -/
noncomputable def lG (a b : List Nat) (mx : Int) : Ctx := upd (upd (upd emp (S "a") (.str (sOf a))) (S "b") (.str (sOf b))) (S "max_cost") (.int mx)
noncomputable def iG (a b : List Nat) (mx : Int) (bc : Nat) (j : Int) (st : LS) : Ctx :=
  upd (upd (upd (upd (upd (upd (lG a b mx) (S "bchar") (.str (ch1 bc))) (S "bindex") (.int j)) (S "distance") (.int st.dist)) (S "result") (.int st.res)) (S "minimum") (.int st.mini)) (S "row") (.list (intD st.row))
theorem item_ch1 {c : Cx} {a : List Nat} {k : Nat} (hk : k < a.length) (hz : a.length ≤ 2 ^ 24) : Item c n (.str (sOf a)) (.int k) (.str (ch1 (a.getD k 0))) := by
  have h : (sOf a).length = a.length := by show a.toArray.size = a.length; simp
  have := item_chr (c := c) (n := n) (x := sOf a) (i := (k : Int)) (by omega) (by rw [h]; omega) (by rw [h]; exact hz)
  have e : chr (sOf a) (k : Int) = ch1 (a.getD k 0) := by
    show (⟨#[(a.toArray[(k : Int).toNat]?).getD 0]⟩ : PySem.Str) = ⟨#[a.getD k 0]⟩
    have : (k : Int).toNat = k := by omega
    rw [this]
    simp [List.getD_eq_getElem?_getD]
  rw [e] at this; exact this
end Mine
end
section
open PySem PySem.W PyProof.Rows PySem.Calls
set_option linter.unusedSectionVars false
set_option linter.unusedVariables false
set_option maxRecDepth 100000
set_option maxHeartbeats 4000000
namespace Mine
variable [Bd]
variable {w : World} {mg mb : PySem.Str → Option Value} {n : Nat}
noncomputable abbrev abm : List PySem.Str := [S "a", S "b", S "max_cost"]
theorem sOf_len (a : List Nat) : (sOf a).length = a.length := by show a.toArray.size = a.length; simp
theorem sOf_inj {a b : List Nat} (h : sOf a = sOf b) : a = b := by
  have := congrArg cps h
  rw [cps_sOf, cps_sOf] at this; exact this
theorem sOf_beq (a b : List Nat) : (sOf a == sOf b) = decide (a = b) := by
  by_cases h : a = b
  · subst h; simp
  · have : sOf a ≠ sOf b := fun q => h (sOf_inj q)
    rw [decide_eq_false h]
    exact beq_eq_false_iff_ne.mpr this
theorem cpre_lt : ∀ {a b : List Nat} {i : Nat}, i < cpre a b → i < a.length ∧ i < b.length ∧ a.getD i 0 = b.getD i 0
  | [], _, i, h => by simp [cpre] at h
  | _ :: _, [], i, h => by simp [cpre] at h
  | x :: a, y :: b, i, h => by
    unfold cpre at h
    by_cases e : x = y
    · rw [if_pos e] at h
      cases i with
      | zero => exact ⟨by simp, by simp, by simpa using e⟩
      | succ i =>
        obtain ⟨h1, h2, h3⟩ := cpre_lt (a := a) (b := b) (i := i) (by omega)
        exact ⟨by simp; omega, by simp; omega, by simpa using h3⟩
    · rw [if_neg e] at h; omega
theorem cpre_le : ∀ {a b : List Nat}, cpre a b ≤ a.length ∧ cpre a b ≤ b.length ∧ (cpre a b < a.length → cpre a b < b.length → a.getD (cpre a b) 0 ≠ b.getD (cpre a b) 0)
  | [], _ => by simp [cpre]
  | _ :: _, [] => by simp [cpre]
  | x :: a, y :: b => by
    unfold cpre
    by_cases e : x = y
    · rw [if_pos e]
      obtain ⟨h1, h2, h3⟩ := cpre_le (a := a) (b := b)
      refine ⟨by simp; omega, by simp; omega, fun q1 q2 => ?_⟩
      have := h3 (by simp at q1; omega) (by simp at q2; omega)
      simpa using this
    · rw [if_neg e]
      exact ⟨by simp, by simp, fun _ _ => by simpa using e⟩
theorem ch1_beq (x y : Nat) : (ch1 x == ch1 y) = decide (x = y) := by
  by_cases h : x = y
  · subst h; simp
  · have : ch1 x ≠ ch1 y := fun q => h (by
      have := congrArg (fun s : PySem.Str => s.cps[0]?) q
      simpa [ch1] using this)
    rw [decide_eq_false h]
    exact beq_eq_false_iff_ne.mpr this
theorem slcT_from {a : List Nat} {i : Nat} (h : i ≤ a.length) : slcT (some (i : Int)) none (sOf a) = sOf (a.drop i) := by
  unfold slcT slc
  rw [cps_sOf]
  have e1 : clp (some (i : Int)) 0 a.length = i := by unfold clp; dsimp only; rw [if_neg (by omega)]; omega
  have e2 : clp none a.length a.length = a.length := rfl
  rw [e1, e2, List.take_of_length_le (by rw [List.length_drop]; omega)]
theorem gMove {c : Cx} {sc : Scope} {Γ : Ctx} {p : Pos} {fr : Bool} (hk : sc.names.lookup (S "_MOVE_COST") = some .globalImplicit := by kernel_rfl) : Ev (cx w mg mb) n sc Γ fr (.Name (S "_MOVE_COST") p) (.int 2) :=
  ev_glob (gv_K (c := cx w mg mb) (v := .int 2 191) (by kernel_rfl)) (fun _ => .int _ _) hk (by kernel_rfl)
theorem upd_upd {Γ : Ctx} {x : PySem.Str} {d e : D} : upd (upd Γ x d) x e = upd Γ x e := by
  funext y
  unfold upd
  by_cases h : y = x <;> simp [h]
theorem ev_from {c : Cx} {sc : Scope} {Γ : Ctx} {fr : Bool} {v le : PySem.Expr} {p q : Pos} {a : List Nat} {i : Nat} (hv : Ev c n sc Γ false v (.str (sOf a))) (hl : Ev c n sc Γ false le (.int (i : Nat))) (hi : i ≤ a.length) (ha : a.length ≤ 8) : Ev c n sc Γ fr (.Subscript v (.Slice (some le) none none q) p) (.str (sOf (a.drop i))) :=
  (ev_slice_str (lo := some (i : Int)) (hi := none) hv (part_some hl) part_none (by rw [sOf_len]; unfold sizeLine; omega)).eq (by rw [slcT_from hi])
theorem tr_from {c : Cx} {sc : Scope} {Γ : Ctx} {v le : PySem.Expr} {p q : Pos} {a : List Nat} {i : Nat} (hv : Ev c n sc Γ false v (.str (sOf a))) (hl : Ev c n sc Γ false le (.int (i : Nat))) (hi : i ≤ a.length) (ha : a.length ≤ 8) : Tr c n sc Γ (.Subscript v (.Slice (some le) none none q) p) (decide (i < a.length)) :=
  (tr_val (ev_from hv hl hi ha) (tru_str (by rw [sOf_len, List.length_drop]; omega))).eq (by rw [sOf_len, List.length_drop]; exact decide_eq_decide.mpr (by omega))
theorem mul2L {b : Int} : IntMulOk 2 b := by
  unfold IntMulOk
  have : decide (Builtin.Int.intBits 2 > shortFactorBits) = false := by decide +kernel
  rw [this]; simp
theorem mul2R {b : Int} : IntMulOk b 2 := by
  unfold IntMulOk
  have : decide (Builtin.Int.intBits 2 > shortFactorBits) = false := by decide +kernel
  rw [this]; simp
theorem slcT_upto {a : List Nat} {i : Nat} (h : i ≤ a.length) : slcT none (if i = 0 then none else some (-(i : Int))) (sOf a) = sOf (a.take (a.length - i)) := by
  unfold slcT slc
  rw [cps_sOf]
  have e1 : clp none 0 a.length = 0 := rfl
  have e2 : clp (if i = 0 then none else some (-(i : Int))) a.length a.length = a.length - i := by
    by_cases q : i = 0
    · rw [if_pos q]; show a.length = a.length - i; omega
    · rw [if_neg q]; unfold clp; dsimp only; rw [if_pos (by omega)]; omega
  rw [e1, e2]; simp
theorem ev_upto {c : Cx} {sc : Scope} {Γ : Ctx} {fr : Bool} {v le : PySem.Expr} {k : Nat} {p q p1 p2 : Pos} {a : List Nat} {i : Nat} (hv : Ev c n sc Γ false v (.str (sOf a))) (hl : Ev c n sc Γ false le (.int (-(i : Int)))) (hi : i ≤ a.length) (ha : a.length ≤ 8) : Ev c n sc Γ fr (.Subscript v (.Slice none (some (.BoolOp .Or [le, .Constant .none k p1] p2)) none q) p) (.str (sOf (a.take (a.length - i)))) := by
  refine (ev_slice_str (lo := none) (hi := if i = 0 then none else some (-(i : Int))) hv part_none (part_of ?_) (by rw [sOf_len]; unfold sizeLine; omega)).eq (by rw [slcT_upto hi])
  refine ev_or2 (a := .int (-(i : Int))) (b := -(i : Int) != 0) hl tru_int (fun h => ?_) (fun h => ?_)
  · have : i ≠ 0 := by intro q; subst q; exact absurd h (by decide)
    rw [if_neg this]; rfl
  · have : i = 0 := by
      by_cases q : i = 0
      · exact q
      · exact absurd h (by simp; omega)
    rw [if_pos this]; exact ev_none
theorem tr_upto {c : Cx} {sc : Scope} {Γ : Ctx} {v le : PySem.Expr} {k : Nat} {p q p1 p2 : Pos} {a : List Nat} {i : Nat} (hv : Ev c n sc Γ false v (.str (sOf a))) (hl : Ev c n sc Γ false le (.int (-(i : Int)))) (hi : i ≤ a.length) (ha : a.length ≤ 8) : Tr c n sc Γ (.Subscript v (.Slice none (some (.BoolOp .Or [le, .Constant .none k p1] p2)) none q) p) (decide (i < a.length)) :=
  (tr_val (ev_upto hv hl hi ha) (tru_str (by rw [sOf_len, List.length_take]; omega))).eq (by rw [sOf_len, List.length_take]; exact decide_eq_decide.mpr (by omega))
theorem item_chN {c : Cx} {a : List Nat} {k : Nat} (hk : k < a.length) (hz : a.length ≤ 2 ^ 24) : Item c n (.str (sOf a)) (.int (-(k : Int) - 1)) (.str (ch1 (a.reverse.getD k 0))) := by
  have hl : (sOf a).length = a.length := sOf_len a
  refine item_str (by omega) (by omega) ?_
  have hn : -(k : Int) - 1 < 0 := by omega
  have e1 : seqIndex? (-(k : Int) - 1) (sOf a).length = some (a.length - 1 - k) := by
    rw [hl]; unfold seqIndex?
    rw [if_pos hn]
    have q1 : 0 ≤ -(k : Int) - 1 + (a.length : Int) := by omega
    have q2 : -(k : Int) - 1 + (a.length : Int) < (a.length : Int) := by omega
    simp only [decide_eq_true q1, decide_eq_true q2, Bool.and_self, if_true]
    congr 1; omega
  rw [e1]
  show (a.toArray)[a.length - 1 - k]? = some (a.reverse.getD k 0)
  rw [List.getElem?_toArray, List.getD_eq_getElem?_getD, List.getElem?_reverse hk, List.getElem?_eq_getElem (by omega)]
  rfl
theorem low1_sub {a b : List Nat} (h : ∀ x ∈ a, low1 x) (q : ∀ x ∈ b, x ∈ a) : ∀ x ∈ b, low1 x := fun x e => h x (q x e)
noncomputable def brk : Option Ctx → D → Out
  | some Γ, _ => .next Γ
  | none, r => .ret r
theorem brk_calm {o : Option Ctx} {r : D} : (brk o r).calm = true := by cases o <;> rfl
theorem ex_for_brk {c : Cx} {sc : Scope} {P : PySem.Str → Bool} {Γ : Ctx} {e : PySem.Expr} {x : PySem.Str} {px p : Pos} {b : List PySem.Stmt} {ds : List D} (hs : Src c n sc P Γ e ds) (f : Nat → Option Ctx) (r : D) (h0 : f 0 = some Γ)
    (hx : sc.names.lookup x = some .local ∨ sc.names.lookup x = some .cell) (hfs : ∀ env x, foldedSetIterable e env x = pure x) (hmono : ∀ i, f i = none → f (i + 1) = none)
    (hb : ∀ i d Γi, ds[i]? = some d → f i = some Γi → Exs c n sc P (upd Γi x d) b (brk (f (i + 1)) r)) :
    Ex c n sc P Γ (.For (.Name x px) e b [] p) (brk (f ds.length) r) := by
  have key : ∀ m, (∃ Γm, f m = some Γm) ∨ ∃ k, k < m ∧ (∀ i, i ≤ k → ∃ Γi, f i = some Γi) ∧ f (k + 1) = none := by
    intro m
    induction m with
    | zero => exact .inl ⟨_, h0⟩
    | succ m ih =>
      rcases ih with ⟨Γm, hm⟩ | ⟨k, hk, h1, h2⟩
      · cases q : f (m + 1) with
        | some g => exact .inl ⟨g, rfl⟩
        | none =>
          refine .inr ⟨m, by omega, fun i hi => ?_, q⟩
          cases qi : f i with
          | some g => exact ⟨g, rfl⟩
          | none =>
            have : ∀ d, f (i + d) = none := by
              intro d; induction d with
              | zero => exact qi
              | succ d ih => exact hmono _ ih
            have := this (m - i)
            rw [show i + (m - i) = m by omega, hm] at this; cases this
      · exact .inr ⟨k, by omega, h1, h2⟩
  have back : ∀ {i m : Nat}, i ≤ m → (∃ Γm, f m = some Γm) → ∃ Γi, f i = some Γi := by
    intro i m him ⟨g, hg⟩
    cases qi : f i with
    | some g => exact ⟨g, rfl⟩
    | none =>
      have : ∀ d, f (i + d) = none := by
        intro d; induction d with
        | zero => exact qi
        | succ d ih => exact hmono _ ih
      have := this (m - i)
      rw [show i + (m - i) = m by omega, hg] at this; cases this
  have none_on : ∀ {i m : Nat}, i ≤ m → f i = none → f m = none := by
    intro i m him qi
    have : ∀ d, f (i + d) = none := by
      intro d; induction d with
      | zero => exact qi
      | succ d ih => exact hmono _ ih
    have := this (m - i)
    rwa [show i + (m - i) = m by omega] at this
  rcases key ds.length with ⟨Γm, hm⟩ | ⟨k, hk, h1, h2⟩
  · refine ex_for_gen hs (fun i => (f i).getD emp) (by show (f 0).getD emp = Γ; rw [h0]; rfl) ds.length (Nat.le_refl _) [] _ brk_calm hx hfs (fun i d hi hd => ?_) (.inl ⟨rfl, ?_⟩)
    · obtain ⟨g, hg⟩ := back (Nat.le_of_lt hi) ⟨Γm, hm⟩
      obtain ⟨g', hg'⟩ := back hi ⟨Γm, hm⟩
      have := hb i d g hd hg
      rw [hg'] at this; rw [hg, hg']; exact this
    · rw [hm]; exact exs_nil
  · obtain ⟨g, hg⟩ := h1 k (Nat.le_refl _)
    refine ex_for_gen hs (fun i => (f i).getD emp) (by show (f 0).getD emp = Γ; rw [h0]; rfl) k (Nat.le_of_lt hk) [] _ brk_calm hx hfs (fun i d hi hd => ?_) (.inr ⟨r, _, ?_, List.getElem?_eq_getElem hk, ?_⟩)
    · obtain ⟨g, hg⟩ := h1 i (by omega)
      obtain ⟨g', hg'⟩ := h1 (i + 1) (by omega)
      have := hb i d g hd hg
      rw [hg'] at this; rw [hg, hg']; exact this
    · rw [none_on hk h2]; rfl
    · have := hb k _ g (List.getElem?_eq_getElem hk) hg
      rw [h2] at this; rw [hg]; exact this
theorem exs_brk {c : Cx} {sc : Scope} {P : PySem.Str → Bool} {Γ : Ctx} {st : PySem.Stmt} {rest : List PySem.Stmt} {o : Option Ctx} {r r' : D} (h1 : Ex c n sc P Γ st (brk o r)) (h2 : ∀ Γ', o = some Γ' → Exs c n sc P Γ' rest (.ret r')) (h3 : o = none → r = r') : Exs c n sc P Γ (st :: rest) (.ret r') := by
  cases o with
  | none => cases h3 rfl; exact exs_ret h1
  | some g => exact exs_cons h1 (h2 g rfl)
theorem intD_set {l : List Int} {k : Nat} {r : Int} : (intD l).set k (.int r) = intD (l.set k r) := by
  simp [intD, List.map_set]
theorem intD_get {l : List Int} {k : Nat} (h : k < l.length) : (intD l)[k]? = some (.int (l.getD k 0)) := by
  simp [intD, h]
theorem inner_len {bc : Nat} {a : List Nat} {st : LS} : ∀ k, (inner bc a st k).row.length = st.row.length
  | 0 => rfl
  | k + 1 => by show ((inner bc a st k).row.set k _).length = _; rw [List.length_set]; exact inner_len k
theorem outer_len {a b : List Nat} {mx : Int} : ∀ {k : Nat} {row : List Int} {r : Int}, outer a b mx k = some (row, r) → row.length = a.length
  | 0, row, r, h => by cases h; simp
  | k + 1, row, r, h => by
    unfold outer at h
    cases q : outer a b mx k with
    | none => rw [q] at h; cases h
    | some p =>
      obtain ⟨row', r'⟩ := p
      rw [q] at h
      dsimp only at h
      split at h
      · cases h
      · cases h; rw [inner_len]; exact outer_len q
noncomputable def oG (a b : List Nat) (mx : Int) (row : List Int) (r : Int) : Ctx := upd (upd (lG a b mx) (S "row") (.list (intD row))) (S "result") (.int r)
theorem range8 : ∀ k : Nat, k ≤ 8 → Builtin.Range.small 2 (2 * ((k : Int) + 1)) 2 = true ∧ Builtin.Range.rangeSize 2 (2 * ((k : Int) + 1)) 2 = (k : Int) := by
  intro k hk
  have : k = 0 ∨ k = 1 ∨ k = 2 ∨ k = 3 ∨ k = 4 ∨ k = 5 ∨ k = 6 ∨ k = 7 ∨ k = 8 := by omega
  rcases this with rfl | rfl | rfl | rfl | rfl | rfl | rfl | rfl | rfl <;> decide +kernel
theorem c_lev {a b : List Nat} {mx : Int} (ha : a.length ≤ 8) (hb : b.length ≤ 8) (hla : ∀ x ∈ a, low1 x) (hlb : ∀ x ∈ b, low1 x) : CallV (cx w mg mb) (n + 2) (.ref 28) [.str (sOf a), .str (sOf b), .int mx] (.int (lev a b mx)) := by
  refine call_def (ps := abm) ⟨_, _, rfl, rfl, by kernel_rfl, rfl, rfl, rfl, rfl, rfl, bind3 (fun _ _ _ => rfl) rfl⟩ rfl (by kernel_rfl) ?_
  unfold lev
  by_cases hab : a = b
  · rw [if_pos hab]
    exact exs_ret (ex_if_t ((tr_cmp (ev_name rfl) (ev_name rfl) cmp_str_eq).eq (by rw [sOf_beq]; exact decide_eq_true hab)) (exs_ret (ex_ret ev_int)))
  rw [if_neg hab]
  dsimp only
  refine exs_cons (ex_if_f ((tr_cmp (ev_name rfl) (ev_name rfl) cmp_str_eq).eq (by rw [sOf_beq]; exact decide_eq_false hab)) exs_nil) ?_
  refine exs_cons (ex_assign ev_int) ?_
  obtain ⟨p1, p2, p3⟩ := cpre_le (a := a) (b := b)
  refine exs_cons (ex_while (fun i => upd (binds abm [.str (sOf a), .str (sOf b), .int mx]) (S "pre") (.int (i : Nat))) (cpre a b) rfl (fun i hi => ?_) (fun i hi => ?_) ?_) ?_
  · obtain ⟨h1, h2, h3⟩ := cpre_lt hi
    refine (tr_and3 (tr_from (ev_name rfl) (ev_name rfl) (by omega) ha) (fun _ => tr_from (ev_name rfl) (ev_name rfl) (by omega) hb) (fun _ _ => tr_cmp (ev_sub (ev_name rfl) (ev_name rfl) (item_ch1 h1 (by omega))) (ev_sub (ev_name rfl) (ev_name rfl) (item_ch1 h2 (by omega))) cmp_str_eq)).eq ?_
    rw [ch1_beq]
    simp only [decide_eq_true h1, decide_eq_true h2, decide_eq_true h3, Bool.and_self]
  · exact exs_cons (ex_aug_add rfl ev_int) (exs_nil.eq (by rw [upd_upd]; rfl))
  · by_cases q1 : cpre a b < a.length
    · by_cases q2 : cpre a b < b.length
      · refine (tr_and3 (tr_from (ev_name rfl) (ev_name rfl) (by omega) ha) (fun _ => tr_from (ev_name rfl) (ev_name rfl) (by omega) hb) (fun _ _ => tr_cmp (ev_sub (ev_name rfl) (ev_name rfl) (item_ch1 q1 (by omega))) (ev_sub (ev_name rfl) (ev_name rfl) (item_ch1 q2 (by omega))) cmp_str_eq)).eq ?_
        rw [ch1_beq, decide_eq_false (p3 q1 q2)]
        simp
      · refine (tr_and3 (d := false) (tr_from (ev_name rfl) (ev_name rfl) (by omega) ha) (fun _ => tr_from (ev_name rfl) (ev_name rfl) (by omega) hb) (fun _ h => absurd (of_decide_eq_true h) q2)).eq (by simp)
    · refine (tr_and3 (b := false) (d := false) (tr_from (ev_name rfl) (ev_name rfl) (by omega) ha) (fun h => absurd (of_decide_eq_true h) q1) (fun h _ => absurd (of_decide_eq_true h) q1)).eq (by simp)
  refine exs_cons (ex_assign (ev_from (ev_name rfl) (ev_name rfl) p1 ha)) ?_
  refine exs_cons (ex_assign (ev_from (ev_name rfl) (ev_name rfl) p2 hb)) ?_
  have l1 : (a.drop (cpre a b)).length ≤ 8 := by rw [List.length_drop]; omega
  have l2 : (b.drop (cpre a b)).length ≤ 8 := by rw [List.length_drop]; omega
  have m1 := low1_sub (b := a.drop (cpre a b)) hla fun x h => List.mem_of_mem_drop h
  have m2 := low1_sub (b := b.drop (cpre a b)) hlb fun x h => List.mem_of_mem_drop h
  generalize a.drop (cpre a b) = a1 at l1 m1 ⊢
  generalize b.drop (cpre a b) = b1 at l2 m2 ⊢
  clear p1 p2 p3 ha hb hla hlb hab
  refine Exs.weak (Γ := lG a1 b1 mx) ?_ (sub_upd rfl (sub_upd rfl (sub_upd rfl sub_emp)))
  refine exs_cons (ex_assign ev_int) ?_
  obtain ⟨p1, p2, p3⟩ := cpre_le (a := a1.reverse) (b := b1.reverse)
  rw [List.length_reverse] at p1 p2
  refine exs_cons (ex_while (fun i => upd (lG a1 b1 mx) (S "post") (.int (-(i : Nat)))) (cpre a1.reverse b1.reverse) rfl (fun i hi => ?_) (fun i hi => ?_) ?_) ?_
  · obtain ⟨h1, h2, h3⟩ := cpre_lt hi
    rw [List.length_reverse] at h1 h2
    refine (tr_and3 (tr_upto (ev_name rfl) (ev_name rfl) (by omega) l1) (fun _ => tr_upto (ev_name rfl) (ev_name rfl) (by omega) l2) (fun _ _ => tr_cmp (ev_sub (ev_name rfl) (ev_bin (ev_name rfl) ev_int bin_sub_int) (item_chN h1 (by omega))) (ev_sub (ev_name rfl) (ev_bin (ev_name rfl) ev_int bin_sub_int) (item_chN h2 (by omega))) cmp_str_eq)).eq ?_
    rw [ch1_beq]
    simp only [decide_eq_true h1, decide_eq_true h2, decide_eq_true h3, Bool.and_self]
  · exact exs_cons (ex_aug_sub rfl ev_int) (exs_nil.eq (by rw [upd_upd]; congr 3; omega))
  · by_cases q1 : cpre a1.reverse b1.reverse < a1.length
    · by_cases q2 : cpre a1.reverse b1.reverse < b1.length
      · refine (tr_and3 (tr_upto (ev_name rfl) (ev_name rfl) (by omega) l1) (fun _ => tr_upto (ev_name rfl) (ev_name rfl) (by omega) l2) (fun _ _ => tr_cmp (ev_sub (ev_name rfl) (ev_bin (ev_name rfl) ev_int bin_sub_int) (item_chN q1 (by omega))) (ev_sub (ev_name rfl) (ev_bin (ev_name rfl) ev_int bin_sub_int) (item_chN q2 (by omega))) cmp_str_eq)).eq ?_
        rw [ch1_beq, decide_eq_false (p3 (by rw [List.length_reverse]; exact q1) (by rw [List.length_reverse]; exact q2))]
        simp
      · refine (tr_and3 (d := false) (tr_upto (ev_name rfl) (ev_name rfl) (by omega) l1) (fun _ => tr_upto (ev_name rfl) (ev_name rfl) (by omega) l2) (fun _ h => absurd (of_decide_eq_true h) q2)).eq (by simp)
    · refine (tr_and3 (b := false) (d := false) (tr_upto (ev_name rfl) (ev_name rfl) (by omega) l1) (fun h => absurd (of_decide_eq_true h) q1) (fun h _ => absurd (of_decide_eq_true h) q1)).eq (by simp)
  generalize cpre a1.reverse b1.reverse = q at p1 p2 p3 ⊢
  clear p3
  refine exs_cons (ex_assign (ev_upto (ev_name rfl) (ev_name rfl) p1 l1)) ?_
  refine exs_cons (ex_assign (ev_upto (ev_name rfl) (ev_name rfl) p2 l2)) ?_
  have l1' : (a1.take (a1.length - q)).length ≤ 8 := by rw [List.length_take]; omega
  have l2' : (b1.take (b1.length - q)).length ≤ 8 := by rw [List.length_take]; omega
  have m1' := low1_sub (b := a1.take (a1.length - q)) m1 fun x h => List.mem_of_mem_take h
  have m2' := low1_sub (b := b1.take (b1.length - q)) m2 fun x h => List.mem_of_mem_take h
  generalize a1.take (a1.length - q) = a2 at l1' m1' ⊢
  generalize b1.take (b1.length - q) = b2 at l2' m2' ⊢
  clear p1 p2 m1 m2 l1 l2
  refine Exs.weak (Γ := lG a2 b2 mx) ?_ (sub_upd rfl (sub_upd rfl (sub_upd rfl sub_emp)))
  have hem : ∀ {l : List Nat}, (!(decide ((sOf l).length ≠ 0))) = decide (l = []) := by
    intro l; rw [sOf_len]; cases l <;> simp
  have elen : ∀ {sc : Scope} {Γ : Ctx} {x : PySem.Str} {p1 p2 p3 : Pos} {l : List Nat}, Γ x = some (.str (sOf l)) → l.length ≤ 8 → sc.names.lookup (S "len") = some .globalImplicit → (x == ("__debug__" : PySem.Str)) = false → ∀ {fr : Bool}, Ev (cx w mg mb) (n + 1) sc Γ fr (.Call (.Name (S "len") p1) [.Name x p2] [] p3) (.int l.length) := by
    intro sc Γ x p1 p2 p3 l e hl hk hd fr
    refine (ev_call_builtin (gv_B (by kernel_rfl) (by kernel_rfl) (by decide +kernel)) (evs_cons (ev_name e hd) evs_nil) (call_len_str (by rw [sOf_len]; omega)) hk (by decide +kernel)).eq (by rw [sOf_len])
  by_cases hE : a2 = [] ∨ b2 = []
  · rw [if_pos hE]
    refine exs_ret (ex_if_t ((tr_or2 (tr_not (tr_val (ev_name rfl) (tru_str (by rw [sOf_len]; omega)))) fun _ => tr_not (tr_val (ev_name rfl) (tru_str (by rw [sOf_len]; omega)))).eq (b := true) ?_) (exs_ret (ex_ret (ev_bin (gMove (c := cx w mg mb)) (ev_bin (elen rfl l1' (by kernel_rfl) (by decide +kernel)) (elen rfl l2' (by kernel_rfl) (by decide +kernel)) bin_add_int) (bin_mul_int ?_)))))
    · rw [hem, hem]; simpa using hE
    · exact mul2L
  rw [if_neg hE]
  refine exs_cons (ex_if_f ((tr_or2 (tr_not (tr_val (ev_name rfl) (tru_str (by rw [sOf_len]; omega)))) fun _ => tr_not (tr_val (ev_name rfl) (tru_str (by rw [sOf_len]; omega)))).eq (b := false) ?_) exs_nil) ?_
  · rw [hem, hem]; simpa using hE
  have hlen2 : ∀ {x y : List Nat}, x.length ≤ 8 → y.length ≤ 8 → (decide ((40 : Int) < x.length) || decide ((40 : Int) < y.length)) = false := by
    intro x y h1 h2
    rw [decide_eq_false (by omega), decide_eq_false (by omega)]; rfl
  refine exs_cons (ex_if_f ((tr_or2 (tr_cmp (elen rfl l1' (by kernel_rfl) (by decide +kernel)) (ev_glob (gv_K (c := cx w mg mb) (v := .int 40 189) (by kernel_rfl)) (fun _ => .int _ _) (by kernel_rfl) (by kernel_rfl)) cmp_int_gt) fun _ => tr_cmp (elen rfl l2' (by kernel_rfl) (by decide +kernel)) (ev_glob (gv_K (c := cx w mg mb) (v := .int 40 189) (by kernel_rfl)) (fun _ => .int _ _) (by kernel_rfl) (by kernel_rfl)) cmp_int_gt).eq (hlen2 l1' l2')) exs_nil) ?_
  refine exs_cons (Γ' := lG (if b2.length < a2.length then b2 else a2) (if b2.length < a2.length then a2 else b2) mx) (ex_if (q := decide (b2.length < a2.length)) ((tr_cmp (elen rfl l2' (by kernel_rfl) (by decide +kernel)) (elen rfl l1' (by kernel_rfl) (by decide +kernel)) cmp_int_lt).eq (decide_eq_decide.mpr (by omega))) (fun h => ?_) (fun h => ?_)) ?_
  · have h' := of_decide_eq_true h
    rw [if_pos h', if_pos h']
    exact exs_cons (ex_swap (by decide +kernel) rfl rfl rfl rfl (by kernel_rfl) (by kernel_rfl)) (exs_nil' (sub_upd rfl (sub_upd rfl (sub_upd rfl sub_emp))))
  · have h' := of_decide_eq_false h
    rw [if_neg h', if_neg h']
    exact exs_nil' (sub_upd rfl (sub_upd rfl (sub_upd rfl sub_emp)))
  have l3 : (if b2.length < a2.length then b2 else a2).length ≤ 8 := by split <;> assumption
  have l4 : (if b2.length < a2.length then a2 else b2).length ≤ 8 := by split <;> assumption
  have m3 : ∀ x ∈ (if b2.length < a2.length then b2 else a2), low1 x := by split <;> assumption
  have m4 : ∀ x ∈ (if b2.length < a2.length then a2 else b2), low1 x := by split <;> assumption
  generalize (if b2.length < a2.length then b2 else a2) = a3 at l3 m3 ⊢
  generalize (if b2.length < a2.length then a2 else b2) = b3 at l4 m4 ⊢
  clear l1' l2' m1' m2' hE hem hlen2
  by_cases hF : ((b3.length : Int) - a3.length) * 2 > mx
  · rw [if_pos hF]
    exact exs_ret (ex_if_t ((tr_cmp (ev_bin (ev_bin (elen rfl l4 (by kernel_rfl) (by decide +kernel)) (elen rfl l3 (by kernel_rfl) (by decide +kernel)) bin_sub_int) (gMove (c := cx w mg mb)) (bin_mul_int mul2R)) (ev_name rfl) cmp_int_gt).eq (decide_eq_true hF)) (exs_ret (ex_ret (ev_bin (ev_name rfl) ev_int bin_add_int))))
  rw [if_neg hF]
  refine exs_cons (ex_if_f ((tr_cmp (ev_bin (ev_bin (elen rfl l4 (by kernel_rfl) (by decide +kernel)) (elen rfl l3 (by kernel_rfl) (by decide +kernel)) bin_sub_int) (gMove (c := cx w mg mb)) (bin_mul_int mul2R)) (ev_name rfl) cmp_int_gt).eq (decide_eq_false hF)) exs_nil) ?_
  refine exs_cons (ex_assign (ev_list_range3 (m := a3.length) (gv_B (by kernel_rfl) (by kernel_rfl) (by decide +kernel)) (gv_B (by kernel_rfl) (by kernel_rfl) (by decide +kernel)) (gMove (c := cx w mg mb)) (ev_bin (gMove (c := cx w mg mb)) (ev_bin (elen rfl l3 (by kernel_rfl) (by decide +kernel)) ev_int bin_add_int) (bin_mul_int mul2L)) (gMove (c := cx w mg mb)) (by decide) (by decide) (range8 _ l3).1 (range8 _ l3).2 (by omega) (by kernel_rfl) (by kernel_rfl))) ?_
  refine exs_cons (ex_assign ev_int) ?_
  refine exs_brk (ex_for_brk (src_range (k := b3.length) (gv_B (by kernel_rfl) (by kernel_rfl) (by decide +kernel)) (elen rfl l4 (by kernel_rfl) (by decide +kernel)) (by omega) (by omega) (by kernel_rfl)) (fun i => (outer a3 b3 mx i).map fun p => oG a3 b3 mx p.1 p.2) (.int (mx + 1)) rfl (.inl (by kernel_rfl)) (fun _ _ => rfl) (fun i h => ?_) (fun i d Γi hd hi => ?_)) (fun Γ' h => ?_) (fun h => ?_)
  · have h' : outer a3 b3 mx i = none := by cases q : outer a3 b3 mx i with
      | none => rfl
      | some p => rw [q] at h; cases h
    show ((outer a3 b3 mx (i + 1)).map _ : Option Ctx) = none
    unfold outer; rw [h']; rfl
  · have hlt : i < b3.length := by
      have := (List.getElem?_eq_some_iff.mp hd).1
      rw [rng_length] at this; omega
    rw [rng_get (by omega)] at hd; cases hd
    cases qo : outer a3 b3 mx i with
    | none => rw [qo] at hi; cases hi
    | some p =>
    obtain ⟨row, r⟩ := p
    rw [qo] at hi; cases hi
    have hrow := outer_len qo
    have eo : outer a3 b3 mx (i + 1) = (if (inner (b3.getD i 0) a3 ⟨2 * i, 2 * i, 9223372036854775807, row⟩ a3.length).mini > mx then none else some ((inner (b3.getD i 0) a3 ⟨2 * i, 2 * i, 9223372036854775807, row⟩ a3.length).row, (inner (b3.getD i 0) a3 ⟨2 * i, 2 * i, 9223372036854775807, row⟩ a3.length).res)) := by
      show (match outer a3 b3 mx i with | none => none | some (row, _) => _) = _
      rw [qo]
    refine Exs.eq (a := if (inner (b3.getD i 0) a3 ⟨2 * i, 2 * i, 9223372036854775807, row⟩ a3.length).mini > mx then .ret (.int (mx + 1)) else .next (oG a3 b3 mx (inner (b3.getD i 0) a3 ⟨2 * i, 2 * i, 9223372036854775807, row⟩ a3.length).row (inner (b3.getD i 0) a3 ⟨2 * i, 2 * i, 9223372036854775807, row⟩ a3.length).res)) ?_ (by
      show _ = brk ((outer a3 b3 mx (i + 1)).map fun p => oG a3 b3 mx p.1 p.2) _
      rw [eo]; split <;> rfl)
    have lowb : low1 (b3.getD i 0) := m4 _ (by rw [List.getD_eq_getElem?_getD, List.getElem?_eq_getElem hlt]; exact List.getElem_mem hlt)
    refine exs_cons (ex_assign (Ev.flat (ev_sub (ev_name rfl) (ev_name rfl) (item_ch1 hlt (by omega))) rfl)) ?_
    generalize b3.getD i 0 = bc0 at lowb ⊢
    refine exs_cons (ex_assign2 (d := .int (2 * (i : Int))) ((ev_bin (ev_name rfl) (gMove (c := cx w mg mb)) (bin_mul_int mul2R)).eq (by rw [Int.mul_comm])) rfl (.inl (by kernel_rfl)) (.inl (by kernel_rfl))) ?_
    refine exs_cons (ex_assign ev_int) ?_
    refine Exs.weak (Γ := iG a3 b3 mx bc0 i ⟨2 * i, 2 * i, 9223372036854775807, row⟩) ?_ (sub_upd rfl (sub_upd rfl (sub_upd rfl (sub_upd rfl (sub_upd rfl (sub_upd rfl (sub_upd rfl (sub_upd rfl (sub_upd rfl sub_emp)))))))))
    have hst : ∀ k, (inner bc0 a3 ⟨2 * i, 2 * i, 9223372036854775807, row⟩ k).row.length = a3.length := fun k => (inner_len k).trans hrow
    refine exs_cons (ex_for_gen (src_range (k := a3.length) (gv_B (by kernel_rfl) (by kernel_rfl) (by decide +kernel)) (elen rfl l3 (by kernel_rfl) (by decide +kernel)) (by omega) (by omega) (by kernel_rfl)) (fun k => iG a3 b3 mx bc0 i (inner bc0 a3 ⟨2 * i, 2 * i, 9223372036854775807, row⟩ k)) rfl a3.length (by rw [rng_length]; omega) [] (.next (iG a3 b3 mx bc0 i (inner bc0 a3 ⟨2 * i, 2 * i, 9223372036854775807, row⟩ a3.length))) rfl (.inl (by kernel_rfl)) (fun _ _ => rfl) (fun k d hk hd => ?_) (.inl ⟨by rw [rng_length]; omega, exs_nil⟩)) ?_
    · rw [rng_get (by omega)] at hd; cases hd
      have lowa : low1 (a3.getD k 0) := m3 _ (by rw [List.getD_eq_getElem?_getD, List.getElem?_eq_getElem hk]; exact List.getElem_mem hk)
      have hl := hst k
      show Exs _ _ _ _ (upd (iG a3 b3 mx bc0 i (inner bc0 a3 ⟨2 * i, 2 * i, 9223372036854775807, row⟩ k)) _ _) _ (.next (iG a3 b3 mx bc0 i (istep bc0 a3 (inner bc0 a3 ⟨2 * i, 2 * i, 9223372036854775807, row⟩ k) k)))
      generalize inner bc0 a3 ⟨2 * i, 2 * i, 9223372036854775807, row⟩ k = st at hl ⊢
      refine exs_cons (ex_assign (ev_bin (ev_name rfl) (ev_call_def (gv_K (c := cx w mg mb) (v := .ref 21) (by kernel_rfl)) rfl rfl (evs_cons (ev_name rfl) (evs_cons (ev_sub (ev_name rfl) (ev_name rfl) (item_ch1 hk (by omega))) evs_nil)) (c_subst lowb lowa) (by kernel_rfl) (by kernel_rfl)) bin_add_int)) ?_
      refine exs_cons (ex_assign (Ev.flat (ev_sub (ev_name rfl) (ev_name rfl) (item_list (by omega) (by omega) (by rw [Int.toNat_natCast]; exact intD_get (by omega)))) rfl)) ?_
      refine exs_cons (ex_assign (ev_bin (ev_call_builtin (gv_B (by kernel_rfl) (by kernel_rfl) (by decide +kernel)) (evs_cons (ev_name rfl) (evs_cons (ev_name rfl) evs_nil)) call_min2 (by kernel_rfl) (by decide +kernel)) (gMove (c := cx w mg mb)) bin_add_int)) ?_
      refine exs_cons (ex_assign (ev_call_builtin (gv_B (by kernel_rfl) (by kernel_rfl) (by decide +kernel)) (evs_cons (ev_name rfl) (evs_cons (ev_name rfl) evs_nil)) call_min2 (by kernel_rfl) (by decide +kernel))) ?_
      refine exs_cons (ex_setitem rfl (by kernel_rfl) flats_intD rfl (ev_name rfl) (ev_name rfl) (by omega) (by omega) (by rw [List.length_map]; omega)) ?_
      have erow : ∀ r : Int, some (D.list ((intD st.row).set ((k : Int)).toNat (.int r))) = some (.list (intD (st.row.set k r))) := fun r => by rw [Int.toNat_natCast, intD_set]
      by_cases hr : (istep bc0 a3 st k).res < st.mini
      · refine exs_cons (ex_if_t ((tr_cmp (ev_name rfl) (ev_name rfl) cmp_int_lt).eq (decide_eq_true hr)) (exs_cons (ex_assign (Ev.flat (ev_name rfl) rfl)) exs_nil)) (exs_nil' (sub_upd (erow _) (sub_upd ?_ (sub_upd rfl (sub_upd rfl (sub_upd rfl (sub_upd rfl (sub_upd rfl (sub_upd rfl (sub_upd rfl sub_emp))))))))))
        show some (D.int (istep bc0 a3 st k).res) = some (.int (if (istep bc0 a3 st k).res < st.mini then (istep bc0 a3 st k).res else st.mini))
        rw [if_pos hr]
      · refine exs_cons (ex_if_f ((tr_cmp (ev_name rfl) (ev_name rfl) cmp_int_lt).eq (decide_eq_false hr)) exs_nil) (exs_nil' (sub_upd (erow _) (sub_upd ?_ (sub_upd rfl (sub_upd rfl (sub_upd rfl (sub_upd rfl (sub_upd rfl (sub_upd rfl (sub_upd rfl sub_emp))))))))))
        show some (D.int st.mini) = some (.int (if (istep bc0 a3 st k).res < st.mini then (istep bc0 a3 st k).res else st.mini))
        rw [if_neg hr]
    by_cases hm : (inner bc0 a3 ⟨2 * i, 2 * i, 9223372036854775807, row⟩ a3.length).mini > mx
    · rw [if_pos hm]
      exact exs_ret (ex_if_t ((tr_cmp (ev_name rfl) (ev_name rfl) cmp_int_gt).eq (decide_eq_true hm)) (exs_ret (ex_ret (ev_bin (ev_name rfl) ev_int bin_add_int))))
    · rw [if_neg hm]
      refine exs_cons (ex_if_f ((tr_cmp (ev_name rfl) (ev_name rfl) cmp_int_gt).eq (decide_eq_false hm)) exs_nil) (exs_nil' (sub_upd rfl (sub_upd rfl (sub_upd rfl (sub_upd rfl (sub_upd rfl sub_emp))))))
  · rw [rng_length, Int.toNat_natCast] at h
    cases q : outer a3 b3 mx b3.length with
    | none => rw [q] at h; cases h
    | some p =>
      rw [q] at h; cases h
      exact exs_ret (ex_ret (Ev.flat (ev_name rfl) rfl))
  · rw [rng_length, Int.toNat_natCast] at h
    cases q : outer a3 b3 mx b3.length with
    | none => rfl
    | some p => rw [q] at h; cases h
end Mine
end
section
open PySem PySem.W PyProof.Rows PySem.Calls
set_option linter.unusedSectionVars false
set_option linter.unusedVariables false
set_option maxRecDepth 100000
set_option maxHeartbeats 4000000
namespace Mine
variable [Bd]
variable {w : World} {mg mb : PySem.Str → Option Value} {n : Nat}
noncomputable def ettE (w : World) (e : String × Nat × Int × Nat) : DictEntry := { hash := PyData.keyHash w.params (Str.ofString e.1), key := .str (Str.ofString e.1) e.2.1, val := .int e.2.2.1 e.2.2.2 }
noncomputable def ettD : List (PyData × PyData) := ettL.map fun e => (PyData.str (Str.ofString e.1), PyData.int e.2.2.1)
theorem ett_flat : ∀ l : List (String × Nat × Int × Nat), PyProof.V.FlatPairs PyData.str (l.map fun e => (Str.ofString e.1, Value.int e.2.2.1 e.2.2.2)) (l.map fun e => (PyData.str (Str.ofString e.1), PyData.int e.2.2.1))
  | [] => .nil
  | _ :: l => .cons (fun _ => .int _ _) (ett_flat l)
theorem ett_pairs {prog : Program} (w : World) : ∀ l : List (String × Nat × Int × Nat), Pairs (PySem.strKind prog w) (l.map (ettE w)) (l.map fun e => (Str.ofString e.1, Value.int e.2.2.1 e.2.2.2))
  | [] => .nil
  | e :: l => .cons (by simp [PySem.strKind, ettE, Value.isStrOf]) rfl (ett_pairs w l)
theorem ett_nodup : ((ettL.map fun e => (Str.ofString e.1, Value.int e.2.2.1 e.2.2.2)).map (·.1)).Nodup := by
  rw [List.map_map]; decide +kernel
theorem ett_tab : Tab (cx w mg mb) (S "EXACT_TOKEN_TYPES") ettD := by
  refine ⟨134, gv_K (c := cx w mg mb) (v := .ref 134) (by kernel_rfl), fun h W => ?_⟩
  refine TabAt.ofObj (o := { cls := .type "dict", data := .dict (ettL.map (ettE w)).toArray 48 }) (kvs := ettL.map fun e => (Str.ofString e.1, Value.int e.2.2.1 e.2.2.2)) (by decide) (W.K 134 _ (by kernel_rfl)) ⟨_, _, ⟨rfl, rfl, rfl⟩, rfl, ?_, ?_, ett_nodup⟩ (ett_flat _)
  · intro e he
    obtain ⟨x, hx, rfl⟩ := List.mem_map.mp (List.mem_toArray.mp he)
    exact ⟨Str.ofString x.1, by simp [PySem.strKind, ettE, Value.isStrOf], rfl⟩
  · rw [List.toList_toArray]; exact ett_pairs w _
end Mine
end
section
open PySem PySem.W PyProof.Rows PySem.Calls
set_option linter.unusedSectionVars false
set_option linter.unusedVariables false
set_option maxRecDepth 100000
set_option maxHeartbeats 4000000
namespace Mine
variable [Bd]
variable {w : World} {mg mb : PySem.Str → Option Value} {n : Nat}
noncomputable def ettN : List (List Nat × Int) := ettL.map fun e => (cps (Str.ofString e.1), e.2.2.1)
noncomputable def lookN (l : List Nat) : List (List Nat × Int) → Option Int
  | [] => none
  | (k, v) :: r => if k = l then some v else lookN l r
noncomputable def ettF (l : List Nat) : Option Int := lookN l ettN
theorem look_ett (l : List Nat) : ∀ L : List (String × Nat × Int × Nat), PySem.Spec.lookup (.str (sOf l)) (L.map fun e => (PyData.str (Str.ofString e.1), PyData.int e.2.2.1)) = (lookN l (L.map fun e => (cps (Str.ofString e.1), e.2.2.1))).map .int
  | [] => rfl
  | e :: L => by
    show (if PySem.Spec.same (PyData.str (Str.ofString e.1)) (.str (sOf l)) = true then some (PyData.int e.2.2.1) else PySem.Spec.lookup (.str (sOf l)) (L.map _)) = (if cps (Str.ofString e.1) = l then some e.2.2.1 else lookN l (L.map _)).map .int
    rw [same_str]
    by_cases h : cps (Str.ofString e.1) = l
    · have : Str.ofString e.1 = sOf l := by rw [← h, sOf_cps]
      rw [if_pos h, if_pos (decide_eq_true this)]; rfl
    · have : ¬ Str.ofString e.1 = sOf l := fun q => h (by rw [q, cps_sOf])
      rw [if_neg h, decide_eq_false this, if_neg (by decide)]; exact look_ett l L
theorem ett_look (l : List Nat) : PySem.Spec.lookup (.str (sOf l)) ettD = (ettF l).map .int := look_ett l ettL
/-- the pieces of the text at a place that the table holds -/
noncomputable def pieces (l : List Nat) : List (List Nat) := ((List.range 3).filter fun i => (ettF (l.take (i + 1))).isSome).map fun i => l.take (i + 1)
noncomputable def strD (l : List (List Nat)) : List D := l.map fun x => .str (sOf x)
theorem flats_strD {l : List (List Nat)} : flats (strD l) = true := by
  induction l with
  | nil => rfl
  | cons a l ih => exact ih
theorem slcT_mid {a : List Nat} {i j : Nat} (h : i ≤ a.length) : slcT (some (i : Int)) (some ((i : Int) + (j : Int))) (sOf a) = sOf ((a.drop i).take j) := by
  unfold slcT slc
  rw [cps_sOf]
  have e1 : clp (some (i : Int)) 0 a.length = i := by unfold clp; dsimp only; rw [if_neg (by omega)]; omega
  have e2 : clp (some ((i : Int) + (j : Int))) a.length a.length = min (i + j) a.length := by unfold clp; dsimp only; rw [if_neg (by omega)]; congr 1
  rw [e1, e2]
  congr 1
  rw [List.take_eq_take_iff, List.length_drop]; omega
noncomputable def lowD : D → Bool
  | .int _ => true
  | .bool _ => true
  | .none => true
  | .str x => PyData.strOk x
  | _ => false
theorem shaped_flat {xs : List D} (h : xs.all lowD = true) : SeqAt.shaped (D.list xs).py = true ∧ (D.list xs).data = true := by
  have h1 : PyData.canLayAll0 (pyAll xs) = true ∧ PyData.depthAll (pyAll xs) = 0 ∧ dataAll xs = true := by
    induction xs with
    | nil => exact ⟨rfl, rfl, rfl⟩
    | cons a l ih =>
      rw [List.all_cons, Bool.and_eq_true] at h
      obtain ⟨i1, i2, i3⟩ := ih h.2
      have h2 := h.1
      cases a with
      | str x => 
        simp only [pyAll, dataAll, D.py, D.data, PyData.canLayAll0, PyData.canLay0, PyData.depthAll, PyData.depth, i1, i2, i3]
        exact ⟨by rw [show PyData.strOk x = true from h2]; rfl, rfl, rfl⟩
      | int _ => simp only [pyAll, dataAll, D.py, D.data, PyData.canLayAll0, PyData.canLay0, PyData.depthAll, PyData.depth, i1, i2, i3]; exact ⟨rfl, rfl, rfl⟩
      | bool _ => simp only [pyAll, dataAll, D.py, D.data, PyData.canLayAll0, PyData.canLay0, PyData.depthAll, PyData.depth, i1, i2, i3]; exact ⟨rfl, rfl, rfl⟩
      | none => simp only [pyAll, dataAll, D.py, D.data, PyData.canLayAll0, PyData.canLay0, PyData.depthAll, PyData.depth, i1, i2, i3]; exact ⟨rfl, rfl, rfl⟩
      | _ => cases h2
  refine ⟨?_, by show dataAll xs = true; exact h1.2.2⟩
  show SeqAt.shaped (.list (pyAll xs)) = true
  unfold SeqAt.shaped
  simp only [PyData.canLay0, PyData.depth, h1.1, h1.2.1]; rfl
theorem cmp_flat_eq {c : Cx} {xs ys : List D} (hx : xs.all lowD = true) (hy : ys.all lowD = true) : Cmp c n .Eq (.list xs) (.list ys) ((D.list xs).py.eqv (D.list ys).py) :=
  cmp_eq (shaped_flat hx).2 (shaped_flat hy).2 (shaped_flat hx).1 (shaped_flat hy).1
theorem cmp_flat_ne {c : Cx} {xs ys : List D} (hx : xs.all lowD = true) (hy : ys.all lowD = true) : Cmp c n .NotEq (.list xs) (.list ys) (!(D.list xs).py.eqv (D.list ys).py) :=
  cmp_ne (shaped_flat hx).2 (shaped_flat hy).2 (shaped_flat hx).1 (shaped_flat hy).1
theorem low_str {x : List Nat} (h : ∀ c ∈ x, c < 128) : lowD (.str (sOf x)) = true := by
  show PyData.strOk (sOf x) = true
  show (x.toArray.all fun c => decide (c < 0x110000)) = true
  rw [List.all_toArray, List.all_eq_true]
  exact fun c hc => decide_eq_true (by have := h c hc; omega)
theorem cmp_strs_nil {c : Cx} {l : List (List Nat)} (h : ∀ p ∈ l, ∀ c ∈ p, c < 128) : Cmp c n .Eq (.list (strD l)) (.list []) l.isEmpty := by
  have := cmp_flat_eq (c := c) (n := n) (xs := strD l) (ys := []) (by
    rw [List.all_eq_true]; intro x hx
    obtain ⟨p, hp, rfl⟩ := List.mem_map.mp hx
    exact low_str (h p hp)) rfl
  cases l <;> exact this
theorem pieces_len (l : List Nat) : (pieces l).length ≤ 3 := by
  unfold pieces; rw [List.length_map]
  exact Nat.le_trans (List.length_filter_le _ _) (by simp)
/-- the next sign of the text -/
noncomputable def Stp (l p : List Nat) (m : Int) : Prop := p ≠ [] ∧ p.length ≤ 3 ∧ (∃ r, l = p ++ r) ∧ ((pieces l = [] ∧ ∃ x, p = [x] ∧ 97 ≤ x ∧ x ≤ 101 ∧ m = 256 + ((x : Int) - 97)) ∨ ((pieces l).getLast? = some p ∧ ettF p = some m))
theorem last_item {c : Cx} {qs : List (List Nat)} {p : List Nat} (h : qs.getLast? = some p) : Item c n (.list (strD qs)) (.int (-1)) (.str (sOf p)) := by
  have hne : qs ≠ [] := by intro q; subst q; cases h
  have hl : 0 < qs.length := List.length_pos_iff.mpr hne
  have e : (strD qs).length = qs.length := by simp [strD]
  refine item_list_neg (by decide) (by omega) (by decide) ?_
  rw [e]
  have : (-1 + (qs.length : Int)).toNat = qs.length - 1 := by omega
  rw [this]
  rw [List.getLast?_eq_getElem?] at h
  simp [strD, h]
theorem abcde_find : ∀ x : Nat, 97 ≤ x → x ≤ 101 → Txt.find (S "abcde") (ch1 x) = (x : Int) - 97 := by
  intro x h1 h2
  have : x = 97 ∨ x = 98 ∨ x = 99 ∨ x = 100 ∨ x = 101 := by omega
  rcases this with rfl | rfl | rfl | rfl | rfl <;> decide +kernel
noncomputable def sG (t : List Nat) (cs : List Int) (k : Nat) : Ctx := upd (upd (upd emp (S "text") (.str (sOf t))) (S "symbols") (.list (intD cs))) (S "at") (.int k)
theorem c_symbols {ts : List (List Nat)} (code : List Nat → Int) (hs : ∀ i p, ts[i]? = some p → Stp (ts.drop i).flatten p (code p)) (hz : ts.flatten.length ≤ 64) (hc : ∀ x ∈ ts.flatten, x < 128) : CallV (cx w mg mb) (n + 1) (.ref 172) [.str (sOf ts.flatten)] (.list (intD (ts.map code ++ [0]))) := by
  refine call_def (ps := [S "text"]) ⟨_, _, rfl, rfl, by kernel_rfl, rfl, rfl, rfl, rfl, rfl, bind1 (fun _ => rfl) rfl⟩ rfl (by kernel_rfl) ?_
  refine exs_cons (ex_assign (ev_list evs_nil (by decide))) ?_
  refine exs_cons (ex_assign ev_int) ?_
  have hne : ∀ p ∈ ts, p ≠ [] := fun p hp => by
    obtain ⟨i, hi⟩ := List.getElem?_of_mem hp
    exact (hs i p hi).1
  have hlen : ∀ l : List (List Nat), (∀ p ∈ l, p ≠ []) → l.length ≤ l.flatten.length := by
    intro l
    induction l with
    | nil => intro _; exact Nat.le_refl _
    | cons a l ih =>
      intro h
      have h1 := ih fun p hp => h p (List.mem_cons_of_mem _ hp)
      have h2 := h a List.mem_cons_self
      have h3 : 0 < a.length := List.length_pos_iff.mpr h2
      simp only [List.length_cons, List.flatten_cons, List.length_append]; omega
  have hts : ts.length ≤ 64 := Nat.le_trans (hlen ts hne) hz
  have hsum : ∀ i, ts.flatten.length = (ts.take i).flatten.length + (ts.drop i).flatten.length := fun i => by
    conv => lhs; rw [← List.take_append_drop i ts]
    rw [List.flatten_append, List.length_append]
  have hdrop : ∀ i, ts.flatten.drop (ts.take i).flatten.length = (ts.drop i).flatten := fun i => by
    conv => lhs; arg 2; rw [← List.take_append_drop i ts]
    rw [List.flatten_append, List.drop_left]
  have elen : ∀ {sc : Scope} {Γ : Ctx} {x : PySem.Str} {p1 p2 p3 : Pos} {l : List Nat}, Γ x = some (.str (sOf l)) → l.length ≤ 64 → sc.names.lookup (S "len") = some .globalImplicit → (x == ("__debug__" : PySem.Str)) = false → ∀ {fr : Bool}, Ev (cx w mg mb) n sc Γ fr (.Call (.Name (S "len") p1) [.Name x p2] [] p3) (.int l.length) := by
    intro sc Γ x p1 p2 p3 l e hl hk hd fr
    refine (ev_call_builtin (gv_B (by kernel_rfl) (by kernel_rfl) (by decide +kernel)) (evs_cons (ev_name e hd) evs_nil) (call_len_str (by rw [sOf_len]; omega)) hk (by decide +kernel)).eq (by rw [sOf_len])
  refine Exs.weak (Γ := sG ts.flatten [] 0) ?_ (sub_upd rfl (sub_upd rfl (sub_upd rfl sub_emp)))
  refine exs_cons (ex_while (fun i => sG ts.flatten ((ts.take i).map code) (ts.take i).flatten.length) ts.length rfl (fun i hi => ?_) (fun i hi => ?_) ?_) ?_
  · refine (tr_cmp (ev_name rfl) (elen rfl hz (by kernel_rfl) (by decide +kernel)) cmp_int_lt).eq (decide_eq_true ?_)
    have h1 := hsum i
    have h2 := hlen (ts.drop i) fun p hp => hne p (List.mem_of_mem_drop hp)
    rw [List.length_drop] at h2
    omega
  · have hp : ts[i]? = some ts[i] := List.getElem?_eq_getElem hi
    generalize ts[i] = p at hp
    have st := hs i p hp
    have hd := hdrop i
    have hle : (ts.take i).flatten.length ≤ ts.flatten.length := by have := hsum i; omega
    have e1 : ts.take (i + 1) = ts.take i ++ [p] := by rw [List.take_add_one, hp]; rfl
    have hpz : (ts.take (i + 1)).flatten.length ≤ ts.flatten.length := by have := hsum (i + 1); omega
    have hcz : ((ts.take i).map code).length ≤ 64 := by rw [List.length_map, List.length_take]; omega
    dsimp only
    rw [e1, List.map_append, List.flatten_append, List.length_append]
    show Exs _ _ _ _ _ _ (.next (sG _ ((ts.take i).map code ++ [code p]) ((ts.take i).flatten.length + ([p] : List (List Nat)).flatten.length)))
    rw [show ([p] : List (List Nat)).flatten = p by simp]
    generalize (ts.take i).flatten.length = o at hd hle ⊢
    generalize (ts.take i).map code = cs at hcz ⊢
    generalize (ts.drop i).flatten = l at st hd
    subst hd
    generalize ts.flatten = t at hz hle st hc ⊢
    refine exs_cons ((ex_assign_comp (ds := intD [1, 2, 3]) (fun i => upd emp (S "size") (.int ((i : Int) + 1))) (fun i => (ettF ((t.drop o).take (i + 1))).isSome) (fun i => .str (sOf ((t.drop o).take (i + 1)))) (itsrc_list (ev_list (evs_cons ev_int (evs_cons ev_int (evs_cons ev_int evs_nil))) (by decide)) (by decide)) (by kernel_rfl) ?_ (by decide) (by intro _ _; rfl) (.inl ⟨_, _, rfl⟩) (fun i d hd => ?_) (fun i d hd => ?_) (fun i d hd _ => ?_) (fun i d hd _ => rfl) (by kernel_rfl) (by kernel_rfl)).eq (b := .next (upd (sG t cs o) (S "pieces") (.list (strD (pieces (t.drop o)))))) (by unfold strD pieces; rw [List.map_map]; rfl)) ?_
    · exact ⟨⟨_, rfl⟩, ⟨_, rfl⟩, trivial⟩
    · have hi : i = 0 ∨ i = 1 ∨ i = 2 := by
        have : i < 3 := (List.getElem?_eq_some_iff.mp hd).1
        omega
      rcases hi with rfl | rfl | rfl <;> (cases hd; exact .loc (by kernel_rfl))
    · have ho : (PySem.Spec.lookup (.str (sOf ((t.drop o).take (i + 1)))) ettD).isSome = (ettF ((t.drop o).take (i + 1))).isSome := by rw [ett_look, Option.isSome_map]
      refine (tr_in_tab ett_tab ((ev_slice_str (lo := some (o : Int)) (hi := some ((o : Int) + ((i + 1 : Nat) : Int))) (ev_name rfl) (part_some (ev_name rfl)) (part_some (ev_bin (ev_name rfl) (ev_name rfl) bin_add_int)) (by rw [sOf_len]; unfold sizeLine; omega)).eq (by rw [slcT_mid hle])) (by kernel_rfl) (by decide +kernel)).eq ho
    · exact (ev_slice_str (lo := some (o : Int)) (hi := some ((o : Int) + ((i + 1 : Nat) : Int))) (ev_name rfl) (part_some (ev_name rfl)) (part_some (ev_bin (ev_name rfl) (ev_name rfl) bin_add_int)) (by rw [sOf_len]; unfold sizeLine; omega)).eq (by rw [slcT_mid hle])
    obtain ⟨s1, s2, ⟨r, s3⟩, s4⟩ := st
    have hlow : ∀ p ∈ pieces (t.drop o), ∀ c ∈ p, c < 128 := by
      intro p hp c hcp
      unfold pieces at hp
      obtain ⟨i, _, rfl⟩ := List.mem_map.mp hp
      exact hc c (List.mem_of_mem_drop (List.mem_of_mem_take hcp))
    rcases s4 with ⟨h1, x, rfl, h2, h3, h4⟩ | ⟨h1, h2⟩
    · have ho : o < t.length := by
        have := congrArg List.length s3
        rw [List.length_drop] at this; simp at this; omega
      have hx : t.getD o 0 = x := by
        have := congrArg (fun l : List Nat => l[0]?) s3
        rw [List.getElem?_drop] at this
        rw [List.getD_eq_getElem?_getD, show o = o + 0 by omega, this]; rfl
      rw [h1]
      refine exs_cons (ex_if_t ((tr_cmp (ev_name rfl) (ev_list evs_nil (by decide)) (cmp_strs_nil (l := []) (by simp))).eq rfl)
        (exs_cons (ex_assign (ev_list (evs_cons (Ev.flat (ev_sub (ev_name rfl) (ev_name rfl) (item_ch1 ho (by omega))) rfl) evs_nil) (by show 1 ≤ sizeLine; decide)))
          (exs_cons (ex_append rfl (by kernel_rfl) flats_intD rfl (ev_bin ev_int (ev_str_meth ev_str (evs_cons (ev_sub (ev_name rfl) (ev_name rfl) (item_ch1 ho (by omega))) evs_nil) (call_index (by rw [hx, abcde_find x h2 h3]; omega)) PySem.F.slot_str_index rfl) bin_add_int) (by rw [List.length_map]; unfold sizeLine; omega)) exs_nil))) ?_
      rw [hx, abcde_find x h2 h3]
      refine exs_cons (ex_aug_add rfl (ev_call_builtin (gv_B (by kernel_rfl) (by kernel_rfl) (by decide +kernel)) (evs_cons (ev_sub (ev_name rfl) (ev_neg ev_int) (last_item (qs := [[x]]) (p := [x]) rfl)) evs_nil) (call_len_str (by rw [sOf_len]; show 1 < 2 ^ 62; decide)) (by kernel_rfl) (by decide +kernel))) (exs_nil' (sub_upd ?_ (sub_upd ?_ (sub_upd rfl sub_emp))))
      · rfl
      · show some (D.list (intD cs ++ [.int _])) = some (.list (intD (cs ++ [code [x]])))
        rw [h4]; simp [intD]
    · have hq : pieces (t.drop o) ≠ [] := fun q => by rw [q] at h1; cases h1
      generalize pieces (t.drop o) = qs at h1 hq hlow ⊢
      refine exs_cons (ex_if_f ((tr_cmp (ev_name rfl) (ev_list evs_nil (by decide)) (cmp_strs_nil hlow)).eq (by cases qs; exact absurd rfl hq; rfl))
          (exs_cons (ex_append rfl (by kernel_rfl) flats_intD rfl (ev_sub_tab (m := code p) ett_tab (ev_sub (ev_name rfl) (ev_neg ev_int) (last_item h1)) (by rw [ett_look, h2]; rfl) (by kernel_rfl) (by decide +kernel)) (by rw [List.length_map]; unfold sizeLine; omega)) exs_nil)) ?_
      refine exs_cons (ex_aug_add rfl (ev_call_builtin (gv_B (by kernel_rfl) (by kernel_rfl) (by decide +kernel)) (evs_cons (ev_sub (ev_name rfl) (ev_neg ev_int) (last_item h1)) evs_nil) (call_len_str (by rw [sOf_len]; omega)) (by kernel_rfl) (by decide +kernel))) (exs_nil' (sub_upd ?_ (sub_upd ?_ (sub_upd rfl sub_emp))))
      · show some (D.int ((o : Int) + ((sOf p).length : Nat))) = some (D.int ((o + p.length : Nat) : Int)); rw [sOf_len]; rfl
      · show some (D.list (intD cs ++ [.int _])) = some (.list (intD (cs ++ [code p])))
        simp [intD]
  · refine (tr_cmp (ev_name rfl) (elen rfl hz (by kernel_rfl) (by decide +kernel)) cmp_int_lt).eq (decide_eq_false ?_)
    rw [List.take_length]; omega
  rw [List.take_length]
  have hcz : (ts.map code).length ≤ 64 := by rw [List.length_map]; exact hts
  refine exs_ret (ex_ret ((ev_bin (ev_name rfl) (ev_list (evs_cons ev_int evs_nil) (by decide)) (bin_add_list flats_intD rfl (by rw [List.length_map]; unfold sizeLine; simp only [List.length_cons, List.length_nil]; omega))).eq (by simp [intD])))
end Mine
end
section
open PySem PySem.W PyProof.Rows PySem.Calls
set_option linter.unusedSectionVars false
set_option linter.unusedVariables false
set_option maxRecDepth 100000
set_option maxHeartbeats 4000000
namespace Mine
variable [Bd]
variable {w : World} {mg mb : PySem.Str → Option Value} {n : Nat}
structure WS where
  names : List Int
  words : List PySem.Str
  signs : List Int
  opens : List Int
  count : Int
noncomputable def wnon (way : Int) (st : WS) (y : Int) : WS := if 256 ≤ y then { st with names := st.names ++ [y - 256], words := st.words ++ [lword st.opens way] } else st
noncomputable def wstep (way : Int) (st : WS) (y : Int) : WS :=
  let s1 := wnon way st y
  if y = 7 then { s1 with opens := s1.opens ++ [s1.count], count := s1.count + 1 }
  else if y = 8 then { s1 with opens := s1.opens.dropLast }
  else if y < 256 ∧ y ≠ 0 then { s1 with signs := s1.signs ++ [y] } else s1
noncomputable def wst (way : Int) (ys : List Int) (k : Nat) : WS := (ys.take k).foldl (wstep way) ⟨[], [], [], [], 0⟩
theorem wst_succ {way : Int} {ys : List Int} {k : Nat} {y : Int} (h : ys[k]? = some y) : wst way ys (k + 1) = wstep way (wst way ys k) y := by
  unfold wst
  rw [List.take_add_one, h, Option.toList_some, List.foldl_append]; rfl
noncomputable def tD (l : List PySem.Str) : List D := l.map .str
theorem flats_tD {l : List PySem.Str} : flats (tD l) = true := by
  induction l with
  | nil => rfl
  | cons a l ih => exact ih
noncomputable def wG (ys : List Int) (way : Int) (st : WS) : Ctx :=
  upd (upd (upd (upd (upd (upd (upd emp (S "symbols") (.list (intD ys))) (S "way") (.int way)) (S "names") (.list (intD st.names))) (S "words") (.list (tD st.words))) (S "signs") (.list (intD st.signs))) (S "opens") (.list (intD st.opens))) (S "count") (.int st.count)
theorem wst_len {way : Int} {ys : List Int} : ∀ k, (wst way ys k).names.length ≤ k ∧ (wst way ys k).words.length ≤ k ∧ (wst way ys k).signs.length ≤ k ∧ (wst way ys k).opens.length ≤ k
  | 0 => ⟨Nat.le_refl _, Nat.le_refl _, Nat.le_refl _, Nat.le_refl _⟩
  | k + 1 => by
    obtain ⟨h1, h2, h3, h4⟩ := wst_len (way := way) (ys := ys) k
    cases q : ys[k]? with
    | none =>
      have : wst way ys (k + 1) = wst way ys k := by unfold wst; rw [List.take_add_one, q]; simp
      rw [this]; exact ⟨by omega, by omega, by omega, by omega⟩
    | some y =>
      rw [wst_succ q]
      unfold wstep wnon
      dsimp only
      split <;> (try split) <;> (try split) <;> (try split) <;> (try simp only [List.length_append, List.length_cons, List.length_nil, List.length_dropLast]) <;> exact ⟨by omega, by omega, by omega, by omega⟩
theorem intD_snoc {l : List Int} {x : Int} : some (D.list (intD l ++ [.int x])) = some (D.list (intD (l ++ [x]))) := by simp [intD]
theorem tD_snoc {l : List PySem.Str} {x : PySem.Str} : some (D.list (tD l ++ [.str x])) = some (D.list (tD (l ++ [x]))) := by simp [tD]
theorem c_walk {ys : List Int} {way : Int} (hz : ys.length ≤ 64) (hp : ∀ k, ys[k]? = some 8 → (wst way ys k).opens ≠ []) : CallV (cx w mg mb) (n + 2) (.ref 186) [.list (intD ys), .int way] (.tuple [.list (intD (wst way ys ys.length).names), .list (tD (wst way ys ys.length).words), .list (intD (wst way ys ys.length).signs)]) := by
  refine call_def (ps := [S "symbols", S "way"]) ⟨_, _, rfl, rfl, by kernel_rfl, rfl, rfl, rfl, rfl, rfl, bind2 (fun _ _ => rfl) rfl⟩ rfl (by kernel_rfl) ?_
  refine exs_cons (ex_assign (ev_list evs_nil (by decide))) ?_
  refine exs_cons (ex_assign (ev_list evs_nil (by decide))) ?_
  refine exs_cons (ex_assign (ev_list evs_nil (by decide))) ?_
  refine exs_cons (ex_assign (ev_list evs_nil (by decide))) ?_
  refine exs_cons (ex_assign ev_int) ?_
  refine Exs.weak (Γ := wG ys way ⟨[], [], [], [], 0⟩) ?_ (sub_upd rfl (sub_upd rfl (sub_upd rfl (sub_upd rfl (sub_upd rfl (sub_upd rfl (sub_upd rfl sub_emp)))))))
  refine exs_cons (ex_for_gen (src_param rfl (by kernel_rfl) (nols_flats flats_intD)) (fun k => wG ys way (wst way ys k)) rfl ys.length (by rw [List.length_map]; exact Nat.le_refl _) [] (.next (wG ys way (wst way ys ys.length))) rfl (.inl (by kernel_rfl)) (fun _ _ => rfl) (fun k d hk hd => ?_) (.inl ⟨by rw [List.length_map], exs_nil⟩)) ?_
  · have hy : ys[k]? = some ys[k] := List.getElem?_eq_getElem hk
    generalize ys[k] = y at hy
    have : (intD ys)[k]? = some (.int y) := by simp [intD, hy]
    rw [this] at hd; cases hd
    dsimp only
    rw [wst_succ hy]
    obtain ⟨z1, z2, z3, z4⟩ := wst_len (way := way) (ys := ys) k
    have hpk := hp k
    rw [hy] at hpk
    generalize wst way ys k = st at z1 z2 z3 z4 hpk ⊢
    refine Exs.weak (Γ := upd (wG ys way st) (S "symbol") (.int y)) ?_ sub_rfl
    -- names and words
    refine exs_cons (Γ' := upd (wG ys way (wnon way st y)) (S "symbol") (.int y)) (ex_if (tr_val (ev_call_def (gv_K (c := cx w mg mb) (v := .ref 150) (by kernel_rfl)) rfl rfl (evs_cons (ev_name rfl) evs_nil) (c_isnonterminal (x := y)) (by kernel_rfl) (by kernel_rfl)) tru_bool) (fun h => ?_) (fun h => ?_)) ?_
    · have h' : 256 ≤ y := of_decide_eq_true h
      have e : wnon way st y = { st with names := st.names ++ [y - 256], words := st.words ++ [lword st.opens way] } := if_pos h'
      rw [e]
      exact exs_cons (ex_append rfl (by kernel_rfl) flats_intD rfl (ev_bin (ev_name rfl) ev_int bin_sub_int) (by rw [List.length_map]; unfold sizeLine; omega)) (exs_cons (ex_append rfl (by kernel_rfl) flats_tD rfl (ev_call_def (gv_K (c := cx w mg mb) (v := .ref 179) (by kernel_rfl)) rfl rfl (evs_cons (ev_name rfl) (evs_cons (ev_name rfl) evs_nil)) c_word (by kernel_rfl) (by kernel_rfl)) (by unfold tD; rw [List.length_map]; unfold sizeLine; omega)) (exs_nil' (sub_upd rfl (sub_upd rfl (sub_upd rfl (sub_upd rfl (sub_upd tD_snoc (sub_upd intD_snoc (sub_upd rfl (sub_upd rfl sub_emp))))))))))
    · have h' : ¬ 256 ≤ y := of_decide_eq_false h
      have e : wnon way st y = st := if_neg h'
      rw [e]; exact exs_nil
    have q1 : (wnon way st y).opens = st.opens := by unfold wnon; split <;> rfl
    have q2 : (wnon way st y).signs = st.signs := by unfold wnon; split <;> rfl
    unfold wstep
    dsimp only
    generalize wnon way st y = s1 at q1 q2 ⊢
    by_cases y7 : y = 7
    · subst y7
      rw [if_pos rfl]
      exact exs_cons (ex_if_t (tr_cmp (ev_name rfl) ev_int cmp_int_eq) (exs_cons (ex_append rfl (by kernel_rfl) flats_intD rfl (ev_name rfl) (by rw [List.length_map, q1]; unfold sizeLine; omega)) (exs_cons (ex_aug_add rfl ev_int) exs_nil))) (exs_nil' (sub_upd rfl (sub_upd intD_snoc (sub_upd rfl (sub_upd rfl (sub_upd rfl (sub_upd rfl (sub_upd rfl sub_emp))))))))
    rw [if_neg y7]
    by_cases y8 : y = 8
    · subst y8
      rw [if_pos rfl]
      obtain ⟨os, o, ho⟩ : ∃ os o, s1.opens = os ++ [o] := ⟨s1.opens.dropLast, s1.opens.getLast (by rw [q1]; exact hpk rfl), (List.dropLast_concat_getLast _).symm⟩
      have hΓ : ∀ {Γ : Ctx}, Γ (S "opens") = some (.list (intD s1.opens)) → Γ (S "opens") = some (.list (intD os ++ [.int o])) := fun h => by rw [h, ho]; simp [intD]
      have hz' : os.length ≤ 64 := by have := congrArg List.length ho; rw [q1] at this; simp at this; omega
      rw [ho, List.dropLast_concat]
      exact exs_cons (ex_if_f (tr_cmp (ev_name rfl) ev_int cmp_int_eq) (exs_cons (ex_if_t (tr_cmp (ev_name rfl) ev_int cmp_int_eq) (exs_cons (ex_pop (hΓ rfl) (by kernel_rfl) flats_intD (by rw [List.length_map]; unfold sizeLine; omega)) exs_nil)) exs_nil)) (exs_nil' (sub_upd rfl (sub_upd rfl (sub_upd rfl (sub_upd rfl (sub_upd rfl (sub_upd rfl (sub_upd rfl sub_emp))))))))
    rw [if_neg y8]
    have e7 : (y == 7) = false := by simpa using y7
    have e8 : (y == 8) = false := by simpa using y8
    by_cases hs : y < 256 ∧ y ≠ 0
    · rw [if_pos hs]
      refine exs_cons (ex_if_f ((tr_cmp (ev_name rfl) ev_int cmp_int_eq).eq e7) (exs_cons (ex_if_f ((tr_cmp (ev_name rfl) ev_int cmp_int_eq).eq e8) (exs_cons (ex_if_t ((tr_and2 (tr_val (ev_call_def (gv_K (c := cx w mg mb) (v := .ref 143) (by kernel_rfl)) rfl rfl (evs_cons (ev_name rfl) evs_nil) (c_isterminal (x := y)) (by kernel_rfl) (by kernel_rfl)) tru_bool) (fun _ => tr_not (tr_val (ev_call_def (gv_K (c := cx w mg mb) (v := .ref 157) (by kernel_rfl)) rfl rfl (evs_cons (ev_name rfl) evs_nil) (c_iseof (x := y)) (by kernel_rfl) (by kernel_rfl)) tru_bool))).eq ?_) (exs_cons (ex_append rfl (by kernel_rfl) flats_intD rfl (ev_name rfl) (by rw [List.length_map, q2]; unfold sizeLine; omega)) exs_nil)) exs_nil)) exs_nil)) (exs_nil' (sub_upd rfl (sub_upd rfl (sub_upd intD_snoc (sub_upd rfl (sub_upd rfl (sub_upd rfl (sub_upd rfl sub_emp))))))))
      have e0 : (y == 0) = false := by simpa using hs.2
      rw [decide_eq_true hs.1, e0]; rfl
    · rw [if_neg hs]
      refine exs_cons (ex_if_f ((tr_cmp (ev_name rfl) ev_int cmp_int_eq).eq e7) (exs_cons (ex_if_f ((tr_cmp (ev_name rfl) ev_int cmp_int_eq).eq e8) (exs_cons (ex_if_f ((tr_and2 (tr_val (ev_call_def (gv_K (c := cx w mg mb) (v := .ref 143) (by kernel_rfl)) rfl rfl (evs_cons (ev_name rfl) evs_nil) (c_isterminal (x := y)) (by kernel_rfl) (by kernel_rfl)) tru_bool) (fun _ => tr_not (tr_val (ev_call_def (gv_K (c := cx w mg mb) (v := .ref 157) (by kernel_rfl)) rfl rfl (evs_cons (ev_name rfl) evs_nil) (c_iseof (x := y)) (by kernel_rfl) (by kernel_rfl)) tru_bool))).eq ?_) exs_nil) exs_nil)) exs_nil)) (exs_nil' (sub_upd rfl (sub_upd rfl (sub_upd rfl (sub_upd rfl (sub_upd rfl (sub_upd rfl (sub_upd rfl sub_emp))))))))
      by_cases h1 : y < 256
      · have h0 : y = 0 := by
          by_cases h0 : y = 0
          · exact h0
          · exact absurd ⟨h1, h0⟩ hs
        subst h0; rfl
      · rw [decide_eq_false h1]; rfl
  exact exs_ret (ex_ret_own3 rfl rfl rfl (by kernel_rfl) (by kernel_rfl) (by kernel_rfl))
end Mine
end
section
open PySem PySem.W PyProof.Rows PySem.Calls
set_option linter.unusedSectionVars false
set_option linter.unusedVariables false
set_option maxRecDepth 100000
set_option maxHeartbeats 4000000
namespace Mine
variable [Bd]
variable {w : World} {mg mb : PySem.Str → Option Value} {n : Nat}
noncomputable def dep (x : Nat) (d : Int) : Int := d + (if x = 40 then 1 else 0) - (if x = 41 then 1 else 0)
noncomputable def clo : List Nat → Int → Nat
  | [], _ => 0
  | x :: r, d => if dep x d ≤ 0 then 1 else 1 + clo r (dep x d)
noncomputable def closes : List Nat → Int → Bool
  | [], _ => false
  | x :: r, d => decide (dep x d ≤ 0) || closes r (dep x d)
theorem clo_le : ∀ (l : List Nat) (d : Int), clo l d ≤ l.length
  | [], _ => Nat.le_refl _
  | x :: r, d => by
    unfold clo
    have := clo_le r (dep x d)
    split <;> simp only [List.length_cons] <;> omega
theorem clo_in : ∀ (l : List Nat) (d : Int) (k : Nat), 1 ≤ k → k < clo l d → 0 < d + cnt 40 (l.take k) - cnt 41 (l.take k)
  | [], _, k, _, h => by simp [clo] at h
  | x :: r, d, k, h1, h => by
    unfold clo at h
    by_cases q : dep x d ≤ 0
    · rw [if_pos q] at h; omega
    · rw [if_neg q] at h
      obtain ⟨j, rfl⟩ : ∃ j, k = j + 1 := ⟨k - 1, by omega⟩
      rw [List.take_succ_cons, cnt_cons, cnt_cons]
      by_cases hj : j = 0
      · subst hj
        rw [List.take_zero, cnt_nil, cnt_nil]
        unfold dep at q; omega
      · have := clo_in r (dep x d) j (by omega) (by omega)
        unfold dep at this; omega
theorem clo_at : ∀ (l : List Nat) (d : Int), closes l d = true → d + cnt 40 (l.take (clo l d)) - cnt 41 (l.take (clo l d)) ≤ 0 ∧ 1 ≤ clo l d
  | [], _, h => nomatch h
  | x :: r, d, h => by
    unfold closes at h
    unfold clo
    by_cases q : dep x d ≤ 0
    · rw [if_pos q]
      rw [show (1 : Nat) = 0 + 1 from rfl, List.take_succ_cons, List.take_zero, cnt_cons, cnt_cons, cnt_nil, cnt_nil]
      unfold dep at q; omega
    · rw [if_neg q]
      rw [decide_eq_false q, Bool.false_or] at h
      obtain ⟨h1, h2⟩ := clo_at r (dep x d) h
      rw [show 1 + clo r (dep x d) = clo r (dep x d) + 1 by omega, List.take_succ_cons, cnt_cons, cnt_cons]
      unfold dep at h1 ⊢; omega
noncomputable def seg (t : List Nat) (i : Nat) : List Nat := (t.drop i).take (clo (t.drop i) 0)
noncomputable def segs (t : List Nat) (k : Nat) : List (List Nat) := ((List.range k).filter fun i => t.getD i 0 == 40).map (seg t)
theorem segs_succ {t : List Nat} {k : Nat} : segs t (k + 1) = if t.getD k 0 = 40 then segs t k ++ [seg t k] else segs t k := by
  unfold segs
  rw [List.range_succ, List.filter_append, List.map_append]
  by_cases h : t.getD k 0 = 40
  · rw [if_pos h]; simp only [List.filter_cons, h, List.filter_nil]; rfl
  · rw [if_neg h]
    have : (t.getD k 0 == 40) = false := by simpa using h
    simp only [List.filter_cons, this, List.filter_nil]; simp
theorem segs_len {t : List Nat} : ∀ k, (segs t k).length ≤ k := fun k => by
  unfold segs; rw [List.length_map]
  exact Nat.le_trans (List.length_filter_le _ _) (by simp)
noncomputable def heldSum (ps : List Int) (held : List (List Nat)) (p q : Nat) : Int := (((List.range 3).filter fun k => decide (p ∈ held.getD k []) && decide (q ∈ held.getD k [])).map fun k => ps.getD k 0).sum
noncomputable def told4 (ps : List Int) (t : List Nat) : List Int := (List.range 4).map fun i => 2 * heldSum ps (segs t t.length) (97 + i) (98 + i)
theorem cmp_in_ch {c : Cx} {x : Nat} {l : List Nat} : Cmp c n .In (.str (ch1 x)) (.str (sOf l)) (decide (x ∈ l)) := by
  have := cmp_in_str (c := c) (n := n) (a := ch1 x) (b := sOf l)
  rw [show ch1 x = (⟨#[x]⟩ : PySem.Str) from rfl, PySem.StrLaws.found_one (sOf l) x] at this
  exact this
theorem count_ch (l : List Nat) (x : Nat) : Txt.count (sOf l) (ch1 x) = cnt x l := count_is (sOf l) x
noncomputable def hG (t : List Nat) (ps : List Int) (k : Nat) : Ctx := upd (upd (upd emp (S "text") (.str (sOf t))) (S "prices") (.list (intD ps))) (S "held") (.list (strD (segs t k)))
noncomputable def eG (t : List Nat) (ps : List Int) (hs : List (List Nat)) (k e : Nat) : Ctx := upd (upd (upd (upd (upd emp (S "text") (.str (sOf t))) (S "prices") (.list (intD ps))) (S "held") (.list (strD hs))) (S "at") (.int k)) (S "end") (.int ((k : Int) + (e : Nat)))
theorem c_held {t : List Nat} {ps : List Int} (hz : t.length ≤ 64) (h3 : (segs t t.length).length = 3) (hcl : ∀ i, i < t.length → t.getD i 0 = 40 → closes (t.drop i) 0 = true) (hp : ps.length = 3) : CallV (cx w mg mb) (n + 1) (.ref 191) [.str (sOf t), .list (intD ps)] (.list (intD (told4 ps t))) := by
  refine call_def (ps := [S "text", S "prices"]) ⟨_, _, rfl, rfl, by kernel_rfl, rfl, rfl, rfl, rfl, rfl, bind2 (fun _ _ => rfl) rfl⟩ rfl (by kernel_rfl) ?_
  refine exs_cons (ex_assign (ev_list evs_nil (by decide))) ?_
  have elen : ∀ {sc : Scope} {Γ : Ctx} {x : PySem.Str} {p1 p2 p3 : Pos} {l : List Nat}, Γ x = some (.str (sOf l)) → l.length ≤ 64 → sc.names.lookup (S "len") = some .globalImplicit → (x == ("__debug__" : PySem.Str)) = false → ∀ {fr : Bool}, Ev (cx w mg mb) n sc Γ fr (.Call (.Name (S "len") p1) [.Name x p2] [] p3) (.int l.length) := by
    intro sc Γ x p1 p2 p3 l e hl hk hd fr
    refine (ev_call_builtin (gv_B (by kernel_rfl) (by kernel_rfl) (by decide +kernel)) (evs_cons (ev_name e hd) evs_nil) (call_len_str (by rw [sOf_len]; omega)) hk (by decide +kernel)).eq (by rw [sOf_len])
  refine Exs.weak (Γ := hG t ps 0) ?_ (sub_upd rfl (sub_upd rfl (sub_upd rfl sub_emp)))
  have lpar : S "(" = ch1 40 := by decide +kernel
  have rpar : S ")" = ch1 41 := by decide +kernel
  refine exs_cons (ex_for_gen (src_range (k := t.length) (gv_B (by kernel_rfl) (by kernel_rfl) (by decide +kernel)) (elen rfl hz (by kernel_rfl) (by decide +kernel)) (by omega) (by omega) (by kernel_rfl)) (fun k => hG t ps k) rfl t.length (by rw [rng_length]; omega) [] (.next (hG t ps t.length)) rfl (.inl (by kernel_rfl)) (fun _ _ => rfl) (fun k d hk hd => ?_) (.inl ⟨by rw [rng_length]; omega, exs_nil⟩)) ?_
  · rw [rng_get (by omega)] at hd; cases hd
    have hsl := segs_len (t := t) k
    have hck := hcl k hk
    show Exs _ _ _ _ _ _ (.next (upd (upd (upd emp (S "text") (.str (sOf t))) (S "prices") (.list (intD ps))) (S "held") (.list (strD (segs t (k + 1))))))
    rw [segs_succ]
    unfold hG
    unfold seg
    generalize segs t k = hs at hsl ⊢
    by_cases hx : t.getD k 0 = 40
    · rw [if_pos hx]
      obtain ⟨g1, g2⟩ := clo_at _ _ (hck hx)
      have g3 := clo_le (t.drop k) 0
      rw [List.length_drop] at g3
      have gi := clo_in (t.drop k) 0
      generalize clo (t.drop k) 0 = m at g1 g2 g3 gi ⊢
      have hsl1 : ∀ {sc : Scope} {Γ : Ctx} {x y z : PySem.Str} {p1 p2 p3 p4 p5 : Pos} {e : Nat}, Γ x = some (.str (sOf t)) → Γ y = some (.int k) → Γ z = some (.int ((k : Int) + (e : Nat))) → (x == ("__debug__" : PySem.Str)) = false → (y == ("__debug__" : PySem.Str)) = false → (z == ("__debug__" : PySem.Str)) = false →
          Ev (cx w mg mb) n sc Γ false (.Subscript (.Name x p1) (.Slice (some (.Name y p2)) (some (.Name z p3)) none p4) p5) (.str (sOf ((t.drop k).take e))) := by
        intro sc Γ x y z p1 p2 p3 p4 p5 e e1 e2 e3 d1 d2 d3
        exact (ev_slice_str (lo := some (k : Int)) (hi := some ((k : Int) + (e : Nat))) (ev_name e1 d1) (part_some (ev_name e2 d2)) (part_some (ev_name e3 d3)) (by rw [sOf_len]; unfold sizeLine; omega)).eq (by rw [slcT_mid (by omega)])
      have hcnt : ∀ l : List Nat, Txt.count (sOf l) (S "(") = cnt 40 l ∧ Txt.count (sOf l) (S ")") = cnt 41 l := fun l => by rw [lpar, rpar, count_ch, count_ch]; exact ⟨rfl, rfl⟩
      refine exs_cons (Γ' := upd (upd (upd emp (S "text") (.str (sOf t))) (S "prices") (.list (intD ps))) (S "held") (.list (strD (hs ++ [(t.drop k).take m])))) (ex_if_t ((tr_cmp (ev_sub (ev_name rfl) (ev_name rfl) (item_ch1 hk (by omega))) ev_str cmp_str_eq).eq (by show (ch1 _ == S "(") = true; rw [lpar, hx]; rfl)) (exs_cons (ex_assign (ev_bin (ev_name rfl) ev_int bin_add_int)) ?_)) exs_nil
      refine Exs.weak (Γ := eG t ps hs k 1) ?_ (sub_upd rfl (sub_upd rfl (sub_upd rfl (sub_upd rfl (sub_upd rfl sub_emp)))))
      refine exs_cons (ex_while (fun i => eG t ps hs k (1 + i)) (m - 1) rfl (fun i hi => ?_) (fun i hi => ?_) ?_) ?_
      · refine (tr_cmp (ev_str_meth (hsl1 rfl rfl rfl (by decide +kernel) (by decide +kernel) (by decide +kernel)) (evs_cons ev_str evs_nil) call_count PySem.F.slot_str_count rfl) (ev_str_meth (hsl1 rfl rfl rfl (by decide +kernel) (by decide +kernel) (by decide +kernel)) (evs_cons ev_str evs_nil) call_count PySem.F.slot_str_count rfl) cmp_int_gt).eq (decide_eq_true ?_)
        show Txt.count (sOf ((t.drop k).take (1 + i))) (S ")") < Txt.count (sOf ((t.drop k).take (1 + i))) (S "(")
        rw [(hcnt _).1, (hcnt _).2]
        have := gi (1 + i) (by omega) (by omega)
        omega
      · exact exs_cons (ex_aug_add rfl ev_int) (exs_nil' (sub_upd (by show some (D.int ((k : Int) + ((1 + i : Nat) : Int) + 1)) = some (.int ((k : Int) + ((1 + (i + 1) : Nat) : Int))); congr 2) (sub_upd rfl (sub_upd rfl (sub_upd rfl (sub_upd rfl sub_emp))))))
      · refine (tr_cmp (ev_str_meth (hsl1 rfl rfl rfl (by decide +kernel) (by decide +kernel) (by decide +kernel)) (evs_cons ev_str evs_nil) call_count PySem.F.slot_str_count rfl) (ev_str_meth (hsl1 rfl rfl rfl (by decide +kernel) (by decide +kernel) (by decide +kernel)) (evs_cons ev_str evs_nil) call_count PySem.F.slot_str_count rfl) cmp_int_gt).eq (decide_eq_false ?_)
        show ¬ Txt.count (sOf ((t.drop k).take (1 + (m - 1)))) (S ")") < Txt.count (sOf ((t.drop k).take (1 + (m - 1)))) (S "(")
        rw [show 1 + (m - 1) = m by omega, (hcnt _).1, (hcnt _).2]
        omega
      · rw [show 1 + (m - 1) = m by omega]
        exact exs_cons (ex_append rfl (by kernel_rfl) flats_strD rfl (hsl1 rfl rfl rfl (by decide +kernel) (by decide +kernel) (by decide +kernel)) (by unfold strD; rw [List.length_map]; unfold sizeLine; omega)) (exs_nil' (sub_upd (by show some (D.list (strD hs ++ [.str _])) = some (.list (strD (hs ++ [_]))); simp [strD]) (sub_upd rfl (sub_upd rfl sub_emp))))
    · rw [if_neg hx]
      refine exs_cons (ex_if_f ((tr_cmp (ev_sub (ev_name rfl) (ev_name rfl) (item_ch1 hk (by omega))) ev_str cmp_str_eq).eq (by show (ch1 _ == S "(") = false; rw [lpar, ch1_beq]; exact decide_eq_false hx)) exs_nil) (exs_nil' (sub_upd rfl (sub_upd rfl (sub_upd rfl sub_emp))))
  have e1 : Str.ofString "ab" = sOf [97, 98] := by decide +kernel
  have e2 : Str.ofString "bc" = sOf [98, 99] := by decide +kernel
  have e3 : Str.ofString "cd" = sOf [99, 100] := by decide +kernel
  have e4 : Str.ofString "de" = sOf [100, 101] := by decide +kernel
  refine exs_cons (ex_assign (d := .list (strD [[97, 98], [98, 99], [99, 100], [100, 101]])) ((ev_list (evs_cons ev_str (evs_cons ev_str (evs_cons ev_str (evs_cons ev_str evs_nil)))) (by decide)).eq (by rw [e1, e2, e3, e4]; rfl))) ?_
  unfold hG told4
  generalize hh : segs t t.length = hs at h3 ⊢
  refine exs_ret (ex_ret (Ev.eq (ev_comp (ds := strD [[97, 98], [98, 99], [99, 100], [100, 101]]) (fun i => upd emp (S "pair") (.str (sOf [97 + i, 98 + i]))) (fun _ => true) (fun i => .int (2 * heldSum ps hs (97 + i) (98 + i))) (itsrc_list (ev_name rfl) (nols_flats flats_strD)) (by kernel_rfl) ?_ (by decide) (by intro _ _; rfl) (.inl ⟨_, _, rfl⟩) (fun i d hd => ?_) (fun i d hd => ?_) (fun i d hd _ => ?_) (fun i d hd _ => ?_)) ?_))
  · exact ⟨⟨_, rfl⟩, ⟨_, rfl⟩, trivial⟩
  · have hi : i = 0 ∨ i = 1 ∨ i = 2 ∨ i = 3 := by
      have : i < 4 := (List.getElem?_eq_some_iff.mp hd).1
      omega
    rcases hi with rfl | rfl | rfl | rfl <;> (cases hd; exact .cell (by kernel_rfl))
  · exact rfl
  · refine ev_bin ev_int (ev_call_builtin (gv_B (by kernel_rfl) (by kernel_rfl) (by decide +kernel)) (evs_cons ((ev_comp (ds := rng 3) (fun k => upd emp (S "k") (.int k)) (fun k => decide (97 + i ∈ hs.getD k []) && decide (98 + i ∈ hs.getD k [])) (fun k => .int (ps.getD k 0)) (itsrc_range (k := 3) (gv_B (by kernel_rfl) (by kernel_rfl) (by decide +kernel)) ev_int (by decide) (by decide) (by kernel_rfl)) (by kernel_rfl) ?_ (by decide) (by intro _ _; rfl) (.inl ⟨_, _, rfl⟩) (fun k d hd => ?_) (fun k d hd => ?_) (fun k d hd _ => ?_) (fun k d hd _ => ?_)).eq ?_) evs_nil) call_sum (by kernel_rfl) (by decide +kernel)) (bin_mul_int mul2L)
    · exact ⟨⟨_, rfl⟩, ⟨_, rfl⟩, ⟨_, rfl⟩, trivial⟩
    · have hk : k < 3 := by
        have := (List.getElem?_eq_some_iff.mp hd).1
        rw [rng_length] at this; exact this
      rw [rng_get hk] at hd; cases hd
      exact .loc (by kernel_rfl)
    · have hk : k < 3 := by
        have := (List.getElem?_eq_some_iff.mp hd).1
        rw [rng_length] at this; exact this
      have hg : (strD hs)[k]? = some (.str (sOf (hs.getD k []))) := by
        have : k < hs.length := by omega
        simp [strD, this]
      exact tr_and2 (tr_cmp (ev_sub (ev_name rfl) ev_int (item_ch1 (a := [97 + i, 98 + i]) (k := 0) (by show 0 < 2; decide) (by show 2 ≤ 2 ^ 24; decide))) (ev_sub (ev_name rfl) (ev_name rfl) (item_list (by omega) (by omega) (by rw [Int.toNat_natCast]; exact hg))) cmp_in_ch) (fun _ => tr_cmp (ev_sub (ev_name rfl) ev_int (item_ch1 (a := [97 + i, 98 + i]) (k := 1) (by show 1 < 2; decide) (by show 2 ≤ 2 ^ 24; decide))) (ev_sub (ev_name rfl) (ev_name rfl) (item_list (by omega) (by omega) (by rw [Int.toNat_natCast]; exact hg))) cmp_in_ch)
    · have hk : k < 3 := by
        have := (List.getElem?_eq_some_iff.mp hd).1
        rw [rng_length] at this; exact this
      exact ev_sub (ev_name rfl) (ev_name rfl) (item_list (by omega) (by omega) (by rw [Int.toNat_natCast]; exact intD_get (by omega)))
    · rfl
    · show D.list _ = .list (intD (((List.range 3).filter fun k => decide (97 + i ∈ hs.getD k []) && decide (98 + i ∈ hs.getD k [])).map fun k => ps.getD k 0))
      unfold intD; rw [List.map_map]; rfl
  · rfl
  · show D.list (((List.range 4).filter fun _ => true).map _) = .list (intD ((List.range 4).map fun i => 2 * heldSum ps hs (97 + i) (98 + i)))
    rfl
end Mine
end
section
open PySem PySem.W PyProof.Rows PySem.Calls
set_option linter.unusedSectionVars false
set_option linter.unusedVariables false
set_option maxRecDepth 100000
set_option maxHeartbeats 4000000
namespace Mine
variable [Bd]
section
variable {c : Cx} {n : Nat} {sc : Scope} {Γ Γ' : Ctx} {P : PySem.Str → Bool}
theorem ex_try_while' {t : PySem.Expr} {b : List PySem.Stmt} {zp cp rp hp wp tp : Pos} {k : Nat} (gz : GV c ZDE (.type ZDE)) (G : Nat → Ctx) (m : Nat) (h0 : G 0 = Γ) (ht : ∀ i, i ≤ m → Tr c n sc (G i) t true) (hb : ∀ i, i < m → Exs c n sc P (G i) b (.next (G (i + 1)))) (hr : Exs c n sc P (G m) b .fly)
    (hk : sc.names.lookup (ZDE : PySem.Str) = some .globalImplicit := by decide +kernel) :
    Ex c n sc P Γ (.Try [.While t b [] wp] [.ExceptHandler (some (.Name ZDE zp)) none [.Return (some (.Constant .none k cp)) rp] hp] [] [] tp) (.ret .none) := by
  subst h0
  intro env A s0 s E Q F ok W V h
  obtain ⟨l, hfr, _⟩ := W.stk
  refine wpAny_Try_except (wpAny_execs_cons ?_)
  refine wpAny_While (codeAny_whileLoop (fun k s' => ∃ i, i ≤ m ∧ k = m - i ∧ Fs s0 env P (G i) s') (fun k s' hI => ?_) m ⟨0, Nat.zero_le _, rfl, V⟩)
  obtain ⟨i, hi, rfl, Vi⟩ := hI
  refine ht i hi env A s' _ _ F ok (Vi.wd W) Vi.toVars fun s₁ k₁ => ?_
  rw [if_pos rfl]
  by_cases q : i = m
  · subst q
    refine hr env A s0 s₁ _ _ F ok W (Vi.grow k₁) fun l' e s₂ el x => ?_
    rw [hfr] at el; cases el
    refine loop_fly hfr W.fm x fun s₃ x₃ => ?_
    refine try_held hfr W.fm x₃ fun s₄ x₄ => ?_
    refine handle_zde gz F W.toWd0 hk x₄ fun E' s₅ x₅ => ?_
    exact wpAny_execs_cons (wpAny_Return_some (wpAny_Constant_none (h .none [] s₅ x₅.kp .none fun a ha => nomatch ha)))
  · exact hb i (by omega) env A s0 s₁ _ _ F ok W (Vi.grow k₁) fun s₂ V₂ => ⟨m - (i + 1), by omega, i + 1, by omega, rfl, V₂⟩
end
variable {w : World} {mg mb : PySem.Str → Option Value} {n : Nat}
theorem c_deed {k : Nat} {x y z : Wv} (hk : k < 14) (hz : wop k x y = some z) (hm : k = 2 → IntMulOk x.z y.z) : CallV (cx w mg mb) (n + 2) (.ref 198) [.int (tokOf k), x.d, y.d] z.d := by
  have e : z = (wop k x y).getD (.i 0) := by rw [hz]; rfl
  have h : k = 0 ∨ k = 1 ∨ k = 2 ∨ k = 3 ∨ k = 4 ∨ k = 5 ∨ k = 6 ∨ k = 7 ∨ k = 8 ∨ k = 9 ∨ k = 10 ∨ k = 11 ∨ k = 12 ∨ k = 13 := lt14 k hk
  rcases h with rfl | rfl | rfl | rfl | rfl | rfl | rfl | rfl | rfl | rfl | rfl | rfl | rfl | rfl
  · rw [e]; exact deed_0
  · rw [e]; exact deed_1
  · rw [e]; exact deed_2 (hm rfl)
  · rw [e]; exact deed_3
  · rw [e]; exact deed_4
  · rw [e]; exact deed_5
  · change (if y.z = 0 then none else some (Wv.i (x.z.fdiv y.z))) = some z at hz
    by_cases h : y.z = 0
    · rw [if_pos h] at hz; cases hz
    · rw [if_neg h] at hz; cases hz; exact deed_6 h
  · change (if y.z = 0 then none else some (Wv.i (x.z.fmod y.z))) = some z at hz
    by_cases h : y.z = 0
    · rw [if_pos h] at hz; cases hz
    · rw [if_neg h] at hz; cases hz; exact deed_7 h
  · rw [e]; exact deed_8
  · rw [e]; exact deed_9
  · rw [e]; exact deed_10
  · rw [e]; exact deed_11
  · rw [e]; exact deed_12
  · rw [e]; exact deed_13
theorem r_deed {k : Nat} {x y : Wv} (hk : k < 14) (hz : wop k x y = none) : CallR (cx w mg mb) (n + 2) (.ref 198) [.int (tokOf k), x.d, y.d] := by
  have h : k = 0 ∨ k = 1 ∨ k = 2 ∨ k = 3 ∨ k = 4 ∨ k = 5 ∨ k = 6 ∨ k = 7 ∨ k = 8 ∨ k = 9 ∨ k = 10 ∨ k = 11 ∨ k = 12 ∨ k = 13 := lt14 k hk
  rcases h with rfl | rfl | rfl | rfl | rfl | rfl | rfl | rfl | rfl | rfl | rfl | rfl | rfl | rfl
  case inr.inr.inr.inr.inr.inr.inl =>
    change (if y.z = 0 then none else some (Wv.i (x.z.fdiv y.z))) = none at hz
    by_cases h : y.z = 0
    · exact deedR_6 h
    · rw [if_neg h] at hz; cases hz
  case inr.inr.inr.inr.inr.inr.inr.inl =>
    change (if y.z = 0 then none else some (Wv.i (x.z.fmod y.z))) = none at hz
    by_cases h : y.z = 0
    · exact deedR_7 h
    · rw [if_neg h] at hz; cases hz
  all_goals exact nomatch hz
theorem slc_to {α : Type} {k : Nat} {l : List α} (h : k ≤ l.length) : slc none (some (k : Int)) l = l.take k := by
  unfold slc
  have e1 : clp none 0 l.length = 0 := rfl
  have e2 : clp (some (k : Int)) l.length l.length = k := by unfold clp; dsimp only; rw [if_neg (by omega)]; omega
  rw [e1, e2]; simp
theorem slc_from {α : Type} {k : Nat} {l : List α} (h : k ≤ l.length) : slc (some (k : Int)) none l = l.drop k := by
  unfold slc
  have e1 : clp (some (k : Int)) 0 l.length = k := by unfold clp; dsimp only; rw [if_neg (by omega)]; omega
  have e2 : clp none l.length l.length = l.length := rfl
  rw [e1, e2, List.take_of_length_le (by rw [List.length_drop]; omega)]
noncomputable def wD (l : List Wv) : List D := l.map Wv.d
theorem flats_wD {l : List Wv} : flats (wD l) = true := by
  induction l with
  | nil => rfl
  | cons a l ih => cases a <;> exact ih
structure TS where
  ws : List Wv
  ss : List Nat
  sh : List Int
noncomputable def topOf (sh : List Int) : Nat := sh.findIdx fun x => x == maxI sh
noncomputable def TS.x (st : TS) : Wv := st.ws.getD (topOf st.sh) (.i 0)
noncomputable def TS.y (st : TS) : Wv := st.ws.getD (topOf st.sh + 1) (.i 0)
noncomputable def TS.s (st : TS) : Nat := st.ss.getD (topOf st.sh) 0
noncomputable def tput (st : TS) (z : Wv) : TS := ⟨st.ws.take (topOf st.sh) ++ [z] ++ st.ws.drop (topOf st.sh + 2), st.ss.take (topOf st.sh) ++ st.ss.drop (topOf st.sh + 1), st.sh.take (topOf st.sh) ++ st.sh.drop (topOf st.sh + 1)⟩
noncomputable def tstep (st : TS) : Option TS := (wop st.s st.x st.y).map (tput st)
noncomputable def trun (st : TS) : Nat → Option TS
  | 0 => some st
  | i + 1 => (trun st i).bind tstep
structure TOk (m : Nat) (st : TS) : Prop where
  ss : st.ss.length = m
  sh : st.sh.length = m
  ws : st.ws.length = m + 1
  lt : ∀ s ∈ st.ss, s < 14
theorem topOf_lt {sh : List Int} (h : sh ≠ []) : topOf sh < sh.length := by
  unfold topOf
  rw [List.findIdx_lt_length]
  exact ⟨_, (maxI_spec h).1, by simp⟩
theorem TOk.step {m : Nat} {st st' : TS} (o : TOk (m + 1) st) (h : tstep st = some st') : TOk m st' := by
  have hk : topOf st.sh < st.sh.length := topOf_lt (by intro q; have := o.sh; rw [q] at this; cases this)
  have h1 := o.ss; have h2 := o.sh; have h3 := o.ws
  unfold tstep at h
  obtain ⟨z, _, rfl⟩ := Option.map_eq_some_iff.mp h
  refine ⟨?_, ?_, ?_, fun s hs => ?_⟩
  · simp only [tput, List.length_append, List.length_take, List.length_drop]; omega
  · simp only [tput, List.length_append, List.length_take, List.length_drop]; omega
  · simp only [tput, List.length_append, List.length_take, List.length_drop, List.length_cons, List.length_nil]; omega
  · rcases List.mem_append.mp hs with q | q
    · exact o.lt s (List.mem_of_mem_take q)
    · exact o.lt s (List.mem_of_mem_drop q)
theorem TOk.run {m : Nat} {st : TS} (o : TOk m st) : ∀ (i : Nat) {st' : TS}, i ≤ m → trun st i = some st' → TOk (m - i) st'
  | 0, st', _, h => by cases h; exact o
  | i + 1, st', hi, h => by
    unfold trun at h
    cases q : trun st i with
    | none => rw [q] at h; cases h
    | some st1 =>
      rw [q] at h
      have := o.run i (by omega) q
      rw [show m - i = (m - (i + 1)) + 1 by omega] at this
      exact this.step h
noncomputable def tG (st : TS) : Ctx := upd (upd (upd emp (S "worths") (.list (wD st.ws))) (S "signs") (.list (intD (st.ss.map tokOf)))) (S "shares") (.list (intD st.sh))
end Mine
end
section
open PySem PySem.W PyProof.Rows PySem.Calls
set_option linter.unusedSectionVars false
set_option linter.unusedVariables false
set_option maxRecDepth 100000
set_option maxHeartbeats 4000000
namespace Mine
variable [Bd]
section
variable {c : Cx} {n : Nat} {sc : Scope} {Γ Γ' : Ctx} {P : PySem.Str → Bool}
noncomputable def brkF : Option Ctx → Out
  | some Γ => .next Γ
  | none => .fly
theorem ex_try_while_brk {t : PySem.Expr} {b : List PySem.Stmt} {zp cp rp hp wp tp : Pos} {k : Nat} (gz : GV c ZDE (.type ZDE)) (f : Nat → Option Ctx) (m : Nat) (h0 : f 0 = some Γ) (hmono : ∀ i, f i = none → f (i + 1) = none)
    (ht : ∀ i Γi, i < m → f i = some Γi → Tr c n sc Γi t true) (hb : ∀ i Γi, i < m → f i = some Γi → Exs c n sc P Γi b (brkF (f (i + 1)))) (he : ∀ Γm, f m = some Γm → Tr c n sc Γm t false)
    (hk' : sc.names.lookup (ZDE : PySem.Str) = some .globalImplicit := by decide +kernel) :
    Ex c n sc P Γ (.Try [.While t b [] wp] [.ExceptHandler (some (.Name ZDE zp)) none [.Return (some (.Constant .none k cp)) rp] hp] [] [] tp) (brk (f m) .none) := by
  have none_on : ∀ {i m : Nat}, i ≤ m → f i = none → f m = none := by
    intro i m him qi
    have : ∀ d, f (i + d) = none := by
      intro d; induction d with
      | zero => exact qi
      | succ d ih => exact hmono _ ih
    have := this (m - i)
    rwa [show i + (m - i) = m by omega] at this
  have key : ∀ m, (∃ Γm, f m = some Γm) ∨ ∃ k, k < m ∧ (∃ Γk, f k = some Γk) ∧ f (k + 1) = none := by
    intro m
    induction m with
    | zero => exact .inl ⟨_, h0⟩
    | succ m ih =>
      rcases ih with ⟨Γm, hm⟩ | ⟨k, hk, h1, h2⟩
      · cases q : f (m + 1) with
        | some g => exact .inl ⟨g, rfl⟩
        | none => exact .inr ⟨m, by omega, ⟨_, hm⟩, q⟩
      · exact .inr ⟨k, by omega, h1, h2⟩
  have back : ∀ {i m : Nat}, i ≤ m → (∃ Γm, f m = some Γm) → ∃ Γi, f i = some Γi := by
    intro i m him ⟨g, hg⟩
    cases qi : f i with
    | some g => exact ⟨g, rfl⟩
    | none => rw [none_on him qi] at hg; cases hg
  have gd : ∀ {i g}, f i = some g → (f i).getD emp = g := fun h => by rw [h]; rfl
  rcases key m with ⟨Γm, hm⟩ | ⟨k, hk, ⟨g, h1⟩, h2⟩
  · rw [hm]
    refine ex_try_next (exs_cons (ex_while (fun i => (f i).getD emp) m (gd h0) (fun i hi => ?_) (fun i hi => ?_) ?_) (exs_nil.eq (by rw [gd hm])))
    · obtain ⟨g, hg⟩ := back (Nat.le_of_lt hi) ⟨Γm, hm⟩
      rw [gd hg]; exact ht i g hi hg
    · obtain ⟨g, hg⟩ := back (Nat.le_of_lt hi) ⟨Γm, hm⟩
      obtain ⟨g', hg'⟩ := back hi ⟨Γm, hm⟩
      have := hb i g hi hg
      rw [hg'] at this; rw [gd hg, gd hg']; exact this
    · rw [gd hm]; exact he _ hm
  · rw [none_on hk h2]
    refine ex_try_while' gz (fun i => (f i).getD emp) k (gd h0) (fun i hi => ?_) (fun i hi => ?_) ?_ ?_
    · obtain ⟨g, hg⟩ := back hi ⟨_, h1⟩
      rw [gd hg]; exact ht i g (by omega) hg
    · obtain ⟨g, hg⟩ := back (Nat.le_of_lt hi) ⟨_, h1⟩
      obtain ⟨g', hg'⟩ := back hi ⟨_, h1⟩
      have := hb i g (by omega) hg
      rw [hg'] at this; rw [gd hg, gd hg']; exact this
    · have := hb k g hk h1
      rw [h2] at this; rw [gd h1]; exact this
    · exact hk'
end
variable {w : World} {mg mb : PySem.Str → Option Value} {n : Nat}
theorem cmp_ints_nil {c : Cx} {l : List Int} : Cmp c n .NotEq (.list (intD l)) (.list []) (!l.isEmpty) := by
  have := cmp_flat_ne (c := c) (n := n) (xs := intD l) (ys := []) (by
    rw [List.all_eq_true]; intro x hx
    obtain ⟨p, hp, rfl⟩ := List.mem_map.mp hx
    rfl) rfl
  cases l <;> exact this
theorem slc_wD {lo hi : Option Int} {l : List Wv} : slc lo hi (wD l) = wD (slc lo hi l) := by
  unfold slc wD; rw [List.length_map, List.map_take, List.map_drop]
theorem slc_intD {lo hi : Option Int} {l : List Int} : slc lo hi (intD l) = intD (slc lo hi l) := by
  unfold slc intD; rw [List.length_map, List.map_take, List.map_drop]
theorem slc_boolD {lo hi : Option Int} {l : List Bool} : slc lo hi (boolD l) = boolD (slc lo hi l) := by
  unfold slc boolD; rw [List.length_map, List.map_take, List.map_drop]
theorem wD_get {l : List Wv} {k : Nat} (h : k < l.length) : (wD l)[k]? = some (l.getD k (.i 0)).d := by
  simp [wD, h]
theorem flat_w (x : Wv) : flat x.d = true := by cases x <;> rfl
theorem flats_boolD {l : List Bool} : flats (boolD l) = true := by
  induction l with
  | nil => rfl
  | cons a l ih => exact ih
theorem map_getD {α : Type} (f : Int → α) (l : List Int) : ((List.range l.length).map fun i => f (l.getD i 0)) = l.map f := by
  apply List.ext_getElem?
  intro i
  by_cases h : i < l.length <;> simp [h]
theorem trun_none {st : TS} (i : Nat) (h : trun st i = none) : trun st (i + 1) = none := by unfold trun; rw [h]; rfl
theorem c_told {st : TS} {m : Nat} (o : TOk m st) (hm4 : m ≤ 4) (hf : ∀ i st', i < m → trun st i = some st' → st'.s = 2 → IntMulOk st'.x.z st'.y.z) :
    CallV (cx w mg mb) (n + 3) (.ref 203) [.list (wD st.ws), .list (intD (st.ss.map tokOf)), .list (intD st.sh)] (match trun st m with | some st' => (st'.ws.getD 0 (.i 0)).d | none => .none) := by
  refine call_def (ps := [S "worths", S "signs", S "shares"]) ⟨_, _, rfl, rfl, by kernel_rfl, rfl, rfl, rfl, rfl, rfl, bind3 (fun _ _ _ => rfl) rfl⟩ rfl (by kernel_rfl) ?_
  refine Exs.weak (Γ := tG st) ?_ (sub_upd rfl (sub_upd rfl (sub_upd rfl sub_emp)))
  refine exs_brk (ex_try_while_brk (gv_B (by kernel_rfl) (by kernel_rfl) (by decide +kernel)) (fun i => (trun st i).map tG) m rfl (fun i h => ?_) (fun i Γi hi h => ?_) (fun i Γi hi h => ?_) (fun Γm h => ?_) (by kernel_rfl)) (fun Γ' h => ?_) (fun h => ?_)
  · rw [trun_none i (Option.map_eq_none_iff.mp h)]; rfl
  · obtain ⟨s1, h1, rfl⟩ := Option.map_eq_some_iff.mp h
    have o1 := o.run i (Nat.le_of_lt hi) h1
    refine (tr_cmp (ev_name rfl) (ev_list evs_nil (by decide)) cmp_ints_nil).eq ?_
    have := o1.ss
    cases q : s1.ss with
    | nil => rw [q] at this; simp at this; omega
    | cons a l => rfl
  · obtain ⟨s1, h1, rfl⟩ := Option.map_eq_some_iff.mp h
    have o1 := o.run i (Nat.le_of_lt hi) h1
    have fit := hf i s1 hi h1
    rw [show brkF ((trun st (i + 1)).map tG) = brkF ((tstep s1).map tG) by unfold trun; rw [h1]; rfl]
    obtain ⟨j, hj⟩ : ∃ j, m - i = j + 1 := ⟨m - i - 1, by omega⟩
    rw [hj] at o1
    have hj4 : j ≤ 3 := by omega
    clear h h1 hi hj
    have hne : s1.sh ≠ [] := by intro q; have := o1.sh; rw [q] at this; simp at this
    have hk := topOf_lt hne
    have z1 := o1.sh
    have z2 := o1.ss
    have z3 := o1.ws
    refine exs_cons (ex_assign (ev_call_builtin (gv_B (by kernel_rfl) (by kernel_rfl) (by decide +kernel)) (evs_cons (ev_name rfl) evs_nil) (call_max hne) (by kernel_rfl) (by decide +kernel))) ?_
    refine exs_cons ((ex_assign_comp (ds := intD s1.sh) (fun i => upd emp (S "share") (.int (s1.sh.getD i 0))) (fun _ => true) (fun i => .bool (s1.sh.getD i 0 == maxI s1.sh)) (itsrc_list (ev_name rfl) (nols_flats flats_intD)) (by kernel_rfl) ?_ (by rw [List.length_map]; unfold sizeLine; omega) (by intro _ _; rfl) (.inl ⟨_, _, rfl⟩) (fun i d hd => ?_) (fun i d hd => ?_) (fun i d hd _ => ?_) (fun i d hd _ => rfl) (by kernel_rfl) (by kernel_rfl)).eq (b := .next (upd (upd (tG s1) (S "most") (.int (maxI s1.sh))) (S "tops") (.list (boolD (s1.sh.map fun x => x == maxI s1.sh))))) ?_) ?_
    · exact ⟨⟨_, rfl⟩, trivial⟩
    · have hi : i < s1.sh.length := by
        have := (List.getElem?_eq_some_iff.mp hd).1
        rw [List.length_map] at this; exact this
      rw [intD_get hi] at hd; cases hd
      exact .loc (by kernel_rfl)
    · exact rfl
    · exact ev_cmp (ev_name rfl) (ev_name rfl) cmp_int_eq
    · congr 2
      rw [List.length_map]
      show D.list (((List.range s1.sh.length).filter fun _ => true).map _) = _
      rw [List.filter_eq_self.mpr (fun _ _ => rfl)]
      rw [← map_getD (fun x => x == maxI s1.sh) s1.sh]
      unfold boolD; rw [List.map_map]; rfl
    have hfind : (s1.sh.map fun x => x == maxI s1.sh)[topOf s1.sh]? = some true := by
      rw [List.getElem?_map, List.getElem?_eq_getElem hk]
      have : (s1.sh[topOf s1.sh] == maxI s1.sh) = true := List.findIdx_getElem (w := hk)
      rw [Option.map_some, this]
    have hbef : ∀ q, q < topOf s1.sh → (s1.sh.map fun x => x == maxI s1.sh)[q]? = some false := fun q hq => by
      rw [List.getElem?_map, List.getElem?_eq_getElem (by omega), Option.map_some]
      have := List.not_of_lt_findIdx hq
      simpa using this
    refine exs_cons (ex_assign (ev_call_def (gv_K (c := cx w mg mb) (v := .ref 133) (by kernel_rfl)) rfl rfl (evs_cons (ev_name rfl) (evs_cons ev_int evs_nil)) (c_indexOf hfind hbef) (by kernel_rfl) (by kernel_rfl))) ?_
    refine exs_cons (ex_if_f ((tr_cmp (l := .Constant (.bool true) _ _) ev_bool ((ev_slice_list (lo := none) (hi := some ((topOf s1.sh : Nat) : Int)) (ev_name rfl) part_none (part_some (ev_name rfl)) flats_boolD (by unfold boolD; rw [List.length_map, List.length_map]; unfold sizeLine; omega)).eq (by rw [slc_boolD, slc_to (by rw [List.length_map]; omega)])) (cmp_true_in (l := (s1.sh.map fun x => x == maxI s1.sh).take (topOf s1.sh)) (by rw [List.length_take, List.length_map]; omega))).eq ?_) exs_nil) ?_
    · rw [List.any_eq_false]
      intro x hx
      obtain ⟨q, hq⟩ := List.getElem?_of_mem hx
      rw [List.getElem?_take] at hq
      by_cases hql : q < topOf s1.sh
      · rw [if_pos hql, hbef q hql] at hq; cases hq; decide
      · rw [if_neg hql] at hq; cases hq
    have hs14 : s1.s < 14 := by
      have : s1.s ∈ s1.ss := by
        unfold TS.s; rw [List.getD_eq_getElem?_getD, List.getElem?_eq_getElem (by omega)]; exact List.getElem_mem _
      exact o1.lt _ this
    have hsg : (intD (s1.ss.map tokOf))[((topOf s1.sh : Nat) : Int).toNat]? = some (.int (tokOf s1.s)) := by
      rw [Int.toNat_natCast, intD_get (by rw [List.length_map]; omega)]
      unfold TS.s
      have : topOf s1.sh < s1.ss.length := by omega
      simp [this]
    have hx1 : (wD s1.ws)[((topOf s1.sh : Nat) : Int).toNat]? = some s1.x.d := by
      rw [Int.toNat_natCast, wD_get (by omega)]; rfl
    have hy1 : (wD s1.ws)[(((topOf s1.sh + 1 : Nat)) : Int).toNat]? = some s1.y.d := by
      rw [Int.toNat_natCast, wD_get (by omega)]; rfl
    have sl1 : slc none (some ((topOf s1.sh : Nat) : Int)) (wD s1.ws) = wD (s1.ws.take (topOf s1.sh)) := by rw [slc_wD, slc_to (by omega)]
    have sl2 : slc (some (((topOf s1.sh + 2 : Nat)) : Int)) none (wD s1.ws) = wD (s1.ws.drop (topOf s1.sh + 2)) := by rw [slc_wD, slc_from (by omega)]
    cases hw : wop s1.s s1.x s1.y with
    | none =>
      have e : tstep s1 = none := by unfold tstep; rw [hw]; rfl
      rw [e]
      refine exs_fly (ex_assign_fly (evF_bin_l (evF_bin_r (ev_slice_list (lo := none) (hi := some ((topOf s1.sh : Nat) : Int)) (ev_name rfl) part_none (part_some (ev_name rfl)) flats_wD (by unfold wD; rw [List.length_map]; unfold sizeLine; omega)) (evF_list1 (evF_call_def (gv_K (c := cx w mg mb) (v := .ref 198) (by kernel_rfl)) rfl rfl (evs_cons (ev_sub (ev_name rfl) (ev_name rfl) (item_list (by omega) (by omega) hsg)) (evs_cons (ev_sub (ev_name rfl) (ev_name rfl) (item_list (by omega) (by omega) hx1)) (evs_cons (ev_sub (ev_name rfl) (ev_bin (ev_name rfl) ev_int bin_add_int) (item_list (i := ((topOf s1.sh + 1 : Nat) : Int)) (by omega) (by omega) hy1)) evs_nil))) (r_deed hs14 hw) (by kernel_rfl) (by kernel_rfl))))))
    | some z =>
      have e : tstep s1 = some (tput s1 z) := by unfold tstep; rw [hw]; rfl
      rw [e]
      have wl : ∀ l : List Wv, (wD l).length = l.length := fun l => List.length_map _
      have il : ∀ l : List Int, (intD l).length = l.length := fun l => List.length_map _
      refine exs_cons (ex_assign (d := .list (wD (tput s1 z).ws)) ((ev_bin (ev_bin (ev_slice_list (lo := none) (hi := some ((topOf s1.sh : Nat) : Int)) (ev_name rfl) part_none (part_some (ev_name rfl)) flats_wD (by rw [wl]; unfold sizeLine; omega)) (ev_list (evs_cons (ev_call_def (gv_K (c := cx w mg mb) (v := .ref 198) (by kernel_rfl)) rfl rfl (evs_cons (ev_sub (ev_name rfl) (ev_name rfl) (item_list (by omega) (by omega) hsg)) (evs_cons (ev_sub (ev_name rfl) (ev_name rfl) (item_list (by omega) (by omega) hx1)) (evs_cons (ev_sub (ev_name rfl) (ev_bin (ev_name rfl) ev_int bin_add_int) (item_list (i := ((topOf s1.sh + 1 : Nat) : Int)) (by omega) (by omega) hy1)) evs_nil))) (c_deed hs14 hw fit) (by kernel_rfl) (by kernel_rfl)) evs_nil) (by show 1 ≤ sizeLine; decide)) (bin_add_list (by rw [sl1]; exact flats_wD) (by show (flat z.d && true) = true; rw [flat_w]; rfl) (by rw [sl1, wl, List.length_take]; show _ + 1 ≤ _; unfold sizeLine; omega)))
        (ev_slice_list (lo := some ((topOf s1.sh + 2 : Nat) : Int)) (hi := none) (ev_name rfl) (part_some (ev_bin (ev_name rfl) ev_int bin_add_int)) part_none flats_wD (by rw [wl]; unfold sizeLine; omega)) (bin_add_list (by rw [sl1, flats_app, flats_wD]; show (flat z.d && true) = true; rw [flat_w]; rfl) (by rw [sl2]; exact flats_wD) (by rw [sl1, sl2, List.length_append, wl, wl, List.length_take, List.length_drop]; show _ + 1 + _ ≤ _; unfold sizeLine; omega))).eq ?_)) ?_
      · rw [sl1, sl2]
        show D.list (wD (s1.ws.take (topOf s1.sh)) ++ wD [z] ++ wD (s1.ws.drop (topOf s1.sh + 2))) = _
        unfold wD tput; simp
      have sl3 : ∀ l : List Int, topOf s1.sh < l.length → slc none (some ((topOf s1.sh : Nat) : Int)) (intD l) = intD (l.take (topOf s1.sh)) := fun l h => by rw [slc_intD, slc_to (by omega)]
      have sl4 : ∀ l : List Int, topOf s1.sh < l.length → slc (some (((topOf s1.sh + 1 : Nat)) : Int)) none (intD l) = intD (l.drop (topOf s1.sh + 1)) := fun l h => by rw [slc_intD, slc_from (by omega)]
      have cut2 : ∀ {sc : Scope} {Γ : Ctx} {x k : PySem.Str} {p1 p2 p3 p4 p5 p6 p7 p8 p9 p10 p11 : Pos} {kk : Nat} {l : List Int}, l.length ≤ 4 → topOf s1.sh < l.length → Γ x = some (.list (intD l)) → Γ k = some (.int ((topOf s1.sh : Nat) : Int)) → (x == ("__debug__" : PySem.Str)) = false → (k == ("__debug__" : PySem.Str)) = false →
          Ev (cx w mg mb) (n + 2) sc Γ true (.BinOp (.Subscript (.Name x p1) (.Slice none (some (.Name k p2)) none p3) p4) .Add (.Subscript (.Name x p5) (.Slice (some (.BinOp (.Name k p6) .Add (.Constant (.int 1) kk p7) p8)) none none p9) p10) p11) (.list (intD (l.take (topOf s1.sh) ++ l.drop (topOf s1.sh + 1)))) := by
        intro sc Γ x k p1 p2 p3 p4 p5 p6 p7 p8 p9 p10 p11 kk l hl ht e1 e2 d1 d2
        refine (ev_bin (ev_slice_list (lo := none) (hi := some ((topOf s1.sh : Nat) : Int)) (ev_name e1 d1) part_none (part_some (ev_name e2 d2)) flats_intD (by rw [il]; unfold sizeLine; omega)) (ev_slice_list (lo := some ((topOf s1.sh + 1 : Nat) : Int)) (hi := none) (ev_name e1 d1) (part_some (ev_bin (ev_name e2 d2) ev_int bin_add_int)) part_none flats_intD (by rw [il]; unfold sizeLine; omega)) (bin_add_list (by rw [sl3 _ ht]; exact flats_intD) (by rw [sl4 _ ht]; exact flats_intD) (by rw [sl3 _ ht, sl4 _ ht, il, il, List.length_take, List.length_drop]; unfold sizeLine; omega))).eq ?_
        rw [sl3 _ ht, sl4 _ ht]; simp [intD]
      refine exs_cons (ex_assign (cut2 (l := s1.ss.map tokOf) (by rw [List.length_map]; omega) (by rw [List.length_map]; omega) rfl rfl (by decide +kernel) (by decide +kernel))) ?_
      refine exs_cons (ex_assign (cut2 (l := s1.sh) (by omega) (by omega) rfl rfl (by decide +kernel) (by decide +kernel))) ?_
      exact exs_nil' (sub_upd rfl (sub_upd (by show some (D.list (intD ((s1.ss.map tokOf).take _ ++ (s1.ss.map tokOf).drop _))) = some (.list (intD ((s1.ss.take _ ++ s1.ss.drop _).map tokOf))); rw [List.map_append, List.map_take, List.map_drop]) (sub_upd rfl sub_emp)))
  · obtain ⟨s1, h1, rfl⟩ := Option.map_eq_some_iff.mp h
    have o1 := o.run m (Nat.le_refl _) h1
    refine (tr_cmp (ev_name rfl) (ev_list evs_nil (by decide)) cmp_ints_nil).eq ?_
    have := o1.ss
    rw [Nat.sub_self] at this
    rw [List.length_eq_zero_iff.mp this]; rfl
  · obtain ⟨s1, h1, rfl⟩ := Option.map_eq_some_iff.mp h
    have o1 := o.run m (Nat.le_refl _) h1
    rw [h1]
    dsimp only
    exact exs_ret (ex_ret (Ev.flat (ev_sub (ev_name rfl) ev_int (item_list (by decide) (by decide) (wD_get (by have := o1.ws; omega)))) (flat_w _)))
  · rw [Option.map_eq_none_iff.mp h]
end Mine
end
section
open PySem PySem.W PyProof.Rows PySem.Calls
set_option linter.unusedSectionVars false
set_option linter.unusedVariables false
set_option maxRecDepth 100000
set_option maxHeartbeats 4000000
namespace Mine
variable [Bd]
variable {w : World} {mg mb : PySem.Str → Option Value} {n : Nat}
noncomputable abbrev pq : List PySem.Str := [S "p", S "q"]
theorem lam_bind {params : Arguments} (h : ∀ (fd : FuncData), fd.params = params → fd.defaults = .none → fd.kwdefaults = .none → ∀ v u, bindArgs fd ⟨[v, u], []⟩ = pure (pq.zip [v, u])) : ∀ fd : FuncData, fd.params = params → fd.defaults = .none → fd.kwdefaults = .none → ∀ vs : List Value, vs.length = pq.length → bindArgs fd ⟨vs, []⟩ = pure (pq.zip vs) :=
  fun fd h1 h2 h3 => bind2 (h fd h1 h2 h3) rfl
theorem lam_0 {x y : Wv} : CallVL (cx w mg mb) (n + 1) 0 [x.d, y.d] (((wop 0 x y).getD (.i 0)).d) :=
  call_lam (ps := pq) ⟨_, rfl, lam_bind fun fd h1 h2 h3 v u => by cases fd; cases h1; cases h2; cases h3; rfl⟩ rfl (by kernel_rfl) (ev_bin (ev_name rfl) (ev_name rfl) w_add)
theorem lam_1 {x y : Wv} : CallVL (cx w mg mb) (n + 1) 1 [x.d, y.d] (((wop 1 x y).getD (.i 0)).d) :=
  call_lam (ps := pq) ⟨_, rfl, lam_bind fun fd h1 h2 h3 v u => by cases fd; cases h1; cases h2; cases h3; rfl⟩ rfl (by kernel_rfl) (ev_bin (ev_name rfl) (ev_name rfl) w_sub)
theorem lam_2 {x y : Wv} (hm : IntMulOk x.z y.z) : CallVL (cx w mg mb) (n + 1) 2 [x.d, y.d] (((wop 2 x y).getD (.i 0)).d) :=
  call_lam (ps := pq) ⟨_, rfl, lam_bind fun fd h1 h2 h3 v u => by cases fd; cases h1; cases h2; cases h3; rfl⟩ rfl (by kernel_rfl) (ev_bin (ev_name rfl) (ev_name rfl) (w_mul hm))
theorem lam_3 {x y : Wv} : CallVL (cx w mg mb) (n + 1) 3 [x.d, y.d] (((wop 3 x y).getD (.i 0)).d) :=
  call_lam (ps := pq) ⟨_, rfl, lam_bind fun fd h1 h2 h3 v u => by cases fd; cases h1; cases h2; cases h3; rfl⟩ rfl (by kernel_rfl) (ev_bin (ev_name rfl) (ev_name rfl) w_and)
theorem lam_4 {x y : Wv} : CallVL (cx w mg mb) (n + 1) 4 [x.d, y.d] (((wop 4 x y).getD (.i 0)).d) :=
  call_lam (ps := pq) ⟨_, rfl, lam_bind fun fd h1 h2 h3 v u => by cases fd; cases h1; cases h2; cases h3; rfl⟩ rfl (by kernel_rfl) (ev_bin (ev_name rfl) (ev_name rfl) w_or)
theorem lam_5 {x y : Wv} : CallVL (cx w mg mb) (n + 1) 5 [x.d, y.d] (((wop 5 x y).getD (.i 0)).d) :=
  call_lam (ps := pq) ⟨_, rfl, lam_bind fun fd h1 h2 h3 v u => by cases fd; cases h1; cases h2; cases h3; rfl⟩ rfl (by kernel_rfl) (ev_bin (ev_name rfl) (ev_name rfl) w_xor)
theorem lam_6 {x y : Wv} (hy : y.z ≠ 0) : CallVL (cx w mg mb) (n + 1) 6 [x.d, y.d] (.int (x.z.fdiv y.z)) :=
  call_lam (ps := pq) ⟨_, rfl, lam_bind fun fd h1 h2 h3 v u => by cases fd; cases h1; cases h2; cases h3; rfl⟩ rfl (by kernel_rfl) (ev_bin (ev_name rfl) (ev_name rfl) (w_fdiv hy))
theorem lam_7 {x y : Wv} (hy : y.z ≠ 0) : CallVL (cx w mg mb) (n + 1) 7 [x.d, y.d] (.int (x.z.fmod y.z)) :=
  call_lam (ps := pq) ⟨_, rfl, lam_bind fun fd h1 h2 h3 v u => by cases fd; cases h1; cases h2; cases h3; rfl⟩ rfl (by kernel_rfl) (ev_bin (ev_name rfl) (ev_name rfl) (w_mod hy))
theorem lam_8 {x y : Wv} : CallVL (cx w mg mb) (n + 1) 8 [x.d, y.d] (((wop 8 x y).getD (.i 0)).d) :=
  call_lam (ps := pq) ⟨_, rfl, lam_bind fun fd h1 h2 h3 v u => by cases fd; cases h1; cases h2; cases h3; rfl⟩ rfl (by kernel_rfl) (ev_cmp (ev_name rfl) (ev_name rfl) wc_lt)
theorem lam_9 {x y : Wv} : CallVL (cx w mg mb) (n + 1) 9 [x.d, y.d] (((wop 9 x y).getD (.i 0)).d) :=
  call_lam (ps := pq) ⟨_, rfl, lam_bind fun fd h1 h2 h3 v u => by cases fd; cases h1; cases h2; cases h3; rfl⟩ rfl (by kernel_rfl) (ev_cmp (ev_name rfl) (ev_name rfl) wc_le)
theorem lam_10 {x y : Wv} : CallVL (cx w mg mb) (n + 1) 10 [x.d, y.d] (((wop 10 x y).getD (.i 0)).d) :=
  call_lam (ps := pq) ⟨_, rfl, lam_bind fun fd h1 h2 h3 v u => by cases fd; cases h1; cases h2; cases h3; rfl⟩ rfl (by kernel_rfl) (ev_cmp (ev_name rfl) (ev_name rfl) wc_eq)
theorem lam_11 {x y : Wv} : CallVL (cx w mg mb) (n + 1) 11 [x.d, y.d] (((wop 11 x y).getD (.i 0)).d) :=
  call_lam (ps := pq) ⟨_, rfl, lam_bind fun fd h1 h2 h3 v u => by cases fd; cases h1; cases h2; cases h3; rfl⟩ rfl (by kernel_rfl) (ev_cmp (ev_name rfl) (ev_name rfl) wc_ne)
theorem lam_12 {x y : Wv} : CallVL (cx w mg mb) (n + 1) 12 [x.d, y.d] (((wop 12 x y).getD (.i 0)).d) :=
  call_lam (ps := pq) ⟨_, rfl, lam_bind fun fd h1 h2 h3 v u => by cases fd; cases h1; cases h2; cases h3; rfl⟩ rfl (by kernel_rfl) (ev_cmp (ev_name rfl) (ev_name rfl) wc_gt)
theorem lam_13 {x y : Wv} : CallVL (cx w mg mb) (n + 1) 13 [x.d, y.d] (((wop 13 x y).getD (.i 0)).d) :=
  call_lam (ps := pq) ⟨_, rfl, lam_bind fun fd h1 h2 h3 v u => by cases fd; cases h1; cases h2; cases h3; rfl⟩ rfl (by kernel_rfl) (ev_cmp (ev_name rfl) (ev_name rfl) wc_ge)
theorem lamR_6 {x y : Wv} (hy : y.z = 0) : CallRL (cx w mg mb) (n + 1) 6 [x.d, y.d] :=
  call_lam_new (ps := pq) ⟨_, rfl, lam_bind fun fd h1 h2 h3 v u => by cases fd; cases h1; cases h2; cases h3; rfl⟩ rfl (by kernel_rfl) (evN_bin (ev_name rfl) (ev_name rfl) (w_fdiv0 hy))
theorem lamR_7 {x y : Wv} (hy : y.z = 0) : CallRL (cx w mg mb) (n + 1) 7 [x.d, y.d] :=
  call_lam_new (ps := pq) ⟨_, rfl, lam_bind fun fd h1 h2 h3 v u => by cases fd; cases h1; cases h2; cases h3; rfl⟩ rfl (by kernel_rfl) (evN_bin (ev_name rfl) (ev_name rfl) (w_mod0 hy))
theorem l_lam {k : Nat} {x y z : Wv} (hk : k < 14) (hz : wop k x y = some z) (hm : k = 2 → IntMulOk x.z y.z) : CallVL (cx w mg mb) (n + 1) k [x.d, y.d] z.d := by
  have e : z = (wop k x y).getD (.i 0) := by rw [hz]; rfl
  have h : k = 0 ∨ k = 1 ∨ k = 2 ∨ k = 3 ∨ k = 4 ∨ k = 5 ∨ k = 6 ∨ k = 7 ∨ k = 8 ∨ k = 9 ∨ k = 10 ∨ k = 11 ∨ k = 12 ∨ k = 13 := lt14 k hk
  rcases h with rfl | rfl | rfl | rfl | rfl | rfl | rfl | rfl | rfl | rfl | rfl | rfl | rfl | rfl
  · rw [e]; exact lam_0
  · rw [e]; exact lam_1
  · rw [e]; exact lam_2 (hm rfl)
  · rw [e]; exact lam_3
  · rw [e]; exact lam_4
  · rw [e]; exact lam_5
  · change (if y.z = 0 then none else some (Wv.i (x.z.fdiv y.z))) = some z at hz
    by_cases h : y.z = 0
    · rw [if_pos h] at hz; cases hz
    · rw [if_neg h] at hz; cases hz; exact lam_6 h
  · change (if y.z = 0 then none else some (Wv.i (x.z.fmod y.z))) = some z at hz
    by_cases h : y.z = 0
    · rw [if_pos h] at hz; cases hz
    · rw [if_neg h] at hz; cases hz; exact lam_7 h
  · rw [e]; exact lam_8
  · rw [e]; exact lam_9
  · rw [e]; exact lam_10
  · rw [e]; exact lam_11
  · rw [e]; exact lam_12
  · rw [e]; exact lam_13
theorem r_lam {k : Nat} {x y : Wv} (hk : k < 14) (hz : wop k x y = none) : CallRL (cx w mg mb) (n + 1) k [x.d, y.d] := by
  have h : k = 0 ∨ k = 1 ∨ k = 2 ∨ k = 3 ∨ k = 4 ∨ k = 5 ∨ k = 6 ∨ k = 7 ∨ k = 8 ∨ k = 9 ∨ k = 10 ∨ k = 11 ∨ k = 12 ∨ k = 13 := lt14 k hk
  rcases h with rfl | rfl | rfl | rfl | rfl | rfl | rfl | rfl | rfl | rfl | rfl | rfl | rfl | rfl
  case inr.inr.inr.inr.inr.inr.inl =>
    change (if y.z = 0 then none else some (Wv.i (x.z.fdiv y.z))) = none at hz
    by_cases h : y.z = 0
    · exact lamR_6 h
    · rw [if_neg h] at hz; cases hz
  case inr.inr.inr.inr.inr.inr.inr.inl =>
    change (if y.z = 0 then none else some (Wv.i (x.z.fmod y.z))) = none at hz
    by_cases h : y.z = 0
    · exact lamR_7 h
    · rw [if_neg h] at hz; cases hz
  all_goals exact nomatch hz
end Mine
end
section
open PySem PySem.W PyProof.Rows PySem.Calls
set_option linter.unusedSectionVars false
set_option linter.unusedVariables false
set_option maxRecDepth 100000
set_option maxHeartbeats 4000000
namespace Mine
variable [Bd]
section
variable {c : Cx} {n : Nat} {sc : Scope} {Γ : Ctx} {Pf : PySem.Str → Bool}
/-- x = [lambda, lambda] -/
theorem ex_lams2 {env : Env} {A : Around} {s0 s : Shared} {E : Value → Shared → Prop} {Q : Flow → Shared → Prop} {x : PySem.Str} {cc P : Addr} {ps : Array Value} {a1 a2 : Arguments} {b1 b2 : PySem.Expr} {c1 c2 : Scope} {q1 q2 px lp p : Pos} {i1 i2 : Nat}
    (F : Fm sc env) (W : Wf c A env s0.heap) (V : Fs s0 env Pf Γ s) (hcode : env.code = .ref cc) (hC : ∀ h, Wd0 c h → CodeHd h cc P) (hn : s0.heap.get? P = none) (hP : s.heap.get? P = some (tabObj ps))
    (hs : ∀ q t, ps[1]? ≠ some (.str q t)) (hs1 : ∀ u q t, (tabN ps q1 u)[1]? ≠ some (.str q t)) (hs2 : ∀ u u' q t, (tabN (tabN ps q1 u) q2 u')[1]? ≠ some (.str q t))
    (t1 : TriplesOk ps.toList) (n1 : codeAmong q1 ps.toList = none) (t2 : ∀ u, TriplesOk (tabN ps q1 u).toList) (n2 : ∀ u, codeAmong q2 (tabN ps q1 u).toList = none)
    (hcl : ∀ scp ∈ [c1, c2], closureFor scp env = pure []) (hdef : ∀ a ∈ [a1, a2], defaultsOf a env = ([], [])) (hT1 : lamTable[i1]? = some (a1, b1, c1)) (hT2 : lamTable[i2]? = some (a2, b2, c2))
    (hx : sc.names.lookup x = some .local ∨ sc.names.lookup x = some .cell)
    (h : ∀ s' u u', Fs s0 env Pf (upd Γ x (.list [.lam i1, .lam i2])) s' → s'.heap.get? P = some (tabObj (tabN (tabN ps q1 u) q2 u')) → Q .next s') :
    wpAny (model c.prog c.w) A (exec (.Assign [.Name x px] (.List [.Lambda a1 b1 c1 q1, .Lambda a2 b2 c2 q2] lp) p) env) Q E s := by
  refine wpAny_Assign_Name (List_ ?_) rfl
  refine wpAny_items_cons ?_ rfl
  refine lam_run F (W.toWd0.stays V.kp.st) hcode (hC _ (W.toWd0.stays V.kp.st)) hP t1 n1 (hcl _ (by simp)) (hdef _ (by simp)) hT1 fun v1 u1 s1 k1 P1 r1 => ?_
  have V1 := V.tab hn hP hs k1
  refine wpAny_items_cons ?_ rfl
  refine lam_run F (W.toWd0.stays V1.kp.st) hcode (hC _ (W.toWd0.stays V1.kp.st)) P1 (t2 _) (n2 _) (hcl _ (by simp)) (hdef _ (by simp)) hT2 fun v2 u2 s2 k2 P2 r2 => ?_
  have V2 := V1.tab hn P1 (hs1 _) k2
  have r12 := lam_keep P1 (hs1 _) k2 r1
  have rr : RdAll s2.heap [Value.ref v1, .ref v2] [.lam i1, .lam i2] [] := .cons (as := []) r12 (.cons (as := []) (bs := []) r2 .nil)
  refine wpAny_items_nil (wpAny_newList ?_)
  have kp := kp_push s2 { cls := .type "list", data := .seq [Value.ref v1, .ref v2].toArray } s2.toks
  -- the base: all but the frame's own; the table is in it
  obtain ⟨f2, VV2⟩ := V2.vars
  obtain ⟨hb, FB⟩ := V2.rebase VV2
  have offP : OffO s2.heap P := offO_fields P2 rfl (hs2 _ _)
  have gP := ((cut_get).2 (not_mut_off V2 VV2 offP)).trans P2
  refine store_fs (c := c) FB kp (rd_new rr rfl) (fun a ha => by rw [List.mem_singleton.mp ha]; exact new_none _) F.kind (kind_fm F hx) fun s5 F5 => ?_
  exact h s5 _ _ (F5.down hb V2.kp) (F5.kp.st.ex gP (notDic_fields rfl))
noncomputable def HasT (h : Heap) : Prop := ∃ ps : Array Value, (∀ q t, ps[1]? ≠ some (.str q t)) ∧ h.get? 164 = some (tabObj ps)
/-- statements before which the table of the lambdas is ps -/
noncomputable def ExsT (c : Cx) (n : Nat) (sc : Scope) (P : PySem.Str → Bool) (Γ : Ctx) (ps : Array Value) (sts : List PySem.Stmt) (d : D) : Prop :=
  ∀ env A s0 s E Q, Fm sc env → OkA n A → Wf c A env s0.heap → s0.heap.get? 164 = none → env.code = .ref 166 → Fs s0 env P Γ s → s.heap.get? 164 = some (tabObj ps) → (∀ v as s', Kp s0 s' → Rd s'.heap v d as → HasT s'.heap → Q (.ret v) s') → wpAny (model c.prog c.w) A (execs sts env) Q E s
noncomputable def noT (h : Heap) : Heap := cut (fun a => a = 164) h
noncomputable def ExsE (c : Cx) (n : Nat) (sc : Scope) (P : PySem.Str → Bool) (Γ : Ctx) (ps : Array Value) (sts : List PySem.Stmt) (d : D) : Prop :=
  ∀ env A s s₁ E Q, Fm sc env → OkA n A → Wf c A env s.heap → Wf c A env (noT s.heap) → s.heap.get? 164 = some (tabObj ps) → env.code = .ref 166 → Fs s env P Γ s₁ →
    (∀ v as s', Kp { s with heap := noT s.heap } s' → Rd s'.heap v d as → HasT s'.heap → Q (.ret v) s') → wpAny (model c.prog c.w) A (execs sts env) Q E s₁
noncomputable def CallT (c : Cx) (n : Nat) (f : Value) (args : List D) (d : D) : Prop :=
  ∀ A s E Q vs as, OkA n A → Wd c A s.heap → s.heap.get? 164 = some (tabObj #[]) → Wd0 c (noT s.heap) → RdAll s.heap vs args as →
    (∀ v as' s', Kp { s with heap := noT s.heap } s' → Rd s'.heap v d as' → HasT s'.heap → Q v s') → wpAny (model c.prog c.w) A (call f vs) Q E s
theorem noT_164 (h : Heap) : (noT h).get? 164 = none := (cut_get (p := fun a => a = 164)).1 rfl
theorem noT_other {h : Heap} {a : Addr} (q : a ≠ 164) : (noT h).get? a = h.get? a := (cut_get (p := fun a => a = 164)).2 q
theorem exsT_of {P : PySem.Str → Bool} {ps : Array Value} {sts : List PySem.Stmt} {d : D} (hs : ∀ q t, ps[1]? ≠ some (.str q t)) (h : Exs c n sc P Γ sts (.ret d)) : ExsT c n sc P Γ ps sts d := by
  intro env A s0 s E Q F ok W hn _ V hP k
  obtain ⟨f, VV⟩ := V.vars
  obtain ⟨hb, FB⟩ := V.rebase VV
  have offP : OffO s.heap 164 := offO_fields hP rfl hs
  have gP := ((cut_get).2 (not_mut_off V VV offP)).trans hP
  exact h env A _ s E Q F ok (W.stays hb) FB fun v as s' kk r _ => k v as s' (Kp.down hb V.kp kk) r ⟨ps, hs, kk.st.ex gP (notDic_fields rfl)⟩
theorem exsE_cons {P : PySem.Str → Bool} {Γ' : Ctx} {ps : Array Value} {st : PySem.Stmt} {rest : List PySem.Stmt} {d : D} (h1 : Ex c n sc P Γ st (.next Γ')) (h2 : ExsT c n sc P Γ' ps rest d) : ExsE c n sc P Γ ps (st :: rest) d := by
  intro env A s s₁ E Q F ok W WT hP hcode V h
  refine wpAny_execs_cons (h1 env A s s₁ E _ F ok W V fun s₂ V₂ => ?_)
  have hP2 : s₂.heap.get? 164 = some (tabObj ps) := V₂.kp.st.ex hP (notDic_fields rfl)
  have V3 : Fs { s with heap := noT s.heap } env P Γ' s₂ := V₂.down (s0 := { s with heap := noT s.heap }) (s := s) (g := s.heap) (cut_stays _ _) ⟨s.heap, s.toks, rfl, cut_stays _ _⟩
  exact h2 env A _ s₂ E Q F ok WT (noT_164 _) hcode V3 hP2 fun v as s' k r t => h v as s' k r t
theorem noT_stays {h : Heap} {l : List Env} {ps : Array Value} (hP : h.get? 164 = some (tabObj ps)) (st : StkL l h) : StkL l (noT h) := by
  intro env he
  obtain ⟨h1, L, o, h2, h3, h4, h5⟩ := st env he
  refine ⟨h1, L, o, h2, ?_, h4, h5⟩
  have : L ≠ 164 := fun q => by
    subst q; rw [hP] at h3; cases h3
    obtain ⟨x, y, z⟩ := h4; cases z
  rw [noT_other this]; exact h3
theorem callT {f : Addr} {ps : List PySem.Str} {scope : Scope} {body : List PySem.Stmt} {ds : List D} {d : D} (hf : DefAt c f ps scope body) (hlen : ds.length = ps.length) (ok : defOk scope ps = true) (hcd : ∀ ob fd, c.K.lookup f = some ob → ob.data = .func fd → fd.code = .ref 166)
    (h : ExsE c n scope (pars ps) (binds ps ds) #[] body d) : CallT c (n + 1) (.ref f) ds d := by
  intro A s E Q vs as o W hP W0 r k
  refine enter_def (pars ps) (fun y hy => by unfold pars; simpa using hy) hf hlen ok o.room W r fun env s₁ F Wf FF hcode => ?_
  obtain ⟨ob, fd, q1, q2, _⟩ := hf.ex
  have hcc : env.code = .ref 166 := (hcode ob fd q1 q2).trans (hcd ob fd q1 q2)
  obtain ⟨l, e, st⟩ := Wf.stk
  exact h env _ s s₁ _ _ F (o.deeper _) Wf ⟨W0, ⟨l, e, noT_stays hP st⟩, Wf.fm, Wf.kd⟩ hP hcc FF fun v as' s' kk rr t => k v as' s' kk rr t
theorem exsT_lams3 {x : PySem.Str} {ps : Array Value} {a1 : Arguments} {b1 : PySem.Expr} {c1 : Scope} {q1 : Pos} {i1 : Nat} {a2 : Arguments} {b2 : PySem.Expr} {c2 : Scope} {q2 : Pos} {i2 : Nat} {a3 : Arguments} {b3 : PySem.Expr} {c3 : Scope} {q3 : Pos} {i3 : Nat} {px lp p : Pos} {rest : List PySem.Stmt} {o : D} {P : PySem.Str → Bool} (hC : ∀ h, Wd0 c h → CodeHd h 166 164) (hs : ∀ q t, ps[1]? ≠ some (.str q t)) (hs1 : ∀ u q t, (tabN ps q1 u)[1]? ≠ some (.str q t)) (hs2 : ∀ u u' q t, (tabN (tabN ps q1 u) q2 u')[1]? ≠ some (.str q t)) (hs3 : ∀ u u' u'' q t, (tabN (tabN (tabN ps q1 u) q2 u') q3 u'')[1]? ≠ some (.str q t)) (t1 : TriplesOk ps.toList) (n1 : codeAmong q1 ps.toList = none) (t2 : ∀ u, TriplesOk (tabN ps q1 u).toList) (n2 : ∀ u, codeAmong q2 (tabN ps q1 u).toList = none) (t3 : ∀ u u', TriplesOk (tabN (tabN ps q1 u) q2 u').toList) (n3 : ∀ u u', codeAmong q3 (tabN (tabN ps q1 u) q2 u').toList = none) (hcl : ∀ env : Env, ∀ scp ∈ [c1, c2, c3], closureFor scp env = pure []) (hdef : ∀ env : Env, ∀ a ∈ [a1, a2, a3], defaultsOf a env = ([], [])) (hT1 : lamTable[i1]? = some (a1, b1, c1)) (hT2 : lamTable[i2]? = some (a2, b2, c2)) (hT3 : lamTable[i3]? = some (a3, b3, c3)) (hx : sc.names.lookup x = some .local ∨ sc.names.lookup x = some .cell) (h : ∀ u u' u'', ExsT c n sc P (upd Γ x (.list [.lam i1, .lam i2, .lam i3])) (tabN (tabN (tabN ps q1 u) q2 u') q3 u'') rest o) :
    ExsT c n sc P Γ ps (.Assign [.Name x px] (.List [.Lambda a1 b1 c1 q1, .Lambda a2 b2 c2 q2, .Lambda a3 b3 c3 q3] lp) p :: rest) o := by
  intro env A s0 s E Q F ok W hn hcode V hP k
  exact wpAny_execs_cons (ex_lams3 F W V hcode hC hn hP hs hs1 hs2 hs3 t1 n1 t2 n2 t3 n3 (hcl env) (hdef env) hT1 hT2 hT3 hx fun s' u u' u'' V' hP' => h u u' u'' env A s0 s' E Q F ok W hn hcode V' hP' k)
theorem exsT_lams2 {x : PySem.Str} {ps : Array Value} {a1 : Arguments} {b1 : PySem.Expr} {c1 : Scope} {q1 : Pos} {i1 : Nat} {a2 : Arguments} {b2 : PySem.Expr} {c2 : Scope} {q2 : Pos} {i2 : Nat} {px lp p : Pos} {rest : List PySem.Stmt} {o : D} {P : PySem.Str → Bool} (hC : ∀ h, Wd0 c h → CodeHd h 166 164) (hs : ∀ q t, ps[1]? ≠ some (.str q t)) (hs1 : ∀ u q t, (tabN ps q1 u)[1]? ≠ some (.str q t)) (hs2 : ∀ u u' q t, (tabN (tabN ps q1 u) q2 u')[1]? ≠ some (.str q t)) (t1 : TriplesOk ps.toList) (n1 : codeAmong q1 ps.toList = none) (t2 : ∀ u, TriplesOk (tabN ps q1 u).toList) (n2 : ∀ u, codeAmong q2 (tabN ps q1 u).toList = none) (hcl : ∀ env : Env, ∀ scp ∈ [c1, c2], closureFor scp env = pure []) (hdef : ∀ env : Env, ∀ a ∈ [a1, a2], defaultsOf a env = ([], [])) (hT1 : lamTable[i1]? = some (a1, b1, c1)) (hT2 : lamTable[i2]? = some (a2, b2, c2)) (hx : sc.names.lookup x = some .local ∨ sc.names.lookup x = some .cell) (h : ∀ u u', ExsT c n sc P (upd Γ x (.list [.lam i1, .lam i2])) (tabN (tabN ps q1 u) q2 u') rest o) :
    ExsT c n sc P Γ ps (.Assign [.Name x px] (.List [.Lambda a1 b1 c1 q1, .Lambda a2 b2 c2 q2] lp) p :: rest) o := by
  intro env A s0 s E Q F ok W hn hcode V hP k
  exact wpAny_execs_cons (ex_lams2 F W V hcode hC hn hP hs hs1 hs2 t1 n1 t2 n2 (hcl env) (hdef env) hT1 hT2 hx fun s' u u' V' hP' => h u u' env A s0 s' E Q F ok W hn hcode V' hP' k)
end
variable {w : World} {mg mb : PySem.Str → Option Value} {n : Nat}
noncomputable def sgnL : List (List Nat) := [[43], [45], [42], [38], [124], [94], [47, 47], [37], [60], [60, 61], [61, 61], [33, 61], [62], [62, 61]]
noncomputable def par (t : List Nat) : List Nat := if t.length = 1 then t else 40 :: (t ++ [41])
structure DS where
  texts : List (List Nat)
  worths : List Wv
  bad : Bool
noncomputable def dsig (d : Int) : Nat := (d.fmod 14).toNat
noncomputable def dpos (d : Int) (j : Nat) : Nat := ((d.fdiv 14).fmod (4 - (j : Int))).toNat
noncomputable def dput (st : DS) (s k : Nat) : DS :=
  ⟨st.texts.take k ++ [par (st.texts.getD k []) ++ sgnL.getD s [] ++ par (st.texts.getD (k + 1) [])] ++ st.texts.drop (k + 2),
   st.worths.take k ++ [(wop s (st.worths.getD k (.i 0)) (st.worths.getD (k + 1) (.i 0))).getD (.i 0)] ++ st.worths.drop (k + 2),
   st.bad || (wop s (st.worths.getD k (.i 0)) (st.worths.getD (k + 1) (.i 0))).isNone⟩
noncomputable def dst (draws : List Int) : Nat → DS
  | 0 => ⟨[[97], [98], [99], [100], [101]], (draws.drop 4).map .i, false⟩
  | j + 1 => dput (dst draws j) (dsig (draws.getD j 0)) (dpos (draws.getD j 0) j)
noncomputable def lamD : List D := (List.range 14).map .lam
noncomputable def dG (draws : List Int) (st : DS) : Ctx := upd (upd (upd (upd (upd (upd emp (S "draws") (.list (intD draws))) (S "signs") (.list (strD sgnL))) (S "deeds") (.list lamD)) (S "texts") (.list (strD st.texts))) (S "worths") (.list (wD st.worths))) (S "refused") (.bool st.bad)
end Mine
end
section
open PySem PySem.W PyProof.Rows PySem.Calls
set_option linter.unusedSectionVars false
set_option linter.unusedVariables false
set_option maxRecDepth 100000
set_option maxHeartbeats 4000000
namespace Mine
variable [Bd]
variable {w : World} {mg mb : PySem.Str → Option Value} {n : Nat}
section
variable {c : Cx} {sc : Scope} {Γ : Ctx} {fr : Bool}
theorem evs_str {i : PySem.Str} {k : Nat} {p : Pos} {es : List PySem.Expr} {ds : List D} (h : Evs c n sc Γ fr es ds) : Evs c n sc Γ fr (.Constant (.str i) k p :: es) (.str i :: ds) := evs_cons ev_str h (fun _ => rfl)
theorem evs_int {i : Int} {k : Nat} {p : Pos} {es : List PySem.Expr} {ds : List D} (h : Evs c n sc Γ fr es ds) : Evs c n sc Γ fr (.Constant (.int i) k p :: es) (.int i :: ds) := evs_cons ev_int h (fun _ => rfl)
end
inductive Tri : List Value → List Pos → Prop
  | nil : Tri [] []
  | cons {q : Pos} {u : Value} {r : List Value} {l : List Pos} : Tri r l → Tri (rawInt q.line :: rawInt q.col :: u :: r) (q :: l)
theorem Tri.snoc {q : Pos} {u : Value} : ∀ {r : List Value} {l : List Pos}, Tri r l → Tri (r ++ [rawInt q.line, rawInt q.col, u]) (l ++ [q])
  | _, _, .nil => .cons .nil
  | _, _, .cons h => .cons h.snoc
theorem Tri.ok : ∀ {r : List Value} {l : List Pos}, Tri r l → TriplesOk r
  | _, _, .nil => trivial
  | _, _, .cons h => h.ok
theorem Tri.among {q : Pos} : ∀ {r : List Value} {l : List Pos}, Tri r l → (l.all fun p => !(p.line == q.line && p.col == q.col)) = true → codeAmong q r = none
  | _, _, .nil, _ => rfl
  | _, _, .cons (q := p) (u := u) (r := r) h, e => by
    rw [List.all_cons, Bool.and_eq_true] at e
    show (if (((p.line : Int) == (q.line : Int)) && ((p.col : Int) == (q.col : Int))) = true then some u else codeAmong q r) = none
    have : (((p.line : Int) == (q.line : Int)) && ((p.col : Int) == (q.col : Int))) = false := by
      have e1 := e.1
      rw [Bool.not_eq_true'] at e1
      rw [Bool.and_eq_false_iff]
      rcases Bool.and_eq_false_iff.mp e1 with h1 | h1
      · left; rw [beq_eq_false_iff_ne] at h1 ⊢; exact fun z => h1 (by omega)
      · right; rw [beq_eq_false_iff_ne] at h1 ⊢; exact fun z => h1 (by omega)
    rw [this, if_neg (by decide)]
    exact h.among e.2
theorem Tri.str : ∀ {r : List Value} {l : List Pos}, Tri r l → ∀ q t, r[1]? ≠ some (.str q t)
  | _, _, .nil, _, _, h => nomatch h
  | _, _, .cons _, _, _, h => nomatch h
theorem Tri.tab {ps : Array Value} {l : List Pos} {q : Pos} {u : Addr} (h : Tri ps.toList l) : Tri (tabN ps q u).toList (l ++ [q]) := by
  have := h.snoc (q := q) (u := .ref u)
  unfold tabN
  rw [Array.toList_append]; exact this
theorem Tri.str' {ps : Array Value} {l : List Pos} (h : Tri ps.toList l) : ∀ q t, ps[1]? ≠ some (.str q t) := fun q t e => h.str q t (by rw [Array.getElem?_toList]; exact e)
noncomputable def posOff (l : List Pos) (q : Pos) : Bool := l.all fun p => !(p.line == q.line && p.col == q.col)
section
variable {c : Cx} {n : Nat} {sc : Scope} {Γ : Ctx}
theorem exsT_l3 {x : PySem.Str} {ps : Array Value} {l : List Pos} {a1 : Arguments} {b1 : PySem.Expr} {c1 : Scope} {q1 : Pos} {a2 : Arguments} {b2 : PySem.Expr} {c2 : Scope} {q2 : Pos} {a3 : Arguments} {b3 : PySem.Expr} {c3 : Scope} {q3 : Pos} {px lp p : Pos} {rest : List PySem.Stmt} {o : D} {P : PySem.Str → Bool} (i1 : Nat) (i2 : Nat) (i3 : Nat) (T : Tri ps.toList l) (hC : ∀ h, Wd0 c h → CodeHd h 166 164) (hq : (posOff l q1 && posOff (l ++ [q1]) q2 && posOff ((l ++ [q1]) ++ [q2]) q3) = true) (hcl : ∀ env : Env, ∀ scp ∈ [c1, c2, c3], closureFor scp env = pure []) (hdef : ∀ env : Env, ∀ a ∈ [a1, a2, a3], defaultsOf a env = ([], [])) (hT1 : lamTable[i1]? = some (a1, b1, c1)) (hT2 : lamTable[i2]? = some (a2, b2, c2)) (hT3 : lamTable[i3]? = some (a3, b3, c3)) (hx : sc.names.lookup x = some .local ∨ sc.names.lookup x = some .cell) (h : ∀ ps', Tri ps'.toList (((l ++ [q1]) ++ [q2]) ++ [q3]) → ExsT c n sc P (upd Γ x (.list [.lam i1, .lam i2, .lam i3])) ps' rest o) :
    ExsT c n sc P Γ ps (.Assign [.Name x px] (.List [.Lambda a1 b1 c1 q1, .Lambda a2 b2 c2 q2, .Lambda a3 b3 c3 q3] lp) p :: rest) o := by
  simp only [Bool.and_eq_true] at hq
  obtain ⟨⟨e1, e2⟩, e3⟩ := hq
  exact exsT_lams3 hC T.str' (fun _ => (T.tab).str') (fun _ _ => ((T.tab).tab).str') (fun _ _ _ => (((T.tab).tab).tab).str') (T).ok (T.among e1) (fun _ => (T.tab).ok) (fun _ => (T.tab).among e2) (fun _ _ => ((T.tab).tab).ok) (fun _ _ => ((T.tab).tab).among e3) hcl hdef hT1 hT2 hT3 hx (fun _ _ _ => h _ (((T.tab).tab).tab))
theorem exsT_l2 {x : PySem.Str} {ps : Array Value} {l : List Pos} {a1 : Arguments} {b1 : PySem.Expr} {c1 : Scope} {q1 : Pos} {a2 : Arguments} {b2 : PySem.Expr} {c2 : Scope} {q2 : Pos} {px lp p : Pos} {rest : List PySem.Stmt} {o : D} {P : PySem.Str → Bool} (i1 : Nat) (i2 : Nat) (T : Tri ps.toList l) (hC : ∀ h, Wd0 c h → CodeHd h 166 164) (hq : (posOff l q1 && posOff (l ++ [q1]) q2) = true) (hcl : ∀ env : Env, ∀ scp ∈ [c1, c2], closureFor scp env = pure []) (hdef : ∀ env : Env, ∀ a ∈ [a1, a2], defaultsOf a env = ([], [])) (hT1 : lamTable[i1]? = some (a1, b1, c1)) (hT2 : lamTable[i2]? = some (a2, b2, c2)) (hx : sc.names.lookup x = some .local ∨ sc.names.lookup x = some .cell) (h : ∀ ps', Tri ps'.toList ((l ++ [q1]) ++ [q2]) → ExsT c n sc P (upd Γ x (.list [.lam i1, .lam i2])) ps' rest o) :
    ExsT c n sc P Γ ps (.Assign [.Name x px] (.List [.Lambda a1 b1 c1 q1, .Lambda a2 b2 c2 q2] lp) p :: rest) o := by
  simp only [Bool.and_eq_true] at hq
  obtain ⟨e1, e2⟩ := hq
  exact exsT_lams2 hC T.str' (fun _ => (T.tab).str') (fun _ _ => ((T.tab).tab).str') (T).ok (T.among e1) (fun _ => (T.tab).ok) (fun _ => (T.tab).among e2) hcl hdef hT1 hT2 hx (fun _ _ => h _ ((T.tab).tab))
end
theorem code166 : ∀ h, Wd0 (cx w mg mb) h → CodeHd h 166 164 := fun h W =>
  ⟨_, _, _, _, _, _, _, _, _, W.K 166 _ rfl, rfl, rfl, rfl, rfl, rfl, rfl, rfl, rfl, by decide⟩
theorem esg : D.list [.str (Str.ofString "+"), .str (Str.ofString "-"), .str (Str.ofString "*"), .str (Str.ofString "&"), .str (Str.ofString "|"), .str (Str.ofString "^"), .str (Str.ofString "//"), .str (Str.ofString "%"), .str (Str.ofString "<"), .str (Str.ofString "<="), .str (Str.ofString "=="), .str (Str.ofString "!="), .str (Str.ofString ">"), .str (Str.ofString ">=")] = .list (strD sgnL) := by
  have e1 : ∀ a : List PySem.Str, a = [Str.ofString "+", Str.ofString "-", Str.ofString "*", Str.ofString "&", Str.ofString "|", Str.ofString "^", Str.ofString "//", Str.ofString "%", Str.ofString "<", Str.ofString "<=", Str.ofString "==", Str.ofString "!=", Str.ofString ">", Str.ofString ">="] → a = sgnL.map sOf := by intro a h; rw [h]; decide +kernel
  have := congrArg (fun l => D.list (tD l)) (e1 _ rfl)
  refine Eq.trans (show _ = D.list (tD _) from rfl) (this.trans ?_)
  unfold tD strD; rw [List.map_map]; rfl
theorem two_of {α : Type} {p : α → Prop} {a b : α} (h1 : p a) (h2 : p b) : ∀ x ∈ [a, b], p x := by
  intro x h
  rcases List.mem_cons.mp h with rfl | h
  · exact h1
  · rcases List.mem_cons.mp h with rfl | h
    · exact h2
    · cases h
theorem three_of {α : Type} {p : α → Prop} {a b c : α} (h1 : p a) (h2 : p b) (h3 : p c) : ∀ x ∈ [a, b, c], p x := by
  intro x h
  rcases List.mem_cons.mp h with rfl | h
  · exact h1
  · exact two_of h2 h3 x h
noncomputable def bnd : Nat → Nat
  | 0 => 1
  | j + 1 => 2 * bnd j + 6
theorem dpos_lt {d : Int} {j : Nat} (h : j < 4) : dpos d j + j < 4 ∧ (d.fdiv 14).fmod (4 - (j : Int)) = (dpos d j : Nat) := by
  unfold dpos
  have h1 := Int.fmod_nonneg_of_pos (d.fdiv 14) (b := 4 - (j : Int)) (by omega)
  have h2 := Int.fmod_lt_of_pos (d.fdiv 14) (b := 4 - (j : Int)) (by omega)
  omega
theorem dsig_lt (d : Int) : dsig d < 14 ∧ d.fmod 14 = (dsig d : Nat) := by
  unfold dsig
  have h1 := Int.fmod_nonneg_of_pos d (b := 14) (by decide)
  have h2 := Int.fmod_lt_of_pos d (b := 14) (by decide)
  omega
theorem sgn_len : ∀ s, s < 14 → (sgnL.getD s []).length ≤ 2 := by decide
theorem par_len (t : List Nat) : (par t).length ≤ t.length + 2 := by
  unfold par
  split
  · omega
  · simp only [List.length_cons, List.length_append, List.length_nil]; omega
structure DOk (j : Nat) (st : DS) : Prop where
  tl : st.texts.length = 5 - j
  wl : st.worths.length = 5 - j
  tz : ∀ t ∈ st.texts, t.length ≤ bnd j
theorem getD_mem {α : Type} {l : List α} {k : Nat} {d : α} (h : k < l.length) : l.getD k d ∈ l := by
  rw [List.getD_eq_getElem?_getD, List.getElem?_eq_getElem h]; exact List.getElem_mem h
theorem dst_ok {draws : List Int} (hl : draws.length = 9) : ∀ j, j ≤ 4 → DOk j (dst draws j)
  | 0, _ => ⟨rfl, by show ((draws.drop 4).map Wv.i).length = 5; rw [List.length_map, List.length_drop]; omega, by show ∀ t ∈ [[97], [98], [99], [100], [101]], t.length ≤ 1; decide⟩
  | j + 1, hj => by
    have ih := dst_ok hl j (by omega)
    have hk := (dpos_lt (d := draws.getD j 0) (j := j) (by omega)).1
    have hs := (dsig_lt (draws.getD j 0)).1
    show DOk (j + 1) (dput (dst draws j) (dsig (draws.getD j 0)) (dpos (draws.getD j 0) j))
    generalize dst draws j = st at ih ⊢
    generalize dpos (draws.getD j 0) j = k at hk ⊢
    generalize dsig (draws.getD j 0) = g at hs ⊢
    obtain ⟨h1, h2, h3⟩ := ih
    have hb : 1 ≤ bnd j := by cases j with
      | zero => exact Nat.le_refl _
      | succ j => show 1 ≤ 2 * bnd j + 6; omega
    refine ⟨?_, ?_, fun t ht => ?_⟩
    · simp only [dput, List.length_append, List.length_take, List.length_drop, List.length_cons, List.length_nil]; omega
    · simp only [dput, List.length_append, List.length_take, List.length_drop, List.length_cons, List.length_nil]; omega
    · show t.length ≤ 2 * bnd j + 6
      simp only [dput, List.mem_append, List.mem_singleton] at ht
      rcases ht with (ht | rfl) | ht
      · have := h3 t (List.mem_of_mem_take ht); omega
      · have q1 := h3 _ (getD_mem (l := st.texts) (k := k) (d := []) (by omega))
        have q2 := h3 _ (getD_mem (l := st.texts) (k := k + 1) (d := []) (by omega))
        have q3 := par_len (st.texts.getD k [])
        have q4 := par_len (st.texts.getD (k + 1) [])
        have q5 := sgn_len g hs
        simp only [List.length_append]; omega
      · have := h3 t (List.mem_of_mem_drop ht); omega
theorem bnd_le {j : Nat} (h : j < 4) : bnd j ≤ 50 := by
  have : j = 0 ∨ j = 1 ∨ j = 2 ∨ j = 3 := by omega
  rcases this with rfl | rfl | rfl | rfl <;> decide
theorem sOf_app (a b : List Nat) : sOf a ++ sOf b = sOf (a ++ b) := by
  show (⟨a.toArray ++ b.toArray⟩ : PySem.Str) = ⟨(a ++ b).toArray⟩
  rw [List.append_toArray]
theorem slc_strD {lo hi : Option Int} {l : List (List Nat)} : slc lo hi (strD l) = strD (slc lo hi l) := by
  unfold slc strD; rw [List.length_map, List.map_take, List.map_drop]
theorem strD_get {l : List (List Nat)} {k : Nat} (h : k < l.length) : (strD l)[k]? = some (.str (sOf (l.getD k []))) := by
  simp [strD, h]
theorem slc_two {α : Type} {k : Nat} {l : List α} {d : α} (h : k + 1 < l.length) : slc (some (k : Int)) (some ((k + 2 : Nat) : Int)) l = [l.getD k d, l.getD (k + 1) d] := by
  unfold slc
  have e1 : clp (some (k : Int)) 0 l.length = k := by unfold clp; dsimp only; rw [if_neg (by omega)]; omega
  have e2 : clp (some ((k + 2 : Nat) : Int)) l.length l.length = k + 2 := by unfold clp; dsimp only; rw [if_neg (by omega)]; omega
  rw [e1, e2, show k + 2 - k = 2 by omega]
  apply List.ext_getElem?
  intro i
  rw [List.getElem?_take]
  by_cases hi : i < 2
  · rw [if_pos hi, List.getElem?_drop]
    have : i = 0 ∨ i = 1 := by omega
    rcases this with rfl | rfl
    · simp [List.getElem?_eq_getElem (show k < l.length by omega)]
    · simp [List.getElem?_eq_getElem h]
  · rw [if_neg hi]; simp; omega
noncomputable def kG (draws : List Int) (st : DS) (g k : Nat) : Ctx := upd (upd (dG draws st) (S "sign") (.int g)) (S "k") (.int k)
noncomputable def tryG (draws : List Int) (st : DS) (g k : Nat) (r : Option Wv) : Ctx := upd (upd (kG draws ⟨st.texts, st.worths, st.bad || r.isNone⟩ g k) (S "sides") (.list (strD [par (st.texts.getD k []), par (st.texts.getD (k + 1) [])]))) (S "worth") (r.getD (.i 0)).d
theorem c_drawn {draws : List Int} (hl : draws.length = 9) (hfit : ∀ j, j < 4 → dsig (draws.getD j 0) = 2 → IntMulOk ((dst draws j).worths.getD (dpos (draws.getD j 0) j) (.i 0)).z ((dst draws j).worths.getD (dpos (draws.getD j 0) j + 1) (.i 0)).z) :
    CallT (cx w mg mb) (n + 2) (.ref 167) [.list (intD draws)] (.tuple [.str (sOf ((dst draws 4).texts.getD 0 [])), if (dst draws 4).bad = true then .none else ((dst draws 4).worths.getD 0 (.i 0)).d]) := by
  refine callT (ps := [S "draws"]) ⟨_, _, rfl, rfl, by kernel_rfl, rfl, rfl, rfl, rfl, rfl, bind1 (fun _ => rfl) rfl⟩ rfl (by kernel_rfl) (fun ob fd h1 h2 => ?_) ?_
  · cases h1; cases h2; rfl
  refine exsE_cons (Γ' := (upd (binds [S "draws"] [.list (intD draws)]) (Str.ofString "signs") (.list (strD sgnL)))) ?_ ?_
  · refine ex_assign ?_ ?_ ?_
    · rw [← esg]
      refine ev_list ?_ ?_
      · iterate 14 refine evs_str ?_
        exact evs_nil
      · decide
    · exact .inl (by kernel_rfl)
    · exact fun _ => rfl
  have T0 : Tri (#[] : Array Value).toList [] := .nil
  refine exsT_l3 0 1 2 T0 code166 (by decide +kernel) (fun _ => three_of rfl rfl rfl) (fun _ => three_of rfl rfl rfl) rfl rfl rfl (.inl (by kernel_rfl)) fun ps1 T1 => ?_
  refine exsT_l3 3 4 5 T1 code166 (by decide +kernel) (fun _ => three_of rfl rfl rfl) (fun _ => three_of rfl rfl rfl) rfl rfl rfl (.inl (by kernel_rfl)) fun ps2 T2 => ?_
  refine exsT_l2 6 7 T2 code166 (by decide +kernel) (fun _ => two_of rfl rfl) (fun _ => two_of rfl rfl) rfl rfl (.inl (by kernel_rfl)) fun ps3 T3 => ?_
  refine exsT_l3 8 9 10 T3 code166 (by decide +kernel) (fun _ => three_of rfl rfl rfl) (fun _ => three_of rfl rfl rfl) rfl rfl rfl (.inl (by kernel_rfl)) fun ps4 T4 => ?_
  refine exsT_l3 11 12 13 T4 code166 (by decide +kernel) (fun _ => three_of rfl rfl rfl) (fun _ => three_of rfl rfl rfl) rfl rfl rfl (.inl (by kernel_rfl)) fun ps5 T5 => ?_
  refine exsT_of T5.str' ?_
  refine exs_cons (ex_assign (d := .list lamD) ?_ (.inl (by kernel_rfl)) (fun _ => rfl)) ?_
  · refine (ev_bin (ev_bin (ev_bin (ev_bin (ev_name rfl) (ev_name rfl) (bin_add_list rfl rfl (by decide))) (ev_name rfl) (bin_add_list rfl rfl (by decide))) (ev_name rfl) (bin_add_list rfl rfl (by decide))) (ev_name rfl) (bin_add_list rfl rfl (by decide))).eq rfl
  refine exs_cons (ex_assign (d := .list (strD [[97], [98], [99], [100], [101]])) ?_ (.inl (by kernel_rfl)) (fun _ => rfl)) ?_
  · refine Ev.eq (a := .list [.str (Str.ofString "a"), .str (Str.ofString "b"), .str (Str.ofString "c"), .str (Str.ofString "d"), .str (Str.ofString "e")]) (ev_list ?_ (by decide)) ?_
    · iterate 5 refine evs_str ?_
      exact evs_nil
    · have e1 : Str.ofString "a" = sOf [97] := by decide +kernel
      have e2 : Str.ofString "b" = sOf [98] := by decide +kernel
      have e3 : Str.ofString "c" = sOf [99] := by decide +kernel
      have e4 : Str.ofString "d" = sOf [100] := by decide +kernel
      have e5 : Str.ofString "e" = sOf [101] := by decide +kernel
      rw [e1, e2, e3, e4, e5]; rfl
  refine exs_cons (ex_assign (d := .list (wD ((draws.drop 4).map .i))) ?_ (.inl (by kernel_rfl)) (fun _ => rfl)) ?_
  · refine Ev.eq (ev_slice_list (lo := some ((4 : Nat) : Int)) (hi := none) (xs := intD draws) (ev_name rfl) (part_some ev_int) part_none flats_intD (by rw [List.length_map]; unfold sizeLine; omega)) ?_
    rw [slc_intD, slc_from (by omega)]
    unfold wD intD; rw [List.map_map]; rfl
  refine exs_cons (ex_assign (d := .bool false) ev_bool (.inl (by kernel_rfl)) (fun _ => rfl)) ?_
  refine Exs.weak (Γ := dG draws (dst draws 0)) ?_ (sub_upd rfl (sub_upd rfl (sub_upd rfl (sub_upd rfl (sub_upd rfl (sub_upd rfl sub_emp))))))
  refine exs_cons (ex_for_gen (src_range (k := 4) (gv_B (by kernel_rfl) (by kernel_rfl) (by decide +kernel)) ev_int (by decide) (by decide) (by kernel_rfl)) (fun j => dG draws (dst draws j)) rfl 4 (by decide) [] (.next (dG draws (dst draws 4))) rfl (.inl (by kernel_rfl)) (fun _ _ => rfl) (fun j d hj hd => ?_) (.inl ⟨by decide, exs_nil⟩)) ?_
  · rw [rng_get (by omega)] at hd; cases hd
    have hok := dst_ok hl j (by omega)
    have hfj := hfit j hj
    obtain ⟨hk, hke⟩ := dpos_lt (d := draws.getD j 0) (j := j) hj
    obtain ⟨hs, hse⟩ := dsig_lt (draws.getD j 0)
    have hbj := bnd_le hj
    show Exs _ _ _ _ _ _ (.next (dG draws (dput (dst draws j) (dsig (draws.getD j 0)) (dpos (draws.getD j 0) j))))
    have hdj : (intD draws)[((j : Nat) : Int).toNat]? = some (.int (draws.getD j 0)) := by rw [Int.toNat_natCast]; exact intD_get (by omega)
    generalize hdd : draws.getD j 0 = dd at *
    generalize dst draws j = st at *
    refine exs_cons (ex_assign (d := .int (dsig dd : Nat)) ?_ (.inl (by kernel_rfl)) (fun _ => rfl)) ?_
    · rw [← hse]; exact ev_bin (ev_sub (ev_name rfl) (ev_name rfl) (item_list (by omega) (by omega) hdj)) ev_int (bin_mod_int (by decide))
    refine exs_cons (ex_assign (d := .int (dpos dd j : Nat)) ?_ (.inl (by kernel_rfl)) (fun _ => rfl)) ?_
    · rw [← hke]
      exact ev_bin (ev_bin (ev_sub (ev_name rfl) (ev_name rfl) (item_list (by omega) (by omega) hdj)) ev_int (bin_fdiv_int (by decide) (by decide))) (ev_bin ev_int (ev_name rfl) bin_sub_int) (bin_mod_int (by omega))
    generalize dpos dd j = k at *
    generalize dsig dd = g at *
    have hkt : k + 1 < st.texts.length := by have := hok.tl; omega
    have hkw : k + 1 < st.worths.length := by have := hok.wl; omega
    have hta : (st.texts.getD k []).length ≤ 50 := Nat.le_trans (hok.tz _ (getD_mem (by omega))) hbj
    have htb : (st.texts.getD (k + 1) []).length ≤ 50 := Nat.le_trans (hok.tz _ (getD_mem (by omega))) hbj
    have htl : st.texts.length ≤ 5 := by have := hok.tl; omega
    have hwl : st.worths.length ≤ 5 := by have := hok.wl; omega
    refine Exs.weak (Γ := kG draws st g k) ?_ (sub_upd rfl (sub_upd rfl (sub_upd rfl (sub_upd rfl (sub_upd rfl (sub_upd rfl (sub_upd rfl (sub_upd rfl sub_emp))))))))
    refine exs_cons (Γ' := upd (kG draws st g k) (Str.ofString "sides") (.list (strD [par (st.texts.getD k []), par (st.texts.getD (k + 1) [])]))) ?_ ?_
    · refine (ex_assign_comp (ds := strD [st.texts.getD k [], st.texts.getD (k + 1) []]) (fun i => upd emp (S "side") (.str (sOf ([st.texts.getD k [], st.texts.getD (k + 1) []].getD i [])))) (fun _ => true) (fun i => .str (sOf (par ([st.texts.getD k [], st.texts.getD (k + 1) []].getD i [])))) ?_ (by kernel_rfl) ?_ ?_ (by intro _ _; rfl) (.inl ⟨_, _, rfl⟩) (fun i d hd => ?_) (fun i d hd => ?_) (fun i d hd _ => ?_) (fun i d hd _ => rfl) (by kernel_rfl) (by kernel_rfl)).eq ?_
      · exact itsrc_list (Ev.eq (ev_slice_list (lo := some (k : Int)) (hi := some ((k + 2 : Nat) : Int)) (ev_name rfl) (part_some (ev_name rfl)) (part_some (ev_bin (ev_name rfl) ev_int bin_add_int)) flats_strD (by unfold strD; rw [List.length_map]; unfold sizeLine; omega)) (by rw [slc_strD, slc_two hkt])) (nols_flats flats_strD)
      · exact trivial
      · show 2 ≤ sizeLine; decide
      · have hi : i = 0 ∨ i = 1 := by
          have : i < 2 := (List.getElem?_eq_some_iff.mp hd).1
          omega
        rcases hi with rfl | rfl <;> (cases hd; exact .loc (by kernel_rfl))
      · exact rfl
      · have hi : i = 0 ∨ i = 1 := by
          have : i < 2 := (List.getElem?_eq_some_iff.mp hd).1
          omega
        have ht : ([st.texts.getD k [], st.texts.getD (k + 1) []].getD i []).length ≤ 50 := by rcases hi with rfl | rfl <;> assumption
        generalize [st.texts.getD k [], st.texts.getD (k + 1) []].getD i [] = t at ht ⊢
        have hlen : (sOf t).length = t.length := sOf_len t
        refine ev_ifexp (q := decide (t.length = 1)) (Tr.eq (tr_cmp (ev_call_builtin (gv_B (by kernel_rfl) (by kernel_rfl) (by decide +kernel)) (evs_cons (ev_name rfl) evs_nil) (call_len_str (by rw [hlen]; omega)) (by kernel_rfl) (by decide +kernel)) ev_int cmp_int_eq) ?_) (fun h => ?_) (fun h => ?_)
        · rw [hlen]
          by_cases q : t.length = 1
          · rw [q]; rfl
          · rw [decide_eq_false q, beq_eq_false_iff_ne]; omega
        · have e : par t = t := if_pos (of_decide_eq_true h)
          rw [e]; exact ev_name rfl
        · have e : par t = [40] ++ t ++ [41] := if_neg (of_decide_eq_false h)
          have e1 : Str.ofString "(" = sOf [40] := by decide +kernel
          have e2 : Str.ofString ")" = sOf [41] := by decide +kernel
          refine Ev.eq (ev_bin (ev_bin ev_str (ev_name rfl) (bin_add_str ?_)) ev_str (bin_add_str ?_)) ?_
          · rw [e1, sOf_len, sOf_len]; show 1 + t.length ≤ sizeLine; unfold sizeLine; omega
          · rw [e1, e2, sOf_app, sOf_len, sOf_len, List.length_append]; show 1 + t.length + 1 ≤ sizeLine; unfold sizeLine; omega
          · rw [e1, e2, sOf_app, sOf_app, e]
      · rfl
    refine exs_cons (ex_assign (d := .int 0) ev_int (.inl (by kernel_rfl)) (fun _ => rfl)) ?_
    have hlg : lamD[((g : Nat) : Int).toNat]? = some (.lam g) := by
      rw [Int.toNat_natCast]; unfold lamD; simp [hs]
    have hx1 : (wD st.worths)[((k : Nat) : Int).toNat]? = some (st.worths.getD k (.i 0)).d := by rw [Int.toNat_natCast, wD_get (by omega)]
    have hy1 : (wD st.worths)[((k + 1 : Nat) : Int).toNat]? = some (st.worths.getD (k + 1) (.i 0)).d := by rw [Int.toNat_natCast, wD_get (by omega)]
    refine exs_cons (Γ' := tryG draws st g k (wop g (st.worths.getD k (.i 0)) (st.worths.getD (k + 1) (.i 0)))) ?_ ?_
    · cases hw : wop g (st.worths.getD k (.i 0)) (st.worths.getD (k + 1) (.i 0)) with
      | none =>
        refine Ex.to (ex_try_assign (gv_B (by kernel_rfl) (by kernel_rfl) (by decide +kernel)) (evF_call_lam (ev_sub (ev_name rfl) (ev_name rfl) (item_list (by omega) (by omega) hlg)) (evs_cons (ev_sub (ev_name rfl) (ev_name rfl) (item_list (by omega) (by omega) hx1)) (evs_cons (ev_sub (ev_name rfl) (ev_bin (ev_name rfl) ev_int bin_add_int) (item_list (i := ((k + 1 : Nat) : Int)) (by omega) (by omega) hy1)) evs_nil)) (r_lam hs hw)) (by kernel_rfl) (.inl (by kernel_rfl)) (fun _ => rfl) (fun _ => rfl)) (sub_upd rfl (sub_upd rfl (sub_upd rfl (sub_upd rfl (sub_upd (by show some (D.bool true) = some (.bool (st.bad || true)); rw [Bool.or_true]) (sub_upd rfl (sub_upd rfl (sub_upd rfl (sub_upd rfl (sub_upd rfl sub_emp))))))))))
      | some z =>
        refine Ex.to (ex_try_next (exs_cons (ex_assign (ev_call_lam (ev_sub (ev_name rfl) (ev_name rfl) (item_list (by omega) (by omega) hlg)) (evs_cons (ev_sub (ev_name rfl) (ev_name rfl) (item_list (by omega) (by omega) hx1)) (evs_cons (ev_sub (ev_name rfl) (ev_bin (ev_name rfl) ev_int bin_add_int) (item_list (i := ((k + 1 : Nat) : Int)) (by omega) (by omega) hy1)) evs_nil)) (l_lam hs hw hfj)) (.inl (by kernel_rfl)) (fun _ => rfl)) exs_nil)) (sub_upd rfl (sub_upd rfl (sub_upd rfl (sub_upd rfl (sub_upd (by show some (D.bool st.bad) = some (.bool (st.bad || false)); rw [Bool.or_false]) (sub_upd rfl (sub_upd rfl (sub_upd rfl (sub_upd rfl (sub_upd rfl sub_emp))))))))))
    have hsgl := sgn_len g hs
    have sl : ∀ l : List (List Nat), (strD l).length = l.length := fun l => List.length_map _
    have wl : ∀ l : List Wv, (wD l).length = l.length := fun l => List.length_map _
    have hsg : (strD sgnL)[((g : Nat) : Int).toNat]? = some (.str (sOf (sgnL.getD g []))) := by rw [Int.toNat_natCast]; exact strD_get hs
    have pa := par_len (st.texts.getD k [])
    have pb := par_len (st.texts.getD (k + 1) [])
    have t1 : slc none (some ((k : Nat) : Int)) (strD st.texts) = strD (st.texts.take k) := by rw [slc_strD, slc_to (by omega)]
    have t2 : slc (some ((k + 2 : Nat) : Int)) none (strD st.texts) = strD (st.texts.drop (k + 2)) := by rw [slc_strD, slc_from (by omega)]
    have w1 : slc none (some ((k : Nat) : Int)) (wD st.worths) = wD (st.worths.take k) := by rw [slc_wD, slc_to (by omega)]
    have w2 : slc (some ((k + 2 : Nat) : Int)) none (wD st.worths) = wD (st.worths.drop (k + 2)) := by rw [slc_wD, slc_from (by omega)]
    refine exs_cons (ex_assign (d := .list (strD (dput st g k).texts)) ?_ (.inl (by kernel_rfl)) (fun _ => rfl)) ?_
    · refine Ev.eq (ev_bin (ev_bin (ev_slice_list (xs := strD st.texts) (lo := none) (hi := some ((k : Nat) : Int)) (ev_name rfl) part_none (part_some (ev_name rfl)) flats_strD (by rw [sl]; unfold sizeLine; omega)) (b := .list (strD [par (st.texts.getD k []) ++ sgnL.getD g [] ++ par (st.texts.getD (k + 1) [])])) ?_ (bin_add_list ?_ ?_ ?_)) (ev_slice_list (xs := strD st.texts) (lo := some ((k + 2 : Nat) : Int)) (hi := none) (ev_name rfl) (part_some (ev_bin (ev_name rfl) ev_int bin_add_int)) part_none flats_strD (by rw [sl]; unfold sizeLine; omega)) (bin_add_list ?_ ?_ ?_)) ?_
      · refine ev_list (evs_cons ?_ evs_nil) (by show 1 ≤ sizeLine; decide)
        refine Ev.eq (ev_bin (ev_bin (ev_sub (ev_name rfl) ev_int (item_list (by decide) (by decide) (show (strD [par (st.texts.getD k []), par (st.texts.getD (k + 1) [])])[0]? = some (.str (sOf (par (st.texts.getD k [])))) from rfl))) (ev_sub (ev_name rfl) (ev_name rfl) (item_list (by omega) (by omega) hsg)) (bin_add_str ?_)) (ev_sub (ev_name rfl) ev_int (item_list (by decide) (by decide) (show (strD [par (st.texts.getD k []), par (st.texts.getD (k + 1) [])])[1]? = some (.str (sOf (par (st.texts.getD (k + 1) [])))) from rfl))) (bin_add_str ?_)) ?_
        · rw [sOf_len, sOf_len]; unfold sizeLine; omega
        · rw [sOf_app, sOf_len, sOf_len, List.length_append]; unfold sizeLine; omega
        · rw [sOf_app, sOf_app]
      · rw [t1]; exact flats_strD
      · exact flats_strD
      · rw [t1, sl, sl, List.length_take]; show _ + 1 ≤ _; unfold sizeLine; omega
      · rw [t1, flats_app, flats_strD, flats_strD]; rfl
      · rw [t2]; exact flats_strD
      · rw [t1, t2, List.length_append, sl, sl, sl, List.length_take, List.length_drop]; show _ + 1 + _ ≤ _; unfold sizeLine; omega
      · rw [t1, t2]; unfold strD dput; simp
    refine exs_cons (ex_assign (d := .list (wD (dput st g k).worths)) ?_ (.inl (by kernel_rfl)) (fun _ => rfl)) ?_
    · refine Ev.eq (ev_bin (ev_bin (ev_slice_list (xs := wD st.worths) (lo := none) (hi := some ((k : Nat) : Int)) (ev_name rfl) part_none (part_some (ev_name rfl)) flats_wD (by rw [wl]; unfold sizeLine; omega)) (b := .list (wD [(wop g (st.worths.getD k (.i 0)) (st.worths.getD (k + 1) (.i 0))).getD (.i 0)])) ?_ (bin_add_list ?_ ?_ ?_)) (ev_slice_list (xs := wD st.worths) (lo := some ((k + 2 : Nat) : Int)) (hi := none) (ev_name rfl) (part_some (ev_bin (ev_name rfl) ev_int bin_add_int)) part_none flats_wD (by rw [wl]; unfold sizeLine; omega)) (bin_add_list ?_ ?_ ?_)) ?_
      · exact ev_list (evs_cons (Ev.flat (ev_name rfl) (flat_w _)) evs_nil) (by show 1 ≤ sizeLine; decide)
      · rw [w1]; exact flats_wD
      · exact flats_wD
      · rw [w1, wl, wl, List.length_take]; show _ + 1 ≤ _; unfold sizeLine; omega
      · rw [w1, flats_app, flats_wD, flats_wD]; rfl
      · rw [w2]; exact flats_wD
      · rw [w1, w2, List.length_append, wl, wl, wl, List.length_take, List.length_drop]; show _ + 1 + _ ≤ _; unfold sizeLine; omega
      · rw [w1, w2]; unfold wD dput; simp
    exact exs_nil' (sub_upd rfl (sub_upd rfl (sub_upd rfl (sub_upd rfl (sub_upd rfl (sub_upd rfl sub_emp))))))
  have hok := dst_ok hl 4 (Nat.le_refl _)
  generalize dst draws 4 = st at *
  have h1 : (strD st.texts)[(0 : Int).toNat]? = some (.str (sOf (st.texts.getD 0 []))) := strD_get (by have := hok.tl; omega)
  have h2 : (wD st.worths)[(0 : Int).toNat]? = some (st.worths.getD 0 (.i 0)).d := wD_get (by have := hok.wl; omega)
  refine exs_ret (ex_ret (ev_tuple (evs_cons (Ev.flat (ev_sub (ev_name rfl) ev_int (item_list (by decide) (by decide) h1)) rfl) (evs_cons ?_ evs_nil)) (by show 2 ≤ sizeLine; decide)))
  refine ev_ifexp (tr_val (ev_name rfl) tru_bool) (fun h => ?_) (fun h => ?_)
  · rw [if_pos h]; exact ev_none
  · rw [if_neg (by rw [h]; decide)]; exact Ev.flat (ev_sub (ev_name rfl) ev_int (item_list (by decide) (by decide) h2)) (flat_w _)
end Mine
end
section
open PySem PySem.W PyProof.Rows PySem.Calls
set_option linter.unusedSectionVars false
set_option linter.unusedVariables false
set_option maxRecDepth 100000
set_option maxHeartbeats 4000000
namespace Mine
variable [Bd]
section
variable {c : Cx} {n : Nat} {sc : Scope} {Γ : Ctx}
theorem noT_up {h h' : Heap} (k : Stays (noT h) h') : Stays (noT h) (noT h') := fun b o e => by
  have hb : b ≠ 164 := fun q => by rw [q, noT_164] at e; cases e
  rw [noT_other hb]; exact k b o e
/-- the body of law: its first statement, the draw, the rest -/
noncomputable def ExsL (c : Cx) (n : Nat) (sc : Scope) (Γ : Ctx) (sts : List PySem.Stmt) (d : D) : Prop :=
  ∀ env A s s₁ E Q, Fm sc env → OkA n A → Wf c A env s.heap → Wf c A env (noT s.heap) → s.heap.get? 164 = some (tabObj #[]) → Fs s env (fun _ => true) Γ s₁ →
    (∀ v as s', Kp { s with heap := noT s.heap } s' → Rd s'.heap v d as → HasT s'.heap → Q (.ret v) s') → wpAny (model c.prog c.w) A (execs sts env) Q E s₁
theorem exsL {Γ' : Ctx} {st : PySem.Stmt} {rest : List PySem.Stmt} {x y z fn : PySem.Str} {p1 p2 tp p np cp xp : Pos} {k : Nat} {dx d1 d2 d : D} {f : Addr} {ob : Obj} {fd : FuncData}
    (h1 : Ex c n sc (fun _ => true) Γ st (.next Γ')) (g : GV c fn (.ref f)) (ho : c.K.lookup f = some ob) (hfd : ob.data = .func fd) (hx : Γ' x = some dx) (hc : CallT c n (.ref f) [dx] (.tuple [d1, d2]))
    (h3 : Exs c n sc (fun _ => true) (upd (upd Γ' y d1) z d2) rest (.ret d))
    (hk : sc.names.lookup fn = some .globalImplicit) (hd : (fn == ("__debug__" : PySem.Str)) = false) (hdx : (x == ("__debug__" : PySem.Str)) = false)
    (hy : sc.names.lookup y = some .local ∨ sc.names.lookup y = some .cell) (hz : sc.names.lookup z = some .local ∨ sc.names.lookup z = some .cell)
    (hs : ∀ env, swapsWithSole [.Tuple [.Name y p1, .Name z p2] k tp] (.Call (.Name fn np) [.Name x xp] [] cp) p.line env = pure false := by intro _; rfl) (hw : ∀ env, swappedStores [.Tuple [.Name y p1, .Name z p2] k tp] (.Call (.Name fn np) [.Name x xp] [] cp) env = pure none := by intro _; rfl) :
    ExsL c n sc Γ (st :: .Assign [.Tuple [.Name y p1, .Name z p2] k tp] (.Call (.Name fn np) [.Name x xp] [] cp) p :: rest) d := by
  intro env A s s₁ E Q F ok W WT hP V hq
  refine wpAny_execs_cons (h1 env A s s₁ E _ F ok W V fun s₂ V₂ => ?_)
  have base : ∀ {s'}, Fs s env (fun _ => true) Γ' s' → Fs { s with heap := noT s.heap } env (fun _ => true) Γ' s' := fun V' => V'.down (s0 := { s with heap := noT s.heap }) (s := s) (g := s.heap) (cut_stays _ _) ⟨s.heap, s.toks, rfl, cut_stays _ _⟩
  refine wpAny_execs_cons (Assign_Tuple ?_ (hs env) (hw env))
  refine wpAny_Call_NameR (name_gv g F (V₂.wd W) hk hd (callWith_function (o := ob) (fd := fd) ?_))
  have ev : Evs c n sc Γ' false [.Name x xp] [dx] := evs_cons (ev_name hx hdx) evs_nil
  have := ev env A s₂ E cp (fun vs s' => (s'.heap.get? f = some ob ∧ ob.data = .func fd) ∧ wpAny (model c.prog c.w) A (call (.ref f) ([] ++ vs) []) (fun v s₄ => wpAny (model c.prog c.w) A (assign (.Tuple [.Name y p1, .Name z p2] k tp) env v) (fun _ s' => wpAny (model c.prog c.w) A (execs rest env) Q E s') E s₄) E s') F ok (V₂.wd W) V₂.toVars fun vs as s₃ k₃ r₃ _ => ?_
  · exact evalArgs_plain this
  · have V3 := V₂.grow k₃
    have hP3 : s₃.heap.get? 164 = some (tabObj #[]) := V3.kp.st.ex hP (notDic_fields rfl)
    refine ⟨⟨(V3.wd W).K _ _ ho, hfd⟩, ?_⟩
    refine hc A s₃ E _ vs as ok (V3.wd W) hP3 (WT.toWd0.stays (noT_up (base V3).kp.st)) r₃ fun v as₄ s₄ k₄ r₄ ht₄ => ?_
    have V4 : Fs { s with heap := noT s.heap } env (fun _ => true) Γ' { s₃ with heap := noT s₃.heap, toks := s₃.toks } := (base V3).offs (wr := [164]) (by intro b hb; rw [List.mem_singleton.mp hb]; exact offO_fields hP3 rfl (by intro q t h; simp at h)) (by intro b hb; rw [List.mem_singleton.mp hb]; exact noT_164 _) fun b o hb e => by rw [noT_other (by simpa using hb)]; exact e
    have V5 := V4.grow k₄
    obtain ⟨ps₄, hs₄, hP4⟩ := ht₄
    obtain ⟨f5, VV5⟩ := V5.vars
    obtain ⟨hb5, FB5⟩ := V5.rebase VV5
    have offP : OffO s₄.heap 164 := offO_fields hP4 rfl hs₄
    have gP5 := ((cut_get).2 (not_mut_off V5 VV5 offP)).trans hP4
    obtain ⟨t, ws, rfl, ht, rl⟩ := r₄.tuple_inv
    obtain ⟨v1, v2, as1, bs1, rfl, _, r1, r2⟩ := rl.two
    refine wpAny_assign_Tuple ok.h ht rfl rfl fun h1 he => ?_
    have kk := extBut_kp he
    have V6 := FB5.grow kk
    refine wpAny_assignInOrder_more (wpAny_assign_Name (store_all V6 (fun _ => rfl) (r1.stays kk.st) F.kind (kind_fm F hy) fun s7 V7 c7 => ?_))
    refine wpAny_assignInOrder_more (wpAny_assign_Name (store_all V7 (fun _ => rfl) ((r2.stays kk.st).carry (c7 bs1) fun _ h => h) F.kind (kind_fm F hz) fun s8 V8 c8 => ?_))
    refine wpAny_assignInOrder_none ?_
    exact h3 env A _ s8 E Q F ok (WT.stays hb5) V8 fun v as' s' k r _ => hq v as' s' (Kp.down hb5 V5.kp k) r ⟨ps₄, hs₄, k.st.ex gP5 (notDic_fields rfl)⟩
end
end Mine
end
section
open PySem PySem.W PyProof.Rows PySem.Calls
set_option linter.unusedSectionVars false
set_option linter.unusedVariables false
set_option maxRecDepth 100000
set_option maxHeartbeats 4000000
namespace Mine
variable [Bd]
section
variable {c : Cx} {n : Nat}
theorem bin_add_nol {xs ys : List D} (fx : nols xs = true) (fy : nols ys = true) (hs : xs.length + ys.length ≤ sizeLine) : Bin c n .Add (.list xs) (.list ys) (.list (xs ++ ys)) := by
  intro A s E Q va vb as bs o W ra rb h
  cases ra with | list hl rl => cases rb with | list hb rb =>
  rename_i l vs _ b ws _
  obtain rfl := rl.nol fx
  obtain rfl := rb.nol fy
  obtain ⟨⟨cls, dd, data, sl⟩, ho, hc, m, hd⟩ := id hl.is
  obtain ⟨⟨cls2, dd2, data2, sl2⟩, ho2, hc2, m2, hd2⟩ := id hb.is
  simp only at hc hd hc2 hd2
  subst hc hd hc2 hd2
  have e : vs.toArray ++ ws.toArray = (vs ++ ws).toArray := by simp
  refine concat_meets ⟨_, ho, rfl⟩ ⟨_, ho2, rfl⟩ noFill_list_add seq_list_add PySem.F.slot_list_add PySem.F.entry_list_add (PySem.F.args_list_add_2 _ _)
    (list_addW l b vs.toArray ws.toArray m m2 dd dd2 sl sl2 (by rw [List.size_toArray, List.size_toArray, rl.length, rb.length]; exact hs)) ⟨ho, ho2, ?_⟩
  rw [e]
  refine h _ _ _ (kp_push s _ _) (rd_new (RdAll.append rl rb) rfl) fun _ a ha => ?_
  rw [List.mem_singleton.mp ha]; exact new_none _
noncomputable def CallL (c : Cx) (n : Nat) (f : Value) (args : List D) (d : D) : Prop :=
  ∀ A s E Q vs as, A.handled = none → A.depth + (n + 1) ≤ 600 → A.units + 10 * (n + 1) ≤ 6000 → Wd c A s.heap → s.heap.get? 164 = some (tabObj #[]) → Wd0 c (noT s.heap) → RdAll s.heap vs args as →
    (∀ v as' s', Kp { s with heap := noT s.heap } s' → Rd s'.heap v d as' → HasT s'.heap → Q v s') → wpAny (model c.prog c.w) A (call f vs) Q E s
theorem callL {f : Addr} {ps : List PySem.Str} {scope : Scope} {body : List PySem.Stmt} {ds : List D} {d : D} (hf : DefAt c f ps scope body) (hlen : ds.length = ps.length) (ok : defOk scope ps = true)
    (h : ExsL c n scope (binds ps ds) body d) : CallL c n (.ref f) ds d := by
  intro A s E Q vs as hh hd hu W hP W0 r k
  refine enter_def (fun _ => true) (fun _ _ => rfl) hf hlen ok (by show A.depth < 1000; omega) W r fun env s₁ F Wf FF _ => ?_
  obtain ⟨l, e, st⟩ := Wf.stk
  have oA : OkA n (A.deeper env) := ⟨hh, by show A.depth + 1 + n ≤ 600; omega, by show A.units + 3 + 10 * n ≤ 6000; omega, by rw [e]; exact fun q => nomatch q⟩
  exact h env _ s s₁ _ _ F oA Wf ⟨W0, ⟨l, e, noT_stays hP st⟩, Wf.fm, Wf.kd⟩ hP FF fun v as' s' kk rr t => k v as' s' kk rr t
end
noncomputable def wayOf (draws : List Int) : Int := (draws.getD 3 0).fdiv 14
noncomputable def pricesOf (way : Int) : List Int := (List.range 3).map fun k : Nat => if ((k : Int) == way.fmod 3) = true then 1 + (way.fdiv 12).fmod 2 else 2
noncomputable def prsOf (ws : List (List Nat)) (b0 : List Nat) : List (List Nat × List Nat) := (ws.map fun x => (b0, x)) ++ (List.range 4).map fun k => (ws.getD (k + 1) [], ws.getD k [])
noncomputable def tsOf (draws : List Int) (ss : List Nat) (shares : List Int) : TS := ⟨(List.range 5).map fun i => .i (draws.getD (4 + i) 0), ss, shares⟩
noncomputable def oD : Option Wv → D
  | none => .none
  | some w => w.d
noncomputable def dueOf (st : DS) : Option Wv := if st.bad = true then none else some (st.worths.getD 0 (.i 0))
structure LawOk (draws : List Int) (ts : List (List Nat)) (code : List Nat → Int) (ws : List (List Nat)) (b0 : List Nat) (ss : List Nat) (fars : List Int) : Prop where
  len : draws.length = 9
  fit : ∀ j, j < 4 → dsig (draws.getD j 0) = 2 → IntMulOk ((dst draws j).worths.getD (dpos (draws.getD j 0) j) (.i 0)).z ((dst draws j).worths.getD (dpos (draws.getD j 0) j + 1) (.i 0)).z
  text : (dst draws 4).texts.getD 0 [] = ts.flatten
  stp : ∀ i p, ts[i]? = some p → Stp (ts.drop i).flatten p (code p)
  tz : ts.flatten.length ≤ 64
  tc : ∀ x ∈ ts.flatten, x < 128
  yz : (ts.map code ++ [0]).length ≤ 64
  pop : ∀ k, (ts.map code ++ [0])[k]? = some 8 → (wst (wayOf draws) (ts.map code ++ [0]) k).opens ≠ []
  names : (wst (wayOf draws) (ts.map code ++ [0]) (ts.map code ++ [0]).length).names = [0, 1, 2, 3, 4]
  words : (wst (wayOf draws) (ts.map code ++ [0]) (ts.map code ++ [0]).length).words = ws.map sOf
  signs : (wst (wayOf draws) (ts.map code ++ [0]) (ts.map code ++ [0]).length).signs = ss.map tokOf
  wlen : ws.length = 5
  slen : ss.length = 4
  s14 : ∀ s ∈ ss, s < 14
  bare : lword [] (wayOf draws) = sOf b0
  low : ∀ x ∈ b0 :: ws, x.length ≤ 8 ∧ ∀ c ∈ x, low1 c
  flen : fars.length = 9
  far : ∀ k, k < 9 → lev ((prsOf ws b0).getD k ([], [])).1 ((prsOf ws b0).getD k ([], [])).2 (pricesOf (wayOf draws)).sum = fars.getD k 0
  rev : ∀ k, k < 9 → lev ((prsOf ws b0).getD k ([], [])).2 ((prsOf ws b0).getD k ([], [])).1 (fars.getD k 0) = fars.getD k 0
  segs3 : (segs ts.flatten ts.flatten.length).length = 3
  cls : ∀ i, i < ts.flatten.length → ts.flatten.getD i 0 = 40 → closes (ts.flatten.drop i) 0 = true
  held : ((List.range 4).map fun k => fars.getD k 0 + fars.getD (k + 1) 0 - fars.getD (5 + k) 0) = told4 (pricesOf (wayOf draws)) ts.flatten
  tfit : ∀ i st', i < 4 → trun (tsOf draws ss (told4 (pricesOf (wayOf draws)) ts.flatten)) i = some st' → st'.s = 2 → IntMulOk st'.x.z st'.y.z
  told : (trun (tsOf draws ss (told4 (pricesOf (wayOf draws)) ts.flatten)) 4).map (fun st' => st'.ws.getD 0 (.i 0)) = dueOf (dst draws 4)
end Mine
end
section
open PySem PySem.W PyProof.Rows PySem.Calls
set_option linter.unusedSectionVars false
set_option linter.unusedVariables false
set_option maxRecDepth 100000
set_option maxHeartbeats 4000000
namespace Mine
variable [Bd]
variable {w : World} {mg mb : PySem.Str → Option Value} {n : Nat}
theorem eqv_ints {l : List Int} : (D.list (intD l)).py.eqv (D.list (intD l)).py = true := by
  have := shaped_flat (xs := intD l) (by rw [List.all_eq_true]; intro x hx; obtain ⟨p, hp, rfl⟩ := List.mem_map.mp hx; rfl)
  exact SeqAt.eqv_refl _ (SeqAt.canLay_of_shaped this.1)
theorem low_ints {l : List Int} : (intD l).all lowD = true := by
  rw [List.all_eq_true]; intro x hx; obtain ⟨p, hp, rfl⟩ := List.mem_map.mp hx; rfl
theorem cmp_ints_ne {c : Cx} {l : List Int} : Cmp c n .NotEq (.list (intD l)) (.list (intD l)) false := by
  have := cmp_flat_ne (c := c) (n := n) (low_ints (l := l)) (low_ints (l := l))
  rw [eqv_ints] at this; exact this
theorem low_bools {l : List Bool} : (boolD l).all lowD = true := by
  rw [List.all_eq_true]; intro x hx; obtain ⟨p, hp, rfl⟩ := List.mem_map.mp hx; rfl
theorem cmp_bools_ne {c : Cx} {l : List Bool} : Cmp c n .NotEq (.list (boolD l)) (.list (boolD l)) false := by
  have := cmp_flat_ne (c := c) (n := n) (low_bools (l := l)) (low_bools (l := l))
  rw [SeqAt.eqv_refl _ (SeqAt.canLay_of_shaped (shaped_flat (low_bools (l := l))).1)] at this; exact this
theorem tD_map {l : List (List Nat)} : tD (l.map sOf) = strD l := by unfold tD strD; rw [List.map_map]; rfl
theorem dueD (st : DS) : (if st.bad = true then D.none else (st.worths.getD 0 (.i 0)).d) = oD (dueOf st) := by
  unfold dueOf; split <;> rfl
noncomputable def lawG (draws : List Int) (ts : List (List Nat)) (ws : List (List Nat)) (ss : List Nat) : Ctx :=
  upd (upd (upd (upd (upd (upd (upd (upd emp (S "draws") (.list (intD draws))) (S "text") (.str (sOf ts.flatten))) (S "due") (oD (dueOf (dst draws 4)))) (S "way") (.int (wayOf draws))) (S "prices") (.list (intD (pricesOf (wayOf draws))))) (S "names") (.list (intD [0, 1, 2, 3, 4]))) (S "words") (.list (strD ws))) (S "signs") (.list (intD (ss.map tokOf)))
noncomputable def prD (l : List (List Nat × List Nat)) : List D := l.map fun p => .tuple [.str (sOf p.1), .str (sOf p.2)]
theorem nols_prD {l : List (List Nat × List Nat)} : nols (prD l) = true := by
  induction l with
  | nil => rfl
  | cons a l ih => exact ih
theorem mapD {α β : Type} (f : α → β) (d : α) (l : List α) : ((List.range l.length).map fun i => f (l.getD i d)) = l.map f := by
  apply List.ext_getElem?
  intro i
  by_cases h : i < l.length <;> simp [h]
theorem c_law {l : List Int} (hz : l.length ≤ sizeLine) {ts : List (List Nat)} {code : List Nat → Int} {ws : List (List Nat)} {b0 : List Nat} {ss : List Nat} {fars : List Int} (o : LawOk (drawsOf l) ts code ws b0 ss fars) :
    CallL (cx w mg mb) (n + 3) (.ref 208) [.list (intD l)] (.bool true) := by
  refine callL (ps := [S "script"]) ⟨_, _, rfl, rfl, by kernel_rfl, rfl, rfl, rfl, rfl, rfl, bind1 (fun _ => rfl) rfl⟩ rfl (by kernel_rfl) ?_
  refine exsL (d1 := .str (sOf ts.flatten)) (d2 := oD (dueOf (dst (drawsOf l) 4))) (ex_assign (ev_call_def (gv_K (c := cx w mg mb) (v := .ref 162) (by kernel_rfl)) rfl rfl (evs_cons (ev_name rfl) evs_nil) (c_draws hz) (by kernel_rfl) (by kernel_rfl))) (gv_K (c := cx w mg mb) (v := .ref 167) (by kernel_rfl)) rfl rfl rfl (by rw [← o.text, ← dueD]; exact c_drawn (n := n + 1) o.len o.fit) ?_ (by kernel_rfl) (by decide +kernel) (by decide +kernel) (by decide +kernel) (by decide +kernel)
  generalize drawsOf l = draws at o ⊢
  have hd3 : (intD draws)[(3 : Int).toNat]? = some (.int (draws.getD 3 0)) := intD_get (by rw [o.len]; decide)
  refine exs_cons (ex_assign (d := .int (wayOf draws)) (ev_bin (ev_sub (ev_name rfl) ev_int (item_list (by decide) (by decide) hd3)) ev_int (bin_fdiv_int (by decide) (by decide)))) ?_
  refine exs_cons (ex_assign_cc (d := .list (intD (pricesOf (wayOf draws)))) ?_) ?_
  · refine Ev.eq (ev_comp (ds := rng 3) (fun k => upd emp (S "k") (.int k)) (fun _ => true) (fun k => .int (if ((k : Int) == (wayOf draws).fmod 3) = true then 1 + ((wayOf draws).fdiv 12).fmod 2 else 2)) (itsrc_range (k := 3) (gv_B (by kernel_rfl) (by kernel_rfl) (by decide +kernel)) ev_int (by decide) (by decide) (by kernel_rfl)) (by kernel_rfl) ?_ (by decide) (by intro _ _; rfl) (.inl ⟨_, _, rfl⟩) (fun k d hd => ?_) (fun k d hd => ?_) (fun k d hd _ => ?_) (fun k d hd _ => ?_)) ?_
    · exact ⟨⟨_, rfl⟩, trivial⟩
    · have hk : k < 3 := by
        have := (List.getElem?_eq_some_iff.mp hd).1
        rw [rng_length] at this; exact this
      rw [rng_get hk] at hd; cases hd
      exact .loc (by kernel_rfl)
    · exact rfl
    · refine ev_ifexp (tr_cmp (ev_name rfl) (ev_bin (ev_name rfl) ev_int (bin_mod_int (by decide))) cmp_int_eq) (fun h => ?_) (fun h => ?_)
      · rw [if_pos h]; exact ev_bin ev_int (ev_bin (ev_bin (ev_name rfl) ev_int (bin_fdiv_int (by decide) (by decide))) ev_int (bin_mod_int (by decide))) bin_add_int
      · rw [if_neg (by rw [h]; decide)]; exact ev_int
    · rfl
    · unfold intD pricesOf; rw [List.map_map]; rfl
  have hwalk := c_walk (w := w) (mg := mg) (mb := mb) (n := n + 1) (ys := ts.map code ++ [0]) (way := wayOf draws) o.yz o.pop
  rw [o.names, o.words, o.signs, tD_map] at hwalk
  refine exs_cons (ex_unpack3 (fun _ => rfl) (ev_call_def (gv_K (c := cx w mg mb) (v := .ref 186) (by kernel_rfl)) rfl rfl (evs_cons (ev_call_def (gv_K (c := cx w mg mb) (v := .ref 172) (by kernel_rfl)) rfl rfl (evs_cons (ev_name rfl) evs_nil) (c_symbols code o.stp o.tz o.tc) (by kernel_rfl) (by kernel_rfl)) (evs_cons (ev_name rfl) evs_nil)) hwalk (by kernel_rfl) (by kernel_rfl))) ?_
  refine Exs.weak (Γ := lawG draws ts ws ss) ?_ (sub_upd rfl (sub_upd rfl (sub_upd rfl (sub_upd rfl (sub_upd rfl (sub_upd rfl (sub_upd rfl (sub_upd rfl sub_emp))))))))
  generalize hdue : oD (dueOf (dst draws 4)) = dueV
  have hlen4 : (intD (ss.map tokOf)).length = 4 := by rw [List.length_map, List.length_map]; exact o.slen
  refine exs_cons (ex_if_f (Tr.eq (tr_or2 (tr_cmp (ev_name rfl) (ev_list ?_ (by decide)) (cmp_ints_ne (l := [0, 1, 2, 3, 4]))) (fun _ => tr_cmp (ev_call_builtin (gv_B (by kernel_rfl) (by kernel_rfl) (by decide +kernel)) (evs_cons (ev_name rfl) evs_nil) (call_len_list' (by rw [hlen4]; decide)) (by kernel_rfl) (by decide +kernel)) ev_int cmp_int_ne)) ?_) exs_nil) ?_
  · iterate 5 refine evs_int ?_
    exact evs_nil
  · rw [hlen4]; rfl
  have hbare := c_word (w := w) (mg := mg) (mb := mb) (n := n + 2) (l := []) (way := wayOf draws)
  rw [o.bare] at hbare
  refine exs_cons (ex_assign (d := .str (sOf b0)) (ev_call_def (gv_K (c := cx w mg mb) (v := .ref 179) (by kernel_rfl)) rfl rfl (evs_cons (ev_list evs_nil (by decide)) (evs_cons (ev_name rfl) evs_nil)) hbare (by kernel_rfl) (by kernel_rfl))) ?_
  have hprl : (prsOf ws b0).length = 9 := by unfold prsOf; rw [List.length_append, List.length_map, List.length_map, o.wlen]; rfl
  refine exs_cons (ex_assign (d := .list (prD (prsOf ws b0))) ?_) ?_
  · refine Ev.eq (ev_bin (a := .list (prD (ws.map fun x => (b0, x)))) (b := .list (prD ((List.range 4).map fun k => (ws.getD (k + 1) [], ws.getD k [])))) ?_ ?_ (bin_add_nol nols_prD nols_prD ?_)) ?_
    · refine Ev.eq (ev_comp (ds := strD ws) (fun k => upd emp (S "word") (.str (sOf (ws.getD k [])))) (fun _ => true) (fun k => .tuple [.str (sOf b0), .str (sOf (ws.getD k []))]) (itsrc_list (ev_name rfl) (nols_flats flats_strD)) (by kernel_rfl) ?_ ?_ (by intro _ _; rfl) (.inl ⟨_, _, rfl⟩) (fun k d hd => ?_) (fun k d hd => ?_) (fun k d hd _ => ?_) (fun k d hd _ => ?_)) ?_
      · exact ⟨⟨_, rfl⟩, trivial⟩
      · unfold strD; rw [List.length_map, o.wlen]; decide
      · have hk : k < ws.length := by
          have := (List.getElem?_eq_some_iff.mp hd).1
          unfold strD at this; rw [List.length_map] at this; exact this
        rw [strD_get hk] at hd; cases hd
        exact .loc (by kernel_rfl)
      · exact rfl
      · exact ev_tuple (evs_cons (ev_name rfl) (evs_cons (ev_name rfl) evs_nil)) (by show 2 ≤ sizeLine; decide)
      · rfl
      · rw [List.filter_eq_self.mpr (fun _ _ => rfl)]
        unfold strD prD; rw [List.length_map, List.map_map, mapD (fun x => D.tuple [.str (sOf b0), .str (sOf x)]) [] ws]; rfl
    · refine Ev.eq (ev_comp (ds := rng 4) (fun k => upd emp (S "k") (.int k)) (fun _ => true) (fun k => .tuple [.str (sOf (ws.getD (k + 1) [])), .str (sOf (ws.getD k []))]) (itsrc_range (k := 4) (gv_B (by kernel_rfl) (by kernel_rfl) (by decide +kernel)) ev_int (by decide) (by decide) (by kernel_rfl)) (by kernel_rfl) ?_ (by decide) (by intro _ _; rfl) (.inl ⟨_, _, rfl⟩) (fun k d hd => ?_) (fun k d hd => ?_) (fun k d hd _ => ?_) (fun k d hd _ => ?_)) ?_
      · exact ⟨⟨_, rfl⟩, trivial⟩
      · have hk : k < 4 := by
          have := (List.getElem?_eq_some_iff.mp hd).1
          rw [rng_length] at this; exact this
        rw [rng_get hk] at hd; cases hd
        exact .loc (by kernel_rfl)
      · exact rfl
      · have hk : k < 4 := by
          have := (List.getElem?_eq_some_iff.mp hd).1
          rw [rng_length] at this; exact this
        have hw := o.wlen
        have g1 : (strD ws)[((k + 1 : Nat) : Int).toNat]? = some (.str (sOf (ws.getD (k + 1) []))) := by rw [Int.toNat_natCast]; exact strD_get (by omega)
        have g2 : (strD ws)[((k : Nat) : Int).toNat]? = some (.str (sOf (ws.getD k []))) := by rw [Int.toNat_natCast]; exact strD_get (by omega)
        exact ev_tuple (evs_cons (ev_sub (ev_name rfl) (ev_bin (ev_name rfl) ev_int bin_add_int) (item_list (i := ((k + 1 : Nat) : Int)) (by omega) (by omega) g1)) (evs_cons (ev_sub (ev_name rfl) (ev_name rfl) (item_list (by omega) (by omega) g2)) evs_nil)) (by show 2 ≤ sizeLine; decide)
      · rfl
      · unfold prD; rw [List.map_map]; rfl
    · unfold prD; simp only [List.length_map, List.length_range, o.wlen]; decide
    · unfold prD prsOf; rw [List.map_append]
  have hw := o.wlen
  have hpm : ∀ k, k < 9 → ((prsOf ws b0).getD k ([], [])).1 ∈ b0 :: ws ∧ ((prsOf ws b0).getD k ([], [])).2 ∈ b0 :: ws := by
    intro k hk
    have hm : (prsOf ws b0).getD k ([], []) ∈ prsOf ws b0 := getD_mem (by omega)
    generalize (prsOf ws b0).getD k ([], []) = q at hm
    unfold prsOf at hm
    rcases List.mem_append.mp hm with h | h
    · obtain ⟨x, hx, rfl⟩ := List.mem_map.mp h
      exact ⟨.head _, .tail _ hx⟩
    · obtain ⟨j, hj, rfl⟩ := List.mem_map.mp h
      have hj4 := List.mem_range.mp hj
      exact ⟨.tail _ (getD_mem (by omega)), .tail _ (getD_mem (by omega))⟩
  have hlev : ∀ k, k < 9 → ∀ mx : Int, CallV (cx w mg mb) (n + 3) (.ref 28) [.str (sOf ((prsOf ws b0).getD k ([], [])).1), .str (sOf ((prsOf ws b0).getD k ([], [])).2), .int mx] (.int (lev ((prsOf ws b0).getD k ([], [])).1 ((prsOf ws b0).getD k ([], [])).2 mx)) := fun k hk mx =>
    c_lev (n := n + 1) (o.low _ (hpm k hk).1).1 (o.low _ (hpm k hk).2).1 (o.low _ (hpm k hk).1).2 (o.low _ (hpm k hk).2).2
  have hlev' : ∀ k, k < 9 → ∀ mx : Int, CallV (cx w mg mb) (n + 3) (.ref 28) [.str (sOf ((prsOf ws b0).getD k ([], [])).2), .str (sOf ((prsOf ws b0).getD k ([], [])).1), .int mx] (.int (lev ((prsOf ws b0).getD k ([], [])).2 ((prsOf ws b0).getD k ([], [])).1 mx)) := fun k hk mx =>
    c_lev (n := n + 1) (o.low _ (hpm k hk).2).1 (o.low _ (hpm k hk).1).1 (o.low _ (hpm k hk).2).2 (o.low _ (hpm k hk).1).2
  generalize hprs : prsOf ws b0 = prs at *
  have hfl := o.flen
  have pget : ∀ k, k < 9 → (prD prs)[k]? = some (.tuple [.str (sOf (prs.getD k ([], [])).1), .str (sOf (prs.getD k ([], [])).2)]) := fun k hk => by
    have : k < prs.length := by omega
    unfold prD; simp [this]
  have hfar := o.far
  have hrev := o.rev
  rw [hprs] at hfar hrev
  refine exs_cons (ex_assign_cc (d := .list (intD fars)) ?_) ?_
  · refine Ev.eq (ev_comp (ds := prD prs) (fun k => upd (upd emp (S "one") (.str (sOf (prs.getD k ([], [])).1))) (S "other") (.str (sOf (prs.getD k ([], [])).2))) (fun _ => true) (fun k => .int (fars.getD k 0)) (itsrc_list (ev_name rfl) nols_prD) (by kernel_rfl) ?_ ?_ (by intro _ _; rfl) (.inr ⟨_, _, _, rfl⟩) (fun k d hd => ?_) (fun k d hd => ?_) (fun k d hd _ => ?_) (fun k d hd _ => ?_)) ?_
    · exact ⟨⟨_, rfl⟩, trivial⟩
    · unfold prD; rw [List.length_map, hprl]; decide
    · have hk : k < 9 := by
        have := (List.getElem?_eq_some_iff.mp hd).1
        unfold prD at this; rw [List.length_map] at this; omega
      rw [pget k hk] at hd; cases hd
      exact .pair (by kernel_rfl) (by kernel_rfl) (by decide +kernel) rfl rfl
    · exact rfl
    · have hk : k < 9 := by
        have := (List.getElem?_eq_some_iff.mp hd).1
        unfold prD at this; rw [List.length_map] at this; omega
      rw [← hfar k hk]
      exact ev_call_def (gv_K (c := cx w mg mb) (v := .ref 28) (by kernel_rfl)) rfl rfl (evs_cons (ev_name rfl) (evs_cons (ev_name rfl) (evs_cons (ev_call_builtin (gv_B (by kernel_rfl) (by kernel_rfl) (by decide +kernel)) (evs_cons (ev_name rfl) evs_nil) call_sum (by kernel_rfl) (by decide +kernel)) evs_nil))) (hlev k hk _) (by kernel_rfl) (by kernel_rfl)
    · rfl
    · rw [List.filter_eq_self.mpr (fun _ _ => rfl)]
      unfold prD intD; rw [List.length_map, hprl, ← hfl, mapD (fun x => D.int x) 0 fars]
  have ifl : (intD fars).length = 9 := by rw [List.length_map, hfl]
  -- ints
  refine exs_cons (ex_if_f (tr_cmp (a := .list (boolD (List.replicate 9 true))) (b := .list (boolD (List.replicate 9 true))) ?_ ?_ cmp_bools_ne) exs_nil) ?_
  · refine Ev.eq (ev_comp (ds := intD fars) (fun k => upd emp (S "far") (.int (fars.getD k 0))) (fun _ => true) (fun _ => .bool true) (itsrc_list (ev_name rfl) (nols_flats flats_intD)) (by kernel_rfl) ?_ (by rw [ifl]; decide) (by intro _ _; rfl) (.inl ⟨_, _, rfl⟩) (fun k d hd => ?_) (fun k d hd => ?_) (fun k d hd _ => ?_) (fun k d hd _ => ?_)) ?_
    · exact trivial
    · have hk : k < fars.length := by
        have := (List.getElem?_eq_some_iff.mp hd).1
        rw [List.length_map] at this; exact this
      rw [intD_get hk] at hd; cases hd
      exact .loc (by kernel_rfl)
    · exact rfl
    · exact ev_and2 (a := true) (b := true) (ev_isi (gv_B (by kernel_rfl) (by kernel_rfl) (by decide +kernel)) (gv_B (by kernel_rfl) (by kernel_rfl) (by decide +kernel)) (ev_name rfl) isi_int_int (by kernel_rfl) (by kernel_rfl) (by decide +kernel)) (fun _ => ev_not (b := false) (ev_isi (gv_B (by kernel_rfl) (by kernel_rfl) (by decide +kernel)) (gv_B (by kernel_rfl) (by kernel_rfl) (by decide +kernel)) (ev_name rfl) isi_int_bool (by kernel_rfl) (by kernel_rfl) (by decide +kernel)) tru_bool)
    · rfl
    · rw [ifl]; rfl
  · exact (ev_bin (ev_list (evs_cons ev_bool evs_nil) (by decide)) ev_int (bin_mul_list (xs := [.bool true]) (k := 9) rfl (by decide) (by decide))).eq rfl
  -- the other way round
  refine exs_cons (ex_if_f (tr_cmp (a := .list (intD fars)) (b := .list (intD fars)) ?_ (ev_name rfl) cmp_ints_ne) exs_nil) ?_
  · refine Ev.eq (ev_comp (ds := rng 9) (fun k => upd emp (S "k") (.int k)) (fun _ => true) (fun k => .int (fars.getD k 0)) (itsrc_range (k := 9) (gv_B (by kernel_rfl) (by kernel_rfl) (by decide +kernel)) ev_int (by decide) (by decide) (by kernel_rfl)) (by kernel_rfl) ?_ (by decide) (by intro _ _; rfl) (.inl ⟨_, _, rfl⟩) (fun k d hd => ?_) (fun k d hd => ?_) (fun k d hd _ => ?_) (fun k d hd _ => ?_)) ?_
    · exact ⟨⟨_, rfl⟩, ⟨_, rfl⟩, trivial⟩
    · have hk : k < 9 := by
        have := (List.getElem?_eq_some_iff.mp hd).1
        rw [rng_length] at this; exact this
      rw [rng_get hk] at hd; cases hd
      exact .loc (by kernel_rfl)
    · exact rfl
    · have hk : k < 9 := by
        have := (List.getElem?_eq_some_iff.mp hd).1
        rw [rng_length] at this; exact this
      rw [← hrev k hk]
      have g1 : (prD prs)[((k : Nat) : Int).toNat]? = some (.tuple [.str (sOf (prs.getD k ([], [])).1), .str (sOf (prs.getD k ([], [])).2)]) := by rw [Int.toNat_natCast]; exact pget k hk
      have g2 : (intD fars)[((k : Nat) : Int).toNat]? = some (.int (fars.getD k 0)) := by rw [Int.toNat_natCast]; exact intD_get (by omega)
      refine ev_call_def (gv_K (c := cx w mg mb) (v := .ref 28) (by kernel_rfl)) rfl rfl (evs_cons ?_ (evs_cons ?_ (evs_cons ?_ evs_nil))) (hlev' k hk _) (by kernel_rfl) (by kernel_rfl)
      · exact ev_sub (ev_sub (ev_name rfl) (ev_name rfl) (item_list (by omega) (by omega) g1)) ev_int (item_tuple (by decide) (by decide) rfl)
      · exact ev_sub (ev_sub (ev_name rfl) (ev_name rfl) (item_list (by omega) (by omega) g1)) ev_int (item_tuple (by decide) (by decide) rfl)
      · exact ev_sub (ev_name rfl) (ev_name rfl) (item_list (by omega) (by omega) g2)
    · rfl
    · show D.list (((List.range 9).filter fun _ => true).map _) = _
      rw [List.filter_eq_self.mpr (fun _ _ => rfl)]
      unfold intD; rw [← hfl, mapD (fun x => D.int x) 0 fars]
  -- shares
  have fget : ∀ j : Nat, j < 9 → (intD fars)[((j : Nat) : Int).toNat]? = some (.int (fars.getD j 0)) := fun j hj => by rw [Int.toNat_natCast]; exact intD_get (by omega)
  refine exs_cons ((ex_assign_comp (ds := rng 4) (fun k => upd emp (S "k") (.int k)) (fun _ => true) (fun k => .int (fars.getD k 0 + fars.getD (k + 1) 0 - fars.getD (5 + k) 0)) (itsrc_range (k := 4) (gv_B (by kernel_rfl) (by kernel_rfl) (by decide +kernel)) ev_int (by decide) (by decide) (by kernel_rfl)) (by kernel_rfl) ?_ (by decide) (by intro _ _; rfl) (.inl ⟨_, _, rfl⟩) (fun k d hd => ?_) (fun k d hd => ?_) (fun k d hd _ => ?_) (fun k d hd _ => rfl) (by kernel_rfl) (by kernel_rfl))) ?_
  · exact ⟨⟨_, rfl⟩, trivial⟩
  · have hk : k < 4 := by
      have := (List.getElem?_eq_some_iff.mp hd).1
      rw [rng_length] at this; exact this
    rw [rng_get hk] at hd; cases hd
    exact .loc (by kernel_rfl)
  · exact rfl
  · have hk : k < 4 := by
      have := (List.getElem?_eq_some_iff.mp hd).1
      rw [rng_length] at this; exact this
    refine ev_call_def (gv_K (c := cx w mg mb) (v := .ref 119) (by kernel_rfl)) rfl rfl (evs_cons ?_ (evs_cons ?_ evs_nil)) (c_sub (x := .i (fars.getD k 0 + fars.getD (k + 1) 0)) (y := .i (fars.getD (5 + k) 0))) (by kernel_rfl) (by kernel_rfl)
    · refine ev_call_def (gv_K (c := cx w mg mb) (v := .ref 77) (by kernel_rfl)) rfl rfl (evs_cons ?_ (evs_cons ?_ evs_nil)) (c_add (x := .i (fars.getD k 0)) (y := .i (fars.getD (k + 1) 0))) (by kernel_rfl) (by kernel_rfl)
      · exact ev_sub (ev_name rfl) (ev_name rfl) (item_list (by omega) (by omega) (fget k (by omega)))
      · exact ev_sub (ev_name rfl) (ev_bin (ev_name rfl) ev_int bin_add_int) (item_list (i := ((k + 1 : Nat) : Int)) (by omega) (by omega) (fget (k + 1) (by omega)))
    · exact ev_sub (ev_name rfl) (ev_bin ev_int (ev_name rfl) bin_add_int) (item_list (i := ((5 + k : Nat) : Int)) (by omega) (by omega) (fget (5 + k) (by omega)))
  have hsh : D.list (((List.range (rng 4).length).filter fun _ => true).map fun k => D.int (fars.getD k 0 + fars.getD (k + 1) 0 - fars.getD (5 + k) 0)) = .list (intD (told4 (pricesOf (wayOf draws)) ts.flatten)) := by
    rw [← o.held]; unfold intD; rw [List.map_map]; rfl
  rw [hsh]
  refine exs_cons (ex_if_f (tr_cmp (a := .list (intD (told4 (pricesOf (wayOf draws)) ts.flatten))) (b := .list (intD (told4 (pricesOf (wayOf draws)) ts.flatten))) (ev_name rfl) (ev_call_def (gv_K (c := cx w mg mb) (v := .ref 191) (by kernel_rfl)) rfl rfl (evs_cons (ev_name rfl) (evs_cons (ev_name rfl) evs_nil)) (c_held o.tz o.segs3 o.cls (by rfl)) (by kernel_rfl) (by kernel_rfl)) cmp_ints_ne) exs_nil) ?_
  -- told
  have htl : (told4 (pricesOf (wayOf draws)) ts.flatten).length = 4 := by unfold told4; rw [List.length_map]; rfl
  have htold := c_told (w := w) (mg := mg) (mb := mb) (n := n) (st := tsOf draws ss (told4 (pricesOf (wayOf draws)) ts.flatten)) (m := 4) ⟨o.slen, htl, rfl, o.s14⟩ (Nat.le_refl _) o.tfit
  have htold2 : CallV (cx w mg mb) (n + 3) (.ref 203) [.list (wD (tsOf draws ss (told4 (pricesOf (wayOf draws)) ts.flatten)).ws), .list (intD (ss.map tokOf)), .list (intD (told4 (pricesOf (wayOf draws)) ts.flatten))] dueV := by
    have e := htold
    revert e
    rw [← hdue, ← o.told]
    generalize trun (tsOf draws ss (told4 (pricesOf (wayOf draws)) ts.flatten)) 4 = r
    cases r <;> exact id
  refine exs_cons (ex_assign (d := dueV) (ev_call_def (gv_K (c := cx w mg mb) (v := .ref 203) (by kernel_rfl)) rfl rfl (evs_cons ?_ (evs_cons (ev_name rfl) (evs_cons (ev_name rfl) evs_nil))) htold2 (by kernel_rfl) (by kernel_rfl))) ?_
  · refine Ev.eq (ev_comp (ds := intD [0, 1, 2, 3, 4]) (fun k => upd emp (S "name") (.int k)) (fun _ => true) (fun k => .int (draws.getD (4 + k) 0)) (itsrc_list (ev_name rfl) (nols_flats flats_intD)) (by kernel_rfl) ?_ (by decide) (by intro _ _; rfl) (.inl ⟨_, _, rfl⟩) (fun k d hd => ?_) (fun k d hd => ?_) (fun k d hd _ => ?_) (fun k d hd _ => ?_)) ?_
    · exact ⟨⟨_, rfl⟩, trivial⟩
    · have hk : k = 0 ∨ k = 1 ∨ k = 2 ∨ k = 3 ∨ k = 4 := by
        have : k < 5 := (List.getElem?_eq_some_iff.mp hd).1
        omega
      rcases hk with rfl | rfl | rfl | rfl | rfl <;> (cases hd; exact .loc (by kernel_rfl))
    · exact rfl
    · have hk : k < 5 := (List.getElem?_eq_some_iff.mp hd).1
      have g : (intD draws)[((4 + k : Nat) : Int).toNat]? = some (.int (draws.getD (4 + k) 0)) := by rw [Int.toNat_natCast]; exact intD_get (by rw [o.len]; omega)
      exact ev_sub (ev_name rfl) (ev_bin ev_int (ev_name rfl) bin_add_int) (item_list (i := ((4 + k : Nat) : Int)) (by omega) (by omega) g)
    · rfl
    · rfl
  obtain ⟨b, hisi⟩ : ∃ b, Isi (cx w mg mb) dueV "bool" b := by
    rw [← hdue]
    cases dueOf (dst draws 4) with
    | none => exact ⟨_, isi_none_bool⟩
    | some x => cases x with
      | b x => exact ⟨_, isi_bool_bool⟩
      | i x => exact ⟨_, isi_int_bool⟩
  have hceq : Cmp (cx w mg mb) (n + 3) .Eq dueV dueV true := by
    rw [← hdue]
    cases dueOf (dst draws 4) with
    | none => exact cmp_eq rfl rfl rfl rfl
    | some x => 
      have := wc_eq (c := cx w mg mb) (n := n + 3) (x := x) (y := x)
      rw [decide_eq_true rfl] at this; exact this
  subst hdue
  have hev := fun {sc : Scope} {Γ : Ctx} {x : PySem.Str} {p1 p2 p3 p4 : Pos} (e : Γ x = some (oD (dueOf (dst draws 4)))) (hk : sc.names.lookup ("isinstance" : PySem.Str) = some .globalImplicit) (hk2 : sc.names.lookup (Str.ofString "bool") = some .globalImplicit) (hd : (x == ("__debug__" : PySem.Str)) = false) =>
    ev_isi (c := cx w mg mb) (n := n + 3) (sc := sc) (Γ := Γ) (fr := false) (np := p1) (mp := p3) (p := p4) (e := .Name x p2) (gv_B (by kernel_rfl) (by kernel_rfl) (by decide +kernel)) (y := Str.ofString "bool") (gv_B (by kernel_rfl) (by kernel_rfl) (by decide +kernel)) (ev_name e hd) hisi hk hk2 (by decide +kernel)
  refine exs_ret (ex_ret (Ev.eq (ev_and2 (a := true) (b := b == b) (ev_cmp (ev_name rfl) (ev_name rfl) hceq) (fun _ => ev_cmp (hev rfl (by kernel_rfl) (by kernel_rfl) (by decide +kernel)) (hev rfl (by kernel_rfl) (by kernel_rfl) (by decide +kernel)) cmp_bool_eq)) ?_))
  cases b <;> rfl
end Mine
end
section
open PySem PySem.W PyProof.Rows PySem.Calls
set_option linter.unusedSectionVars false
set_option linter.unusedVariables false
set_option maxRecDepth 100000
set_option maxHeartbeats 4000000
namespace Mine
theorem noT_ns [Bd] {h : Heap} {a : Addr} {m : PySem.Str → Option Value} (x : h.Ns a m) (ha : a ≠ 164) : (noT h).Ns a m := by
  obtain ⟨o, es, ep, e, r⟩ := x
  exact ⟨o, es, ep, by rw [noT_other ha]; exact e, r⟩
theorem ns_ne [Bd] {h : Heap} {a : Addr} {m : PySem.Str → Option Value} (x : h.Ns a m) {ps : Array Value} (hP : h.get? 164 = some (tabObj ps)) : a ≠ 164 := fun q => by
  obtain ⟨o, es, ep, e, r, _⟩ := x
  rw [q, hP] at e; cases e; cases r
theorem noLimit_noT [Bd] {h : Heap} {ps : Array Value} (hP : h.get? 164 = some (tabObj ps)) (x : h.NoLimit) : (noT h).NoLimit := by
  obtain ⟨m, a, b⟩ := x
  exact ⟨m, noT_ns a (ns_ne a hP), b⟩
theorem noSeer_noT [Bd] {h : Heap} {ps : Array Value} (hP : h.get? 164 = some (tabObj ps)) (x : h.NoSeer) : (noT h).NoSeer := by
  obtain ⟨⟨mc, a1, a2⟩, ⟨mm, b1, b2⟩, ⟨mb, c1, c2⟩, ⟨mg, bm, ob, d1, d2, d3, d4, d5⟩⟩ := x
  refine ⟨⟨mc, noT_ns a1 (ns_ne a1 hP), a2⟩, ⟨mm, noT_ns b1 (ns_ne b1 hP), b2⟩, ⟨mb, noT_ns c1 (ns_ne c1 hP), c2⟩, ⟨mg, bm, ob, noT_ns d1 (ns_ne d1 hP), d2, ?_, d4, d5⟩⟩
  have : bm ≠ 164 := fun q => by rw [q, hP] at d3; cases d3; cases d4
  rw [noT_other this]; exact d3
theorem wd0_noT [Bd] {c : Cx} {h : Heap} {ps : Array Value} (W : Wd0 c h) (hp : ¬ Bd.p 164) (hP : h.get? 164 = some (tabObj ps)) : Wd0 c (noT h) := by
  obtain ⟨bm, o, e1, e2, e3, e4, e5, e6, e7⟩ := W.bm
  refine ⟨fun a o e => ?_, W.low, fun a ha => ?_, noT_ns W.g (ns_ne W.g hP), noT_ns W.b (ns_ne W.b hP), W.bi, noLimit_noT hP W.lim, noSeer_noT hP W.seer, W.tree, bm, o, e1, e2, e3, ?_, e5, e6, e7⟩
  · have : a ≠ 164 := fun q => hp (q ▸ W.low a o e)
    rw [noT_other this]; exact W.K a o e
  · have : a ≠ 164 := fun q => hp (q ▸ ha)
    rw [noT_other this]; exact W.live a ha
  · have : bm ≠ 164 := fun q => by rw [q, hP] at e4; cases e4; cases e7
    rw [noT_other this]; exact e4
theorem rd_ints [Bd] {h : Heap} : ∀ {vs : List Value} {ns : List Int}, IntsAre vs ns → RdAll h vs (intD ns) []
  | _, _, .nil => .nil
  | _, _, .cons n t r => .cons (as := []) (bs := []) (.int n t) (rd_ints r)
theorem oldK_of [Bd] {s s' : Shared} (hall : ∀ a o, s.heap.get? a = some o → a ≠ 164 → Bd.p a) {c : Addr} {oc : Obj} {vs : Array Value} (hc : s.heap.get? c = some oc) (hc1 : oc.cls = .type "code") (hc2 : oc.data = .fields vs) (hc3 : vs[11]? = some (.ref 164)) (hP : s.heap.get? 164 = some (tabObj #[])) (k : Kp { s with heap := noT s.heap } s') (t : HasT s'.heap) : OldK s.heap s'.heap := by
  obtain ⟨ps, _, hp⟩ := t
  have hst : Stays (noT s.heap) s'.heap := k.st
  have key : ∀ b o, s.heap.get? b = some o → b ≠ 164 → s'.heap.get? b = some o := fun b o e hb => by
    rcases hst b o (by rw [noT_other hb]; exact e) with q | ⟨q, _⟩
    · exact q
    · exact absurd (hall b o e hb) q
  refine ⟨fun b o e => ?_, fun b o e => ?_⟩
  · by_cases hb : b = 164
    · subst hb
      rw [hP] at e; cases e
      refine .inr (.inl ⟨⟨c, oc, vs, hc, hc1, hc2, hc3⟩, rfl, #[], ps, rfl, ?_⟩)
      rw [hp]; simp [tabObj]
    · exact .inl (key b o e hb)
  · by_cases hb : b = 164
    · subst hb; exact ⟨_, hp⟩
    · exact ⟨o, key b o e hb⟩
end Mine
end
section
open PySem PySem.W PyProof.Rows PySem.Calls
set_option linter.unusedSectionVars false
set_option linter.unusedVariables false
set_option maxRecDepth 100000
set_option maxHeartbeats 4000000
namespace Mine
variable [Bd]
/-- tokens: letters 0-4, brackets 5 and 6, the sign of join j: 7 + j -/
noncomputable def spar (t : List Nat) : List Nat := if t.length = 1 then t else 5 :: (t ++ [6])
noncomputable def sput (F : List (List Nat)) (k j : Nat) : List (List Nat) := F.take k ++ [spar (F.getD k []) ++ [7 + j] ++ spar (F.getD (k + 1) [])] ++ F.drop (k + 2)
noncomputable def sst (ks : Nat → Nat) : Nat → List (List Nat)
  | 0 => [[0], [1], [2], [3], [4]]
  | j + 1 => sput (sst ks j) (ks j) j
noncomputable def chs (g : Nat → Nat) (t : Nat) : List Nat := if t < 5 then [97 + t] else if t = 5 then [40] else if t = 6 then [41] else sgnL.getD (g (t - 7)) []
noncomputable def flat2 (g : Nat → Nat) (t : List Nat) : List Nat := (t.map (chs g)).flatten
theorem flat2_app {g : Nat → Nat} {a b : List Nat} : flat2 g (a ++ b) = flat2 g a ++ flat2 g b := by
  unfold flat2; rw [List.map_append, List.flatten_append]
theorem sgn_pos : ∀ s, s < 14 → 1 ≤ (sgnL.getD s []).length := by decide
theorem chs_pos {g : Nat → Nat} (hg : ∀ j, g j < 14) (t : Nat) : 1 ≤ (chs g t).length := by
  unfold chs
  split
  · exact Nat.le_refl _
  · split
    · exact Nat.le_refl _
    · split
      · exact Nat.le_refl _
      · exact sgn_pos _ (hg _)
theorem flat2_len {g : Nat → Nat} (hg : ∀ j, g j < 14) : ∀ t : List Nat, t.length ≤ (flat2 g t).length
  | [] => Nat.le_refl _
  | a :: t => by
    have h1 := flat2_len hg t
    have h2 := chs_pos hg a
    show t.length + 1 ≤ (chs g a ++ flat2 g t).length
    rw [List.length_append]; omega
noncomputable def Fine (F : List (List Nat)) : Prop := ∀ t ∈ F, (∃ i, i < 5 ∧ t = [i]) ∨ 3 ≤ t.length
theorem spar_flat {g : Nat → Nat} (hg : ∀ j, g j < 14) {t : List Nat} (h : (∃ i, i < 5 ∧ t = [i]) ∨ 3 ≤ t.length) : par (flat2 g t) = flat2 g (spar t) := by
  rcases h with ⟨i, hi, rfl⟩ | h
  · have e : flat2 g [i] = [97 + i] := by unfold flat2 chs; simp [hi]
    rw [e]; unfold par spar; rw [if_pos (show [97 + i].length = 1 from rfl), if_pos (show [i].length = 1 from rfl), e]
  · have h1 := flat2_len hg t
    unfold par spar
    rw [if_neg (by omega), if_neg (by omega)]
    show 40 :: (flat2 g t ++ [41]) = flat2 g ([5] ++ (t ++ [6]))
    rw [flat2_app, flat2_app]; rfl
theorem spar_len (t : List Nat) : 1 ≤ t.length → 1 ≤ (spar t).length := by
  intro h; unfold spar; split
  · exact h
  · simp
theorem fine_put {F : List (List Nat)} (h : Fine F) {k j : Nat} (hk : k + 1 < F.length) : Fine (sput F k j) := by
  intro t ht
  have pos : ∀ q, q < F.length → 1 ≤ (F.getD q []).length := fun q hq => by
    rcases h _ (getD_mem hq (d := [])) with ⟨i, _, e⟩ | e
    · rw [e]; exact Nat.le_refl _
    · omega
  unfold sput at ht
  rcases List.mem_append.mp ht with ht | ht
  · rcases List.mem_append.mp ht with ht | ht
    · exact h t (List.mem_of_mem_take ht)
    · rw [List.mem_singleton.mp ht]
      right
      have h1 := spar_len _ (pos k (by omega))
      have h2 := spar_len _ (pos (k + 1) hk)
      simp only [List.length_append, List.length_cons, List.length_nil]; omega
  · exact h t (List.mem_of_mem_drop ht)
theorem texts_toks {draws : List Int} (hl : draws.length = 9) : ∀ j, j ≤ 4 →
    let g := fun j => dsig (draws.getD j 0)
    let ks := fun j => dpos (draws.getD j 0) j
    (dst draws j).texts = (sst ks j).map (flat2 g) ∧ (sst ks j).length = 5 - j ∧ Fine (sst ks j)
  | 0, _ => ⟨rfl, rfl, by intro t ht; left; simp only [sst, List.mem_cons, List.not_mem_nil, or_false] at ht; rcases ht with rfl | rfl | rfl | rfl | rfl <;> exact ⟨_, by decide, rfl⟩⟩
  | j + 1, hj => by
    obtain ⟨h1, h2, h3⟩ := texts_toks hl j (by omega)
    have hk := (dpos_lt (d := draws.getD j 0) (j := j) (by omega)).1
    have hg : ∀ j, dsig (draws.getD j 0) < 14 := fun j => (dsig_lt _).1
    generalize hks : (fun j => dpos (draws.getD j 0) j) = ks at *
    have hkj : dpos (draws.getD j 0) j = ks j := by rw [← hks]
    rw [hkj] at hk
    have hko : ks j + 1 < (sst ks j).length := by rw [h2]; omega
    refine ⟨?_, ?_, fine_put h3 hko⟩
    · show (dput (dst draws j) (dsig (draws.getD j 0)) (dpos (draws.getD j 0) j)).texts = (sput (sst ks j) (ks j) j).map _
      unfold dput sput
      dsimp only
      rw [hkj, h1]
      have gd : ∀ q, q < (sst ks j).length → (((sst ks j).map (flat2 fun j => dsig (draws.getD j 0))).getD q []) = flat2 (fun j => dsig (draws.getD j 0)) ((sst ks j).getD q []) := fun q hq => by
        simp [hq]
      rw [gd _ (by omega), gd _ hko]
      rw [spar_flat hg (h3 _ (getD_mem (by omega))), spar_flat hg (h3 _ (getD_mem hko))]
      rw [List.map_append, List.map_append, List.map_take, List.map_drop]
      congr 2
      show [_] = [flat2 _ (_ ++ [7 + j] ++ _)]
      rw [flat2_app, flat2_app]
      congr 2
      unfold flat2 chs
      rw [List.map_cons, List.map_nil, if_neg (by omega), if_neg (by omega), if_neg (by omega)]
      simp
    · show (sput _ _ _).length = _
      unfold sput
      simp only [List.length_append, List.length_take, List.length_drop, List.length_cons, List.length_nil]; omega
/-- all the shapes -/
noncomputable def shapes : List (Nat × Nat × Nat) := [0, 1, 2, 3].flatMap fun a => [0, 1, 2].flatMap fun b => [0, 1].map fun c => (a, b, c)
noncomputable def ksOf (s : Nat × Nat × Nat) : Nat → Nat
  | 0 => s.1
  | 1 => s.2.1
  | 2 => s.2.2
  | _ => 0
noncomputable def toksOf (s : Nat × Nat × Nat) : List Nat := (sst (ksOf s) 4).getD 0 []
theorem shape_mem {a b c : Nat} (ha : a < 4) (hb : b < 3) (hc : c < 2) : (a, b, c) ∈ shapes := by
  have h1 : a = 0 ∨ a = 1 ∨ a = 2 ∨ a = 3 := by omega
  have h2 : b = 0 ∨ b = 1 ∨ b = 2 := by omega
  have h3 : c = 0 ∨ c = 1 := by omega
  rcases h1 with rfl | rfl | rfl | rfl <;> rcases h2 with rfl | rfl | rfl <;> rcases h3 with rfl | rfl <;> decide
theorem sst_congr {k k' : Nat → Nat} : ∀ j, (∀ i, i < j → k i = k' i) → sst k j = sst k' j
  | 0, _ => rfl
  | j + 1, h => by
    show sput (sst k j) (k j) j = sput (sst k' j) (k' j) j
    rw [sst_congr j fun i hi => h i (by omega), h j (by omega)]
/-- the numbers of the tokens -/
noncomputable def codeT (g : Nat → Nat) (t : Nat) : Int := if t < 5 then 256 + (t : Int) else if t = 5 then 7 else if t = 6 then 8 else tokOf (g (t - 7))
noncomputable def codeC (p : List Nat) : Int := match p with
  | [x] => if 97 ≤ x ∧ x ≤ 101 then 256 + ((x : Int) - 97) else (ettF p).getD 0
  | _ => (ettF p).getD 0
theorem code_sgn : ∀ s, s < 14 → codeC (sgnL.getD s []) = tokOf s ∧ ettF (sgnL.getD s []) = some (tokOf s) := by decide +kernel
theorem code_par : codeC [40] = 7 ∧ codeC [41] = 8 ∧ ettF [40] = some 7 ∧ ettF [41] = some 8 := by decide +kernel
theorem code_chs {g : Nat → Nat} (hg : ∀ j, g j < 14) {t : Nat} : codeC (chs g t) = codeT g t := by
  unfold chs codeT
  by_cases h1 : t < 5
  · rw [if_pos h1, if_pos h1]
    show (if 97 ≤ 97 + t ∧ 97 + t ≤ 101 then 256 + (((97 + t : Nat) : Int) - 97) else _) = _
    rw [if_pos (by omega)]; omega
  · rw [if_neg h1, if_neg h1]
    by_cases h2 : t = 5
    · rw [if_pos h2, if_pos h2]; exact code_par.1
    · rw [if_neg h2, if_neg h2]
      by_cases h3 : t = 6
      · rw [if_pos h3, if_pos h3]; exact code_par.2.1
      · rw [if_neg h3, if_neg h3]; exact (code_sgn _ (hg _)).1
/-- the keys of the table -/
theorem keys_ok : (ettN.all fun e => (match e.1 with | [] => false | c :: r => !(decide (97 ≤ c ∧ c ≤ 101)) && (!(c == 40 || c == 41) || r.isEmpty) && r.all fun d => !(decide (97 ≤ d ∧ d ≤ 101)) && !(d == 40))) = true := by decide +kernel
theorem look_mem {l : List Nat} : ∀ {L : List (List Nat × Int)} {m : Int}, lookN l L = some m → (l, m) ∈ L
  | [], _, h => nomatch h
  | (k, v) :: r, m, h => by
    unfold lookN at h
    by_cases q : k = l
    · rw [if_pos q] at h; cases h; rw [q]; exact .head _
    · rw [if_neg q] at h; exact .tail _ (look_mem h)
theorem key_of {l : List Nat} {m : Int} (h : ettF l = some m) : ∃ c r, l = c :: r ∧ ¬ (97 ≤ c ∧ c ≤ 101) ∧ ((c = 40 ∨ c = 41) → r = []) ∧ ∀ d ∈ r, ¬ (97 ≤ d ∧ d ≤ 101) ∧ d ≠ 40 := by
  have hm := look_mem h
  have := List.all_eq_true.mp keys_ok _ hm
  dsimp only at this
  cases l with
  | nil => cases this
  | cons c r =>
    simp only [Bool.and_eq_true, Bool.or_eq_true, Bool.not_eq_true', decide_eq_false_iff_not, List.all_eq_true, List.isEmpty_iff] at this
    obtain ⟨⟨a1, a2⟩, a3⟩ := this
    refine ⟨c, r, rfl, a1, fun h => ?_, fun d hd => ?_⟩
    · rcases a2 with a2 | a2
      · rcases h with rfl | rfl <;> simp at a2
      · exact a2
    · obtain ⟨b1, b2⟩ := a3 d hd
      exact ⟨b1, by simpa using b2⟩
theorem pieces_none {c : Nat} {r : List Nat} (hc : 97 ≤ c ∧ c ≤ 101) : pieces (c :: r) = [] := by
  unfold pieces
  rw [List.map_eq_nil_iff, List.filter_eq_nil_iff]
  intro i _ h
  obtain ⟨m, hm⟩ := Option.isSome_iff_exists.mp h
  rw [List.take_succ_cons] at hm
  obtain ⟨c', r', e, h1, _⟩ := key_of hm
  cases e; exact h1 hc
theorem pieces3 (l : List Nat) : pieces l = ((if (ettF (l.take 1)).isSome then [l.take 1] else []) ++ (if (ettF (l.take 2)).isSome then [l.take 2] else [])) ++ (if (ettF (l.take 3)).isSome then [l.take 3] else []) := by
  unfold pieces
  show ((([0, 1, 2] : List Nat)).filter _).map _ = _
  cases h1 : (ettF (l.take 1)).isSome <;> cases h2 : (ettF (l.take 2)).isSome <;> cases h3 : (ettF (l.take 3)).isSome <;> simp [List.filter, h1, h2, h3]
theorem two_up {l : List Nat} {c d : Nat} {r : List Nat} (hl : l = c :: d :: r) (h : (c = 40 ∨ c = 41) ∨ (97 ≤ d ∧ d ≤ 101) ∨ d = 40) : (ettF l).isSome = false := by
  cases q : ettF l with
  | none => rfl
  | some m =>
    obtain ⟨c', r', e, h1, h2, h3⟩ := key_of q
    rw [hl] at e; cases e
    rcases h with h | h | h
    · exact absurd (h2 h) (by simp)
    · exact absurd h (h3 d (.head _)).1
    · exact absurd h (h3 d (.head _)).2
theorem three_up {l : List Nat} {c d e : Nat} {r : List Nat} (hl : l = c :: d :: e :: r) (h : (97 ≤ e ∧ e ≤ 101) ∨ e = 40) : (ettF l).isSome = false := by
  cases q : ettF l with
  | none => rfl
  | some m =>
    obtain ⟨c', r', ee, h1, h2, h3⟩ := key_of q
    rw [hl] at ee; cases ee
    rcases h with h | h
    · exact absurd h (h3 e (.tail _ (.head _))).1
    · exact absurd h (h3 e (.tail _ (.head _))).2
/-- a bracket stands alone -/
theorem stp_par {c : Nat} {rest : List Nat} (hc : c = 40 ∨ c = 41) : Stp (c :: rest) [c] (codeC [c]) := by
  have hs : ettF [c] = some (codeC [c]) := by rcases hc with rfl | rfl <;> decide +kernel
  refine ⟨by simp, by simp, ⟨rest, rfl⟩, .inr ⟨?_, hs⟩⟩
  rw [pieces3]
  match rest with
  | [] => 
    show ((if (ettF [c]).isSome then [[c]] else []) ++ (if (ettF [c]).isSome then [[c]] else []) ++ (if (ettF [c]).isSome then [[c]] else [])).getLast? = some [c]
    rw [hs]; rfl
  | [d] =>
    show ((if (ettF [c]).isSome then [[c]] else []) ++ (if (ettF [c, d]).isSome then [[c, d]] else []) ++ (if (ettF [c, d]).isSome then [[c, d]] else [])).getLast? = some [c]
    rw [hs, two_up rfl (.inl hc)]; rfl
  | d :: e :: r =>
    show ((if (ettF [c]).isSome then [[c]] else []) ++ (if (ettF [c, d]).isSome then [[c, d]] else []) ++ (if (ettF [c, d, e]).isSome then [[c, d, e]] else [])).getLast? = some [c]
    rw [hs, two_up rfl (.inl hc), two_up rfl (.inl hc)]; rfl
theorem stp_let {t : Nat} {rest : List Nat} (ht : t < 5) : Stp ((97 + t) :: rest) [97 + t] (codeC [97 + t]) := by
  refine ⟨by simp, by simp, ⟨rest, rfl⟩, .inl ⟨pieces_none (by omega), 97 + t, rfl, by omega, by omega, ?_⟩⟩
  show (if 97 ≤ 97 + t ∧ 97 + t ≤ 101 then 256 + (((97 + t : Nat) : Int) - 97) else _) = _
  rw [if_pos (by omega)]
theorem sgn_form : ∀ s, s < 14 → (∃ a, sgnL.getD s [] = [a]) ∨ ∃ a b, sgnL.getD s [] = [a, b] ∧ (ettF [a]).isSome = true := by
  intro s hs
  have h : s = 0 ∨ s = 1 ∨ s = 2 ∨ s = 3 ∨ s = 4 ∨ s = 5 ∨ s = 6 ∨ s = 7 ∨ s = 8 ∨ s = 9 ∨ s = 10 ∨ s = 11 ∨ s = 12 ∨ s = 13 := by omega
  rcases h with rfl | rfl | rfl | rfl | rfl | rfl | rfl | rfl | rfl | rfl | rfl | rfl | rfl | rfl <;> first | exact .inl ⟨_, rfl⟩ | exact .inr ⟨_, _, rfl, by decide +kernel⟩
theorem stp_sgn {s : Nat} (hs : s < 14) {h : Nat} {rest : List Nat} (hh : (97 ≤ h ∧ h ≤ 101) ∨ h = 40) : Stp (sgnL.getD s [] ++ h :: rest) (sgnL.getD s []) (codeC (sgnL.getD s [])) := by
  obtain ⟨c1, c2⟩ := code_sgn s hs
  have hl := sgn_len s hs
  have hp := sgn_pos s hs
  refine ⟨by intro q; rw [q] at hp; simp at hp, by omega, ⟨_, rfl⟩, .inr ⟨?_, by rw [c1]; exact c2⟩⟩
  have hsome : (ettF (sgnL.getD s [])).isSome = true := by rw [c2]; rfl
  rw [pieces3]
  rcases sgn_form s hs with ⟨a, e⟩ | ⟨a, b, e, ea⟩
  · rw [e] at hsome ⊢
    match rest with
    | [] =>
      show ((if (ettF [a]).isSome then [[a]] else []) ++ (if (ettF [a, h]).isSome then [[a, h]] else []) ++ (if (ettF [a, h]).isSome then [[a, h]] else [])).getLast? = some [a]
      rw [hsome, two_up rfl (.inr hh)]; rfl
    | d :: r =>
      show ((if (ettF [a]).isSome then [[a]] else []) ++ (if (ettF [a, h]).isSome then [[a, h]] else []) ++ (if (ettF [a, h, d]).isSome then [[a, h, d]] else [])).getLast? = some [a]
      rw [hsome, two_up rfl (.inr hh), two_up rfl (.inr hh)]; rfl
  · rw [e] at hsome ⊢
    show ((if (ettF [a]).isSome then [[a]] else []) ++ (if (ettF [a, b]).isSome then [[a, b]] else []) ++ (if (ettF [a, b, h]).isSome then [[a, b, h]] else [])).getLast? = some [a, b]
    rw [hsome, ea, three_up rfl hh]; rfl
/-- each sign is followed by a letter or an opening bracket -/
noncomputable def follow : List Nat → Bool
  | [] => true
  | [t] => decide (t < 7)
  | t :: u :: r => (decide (t < 7) || decide (u < 6)) && follow (u :: r)
theorem follow_shapes : (shapes.all fun s => follow (toksOf s) && (toksOf s).all fun t => decide (t < 11)) = true := by decide +kernel
theorem stp_all {g : Nat → Nat} (hg : ∀ j, g j < 14) : ∀ {ts : List Nat}, follow ts = true → ∀ i p, (ts.map (chs g))[i]? = some p → Stp ((ts.map (chs g)).drop i).flatten p (codeC p)
  | [], _, i, p, h => by simp at h
  | t :: r, hf, 0, p, h => by
    have hp : p = chs g t := by simpa using h.symm
    subst hp
    show Stp (chs g t ++ (r.map (chs g)).flatten) (chs g t) _
    by_cases h1 : t < 5
    · have e : chs g t = [97 + t] := by unfold chs; rw [if_pos h1]
      rw [e]; exact stp_let h1
    · by_cases h2 : t = 5
      · have e : chs g t = [40] := by unfold chs; rw [if_neg h1, if_pos h2]
        rw [e]; exact stp_par (.inl rfl)
      · by_cases h3 : t = 6
        · have e : chs g t = [41] := by unfold chs; rw [if_neg h1, if_neg h2, if_pos h3]
          rw [e]; exact stp_par (.inr rfl)
        · have e : chs g t = sgnL.getD (g (t - 7)) [] := by unfold chs; rw [if_neg h1, if_neg h2, if_neg h3]
          rw [e]
          match r, hf with
          | [], hf => simp [follow] at hf; omega
          | u :: r', hf =>
            have hu : u < 6 := by
              simp only [follow, Bool.and_eq_true, Bool.or_eq_true, decide_eq_true_eq] at hf
              omega
            by_cases hu5 : u < 5
            · have e2 : chs g u = [97 + u] := by unfold chs; rw [if_pos hu5]
              show Stp (_ ++ (chs g u ++ (r'.map (chs g)).flatten)) _ _
              rw [e2]
              exact stp_sgn (hg _) (.inl (by omega))
            · have e2 : chs g u = [40] := by unfold chs; rw [if_neg hu5, if_pos (by omega)]
              show Stp (_ ++ (chs g u ++ (r'.map (chs g)).flatten)) _ _
              rw [e2]
              exact stp_sgn (hg _) (.inr rfl)
  | t :: r, hf, i + 1, p, h => by
    have hr : follow r = true := by
      match r, hf with
      | [], _ => rfl
      | u :: r', hf => simp only [follow, Bool.and_eq_true] at hf; exact hf.2
    exact stp_all hg hr i p (by simpa using h)
/-- the walk, on tokens -/
structure AS where
  names : List Int
  ops : List (List Int)
  slots : List Nat
  opens : List Int
  count : Int
noncomputable def astep (a : AS) (t : Nat) : AS :=
  if t < 5 then { a with names := a.names ++ [(t : Int)], ops := a.ops ++ [a.opens] }
  else if t = 5 then { a with opens := a.opens ++ [a.count], count := a.count + 1 }
  else if t = 6 then { a with opens := a.opens.dropLast }
  else { a with slots := a.slots ++ [t - 7] }
noncomputable def awalk (ts : List Nat) : AS := ts.foldl astep ⟨[], [], [], [], 0⟩
noncomputable def simA (g : Nat → Nat) (way : Int) (a : AS) : WS := ⟨a.names, a.ops.map fun o => lword o way, a.slots.map fun j => tokOf (g j), a.opens, a.count⟩
theorem tok_ne : ∀ s, s < 14 → tokOf s ≠ 7 ∧ tokOf s ≠ 8 ∧ tokOf s < 256 ∧ tokOf s ≠ 0 := by decide
theorem sim_step {g : Nat → Nat} (hg : ∀ j, g j < 14) {way : Int} {a : AS} {t : Nat} : wstep way (simA g way a) (codeT g t) = simA g way (astep a t) := by
  unfold codeT astep
  by_cases h1 : t < 5
  · rw [if_pos h1, if_pos h1]
    unfold wstep wnon
    dsimp only
    rw [if_pos (show (256 : Int) ≤ 256 + (t : Int) by omega), if_neg (show ¬ (256 + (t : Int) = 7) by omega), if_neg (show ¬ (256 + (t : Int) = 8) by omega), if_neg (show ¬ (256 + (t : Int) < 256 ∧ 256 + (t : Int) ≠ 0) by omega)]
    unfold simA
    dsimp only
    rw [List.map_append]
    congr 2
    congr 1; omega
  · rw [if_neg h1, if_neg h1]
    by_cases h2 : t = 5
    · rw [if_pos h2, if_pos h2]; rfl
    · rw [if_neg h2, if_neg h2]
      by_cases h3 : t = 6
      · rw [if_pos h3, if_pos h3]; rfl
      · rw [if_neg h3, if_neg h3]
        obtain ⟨n1, n2, n3, n4⟩ := tok_ne _ (hg (t - 7))
        unfold wstep wnon
        dsimp only
        rw [if_neg (show ¬ (256 ≤ tokOf (g (t - 7))) by omega), if_neg n1, if_neg n2, if_pos ⟨n3, n4⟩]
        unfold simA
        dsimp only
        rw [List.map_append]; rfl
theorem sim_fold {g : Nat → Nat} (hg : ∀ j, g j < 14) {way : Int} : ∀ (ts : List Nat) (a : AS), (ts.map (codeT g)).foldl (wstep way) (simA g way a) = simA g way (ts.foldl astep a)
  | [], _ => rfl
  | t :: r, a => by
    show (r.map (codeT g)).foldl (wstep way) (wstep way (simA g way a) (codeT g t)) = _
    rw [sim_step hg]; exact sim_fold hg r _
/-- what the walk finds, shape by shape -/
theorem walk_shapes : (shapes.all fun s => decide ((awalk (toksOf s)).names = [0, 1, 2, 3, 4]) && decide ((awalk (toksOf s)).slots.length = 4) && decide ((awalk (toksOf s)).ops.length = 5) && (List.range (toksOf s).length).all fun k => !((toksOf s).getD k 0 == 6) || !((awalk ((toksOf s).take k)).opens == [])) = true := by decide +kernel
end Mine
end
section
open PySem PySem.W PyProof.Rows PySem.Calls
set_option linter.unusedSectionVars false
set_option linter.unusedVariables false
set_option maxRecDepth 100000
set_option maxHeartbeats 4000000
namespace Mine
variable [Bd]
theorem and_bd {x y : Int} {m : Nat} (hx : x.natAbs < 2 ^ m) (hy : y.natAbs < 2 ^ m) : (Builtin.bitAnd x y).natAbs ≤ 2 ^ m := by
  unfold Builtin.bitAnd Builtin.bitNot
  by_cases h1 : 0 ≤ x <;> by_cases h2 : 0 ≤ y <;> simp only [h1, h2, decide_true, decide_false]
  · have := Nat.and_le_left (n := x.toNat) (m := y.toNat); omega
  · have := Nat.and_le_left (n := x.toNat) (m := (-y - 1).toNat); omega
  · have := Nat.and_le_left (n := y.toNat) (m := (-x - 1).toNat); omega
  · have := Nat.or_lt_two_pow (x := (-x - 1).toNat) (y := (-y - 1).toNat) (n := m) (by omega) (by omega)
    omega
theorem bits_and {x y : Int} {m : Nat} (hx : x.natAbs < 2 ^ m) (hy : y.natAbs < 2 ^ m) : (Builtin.bitAnd x y).natAbs < 2 ^ (m + 3) ∧ (Builtin.bitOr x y).natAbs < 2 ^ (m + 3) ∧ (Builtin.bitXor x y).natAbs < 2 ^ (m + 3) := by
  have p1 : 2 ^ (m + 1) = 2 * 2 ^ m := by rw [Nat.pow_succ]; omega
  have p3 : 2 ^ (m + 3) = 8 * 2 ^ m := by rw [Nat.pow_succ, Nat.pow_succ, Nat.pow_succ]; omega
  have p0 : 1 ≤ 2 ^ m := Nat.one_le_two_pow
  have ha := and_bd hx hy
  refine ⟨by omega, ?_, ?_⟩
  · have hb := and_bd (x := Builtin.bitNot x) (y := Builtin.bitNot y) (m := m + 1) (by unfold Builtin.bitNot; omega) (by unfold Builtin.bitNot; omega)
    unfold Builtin.bitOr
    generalize Builtin.bitAnd (Builtin.bitNot x) (Builtin.bitNot y) = q at hb ⊢
    unfold Builtin.bitNot; omega
  · rw [bitXor_and]
    generalize Builtin.bitAnd x y = q at ha ⊢
    omega
noncomputable def Bt (m : Nat) (x : Int) : Prop := x.natAbs < 2 ^ m
theorem Bt.up {m n : Nat} {x : Int} (h : Bt m x) (hn : m ≤ n) : Bt n x := Nat.lt_of_lt_of_le h (Nat.pow_le_pow_right (by decide) hn)
theorem bt_bool (b : Bool) (m : Nat) : Bt (m + 1) (b2i b) := by
  have : 2 ≤ 2 ^ (m + 1) := by rw [Nat.pow_succ]; have := Nat.one_le_two_pow (n := m); omega
  unfold Bt; cases b <;> simp [b2i] <;> omega
theorem wbit_bt {f : Bool → Bool → Bool} {g : Int → Int → Int} {x y : Wv} {m : Nat} (h : Bt (m + 3) (g x.z y.z)) : Bt (m + 3) (wbit f g x y).z := by
  cases x <;> cases y
  · exact bt_bool _ _
  · exact h
  · exact h
  · exact h
theorem bits_wop {s : Nat} {x y z : Wv} {m : Nat} (h : wop s x y = some z) (hx : Bt m x.z) (hy : Bt m y.z) : Bt (2 * m + 4) z.z := by
  obtain ⟨a1, a2, a3⟩ := bits_and hx hy
  have hb : ∀ b : Bool, Bt (2 * m + 4) (Wv.b b).z := fun b => bt_bool b (2 * m + 3)
  have bx := intBits_le_iff.mpr hx
  have by' := intBits_le_iff.mpr hy
  have hmm : max m m = m := Nat.max_self m
  match s, h with
  | 0, h => cases h; exact Bt.up (m := m + 1) (by have := intBits_le_iff.mp (intBits_add_le bx by'); rwa [hmm] at this) (by omega)
  | 1, h => cases h; exact Bt.up (m := m + 1) (by have := intBits_le_iff.mp (intBits_sub_le bx by'); rwa [hmm] at this) (by omega)
  | 2, h => cases h; exact Bt.up (m := m + m) (intBits_le_iff.mp (intBits_mul_le bx by')) (by omega)
  | 3, h => cases h; exact (wbit_bt a1).up (by omega)
  | 4, h => cases h; exact (wbit_bt a2).up (by omega)
  | 5, h => cases h; exact (wbit_bt a3).up (by omega)
  | 6, h =>
    change (if y.z = 0 then none else some (Wv.i (x.z.fdiv y.z))) = some z at h
    split at h
    · cases h
    · cases h; exact Bt.up (m := m) (intBits_le_iff.mp (intBits_fdiv_le bx)) (by omega)
  | 7, h =>
    change (if y.z = 0 then none else some (Wv.i (x.z.fmod y.z))) = some z at h
    split at h
    · cases h
    · cases h; exact Bt.up (m := m) (by have := intBits_le_iff.mp (intBits_fmod_le bx by'); rwa [hmm] at this) (by omega)
  | 8, h => cases h; exact hb _
  | 9, h => cases h; exact hb _
  | 10, h => cases h; exact hb _
  | 11, h => cases h; exact hb _
  | 12, h => cases h; exact hb _
  | n + 13, h => cases h; exact hb _
noncomputable def cB (c : Nat) : Nat → Nat
  | 0 => c
  | j + 1 => 2 * cB c j + 4
theorem bt_zero (m : Nat) : Bt m (Wv.i 0).z := by show (0 : Int).natAbs < 2 ^ m; exact Nat.two_pow_pos m
theorem bt_getD {m : Nat} {ws : List Wv} (h : ∀ w ∈ ws, Bt m w.z) (k : Nat) : Bt m (ws.getD k (.i 0)).z := by
  rw [List.getD_eq_getElem?_getD]
  cases q : ws[k]? with
  | none => exact bt_zero m
  | some w => exact h w (List.mem_of_getElem? q)
theorem bt_put {m k s : Nat} {ws : List Wv} {z : Wv} (h : ∀ w ∈ ws, Bt m w.z) (hz : Bt (2 * m + 4) z.z) : ∀ w ∈ ws.take k ++ [z] ++ ws.drop (k + 2), Bt (2 * m + 4) w.z := by
  intro w hw
  rcases List.mem_append.mp hw with hw | hw
  · rcases List.mem_append.mp hw with hw | hw
    · exact (h w (List.mem_of_mem_take hw)).up (by omega)
    · rw [List.mem_singleton.mp hw]; exact hz
  · exact (h w (List.mem_of_mem_drop hw)).up (by omega)
theorem dst_bt {draws : List Int} {c : Nat} (h : ∀ x ∈ draws, Bt c x) : ∀ j, ∀ w ∈ (dst draws j).worths, Bt (cB c j) w.z
  | 0, w, hw => by
    obtain ⟨x, hx, rfl⟩ := List.mem_map.mp (show w ∈ (draws.drop 4).map Wv.i from hw)
    exact h x (List.mem_of_mem_drop hx)
  | j + 1, w, hw => by
    have ih := dst_bt h j
    refine bt_put (s := 0) ih ?_ w hw
    cases q : wop (dsig (draws.getD j 0)) ((dst draws j).worths.getD (dpos (draws.getD j 0) j) (.i 0)) ((dst draws j).worths.getD (dpos (draws.getD j 0) j + 1) (.i 0)) with
    | none => exact bt_zero _
    | some z => exact bits_wop q (bt_getD ih _) (bt_getD ih _)
theorem trun_bt {st : TS} {c : Nat} (h : ∀ w ∈ st.ws, Bt c w.z) : ∀ i st', trun st i = some st' → ∀ w ∈ st'.ws, Bt (cB c i) w.z
  | 0, st', e, w, hw => by cases e; exact h w hw
  | i + 1, st', e, w, hw => by
    unfold trun at e
    cases q : trun st i with
    | none => rw [q] at e; cases e
    | some st1 =>
      rw [q] at e
      have ih := trun_bt h i st1 q
      change tstep st1 = some st' at e
      unfold tstep at e
      obtain ⟨z, hz, rfl⟩ := Option.map_eq_some_iff.mp e
      exact bt_put (s := 0) ih (bits_wop hz (bt_getD ih _) (bt_getD ih _)) w hw
theorem mul_bt {x y : Int} {m : Nat} (hx : Bt m x) (hy : Bt m y) (h : m + m ≤ 134217728) : IntMulOk x y := IntMulOk.of_le (intBits_le_iff.mpr hx) (intBits_le_iff.mpr hy) h
theorem cB_le {j : Nat} (hj : j < 4) : cB (1048576 + 64) j + cB (1048576 + 64) j ≤ 134217728 := by
  have : j = 0 ∨ j = 1 ∨ j = 2 ∨ j = 3 := by omega
  rcases this with rfl | rfl | rfl | rfl <;> decide
theorem bt_sum {m : Nat} : ∀ {l : List Int}, (∀ x ∈ l, Bt m x) → Bt (m + l.length) l.sum
  | [], _ => by show (0 : Int).natAbs < _; exact Nat.two_pow_pos _
  | a :: l, h => by
    have h1 := bt_sum fun x hx => h x (.tail _ hx)
    have h2 := (h a (.head _)).up (n := m + l.length) (by omega)
    rw [List.sum_cons]
    show Bt (m + (l.length + 1)) _
    have := intBits_le_iff.mp (intBits_add_le (intBits_le_iff.mpr h2) (intBits_le_iff.mpr h1))
    rw [Nat.max_self] at this
    exact this
theorem draws_bt {l : List Int} (hz : l.length ≤ 63) (h : PyData.layable0 (.list (l.map .int)) = true) : ∀ x ∈ drawsOf l, Bt (1048576 + 64) x := by
  intro x hx
  unfold drawsOf at hx
  obtain ⟨k, hk, rfl⟩ := List.mem_map.mp hx
  have hs : ∀ y ∈ slcS (some (k : Int)) none (some 9) l, Bt 1048576 y := fun y hy => by
    unfold slcS at hy
    obtain ⟨i, _, hi⟩ := List.mem_filterMap.mp hy
    exact intBits_le_iff.mp (intBits_le_of_item (List.mem_of_getElem? hi) h)
  have hlen : (slcS (some (k : Int)) none (some 9) l).length ≤ 63 := by
    unfold slcS
    refine Nat.le_trans (List.length_filterMap_le _ _) ?_
    obtain ⟨a, ha, e⟩ : ∃ a : Int, 0 ≤ a ∧ sliceBounds (some (k : Int)) none (some 9) l.length = (a, (l.length : Int), 9) := ⟨max 0 (min (if (k : Int) < 0 then (k : Int) + (l.length : Int) else k) (l.length : Int)), Int.le_max_left 0 _, rfl⟩
    rw [e]
    have := sliceRange_len_le a (l.length : Int) 9 (by decide)
    rw [if_pos (show (9 : Int) > 0 by decide)] at this
    exact Nat.le_trans this (by omega)
  have h1 := (bt_sum hs).up (n := 1048576 + 63) (by omega)
  have h2 : Bt (1048576 + 63) (own.getD k 0) := by
    have : Bt 7 (own.getD k 0) := by
      have hk9 := List.mem_range.mp hk
      have : k = 0 ∨ k = 1 ∨ k = 2 ∨ k = 3 ∨ k = 4 ∨ k = 5 ∨ k = 6 ∨ k = 7 ∨ k = 8 := by omega
      rcases this with rfl | rfl | rfl | rfl | rfl | rfl | rfl | rfl | rfl <;> (unfold Bt; decide)
    exact this.up (by omega)
  have := intBits_le_iff.mp (intBits_add_le (intBits_le_iff.mpr h2) (intBits_le_iff.mpr h1))
  rw [Nat.max_self] at this
  exact this
end Mine
end
section
open PySem PySem.W PyProof.Rows PySem.Calls
set_option linter.unusedSectionVars false
set_option linter.unusedVariables false
set_option maxRecDepth 100000
set_option maxHeartbeats 4000000
namespace Mine
variable [Bd]
/-- a word, as numbers -/
noncomputable def lwN (o0 o1 o2 : Bool) (m u v z : Nat) : List Nat :=
  let op := fun k : Nat => if k = 0 then o0 else if k = 1 then o1 else o2
  let a := (m + 1) % 3
  let b := (m + 2) % 3
  let letter := if op m then (if u = 0 then 65 + m else 100 + m) else 97 + m
  let w1 := [120, letter, 121]
  let w2 := if op a == (v == 1) then (97 + a) :: w1 else w1
  if op b == (z == 1) then w2 ++ [97 + b] else w2
noncomputable def lowN (x : Nat) : Nat := if 65 ≤ x ∧ x ≤ 90 then x + 32 else x
noncomputable def alpha : List Nat := [120, 121, 97, 98, 99, 65, 66, 67, 100, 101, 102]
theorem lower_alpha : ∀ x ∈ alpha, Txt.lower (ch1 x) = ch1 (lowN x) := by decide +kernel
noncomputable def substN (a b : Nat) : Int := if a = b then 0 else if lowN a = lowN b then 1 else 2
theorem subst_alpha {a b : Nat} (ha : a ∈ alpha) (hb : b ∈ alpha) : subst (ch1 a) (ch1 b) = substN a b := by
  unfold subst substN
  rw [ch1_beq, lower_alpha a ha, lower_alpha b hb, ch1_beq]
  simp only [decide_eq_true_eq]
noncomputable def istepG (s : Nat → Nat → Int) (bc : Nat) (a : List Nat) (st : LS) (k : Nat) : LS :=
  let sub := st.dist + s bc (a.getD k 0)
  let d := st.row.getD k 0
  let r := imin (imin st.res d + 2) sub
  ⟨d, r, if r < st.mini then r else st.mini, st.row.set k r⟩
noncomputable def innerG (s : Nat → Nat → Int) (bc : Nat) (a : List Nat) (st : LS) : Nat → LS
  | 0 => st
  | k + 1 => istepG s bc a (innerG s bc a st k) k
noncomputable def outerG (s : Nat → Nat → Int) (a b : List Nat) (mx : Int) : Nat → Option (List Int × Int)
  | 0 => some ((List.range a.length).map fun i : Nat => 2 + (i : Int) * 2, 0)
  | k + 1 => match outerG s a b mx k with
    | none => none
    | some (row, _) =>
      let st := innerG s (b.getD k 0) a ⟨2 * k, 2 * k, 9223372036854775807, row⟩ a.length
      if st.mini > mx then none else some (st.row, st.res)
noncomputable def levG (s : Nat → Nat → Int) (a b : List Nat) (mx : Int) : Int :=
  if a = b then 0 else
  let p := cpre a b
  let a1 := a.drop p
  let b1 := b.drop p
  let q := cpre a1.reverse b1.reverse
  let a2 := a1.take (a1.length - q)
  let b2 := b1.take (b1.length - q)
  if a2 = [] ∨ b2 = [] then 2 * ((a2.length : Int) + b2.length) else
  let a3 := if b2.length < a2.length then b2 else a2
  let b3 := if b2.length < a2.length then a2 else b2
  if ((b3.length : Int) - a3.length) * 2 > mx then mx + 1 else
  match outerG s a3 b3 mx b3.length with
  | none => mx + 1
  | some (_, r) => r
theorem inner_G {bc : Nat} {a : List Nat} {st : LS} (hb : bc ∈ alpha) (ha : ∀ x ∈ a, x ∈ alpha) : ∀ k, k ≤ a.length → inner bc a st k = innerG substN bc a st k
  | 0, _ => rfl
  | k + 1, h => by
    show istep bc a (inner bc a st k) k = istepG substN bc a (innerG substN bc a st k) k
    rw [inner_G hb ha k (by omega)]
    unfold istep istepG
    rw [subst_alpha hb (ha _ (getD_mem (by omega)))]
theorem outer_G {a b : List Nat} {mx : Int} (ha : ∀ x ∈ a, x ∈ alpha) (hb : ∀ x ∈ b, x ∈ alpha) : ∀ k, k ≤ b.length → outer a b mx k = outerG substN a b mx k
  | 0, _ => rfl
  | k + 1, h => by
    unfold outer outerG
    rw [outer_G ha hb k (by omega)]
    cases outerG substN a b mx k with
    | none => rfl
    | some p =>
      obtain ⟨row, r⟩ := p
      dsimp only
      rw [inner_G (hb _ (getD_mem (by omega))) ha _ (Nat.le_refl _)]
theorem lev_G {a b : List Nat} {mx : Int} (ha : ∀ x ∈ a, x ∈ alpha) (hb : ∀ x ∈ b, x ∈ alpha) : lev a b mx = levG substN a b mx := by
  unfold lev levG
  dsimp only
  generalize hq : cpre (a.drop (cpre a b)).reverse (b.drop (cpre a b)).reverse = q
  have h1 : ∀ x ∈ (a.drop (cpre a b)).take ((a.drop (cpre a b)).length - q), x ∈ alpha := fun x hx => ha x (List.mem_of_mem_drop (List.mem_of_mem_take hx))
  have h2 : ∀ x ∈ (b.drop (cpre a b)).take ((b.drop (cpre a b)).length - q), x ∈ alpha := fun x hx => hb x (List.mem_of_mem_drop (List.mem_of_mem_take hx))
  generalize (a.drop (cpre a b)).take ((a.drop (cpre a b)).length - q) = a2 at *
  generalize (b.drop (cpre a b)).take ((b.drop (cpre a b)).length - q) = b2 at *
  rw [outer_G (a := if b2.length < a2.length then b2 else a2) (b := if b2.length < a2.length then a2 else b2) (by split <;> assumption) (by split <;> assumption) _ (Nat.le_refl _)]
  all_goals rfl
noncomputable def price (m u k : Nat) : Int := if k = m then 1 + (u : Int) else 2
noncomputable def pdiff (m u : Nat) (s0 s1 s2 t0 t1 t2 : Bool) : Int := (if s0 = t0 then 0 else price m u 0) + (if s1 = t1 then 0 else price m u 1) + (if s2 = t2 then 0 else price m u 2)
noncomputable def psum (m u : Nat) : Int := price m u 0 + price m u 1 + price m u 2
noncomputable def okD (m u v z : Nat) (s0 s1 s2 t0 t1 t2 : Bool) : Bool :=
  decide (levG substN (lwN s0 s1 s2 m u v z) (lwN t0 t1 t2 m u v z) (psum m u) = pdiff m u s0 s1 s2 t0 t1 t2) &&
  decide (levG substN (lwN t0 t1 t2 m u v z) (lwN s0 s1 s2 m u v z) (pdiff m u s0 s1 s2 t0 t1 t2) = pdiff m u s0 s1 s2 t0 t1 t2)
noncomputable def bb : List Bool := [false, true]
noncomputable def chkD (m u v z : Nat) : Bool := bb.all fun s0 => bb.all fun s1 => bb.all fun s2 => bb.all fun t0 => bb.all fun t1 => bb.all fun t2 => okD m u v z s0 s1 s2 t0 t1 t2
theorem chkDadfh : chkD 0 0 0 0 = true := by decide +kernel
theorem chkDadfi : chkD 0 0 0 1 = true := by decide +kernel
theorem chkDadgh : chkD 0 0 1 0 = true := by decide +kernel
theorem chkDadgi : chkD 0 0 1 1 = true := by decide +kernel
theorem chkDaefh : chkD 0 1 0 0 = true := by decide +kernel
theorem chkDaefi : chkD 0 1 0 1 = true := by decide +kernel
theorem chkDaegh : chkD 0 1 1 0 = true := by decide +kernel
theorem chkDaegi : chkD 0 1 1 1 = true := by decide +kernel
theorem chkDbdfh : chkD 1 0 0 0 = true := by decide +kernel
theorem chkDbdfi : chkD 1 0 0 1 = true := by decide +kernel
theorem chkDbdgh : chkD 1 0 1 0 = true := by decide +kernel
theorem chkDbdgi : chkD 1 0 1 1 = true := by decide +kernel
theorem chkDbefh : chkD 1 1 0 0 = true := by decide +kernel
theorem chkDbefi : chkD 1 1 0 1 = true := by decide +kernel
theorem chkDbegh : chkD 1 1 1 0 = true := by decide +kernel
theorem chkDbegi : chkD 1 1 1 1 = true := by decide +kernel
theorem chkDcdfh : chkD 2 0 0 0 = true := by decide +kernel
theorem chkDcdfi : chkD 2 0 0 1 = true := by decide +kernel
theorem chkDcdgh : chkD 2 0 1 0 = true := by decide +kernel
theorem chkDcdgi : chkD 2 0 1 1 = true := by decide +kernel
theorem chkDcefh : chkD 2 1 0 0 = true := by decide +kernel
theorem chkDcefi : chkD 2 1 0 1 = true := by decide +kernel
theorem chkDcegh : chkD 2 1 1 0 = true := by decide +kernel
theorem chkDcegi : chkD 2 1 1 1 = true := by decide +kernel
theorem all_D : (([0, 1, 2] : List Nat).all fun m => ([0, 1] : List Nat).all fun u => ([0, 1] : List Nat).all fun v => ([0, 1] : List Nat).all fun z => chkD m u v z) = true := by
  simp only [List.all_cons, List.all_nil, chkDadfh, chkDadfi, chkDadgh, chkDadgi, chkDaefh, chkDaefi, chkDaegh, chkDaegi, chkDbdfh, chkDbdfi, chkDbdgh, chkDbdgi, chkDbefh, chkDbefi, chkDbegh, chkDbegi, chkDcdfh, chkDcdfi, chkDcdgh, chkDcdgi, chkDcefh, chkDcefi, chkDcegh, chkDcegi, Bool.and_true]
noncomputable def okA (m u v z : Nat) (s0 s1 s2 : Bool) : Bool := (lwN s0 s1 s2 m u v z).all fun x => alpha.contains x
theorem all_A : (([0, 1, 2] : List Nat).all fun m => ([0, 1] : List Nat).all fun u => ([0, 1] : List Nat).all fun v => ([0, 1] : List Nat).all fun z => bb.all fun s0 => bb.all fun s1 => bb.all fun s2 => okA m u v z s0 s1 s2 && decide ((lwN s0 s1 s2 m u v z).length ≤ 8)) = true := by
  decide +kernel
end Mine
end
section
open PySem PySem.W PyProof.Rows PySem.Calls
set_option linter.unusedSectionVars false
set_option linter.unusedVariables false
set_option maxRecDepth 100000
set_option maxHeartbeats 4000000
namespace Mine
variable [Bd]
noncomputable def fch (x : Nat) : Nat := if (97 ≤ x ∧ x ≤ 101) ∨ x = 40 ∨ x = 41 then x else 0
theorem fch_eq {x c : Nat} (hc : (97 ≤ c ∧ c ≤ 101) ∨ c = 40 ∨ c = 41) : fch x = c ↔ x = c := by
  unfold fch
  constructor
  · intro h; split at h
    · exact h
    · omega
  · intro h; subst h; rw [if_pos hc]
theorem dep_f (x : Nat) (d : Int) : dep (fch x) d = dep x d := by
  unfold dep
  have h1 : fch x = 40 ↔ x = 40 := fch_eq (.inr (.inl rfl))
  have h2 : fch x = 41 ↔ x = 41 := fch_eq (.inr (.inr rfl))
  simp only [h1, h2]
theorem clo_f : ∀ (l : List Nat) (d : Int), clo (l.map fch) d = clo l d
  | [], _ => rfl
  | x :: r, d => by
    show (if dep (fch x) d ≤ 0 then 1 else 1 + clo (r.map fch) (dep (fch x) d)) = (if dep x d ≤ 0 then 1 else 1 + clo r (dep x d))
    rw [dep_f, clo_f]
theorem closes_f : ∀ (l : List Nat) (d : Int), closes (l.map fch) d = closes l d
  | [], _ => rfl
  | x :: r, d => by
    show (decide (dep (fch x) d ≤ 0) || closes (r.map fch) (dep (fch x) d)) = (decide (dep x d ≤ 0) || closes r (dep x d))
    rw [dep_f, closes_f]
theorem seg_f (t : List Nat) (i : Nat) : seg (t.map fch) i = (seg t i).map fch := by
  unfold seg
  rw [← List.map_drop, clo_f, List.map_take]
theorem getD_f (t : List Nat) (i : Nat) : (t.map fch).getD i 0 = fch (t.getD i 0) := by
  rw [List.getD_eq_getElem?_getD, List.getD_eq_getElem?_getD, List.getElem?_map]
  cases t[i]? <;> rfl
theorem segs_f (t : List Nat) (k : Nat) : segs (t.map fch) k = (segs t k).map fun l => l.map fch := by
  unfold segs
  rw [List.map_map]
  have e : (fun i => (t.map fch).getD i 0 == 40) = fun i => t.getD i 0 == 40 := by
    funext i
    rw [getD_f]
    have h1 : fch (t.getD i 0) = 40 ↔ t.getD i 0 = 40 := fch_eq (.inr (.inl rfl))
    by_cases q : t.getD i 0 = 40
    · rw [h1.mpr q, q]
    · have q' : ¬ fch (t.getD i 0) = 40 := fun z => q (h1.mp z)
      rw [beq_eq_false_iff_ne.mpr q, beq_eq_false_iff_ne.mpr q']
  rw [e]
  exact List.map_congr_left fun i _ => seg_f t i
theorem mem_f {l : List Nat} {c : Nat} (hc : 97 ≤ c ∧ c ≤ 101) : c ∈ l.map fch ↔ c ∈ l := by
  rw [List.mem_map]
  constructor
  · rintro ⟨x, hx, e⟩
    rwa [← (fch_eq (.inl hc)).mp e]
  · intro h; exact ⟨c, h, (fch_eq (.inl hc)).mpr rfl⟩
noncomputable def chN (n : List Nat) (t : Nat) : List Nat := if t < 5 then [97 + t] else if t = 5 then [40] else if t = 6 then [41] else List.replicate (n.getD (t - 7) 1) 0
noncomputable def tx (n : List Nat) (ts : List Nat) : List Nat := (ts.map (chN n)).flatten
theorem sgn_f : ∀ s, s < 14 → (sgnL.getD s []).map fch = List.replicate (sgnL.getD s []).length 0 ∧ ((sgnL.getD s []).length = 1 ∨ (sgnL.getD s []).length = 2) := by decide
noncomputable def lens (g : Nat → Nat) : List Nat := [(sgnL.getD (g 0) []).length, (sgnL.getD (g 1) []).length, (sgnL.getD (g 2) []).length, (sgnL.getD (g 3) []).length]
theorem chs_f {g : Nat → Nat} (hg : ∀ j, g j < 14) {t : Nat} (ht : t < 11) : (chs g t).map fch = chN (lens g) t := by
  unfold chs chN
  by_cases h1 : t < 5
  · rw [if_pos h1, if_pos h1]
    show [fch (97 + t)] = _
    rw [(fch_eq (c := 97 + t) (.inl (by omega))).mpr rfl]
  · rw [if_neg h1, if_neg h1]
    by_cases h2 : t = 5
    · rw [if_pos h2, if_pos h2]; rfl
    · rw [if_neg h2, if_neg h2]
      by_cases h3 : t = 6
      · rw [if_pos h3, if_pos h3]; rfl
      · rw [if_neg h3, if_neg h3, (sgn_f _ (hg _)).1]
        have : t = 7 ∨ t = 8 ∨ t = 9 ∨ t = 10 := by omega
        rcases this with rfl | rfl | rfl | rfl <;> rfl
theorem flat2_f {g : Nat → Nat} (hg : ∀ j, g j < 14) : ∀ {ts : List Nat}, (∀ t ∈ ts, t < 11) → (flat2 g ts).map fch = tx (lens g) ts
  | [], _ => rfl
  | t :: r, h => by
    show (chs g t ++ flat2 g r).map fch = chN (lens g) t ++ tx (lens g) r
    rw [List.map_append, chs_f hg (h t (.head _)), flat2_f hg fun q hq => h q (.tail _ hq)]
noncomputable def meet (o1 o2 : List Int) : List Nat := (List.range 3).filter fun j => decide ((j : Int) ∈ o1) && decide ((j : Int) ∈ o2)
noncomputable def okH (s : Nat × Nat × Nat) (n : List Nat) : Bool :=
  let T := tx n (toksOf s)
  let sg := segs T T.length
  let ops := (awalk (toksOf s)).ops
  decide (sg.length = 3) && decide (T.length ≤ 64) && ((List.range T.length).all fun i => !(T.getD i 0 == 40) || closes (T.drop i) 0) &&
  (List.range 4).all fun k => decide (((List.range 3).filter fun j => decide (97 + k ∈ sg.getD j []) && decide (98 + k ∈ sg.getD j [])) = meet (ops.getD k []) (ops.getD (k + 1) []))
noncomputable def chkH (s : Nat × Nat × Nat) : Bool := ([1, 2] : List Nat).all fun a => ([1, 2] : List Nat).all fun b => ([1, 2] : List Nat).all fun c => ([1, 2] : List Nat).all fun d => okH s [a, b, c, d]
theorem chkHaeh : chkH (0, 0, 0) = true := by decide +kernel
theorem chkHaei : chkH (0, 0, 1) = true := by decide +kernel
theorem chkHafh : chkH (0, 1, 0) = true := by decide +kernel
theorem chkHafi : chkH (0, 1, 1) = true := by decide +kernel
theorem chkHagh : chkH (0, 2, 0) = true := by decide +kernel
theorem chkHagi : chkH (0, 2, 1) = true := by decide +kernel
theorem chkHbeh : chkH (1, 0, 0) = true := by decide +kernel
theorem chkHbei : chkH (1, 0, 1) = true := by decide +kernel
theorem chkHbfh : chkH (1, 1, 0) = true := by decide +kernel
theorem chkHbfi : chkH (1, 1, 1) = true := by decide +kernel
theorem chkHbgh : chkH (1, 2, 0) = true := by decide +kernel
theorem chkHbgi : chkH (1, 2, 1) = true := by decide +kernel
theorem chkHceh : chkH (2, 0, 0) = true := by decide +kernel
theorem chkHcei : chkH (2, 0, 1) = true := by decide +kernel
theorem chkHcfh : chkH (2, 1, 0) = true := by decide +kernel
theorem chkHcfi : chkH (2, 1, 1) = true := by decide +kernel
theorem chkHcgh : chkH (2, 2, 0) = true := by decide +kernel
theorem chkHcgi : chkH (2, 2, 1) = true := by decide +kernel
theorem chkHdeh : chkH (3, 0, 0) = true := by decide +kernel
theorem chkHdei : chkH (3, 0, 1) = true := by decide +kernel
theorem chkHdfh : chkH (3, 1, 0) = true := by decide +kernel
theorem chkHdfi : chkH (3, 1, 1) = true := by decide +kernel
theorem chkHdgh : chkH (3, 2, 0) = true := by decide +kernel
theorem chkHdgi : chkH (3, 2, 1) = true := by decide +kernel
theorem all_H : (shapes.all chkH) = true := by
  show (([(0, 0, 0), (0, 0, 1), (0, 1, 0), (0, 1, 1), (0, 2, 0), (0, 2, 1), (1, 0, 0), (1, 0, 1), (1, 1, 0), (1, 1, 1), (1, 2, 0), (1, 2, 1), (2, 0, 0), (2, 0, 1), (2, 1, 0), (2, 1, 1), (2, 2, 0), (2, 2, 1), (3, 0, 0), (3, 0, 1), (3, 1, 0), (3, 1, 1), (3, 2, 0), (3, 2, 1)] : List (Nat × Nat × Nat)).all chkH) = true
  simp only [List.all_cons, List.all_nil, chkHaeh, chkHaei, chkHafh, chkHafi, chkHagh, chkHagi, chkHbeh, chkHbei, chkHbfh, chkHbfi, chkHbgh, chkHbgi, chkHceh, chkHcei, chkHcfh, chkHcfi, chkHcgh, chkHcgi, chkHdeh, chkHdei, chkHdfh, chkHdfi, chkHdgh, chkHdgi, Bool.and_true]
theorem held_all {g : Nat → Nat} (hg : ∀ j, g j < 14) {s : Nat × Nat × Nat} (hs : s ∈ shapes) :
    (flat2 g (toksOf s)).length ≤ 64 ∧ (segs (flat2 g (toksOf s)) (flat2 g (toksOf s)).length).length = 3 ∧ (∀ i, i < (flat2 g (toksOf s)).length → (flat2 g (toksOf s)).getD i 0 = 40 → closes ((flat2 g (toksOf s)).drop i) 0 = true) ∧
    ∀ ps, told4 ps (flat2 g (toksOf s)) = (List.range 4).map fun k => 2 * ((meet ((awalk (toksOf s)).ops.getD k []) ((awalk (toksOf s)).ops.getD (k + 1) [])).map fun j => ps.getD j 0).sum := by
  have ht : ∀ t ∈ toksOf s, t < 11 := by
    have := List.all_eq_true.mp follow_shapes s hs
    rw [Bool.and_eq_true] at this
    intro t h
    exact of_decide_eq_true (List.all_eq_true.mp this.2 t h)
  have hf := flat2_f hg ht
  have hl : ∀ j, (sgnL.getD (g j) []).length ∈ ([1, 2] : List Nat) := fun j => by
    rcases (sgn_f _ (hg j)).2 with e | e <;> rw [e] <;> simp
  have hH : okH s (lens g) = true := by
    have := List.all_eq_true.mp all_H s hs
    have := List.all_eq_true.mp this _ (hl 0)
    have := List.all_eq_true.mp this _ (hl 1)
    have := List.all_eq_true.mp this _ (hl 2)
    exact List.all_eq_true.mp this _ (hl 3)
  generalize flat2 g (toksOf s) = T at hf ⊢
  unfold okH at hH
  dsimp only at hH
  rw [← hf, List.length_map, segs_f, List.length_map] at hH
  simp only [Bool.and_eq_true, decide_eq_true_eq, List.all_eq_true, Bool.or_eq_true, Bool.not_eq_true'] at hH
  obtain ⟨⟨⟨h1, h2⟩, h3⟩, h4⟩ := hH
  refine ⟨h2, h1, fun i hi h40 => ?_, fun ps => ?_⟩
  · rcases h3 i (List.mem_range.mpr hi) with h | h
    · rw [getD_f, h40] at h; simp [fch] at h
    · rw [← List.map_drop, closes_f] at h; exact h
  · unfold told4
    refine List.map_congr_left fun k hk => ?_
    have := h4 k hk
    unfold heldSum
    rw [← this]
    congr 4
    funext j
    have hk4 := List.mem_range.mp hk
    have e : (((segs T T.length).map fun l => l.map fch).getD j []) = ((segs T T.length).getD j []).map fch := by
      rw [List.getD_eq_getElem?_getD, List.getD_eq_getElem?_getD, List.getElem?_map]
      cases (segs T T.length)[j]? <;> rfl
    rw [e]
    simp only [mem_f (c := 97 + k) (by omega), mem_f (c := 98 + k) (by omega)]
end Mine
end
section
open PySem PySem.W PyProof.Rows PySem.Calls
set_option linter.unusedSectionVars false
set_option linter.unusedVariables false
set_option maxRecDepth 100000
set_option maxHeartbeats 4000000
namespace Mine
variable [Bd]
/-- the trees of a text: leaves and joins -/
inductive Tr2 where
  | lf (i : Nat)
  | nd (j : Nat) (l r : Tr2)
  deriving DecidableEq, Inhabited
noncomputable def ev2 (g : Nat → Nat) (lv : Nat → Wv) : Tr2 → Option Wv
  | .lf i => some (lv i)
  | .nd j l r => match ev2 g lv l, ev2 g lv r with
    | some x, some y => wop (g j) x y
    | _, _ => none
/-- a step of the drawing -/
noncomputable def fput (F : List Tr2) (k j : Nat) : List Tr2 := F.take k ++ [.nd j (F.getD k default) (F.getD (k + 1) default)] ++ F.drop (k + 2)
noncomputable def fst2 (ks : Nat → Nat) : Nat → List Tr2
  | 0 => [.lf 0, .lf 1, .lf 2, .lf 3, .lf 4]
  | j + 1 => fput (fst2 ks j) (ks j) j
theorem fput_len {F : List Tr2} {k j : Nat} (h : k + 1 < F.length) : (fput F k j).length = F.length - 1 := by
  unfold fput
  simp only [List.length_append, List.length_take, List.length_drop, List.length_cons, List.length_nil]; omega
/-- the worths of a forest -/
noncomputable def Same (g : Nat → Nat) (lv : Nat → Wv) (F : List Tr2) (ws : List Wv) : Prop := F.map (ev2 g lv) = ws.map some
noncomputable def Bad (g : Nat → Nat) (lv : Nat → Wv) (F : List Tr2) : Prop := ∃ t ∈ F, ev2 g lv t = none
theorem same_get {g : Nat → Nat} {lv : Nat → Wv} {F : List Tr2} {ws : List Wv} (h : Same g lv F ws) {k : Nat} (hk : k < F.length) : ev2 g lv (F.getD k default) = some (ws.getD k (.i 0)) := by
  have hl : F.length = ws.length := by have := congrArg List.length h; simpa using this
  have := congrArg (fun l : List (Option Wv) => l[k]?) h
  simp only [List.getElem?_map] at this
  rw [List.getElem?_eq_getElem hk, List.getElem?_eq_getElem (by omega)] at this
  rw [List.getD_eq_getElem?_getD, List.getD_eq_getElem?_getD, List.getElem?_eq_getElem hk, List.getElem?_eq_getElem (by omega)]
  simpa using this
theorem same_put {g : Nat → Nat} {lv : Nat → Wv} {F : List Tr2} {ws : List Wv} {k j : Nat} {z : Wv} (h : Same g lv F ws) (hk : k + 1 < F.length) (hz : wop (g j) (ws.getD k (.i 0)) (ws.getD (k + 1) (.i 0)) = some z) : Same g lv (fput F k j) (ws.take k ++ [z] ++ ws.drop (k + 2)) := by
  unfold Same fput
  simp only [List.map_append, List.map_take, List.map_drop, List.map_cons, List.map_nil]
  rw [show F.map (ev2 g lv) = ws.map some from h]
  congr 2
  show [ev2 g lv (.nd j _ _)] = _
  unfold ev2
  rw [same_get h (by omega), same_get h hk]
  dsimp only
  rw [hz]
theorem bad_new {g : Nat → Nat} {lv : Nat → Wv} {F : List Tr2} {ws : List Wv} {k j : Nat} (h : Same g lv F ws) (hk : k + 1 < F.length) (hz : wop (g j) (ws.getD k (.i 0)) (ws.getD (k + 1) (.i 0)) = none) : Bad g lv (fput F k j) := by
  refine ⟨.nd j (F.getD k default) (F.getD (k + 1) default), by unfold fput; simp, ?_⟩
  unfold ev2
  rw [same_get h (by omega), same_get h hk]
  exact hz
theorem bad_put {g : Nat → Nat} {lv : Nat → Wv} {F : List Tr2} {k j : Nat} (h : Bad g lv F) (hk : k + 1 < F.length) : Bad g lv (fput F k j) := by
  obtain ⟨t, ht, e⟩ := h
  obtain ⟨i, hi⟩ := List.getElem?_of_mem ht
  have hlt : i < F.length := (List.getElem?_eq_some_iff.mp hi).1
  have hgd : ∀ q, q = i → F.getD q default = t := fun q hq => by rw [hq, List.getD_eq_getElem?_getD, hi]; rfl
  by_cases h1 : i < k
  · refine ⟨t, ?_, e⟩
    unfold fput
    refine List.mem_append_left _ (List.mem_append_left _ ?_)
    exact List.mem_of_getElem? (i := i) (by rw [List.getElem?_take, if_pos h1, hi])
  · by_cases h2 : k + 2 ≤ i
    · refine ⟨t, ?_, e⟩
      unfold fput
      refine List.mem_append_right _ ?_
      exact List.mem_of_getElem? (i := i - (k + 2)) (by rw [List.getElem?_drop, show k + 2 + (i - (k + 2)) = i by omega, hi])
    · refine ⟨.nd j (F.getD k default) (F.getD (k + 1) default), by unfold fput; simp, ?_⟩
      unfold ev2
      by_cases h3 : i = k
      · rw [hgd k h3.symm, e]
      · rw [hgd (k + 1) (by omega), e]
        cases ev2 g lv (F.getD k default) <;> rfl
/-- the drawing follows its trees -/
theorem drop4 {draws : List Int} (hl : draws.length = 9) : draws.drop 4 = [draws.getD 4 0, draws.getD 5 0, draws.getD 6 0, draws.getD 7 0, draws.getD 8 0] := by
  have st : ∀ i, i < 9 → draws.drop i = draws.getD i 0 :: draws.drop (i + 1) := fun i hi => by
    have hi : i < draws.length := hl ▸ hi
    rw [List.drop_eq_getElem_cons hi, List.getD_eq_getElem?_getD, List.getElem?_eq_getElem hi]; rfl
  rw [st 4 (by decide), st 5 (by decide), st 6 (by decide), st 7 (by decide), st 8 (by decide), List.drop_eq_nil_of_le (Nat.le_of_eq hl)]
theorem drawn_trees {draws : List Int} (hl : draws.length = 9) (hok : ∀ j, j ≤ 4 → DOk j (dst draws j)) : ∀ j, j ≤ 4 →
    let g := fun j => dsig (draws.getD j 0)
    let lv := fun i => Wv.i (draws.getD (4 + i) 0)
    let ks := fun j => dpos (draws.getD j 0) j
    (fst2 ks j).length = 5 - j ∧ (((dst draws j).bad = false ∧ Same g lv (fst2 ks j) (dst draws j).worths) ∨ ((dst draws j).bad = true ∧ Bad g lv (fst2 ks j)))
  | 0, _ => by
    refine ⟨rfl, .inl ⟨rfl, ?_⟩⟩
    show _ = ((draws.drop 4).map Wv.i).map some
    rw [drop4 hl]; rfl
  | j + 1, hj => by
    obtain ⟨h1, h2⟩ := drawn_trees hl hok j (by omega)
    have hk := (dpos_lt (d := draws.getD j 0) (j := j) (by omega)).1
    have hko : dpos (draws.getD j 0) j + 1 < (fst2 (fun j => dpos (draws.getD j 0) j) j).length := by rw [h1]; omega
    refine ⟨?_, ?_⟩
    · show (fput _ _ _).length = _
      rw [fput_len hko, h1]; omega
    · rcases h2 with ⟨hb, hs⟩ | ⟨hb, hs⟩
      · cases hw : wop (dsig (draws.getD j 0)) ((dst draws j).worths.getD (dpos (draws.getD j 0) j) (.i 0)) ((dst draws j).worths.getD (dpos (draws.getD j 0) j + 1) (.i 0)) with
        | none =>
          refine .inr ⟨?_, bad_new hs hko hw⟩
          show ((dst draws j).bad || (wop _ _ _).isNone) = true
          rw [hw]; simp
        | some z =>
          refine .inl ⟨?_, ?_⟩
          · show ((dst draws j).bad || (wop _ _ _).isNone) = false
            rw [hw, hb]; rfl
          · have := same_put (g := fun j => dsig (draws.getD j 0)) (j := j) hs hko hw
            show Same _ _ (fput _ _ _) (_ ++ [(wop _ _ _).getD (.i 0)] ++ _)
            rw [hw]; exact this
      · refine .inr ⟨?_, bad_put hs hko⟩
        show ((dst draws j).bad || _) = true
        rw [hb]; rfl
/-- the telling, on trees -/
structure TT where
  F : List Tr2
  ss : List Nat
  sh : List Int
noncomputable def ttput (st : TT) : TT := ⟨fput st.F (topOf st.sh) (st.ss.getD (topOf st.sh) 0), st.ss.take (topOf st.sh) ++ st.ss.drop (topOf st.sh + 1), st.sh.take (topOf st.sh) ++ st.sh.drop (topOf st.sh + 1)⟩
noncomputable def ttrun (st : TT) : Nat → TT
  | 0 => st
  | i + 1 => ttput (ttrun st i)
structure TTOk (m : Nat) (st : TT) : Prop where
  ss : st.ss.length = m
  sh : st.sh.length = m
  F : st.F.length = m + 1
theorem TTOk.put {m : Nat} {st : TT} (o : TTOk (m + 1) st) : TTOk m (ttput st) ∧ topOf st.sh < m + 1 := by
  have hk : topOf st.sh < st.sh.length := topOf_lt (by intro q; have := o.sh; rw [q] at this; cases this)
  obtain ⟨h1, h2, h3⟩ := o
  refine ⟨⟨?_, ?_, ?_⟩, by omega⟩
  · simp only [ttput, List.length_append, List.length_take, List.length_drop]; omega
  · simp only [ttput, List.length_append, List.length_take, List.length_drop]; omega
  · show (fput _ _ _).length = _
    rw [fput_len (by omega), h3]; omega
theorem TTOk.run {m : Nat} {st : TT} (o : TTOk m st) : ∀ i, i ≤ m → TTOk (m - i) (ttrun st i)
  | 0, _ => o
  | i + 1, hi => by
    have := o.run i (by omega)
    rw [show m - i = (m - (i + 1)) + 1 by omega] at this
    exact this.put.1
theorem told_trees {g : Nat → Nat} {lv : Nat → Wv} {st : TS} {tt : TT} {m : Nat} (o : TTOk m tt) (hs : Same g lv tt.F st.ws) (h1 : st.ss = tt.ss.map g) (h2 : st.sh = tt.sh) : ∀ i, i ≤ m →
    (∃ st', trun st i = some st' ∧ Same g lv (ttrun tt i).F st'.ws ∧ st'.ss = (ttrun tt i).ss.map g ∧ st'.sh = (ttrun tt i).sh) ∨ (trun st i = none ∧ Bad g lv (ttrun tt i).F)
  | 0, _ => .inl ⟨st, rfl, hs, h1, h2⟩
  | i + 1, hi => by
    have oi := o.run i (by omega)
    rw [show m - i = (m - (i + 1)) + 1 by omega] at oi
    have hk := oi.put.2
    have hF := oi.F
    have hss := oi.ss
    rcases told_trees o hs h1 h2 i (by omega) with ⟨st', e, a, b, d⟩ | ⟨e, a⟩
    · have er : trun st (i + 1) = tstep st' := by unfold trun; rw [e]; rfl
      have hsig : st'.s = g ((ttrun tt i).ss.getD (topOf (ttrun tt i).sh) 0) := by
        unfold TS.s
        rw [b, d, List.getD_eq_getElem?_getD, List.getD_eq_getElem?_getD, List.getElem?_map, List.getElem?_eq_getElem (by omega)]; rfl
      rw [er]
      unfold tstep
      cases hw : wop st'.s st'.x st'.y with
      | none =>
        refine .inr ⟨rfl, ?_⟩
        rw [hsig] at hw
        unfold TS.x TS.y at hw
        rw [d] at hw
        exact bad_new a (by omega) hw
      | some z =>
        refine .inl ⟨_, rfl, ?_, ?_, ?_⟩
        · rw [hsig] at hw
          unfold TS.x TS.y at hw
          rw [d] at hw
          have := same_put a (by omega) hw
          show Same g lv (fput _ _ _) (_ ++ [z] ++ _)
          rw [d]; exact this
        · show st'.ss.take (topOf st'.sh) ++ st'.ss.drop (topOf st'.sh + 1) = (List.take _ _ ++ List.drop _ _).map g
          rw [b, d, List.map_append, List.map_take, List.map_drop]
        · show st'.sh.take (topOf st'.sh) ++ st'.sh.drop (topOf st'.sh + 1) = List.take _ _ ++ List.drop _ _
          rw [d]
    · refine .inr ⟨by unfold trun; rw [e]; rfl, bad_put a (by omega)⟩
end Mine
end
section
open PySem PySem.W PyProof.Rows PySem.Calls
set_option linter.unusedSectionVars false
set_option linter.unusedVariables false
set_option maxRecDepth 100000
set_option maxHeartbeats 4000000
namespace Mine
variable [Bd]
noncomputable def hasI (o : List Int) (k : Int) : Bool := o.any fun y => y == k
theorem mem_hasI {o : List Int} {k : Int} : decide (k ∈ o) = hasI o k := by
  unfold hasI
  rw [Bool.eq_iff_iff, decide_eq_true_eq, List.any_eq_true]
  constructor
  · intro h; exact ⟨k, h, beq_self_eq_true k⟩
  · rintro ⟨x, hx, e⟩; rw [← beq_iff_eq.mp e]; exact hx
noncomputable def wN (o : List Int) (m u v z : Nat) : List Nat := lwN (hasI o 0) (hasI o 1) (hasI o 2) m u v z
noncomputable def lwS (o0 o1 o2 : Bool) (m u v z : Nat) : PySem.Str :=
  let op := fun k : Nat => if k = 0 then o0 else if k = 1 then o1 else o2
  let a := (m + 1) % 3
  let b := (m + 2) % 3
  let letters : PySem.Str := if op m = true then (if u = 0 then S "ABC" else S "def") else S "abc"
  let w1 := S "x" ++ chr letters m ++ S "y"
  let w2 := if (op a == (v == 1)) = true then chr (S "abc") a ++ w1 else w1
  if (op b == (z == 1)) = true then w2 ++ chr (S "abc") b else w2
theorem all_W : (([0, 1, 2] : List Nat).all fun m => ([0, 1] : List Nat).all fun u => ([0, 1] : List Nat).all fun v => ([0, 1] : List Nat).all fun z => bb.all fun s0 => bb.all fun s1 => bb.all fun s2 => lwS s0 s1 s2 m u v z == sOf (lwN s0 s1 s2 m u v z)) = true := by
  decide +kernel
theorem bb_mem (b : Bool) : b ∈ bb := by cases b <;> decide
structure WayIs (way : Int) (m u v z : Nat) : Prop where
  em : way.fmod 3 = (m : Nat)
  eu : (way.fdiv 12).fmod 2 = (u : Nat)
  ev : (way.fdiv 3).fmod 2 = (v : Nat)
  ez : (way.fdiv 6).fmod 2 = (z : Nat)
  m3 : m ∈ ([0, 1, 2] : List Nat)
  u2 : u ∈ ([0, 1] : List Nat)
  v2 : v ∈ ([0, 1] : List Nat)
  z2 : z ∈ ([0, 1] : List Nat)
theorem way_is (way : Int) : ∃ m u v z, WayIs way m u v z := by
  have two : ∀ i : Int, ∃ n : Nat, i.fmod 2 = (n : Nat) ∧ n ∈ ([0, 1] : List Nat) := fun i => by
    rcases mod2 i with h | h
    · exact ⟨0, h, by decide⟩
    · exact ⟨1, h, by decide⟩
  obtain ⟨u, hu, hu2⟩ := two (way.fdiv 12)
  obtain ⟨v, hv, hv2⟩ := two (way.fdiv 3)
  obtain ⟨z, hz, hz2⟩ := two (way.fdiv 6)
  have h3 := mod3 way
  have : way.fmod 3 = 0 ∨ way.fmod 3 = 1 ∨ way.fmod 3 = 2 := by omega
  rcases this with h | h | h
  · exact ⟨0, u, v, z, h, hu, hv, hz, by decide, hu2, hv2, hz2⟩
  · exact ⟨1, u, v, z, h, hu, hv, hz, by decide, hu2, hv2, hz2⟩
  · exact ⟨2, u, v, z, h, hu, hv, hz, by decide, hu2, hv2, hz2⟩
theorem lword_S {o : List Int} {way : Int} {m u v z : Nat} (w : WayIs way m u v z) : lword o way = lwS (hasI o 0) (hasI o 1) (hasI o 2) m u v z := by
  obtain ⟨h1, h2, h3, h4, m3, u2, v2, z2⟩ := w
  unfold lword lwS hasI
  dsimp only
  rw [h1, h2, h3, h4]
  have hu : ∀ n : Nat, (((n : Nat) : Int) = 0) = (n = 0) := fun n => by apply propext; omega
  have hv : ∀ n : Nat, (((n : Nat) : Int) == 1) = (n == 1) := fun n => by
    rw [Bool.eq_iff_iff, beq_iff_eq, beq_iff_eq]; omega
  rw [hv v, hv z]
  simp only [hu u]
  have hm : m = 0 ∨ m = 1 ∨ m = 2 := by simpa using m3
  rcases hm with rfl | rfl | rfl <;> rfl
theorem lword_N {o : List Int} {way : Int} {m u v z : Nat} (w : WayIs way m u v z) : lword o way = sOf (wN o m u v z) := by
  rw [lword_S w]
  have := List.all_eq_true.mp all_W _ w.m3
  have := List.all_eq_true.mp this _ w.u2
  have := List.all_eq_true.mp this _ w.v2
  have := List.all_eq_true.mp this _ w.z2
  have := List.all_eq_true.mp this _ (bb_mem (hasI o 0))
  have := List.all_eq_true.mp this _ (bb_mem (hasI o 1))
  have := List.all_eq_true.mp this _ (bb_mem (hasI o 2))
  exact beq_iff_eq.mp this
noncomputable def pd (m u : Nat) (o1 o2 : List Int) : Int := pdiff m u (hasI o1 0) (hasI o1 1) (hasI o1 2) (hasI o2 0) (hasI o2 1) (hasI o2 2)
theorem word_alpha {o : List Int} {way : Int} {m u v z : Nat} (w : WayIs way m u v z) : (wN o m u v z).length ≤ 8 ∧ ∀ x ∈ wN o m u v z, x ∈ alpha := by
  have := List.all_eq_true.mp all_A _ w.m3
  have := List.all_eq_true.mp this _ w.u2
  have := List.all_eq_true.mp this _ w.v2
  have := List.all_eq_true.mp this _ w.z2
  have := List.all_eq_true.mp this _ (bb_mem (hasI o 0))
  have := List.all_eq_true.mp this _ (bb_mem (hasI o 1))
  have := List.all_eq_true.mp this _ (bb_mem (hasI o 2))
  rw [Bool.and_eq_true] at this
  refine ⟨of_decide_eq_true this.2, fun x hx => ?_⟩
  have := List.all_eq_true.mp this.1 x hx
  exact List.contains_iff_mem.mp this
theorem low_alpha : ∀ x ∈ alpha, low1 x := by
  unfold low1; decide +kernel
theorem lev_D {o1 o2 : List Int} {way : Int} {m u v z : Nat} (w : WayIs way m u v z) : lev (wN o1 m u v z) (wN o2 m u v z) (psum m u) = pd m u o1 o2 ∧ lev (wN o2 m u v z) (wN o1 m u v z) (pd m u o1 o2) = pd m u o1 o2 := by
  have := List.all_eq_true.mp all_D _ w.m3
  have := List.all_eq_true.mp this _ w.u2
  have := List.all_eq_true.mp this _ w.v2
  have := List.all_eq_true.mp this _ w.z2
  have := List.all_eq_true.mp this _ (bb_mem (hasI o1 0))
  have := List.all_eq_true.mp this _ (bb_mem (hasI o1 1))
  have := List.all_eq_true.mp this _ (bb_mem (hasI o1 2))
  have := List.all_eq_true.mp this _ (bb_mem (hasI o2 0))
  have := List.all_eq_true.mp this _ (bb_mem (hasI o2 1))
  have := List.all_eq_true.mp this _ (bb_mem (hasI o2 2))
  unfold okD at this
  rw [Bool.and_eq_true] at this
  rw [lev_G (word_alpha w).2 (word_alpha w).2, lev_G (word_alpha w).2 (word_alpha w).2]
  exact ⟨of_decide_eq_true this.1, of_decide_eq_true this.2⟩
noncomputable def psL (m u : Nat) : List Int := [price m u 0, price m u 1, price m u 2]
theorem prices_L {way : Int} {m u v z : Nat} (w : WayIs way m u v z) : pricesOf way = psL m u := by
  unfold pricesOf
  rw [w.em, w.eu]
  have hm : m = 0 ∨ m = 1 ∨ m = 2 := by simpa using w.m3
  rcases hm with rfl | rfl | rfl <;> rfl
theorem psL_sum (m u : Nat) : (psL m u).sum = psum m u := by
  unfold psL psum; simp only [List.sum_cons, List.sum_nil]; omega
theorem meet_sum {o1 o2 : List Int} {m u : Nat} : 2 * ((meet o1 o2).map fun j => (psL m u).getD j 0).sum = pd m u [] o1 + pd m u [] o2 - pd m u o2 o1 := by
  unfold meet
  have e : (fun j : Nat => decide ((j : Int) ∈ o1) && decide ((j : Int) ∈ o2)) = fun j : Nat => hasI o1 j && hasI o2 j := by
    funext j; rw [mem_hasI, mem_hasI]
  rw [e]
  unfold pd pdiff
  show 2 * ((([0, 1, 2] : List Nat).filter _).map _).sum = _
  have h0 : hasI [] 0 = false := rfl
  have h1 : hasI [] 1 = false := rfl
  have h2 : hasI [] 2 = false := rfl
  rw [h0, h1, h2]
  have c0 : ((0 : Nat) : Int) = 0 := rfl
  have c1 : ((1 : Nat) : Int) = 1 := rfl
  have c2 : ((2 : Nat) : Int) = 2 := rfl
  have g0 : (psL m u)[0]?.getD 0 = price m u 0 := rfl
  have g1 : (psL m u)[1]?.getD 0 = price m u 1 := rfl
  have g2 : (psL m u)[2]?.getD 0 = price m u 2 := rfl
  simp only [List.filter_cons, List.filter_nil, c0, c1, c2]
  generalize price m u 0 = p0 at *
  generalize price m u 1 = p1 at *
  generalize price m u 2 = p2 at *
  cases hasI o1 0 <;> cases hasI o1 1 <;> cases hasI o1 2 <;> cases hasI o2 0 <;> cases hasI o2 1 <;> cases hasI o2 2 <;> simp [g0, g1, g2] <;> omega
/-- the telling joins as the drawing did -/
noncomputable def leaves : List Tr2 := [.lf 0, .lf 1, .lf 2, .lf 3, .lf 4]
noncomputable def sharesOf (s : Nat × Nat × Nat) (m u : Nat) : List Int := (List.range 4).map fun k => 2 * ((meet ((awalk (toksOf s)).ops.getD k []) ((awalk (toksOf s)).ops.getD (k + 1) [])).map fun j => (psL m u).getD j 0).sum
theorem all_T : (shapes.all fun s => ([0, 1, 2] : List Nat).all fun m => ([0, 1] : List Nat).all fun u => decide ((ttrun ⟨leaves, (awalk (toksOf s)).slots, sharesOf s m u⟩ 4).F = fst2 (ksOf s) 4)) = true := by
  decide +kernel
theorem toks_len : (shapes.all fun s => decide ((toksOf s).length ≤ 30)) = true := by decide +kernel
theorem sgn_low : ∀ s, s < 14 → ∀ c ∈ sgnL.getD s [], c < 128 := by decide
theorem chs_low {g : Nat → Nat} (hg : ∀ j, g j < 14) (t : Nat) : ∀ c ∈ chs g t, c < 128 := by
  intro c hc
  unfold chs at hc
  split at hc
  · rw [List.mem_singleton.mp hc]; omega
  · split at hc
    · rw [List.mem_singleton.mp hc]; decide
    · split at hc
      · rw [List.mem_singleton.mp hc]; decide
      · exact sgn_low _ (hg _) c hc
theorem codeT_8 {g : Nat → Nat} (hg : ∀ j, g j < 14) {t : Nat} (h : codeT g t = 8) : t = 6 := by
  unfold codeT at h
  split at h
  · omega
  · split at h
    · cases h
    · split at h
      · assumption
      · exact absurd h (tok_ne _ (hg _)).2.1
theorem wstep_0 (way : Int) (st : WS) : wstep way st 0 = st := rfl
theorem wst_full {g : Nat → Nat} (hg : ∀ j, g j < 14) {way : Int} (ts : List Nat) : wst way (ts.map (codeT g) ++ [0]) (ts.map (codeT g) ++ [0]).length = simA g way (awalk ts) := by
  unfold wst
  rw [List.take_length, List.foldl_append]
  show wstep way ((ts.map (codeT g)).foldl (wstep way) (simA g way ⟨[], [], [], [], 0⟩)) 0 = _
  rw [wstep_0, sim_fold hg]; rfl
theorem wst_part {g : Nat → Nat} (hg : ∀ j, g j < 14) {way : Int} (ts : List Nat) {k : Nat} (hk : k ≤ ts.length) : wst way (ts.map (codeT g) ++ [0]) k = simA g way (awalk (ts.take k)) := by
  unfold wst
  rw [List.take_append_of_le_length (by rw [List.length_map]; exact hk), ← List.map_take]
  show ((ts.take k).map (codeT g)).foldl (wstep way) (simA g way ⟨[], [], [], [], 0⟩) = _
  rw [sim_fold hg]; rfl
theorem same_root {g : Nat → Nat} {lv : Nat → Wv} {F : List Tr2} (hF : F.length = 1) {ws ws' : List Wv} (h : Same g lv F ws) (h' : Same g lv F ws') : ws.getD 0 (.i 0) = ws'.getD 0 (.i 0) := by
  have a := same_get h (k := 0) (by omega)
  have b := same_get h' (k := 0) (by omega)
  rw [a] at b; exact Option.some.inj b
theorem same_bad {g : Nat → Nat} {lv : Nat → Wv} {F : List Tr2} {ws : List Wv} (h : Same g lv F ws) (b : Bad g lv F) : False := by
  obtain ⟨t, ht, e⟩ := b
  have : none ∈ F.map (ev2 g lv) := by rw [← e]; exact List.mem_map.mpr ⟨t, ht, rfl⟩
  rw [show F.map (ev2 g lv) = ws.map some from h] at this
  obtain ⟨_, _, q⟩ := List.mem_map.mp this
  cases q
theorem plain {l : List Int} (hz : l.length ≤ 63) (hlay : PyData.layable0 (.list (l.map .int)) = true) : ∃ ts code ws b0 ss fars, LawOk (drawsOf l) ts code ws b0 ss fars := by
  have hl : (drawsOf l).length = 9 := by unfold drawsOf; rw [List.length_map]; rfl
  have hbt := draws_bt hz hlay
  generalize drawsOf l = draws at *
  have hg : ∀ j, dsig (draws.getD j 0) < 14 := fun j => (dsig_lt _).1
  obtain ⟨m, u, v, z, w⟩ := way_is (wayOf draws)
  have hdt := drawn_trees hl (fun j hj => dst_ok hl j hj) 4 (Nat.le_refl _)
  have htt := texts_toks hl 4 (Nat.le_refl _)
  dsimp only at hdt htt
  have k0 := (dpos_lt (d := draws.getD 0 0) (j := 0) (by decide)).1
  have k1 := (dpos_lt (d := draws.getD 1 0) (j := 1) (by decide)).1
  have k2 := (dpos_lt (d := draws.getD 2 0) (j := 2) (by decide)).1
  have k3 := (dpos_lt (d := draws.getD 3 0) (j := 3) (by decide)).1
  obtain ⟨s, hse⟩ : ∃ s : Nat × Nat × Nat, s = (dpos (draws.getD 0 0) 0, dpos (draws.getD 1 0) 1, dpos (draws.getD 2 0) 2) := ⟨_, rfl⟩
  have hs : s ∈ shapes := by rw [hse]; exact shape_mem (by omega) (by omega) (by omega)
  have hks : ∀ i, i < 4 → (fun j => dpos (draws.getD j 0) j) i = ksOf s i := fun i hi => by
    have : i = 0 ∨ i = 1 ∨ i = 2 ∨ i = 3 := by omega
    rw [hse]
    rcases this with rfl | rfl | rfl | rfl
    · rfl
    · rfl
    · rfl
    · show dpos (draws.getD 3 0) 3 = 0; omega
  have fcongr : ∀ {k k' : Nat → Nat} (j : Nat), (∀ i, i < j → k i = k' i) → fst2 k j = fst2 k' j := by
    intro k k' j
    induction j with
    | zero => intro _; rfl
    | succ j ih =>
      intro h
      show fput (fst2 k j) (k j) j = fput (fst2 k' j) (k' j) j
      rw [ih fun i hi => h i (by omega), h j (by omega)]
  rw [sst_congr 4 hks] at htt
  rw [fcongr 4 hks] at hdt
  generalize hgg : (fun j => dsig (draws.getD j 0)) = g at *
  have hg' : ∀ j, g j < 14 := fun j => by rw [← hgg]; exact hg j
  clear hse hks k0 k1 k2 k3
  obtain ⟨t1, t2, t3⟩ := htt
  have htoks : sst (ksOf s) 4 = [toksOf s] := by
    unfold toksOf
    match sst (ksOf s) 4, t2 with
    | [a], _ => rfl
  obtain ⟨H1, H2, H3, H4⟩ := held_all hg' hs
  have hfs := List.all_eq_true.mp follow_shapes s hs
  rw [Bool.and_eq_true] at hfs
  have hws := List.all_eq_true.mp walk_shapes s hs
  simp only [Bool.and_eq_true, decide_eq_true_eq] at hws
  obtain ⟨⟨⟨W1, W2⟩, W3⟩, W4⟩ := hws
  have htl := of_decide_eq_true (List.all_eq_true.mp toks_len s hs)
  have hcode : (toksOf s).map (fun t => codeC (chs g t)) = (toksOf s).map (codeT g) := List.map_congr_left fun t _ => code_chs hg'
  have hys : ((toksOf s).map (chs g)).map codeC ++ [0] = (toksOf s).map (codeT g) ++ [0] := by
    rw [List.map_map]; exact congrArg (· ++ [0]) hcode
  have hheld : told4 (pricesOf (wayOf draws)) (flat2 g (toksOf s)) = sharesOf s m u := by
    rw [H4, prices_L w]; rfl
  have hT : (ttrun ⟨leaves, (awalk (toksOf s)).slots, sharesOf s m u⟩ 4).F = fst2 (ksOf s) 4 := by
    have := List.all_eq_true.mp all_T s hs
    have := List.all_eq_true.mp this _ w.m3
    exact of_decide_eq_true (List.all_eq_true.mp this _ w.u2)
  have hsl : (sharesOf s m u).length = 4 := rfl
  have hTS : TTOk 4 ⟨leaves, (awalk (toksOf s)).slots, sharesOf s m u⟩ := ⟨W2, hsl, rfl⟩
  have hsame : Same g (fun i => Wv.i (draws.getD (4 + i) 0)) leaves (tsOf draws ((awalk (toksOf s)).slots.map g) (sharesOf s m u)).ws := rfl
  have htold := told_trees hTS hsame (st := tsOf draws ((awalk (toksOf s)).slots.map g) (sharesOf s m u)) rfl rfl 4 (Nat.le_refl _)
  rw [hT] at htold
  have hlow : ∀ o : List Int, (wN o m u v z).length ≤ 8 ∧ ∀ c ∈ wN o m u v z, low1 c := fun o => ⟨(word_alpha w).1, fun c hc => low_alpha c ((word_alpha w).2 c hc)⟩
  obtain ⟨o0, o1, o2, o3, o4, hops⟩ : ∃ o0 o1 o2 o3 o4, (awalk (toksOf s)).ops = [o0, o1, o2, o3, o4] := by
    match (awalk (toksOf s)).ops, W3 with
    | [a, b, c, d, e], _ => exact ⟨a, b, c, d, e, rfl⟩
  have hsh : sharesOf s m u = [pd m u [] o0 + pd m u [] o1 - pd m u o1 o0, pd m u [] o1 + pd m u [] o2 - pd m u o2 o1, pd m u [] o2 + pd m u [] o3 - pd m u o3 o2, pd m u [] o3 + pd m u [] o4 - pd m u o4 o3] := by
    rw [← meet_sum, ← meet_sum, ← meet_sum, ← meet_sum]
    unfold sharesOf; rw [hops]; rfl
  refine ⟨(toksOf s).map (chs g), codeC, [wN o0 m u v z, wN o1 m u v z, wN o2 m u v z, wN o3 m u v z, wN o4 m u v z], wN [] m u v z, (awalk (toksOf s)).slots.map g, [pd m u [] o0, pd m u [] o1, pd m u [] o2, pd m u [] o3, pd m u [] o4, pd m u o1 o0, pd m u o2 o1, pd m u o3 o2, pd m u o4 o3], ?_⟩
  refine
    { len := hl
      fit := fun j hj h => mul_bt (bt_getD (dst_bt hbt j) _) (bt_getD (dst_bt hbt j) _) (cB_le hj)
      text := ?_
      stp := stp_all hg' hfs.1
      tz := H1
      tc := fun x hx => ?_
      yz := ?_
      pop := fun k hk => ?_
      names := ?_
      words := ?_
      signs := ?_
      wlen := rfl
      slen := by rw [List.length_map]; exact W2
      s14 := fun x hx => ?_
      bare := lword_N w
      low := fun x hx => ?_
      flen := rfl
      far := fun k hk => ?_
      rev := fun k hk => ?_
      segs3 := H2
      cls := H3
      held := ?_
      tfit := fun i st' hi e _ => ?_
      told := ?_ }
  · rw [t1, htoks]; rfl
  · obtain ⟨p, hp, hxp⟩ := List.mem_flatten.mp hx
    obtain ⟨t, _, rfl⟩ := List.mem_map.mp hp
    exact chs_low hg' t x hxp
  · rw [List.length_append, List.length_map, List.length_map]
    show _ + 1 ≤ 64; omega
  · rw [hys] at hk ⊢
    have hkt : k < (toksOf s).length := by
      by_cases q : k < (toksOf s).length
      · exact q
      · rw [List.getElem?_append_right (by rw [List.length_map]; omega), List.length_map] at hk
        cases h0 : k - (toksOf s).length with
        | zero => rw [h0] at hk; cases hk
        | succ n => rw [h0] at hk; simp at hk
    rw [wst_part hg' _ (Nat.le_of_lt hkt)]
    show (awalk ((toksOf s).take k)).opens ≠ []
    rw [List.getElem?_append_left (by rw [List.length_map]; exact hkt), List.getElem?_map, List.getElem?_eq_getElem hkt] at hk
    have h6 : (toksOf s)[k] = 6 := codeT_8 hg' (Option.some.inj hk)
    have := List.all_eq_true.mp W4 k (List.mem_range.mpr hkt)
    rw [List.getD_eq_getElem?_getD, List.getElem?_eq_getElem hkt] at this
    simp only [Option.getD_some, h6] at this
    intro q
    rw [q] at this
    exact absurd this (by decide)
  · rw [hys, wst_full hg']; exact W1
  · rw [hys, wst_full hg']
    show (awalk (toksOf s)).ops.map _ = _
    rw [hops]
    simp only [List.map_cons, List.map_nil, lword_N w]
  · rw [hys, wst_full hg']
    show (awalk (toksOf s)).slots.map _ = _
    rw [List.map_map]; rfl
  · obtain ⟨j, _, rfl⟩ := List.mem_map.mp hx
    exact hg' j
  · simp only [List.mem_cons, List.not_mem_nil, or_false] at hx
    rcases hx with rfl | rfl | rfl | rfl | rfl | rfl <;> exact hlow _
  · rw [prices_L w, psL_sum]
    have : k = 0 ∨ k = 1 ∨ k = 2 ∨ k = 3 ∨ k = 4 ∨ k = 5 ∨ k = 6 ∨ k = 7 ∨ k = 8 := by omega
    rcases this with rfl | rfl | rfl | rfl | rfl | rfl | rfl | rfl | rfl <;> exact (lev_D w).1
  · have : k = 0 ∨ k = 1 ∨ k = 2 ∨ k = 3 ∨ k = 4 ∨ k = 5 ∨ k = 6 ∨ k = 7 ∨ k = 8 := by omega
    rcases this with rfl | rfl | rfl | rfl | rfl | rfl | rfl | rfl | rfl <;> exact (lev_D w).2
  · show _ = told4 _ (flat2 g (toksOf s))
    rw [hheld, hsh]; rfl
  · have e' : trun (tsOf draws ((awalk (toksOf s)).slots.map g) (sharesOf s m u)) i = some st' := by rw [← hheld]; exact e
    have hb := trun_bt (c := 1048576 + 64) (st := tsOf draws ((awalk (toksOf s)).slots.map g) (sharesOf s m u)) (fun x hx => by
      obtain ⟨q, hq, rfl⟩ := List.mem_map.mp hx
      have hq5 := List.mem_range.mp hq
      exact hbt _ (getD_mem (by omega))) i st' e'
    exact mul_bt (bt_getD hb _) (bt_getD hb _) (cB_le hi)
  · show Option.map _ (trun (tsOf draws _ (told4 _ (flat2 g (toksOf s)))) 4) = _
    rw [hheld]
    obtain ⟨d1, d2⟩ := hdt
    rcases htold with ⟨st', e, a, _, _⟩ | ⟨e, a⟩
    · rw [e]
      rcases d2 with ⟨b1, b2⟩ | ⟨b1, b2⟩
      · unfold dueOf; rw [b1]
        exact congrArg some (same_root d1 a b2)
      · exact (same_bad a b2).elim
    · rw [e]
      rcases d2 with ⟨b1, b2⟩ | ⟨b1, b2⟩
      · exact (same_bad b2 a).elim
      · unfold dueOf; rw [b1]; rfl
end Mine
end
open PySem PySem.W PyProof.Rows PySem.Calls
set_option linter.unusedVariables false
set_option maxRecDepth 100000
set_option maxHeartbeats 8000000
-- BLOCKS
theorem Mine.X.tw18175625642035378868 : True := trivial
theorem Mine.X.tw1307602107871917658 : True := trivial
theorem Mine.X.tw2415417551661889076 : True := trivial
theorem Mine.X.tw653346717940562739 : True := trivial
theorem Mine.X.tw466308643293511463 : True := trivial
theorem Mine.X.tw861263872712073978 : True := trivial
theorem Mine.X.tw16362871809332661405 : True := trivial
theorem Mine.X.tw8222650728635436813 : True := trivial
theorem Mine.X.tw3460097100617677358 : True := trivial
theorem Mine.X.tw14079487646753323945 : True := trivial
theorem Mine.X.tw12915348977427581053 : True := trivial
theorem Mine.X.tw12941504648020182076 : True := trivial
theorem Mine.X.tw10444551433673131920 : True := trivial
theorem Mine.X.tw13375058555843564539 : True := trivial
theorem Mine.X.tw10828831234187169881 : True := trivial
theorem Mine.X.tw16002155981644912277 : True := trivial
theorem Mine.X.tw2639500797279104738 : True := trivial
theorem Mine.X.tw16634584968994723289 : True := trivial
theorem Mine.X.tw3252166495817136282 : True := trivial
theorem Mine.X.tw13294508473413696110 : True := trivial
theorem Mine.X.tw9650267933596204220 : True := trivial
theorem Mine.X.tw17154329587869820569 : True := trivial
theorem Mine.X.tw1167183193363936940 : True := trivial
theorem Mine.X.tw12269427614276095584 : True := trivial
theorem Mine.X.tw4692594210318249552 : True := trivial
theorem Mine.X.tw3383251880651505811 : True := trivial
theorem Mine.X.tw8966540144201769366 : True := trivial
theorem Mine.X.tw15790196003895842475 : True := trivial
theorem Mine.X.tw4365495864594363492 : True := trivial
theorem Mine.X.tw7896837427191650641 : True := trivial
theorem Mine.X.tw418279353313321958 : True := trivial
theorem Mine.X.tw15272053048409357215 : True := trivial
theorem Mine.X.tw17902138361269780394 : True := trivial
theorem Mine.X.tw742617098822923729 : True := trivial
theorem Mine.X.tw12053910374535080941 : True := trivial
theorem Mine.X.tw10939720022294020308 : True := trivial
theorem Mine.X.tw8790946817518334571 : True := trivial
theorem Mine.X.tw7829241143021081011 : True := trivial
theorem Mine.X.tw10312869860076134833 : True := trivial
theorem Mine.X.tw12382787603291471551 : True := trivial
theorem Mine.X.tw15672173113676624223 : True := trivial
theorem Mine.X.tw15472740739025597472 : True := trivial
theorem Mine.X.tw17977299165890495753 : True := trivial
theorem Mine.X.tw4634465913056614851 : True := trivial
theorem Mine.X.tw13179936131017846627 : True := trivial
theorem Mine.X.tw4697559638372092354 : True := trivial
theorem Mine.X.tw14612911157623285501 : True := trivial
theorem Mine.X.tw5884338937647298217 : True := trivial
theorem Mine.X.tw4502868568907333073 : True := trivial
theorem Mine.X.tw16766655104471817287 : True := trivial
theorem Mine.X.tw2491332794192604249 : True := trivial
theorem Mine.X.tw1069791240174439718 : True := trivial
theorem Mine.X.tw13249707302856205726 : True := trivial
theorem Mine.X.tw8451029917128796143 : True := trivial
theorem Mine.X.tw8632108778217967925 : True := trivial
theorem Mine.X.tw4308493021997430729 : True := trivial
theorem Mine.X.tw1029739817297215153 : True := trivial
-- HEAD
set_option Elab.async true
theorem Mine.X : PySem.Challenge.rw_ti0036_01.Holds := by
  w_on
  o_law
  o_head (kmHook Mine.K0 Mine.as0 (fun _ => by kernel_rfl) [164])
  case hw => w_witness2
  intro w s₀ s₁ mg mb G Y fa o pm cd doc dV kV ho hd hcd hD hmg hg args vals as hpre hlay hrd hwl hlo
  have KX := km_in_of Y
  km_tabs Y
  have X := (Ground.X G).1
  have V := (Ground.X G).2
  refine Ground.open G ?_
  intro T B D TE TW
  try (refine guard_noD D (by decide +kernel) ?_; clear D)
  wrow_args hpre hlay hrd hwl hlo
  clear hd hD hcd ho
  rename_i l _ _ hlay _ _ _ _ L vs _ hLL _ w1 _ hI _ hlen _
  have hP : s₁.heap.get? 164 = some (tabObj #[]) := hT8 164 (by decide)
  have hfa : fa = 208 := by
    have h1 : mg (Str.ofString "law") = some (.ref fa) := hmg
    have h2 := mg_of KX T.g (n := Str.ofString "law") (v := .ref 208) (by kernel_rfl)
    rw [h1] at h2
    exact Value.ref.inj (Option.some.inj h2)
  subst hfa
  clear hmg
  letI bd : Mine.Bd := ⟨fun a => a ≠ 164 ∧ ∃ o, s₁.heap.get? a = some o⟩
  have n164 : (Mine.K0 w.params).lookup 164 = none := by kernel_rfl
  have W0 : Mine.Wd0 (Mine.cx w mg mb) s₁.heap := by
    obtain ⟨bm, ob, e1, e2, e3, e4, e5, e6⟩ := T.bmain
    refine ⟨KX, fun a o e => ⟨fun q => ?_, ⟨o, KX a o e⟩⟩, fun a ha => ha.2, T.g, T.b, T.builtins, T.nolimit, T.seer (by kernel_rfl), rfl, bm, ob, e1, e2, fun q => ?_, e3, e4, e5, e6⟩
    · rw [q] at e; exact absurd (n164.symm.trans e) (fun z => nomatch z)
    · obtain ⟨o', es, ep, q1, q2, _⟩ := T.g
      rw [q, q1] at e3; cases e3; rw [q2] at e6; cases e6
  have hp164 : ¬ Mine.Bd.p 164 := fun q => q.1 rfl
  have WT := Mine.wd0_noT W0 hp164 hP
  obtain ⟨ts, code, ws, b0, ss, fars, ok⟩ := Mine.plain (l := l) (by omega) hlay
  have hcall := Mine.c_law (w := w) (mg := mg) (mb := mb) (n := 0) (l := l) (by unfold sizeLine; omega) ok
  have hrd : ∃ as, Mine.RdAll s₁.heap [.ref L] [.list (Mine.intD l)] as := by
    obtain ⟨xs, hxs⟩ : ∃ xs, ofPy (PyData.list (List.map PyData.int l)) = WData.list xs := ⟨_, rfl⟩
    rw [hxs] at w1
    cases w1 with | list e r =>
    obtain ⟨o', q1, _, n', q2⟩ := hLL
    rw [e] at q1; cases q1
    injection q2 with q3 q4
    rw [q3] at e
    exact ⟨_, .cons (.list ⟨_, e⟩ (Mine.rd_ints hI)) .nil⟩
  obtain ⟨as, hrd⟩ := hrd
  obtain ⟨oc, vc, _, _, _, _, _, _, _, c1, c2, c3, c4, _⟩ := Mine.code166 _ W0
  refine hcall callerA s₁ _ _ [.ref L] as rfl (by decide) (by decide) ⟨W0, [], rfl, fun _ h => nomatch h⟩ hP WT hrd fun v as' s' k r t => ?_
  cases r
  have hold : OldK s₁.heap s'.heap := Mine.oldK_of (fun a o e h => ⟨h, o, e⟩) c1 c2 c3 c4 hP k t
  obtain ⟨h', tk, rfl, _⟩ := k
  refine ⟨.inl ⟨_, .bool true, [], rfl, fun _ => ?_, .bool true, ?_, fun _ => ⟨.nil, fun _ h => nomatch h⟩⟩, hold, rfl, ?_⟩
  · rfl
  · kernel_rfl
  · show AllBare s₁.gens
    rw [hg]; intro y hy; simp at hy
set_option Elab.async false
theorem PySem.Challenge.cw_ti0036_01_holds : PySem.Challenge.rw_ti0036_01.Holds :=
  Mine.X
