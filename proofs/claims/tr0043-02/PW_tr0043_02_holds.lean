import PyProof.Rows.All
import Wide.All
import OpenK.AllK
import Wide.FinOn
import PySem.Challenge.RW_tr0043_02
open PySem PySem.W PyProof.Rows
set_option Elab.async false
set_option compiler.extract_closed false
set_option maxRecDepth 100000
set_option maxHeartbeats 8000000


namespace Mine
noncomputable def hkBody : Stmt → List Stmt
  | .FunctionDef _ _ b _ _ _ _ _ _ _ => b
  | _ => []
noncomputable def hkArgs : Stmt → Arguments
  | .FunctionDef _ a _ _ _ _ _ _ _ _ => a
  | _ => ⟨[], [], none, [], [], none, []⟩
noncomputable def hkScope : Stmt → Scope
  | .FunctionDef _ _ _ _ _ _ s _ _ _ => s
  | _ => { kind := .function, names := [], isGenerator := false, isCoroutine := false, more := [] }
noncomputable def hkIn : Stmt → List Stmt
  | .ClassDef _ _ _ b _ _ _ _ _ _ _ => b
  | _ => []
noncomputable def hkSt (i : Nat) : Stmt := PySem.Challenge.pw_tr0043_02.main.body.getD i (.Pass ⟨0, 0, 0, 0⟩)
noncomputable def hkCs (i j : Nat) : Stmt := (hkIn (hkSt i)).getD j (.Pass ⟨0, 0, 0, 0⟩)
/-- the written part of the heap behind the module's run: the objects that the law can come to -/
noncomputable def wPart : Params → Frag := by
  refine (?f0 : (?a0 = hkArgs (hkSt 0)) → Params → Frag) ?h0
  case h0 => (conv => rhs; whnf); try exact rfl
  intro _
  refine (?f1 : (?b0 = hkBody (hkSt 0)) → Params → Frag) ?h1
  case h1 => (conv => rhs; whnf); try exact rfl
  intro _
  refine (?f2 : (?s0 = hkScope (hkSt 0)) → Params → Frag) ?h2
  case h2 => (conv => rhs; whnf); try exact rfl
  intro _
  refine (?f3 : (?a1 = hkArgs (hkCs 2 0)) → Params → Frag) ?h3
  case h3 => (conv => rhs; whnf); try exact rfl
  intro _
  refine (?f4 : (?b1 = hkBody (hkCs 2 0)) → Params → Frag) ?h4
  case h4 => (conv => rhs; whnf); try exact rfl
  intro _
  refine (?f5 : (?s1 = hkScope (hkCs 2 0)) → Params → Frag) ?h5
  case h5 => (conv => rhs; whnf); try exact rfl
  intro _
  refine (?f6 : (?a2 = hkArgs (hkCs 2 1)) → Params → Frag) ?h6
  case h6 => (conv => rhs; whnf); try exact rfl
  intro _
  refine (?f7 : (?b2 = hkBody (hkCs 2 1)) → Params → Frag) ?h7
  case h7 => (conv => rhs; whnf); try exact rfl
  intro _
  refine (?f8 : (?s2 = hkScope (hkCs 2 1)) → Params → Frag) ?h8
  case h8 => (conv => rhs; whnf); try exact rfl
  intro _
  refine (?f9 : (?a3 = hkArgs (hkCs 2 2)) → Params → Frag) ?h9
  case h9 => (conv => rhs; whnf); try exact rfl
  intro _
  refine (?f10 : (?b3 = hkBody (hkCs 2 2)) → Params → Frag) ?h10
  case h10 => (conv => rhs; whnf); try exact rfl
  intro _
  refine (?f11 : (?s3 = hkScope (hkCs 2 2)) → Params → Frag) ?h11
  case h11 => (conv => rhs; whnf); try exact rfl
  intro _
  refine (?f12 : (?a4 = hkArgs (hkCs 2 3)) → Params → Frag) ?h12
  case h12 => (conv => rhs; whnf); try exact rfl
  intro _
  refine (?f13 : (?b4 = hkBody (hkCs 2 3)) → Params → Frag) ?h13
  case h13 => (conv => rhs; whnf); try exact rfl
  intro _
  refine (?f14 : (?s4 = hkScope (hkCs 2 3)) → Params → Frag) ?h14
  case h14 => (conv => rhs; whnf); try exact rfl
  intro _
  refine (?f15 : (?a5 = hkArgs (hkSt 7)) → Params → Frag) ?h15
  case h15 => (conv => rhs; whnf); try exact rfl
  intro _
  refine (?f16 : (?b5 = hkBody (hkSt 7)) → Params → Frag) ?h16
  case h16 => (conv => rhs; whnf); try exact rfl
  intro _
  refine (?f17 : (?s5 = hkScope (hkSt 7)) → Params → Frag) ?h17
  case h17 => (conv => rhs; whnf); try exact rfl
  intro _
  refine (?f18 : (?a6 = hkArgs (hkSt 8)) → Params → Frag) ?h18
  case h18 => (conv => rhs; whnf); try exact rfl
  intro _
  refine (?f19 : (?b6 = hkBody (hkSt 8)) → Params → Frag) ?h19
  case h19 => (conv => rhs; whnf); try exact rfl
  intro _
  refine (?f20 : (?s6 = hkScope (hkSt 8)) → Params → Frag) ?h20
  case h20 => (conv => rhs; whnf); try exact rfl
  intro _
  refine (?f21 : (?a7 = hkArgs (hkSt 59)) → Params → Frag) ?h21
  case h21 => (conv => rhs; whnf); try exact rfl
  intro _
  refine (?f22 : (?b7 = hkBody (hkSt 59)) → Params → Frag) ?h22
  case h22 => (conv => rhs; whnf); try exact rfl
  intro _
  refine (?f23 : (?s7 = hkScope (hkSt 59)) → Params → Frag) ?h23
  case h23 => (conv => rhs; whnf); try exact rfl
  intro _
  refine (?f24 : (?a8 = hkArgs (hkSt 60)) → Params → Frag) ?h24
  case h24 => (conv => rhs; whnf); try exact rfl
  intro _
  refine (?f25 : (?b8 = hkBody (hkSt 60)) → Params → Frag) ?h25
  case h25 => (conv => rhs; whnf); try exact rfl
  intro _
  refine (?f26 : (?s8 = hkScope (hkSt 60)) → Params → Frag) ?h26
  case h26 => (conv => rhs; whnf); try exact rfl
  intro _
  refine (?f27 : (?a9 = hkArgs (hkSt 61)) → Params → Frag) ?h27
  case h27 => (conv => rhs; whnf); try exact rfl
  intro _
  refine (?f28 : (?b9 = hkBody (hkSt 61)) → Params → Frag) ?h28
  case h28 => (conv => rhs; whnf); try exact rfl
  intro _
  refine (?f29 : (?s9 = hkScope (hkSt 61)) → Params → Frag) ?h29
  case h29 => (conv => rhs; whnf); try exact rfl
  intro _
  refine (?f30 : (?a10 = hkArgs (hkSt 62)) → Params → Frag) ?h30
  case h30 => (conv => rhs; whnf); try exact rfl
  intro _
  refine (?f31 : (?b10 = hkBody (hkSt 62)) → Params → Frag) ?h31
  case h31 => (conv => rhs; whnf); try exact rfl
  intro _
  refine (?f32 : (?s10 = hkScope (hkSt 62)) → Params → Frag) ?h32
  case h32 => (conv => rhs; whnf); try exact rfl
  intro _
  refine (?f33 : (?a11 = hkArgs (hkSt 63)) → Params → Frag) ?h33
  case h33 => (conv => rhs; whnf); try exact rfl
  intro _
  refine (?f34 : (?b11 = hkBody (hkSt 63)) → Params → Frag) ?h34
  case h34 => (conv => rhs; whnf); try exact rfl
  intro _
  refine (?f35 : (?s11 = hkScope (hkSt 63)) → Params → Frag) ?h35
  case h35 => (conv => rhs; whnf); try exact rfl
  intro _
  exact fun P =>
    (nat_lit 2,
      { cls := PySem.Value.none,
        data :=
          PySem.Data.dict
            #[{ hash := PySem.PyData.keyHash P (PySem.Str.ofString "type.__subclasses__.Exception.0"),
                key := PySem.Value.str (PySem.Str.ofString "type.__subclasses__.Exception.0") 272,
                val := PySem.Value.int 73 0 },
              { hash := PySem.PyData.keyHash P (PySem.Str.ofString "type.__subclasses__.Exception.n"),
                key := PySem.Value.str (PySem.Str.ofString "type.__subclasses__.Exception.n") 273,
                val := PySem.Value.int 1 0 }]
            2 }) ::
    (nat_lit 3,
      { cls := PySem.Value.type "dict",
        data :=
          PySem.Data.dict
            #[{ hash := PySem.PyData.keyHash P (PySem.Str.ofString "__name__"),
                key := PySem.Value.str (PySem.Str.ofString "__name__") 165,
                val := PySem.Value.str (PySem.Str.ofString "law_tr0043_02") 525 },
              { hash := PySem.PyData.keyHash P (PySem.Str.ofString "__doc__"),
                key := PySem.Value.str (PySem.Str.ofString "__doc__") 166, val := PySem.Value.none },
              { hash := PySem.PyData.keyHash P (PySem.Str.ofString "__package__"),
                key := PySem.Value.str (PySem.Str.ofString "__package__") 167, val := PySem.Value.none },
              { hash := PySem.PyData.keyHash P (PySem.Str.ofString "__loader__"),
                key := PySem.Value.str (PySem.Str.ofString "__loader__") 168,
                val := PySem.Value.builtin "__main__.__loader__#opaque" },
              { hash := PySem.PyData.keyHash P (PySem.Str.ofString "__spec__"),
                key := PySem.Value.str (PySem.Str.ofString "__spec__") 169, val := PySem.Value.none },
              { hash := PySem.PyData.keyHash P (PySem.Str.ofString "__annotations__"),
                key := PySem.Value.str (PySem.Str.ofString "__annotations__") 170, val := PySem.Value.ref 6 },
              { hash := PySem.PyData.keyHash P (PySem.Str.ofString "__builtins__"),
                key := PySem.Value.str (PySem.Str.ofString "__builtins__") 171, val := PySem.Value.ref 4 },
              { hash := PySem.PyData.keyHash P (PySem.Str.ofString "__file__"),
                key := PySem.Value.str (PySem.Str.ofString "__file__") 173,
                val := PySem.Value.str (PySem.Str.ofString "/claim/cut.py") 172 },
              { hash := PySem.PyData.keyHash P (PySem.Str.ofString "__cached__"),
                key := PySem.Value.str (PySem.Str.ofString "__cached__") 174, val := PySem.Value.none },
              { hash := PySem.PyData.keyHash P (PySem.Str.ofString "_wall"),
                key := PySem.Value.str (PySem.Str.ofString "_wall") 193, val := PySem.Value.ref 21 },
              { hash := PySem.PyData.keyHash P (PySem.Str.ofString "_netrclex"),
                key := PySem.Value.str (PySem.Str.ofString "_netrclex") 253, val := PySem.Value.ref 59 },
              { hash := PySem.PyData.keyHash P (PySem.Str.ofString "Error"),
                key := PySem.Value.str (PySem.Str.ofString "Error") 275, val := PySem.Value.ref 73 },
              { hash := PySem.PyData.keyHash P (PySem.Str.ofString "error_reply"),
                key := PySem.Value.str (PySem.Str.ofString "error_reply") 291, val := PySem.Value.ref 86 },
              { hash := PySem.PyData.keyHash P (PySem.Str.ofString "error_proto"),
                key := PySem.Value.str (PySem.Str.ofString "error_proto") 307, val := PySem.Value.ref 98 },
              { hash := PySem.PyData.keyHash P (PySem.Str.ofString "parse229"),
                key := PySem.Value.str (PySem.Str.ofString "parse229") 320, val := PySem.Value.ref 107 },
              { hash := PySem.PyData.keyHash P (PySem.Str.ofString "parse257"),
                key := PySem.Value.str (PySem.Str.ofString "parse257") 331, val := PySem.Value.ref 114 },
              { hash := PySem.PyData.keyHash P (PySem.Str.ofString "LPAR"),
                key := PySem.Value.str (PySem.Str.ofString "LPAR") 333, val := PySem.Value.int 7 332 },
              { hash := PySem.PyData.keyHash P (PySem.Str.ofString "RPAR"),
                key := PySem.Value.str (PySem.Str.ofString "RPAR") 335, val := PySem.Value.int 8 334 },
              { hash := PySem.PyData.keyHash P (PySem.Str.ofString "LSQB"),
                key := PySem.Value.str (PySem.Str.ofString "LSQB") 337, val := PySem.Value.int 9 336 },
              { hash := PySem.PyData.keyHash P (PySem.Str.ofString "RSQB"),
                key := PySem.Value.str (PySem.Str.ofString "RSQB") 339, val := PySem.Value.int 10 338 },
              { hash := PySem.PyData.keyHash P (PySem.Str.ofString "COLON"),
                key := PySem.Value.str (PySem.Str.ofString "COLON") 341, val := PySem.Value.int 11 340 },
              { hash := PySem.PyData.keyHash P (PySem.Str.ofString "COMMA"),
                key := PySem.Value.str (PySem.Str.ofString "COMMA") 343, val := PySem.Value.int 12 342 },
              { hash := PySem.PyData.keyHash P (PySem.Str.ofString "SEMI"),
                key := PySem.Value.str (PySem.Str.ofString "SEMI") 345, val := PySem.Value.int 13 344 },
              { hash := PySem.PyData.keyHash P (PySem.Str.ofString "PLUS"),
                key := PySem.Value.str (PySem.Str.ofString "PLUS") 347, val := PySem.Value.int 14 346 },
              { hash := PySem.PyData.keyHash P (PySem.Str.ofString "MINUS"),
                key := PySem.Value.str (PySem.Str.ofString "MINUS") 349, val := PySem.Value.int 15 348 },
              { hash := PySem.PyData.keyHash P (PySem.Str.ofString "STAR"),
                key := PySem.Value.str (PySem.Str.ofString "STAR") 351, val := PySem.Value.int 16 350 },
              { hash := PySem.PyData.keyHash P (PySem.Str.ofString "SLASH"),
                key := PySem.Value.str (PySem.Str.ofString "SLASH") 353, val := PySem.Value.int 17 352 },
              { hash := PySem.PyData.keyHash P (PySem.Str.ofString "VBAR"),
                key := PySem.Value.str (PySem.Str.ofString "VBAR") 355, val := PySem.Value.int 18 354 },
              { hash := PySem.PyData.keyHash P (PySem.Str.ofString "AMPER"),
                key := PySem.Value.str (PySem.Str.ofString "AMPER") 357, val := PySem.Value.int 19 356 },
              { hash := PySem.PyData.keyHash P (PySem.Str.ofString "LESS"),
                key := PySem.Value.str (PySem.Str.ofString "LESS") 359, val := PySem.Value.int 20 358 },
              { hash := PySem.PyData.keyHash P (PySem.Str.ofString "GREATER"),
                key := PySem.Value.str (PySem.Str.ofString "GREATER") 361, val := PySem.Value.int 21 360 },
              { hash := PySem.PyData.keyHash P (PySem.Str.ofString "EQUAL"),
                key := PySem.Value.str (PySem.Str.ofString "EQUAL") 363, val := PySem.Value.int 22 362 },
              { hash := PySem.PyData.keyHash P (PySem.Str.ofString "DOT"),
                key := PySem.Value.str (PySem.Str.ofString "DOT") 365, val := PySem.Value.int 23 364 },
              { hash := PySem.PyData.keyHash P (PySem.Str.ofString "PERCENT"),
                key := PySem.Value.str (PySem.Str.ofString "PERCENT") 367, val := PySem.Value.int 24 366 },
              { hash := PySem.PyData.keyHash P (PySem.Str.ofString "LBRACE"),
                key := PySem.Value.str (PySem.Str.ofString "LBRACE") 369, val := PySem.Value.int 25 368 },
              { hash := PySem.PyData.keyHash P (PySem.Str.ofString "RBRACE"),
                key := PySem.Value.str (PySem.Str.ofString "RBRACE") 371, val := PySem.Value.int 26 370 },
              { hash := PySem.PyData.keyHash P (PySem.Str.ofString "EQEQUAL"),
                key := PySem.Value.str (PySem.Str.ofString "EQEQUAL") 373, val := PySem.Value.int 27 372 },
              { hash := PySem.PyData.keyHash P (PySem.Str.ofString "NOTEQUAL"),
                key := PySem.Value.str (PySem.Str.ofString "NOTEQUAL") 375, val := PySem.Value.int 28 374 },
              { hash := PySem.PyData.keyHash P (PySem.Str.ofString "LESSEQUAL"),
                key := PySem.Value.str (PySem.Str.ofString "LESSEQUAL") 377, val := PySem.Value.int 29 376 },
              { hash := PySem.PyData.keyHash P (PySem.Str.ofString "GREATEREQUAL"),
                key := PySem.Value.str (PySem.Str.ofString "GREATEREQUAL") 379, val := PySem.Value.int 30 378 },
              { hash := PySem.PyData.keyHash P (PySem.Str.ofString "TILDE"),
                key := PySem.Value.str (PySem.Str.ofString "TILDE") 381, val := PySem.Value.int 31 380 },
              { hash := PySem.PyData.keyHash P (PySem.Str.ofString "CIRCUMFLEX"),
                key := PySem.Value.str (PySem.Str.ofString "CIRCUMFLEX") 383, val := PySem.Value.int 32 382 },
              { hash := PySem.PyData.keyHash P (PySem.Str.ofString "LEFTSHIFT"),
                key := PySem.Value.str (PySem.Str.ofString "LEFTSHIFT") 385, val := PySem.Value.int 33 384 },
              { hash := PySem.PyData.keyHash P (PySem.Str.ofString "RIGHTSHIFT"),
                key := PySem.Value.str (PySem.Str.ofString "RIGHTSHIFT") 387, val := PySem.Value.int 34 386 },
              { hash := PySem.PyData.keyHash P (PySem.Str.ofString "DOUBLESTAR"),
                key := PySem.Value.str (PySem.Str.ofString "DOUBLESTAR") 389, val := PySem.Value.int 35 388 },
              { hash := PySem.PyData.keyHash P (PySem.Str.ofString "PLUSEQUAL"),
                key := PySem.Value.str (PySem.Str.ofString "PLUSEQUAL") 391, val := PySem.Value.int 36 390 },
              { hash := PySem.PyData.keyHash P (PySem.Str.ofString "MINEQUAL"),
                key := PySem.Value.str (PySem.Str.ofString "MINEQUAL") 393, val := PySem.Value.int 37 392 },
              { hash := PySem.PyData.keyHash P (PySem.Str.ofString "STAREQUAL"),
                key := PySem.Value.str (PySem.Str.ofString "STAREQUAL") 395, val := PySem.Value.int 38 394 },
              { hash := PySem.PyData.keyHash P (PySem.Str.ofString "SLASHEQUAL"),
                key := PySem.Value.str (PySem.Str.ofString "SLASHEQUAL") 397, val := PySem.Value.int 39 396 },
              { hash := PySem.PyData.keyHash P (PySem.Str.ofString "PERCENTEQUAL"),
                key := PySem.Value.str (PySem.Str.ofString "PERCENTEQUAL") 399, val := PySem.Value.int 40 398 },
              { hash := PySem.PyData.keyHash P (PySem.Str.ofString "AMPEREQUAL"),
                key := PySem.Value.str (PySem.Str.ofString "AMPEREQUAL") 401, val := PySem.Value.int 41 400 },
              { hash := PySem.PyData.keyHash P (PySem.Str.ofString "VBAREQUAL"),
                key := PySem.Value.str (PySem.Str.ofString "VBAREQUAL") 403, val := PySem.Value.int 42 402 },
              { hash := PySem.PyData.keyHash P (PySem.Str.ofString "CIRCUMFLEXEQUAL"),
                key := PySem.Value.str (PySem.Str.ofString "CIRCUMFLEXEQUAL") 405, val := PySem.Value.int 43 404 },
              { hash := PySem.PyData.keyHash P (PySem.Str.ofString "LEFTSHIFTEQUAL"),
                key := PySem.Value.str (PySem.Str.ofString "LEFTSHIFTEQUAL") 407, val := PySem.Value.int 44 406 },
              { hash := PySem.PyData.keyHash P (PySem.Str.ofString "RIGHTSHIFTEQUAL"),
                key := PySem.Value.str (PySem.Str.ofString "RIGHTSHIFTEQUAL") 409, val := PySem.Value.int 45 408 },
              { hash := PySem.PyData.keyHash P (PySem.Str.ofString "DOUBLESTAREQUAL"),
                key := PySem.Value.str (PySem.Str.ofString "DOUBLESTAREQUAL") 411, val := PySem.Value.int 46 410 },
              { hash := PySem.PyData.keyHash P (PySem.Str.ofString "DOUBLESLASH"),
                key := PySem.Value.str (PySem.Str.ofString "DOUBLESLASH") 413, val := PySem.Value.int 47 412 },
              { hash := PySem.PyData.keyHash P (PySem.Str.ofString "DOUBLESLASHEQUAL"),
                key := PySem.Value.str (PySem.Str.ofString "DOUBLESLASHEQUAL") 415, val := PySem.Value.int 48 414 },
              { hash := PySem.PyData.keyHash P (PySem.Str.ofString "AT"),
                key := PySem.Value.str (PySem.Str.ofString "AT") 417, val := PySem.Value.int 49 416 },
              { hash := PySem.PyData.keyHash P (PySem.Str.ofString "ATEQUAL"),
                key := PySem.Value.str (PySem.Str.ofString "ATEQUAL") 419, val := PySem.Value.int 50 418 },
              { hash := PySem.PyData.keyHash P (PySem.Str.ofString "RARROW"),
                key := PySem.Value.str (PySem.Str.ofString "RARROW") 421, val := PySem.Value.int 51 420 },
              { hash := PySem.PyData.keyHash P (PySem.Str.ofString "ELLIPSIS"),
                key := PySem.Value.str (PySem.Str.ofString "ELLIPSIS") 423, val := PySem.Value.int 52 422 },
              { hash := PySem.PyData.keyHash P (PySem.Str.ofString "COLONEQUAL"),
                key := PySem.Value.str (PySem.Str.ofString "COLONEQUAL") 425, val := PySem.Value.int 53 424 },
              { hash := PySem.PyData.keyHash P (PySem.Str.ofString "EXCLAMATION"),
                key := PySem.Value.str (PySem.Str.ofString "EXCLAMATION") 427, val := PySem.Value.int 54 426 },
              { hash := PySem.PyData.keyHash P (PySem.Str.ofString "EXACT_TOKEN_TYPES"),
                key := PySem.Value.str (PySem.Str.ofString "EXACT_TOKEN_TYPES") 524, val := PySem.Value.ref 115 },
              { hash := PySem.PyData.keyHash P (PySem.Str.ofString "_law_lexer"),
                key := PySem.Value.str (PySem.Str.ofString "_law_lexer") 537, val := PySem.Value.ref 124 },
              { hash := PySem.PyData.keyHash P (PySem.Str.ofString "_law_word"),
                key := PySem.Value.str (PySem.Str.ofString "_law_word") 543, val := PySem.Value.ref 129 },
              { hash := PySem.PyData.keyHash P (PySem.Str.ofString "_law_by_brackets"),
                key := PySem.Value.str (PySem.Str.ofString "_law_by_brackets") 549, val := PySem.Value.ref 134 },
              { hash := PySem.PyData.keyHash P (PySem.Str.ofString "_law_by_count"),
                key := PySem.Value.str (PySem.Str.ofString "_law_by_count") 567, val := PySem.Value.ref 141 },
              { hash := PySem.PyData.keyHash P (PySem.Str.ofString "law"),
                key := PySem.Value.str (PySem.Str.ofString "law") 573, val := PySem.Value.ref 146 }]
            70 }) ::
    (nat_lit 6, { cls := PySem.Value.type "dict", data := PySem.Data.dict #[] }) ::
    (nat_lit 15, { cls := PySem.Value.type "tuple", data := PySem.Data.seq #[] }) ::
    (nat_lit 17, { cls := PySem.Value.type "tuple", data := PySem.Data.seq #[PySem.Value.str (PySem.Str.ofString "k") 190] }) ::
    (nat_lit 18, { cls := PySem.Value.type "tuple", data := PySem.Data.seq #[] }) ::
    (nat_lit 20,
      { cls := PySem.Value.type "code",
        data :=
          PySem.Data.fields
            #[PySem.Value.str (PySem.Str.ofString "_wall") 187, PySem.Value.str (PySem.Str.ofString "_wall") 188,
              PySem.Value.str (PySem.Str.ofString "/claim/cut.py") 189, PySem.Value.int 1 0, PySem.Value.int 1 0,
              PySem.Value.int 0 0, PySem.Value.int 0 0, PySem.Value.int 3 0, PySem.Value.ref 15,
              PySem.Value.bool Bool.true, PySem.Value.int 181 0, PySem.Value.ref 16, PySem.Value.none,
              PySem.Value.ref 17, PySem.Value.ref 18, PySem.Value.ref 19, PySem.Value.int 191 0, PySem.Value.int 1 0,
              PySem.Value.str (PySem.Str.ofString "/claim/cut.py") 192] }) ::
    (nat_lit 21,
      { cls := PySem.Value.type "function",
        data :=
          PySem.Data.func
            { name := PySem.Str.ofString "_wall", qualname := PySem.Str.ofString "_wall",
              params := ?a0, body := PySem.FuncBody.stmts ?b0, scope := ?s0,
              globals := 3, closure := [], defaults := PySem.Value.none, kwdefaults := PySem.Value.none,
              pyModule := PySem.Value.str (PySem.Str.ofString "__main__") 164, code := PySem.Value.ref 20 } }) ::
    (nat_lit 29, { cls := PySem.Value.type "tuple", data := PySem.Data.seq #[] }) ::
    (nat_lit 31,
      { cls := PySem.Value.type "tuple",
        data :=
          PySem.Data.seq
            #[PySem.Value.str (PySem.Str.ofString "self") 211, PySem.Value.str (PySem.Str.ofString "fp") 212] }) ::
    (nat_lit 32, { cls := PySem.Value.type "tuple", data := PySem.Data.seq #[] }) ::
    (nat_lit 34,
      { cls := PySem.Value.type "code",
        data :=
          PySem.Data.fields
            #[PySem.Value.str (PySem.Str.ofString "__init__") 208,
              PySem.Value.str (PySem.Str.ofString "_netrclex.__init__") 209,
              PySem.Value.str (PySem.Str.ofString "/claim/cut.py") 210, PySem.Value.int 7 0, PySem.Value.int 2 0,
              PySem.Value.int 0 0, PySem.Value.int 0 0, PySem.Value.int 3 0, PySem.Value.ref 29,
              PySem.Value.bool Bool.true, PySem.Value.int 181 0, PySem.Value.ref 30, PySem.Value.none,
              PySem.Value.ref 31, PySem.Value.ref 32, PySem.Value.ref 33, PySem.Value.int 213 0, PySem.Value.int 7 0,
              PySem.Value.str (PySem.Str.ofString "/claim/cut.py") 214] }) ::
    (nat_lit 35,
      { cls := PySem.Value.type "function",
        data :=
          PySem.Data.func
            { name := PySem.Str.ofString "__init__", qualname := PySem.Str.ofString "_netrclex.__init__",
              params := ?a1, body := PySem.FuncBody.stmts ?b1, scope := ?s1,
              globals := 3, closure := [], defaults := PySem.Value.none, kwdefaults := PySem.Value.none,
              pyModule := PySem.Value.str (PySem.Str.ofString "cpy313.netrc") 194, code := PySem.Value.ref 34 } }) ::
    (nat_lit 36, { cls := PySem.Value.type "tuple", data := PySem.Data.seq #[] }) ::
    (nat_lit 38,
      { cls := PySem.Value.type "tuple",
        data :=
          PySem.Data.seq
            #[PySem.Value.str (PySem.Str.ofString "self") 219, PySem.Value.str (PySem.Str.ofString "ch") 220] }) ::
    (nat_lit 39, { cls := PySem.Value.type "tuple", data := PySem.Data.seq #[] }) ::
    (nat_lit 41,
      { cls := PySem.Value.type "code",
        data :=
          PySem.Data.fields
            #[PySem.Value.str (PySem.Str.ofString "_read_char") 216,
              PySem.Value.str (PySem.Str.ofString "_netrclex._read_char") 217,
              PySem.Value.str (PySem.Str.ofString "/claim/cut.py") 218, PySem.Value.int 13 0, PySem.Value.int 1 0,
              PySem.Value.int 0 0, PySem.Value.int 0 0, PySem.Value.int 3 0, PySem.Value.ref 36,
              PySem.Value.bool Bool.true, PySem.Value.int 181 0, PySem.Value.ref 37, PySem.Value.none,
              PySem.Value.ref 38, PySem.Value.ref 39, PySem.Value.ref 40, PySem.Value.int 221 0, PySem.Value.int 13 0,
              PySem.Value.str (PySem.Str.ofString "/claim/cut.py") 222] }) ::
    (nat_lit 42,
      { cls := PySem.Value.type "function",
        data :=
          PySem.Data.func
            { name := PySem.Str.ofString "_read_char", qualname := PySem.Str.ofString "_netrclex._read_char",
              params := ?a2, body := PySem.FuncBody.stmts ?b2, scope := ?s2,
              globals := 3, closure := [], defaults := PySem.Value.none, kwdefaults := PySem.Value.none,
              pyModule := PySem.Value.str (PySem.Str.ofString "cpy313.netrc") 194, code := PySem.Value.ref 41 } }) ::
    (nat_lit 43, { cls := PySem.Value.type "tuple", data := PySem.Data.seq #[] }) ::
    (nat_lit 45,
      { cls := PySem.Value.type "tuple",
        data :=
          PySem.Data.seq
            #[PySem.Value.str (PySem.Str.ofString "self") 227, PySem.Value.str (PySem.Str.ofString "token") 228,
              PySem.Value.str (PySem.Str.ofString "fiter") 229, PySem.Value.str (PySem.Str.ofString "ch") 230] }) ::
    (nat_lit 46, { cls := PySem.Value.type "tuple", data := PySem.Data.seq #[] }) ::
    (nat_lit 48,
      { cls := PySem.Value.type "code",
        data :=
          PySem.Data.fields
            #[PySem.Value.str (PySem.Str.ofString "get_token") 224,
              PySem.Value.str (PySem.Str.ofString "_netrclex.get_token") 225,
              PySem.Value.str (PySem.Str.ofString "/claim/cut.py") 226, PySem.Value.int 19 0, PySem.Value.int 1 0,
              PySem.Value.int 0 0, PySem.Value.int 0 0, PySem.Value.int 3 0, PySem.Value.ref 43,
              PySem.Value.bool Bool.true, PySem.Value.int 181 0, PySem.Value.ref 44, PySem.Value.none,
              PySem.Value.ref 45, PySem.Value.ref 46, PySem.Value.ref 47, PySem.Value.int 231 0, PySem.Value.int 19 0,
              PySem.Value.str (PySem.Str.ofString "/claim/cut.py") 232] }) ::
    (nat_lit 49,
      { cls := PySem.Value.type "function",
        data :=
          PySem.Data.func
            { name := PySem.Str.ofString "get_token", qualname := PySem.Str.ofString "_netrclex.get_token",
              params := ?a3, body := PySem.FuncBody.stmts ?b3, scope := ?s3,
              globals := 3, closure := [], defaults := PySem.Value.none, kwdefaults := PySem.Value.none,
              pyModule := PySem.Value.str (PySem.Str.ofString "cpy313.netrc") 194, code := PySem.Value.ref 48 } }) ::
    (nat_lit 50, { cls := PySem.Value.type "tuple", data := PySem.Data.seq #[] }) ::
    (nat_lit 52,
      { cls := PySem.Value.type "tuple",
        data :=
          PySem.Data.seq
            #[PySem.Value.str (PySem.Str.ofString "self") 237, PySem.Value.str (PySem.Str.ofString "token") 238] }) ::
    (nat_lit 53, { cls := PySem.Value.type "tuple", data := PySem.Data.seq #[] }) ::
    (nat_lit 55,
      { cls := PySem.Value.type "code",
        data :=
          PySem.Data.fields
            #[PySem.Value.str (PySem.Str.ofString "push_token") 234,
              PySem.Value.str (PySem.Str.ofString "_netrclex.push_token") 235,
              PySem.Value.str (PySem.Str.ofString "/claim/cut.py") 236, PySem.Value.int 46 0, PySem.Value.int 2 0,
              PySem.Value.int 0 0, PySem.Value.int 0 0, PySem.Value.int 3 0, PySem.Value.ref 50,
              PySem.Value.bool Bool.true, PySem.Value.int 181 0, PySem.Value.ref 51, PySem.Value.none,
              PySem.Value.ref 52, PySem.Value.ref 53, PySem.Value.ref 54, PySem.Value.int 239 0, PySem.Value.int 46 0,
              PySem.Value.str (PySem.Str.ofString "/claim/cut.py") 240] }) ::
    (nat_lit 56,
      { cls := PySem.Value.type "function",
        data :=
          PySem.Data.func
            { name := PySem.Str.ofString "push_token", qualname := PySem.Str.ofString "_netrclex.push_token",
              params := ?a4, body := PySem.FuncBody.stmts ?b4, scope := ?s4,
              globals := 3, closure := [], defaults := PySem.Value.none, kwdefaults := PySem.Value.none,
              pyModule := PySem.Value.str (PySem.Str.ofString "cpy313.netrc") 194, code := PySem.Value.ref 55 } }) ::
    (nat_lit 57,
      { cls := PySem.Value.type "tuple",
        data :=
          PySem.Data.seq
            #[PySem.Value.str (PySem.Str.ofString "instream") 242, PySem.Value.str (PySem.Str.ofString "lineno") 243,
              PySem.Value.str (PySem.Str.ofString "pushback") 244,
              PySem.Value.str (PySem.Str.ofString "whitespace") 245] }) ::
    (nat_lit 58,
      { cls := PySem.Value.type "dict",
        data :=
          PySem.Data.dict
            #[{ hash := PySem.PyData.keyHash P (PySem.Str.ofString "__module__"),
                key := PySem.Value.str (PySem.Str.ofString "__module__") 203,
                val := PySem.Value.str (PySem.Str.ofString "cpy313.netrc") 194 },
              { hash := PySem.PyData.keyHash P (PySem.Str.ofString "__firstlineno__"),
                key := PySem.Value.str (PySem.Str.ofString "__firstlineno__") 207, val := PySem.Value.int 5 206 },
              { hash := PySem.PyData.keyHash P (PySem.Str.ofString "__init__"),
                key := PySem.Value.str (PySem.Str.ofString "__init__") 215, val := PySem.Value.ref 35 },
              { hash := PySem.PyData.keyHash P (PySem.Str.ofString "_read_char"),
                key := PySem.Value.str (PySem.Str.ofString "_read_char") 223, val := PySem.Value.ref 42 },
              { hash := PySem.PyData.keyHash P (PySem.Str.ofString "get_token"),
                key := PySem.Value.str (PySem.Str.ofString "get_token") 233, val := PySem.Value.ref 49 },
              { hash := PySem.PyData.keyHash P (PySem.Str.ofString "push_token"),
                key := PySem.Value.str (PySem.Str.ofString "push_token") 241, val := PySem.Value.ref 56 },
              { hash := PySem.PyData.keyHash P (PySem.Str.ofString "__static_attributes__"),
                key := PySem.Value.str (PySem.Str.ofString "__static_attributes__") 246, val := PySem.Value.ref 57 },
              { hash := PySem.PyData.keyHash P (PySem.Str.ofString "__dict__"),
                key := PySem.Value.str (PySem.Str.ofString "__dict__") 248, val := PySem.Value.ref 60 },
              { hash := PySem.PyData.keyHash P (PySem.Str.ofString "__weakref__"),
                key := PySem.Value.str (PySem.Str.ofString "__weakref__") 250, val := PySem.Value.ref 61 },
              { hash := PySem.PyData.keyHash P (PySem.Str.ofString "__doc__"),
                key := PySem.Value.str (PySem.Str.ofString "__doc__") 251, val := PySem.Value.none }]
            4 }) ::
    (nat_lit 59,
      { cls := PySem.Value.type "type",
        data :=
          PySem.Data.cls
            { name := PySem.Str.ofString "_netrclex", bases := [PySem.Value.type "object"],
              mro := [PySem.Value.ref 59, PySem.Value.type "object"], ns := 58,
              qualname := PySem.Str.ofString "_netrclex" },
        slots :=
          #[Option.none, Option.none, Option.some (PySem.Value.str (PySem.Str.ofString "_netrclex") 196),
            Option.some (PySem.Value.str (PySem.Str.ofString "_netrclex") 204),
            Option.some (PySem.Value.builtin "object.__new__"), Option.some (PySem.Value.bool Bool.true)] }) ::
    (nat_lit 60,
      { cls := PySem.Value.type "getset_descriptor",
        data :=
          PySem.Data.fields
            #[PySem.Value.str (PySem.Str.ofString "__dict__") 247, PySem.Value.ref 59,
              PySem.Value.builtin "function.__dict__", PySem.Value.builtin "function.__dict__#set"] }) ::
    (nat_lit 61,
      { cls := PySem.Value.type "getset_descriptor",
        data :=
          PySem.Data.fields
            #[PySem.Value.str (PySem.Str.ofString "__weakref__") 249, PySem.Value.ref 59,
              PySem.Value.builtin "ExceptionGroup.__weakref__", PySem.Value.none] }) ::
    (nat_lit 64, { cls := PySem.Value.type "tuple", data := PySem.Data.seq #[PySem.Value.type "Exception"] }) ::
    (nat_lit 71, { cls := PySem.Value.type "tuple", data := PySem.Data.seq #[] }) ::
    (nat_lit 72,
      { cls := PySem.Value.type "dict",
        data :=
          PySem.Data.dict
            #[{ hash := PySem.PyData.keyHash P (PySem.Str.ofString "__module__"),
                key := PySem.Value.str (PySem.Str.ofString "__module__") 263,
                val := PySem.Value.str (PySem.Str.ofString "cpy313.ftplib") 254 },
              { hash := PySem.PyData.keyHash P (PySem.Str.ofString "__firstlineno__"),
                key := PySem.Value.str (PySem.Str.ofString "__firstlineno__") 267, val := PySem.Value.int 49 266 },
              { hash := PySem.PyData.keyHash P (PySem.Str.ofString "__static_attributes__"),
                key := PySem.Value.str (PySem.Str.ofString "__static_attributes__") 268, val := PySem.Value.ref 71 },
              { hash := PySem.PyData.keyHash P (PySem.Str.ofString "__weakref__"),
                key := PySem.Value.str (PySem.Str.ofString "__weakref__") 270, val := PySem.Value.ref 74 },
              { hash := PySem.PyData.keyHash P (PySem.Str.ofString "__doc__"),
                key := PySem.Value.str (PySem.Str.ofString "__doc__") 271, val := PySem.Value.none }]
            3 }) ::
    (nat_lit 73,
      { cls := PySem.Value.type "type",
        data :=
          PySem.Data.cls
            { name := PySem.Str.ofString "Error", bases := [PySem.Value.type "Exception"],
              mro :=
                [PySem.Value.ref 73, PySem.Value.type "Exception", PySem.Value.type "BaseException",
                  PySem.Value.type "object"],
              ns := 72, qualname := PySem.Str.ofString "Error",
              subclasses := [PySem.Value.ref 86, PySem.Value.ref 98] },
        slots :=
          #[Option.some (PySem.Value.ref 64), Option.none,
            Option.some (PySem.Value.str (PySem.Str.ofString "Error") 256),
            Option.some (PySem.Value.str (PySem.Str.ofString "Error") 264),
            Option.some (PySem.Value.builtin "Exception.__new__"), Option.some (PySem.Value.bool Bool.true)] }) ::
    (nat_lit 74,
      { cls := PySem.Value.type "getset_descriptor",
        data :=
          PySem.Data.fields
            #[PySem.Value.str (PySem.Str.ofString "__weakref__") 269, PySem.Value.ref 73,
              PySem.Value.builtin "ExceptionGroup.__weakref__", PySem.Value.none] }) ::
    (nat_lit 77, { cls := PySem.Value.type "tuple", data := PySem.Data.seq #[PySem.Value.ref 73] }) ::
    (nat_lit 84, { cls := PySem.Value.type "tuple", data := PySem.Data.seq #[] }) ::
    (nat_lit 85,
      { cls := PySem.Value.type "dict",
        data :=
          PySem.Data.dict
            #[{ hash := PySem.PyData.keyHash P (PySem.Str.ofString "__module__"),
                key := PySem.Value.str (PySem.Str.ofString "__module__") 283,
                val := PySem.Value.str (PySem.Str.ofString "cpy313.ftplib") 254 },
              { hash := PySem.PyData.keyHash P (PySem.Str.ofString "__firstlineno__"),
                key := PySem.Value.str (PySem.Str.ofString "__firstlineno__") 287, val := PySem.Value.int 51 286 },
              { hash := PySem.PyData.keyHash P (PySem.Str.ofString "__static_attributes__"),
                key := PySem.Value.str (PySem.Str.ofString "__static_attributes__") 288, val := PySem.Value.ref 84 },
              { hash := PySem.PyData.keyHash P (PySem.Str.ofString "__doc__"),
                key := PySem.Value.str (PySem.Str.ofString "__doc__") 289, val := PySem.Value.none }]
            2 }) ::
    (nat_lit 86,
      { cls := PySem.Value.type "type",
        data :=
          PySem.Data.cls
            { name := PySem.Str.ofString "error_reply", bases := [PySem.Value.ref 73],
              mro :=
                [PySem.Value.ref 86, PySem.Value.ref 73, PySem.Value.type "Exception", PySem.Value.type "BaseException",
                  PySem.Value.type "object"],
              ns := 85, qualname := PySem.Str.ofString "error_reply" },
        slots :=
          #[Option.some (PySem.Value.ref 77), Option.none,
            Option.some (PySem.Value.str (PySem.Str.ofString "error_reply") 276),
            Option.some (PySem.Value.str (PySem.Str.ofString "error_reply") 284),
            Option.some (PySem.Value.builtin "Exception.__new__"), Option.some (PySem.Value.bool Bool.true)] }) ::
    (nat_lit 89, { cls := PySem.Value.type "tuple", data := PySem.Data.seq #[PySem.Value.ref 73] }) ::
    (nat_lit 96, { cls := PySem.Value.type "tuple", data := PySem.Data.seq #[] }) ::
    (nat_lit 97,
      { cls := PySem.Value.type "dict",
        data :=
          PySem.Data.dict
            #[{ hash := PySem.PyData.keyHash P (PySem.Str.ofString "__module__"),
                key := PySem.Value.str (PySem.Str.ofString "__module__") 299,
                val := PySem.Value.str (PySem.Str.ofString "cpy313.ftplib") 254 },
              { hash := PySem.PyData.keyHash P (PySem.Str.ofString "__firstlineno__"),
                key := PySem.Value.str (PySem.Str.ofString "__firstlineno__") 303, val := PySem.Value.int 53 302 },
              { hash := PySem.PyData.keyHash P (PySem.Str.ofString "__static_attributes__"),
                key := PySem.Value.str (PySem.Str.ofString "__static_attributes__") 304, val := PySem.Value.ref 96 },
              { hash := PySem.PyData.keyHash P (PySem.Str.ofString "__doc__"),
                key := PySem.Value.str (PySem.Str.ofString "__doc__") 305, val := PySem.Value.none }]
            2 }) ::
    (nat_lit 98,
      { cls := PySem.Value.type "type",
        data :=
          PySem.Data.cls
            { name := PySem.Str.ofString "error_proto", bases := [PySem.Value.ref 73],
              mro :=
                [PySem.Value.ref 98, PySem.Value.ref 73, PySem.Value.type "Exception", PySem.Value.type "BaseException",
                  PySem.Value.type "object"],
              ns := 97, qualname := PySem.Str.ofString "error_proto" },
        slots :=
          #[Option.some (PySem.Value.ref 89), Option.none,
            Option.some (PySem.Value.str (PySem.Str.ofString "error_proto") 292),
            Option.some (PySem.Value.str (PySem.Str.ofString "error_proto") 300),
            Option.some (PySem.Value.builtin "Exception.__new__"), Option.some (PySem.Value.bool Bool.true)] }) ::
    (nat_lit 101, { cls := PySem.Value.type "tuple", data := PySem.Data.seq #[] }) ::
    (nat_lit 103,
      { cls := PySem.Value.type "tuple",
        data :=
          PySem.Data.seq
            #[PySem.Value.str (PySem.Str.ofString "resp") 311, PySem.Value.str (PySem.Str.ofString "peer") 312,
              PySem.Value.str (PySem.Str.ofString "left") 313, PySem.Value.str (PySem.Str.ofString "right") 314,
              PySem.Value.str (PySem.Str.ofString "parts") 315, PySem.Value.str (PySem.Str.ofString "host") 316,
              PySem.Value.str (PySem.Str.ofString "port") 317] }) ::
    (nat_lit 104, { cls := PySem.Value.type "tuple", data := PySem.Data.seq #[] }) ::
    (nat_lit 106,
      { cls := PySem.Value.type "code",
        data :=
          PySem.Data.fields
            #[PySem.Value.str (PySem.Str.ofString "parse229") 308, PySem.Value.str (PySem.Str.ofString "parse229") 309,
              PySem.Value.str (PySem.Str.ofString "/claim/cut.py") 310, PySem.Value.int 55 0, PySem.Value.int 2 0,
              PySem.Value.int 0 0, PySem.Value.int 0 0, PySem.Value.int 3 0, PySem.Value.ref 101,
              PySem.Value.bool Bool.true, PySem.Value.int 181 0, PySem.Value.ref 102, PySem.Value.none,
              PySem.Value.ref 103, PySem.Value.ref 104, PySem.Value.ref 105, PySem.Value.int 318 0,
              PySem.Value.int 55 0, PySem.Value.str (PySem.Str.ofString "/claim/cut.py") 319] }) ::
    (nat_lit 107,
      { cls := PySem.Value.type "function",
        data :=
          PySem.Data.func
            { name := PySem.Str.ofString "parse229", qualname := PySem.Str.ofString "parse229",
              params := ?a5, body := PySem.FuncBody.stmts ?b5, scope := ?s5,
              globals := 3, closure := [], defaults := PySem.Value.none, kwdefaults := PySem.Value.none,
              pyModule := PySem.Value.str (PySem.Str.ofString "cpy313.ftplib") 254, code := PySem.Value.ref 106 } }) ::
    (nat_lit 108, { cls := PySem.Value.type "tuple", data := PySem.Data.seq #[] }) ::
    (nat_lit 110,
      { cls := PySem.Value.type "tuple",
        data :=
          PySem.Data.seq
            #[PySem.Value.str (PySem.Str.ofString "resp") 324, PySem.Value.str (PySem.Str.ofString "dirname") 325,
              PySem.Value.str (PySem.Str.ofString "i") 326, PySem.Value.str (PySem.Str.ofString "n") 327,
              PySem.Value.str (PySem.Str.ofString "c") 328] }) ::
    (nat_lit 111, { cls := PySem.Value.type "tuple", data := PySem.Data.seq #[] }) ::
    (nat_lit 113,
      { cls := PySem.Value.type "code",
        data :=
          PySem.Data.fields
            #[PySem.Value.str (PySem.Str.ofString "parse257") 321, PySem.Value.str (PySem.Str.ofString "parse257") 322,
              PySem.Value.str (PySem.Str.ofString "/claim/cut.py") 323, PySem.Value.int 72 0, PySem.Value.int 1 0,
              PySem.Value.int 0 0, PySem.Value.int 0 0, PySem.Value.int 3 0, PySem.Value.ref 108,
              PySem.Value.bool Bool.true, PySem.Value.int 181 0, PySem.Value.ref 109, PySem.Value.none,
              PySem.Value.ref 110, PySem.Value.ref 111, PySem.Value.ref 112, PySem.Value.int 329 0,
              PySem.Value.int 72 0, PySem.Value.str (PySem.Str.ofString "/claim/cut.py") 330] }) ::
    (nat_lit 114,
      { cls := PySem.Value.type "function",
        data :=
          PySem.Data.func
            { name := PySem.Str.ofString "parse257", qualname := PySem.Str.ofString "parse257",
              params := ?a6, body := PySem.FuncBody.stmts ?b6, scope := ?s6,
              globals := 3, closure := [], defaults := PySem.Value.none, kwdefaults := PySem.Value.none,
              pyModule := PySem.Value.str (PySem.Str.ofString "cpy313.ftplib") 254, code := PySem.Value.ref 113 } }) ::
    (nat_lit 115,
      { cls := PySem.Value.type "dict",
        data :=
          PySem.Data.dict
            #[{ hash := PySem.PyData.keyHash P (PySem.Str.ofString "!"),
                key := PySem.Value.str (PySem.Str.ofString "!") 428, val := PySem.Value.int 54 426 },
              { hash := PySem.PyData.keyHash P (PySem.Str.ofString "!="),
                key := PySem.Value.str (PySem.Str.ofString "!=") 430, val := PySem.Value.int 28 374 },
              { hash := PySem.PyData.keyHash P (PySem.Str.ofString "%"),
                key := PySem.Value.str (PySem.Str.ofString "%") 432, val := PySem.Value.int 24 366 },
              { hash := PySem.PyData.keyHash P (PySem.Str.ofString "%="),
                key := PySem.Value.str (PySem.Str.ofString "%=") 434, val := PySem.Value.int 40 398 },
              { hash := PySem.PyData.keyHash P (PySem.Str.ofString "&"),
                key := PySem.Value.str (PySem.Str.ofString "&") 436, val := PySem.Value.int 19 356 },
              { hash := PySem.PyData.keyHash P (PySem.Str.ofString "&="),
                key := PySem.Value.str (PySem.Str.ofString "&=") 438, val := PySem.Value.int 41 400 },
              { hash := PySem.PyData.keyHash P (PySem.Str.ofString "("),
                key := PySem.Value.str (PySem.Str.ofString "(") 440, val := PySem.Value.int 7 332 },
              { hash := PySem.PyData.keyHash P (PySem.Str.ofString ")"),
                key := PySem.Value.str (PySem.Str.ofString ")") 442, val := PySem.Value.int 8 334 },
              { hash := PySem.PyData.keyHash P (PySem.Str.ofString "*"),
                key := PySem.Value.str (PySem.Str.ofString "*") 444, val := PySem.Value.int 16 350 },
              { hash := PySem.PyData.keyHash P (PySem.Str.ofString "**"),
                key := PySem.Value.str (PySem.Str.ofString "**") 446, val := PySem.Value.int 35 388 },
              { hash := PySem.PyData.keyHash P (PySem.Str.ofString "**="),
                key := PySem.Value.str (PySem.Str.ofString "**=") 448, val := PySem.Value.int 46 410 },
              { hash := PySem.PyData.keyHash P (PySem.Str.ofString "*="),
                key := PySem.Value.str (PySem.Str.ofString "*=") 450, val := PySem.Value.int 38 394 },
              { hash := PySem.PyData.keyHash P (PySem.Str.ofString "+"),
                key := PySem.Value.str (PySem.Str.ofString "+") 452, val := PySem.Value.int 14 346 },
              { hash := PySem.PyData.keyHash P (PySem.Str.ofString "+="),
                key := PySem.Value.str (PySem.Str.ofString "+=") 454, val := PySem.Value.int 36 390 },
              { hash := PySem.PyData.keyHash P (PySem.Str.ofString ","),
                key := PySem.Value.str (PySem.Str.ofString ",") 456, val := PySem.Value.int 12 342 },
              { hash := PySem.PyData.keyHash P (PySem.Str.ofString "-"),
                key := PySem.Value.str (PySem.Str.ofString "-") 458, val := PySem.Value.int 15 348 },
              { hash := PySem.PyData.keyHash P (PySem.Str.ofString "-="),
                key := PySem.Value.str (PySem.Str.ofString "-=") 460, val := PySem.Value.int 37 392 },
              { hash := PySem.PyData.keyHash P (PySem.Str.ofString "->"),
                key := PySem.Value.str (PySem.Str.ofString "->") 462, val := PySem.Value.int 51 420 },
              { hash := PySem.PyData.keyHash P (PySem.Str.ofString "."),
                key := PySem.Value.str (PySem.Str.ofString ".") 464, val := PySem.Value.int 23 364 },
              { hash := PySem.PyData.keyHash P (PySem.Str.ofString "..."),
                key := PySem.Value.str (PySem.Str.ofString "...") 466, val := PySem.Value.int 52 422 },
              { hash := PySem.PyData.keyHash P (PySem.Str.ofString "/"),
                key := PySem.Value.str (PySem.Str.ofString "/") 468, val := PySem.Value.int 17 352 },
              { hash := PySem.PyData.keyHash P (PySem.Str.ofString "//"),
                key := PySem.Value.str (PySem.Str.ofString "//") 470, val := PySem.Value.int 47 412 },
              { hash := PySem.PyData.keyHash P (PySem.Str.ofString "//="),
                key := PySem.Value.str (PySem.Str.ofString "//=") 472, val := PySem.Value.int 48 414 },
              { hash := PySem.PyData.keyHash P (PySem.Str.ofString "/="),
                key := PySem.Value.str (PySem.Str.ofString "/=") 474, val := PySem.Value.int 39 396 },
              { hash := PySem.PyData.keyHash P (PySem.Str.ofString ":"),
                key := PySem.Value.str (PySem.Str.ofString ":") 476, val := PySem.Value.int 11 340 },
              { hash := PySem.PyData.keyHash P (PySem.Str.ofString ":="),
                key := PySem.Value.str (PySem.Str.ofString ":=") 478, val := PySem.Value.int 53 424 },
              { hash := PySem.PyData.keyHash P (PySem.Str.ofString ";"),
                key := PySem.Value.str (PySem.Str.ofString ";") 480, val := PySem.Value.int 13 344 },
              { hash := PySem.PyData.keyHash P (PySem.Str.ofString "<"),
                key := PySem.Value.str (PySem.Str.ofString "<") 482, val := PySem.Value.int 20 358 },
              { hash := PySem.PyData.keyHash P (PySem.Str.ofString "<<"),
                key := PySem.Value.str (PySem.Str.ofString "<<") 484, val := PySem.Value.int 33 384 },
              { hash := PySem.PyData.keyHash P (PySem.Str.ofString "<<="),
                key := PySem.Value.str (PySem.Str.ofString "<<=") 486, val := PySem.Value.int 44 406 },
              { hash := PySem.PyData.keyHash P (PySem.Str.ofString "<="),
                key := PySem.Value.str (PySem.Str.ofString "<=") 488, val := PySem.Value.int 29 376 },
              { hash := PySem.PyData.keyHash P (PySem.Str.ofString "="),
                key := PySem.Value.str (PySem.Str.ofString "=") 490, val := PySem.Value.int 22 362 },
              { hash := PySem.PyData.keyHash P (PySem.Str.ofString "=="),
                key := PySem.Value.str (PySem.Str.ofString "==") 492, val := PySem.Value.int 27 372 },
              { hash := PySem.PyData.keyHash P (PySem.Str.ofString ">"),
                key := PySem.Value.str (PySem.Str.ofString ">") 494, val := PySem.Value.int 21 360 },
              { hash := PySem.PyData.keyHash P (PySem.Str.ofString ">="),
                key := PySem.Value.str (PySem.Str.ofString ">=") 496, val := PySem.Value.int 30 378 },
              { hash := PySem.PyData.keyHash P (PySem.Str.ofString ">>"),
                key := PySem.Value.str (PySem.Str.ofString ">>") 497, val := PySem.Value.int 34 386 },
              { hash := PySem.PyData.keyHash P (PySem.Str.ofString ">>="),
                key := PySem.Value.str (PySem.Str.ofString ">>=") 498, val := PySem.Value.int 45 408 },
              { hash := PySem.PyData.keyHash P (PySem.Str.ofString "@"),
                key := PySem.Value.str (PySem.Str.ofString "@") 499, val := PySem.Value.int 49 416 },
              { hash := PySem.PyData.keyHash P (PySem.Str.ofString "@="),
                key := PySem.Value.str (PySem.Str.ofString "@=") 500, val := PySem.Value.int 50 418 },
              { hash := PySem.PyData.keyHash P (PySem.Str.ofString "["),
                key := PySem.Value.str (PySem.Str.ofString "[") 501, val := PySem.Value.int 9 336 },
              { hash := PySem.PyData.keyHash P (PySem.Str.ofString "]"),
                key := PySem.Value.str (PySem.Str.ofString "]") 502, val := PySem.Value.int 10 338 },
              { hash := PySem.PyData.keyHash P (PySem.Str.ofString "^"),
                key := PySem.Value.str (PySem.Str.ofString "^") 503, val := PySem.Value.int 32 382 },
              { hash := PySem.PyData.keyHash P (PySem.Str.ofString "^="),
                key := PySem.Value.str (PySem.Str.ofString "^=") 504, val := PySem.Value.int 43 404 },
              { hash := PySem.PyData.keyHash P (PySem.Str.ofString "{"),
                key := PySem.Value.str (PySem.Str.ofString "{") 505, val := PySem.Value.int 25 368 },
              { hash := PySem.PyData.keyHash P (PySem.Str.ofString "|"),
                key := PySem.Value.str (PySem.Str.ofString "|") 506, val := PySem.Value.int 18 354 },
              { hash := PySem.PyData.keyHash P (PySem.Str.ofString "|="),
                key := PySem.Value.str (PySem.Str.ofString "|=") 507, val := PySem.Value.int 42 402 },
              { hash := PySem.PyData.keyHash P (PySem.Str.ofString "}"),
                key := PySem.Value.str (PySem.Str.ofString "}") 508, val := PySem.Value.int 26 370 },
              { hash := PySem.PyData.keyHash P (PySem.Str.ofString "~"),
                key := PySem.Value.str (PySem.Str.ofString "~") 509, val := PySem.Value.int 31 380 }]
            48 }) ::
    (nat_lit 118, { cls := PySem.Value.type "tuple", data := PySem.Data.seq #[] }) ::
    (nat_lit 120,
      { cls := PySem.Value.type "tuple",
        data :=
          PySem.Data.seq
            #[PySem.Value.str (PySem.Str.ofString "text") 530, PySem.Value.str (PySem.Str.ofString "read") 531,
              PySem.Value.str (PySem.Str.ofString "stream") 532] }) ::
    (nat_lit 121,
      { cls := PySem.Value.type "tuple",
        data :=
          PySem.Data.seq
            #[PySem.Value.str (PySem.Str.ofString "text") 533, PySem.Value.str (PySem.Str.ofString "at") 534] }) ::
    (nat_lit 123,
      { cls := PySem.Value.type "code",
        data :=
          PySem.Data.fields
            #[PySem.Value.str (PySem.Str.ofString "_law_lexer") 527,
              PySem.Value.str (PySem.Str.ofString "_law_lexer") 528,
              PySem.Value.str (PySem.Str.ofString "/claim/cut.py") 529, PySem.Value.int 139 0, PySem.Value.int 1 0,
              PySem.Value.int 0 0, PySem.Value.int 0 0, PySem.Value.int 3 0, PySem.Value.ref 118,
              PySem.Value.bool Bool.true, PySem.Value.int 181 0, PySem.Value.ref 119, PySem.Value.none,
              PySem.Value.ref 120, PySem.Value.ref 121, PySem.Value.ref 122, PySem.Value.int 535 0,
              PySem.Value.int 139 0, PySem.Value.str (PySem.Str.ofString "/claim/cut.py") 536] }) ::
    (nat_lit 124,
      { cls := PySem.Value.type "function",
        data :=
          PySem.Data.func
            { name := PySem.Str.ofString "_law_lexer", qualname := PySem.Str.ofString "_law_lexer",
              params := ?a7, body := PySem.FuncBody.stmts ?b7, scope := ?s7,
              globals := 3, closure := [], defaults := PySem.Value.none, kwdefaults := PySem.Value.none,
              pyModule := PySem.Value.str (PySem.Str.ofString "law_tr0043_02") 525, code := PySem.Value.ref 123 } }) ::
    (nat_lit 125, { cls := PySem.Value.type "tuple", data := PySem.Data.seq #[] }) ::
    (nat_lit 128,
      { cls := PySem.Value.type "code",
        data :=
          PySem.Data.fields
            #[PySem.Value.str (PySem.Str.ofString "_law_word") 538,
              PySem.Value.str (PySem.Str.ofString "_law_word") 539,
              PySem.Value.str (PySem.Str.ofString "/claim/cut.py") 540, PySem.Value.int 148 0, PySem.Value.int 2 0,
              PySem.Value.int 0 0, PySem.Value.int 0 0, PySem.Value.int 3 0, PySem.Value.ref 125,
              PySem.Value.bool Bool.true, PySem.Value.int 181 0, PySem.Value.ref 126, PySem.Value.none,
              PySem.Value.none, PySem.Value.none, PySem.Value.ref 127, PySem.Value.int 541 0, PySem.Value.int 148 0,
              PySem.Value.str (PySem.Str.ofString "/claim/cut.py") 542] }) ::
    (nat_lit 129,
      { cls := PySem.Value.type "function",
        data :=
          PySem.Data.func
            { name := PySem.Str.ofString "_law_word", qualname := PySem.Str.ofString "_law_word",
              params := ?a8, body := PySem.FuncBody.stmts ?b8, scope := ?s8,
              globals := 3, closure := [], defaults := PySem.Value.none, kwdefaults := PySem.Value.none,
              pyModule := PySem.Value.str (PySem.Str.ofString "law_tr0043_02") 525, code := PySem.Value.ref 128 } }) ::
    (nat_lit 130, { cls := PySem.Value.type "tuple", data := PySem.Data.seq #[] }) ::
    (nat_lit 133,
      { cls := PySem.Value.type "code",
        data :=
          PySem.Data.fields
            #[PySem.Value.str (PySem.Str.ofString "_law_by_brackets") 544,
              PySem.Value.str (PySem.Str.ofString "_law_by_brackets") 545,
              PySem.Value.str (PySem.Str.ofString "/claim/cut.py") 546, PySem.Value.int 154 0, PySem.Value.int 2 0,
              PySem.Value.int 0 0, PySem.Value.int 0 0, PySem.Value.int 3 0, PySem.Value.ref 130,
              PySem.Value.bool Bool.true, PySem.Value.int 181 0, PySem.Value.ref 131, PySem.Value.none,
              PySem.Value.none, PySem.Value.none, PySem.Value.ref 132, PySem.Value.int 547 0, PySem.Value.int 154 0,
              PySem.Value.str (PySem.Str.ofString "/claim/cut.py") 548] }) ::
    (nat_lit 134,
      { cls := PySem.Value.type "function",
        data :=
          PySem.Data.func
            { name := PySem.Str.ofString "_law_by_brackets", qualname := PySem.Str.ofString "_law_by_brackets",
              params := ?a9, body := PySem.FuncBody.stmts ?b9, scope := ?s9,
              globals := 3, closure := [], defaults := PySem.Value.none, kwdefaults := PySem.Value.none,
              pyModule := PySem.Value.str (PySem.Str.ofString "law_tr0043_02") 525, code := PySem.Value.ref 133 } }) ::
    (nat_lit 135, { cls := PySem.Value.type "tuple", data := PySem.Data.seq #[] }) ::
    (nat_lit 137,
      { cls := PySem.Value.type "tuple",
        data :=
          PySem.Data.seq
            #[PySem.Value.str (PySem.Str.ofString "first") 553, PySem.Value.str (PySem.Str.ofString "terms") 554,
              PySem.Value.str (PySem.Str.ofString "states") 555, PySem.Value.str (PySem.Str.ofString "mark") 556,
              PySem.Value.str (PySem.Str.ofString "port") 557, PySem.Value.str (PySem.Str.ofString "reached") 558,
              PySem.Value.str (PySem.Str.ofString "value") 559, PySem.Value.str (PySem.Str.ofString "added") 560,
              PySem.Value.str (PySem.Str.ofString "count") 561, PySem.Value.str (PySem.Str.ofString "adds") 562,
              PySem.Value.str (PySem.Str.ofString "after") 563, PySem.Value.str (PySem.Str.ofString "found") 564] }) ::
    (nat_lit 138, { cls := PySem.Value.type "tuple", data := PySem.Data.seq #[] }) ::
    (nat_lit 140,
      { cls := PySem.Value.type "code",
        data :=
          PySem.Data.fields
            #[PySem.Value.str (PySem.Str.ofString "_law_by_count") 550,
              PySem.Value.str (PySem.Str.ofString "_law_by_count") 551,
              PySem.Value.str (PySem.Str.ofString "/claim/cut.py") 552, PySem.Value.int 167 0, PySem.Value.int 2 0,
              PySem.Value.int 0 0, PySem.Value.int 0 0, PySem.Value.int 3 0, PySem.Value.ref 135,
              PySem.Value.bool Bool.true, PySem.Value.int 181 0, PySem.Value.ref 136, PySem.Value.none,
              PySem.Value.ref 137, PySem.Value.ref 138, PySem.Value.ref 139, PySem.Value.int 565 0,
              PySem.Value.int 167 0, PySem.Value.str (PySem.Str.ofString "/claim/cut.py") 566] }) ::
    (nat_lit 141,
      { cls := PySem.Value.type "function",
        data :=
          PySem.Data.func
            { name := PySem.Str.ofString "_law_by_count", qualname := PySem.Str.ofString "_law_by_count",
              params := ?a10, body := PySem.FuncBody.stmts ?b10, scope := ?s10,
              globals := 3, closure := [], defaults := PySem.Value.none, kwdefaults := PySem.Value.none,
              pyModule := PySem.Value.str (PySem.Str.ofString "law_tr0043_02") 525, code := PySem.Value.ref 140 } }) ::
    (nat_lit 142, { cls := PySem.Value.type "tuple", data := PySem.Data.seq #[] }) ::
    (nat_lit 145,
      { cls := PySem.Value.type "code",
        data :=
          PySem.Data.fields
            #[PySem.Value.str (PySem.Str.ofString "law") 568, PySem.Value.str (PySem.Str.ofString "law") 569,
              PySem.Value.str (PySem.Str.ofString "/claim/cut.py") 570, PySem.Value.int 185 0, PySem.Value.int 1 0,
              PySem.Value.int 0 0, PySem.Value.int 0 0, PySem.Value.int 3 0, PySem.Value.ref 142,
              PySem.Value.bool Bool.true, PySem.Value.int 181 0, PySem.Value.ref 143, PySem.Value.none,
              PySem.Value.none, PySem.Value.none, PySem.Value.ref 144, PySem.Value.int 571 0, PySem.Value.int 185 0,
              PySem.Value.str (PySem.Str.ofString "/claim/cut.py") 572] }) ::
    (nat_lit 146,
      { cls := PySem.Value.type "function",
        data :=
          PySem.Data.func
            { name := PySem.Str.ofString "law", qualname := PySem.Str.ofString "law",
              params := ?a11, body := PySem.FuncBody.stmts ?b11, scope := ?s11,
              globals := 3, closure := [], defaults := PySem.Value.none, kwdefaults := PySem.Value.none,
              pyModule := PySem.Value.str (PySem.Str.ofString "law_tr0043_02") 525, code := PySem.Value.ref 145 } }) :: []
noncomputable def hkAs : List Addr := 2 :: 3 :: 6 :: 15 :: 17 :: 18 :: 20 :: 21 :: 29 :: 31 :: 32 :: 34 :: 35 :: 36 :: 38 :: 39 :: 41 :: 42 :: 43 :: 45 :: 46 :: 48 :: 49 :: 50 :: 52 :: 53 :: 55 :: 56 :: 57 :: 58 :: 59 :: 60 :: 61 :: 64 :: 71 :: 72 :: 73 :: 74 :: 77 :: 84 :: 85 :: 86 :: 89 :: 96 :: 97 :: 98 :: 101 :: 103 :: 104 :: 106 :: 107 :: 108 :: 110 :: 111 :: 113 :: 114 :: 115 :: 118 :: 120 :: 121 :: 123 :: 124 :: 125 :: 128 :: 129 :: 130 :: 133 :: 134 :: 135 :: 137 :: 138 :: 140 :: 141 :: 142 :: 145 :: 146 :: []
theorem fillHead : (∀ P, wPart P = wPart P) ∨ PySem.Challenge.rw_tr0043_02.Holds := by
  k_fill
  exact .inl fun _ => rfl
end Mine

namespace Mine
open PySem PySem.W PyProof.Rows PySem.Calls PySem.Builtin PySem.Builtin.ObjectAttr
set_option maxHeartbeats 4000000
section
variable {prog : Program} {w : World} {A : Around} {E : Value → Shared → Prop} {s : Shared} {h₀ : Heap} {L f : Addr} {m : Str → Option Value} {news : List (Addr × Obj)} {fd : FuncData}

theorem slot_fn_setattr : Slot "function" "__setattr__" "object.__setattr__" :=
  Slot.of (owner := "object") (n := "__setattr__") (by rw [typeLookup_type, builtinLookup_eq_fast]; kernel_rfl) (by decide +kernel) (by decide +kernel) (by decide +kernel)
    (by first | exact .inl (by decide +kernel) | exact .inr (by decide +kernel)) (by rw [isSubtype_type]; kernel_rfl)

noncomputable abbrev fnObj (fd : FuncData) (d : Option Addr) : Obj := { cls := .type "function", dict := d, data := .func fd }

/-- f.read = v on a function object that has no dict yet -/
theorem setAttr_fn {v : Value} {Q : Unit → Shared → Prop} (F : Fr h₀ L s.heap m) (N : News h₀ L s.heap ((f, fnObj fd none) :: news))
    (hne : ∀ p ∈ news, p.1 ≠ f)
    (h : ∀ d h' tk k, Fr h₀ L h' m → News h₀ L h' ((d, dictOf [⟨PyData.keyHash w.params "read", .str "read" k, v⟩] 1) :: (f, fnObj fd (some d)) :: news) → (∀ p ∈ news, p.1 < d) → f < d → Q () { s with heap := h', toks := tk }) :
    wpAny (model prog w) A (setAttr (.ref f) "read" v) Q E s := by
  have hf := (N _ (.head _)).1
  obtain ⟨hp, gs, dr, tk, os⟩ := s
  dsimp only at F N hf
  have SF := PySem.F.store_object
  have L0 : Looks (model prog w) hp (typeOf (.ref f)) (.type "function") := (Looks.ld hf).andThen .now
  have Ls : Looks (model prog w) hp (typeLookup (.type "function") "__setattr__") (some (.builtin "object.__setattr__")) := Looks.of_pure slot_fn_setattr.lookup
  refine wpAny_bind (wpAny_mkText (wpAny_bind (wpAny_bind (wpAny_bind (L0.at (Ls.at (wpAny_holding ?_)))))))
  rw [slot_fn_setattr.bind]
  refine wpAny_bind (wpAny_pure (wpAny_bind (wpAny_call ?_)))
  refine codeAny_call_builtin slot_fn_setattr.plain SF.entry (slot_fn_setattr.check _ _ _ _ _ _ _ _ ⟨_, hf, rfl⟩ (SF.args _ _ _) ?_)
  simp only [List.singleton_append]
  rw [osa_eq, refuse_eq]
  have Lm : mroOf (.type "function") = pure [.type "function", .type "object"] := by kernel_rfl
  have Lr : refuseLoop (.ref f) "__setattr__" [.type "function", .type "object"] = pure () := by kernel_rfl
  have La : typeLookup (.type "function") "read" = pure none := by rw [typeLookup_type, builtinLookup_eq_fast]; kernel_rfl
  refine wpAny_bind (wpAny_bind (L0.at (wpAny_bind ?_)))
  rw [Lm]
  refine wpAny_pure ?_
  rw [Lr]
  refine wpAny_pure (wpAny_bind (L0.at (wpAny_bind ?_)))
  rw [La]
  refine wpAny_pure (wpAny_bind (wpAny_pure ?_))
  dsimp only
  unfold storeInOwnDict
  have Lo : ownStreamTells (.ref f) (.type "function") = pure () := by kernel_rfl
  rw [Lo]
  refine wpAny_bind (wpAny_pure ?_)
  rw [if_neg (by decide)]
  have Ld : dictMade (.type "function") f hp.objs.size = pure (some hp.objs.size) := by kernel_rfl
  have hf1 : (hp.push emptyDict).get? f = some (fnObj fd none) := Heap.get?_push_of_some _ hf
  refine wpAny_bind (wpAny_bind (wpAny_loadPart hf ?_))
  refine wpAny_bind (wpAny_alloc (wpAny_bind (wpAny_updatePart hf1 ?_)))
  simp only [Ld]
  refine wpAny_pure ?_
  have lf : f < hp.objs.size := Heap.lt_size hf
  have ln : ∀ p ∈ news, p.1 < hp.objs.size := fun p hp' => Heap.lt_size (N p (.tail _ hp')).1
  have N1 := News.push F N emptyDict
  have F1 := F.push emptyDict
  obtain ⟨F2, N2⟩ := news_upd (pre := [(hp.objs.size, emptyDict)]) (f := fun o => { o with dict := some hp.objs.size }) (o' := fnObj fd (some hp.objs.size)) F1 N1 (fun p hp' => by rw [List.mem_singleton.mp hp']; exact Nat.ne_of_gt lf) hne rfl rfl
  have hd2 := (N2 _ (.head _)).1
  dsimp only [emptyDict] at hd2 F2 N2
  generalize ((hp.push { cls := Value.type "dict", data := Data.dict #[] }).update f fun o => { cls := o.cls, dict := some hp.objs.size, data := o.data, slots := o.slots }) = h2 at *
  dsimp only
  unfold storeInDict newKeyGuard nsSet
  obtain ⟨F3, N3⟩ := news_upd (pre := []) (f := Obj.putName "read" (PyData.keyHash w.params "read") (.str "read" (tk + 1)) v) (o' := dictOf [⟨PyData.keyHash w.params "read", .str "read" (tk + 1), v⟩] 1) F2 N2 (fun _ hp' => nomatch hp') (fun p hp' => by
      rcases List.mem_cons.mp hp' with rfl | hp'
      · exact Nat.ne_of_lt lf
      · exact Nat.ne_of_lt (ln p hp')) (by rw [putName_dict]; rfl) rfl
  have hd3 := (N3 _ (.head _)).1
  refine wpAny_bind (wpAny_pure (wpAny_bind (wpAny_bind (wpAny_bind (wpAny_askSetting (wpAny_pure (wpAny_bind (wpAny_mkText (wpAny_bind (wpAny_loadPart hd2 ?_))))))))))
  dsimp only
  rw [if_neg (by decide)]
  refine wpAny_updatePart hd2 ?_
  refine wpAny_bind (wpAny_lookBehind hd3 (by rfl) ?_)
  exact wpAny_pure (wpAny_pure (wpAny_pure (h _ _ _ _ F3 N3 ln lf)))
end
end Mine

namespace Mine
open PySem PySem.W PyProof.Rows PySem.Calls PySem.Builtin PySem.Builtin.ObjectAttr
set_option maxHeartbeats 4000000
theorem lk_fn_ga : typeLookup (.type "function") "__getattribute__" = pure (some (.builtin "object.__getattribute__")) := by rw [typeLookup_type, builtinLookup_eq_fast]; kernel_rfl
theorem slot_fn_ga : Slot "function" "__getattribute__" "object.__getattribute__" :=
  Slot.of (owner := "object") (n := "__getattribute__") lk_fn_ga (by decide +kernel) (by decide +kernel) (by decide +kernel)
    (by first | exact .inl (by decide +kernel) | exact .inr (by decide +kernel)) (by rw [isSubtype_type]; kernel_rfl)
theorem entry_obj_ga : entryFor table "object.__getattribute__" = some Builtin.«object.__getattribute__» := entryFor_of_tree (by kernel_rfl)
theorem args_obj_ga (a b : Value) : argsOk "object.__getattribute__" ⟨[a, b], []⟩ := by unfold argsOk; kernel_rfl
theorem lk_fn_read : typeLookup (.type "function") "read" = pure none := by rw [typeLookup_type, builtinLookup_eq_fast]; kernel_rfl
theorem lk_fn_hook : typeLookup (.type "function") "__getattr__" = pure none := by rw [typeLookup_type, builtinLookup_eq_fast]; kernel_rfl
section
variable {prog : Program} {w : World} {A : Around} {E : Value → Shared → Prop} {s : Shared} {f d : Addr} {fd : FuncData} {es : List DictEntry} {n : Nat}
theorem looks_ns {M : Model} {h : Heap} {d : Addr} {name : Str} {r : Option Value} (hd : h.get? d = some (dictOf es n)) (hr : getL name es = some r) : Looks M h (nsGet d name) r := by
  refine (Looks.ld hd).andThen (Looks.of_pure (nsLook_of ?_))
  rw [lookIn_dict]; exact hr

theorem getMethod_fn {g : Addr} {pl : Sem Bool} {Q : Value × List Value → Shared → Prop} (hf : s.heap.get? f = some (fnObj fd (some d))) (hd : s.heap.get? d = some (dictOf es n)) (hr : getL "read" es = some (some (.ref g)))
    (h : Q (.ref g, []) { s with toks := s.toks + 1 }) : wpAny (model prog w) A (getMethod (.ref f) "read" pl) Q E s := by
  obtain ⟨hp, gs, dr, tk, os⟩ := s
  dsimp only at hf hd h
  have L0 : Looks (model prog w) hp (typeOf (.ref f)) (.type "function") := (Looks.ld hf).andThen .now
  have L1 : Looks (model prog w) hp (typeLookup (.type "function") "__getattribute__") (some (.builtin "object.__getattribute__")) := Looks.of_pure lk_fn_ga
  have L2 : Looks (model prog w) hp (typeLookup (.type "function") "__getattr__") none := Looks.of_pure lk_fn_hook
  have L3 : Looks (model prog w) hp (typeLookup (.type "function") "read") none := Looks.of_pure lk_fn_read
  have L4 := looks_ns (M := model prog w) hd hr
  unfold getMethod specialOf
  refine wpAny_bind (wpAny_bind (L0.at (L1.at ?_)))
  dsimp only
  rw [show (Manifest.canonical "object.__getattribute__" != "object.__getattribute__") = false from by decide +kernel]
  simp only [Bool.false_eq_true, if_false]
  refine wpAny_bind (wpAny_bind (L0.at (L2.at ?_)))
  simp only [Option.isSome_none, Bool.false_eq_true, if_false]
  refine wpAny_bind (wpAny_bind (L0.at (L3.at ?_)))
  dsimp only
  refine wpAny_bind ?_
  unfold getAttr getAttrBy
  refine wpAny_bind (wpAny_mkText (wpAny_holding (wpAny_bind (L0.at (wpAny_bind (L1.at ?_))))))
  dsimp only
  simp only [onTheHeap, Bool.false_and, Bool.false_eq_true, if_false]
  unfold getAttrByItsOwn hookBefore callGetattribute boundAndCalled
  simp only [onTheHeap, Bool.false_eq_true, if_false, Bool.and_false]
  refine wpAny_bind (wpAny_pure (wpAny_bind (wpAny_attempt (wpAny_holding ?_))))
  rw [slot_fn_ga.bind]
  refine wpAny_bind (wpAny_pure (wpAny_call ?_))
  dsimp only [List.singleton_append]
  refine codeAny_call_builtin slot_fn_ga.plain entry_obj_ga (slot_fn_ga.check _ _ _ _ _ _ _ _ ⟨_, hf, rfl⟩ (args_obj_ga _ _) ?_)
  unfold Builtin.«object.__getattribute__»

  repeat lk

  exact h
end
end Mine

namespace Mine
open PySem PySem.W PyProof.Rows PySem.Calls PySem.Builtin PySem.Builtin.ObjectAttr
set_option maxHeartbeats 4000000
noncomputable abbrev citObj (q : Addr) (t : Tok) : Obj := { cls := .type "callable_iterator", data := .fields #[.ref q, .str "" t, .bool false] }
theorem slot_cit_iter : Slot "callable_iterator" "__iter__" "callable_iterator.__iter__" :=
  Slot.of (owner := "callable_iterator") (n := "__iter__") (by rw [typeLookup_type, builtinLookup_eq_fast]; kernel_rfl) (by decide +kernel) (by decide +kernel) (by decide +kernel)
    (by first | exact .inl (by decide +kernel) | exact .inr (by decide +kernel)) (by rw [isSubtype_type]; kernel_rfl)
theorem slot_cit_next : Slot "callable_iterator" "__next__" "callable_iterator.__next__" :=
  Slot.of (owner := "callable_iterator") (n := "__next__") (by rw [typeLookup_type, builtinLookup_eq_fast]; kernel_rfl) (by decide +kernel) (by decide +kernel) (by decide +kernel)
    (by first | exact .inl (by decide +kernel) | exact .inr (by decide +kernel)) (by rw [isSubtype_type]; kernel_rfl)
theorem entry_cit_next : entryFor table "callable_iterator.__next__" = some Builtin.«callable_iterator.__next__» := entryFor_of_fast (by kernel_rfl)
theorem entry_cit_iter : entryFor table "callable_iterator.__iter__" = some Builtin.«dict_keyiterator.__iter__» :=
  entryFor_alias (id' := "dict_keyiterator.__iter__") (by kernel_rfl) (by decide +kernel) (by decide +kernel) (by kernel_rfl)
theorem args_cit_iter (a : Value) : argsOk "callable_iterator.__iter__" ⟨[a], []⟩ := by unfold argsOk; kernel_rfl
theorem args_cit_next (a : Value) : argsOk "callable_iterator.__next__" ⟨[a], []⟩ := by unfold argsOk; kernel_rfl
theorem iter_kind : builtinKind "iter" = none := by decide +kernel
theorem iter_plain : plainId "iter" = true := by decide +kernel
theorem iter_entry : entryFor table "iter" = some Builtin.«iter» := entryFor_of_fast (by kernel_rfl)
theorem args_iter2 (a b : Value) : argsOk "iter" ⟨[a, b], []⟩ := by unfold argsOk; kernel_rfl
theorem lk_method_call : typeLookup (.type "method") "__call__" = pure (some (.builtin "method.__call__")) := by rw [typeLookup_type, builtinLookup_eq_fast]; kernel_rfl
section
variable {prog : Program} {w : World} {A : Around} {E : Value → Shared → Prop} {s : Shared} {h₀ : Heap} {L q it : Addr} {m : Str → Option Value} {news : List (Addr × Obj)} {f self : Value} {t : Tok}

theorem call_iter2 {Q : Value → Shared → Prop} (F : Fr h₀ L s.heap m) (N : News h₀ L s.heap news) (hq : s.heap.get? q = some (methodObj f self))
    (h : ∀ it h', Fr h₀ L h' m → News h₀ L h' ((it, citObj q t) :: news) → (∀ p ∈ news, p.1 < it) → Q (.ref it) { s with heap := h' }) :
    wpAny (model prog w) A (call (.builtin "iter") [.ref q, .str "" t]) Q E s := by
  obtain ⟨hp, gs, dr, tk, os⟩ := s
  dsimp only at F N hq h
  have L0 : Looks (model prog w) hp (typeOf (.ref q)) (.type "method") := (Looks.ld hq).andThen .now
  have L1 : Looks (model prog w) hp (typeLookup (.type "method") "__call__") (some (.builtin "method.__call__")) := Looks.of_pure lk_method_call
  refine call_function_entry iter_kind iter_plain iter_entry (args_iter2 _ _) ?_
  unfold Builtin.«iter»
  refine wpAny_bind (wpAny_of_eq (a := [.ref q, .str "" t]) (by kernel_rfl) ?_)
  dsimp only
  unfold specialOf
  refine wpAny_bind (wpAny_bind (L0.at (L1.at ?_)))
  simp only [Option.isNone_some, Bool.false_eq_true, if_false]
  refine wpAny_bind (wpAny_rule (wpAny_bind (wpAny_newObj_type ?_ (by size_fits))))
  exact wpAny_pure ⟨_, rfl, h _ _ (F.push _) (News.push F N _) (fun p hp' => Heap.lt_size (N p hp').1)⟩

theorem pyIter_cit {Q : Value → Shared → Prop} (hi : s.heap.get? it = some (citObj q t)) (h : Q (.ref it) s) : wpAny (model prog w) A (pyIter (.ref it)) Q E s := by
  have hT : s.TypeIs (.ref it) "callable_iterator" := ⟨_, hi, rfl⟩
  refine wpAny_pyIter_slot hT slot_cit_iter (wpAny_call_entry slot_cit_iter hT entry_cit_iter ?_ (args_cit_iter _))
  refine wpAny_of_eq (a := .done (.ret (.ref it))) (by kernel_rfl) ⟨_, rfl, "callable_iterator", _, hT, slot_cit_next.lookup, h⟩

/-- one step of the iterator: the call of the bound method gives a str x -/
theorem pyNext_cit {fa : Addr} {fo : Obj} {fd : FuncData} {Q : Option Value → Shared → Prop} (hh : A.handled = none) (hi : s.heap.get? it = some (citObj q t)) (hq : s.heap.get? q = some (methodObj (.ref fa) self))
    (hf : s.heap.get? fa = some fo) (hfd : fo.data = .func fd)
    (h : codeAny (model prog w) A.in1 (.call (.ref fa) ⟨[self], []⟩) (fun r s' => ∃ x u, r = .ok (.ret (.str x u)) ∧ s'.heap.get? it = some (citObj q t) ∧ s'.heap.get? q = some (methodObj (.ref fa) self) ∧ s'.heap.get? fa = some fo ∧
      (if x = "" then ∀ h', Heap.ExtBut it s'.heap h' → Q none { s' with heap := h' } else Q (some (.str x u)) s')) s) :
    wpAny (model prog w) A (pyNext (.ref it)) Q E s := by
  have hT : s.TypeIs (.ref it) "callable_iterator" := ⟨_, hi, rfl⟩
  have bor : ∀ {A : Around} {Q' : Bool → Shared → Prop} {E : Value → Shared → Prop} {s' : Shared}, s'.heap.get? q = some (methodObj (.ref fa) self) → s'.heap.get? fa = some fo → Q' true s' → wpAny (model prog w) A (borrowsExactly (.ref q)) Q' E s' := by
    intro A Q' E s' e1 e2 z
    unfold borrowsExactly
    refine wpAny_bind (wpAny_load e1 ?_)
    dsimp only
    rw [if_pos (by decide)]
    refine wpAny_bind (wpAny_load e2 ?_)
    rw [hfd]
    exact wpAny_pure z
  unfold pyNext
  refine wpAny_bind (wpAny_attempt (wpAny_callSpecial?_slot (name := Str.ofString "__next__") hT slot_cit_next
    (wpAny_call_entry slot_cit_next hT entry_cit_next ?_ (args_cit_next _))))
  show wpAny _ _ (field (.ref it) 2 >>= _) _ _ s
  refine wpAny_bind (wpAny_field hi rfl (x := .bool false) rfl ?_)
  show wpAny _ _ (if (Value.bool false == Value.bool true) = true then _ else _) _ _ s
  rw [if_neg (by decide)]
  unfold callOutOfASlot
  refine wpAny_bind (wpAny_field hi rfl (x := .ref q) rfl ?_)
  refine wpAny_bind (wpAny_attempt (wpAny_bind (bor hq hf ?_)))
  simp only [if_true]
  unfold callBorrowed
  refine X.y_start _ _ _ _ _ _ _ _ _ _ _ _ (by nofun) ?_
  refine method_call hq ?_
  refine codeAny_mono (A := A.in1) h fun r s' z => ?_
  obtain ⟨x, u, rfl, e1, e2, e3, z⟩ := z
  refine X.y_endOk _ _ _ _ _ _ _ _ _ _ rfl ?_
  refine wpAny_bind (wpAny_field e1 rfl (x := .bool false) rfl ?_)
  show wpAny _ _ (if (Value.bool false == Value.bool true) = true then _ else _) _ _ s'
  rw [if_neg (by decide)]
  refine wpAny_bind (wpAny_field e1 rfl (x := .str "" t) rfl (wpAny_bind (wpAny_holding (wpAny_eqBool_str ?_))))
  by_cases hx : x = ""
  · rw [if_pos hx] at z
    subst hx
    simp only [decide_true, Bool.not_true, Bool.false_eq_true, if_false]
    refine wpAny_bind (wpAny_rule (wpAny_bind ?_))
    show wpAny _ _ (field (.ref it) 0 >>= _) _ _ s'
    refine wpAny_bind (wpAny_field e1 rfl (x := .ref q) rfl ?_)
    refine wpAny_bind ?_
    unfold slotLetsGo
    refine wpAny_bind (bor e2 e3 ?_)
    simp only [if_true]
    refine wpAny_pure ?_
    refine wpAny_bind (wpAny_setField_rec e1 (by simp) fun h1 d1 b1 => ?_)
    refine wpAny_bind (wpAny_setField_rec d1 (by simp) fun h2 d2 b2 => ?_)
    refine wpAny_setField_rec d2 (by simp) fun h3 d3 b3 => ?_
    show wpAny _ _ (newExc (.type "StopIteration") [] >>= _) _ _ _
    refine wpAny_bind ?_
    simp only [newExc, newTuple]
    refine wpAny_bind (wpAny_newObj_type ?_ (by size_fits))
    refine wpAny_bind (m := firstArgMember _ _) (wpAny_of_eq (a := Value.none) (by first | rfl | (simp only [firstArgMember]; rfl)) ?_)
    refine wpAny_newObj_type ?_ (by size_fits)
    simp only [raiseNew]
    refine wpAny_bind (wpAny_handled ?_)
    rw [show A.in1.handled = none from hh]
    refine wpAny_bind (wpAny_pure (wpAny_throw ?_))
    refine wpAny_bind (wpAny_isInstance (T := "StopIteration") (b := true) ⟨_, Heap.get?_push_size _ rfl, rfl⟩ isSubtype_stop ?_)
    refine wpAny_pure (z _ ?_)
    exact (((b1.trans b2).trans b3).extBut.push _).push _
  · rw [if_neg hx] at z
    rw [decide_eq_false (fun e => hx e.symm)]
    simp only [Bool.not_false, if_true]
    exact wpAny_pure ⟨_, rfl, wpAny_pure z⟩
end
end Mine

namespace Mine
open PySem PySem.W PyProof.Rows PySem.Calls
set_option maxHeartbeats 4000000
section
variable {prog : Program} {w : World} {A : Around} {E : Value → Shared → Prop} {s : Shared}
/-- one turn of a for, the rest of the loop again as a code -/
theorem forLoop_turn {R : Result → Shared → Prop} {x : Str} {px : Pos} {it : Value} {body : List Stmt} {env : Env}
    (h : wpAny (model prog w) A (pyNext it) (fun r s₁ => match r with
      | none => R (.ok .next) s₁
      | some v => wpAny (model prog w) A (storeName env x v) (fun _ s₂ => wpAny (model prog w) A (execs body env) (fun f s₃ => match f with
          | .next | .cont => codeAny (model prog w) A (.forLoop (.Name x px) it body [] env) R s₃
          | .brk => R (.ok .next) s₃
          | .ret v => R (.ok (.ret v)) s₃) (notedBy (model prog w) A env fun e s' => R (.error e) s') s₂) (notedBy (model prog w) A env fun e s' => R (.error e) s') s₁) (notedBy (model prog w) A env fun e s' => R (.error e) s') s) :
    codeAny (model prog w) A (.forLoop (.Name x px) it body [] env) R s := by
  refine codeAny_of_tree ?_
  show wpAny _ _ ((forTurn (.Name x px) it body [] env).onRaise (fun x => do noteFrame x env; theTreesLotGoes x)) _ _ s
  refine wpAny_noted ?_
  simp only [forTurn]
  refine wpAny_bind (wpAny_standAt (wpAny_bind (wpAny_onRaise (wpAny_mono h (fun r s₁ h₁ => ?_) fun _ _ h' => wpAny_standAt h'))))
  cases r with
  | none => exact wpAny_pure ⟨rfl, codeAny_block (wpAny_execs_nil h₁)⟩
  | some v =>
    refine wpAny_bind (wpAny_of_eq (a := ()) (by rfl) ?_)
    refine wpAny_bind (wpAny_bind (wpAny_standAt (wpAny_bindName (wpAny_mono h₁ (fun _ s₂ h₂ => wpAny_bind (wpAny_mono h₂ (fun f s₃ h₃ => ?_) fun _ _ h' => h')) fun _ _ h' => h'))))
    cases f with
    | next => exact wpAny_pure ⟨rfl, h₃⟩
    | cont => exact wpAny_pure ⟨rfl, h₃⟩
    | brk => exact wpAny_pure h₃
    | ret v => exact wpAny_pure h₃
theorem wpAny_ForN {x y : Str} {px py pos : Pos} {body : List Stmt} {env : Env} {Q : Flow → Shared → Prop}
    (h : wpAny (model prog w) A (eval (.Name y py) env) (fun v s₁ => wpAny (model prog w) A (pyIter v) (fun it s₂ => codeAny (model prog w) A (.forLoop (.Name x px) it body [] env) (fun r s' => match r with | .ok f => Q f s' | .error e => cameBackBy (model prog w) A env E e s') s₂) E s₁) E s) :
    wpAny (model prog w) A (exec (.For (.Name x px) (.Name y py) body [] pos) env) Q E s := by
  rw [exec_For]
  refine wpAny_bind (wpAny_standAt (wpAny_bind (wpAny_mono h (fun v s₁ h₁ => ?_) fun _ _ e => e)))
  refine wpAny_bind (wpAny_of_eq (a := v) (by rfl) (wpAny_bind (wpAny_standAt (wpAny_bind (wpAny_holding (wpAny_mono h₁ (fun it s₂ h₂ => ?_) fun _ _ e => e))))))
  exact wpAny_runOwn h₂
end
end Mine

namespace Mine
open PySem PySem.W PyProof.Rows PySem.Calls PySem.Spec
set_option maxHeartbeats 4000000
open LCg
section
variable {prog : Program} {w : World} {A : Around} {E : Value → Shared → Prop} {s : Shared} {h₀ : Heap} {L : Addr} {m : Str → Option Value} {env : Env}
noncomputable def CompTxt (prog : Program) (w : World) (A : Around) (h₀ : Heap) (L : Addr) (m : Str → Option Value) (env : Env) (elt : Expr) (x : Str) (scope : Scope) (cl : List (Str × Addr)) (Q : Value → Shared → Prop) (xv : Value) (s₁ : Shared) : Prop :=
  ∃ txt tt news, xv = .str txt tt ∧ A.handled = none ∧ Fr h₀ L s₁.heap m ∧ News h₀ L s₁.heap news ∧ txt.cps.size ≤ sizeLine ∧
    ∀ s₂, (∃ hh, s₂ = { s₁ with heap := hh }) → CompRest prog w A h₀ L m env elt x scope cl s₂ (fun _ => True) (SignAt txt) (FinE h₀ L m s₂ Q) txt.cps.size 0 [] news
theorem ListComp_S {elt iter : Expr} {x : Str} {px : Pos} {scope : Scope} {cl : List (Str × Addr)} {pos : Pos} {Q : Value → Shared → Prop} (_F₀ : Fr h₀ L s.heap m)
    (hclos : closureFor scope env = pure cl) (hcell : ∀ y ∈ scope.names, y.2 ≠ .cell) (hkind : scope.kind = .function)
    (hnames : ∀ y ∈ scope.names, y.2 = .local → scope.names.lookup y.1 = some .local) (hx : scope.names.lookup x = some .local)
    (h : wpAny (model prog w) A (eval iter env) (CompTxt prog w A h₀ L m env elt x scope cl Q) E s)
    (hs : ∀ x, foldedSetIterable iter env x = pure x := by intro _; rfl) :
    wpAny (model prog w) A (eval (.ListComp elt [⟨.Name x px, iter, [], 0⟩] scope pos) env) Q E s := by
  rw [eval_ListComp]
  refine wpAny_comprehension_free (use := none) rfl hs hclos hkind hnames (wpAny_mono h (fun xv s₁ h₁ => ?_) fun _ _ e => e)
  obtain ⟨txt, tt, news, rfl, hh, F, N, hsz, R⟩ := h₁
  cases ha : txt.cps.all (· < 128)
  · refine wpAny_pyIter_wide ha ?_
    have up : ∀ b o', s₁.heap.get? b = some o' → (s₁.heap.push { cls := .type "str_iterator", data := .fields #[.str txt tt, .int 0 0] }).get? b = some o' := fun b o e => Heap.get?_push_of_some _ e
    refine block_U (Walks.strWide hh _ txt tt) hsz (fun i h st => by obtain ⟨o, e, _⟩ := st; exact ⟨o, e⟩) (fun i h h' o nw st e e' _ _ _ => by obtain ⟨o', q, r⟩ := st; rw [e] at q; cases q; exact ⟨o, e', r⟩) hcell hkind hx ⟨_, Heap.get?_push_size _ rfl, rfl, rfl⟩ (fun b hb => ?_)
      (F.keeps up) (N.grown up) (Nat.ne_of_lt F.ns.lt) (next_is_new F) (fun p hp => Nat.ne_of_lt (Heap.lt_size (N p hp).1)) trivial (R _ ⟨_, rfl⟩) ?_
    · rw [List.mem_singleton.mp hb]
      show s₁.heap.objs.size < (s₁.heap.push _).objs.size
      rw [Heap.size_push]; exact Nat.lt_succ_self _
    · intro D C h tk m' ys news' F' N' o1 hn hC₀ hD₀ hCL hDL hCD offC fin
      refine ⟨m', hn, fun h'' hs'' => fin D h'' tk (F'.change hs'' hCL hC₀) (fun p hp => ?_) o1⟩
      refine ⟨hs''.extBut _ _ ?_ (N' p hp).1, (N' p hp).2⟩
      rcases List.mem_cons.mp hp with rfl | hp
      · exact Ne.symm hCD
      · exact offC p hp
  · refine wpAny_pyIter_ascii ha ?_
    have up : ∀ b o', s₁.heap.get? b = some o' → (s₁.heap.push { cls := .type "str_ascii_iterator", data := .fields #[.str txt tt, .int 0 0] }).get? b = some o' := fun b o e => Heap.get?_push_of_some _ e
    refine block_U (Walks.strAscii hh _ txt tt) hsz (fun i h st => by obtain ⟨o, e, _⟩ := st; exact ⟨o, e⟩) (fun i h h' o nw st e e' _ _ _ => by obtain ⟨o', q, r⟩ := st; rw [e] at q; cases q; exact ⟨o, e', r⟩) hcell hkind hx ⟨_, Heap.get?_push_size _ rfl, rfl, rfl⟩ (fun b hb => ?_)
      (F.keeps up) (N.grown up) (Nat.ne_of_lt F.ns.lt) (next_is_new F) (fun p hp => Nat.ne_of_lt (Heap.lt_size (N p hp).1)) trivial (R _ ⟨_, rfl⟩) ?_
    · rw [List.mem_singleton.mp hb]
      show s₁.heap.objs.size < (s₁.heap.push _).objs.size
      rw [Heap.size_push]; exact Nat.lt_succ_self _
    · intro D C h tk m' ys news' F' N' o1 hn hC₀ hD₀ hCL hDL hCD offC fin
      refine ⟨m', hn, fun h'' hs'' => fin D h'' tk (F'.change hs'' hCL hC₀) (fun p hp => ?_) o1⟩
      refine ⟨hs''.extBut _ _ ?_ (N' p hp).1, (N' p hp).2⟩
      rcases List.mem_cons.mp hp with rfl | hp
      · exact Ne.symm hCD
      · exact offC p hp
end
end Mine

namespace Mine
open PySem PySem.W PyProof.Rows PySem.Calls PySem.Spec
set_option maxHeartbeats 4000000
open LCg
section
variable {prog : Program} {w : World} {A : Around} {E : Value → Shared → Prop} {s : Shared} {h₀ : Heap} {L : Addr} {m : Str → Option Value} {env : Env}
noncomputable def TxtsAre : List Value → List Str → Prop
  | [], [] => True
  | .str x _ :: vs, y :: ys => x = y ∧ TxtsAre vs ys
  | _, _ => False
theorem TxtsAre.snoc : ∀ {vs : List Value} {ys : List Str} {x : Str} {t : Tok}, TxtsAre vs ys → TxtsAre (vs ++ [.str x t]) (ys ++ [x])
  | [], [], _, _, _ => ⟨rfl, trivial⟩
  | .str _ _ :: _, _ :: _, _, _, h => ⟨h.1, h.2.snoc⟩
theorem compTxt_of {elt : Expr} {x : Str} {scope : Scope} {cl : List (Str × Addr)} {txt : Str} {news : List (Addr × Obj)} {Fin : List Value → List (Addr × Obj) → Prop} (f : Nat → Str)
    (step : ∀ c u I oI C oC D m₂ h tk (E' : Value → Shared → Prop) ys, c ∈ txt.cps.toList → NsObj oC m₂ → m₂ x = some (.str ⟨#[c]⟩ u) → Fr h₀ L h m → News h₀ L h ((I, oI) :: (C, oC) :: (D, lst ys) :: news) →
      wpAny (model prog w) A (eval elt (compEnvC scope cl C env)) (fun y s₂ => ∃ h' tk' t, s₂ = { s with heap := h', toks := tk' } ∧ Fr h₀ L h' m ∧ News h₀ L h' ((I, oI) :: (C, oC) :: (D, lst ys) :: news) ∧ y = .str (f c) t) E' { s with heap := h, toks := tk })
    (fin : ∀ ys, TxtsAre ys (txt.cps.toList.map f) → Fin ys news) :
    ∀ (k i : Nat) (ys : List Value), i + k = txt.cps.size → TxtsAre ys ((txt.cps.toList.take i).map f) → CompRest prog w A h₀ L m env elt x scope cl s (fun _ => True) (SignAt txt) Fin k i ys news
  | 0, i, ys, hk, hy => by
    refine .zero (fin ys ?_)
    rwa [List.take_of_length_le (by simp; omega)] at hy
  | k + 1, i, ys, hk, hy => by
    refine .succ fun v I oI C oC D m₂ h tk E' hP hns hm F N off hne => ?_
    obtain ⟨c, u, hc, rfl⟩ := hP
    have hc' : txt.cps.toList[i]? = some c := by simpa using hc
    refine wpAny_mono (step c u I oI C oC D m₂ h tk E' ys (List.mem_of_getElem? hc') hns hm F N) (fun y s₂ hq => ?_) fun _ _ e => e
    obtain ⟨h', tk', t, rfl, F', N', rfl⟩ := hq
    refine CompEnd.intro (s₁ := { s with heap := h, toks := tk }) F' N' news (fun p hp => hp) off trivial (compTxt_of f step fin k (i + 1) _ (by omega) ?_)
    rw [List.take_succ, hc', Option.toList_some, List.map_append]
    exact hy.snoc
theorem sumTwo {f : Nat → Str} (hf : ∀ c, (f c).length ≤ 2) : ∀ l : List Nat, ((l.map f).map (·.length)).sum ≤ 2 * l.length
  | [] => Nat.le_refl _
  | c :: l => by
    have h1 := hf c
    have h2 := sumTwo hf l
    simp only [List.map_cons, List.sum_cons, List.length_cons]
    omega
end
end Mine

namespace Mine
open PySem PySem.W PyProof.Rows PySem.Calls PySem.Spec
set_option maxHeartbeats 4000000
theorem pickN {vs : List Value} {ns : List Int} (h : IntsAre vs ns) (k : Nat) : IntsAre (slicePick vs.toArray none (some (k : Int)) none).toList (ns.take k) := by
  have e : sliceBounds none (some (k : Int)) none vs.toArray.size = (((0 : Nat) : Int), ((min k vs.length : Nat) : Int), 1) := by
    unfold sliceBounds
    have h1 : ¬ ((k : Int) < 0) := by omega
    simp only [h1, if_false, Option.getD_none, List.size_toArray]
    have h2 : max (0 : Int) (min (k : Int) (vs.length : Int)) = ((min k vs.length : Nat) : Int) := by omega
    simp [h2]
  rw [kmk_pick_nat vs.toArray e]
  have e2 : (List.take (min k vs.length - 0) (List.drop 0 vs.toArray.toList)).toArray.toList = vs.take k := by
    simp [List.take_eq_take_min (l := vs) (i := k)]
  rw [e2]
  exact h.take k
theorem intsLen {vs : List Value} {ns : List Int} (h : IntsAre vs ns) (hn : ns.length ≤ 1000) : vs.toArray.size ≤ sizeLine := by
  have e : vs.length = ns.length := h.length
  rw [List.size_toArray, e]
  exact Nat.le_trans hn (Nat.le_of_ble_eq_true rfl)
theorem itemsRest_of2 {prog : Program} {w : World} {A : Around} {E : Value → Shared → Prop} {h₀ : Heap} {env : Env} {target : Expr} {body : List Stmt} {Q : Flow → Shared → Prop} {s : Shared} {ws : List (Addr × String)} {keep : List (Addr × Obj)} (Inv : List Value → (Str → Option Value) → List (Addr × Obj) → Prop)
    (zero : ∀ m news, Inv [] m news → ∀ h tk, Fr h₀ env.locals h m → News h₀ env.locals h news → Q .next { s with heap := h, toks := tk })
    (succ : ∀ v r m news, Inv (v :: r) m news → (∀ m' news', Inv r m' news' → ItemsRest prog w A E h₀ env target body Q s ws keep (r.map .val) m' news') → ItemsRest prog w A E h₀ env target body Q s ws keep (.val v :: r.map .val) m news) :
    ∀ vs m news, Inv vs m news → ItemsRest prog w A E h₀ env target body Q s ws keep (vs.map .val) m news
  | [], m, news, h => .zero (zero m news h)
  | v :: r, m, news, h => succ v r m news h (itemsRest_of2 Inv zero succ r)
end Mine

namespace Mine
open PySem PySem.W PyProof.Rows PySem.Calls PySem.Spec
set_option maxHeartbeats 4000000
open LCg
section
variable {prog : Program} {w : World} {A : Around} {E : Value → Shared → Prop} {s : Shared} {h₀ : Heap} {L : Addr} {m : Str → Option Value} {env : Env}
theorem compInv {elt : Expr} {x : Str} {scope : Scope} {cl : List (Str × Addr)} {S : List (Addr × Obj) → Prop} {P : Nat → Value → Prop} {Fin : List Value → List (Addr × Obj) → Prop} (n : Nat) (Inv : Nat → List Value → List (Addr × Obj) → Prop)
    (fin : ∀ ys news, Inv n ys news → Fin ys news)
    (step : ∀ i ys news v I oI C oC D m₂ h tk (E' : Value → Shared → Prop), i < n → Inv i ys news → P i v → NsObj oC m₂ → m₂ x = some v → Fr h₀ L h m → News h₀ L h ((I, oI) :: (C, oC) :: (D, lst ys) :: news) → Off3 I C D news → ((@Ne Nat I C) ∧ (@Ne Nat I D) ∧ (@Ne Nat C D)) →
      wpAny (model prog w) A (eval elt (compEnvC scope cl C env)) (fun y s₂ => ∃ h' tk' news', s₂ = { s with heap := h', toks := tk' } ∧ Fr h₀ L h' m ∧ News h₀ L h' ((I, oI) :: (C, oC) :: (D, lst ys) :: news') ∧ Off3 I C D news' ∧ S news' ∧ Inv (i + 1) (ys ++ [y]) news') E' { s with heap := h, toks := tk }) :
    ∀ (k i : Nat) (ys : List Value) (news : List (Addr × Obj)), i + k = n → Inv i ys news → CompRest prog w A h₀ L m env elt x scope cl s S P Fin k i ys news
  | 0, i, ys, news, hk, hi => .zero (fin ys news (by rw [show n = i by omega]; exact hi))
  | k + 1, i, ys, news, hk, hi => by
    refine .succ fun v I oI C oC D m₂ h tk E' hP hns hm F N off hne => ?_
    refine wpAny_mono (step i ys news v I oI C oC D m₂ h tk E' (by omega) hi hP hns hm F N off hne) (fun y s₂ hq => ?_) fun _ _ e => e
    obtain ⟨h', tk', news', rfl, F', N', off', S', hi'⟩ := hq
    exact CompEnd.intro (s₁ := { s with heap := h, toks := tk }) F' N' news' (fun p hp => hp) off' S' (compInv n Inv fin step k (i + 1) _ _ (by omega) hi')
end
end Mine

namespace Mine
open PySem PySem.W PyProof.Rows PySem.Calls PySem.Spec
set_option maxHeartbeats 4000000
section
variable {prog : Program} {w : World} {A : Around} {E : Value → Shared → Prop} {s : Shared} {env : Env} {h₀ : Heap} {x : Str} {pos : Pos} {body : List Stmt} {Q : Flow → Shared → Prop}
noncomputable def rngItems (a : Int) (n : Nat) : List Itm := (List.range n).map fun i => .tok fun t => .int (a + (i : Nat)) t
theorem iter_rangeTurns {r : Addr} {a b : Int} {t₀ u₀ v₀ : Tok} {n : Nat} {m₀ : Str → Option Value} {news : List (Addr × Obj)}
    (hh : A.handled = none) (F : Fr h₀ env.locals s.heap m₀) (N : News h₀ env.locals s.heap news) (hr : IsRange s.heap r a b 1 t₀ u₀ v₀) (hsmall : Builtin.Range.small a b 1 = true) (hn : Builtin.Range.rangeSize a b 1 = (n : Int))
    (rest₀ : ∀ I : Addr, (∀ p ∈ news, p.1 < I) → ItemsRest prog w A E h₀ env (.Name x pos) body Q s [(I, "range_iterator")] [] (rngItems a n) m₀ news) :
    wpAny (model prog w) A (pyIter (.ref r)) (fun it s₂ => TurnsAt prog w A h₀ env (.Name x pos) body Q E it s₂) E s := by
  refine wpAny_pyIter_range hr hsmall ?_
  refine ktu_core (tk0 := s.toks) (keep := []) (ws := [(s.heap.objs.size, "range_iterator")]) (KTurns.ofWalks (Walks.range hh s.heap.objs.size a 1 n).bound fun i v s Q E st q => ?_) (by simp [rngItems]) (fun i v h hp => ?_) (fun i h st => ⟨[(s.heap.objs.size, _)], ⟨⟨rfl, rfl⟩, trivial⟩, fun p hp => by rw [List.mem_singleton.mp hp]; exact st⟩) (fun b hb => ?_) (fun b hb => by simpa using hb) (fun b hb => .inl (by simpa using hb)) ?_ (fun p hp hI => ?_) (by show IsRangeIter _ _ _ _ _; rw [hn]; simpa using Heap.get?_push_size _ rfl) (F.push _) (fun p hp => ⟨Heap.get?_push_of_some _ (N p hp).1, (N p hp).2⟩) trivial (rest₀ _ fun p hp => Heap.lt_size (N p hp).1)
  · unfold letOwnedTupleGo
    exact wpAny_pure q
  · obtain ⟨hi, t, e⟩ := hp
    refine ⟨.tok fun t => .int (a + (i : Nat)) t, ?_, t, ?_⟩
    · unfold rngItems
      rw [List.getElem?_map, List.getElem?_range hi]
      rfl
    · rw [e, Int.mul_one]
  · have hb' : b = s.heap.objs.size := by simpa using hb
    rw [hb']
    exact ⟨List.mem_cons_self .., next_is_new F⟩
  · intro hI
    exact absurd F.ns.lt ((List.mem_singleton.mp hI) ▸ Nat.lt_irrefl _)
  · exact absurd (Heap.lt_size (N p hp).1) ((List.mem_singleton.mp hI) ▸ Nat.lt_irrefl _)
theorem rngSmall {a b : Int} (h1 : -1000000 < a) (h2 : a ≤ b) (h3 : b < 1000000) : Builtin.Range.small a b 1 = true ∧ Builtin.Range.rangeSize a b 1 = ((b - a).toNat : Int) := by
  have e := rangeSize_nat a b
  refine ⟨?_, e⟩
  unfold Builtin.Range.small
  rw [e]
  unfold Builtin.Range.rangeFitsLong
  simp only [Bool.and_eq_true, Bool.or_eq_true, decide_eq_true_eq]
  refine ⟨⟨⟨⟨?_, ?_⟩, ?_⟩, ?_⟩, .inr ?_⟩
  all_goals (try simp only [show ((1:Int) > 0) from by decide, if_true, decide_eq_true_eq, Bool.and_eq_true])
  all_goals first | (constructor <;> omega) | omega
/-- for x in range(n) and range(a, b) -/
theorem for_range1 {b : Int} {t : Tok} {m₀ : Str → Option Value} {news : List (Addr × Obj)}
    (hh : A.handled = none) (F : Fr h₀ env.locals s.heap m₀) (N : News h₀ env.locals s.heap news) (h0 : 0 ≤ b) (h1 : b < 1000000)
    (rest₀ : ∀ h tk, ∀ I : Addr, (∀ p ∈ news, p.1 < I) → ItemsRest prog w A E h₀ env (.Name x pos) body Q { s with heap := h, toks := tk } [(I, "range_iterator")] [] (rngItems 0 b.toNat) m₀ news) :
    wpAny (model prog w) A (call (.type "range") [.int b t]) (fun xv s₁ => wpAny (model prog w) A (pyIter xv) (fun it s₂ => TurnsAt prog w A h₀ env (.Name x pos) body Q E it s₂) E s₁) E s := by
  refine range1_rows F N fun h' tk t₁ u₁ v₁ hr F' N' _ => ?_
  have z := rngSmall (a := 0) (b := b) (by omega) h0 h1
  rw [Int.sub_zero] at z
  exact iter_rangeTurns hh F' N' hr z.1 z.2 (rest₀ h' tk)
theorem for_range2 {a b : Int} {t u : Tok} {m₀ : Str → Option Value} {news : List (Addr × Obj)}
    (hh : A.handled = none) (F : Fr h₀ env.locals s.heap m₀) (N : News h₀ env.locals s.heap news) (h2 : 0 ≤ a) (h0 : a ≤ b) (h1 : b < 1000000)
    (rest₀ : ∀ h tk, ∀ I : Addr, (∀ p ∈ news, p.1 < I) → ItemsRest prog w A E h₀ env (.Name x pos) body Q { s with heap := h, toks := tk } [(I, "range_iterator")] [] (rngItems a (b - a).toNat) m₀ news) :
    wpAny (model prog w) A (call (.type "range") [.int a t, .int b u]) (fun xv s₁ => wpAny (model prog w) A (pyIter xv) (fun it s₂ => TurnsAt prog w A h₀ env (.Name x pos) body Q E it s₂) E s₁) E s := by
  refine range2_rows F N fun h' tk t₁ u₁ v₁ hr F' N' _ => ?_
  have z := rngSmall (a := a) (b := b) (by omega) h0 h1
  exact iter_rangeTurns hh F' N' hr z.1 z.2 (rest₀ h' tk)
/-- the turns of a range by an invariant over the turn's number -/
theorem rngRest {ws : List (Addr × String)} (a : Int) (n : Nat) (Inv : Nat → (Str → Option Value) → List (Addr × Obj) → Prop) {target : PySem.Expr}
    (zero : ∀ m news, Inv n m news → ∀ h tk, Fr h₀ env.locals h m → News h₀ env.locals h news → Q .next { s with heap := h, toks := tk })
    (succ : ∀ i m news, i < n → Inv i m news → ∀ r, (∀ m' news', Inv (i + 1) m' news' → ItemsRest prog w A E h₀ env target body Q s ws [] r m' news') → ItemsRest prog w A E h₀ env target body Q s ws [] ((.tok fun t => .int (a + (i : Nat)) t) :: r) m news) :
    ∀ m news, Inv 0 m news → ItemsRest prog w A E h₀ env target body Q s ws [] (rngItems a n) m news := by
  have key : ∀ k i m news, i + k = n → Inv i m news → ItemsRest prog w A E h₀ env target body Q s ws [] ((List.range' i k).map fun i => .tok fun t => .int (a + (i : Nat)) t) m news := by
    intro k
    induction k with
    | zero => intro i m news e hi; exact .zero (zero m news (by rw [← e]; exact hi))
    | succ k ih =>
      intro i m news e hi
      rw [List.range'_succ, List.map_cons]
      exact succ i m news (by omega) hi _ fun m' news' hi' => ih (i + 1) m' news' (by omega) hi'
  intro m news hi
  unfold rngItems
  rw [List.range_eq_range']
  exact key n 0 m news (by omega) hi
end
end Mine

namespace Mine
noncomputable abbrev P1 : Program := PySem.Challenge.rw_tr0043_02.row.prog
noncomputable def fnBody : Stmt → List Stmt
  | .FunctionDef _ _ b _ _ _ _ _ _ _ => b
  | _ => []
noncomputable def fnArgs : Stmt → Arguments
  | .FunctionDef _ a _ _ _ _ _ _ _ _ => a
  | _ => ⟨[], [], none, [], [], none, []⟩
noncomputable def fnScope : Stmt → Scope
  | .FunctionDef _ _ _ _ _ _ s _ _ _ => s
  | _ => { kind := .function, names := [], isGenerator := false, isCoroutine := false, more := [] }
noncomputable def lexStmt : Stmt := PySem.Challenge.pw_tr0043_02.main.body.getD 59 (.Pass ⟨0, 0, 0, 0⟩)
noncomputable def readStmt : Stmt := (fnBody lexStmt).getD 1 (.Pass ⟨0, 0, 0, 0⟩)
noncomputable def readB0 : {x : List Stmt // x = fnBody readStmt} := by
  refine ⟨?x, ?h⟩
  case h => (conv => rhs; whnf); try exact rfl
noncomputable def readS0 : {x : Scope // x = fnScope readStmt} := by
  refine ⟨?x, ?h⟩
  case h => (conv => rhs; whnf); try exact rfl
noncomputable def readA0 : {x : Arguments // x = fnArgs readStmt} := by
  refine ⟨?x, ?h⟩
  case h => (conv => rhs; whnf); try exact rfl
noncomputable abbrev readB : List Stmt := readB0.1
noncomputable abbrev readS : Scope := readS0.1
noncomputable abbrev readA : Arguments := readA0.1
end Mine

local macro_rules | `(tactic| k_mem) => `(tactic| (first | with_reducible assumption | (refine List.mem_cons_of_mem _ ?_; k_mem)))
namespace Mine
set_option maxHeartbeats 8000000
theorem besideN {d b : Addr} {X o : Obj} {own rest : List (Addr × Obj)} (hne : X ≠ o) (h : (b, X) ∈ own ++ (d, o) :: rest) : (b, X) ∈ own ++ rest := by
  rcases List.mem_append.mp h with z | z
  · exact List.mem_append_left _ z
  · rcases List.mem_cons.mp z with z | z
    · exact absurd (Prod.mk.inj z).2 hne
    · exact List.mem_append_right _ z
theorem offApp {d : Addr} {own rest : List (Addr × Obj)} (h1 : ∀ p ∈ own, p.1 ≠ d) (h2 : ∀ p ∈ rest, p.1 ≠ d) : OwnOff (own ++ rest) [d] := fun p hp b hb => by
  rw [List.mem_singleton.mp hb]
  exact (List.mem_append.mp hp).elim (h1 p) (h2 p)
theorem newsFront {h₀ h : Heap} {L d : Addr} {o : Obj} {own rest : List (Addr × Obj)} (N : News h₀ L h (own ++ (d, o) :: rest)) : News h₀ L h ((d, o) :: (own ++ rest)) := fun p hp => N p (by
  rcases List.mem_cons.mp hp with rfl | hp
  · exact List.mem_append_right _ (.head _)
  · exact (List.mem_append.mp hp).elim (fun z => List.mem_append_left _ z) fun z => List.mem_append_right _ (.tail _ z))
theorem newsBack {h₀ h : Heap} {L d : Addr} {o : Obj} {own rest : List (Addr × Obj)} (N : News h₀ L h ((d, o) :: (own ++ rest))) : News h₀ L h (own ++ (d, o) :: rest) := fun p hp => N p (by
  rcases List.mem_append.mp hp with hp | hp
  · exact .tail _ (List.mem_append_left _ hp)
  · rcases List.mem_cons.mp hp with rfl | hp
    · exact .head _
    · exact .tail _ (List.mem_append_right _ hp))
theorem read_ok (w : World) (dp un : Nat) (gd : Option (List Code)) (cn : Str) (cs : Scope) (a : Addr) (ccd : Value) (cl : List (Str × Addr)) (outer : List Env) (A₀ : Around) (base h₀ : Heap) (L : Addr) (m : Str → Option Value) (s : Shared) (p : Program) (loose : List Str) (mean : ExcName → Option Value) (mg mb : Str → Option Value)
    (Q E : Value → Shared → Prop)
    (B : Below A₀ base outer h₀) (F : Fr h₀ L s.heap m) (X : (wPart w.params).In h₀) (T : Top p loose mean mg mb h₀) (hk : cs.kind = .function)
    (hcd : CodeHd base 123 119) (hd : dp + 10 < 1000) (hu : un + 100 < 9900)
  (R : List (Addr × Obj)) {fr cr cA cT at_ : Addr} {ocr oA oT : Obj} {vs : Array Value} {qual : Str} {tq : Tok} {doc pm ctv : Value} {text : Str} {tt : Tok} {pos : Int} {tp tc : Tok} {kk : Nat}
  (N : News h₀ L s.heap ((at_, W.listOf #[.int pos tp] kk) :: R))
  (h1 : (fr, fnMade "read" qual readA readB readS [("text", cT), ("at", cA)] doc pm cr ctv) ∈ R)
  (h2 : (cr, ocr) ∈ R) (h2d : ocr.data = .fields vs) (h2v : vs[1]? = some (.str qual tq))
  (h3 : (cA, oA) ∈ R) (h3d : oA.data = .cell (some (.ref at_)))
  (h4 : (cT, oT) ∈ R) (h4d : oT.data = .cell (some (.str text tt)))
  (hoff : OwnOff R [at_]) (hlen : text.length ≤ 10000) (hpos : 0 ≤ pos ∧ pos ≤ 20000)
  (ret : ∀ h' tk' u k' u2 i j j', i = pos → j = pos + 1 → j' = pos + 1 → Fr h₀ L h' m → News h₀ L h' ((at_, W.listOf #[.int j' u] k') :: R) → Q (.str (Txt.slice text (some i) (some j)) u2) { s with heap := h', toks := tk' }) :
    wpAny (model P1 w) (ktrTop dp un gd cn cs L a ccd cl outer) (call (.ref fr) [.int 1 tc]) Q E s := by
  dsimp only [readA, readB, readS, readA0, readB0, readS0] at h1
  refine wpAny_call ?_
  k_dflt (refine' code_nest ?k1 ?k2 ?k3 ?k4 ?k5 ?kA ?kF ?kK ?k6 ?k7 ?k8 ?k9 ?kB ?_ ?c2 ?c3 ?c4 ?c5; (case kA => exact rfl); (case kF => exact rfl); (case kK => assumption); (case k1 => k_asm); (case k2 => k_asm); (case k3 => k_asm); (case k4 => k_asm); (case k5 => k_asm); (case k6 => exact .tail _ h1); (case k7 => exact codeRec_news N (.tail _ h2) h2d h2v); (case k8 => show _ < 1000; dsimp only [ktrTop]; omega); (case k9 => exact BindsTo.of_eq rfl); (case c5 => decide); (case kB => exact locs rfl); (case c2 => exact rfl); (case c3 => exact rfl); (case c4 => exact rfl); k_whole; intro g' L' h' FG' F' N' B' X' T'; (try dsimp only))
  k_steps
  rename Fr h₀ _ _ _ => kF
  rename News h₀ _ _ _ => kN
  exact ret _ _ _ _ _ _ _ _ (by simp) (by simp) (by simp) kF kN

theorem read_okU (w : World) (dp un : Nat) (gd : Option (List Code)) (cn : Str) (cs : Scope) (a : Addr) (ccd : Value) (cl : List (Str × Addr)) (outer : List Env) (A₀ : Around) (base h₀ : Heap) (L : Addr) (m : Str → Option Value) (s : Shared) (p : Program) (loose : List Str) (mean : ExcName → Option Value) (mg mb : Str → Option Value)
    (Q E : Value → Shared → Prop)
    (B : Below A₀ base outer h₀) (F : Fr h₀ L s.heap m) (X : (wPart w.params).In h₀) (T : Top p loose mean mg mb h₀) (hk : cs.kind = .function)
    (hcd : CodeHd base 123 119) (hd : dp + 10 < 1000) (hu : un + 100 < 9900)
  {news : List (Addr × Obj)} {g : Obj → List (Addr × Obj)} {fr cr cA cT at_ : Addr} {ocr oA oT : Obj} {vs : Array Value} {qual : Str} {tq : Tok} {doc pm ctv : Value} {text : Str} {tt : Tok} {pos : Int} {tp tc : Tok} {kk : Nat}
  (N : News h₀ L s.heap news)
  (h1 : (fr, fnMade "read" qual readA readB readS [("text", cT), ("at", cA)] doc pm cr ctv) ∈ news)
  (h2 : (cr, ocr) ∈ news) (h2d : ocr.data = .fields vs) (h2v : vs[1]? = some (.str qual tq))
  (h3 : (cA, oA) ∈ news) (h3d : oA.data = .cell (some (.ref at_)))
  (h4 : (cT, oT) ∈ news) (h4d : oT.data = .cell (some (.str text tt)))
  (U : UpdF at_ (W.listOf #[.int pos tp] kk) news g)
  (hlen : text.length ≤ 10000) (hpos : 0 ≤ pos ∧ pos ≤ 20000)
  (ret : ∀ h' tk' u k' u2 i j j', i = pos → j = pos + 1 → j' = pos + 1 → Fr h₀ L h' m → News h₀ L h' (g (W.listOf #[.int j' u] k')) → Q (.str (Txt.slice text (some i) (some j)) u2) { s with heap := h', toks := tk' }) :
    wpAny (model P1 w) (ktrTop dp un gd cn cs L a ccd cl outer) (call (.ref fr) [.int 1 tc]) Q E s := by
  obtain ⟨own, rest, rfl, hg, a1, a2⟩ := U.split
  refine read_ok w dp un gd cn cs a ccd cl outer A₀ base h₀ L m s p loose mean mg mb Q E B F X T hk hcd hd hu (own ++ rest) (newsFront N) (besideN (fun e => by have z := congrArg Obj.data e; cases z) h1) (besideN (fun e => by rw [e] at h2d; cases h2d) h2) h2d h2v (besideN (fun e => by rw [e] at h3d; cases h3d) h3) h3d (besideN (fun e => by rw [e] at h4d; cases h4d) h4) h4d (offApp a1 a2) hlen hpos ?_
  intro h' tk' u k' u2 i j j' e1 e2 e3 F' N'
  exact ret h' tk' u k' u2 i j j' e1 e2 e3 F' (by rw [hg]; exact newsBack N')
end Mine

namespace Mine
set_option maxHeartbeats 8000000
noncomputable abbrev lexD (w : World) (n : Int) (tn : Tok) (st pb : Addr) (t1 t2 t3 t4 t5 : Tok) : Obj :=
  dictOf [⟨PyData.keyHash w.params "lineno", .str "lineno" t1, .int n tn⟩, ⟨PyData.keyHash w.params "instream", .str "instream" t2, .ref st⟩, ⟨PyData.keyHash w.params "whitespace", .str "whitespace" t3, .str "\n\t\r " t4⟩, ⟨PyData.keyHash w.params "pushback", .str "pushback" t5, .ref pb⟩] 4
/-- what of the lexer stands and never turns -/
noncomputable def LexIn (w : World) (R : List (Addr × Obj)) (lx dx st at_ : Addr) (text : Str) : Prop :=
  ∃ (sd fr cr cA cT : Addr) (ocr oA oT : Obj) (fdS : FuncData) (vs : Array Value) (qual : Str) (tq : Tok) (doc pm ctv : Value) (tk1 tt : Tok),
    (lx, instObj 59 dx) ∈ R ∧ (st, fnObj fdS (some sd)) ∈ R ∧ (sd, dictOf [⟨PyData.keyHash w.params "read", .str "read" tk1, .ref fr⟩] 1) ∈ R ∧
    (fr, fnMade "read" qual readA readB readS [("text", cT), ("at", cA)] doc pm cr ctv) ∈ R ∧ (cr, ocr) ∈ R ∧ ocr.data = .fields vs ∧ vs[1]? = some (.str qual tq) ∧
    (cA, oA) ∈ R ∧ oA.data = .cell (some (.ref at_)) ∧ (cT, oT) ∈ R ∧ oT.data = .cell (some (.str text tt))
theorem LexIn.mono {w : World} {R R' : List (Addr × Obj)} {lx dx st at_ : Addr} {text : Str} (h : LexIn w R lx dx st at_ text) (hs : ∀ p ∈ R, p ∈ R') : LexIn w R' lx dx st at_ text := by
  obtain ⟨sd, fr, cr, cA, cT, ocr, oA, oT, fdS, vs, qual, tq, doc, pm, ctv, tk1, tt, i1, i2, i3, h1, h2, h2d, h2v, h3, h3d, h4, h4d⟩ := h
  exact ⟨sd, fr, cr, cA, cT, ocr, oA, oT, fdS, vs, qual, tq, doc, pm, ctv, tk1, tt, hs _ i1, hs _ i2, hs _ i3, hs _ h1, hs _ h2, h2d, h2v, hs _ h3, h3d, hs _ h4, h4d⟩
local macro_rules | `(tactic| walk_at "getMethod ref") => `(tactic| (k_here; (with_reducible show wpAny _ _ (getMethod (Value.ref _) (PySem.Str.ofString "read") _) _ _ _); k_dflt (refine' getMethod_fn ?k1 ?k2 ?k3 ?_; (case k1 => exact News.get (by k_asm) (by k_mem)); (case k2 => exact News.get (by k_asm) (by k_mem)); (case k3 => k_get); k_whole)))
local macro_rules | `(tactic| walk_at "call ref") => `(tactic| (k_here; (with_reducible show wpAny _ _ (call (Value.ref _) [Value.int _ _]) _ _ _); k_dflt (refine' read_okU _ _ _ _ _ _ _ _ _ _ _ _ _ _ _ _ _ _ _ _ _ _ _ ?B ?F ?X ?T ?hk ?hcd ?hd ?hu ?N ?h1 ?h2 ?h2d ?h2v ?h3 ?h3d ?h4 ?h4d ?U ?hlen ?hpos ?_; (case B => k_asm); (case F => k_asm); (case X => k_asm); (case T => k_asm); (case hk => first | rfl | assumption); (case hcd => assumption); (case N => k_asm); (case h1 => k_mem); (case h2 => k_mem); (case h2d => assumption); (case h2v => assumption); (case h3 => k_mem); (case h3d => assumption); (case h4 => k_mem); (case h4d => assumption); (case U => k_updF); (case hlen => assumption); (case hpos => assumption); (case hd => show _ + 1 + 10 < 1000; dsimp only [ktrTop]; omega); (case hu => show _ + 3 + 100 < 9900; dsimp only [ktrTop]; omega); k_whole; intro h' tk' u' k' u2 i' j' jj' e1 e2 e3 F' N'; (try dsimp only at N'); (try k_sweep))))
theorem rdch_code (w : World) (dp un : Nat) (gd : Option (List Code)) (cn : Str) (cs : Scope) (a : Addr) (ccd : Value) (cl : List (Str × Addr)) (outer : List Env) (A₀ : Around) (base h₀ : Heap) (L : Addr) (m : Str → Option Value) (s : Shared) (p : Program) (loose : List Str) (mean : ExcName → Option Value) (mg mb : Str → Option Value)
    (Rr : Result → Shared → Prop)
    (B : Below A₀ base outer h₀) (F : Fr h₀ L s.heap m) (X : (wPart w.params).In h₀) (T : Top p loose mean mg mb h₀) (hk : cs.kind = .function)
    (hcd : CodeHd base 123 119) (hd : dp + 20 < 1000) (hu : un + 200 < 9900)
  (R : List (Addr × Obj)) {lx dx st at_ pb : Addr} {text : Str} {pos : Int} {tp : Tok} {kk : Nat} {n : Int} {tn t1 t2 t3 t4 t5 : Tok}
  (N : News h₀ L s.heap ((at_, W.listOf #[.int pos tp] kk) :: (dx, lexD w n tn st pb t1 t2 t3 t4 t5) :: R)) (LI : LexIn w R lx dx st at_ text)
  (ho1 : ∀ p ∈ R, p.1 ≠ at_) (ho2 : ∀ p ∈ R, p.1 ≠ dx) (hne : @Ne Nat at_ dx) (hlen : text.length ≤ 10000) (hpos : 0 ≤ pos ∧ pos ≤ 20000) (hn : 0 ≤ n ∧ n ≤ 30000)
  (ret : ∀ h' tk' u k' u2 n' tn' i j j', i = pos → j = pos + 1 → j' = pos + 1 → n ≤ n' → n' ≤ n + 1 → Fr h₀ L h' m → News h₀ L h' ((at_, W.listOf #[.int j' u] k') :: (dx, lexD w n' tn' st pb t1 t2 t3 t4 t5) :: R) → Rr (.ok (.ret (.str (Txt.slice text (some i) (some j)) u2))) { s with heap := h', toks := tk' }) :
    codeAny (model P1 w) (ktrTop dp un gd cn cs L a ccd cl outer) (.call (.ref 42) ⟨[.ref lx], []⟩) Rr s := by
  have hoff : OwnOff R [at_, dx] := fun p hp b hb => by
    rcases List.mem_cons.mp hb with rfl | hb
    · exact ho1 p hp
    · rw [List.mem_singleton.mp hb]; exact ho2 p hp
  obtain ⟨sd, fr, cr, cA, cT, ocr, oA, oT, fdS, vs, qual, tq, doc, pm, ctv, tk1, tt, i1, i2, i3, h1, h2, h2d, h2v, h3, h3d, h4, h4d⟩ := LI
  k_dflt (refine' code_def ?k1 ?k2 ?k3 ?k4 ?k5 ?kA ?kF ?kK ?k6 ?k7 ?k8 ?k9 ?kB ?_ ?c2 ?c3 ?c4 ?c5; (case kA => exact rfl); (case kF => exact rfl); (case kK => assumption); (case k1 => k_asm); (case k2 => k_asm); (case k3 => k_asm); (case k4 => k_asm); (case k5 => k_asm); (case k6 => k_is); (case k7 => k_is); (case k8 => show _ < 1000; dsimp only [ktrTop]; omega); (case k9 => exact BindsTo.of_eq rfl); (case c5 => decide); (case kB => exact locs rfl); (case c2 => exact rfl); (case c3 => exact rfl); (case c4 => exact rfl); k_whole; intro g' L' h' FG' F' N' B' X' T'; (try dsimp only))
  k_steps
  all_goals (rename Fr h₀ _ _ _ => kF; rename News h₀ _ _ _ => kN; exact ret _ _ _ _ _ _ _ _ _ _ (by assumption) (by assumption) (by assumption) (by omega) (by omega) kF kN)
end Mine

namespace Mine
noncomputable def clsBody : Stmt → List Stmt
  | .ClassDef _ _ _ b _ _ _ _ _ _ _ => b
  | _ => []
noncomputable def forBody : Stmt → List Stmt
  | .For _ _ b _ _ => b
  | _ => []
noncomputable def ifThen : Stmt → List Stmt
  | .If _ b _ _ => b
  | _ => []
noncomputable def ifElse : Stmt → List Stmt
  | .If _ _ b _ => b
  | _ => []
noncomputable def noStmt : Stmt := .Pass ⟨0, 0, 0, 0⟩
noncomputable def gtStmt : Stmt := (clsBody (PySem.Challenge.pw_tr0043_02.main.body.getD 2 noStmt)).getD 2 noStmt
noncomputable def outStmt : List Stmt := forBody ((fnBody gtStmt).getD 3 noStmt)
noncomputable def gtS0 : {x : Scope // x = fnScope gtStmt} := by
  refine ⟨?x, ?h⟩
  case h => (conv => rhs; whnf); try exact rfl
noncomputable def outB0 : {x : List Stmt // x = outStmt} := by
  refine ⟨?x, ?h⟩
  case h => (conv => rhs; whnf); try exact rfl
noncomputable def inQ0 : {x : List Stmt // x = forBody ((ifThen (outStmt.getD 1 noStmt)).getD 0 noStmt)} := by
  refine ⟨?x, ?h⟩
  case h => (conv => rhs; whnf); try exact rfl
noncomputable def inB0 : {x : List Stmt // x = forBody ((ifElse (outStmt.getD 1 noStmt)).getD 2 noStmt)} := by
  refine ⟨?x, ?h⟩
  case h => (conv => rhs; whnf); try exact rfl
noncomputable abbrev gtS : Scope := gtS0.1
noncomputable abbrev outB : List Stmt := outB0.1
noncomputable abbrev inQ : List Stmt := inQ0.1
noncomputable abbrev inB : List Stmt := inB0.1
noncomputable def mG (a b c d : Option Value) : Str → Option Value := fun y => if y = "self" then a else if y = "token" then b else if y = "fiter" then c else if y = "ch" then d else none
inductive QB : List Nat → List Nat → Prop
  | nil : QB [] []
  | esc {d : Nat} {w t : List Nat} : QB w t → QB (92 :: d :: w) (d :: t)
  | plain {c : Nat} {w t : List Nat} : c ≠ 34 → c ≠ 92 → QB w t → QB (c :: w) (c :: t)
noncomputable def isWs (c : Nat) : Prop := c = 10 ∨ c = 9 ∨ c = 13 ∨ c = 32
inductive BB : List Nat → List Nat → Prop
  | nil : BB [] []
  | esc {d : Nat} {w t : List Nat} : BB w t → BB (92 :: d :: w) (d :: t)
  | plain {c : Nat} {w t : List Nat} : ¬ isWs c → c ≠ 92 → BB w t → BB (c :: w) (c :: t)
/-- rem, the token read off it, what is left behind it -/
inductive Tok3 : List Nat → List Nat → List Nat → Prop
  | ws {c : Nat} {r t b : List Nat} : isWs c → Tok3 r t b → Tok3 (c :: r) t b
  | eof : Tok3 [] [] []
  | quoted {w t b : List Nat} : QB w t → Tok3 (34 :: (w ++ 34 :: b)) t b
  | escaped {d x : Nat} {w t b : List Nat} : BB w t → isWs x → Tok3 (92 :: d :: (w ++ x :: b)) (d :: t) b
  | bare {c x : Nat} {w t b : List Nat} : ¬ isWs c → c ≠ 34 → c ≠ 92 → BB w t → isWs x → Tok3 (c :: (w ++ x :: b)) (c :: t) b
noncomputable abbrev strOf (l : List Nat) : Str := ⟨l.toArray⟩
open PySem.StrLaws PySem.Builtin PySem.Builtin.Str in
theorem slice_at {T : List Nat} {x : Str} (hx : x.cps.toList = T) {pos : Nat} {c : Nat} {r : List Nat} (h : T.drop pos = c :: r) : Txt.slice x (some (pos : Int)) (some ((pos : Int) + 1)) = strOf [c] := by
  have hl : pos < T.length := by
    apply Nat.lt_of_not_le; intro hle; rw [List.drop_eq_nil_of_le hle] at h; cases h
  have e := sliceText_plain (x := x) (i := pos) (j := (pos : Int) + 1) ⟨by omega, by omega, by rw [hx]; omega⟩
  show sliceText x _ _ = _
  rw [e, hx]
  simp only [Int.toNat_natCast, h]
  have : ((pos : Int) + 1 - (pos : Int)).toNat = 1 := by omega
  rw [this]; rfl
open PySem.StrLaws PySem.Builtin PySem.Builtin.Str in
theorem slice_end {T : List Nat} {x : Str} (hx : x.cps.toList = T) {pos : Nat} (h : T.drop pos = []) : Txt.slice x (some (pos : Int)) (some ((pos : Int) + 1)) = strOf [] := by
  have hl : T.length ≤ pos := by
    apply Nat.le_of_not_lt; intro hlt
    have := congrArg List.length h
    rw [List.length_drop] at this; simp at this; omega
  have hn : x.length ≤ pos := by rw [← hx] at hl; simpa [Str.length] using hl
  have e : sliceText x (some (pos : Int)) (some ((pos : Int) + 1)) = sliceText x (some (x.length : Int)) (some (x.length : Int)) := by
    unfold sliceText
    have e1 : strSliceIndices (some (pos : Int)) (some ((pos : Int) + 1)) 1 x.length = strSliceIndices (some (x.length : Int)) (some (x.length : Int)) 1 x.length := by
      unfold strSliceIndices
      have a1 : ¬ ((pos : Int) < 0) := by omega
      have a2 : ¬ ((pos : Int) + 1 < 0) := by omega
      have a3 : ¬ ((x.length : Int) < 0) := by omega
      have b1 : max (0 : Int) (min (pos : Int) (x.length : Int)) = (x.length : Int) := by omega
      have b2 : max (0 : Int) (min ((pos : Int) + 1) (x.length : Int)) = (x.length : Int) := by omega
      have b3 : max (0 : Int) (min (x.length : Int) (x.length : Int)) = (x.length : Int) := by omega
      simp [a1, a2, a3, b1, b2, b3]
    rw [e1]
  show sliceText x _ _ = _
  rw [e, sliceText_nat x (Nat.le_refl _) (Nat.le_refl _)]
  simp
theorem drop_tail {T : List Nat} {pos : Nat} {c : Nat} {r : List Nat} (h : T.drop pos = c :: r) : T.drop (pos + 1) = r := by
  have : T.drop (pos + 1) = (T.drop pos).drop 1 := by rw [List.drop_drop]
  rw [this, h]; rfl
end Mine

namespace Mine
set_option maxHeartbeats 8000000
theorem ne_nil {c : Nat} {l : List Nat} : ¬ (strOf (c :: l) = "") := fun e => by
  have z := congrArg (fun x : Str => x.cps.size) e
  have y : (("" : Str).cps.size) = 0 := by decide +kernel
  simp only [y] at z
  simp at z
theorem beq_no {c : Nat} {k : Nat} {l : Str} (hl : l = strOf [k]) (h : c ≠ k) : (strOf [c] == l) = false := by
  subst hl
  refine beq_eq_false_iff_ne.mpr fun e => h ?_
  have z := congrArg (fun x : Str => x.cps.toList) e
  simpa using z
theorem beq_yes {k : Nat} {l : Str} (hl : l = strOf [k]) : (strOf [k] == l) = true := by subst hl; exact beq_self_eq_true _
theorem strOf_app {x y : List Nat} : strOf x ++ strOf y = strOf (x ++ y) := by
  apply Str.ext'
  rw [Str.cps_append]
  simp
theorem frEqv {h₀ h : Heap} {L : Addr} {m m' : Str → Option Value} (F : Fr h₀ L h m) (e : ∀ y, m y = m' y) : Fr h₀ L h m' := by
  have : m = m' := funext e
  exact this ▸ F
theorem kst : ("self" : Str) ≠ "token" := by decide +kernel
theorem ksf : ("self" : Str) ≠ "fiter" := by decide +kernel
theorem ksc : ("self" : Str) ≠ "ch" := by decide +kernel
theorem ktf : ("token" : Str) ≠ "fiter" := by decide +kernel
theorem ktc : ("token" : Str) ≠ "ch" := by decide +kernel
theorem kfc : ("fiter" : Str) ≠ "ch" := by decide +kernel
theorem mG_tc {a b c d v u : Option Value} (y : Str) : (if y = "token" then v else if y = "ch" then u else mG a b c d y) = mG a v c u y := by
  unfold mG
  by_cases h1 : y = "self"
  · subst h1; simp only [kst, ksc, ksf, if_true, if_false]
  by_cases h2 : y = "token"
  · subst h2; simp only [kst.symm, ktc, ktf, if_true, if_false]
  by_cases h3 : y = "fiter"
  · subst h3; simp only [ksf.symm, kfc, ktf.symm, if_true, if_false]
  by_cases h4 : y = "ch"
  · subst h4; simp only [ksc.symm, kfc.symm, ktc.symm, if_true, if_false]
  simp only [h1, h2, h3, h4, if_false]
theorem mG_c {a b c d u : Option Value} (y : Str) : (if y = "ch" then u else mG a b c d y) = mG a b c u y := by
  unfold mG
  by_cases h1 : y = "self"
  · subst h1; simp only [ksc, if_true, if_false]
  by_cases h2 : y = "token"
  · subst h2; simp only [kst.symm, ktc, if_true, if_false]
  by_cases h3 : y = "fiter"
  · subst h3; simp only [ksf.symm, kfc, ktf.symm, if_true, if_false]
  by_cases h4 : y = "ch"
  · subst h4; simp only [ksc.symm, kfc.symm, ktc.symm, if_true, if_false]
  simp only [h1, h2, h3, h4, if_false]
theorem mG_tcc {a b c d v u u' : Option Value} (y : Str) : (if y = "token" then v else if y = "ch" then u else if y = "ch" then u' else mG a b c d y) = mG a v c u y := by
  have e : (if y = "ch" then u else if y = "ch" then u' else mG a b c d y) = (if y = "ch" then u else mG a b c d y) := by
    by_cases h4 : y = "ch" <;> simp only [h4, if_true, if_false]
  rw [e]; exact mG_tc y
theorem ws_dec (c : Nat) [Decidable (isWs c)] : (!(Builtin.Str.occurrences (Str.ofString "\n\t\r ") (strOf [c]) 0 (Str.ofString "\n\t\r ").length 1).isEmpty) = decide (isWs c) := by
  rw [show strOf [c] = ⟨#[c]⟩ from rfl, StrLaws.found_one]
  have e : (Str.ofString "\n\t\r ").cps.toList = [10, 9, 13, 32] := by decide +kernel
  rw [e]
  refine decide_eq_decide.mpr ?_
  unfold isWs
  simp
theorem wsY {c : Nat} (h : isWs c) : (!(Builtin.Str.occurrences (Str.ofString "\n\t\r ") (strOf [c]) 0 (Str.ofString "\n\t\r ").length 1).isEmpty) = true := by haveI := Classical.propDecidable (isWs c); rw [ws_dec]; exact decide_eq_true h
theorem wsN {c : Nat} (h : ¬ isWs c) : (!(Builtin.Str.occurrences (Str.ofString "\n\t\r ") (strOf [c]) 0 (Str.ofString "\n\t\r ").length 1).isEmpty) = false := by haveI := Classical.propDecidable (isWs c); rw [ws_dec]; exact decide_eq_false h
end Mine

namespace Mine
set_option maxHeartbeats 8000000
local macro_rules | `(tactic| walk_at "zzpad0") => `(tactic| skip)
local macro_rules | `(tactic| walk_at "call ref") => `(tactic| (k_here; (try dsimp only [List.append_nil, List.cons_append, List.nil_append]); (with_reducible show wpAny _ _ (call (Value.ref 42) [Value.ref _]) _ _ _); k_dflt (refine' wpAny_call (rdch_code _ _ _ _ _ _ _ _ _ _ _ _ _ _ _ _ _ _ _ _ _ _ ?B ?F ?X ?T ?hk ?hcd ?hd ?hu _ ?N ?LI ?ho1 ?ho2 ?hne ?hlen ?hpos ?hn ?_); (case B => k_asm); (case F => k_asm); (case X => k_asm); (case T => k_asm); (case hk => first | rfl | assumption); (case hcd => assumption); (case N => k_asm); (case LI => exact LexIn.mono (by assumption) (fun _ hp9 => .tail _ (.tail _ hp9))); (case ho1 => k_all); (case ho2 => k_all); (case hne => assumption); (case hlen => assumption); (case hpos => omega); (case hn => omega); (case hd => show _ + 20 < 1000; (try dsimp only [ktrTop]); omega); (case hu => show _ + 200 < 9900; (try dsimp only [ktrTop]); omega); k_whole; intro h' tk' u' k' u2 n' tn' i' j' jj' e1 e2 e3 en1 en2 F' N'; (subst e1 e2 e3); (try dsimp only at N'); (try k_sweep))))
local macro_rules | `(tactic| walk_at "ite") => `(tactic| first | refine ite_neg (by rw [Bool.not_eq_true]; with_reducible assumption) ?_ | refine ite_pos (by with_reducible assumption) ?_)
/-- what the quoted loop does from any state -/
noncomputable def LoopQ (w : World) (dp un : Nat) (gd : Option (List Code)) (outer : List Env) (A₀ : Around) (base h₀ : Heap) (L : Addr) (p : Program) (loose : List Str) (mean : ExcName → Option Value) (mg mb : Str → Option Value) (lx it q dx st at_ pb : Addr) (tq t1 t2 t3 t4 t5 : Tok) (R : List (Addr × Obj)) (text : Str) (Tx b : List Nat) (px : Pos) (Rr : Result → Shared → Prop) (wd t : List Nat) : Prop :=
  ∀ (s : Shared) (tok : List Nat) (tt0 : Tok) (dch : Option Value) (pos : Nat) (tp : Tok) (kk : Nat) (n : Int) (tn : Tok),
  Fr h₀ L s.heap (mG (some (.ref lx)) (some (.str (strOf tok) tt0)) (some (.ref it)) dch) →
  News h₀ L s.heap ((at_, W.listOf #[.int pos tp] kk) :: (dx, lexD w n tn st pb t1 t2 t3 t4 t5) :: (it, citObj q tq) :: (q, methodObj (.ref 42) (.ref lx)) :: R) →
  0 ≤ n ∧ n ≤ pos + 1 → tok.length ≤ pos → Tx.drop pos = wd ++ 34 :: b →
  (∀ h' tk' u k' u2 n' tn' pos' dch', Tx.drop pos' = b → pos' ≤ Tx.length → 0 ≤ n' → n' ≤ (pos' : Int) + 1 → Fr h₀ L h' (mG (some (.ref lx)) (some (.str (strOf (tok ++ t)) u2)) (some (.ref it)) dch') → News h₀ L h' ((at_, W.listOf #[.int (pos' : Nat) u] k') :: (dx, lexD w n' tn' st pb t1 t2 t3 t4 t5) :: (it, citObj q tq) :: (q, methodObj (.ref 42) (.ref lx)) :: R) → Rr (.ok (.ret (.str (strOf (tok ++ t)) u2))) { s with heap := h', toks := tk' }) →
  codeAny (model P1 w) (ktrTop dp un gd "_netrclex.get_token" gtS L 49 (.ref 48) [] outer) (.forLoop (.Name "ch" px) (.ref it) inQ [] (envX "_netrclex.get_token" gtS L 49 (.ref 48) [])) Rr s

theorem loopQ (w : World) (dp un : Nat) (gd : Option (List Code)) (outer : List Env) (A₀ : Around) (base h₀ : Heap) (L : Addr) (p : Program) (loose : List Str) (mean : ExcName → Option Value) (mg mb : Str → Option Value) (lx it q dx st at_ pb : Addr) (tq t1 t2 t3 t4 t5 : Tok) (R : List (Addr × Obj)) (text : Str) (Tx b : List Nat) (px : Pos) (Rr : Result → Shared → Prop)
  (B : Below A₀ base outer h₀) (X : (wPart w.params).In h₀) (T : Top p loose mean mg mb h₀) (hcd : CodeHd base 123 119) (hd : dp + 30 < 1000) (hu : un + 300 < 9900) (LI : LexIn w R lx dx st at_ text)
  (hoff : OwnOff R [at_, dx]) (hne : @Ne Nat at_ dx) (hi1 : @Ne Nat it at_) (hi2 : @Ne Nat it dx) (hq1 : @Ne Nat q at_) (hq2 : @Ne Nat q dx) (hlen : text.length ≤ 10000) (hx : text.cps.toList = Tx)
  {wd t : List Nat} (hw : QB wd t) : LoopQ w dp un gd outer A₀ base h₀ L p loose mean mg mb lx it q dx st at_ pb tq t1 t2 t3 t4 t5 R text Tx b px Rr wd t := by
  have hTx : Tx.length ≤ 10000 := by rw [← hx]; simpa [Str.length] using hlen
  have i1 : (lx, instObj 59 dx) ∈ R := by obtain ⟨_, _, _, _, _, _, _, _, _, _, _, _, _, _, _, _, _, i1, _⟩ := LI; exact i1
  induction hw with
  | nil =>
    intro s tok tt0 dch pos tp kk n tn F N hn htk hr ret
    simp only [List.append_nil] at ret
    have hpl : pos < Tx.length := by
      apply Nat.lt_of_not_le; intro hle; rw [List.drop_eq_nil_of_le hle] at hr; cases hr
    have htl : (strOf tok).length ≤ 10000 := by show tok.toArray.size ≤ 10000; rw [List.size_toArray]; omega
    dsimp only [gtS, gtS0, inQ, inQ0]
    refine forLoop_turn ?_
    refine pyNext_cit rfl (News.get N (by k_mem)) (News.get N (by k_mem)) (X.keeps F.keep _ _ (by k_is)) rfl ?_
    refine rdch_code w _ _ _ _ _ _ _ _ _ _ _ _ _ _ _ _ _ _ _ _ _ B F X T rfl hcd (by show dp + 20 < 1000; omega) (by show un + 1 + 200 < 9900; omega) _ N (LI.mono fun _ hp9 => .tail _ (.tail _ hp9)) (by k_all) (by k_all) hne hlen (by omega) (by omega) ?_
    intro h1 tk1 u1 k1 u2 n1 tn1 i j j' e1 e2 e3 en1 en2 F1 N1
    subst e1 e2 e3
    refine ⟨_, _, rfl, News.get N1 (by k_mem), News.get N1 (by k_mem), X.keeps F1.keep _ _ (by k_is), ?_⟩
    rw [slice_at hx hr, if_neg ne_nil]
    dsimp only
    have a1 : (strOf [34] == Str.ofString "\"") = true := beq_yes (by decide +kernel)
    k_steps
    rename Fr h₀ _ _ _ => kF
    rename News h₀ _ _ _ => kN
    exact ret _ _ _ _ _ _ _ (pos + 1) _ (drop_tail hr) (by omega) (by omega) (by omega) (frEqv kF mG_c) kN
  | @esc d wd' t' hw' ih =>
    intro s tok tt0 dch pos tp kk n tn F N hn htk hr ret
    have hpl : pos + 1 < Tx.length := by
      apply Nat.lt_of_not_le; intro hle
      have := congrArg List.length hr
      rw [List.length_drop] at this; simp at this; omega
    have htl : (strOf tok).length ≤ 10000 := by show tok.toArray.size ≤ 10000; rw [List.size_toArray]; omega
    dsimp only [gtS, gtS0, inQ, inQ0]
    refine forLoop_turn ?_
    refine pyNext_cit rfl (News.get N (by k_mem)) (News.get N (by k_mem)) (X.keeps F.keep _ _ (by k_is)) rfl ?_
    refine rdch_code w _ _ _ _ _ _ _ _ _ _ _ _ _ _ _ _ _ _ _ _ _ B F X T rfl hcd (by show dp + 20 < 1000; omega) (by show un + 1 + 200 < 9900; omega) _ N (LI.mono fun _ hp9 => .tail _ (.tail _ hp9)) (by k_all) (by k_all) hne hlen (by omega) (by omega) ?_
    intro h1 tk1 u1 k1 u2 n1 tn1 i j j' e1 e2 e3 en1 en2 F1 N1
    subst e1 e2 e3
    refine ⟨_, _, rfl, News.get N1 (by k_mem), News.get N1 (by k_mem), X.keeps F1.keep _ _ (by k_is), ?_⟩
    rw [slice_at hx hr, if_neg ne_nil]
    dsimp only
    have a1 : (strOf [92] == Str.ofString "\"") = false := beq_no (k := 34) (by decide +kernel) (by decide)
    have a2 : (strOf [92] == Str.ofString "\\") = true := beq_yes (by decide +kernel)
    have a3 : (strOf [92]).length ≤ 1 := Nat.le_refl _
    have a4 : (strOf [d]).length ≤ 1 := Nat.le_refl _
    have hr2 := drop_tail hr
    have hsl : Txt.slice text (some ((pos : Int) + 1)) (some ((pos : Int) + 1 + 1)) = strOf [d] := by
      have := slice_at hx hr2
      simpa using this
    have hsl2 : (Txt.slice text (some ((pos : Int) + 1)) (some ((pos : Int) + 1 + 1))).length ≤ 1 := by rw [hsl]; exact Nat.le_refl _
    k_steps
    rename Fr h₀ _ _ _ => kF
    rename News h₀ _ _ _ => kN
    have kF' := frEqv kF mG_tcc
    rw [hsl, strOf_app] at kF'
    refine ih { s with heap := _, toks := _ } (tok ++ [d]) _ _ (pos + 1 + 1) _ _ _ _ kF' kN ⟨by omega, by omega⟩ (by simp; omega) (drop_tail hr2) ?_
    intro h' tk' u k' u2 n' tn' pos' dch' g1 g2 g3 g4 g5 g6
    have e : tok ++ [d] ++ t' = tok ++ d :: t' := by simp
    rw [e] at g5 ⊢
    exact ret h' tk' u k' u2 n' tn' pos' dch' g1 g2 g3 g4 g5 g6
  | @plain c wd' t' c1 c2 hw' ih =>
    intro s tok tt0 dch pos tp kk n tn F N hn htk hr ret
    have hpl : pos < Tx.length := by
      apply Nat.lt_of_not_le; intro hle; rw [List.drop_eq_nil_of_le hle] at hr; cases hr
    have htl : (strOf tok).length ≤ 10000 := by show tok.toArray.size ≤ 10000; rw [List.size_toArray]; omega
    dsimp only [gtS, gtS0, inQ, inQ0]
    refine forLoop_turn ?_
    refine pyNext_cit rfl (News.get N (by k_mem)) (News.get N (by k_mem)) (X.keeps F.keep _ _ (by k_is)) rfl ?_
    refine rdch_code w _ _ _ _ _ _ _ _ _ _ _ _ _ _ _ _ _ _ _ _ _ B F X T rfl hcd (by show dp + 20 < 1000; omega) (by show un + 1 + 200 < 9900; omega) _ N (LI.mono fun _ hp9 => .tail _ (.tail _ hp9)) (by k_all) (by k_all) hne hlen (by omega) (by omega) ?_
    intro h1 tk1 u1 k1 u2 n1 tn1 i j j' e1 e2 e3 en1 en2 F1 N1
    subst e1 e2 e3
    refine ⟨_, _, rfl, News.get N1 (by k_mem), News.get N1 (by k_mem), X.keeps F1.keep _ _ (by k_is), ?_⟩
    rw [slice_at hx hr, if_neg ne_nil]
    dsimp only
    have a1 : (strOf [c] == Str.ofString "\"") = false := beq_no (k := 34) (by decide +kernel) c1
    have a2 : (strOf [c] == Str.ofString "\\") = false := beq_no (k := 92) (by decide +kernel) c2
    have a3 : (strOf [c]).length ≤ 1 := Nat.le_refl _
    k_steps
    rename Fr h₀ _ _ _ => kF
    rename News h₀ _ _ _ => kN
    have kF' := frEqv kF mG_tc
    rw [strOf_app] at kF'
    refine ih { s with heap := _, toks := _ } (tok ++ [c]) _ _ (pos + 1) _ _ _ _ kF' kN ⟨by omega, by omega⟩ (by simp; omega) (drop_tail hr) ?_
    intro h' tk' u k' u2 n' tn' pos' dch' g1 g2 g3 g4 g5 g6
    have e : tok ++ [c] ++ t' = tok ++ c :: t' := by simp
    rw [e] at g5 ⊢
    exact ret h' tk' u k' u2 n' tn' pos' dch' g1 g2 g3 g4 g5 g6
end Mine

namespace Mine
set_option maxHeartbeats 8000000
local macro_rules | `(tactic| walk_at "call ref") => `(tactic| (k_here; (try dsimp only [List.append_nil, List.cons_append, List.nil_append]); (with_reducible show wpAny _ _ (call (Value.ref 42) [Value.ref _]) _ _ _); k_dflt (refine' wpAny_call (rdch_code _ _ _ _ _ _ _ _ _ _ _ _ _ _ _ _ _ _ _ _ _ _ ?B ?F ?X ?T ?hk ?hcd ?hd ?hu _ ?N ?LI ?ho1 ?ho2 ?hne ?hlen ?hpos ?hn ?_); (case B => k_asm); (case F => k_asm); (case X => k_asm); (case T => k_asm); (case hk => first | rfl | assumption); (case hcd => assumption); (case N => k_asm); (case LI => exact LexIn.mono (by assumption) (fun _ hp9 => .tail _ (.tail _ hp9))); (case ho1 => k_all); (case ho2 => k_all); (case hne => assumption); (case hlen => assumption); (case hpos => omega); (case hn => omega); (case hd => show _ + 20 < 1000; (try dsimp only [ktrTop]); omega); (case hu => show _ + 200 < 9900; (try dsimp only [ktrTop]); omega); k_whole; intro h' tk' u' k' u2 n' tn' i' j' jj' e1 e2 e3 en1 en2 F' N'; (subst e1 e2 e3); (try dsimp only at N'); (try k_sweep))))
local macro_rules | `(tactic| walk_at "ite") => `(tactic| first | refine ite_neg (by rw [Bool.not_eq_true]; with_reducible assumption) ?_ | refine ite_pos (by with_reducible assumption) ?_)
/-- what the quoted loop does from any state -/
noncomputable def LoopB (w : World) (dp un : Nat) (gd : Option (List Code)) (outer : List Env) (A₀ : Around) (base h₀ : Heap) (L : Addr) (p : Program) (loose : List Str) (mean : ExcName → Option Value) (mg mb : Str → Option Value) (lx it q dx st at_ pb : Addr) (tq t1 t2 t3 t4 t5 : Tok) (R : List (Addr × Obj)) (text : Str) (x : Nat) (Tx b : List Nat) (px : Pos) (Rr : Result → Shared → Prop) (wd t : List Nat) : Prop :=
  ∀ (s : Shared) (tok : List Nat) (tt0 : Tok) (dch : Option Value) (pos : Nat) (tp : Tok) (kk : Nat) (n : Int) (tn : Tok),
  Fr h₀ L s.heap (mG (some (.ref lx)) (some (.str (strOf tok) tt0)) (some (.ref it)) dch) →
  News h₀ L s.heap ((at_, W.listOf #[.int pos tp] kk) :: (dx, lexD w n tn st pb t1 t2 t3 t4 t5) :: (it, citObj q tq) :: (q, methodObj (.ref 42) (.ref lx)) :: R) →
  0 ≤ n ∧ n ≤ pos + 1 → tok.length ≤ pos → Tx.drop pos = wd ++ x :: b →
  (∀ h' tk' u k' u2 n' tn' pos' dch', Tx.drop pos' = b → pos' ≤ Tx.length → 0 ≤ n' → n' ≤ (pos' : Int) + 1 → Fr h₀ L h' (mG (some (.ref lx)) (some (.str (strOf (tok ++ t)) u2)) (some (.ref it)) dch') → News h₀ L h' ((at_, W.listOf #[.int (pos' : Nat) u] k') :: (dx, lexD w n' tn' st pb t1 t2 t3 t4 t5) :: (it, citObj q tq) :: (q, methodObj (.ref 42) (.ref lx)) :: R) → Rr (.ok (.ret (.str (strOf (tok ++ t)) u2))) { s with heap := h', toks := tk' }) →
  codeAny (model P1 w) (ktrTop dp un gd "_netrclex.get_token" gtS L 49 (.ref 48) [] outer) (.forLoop (.Name "ch" px) (.ref it) inB [] (envX "_netrclex.get_token" gtS L 49 (.ref 48) [])) Rr s

theorem loopB (w : World) (dp un : Nat) (gd : Option (List Code)) (outer : List Env) (A₀ : Around) (base h₀ : Heap) (L : Addr) (p : Program) (loose : List Str) (mean : ExcName → Option Value) (mg mb : Str → Option Value) (lx it q dx st at_ pb : Addr) (tq t1 t2 t3 t4 t5 : Tok) (R : List (Addr × Obj)) (text : Str) (x : Nat) (Tx b : List Nat) (px : Pos) (Rr : Result → Shared → Prop)
  (B : Below A₀ base outer h₀) (X : (wPart w.params).In h₀) (T : Top p loose mean mg mb h₀) (hcd : CodeHd base 123 119) (hd : dp + 30 < 1000) (hu : un + 300 < 9900) (LI : LexIn w R lx dx st at_ text)
  (hoff : OwnOff R [at_, dx]) (hne : @Ne Nat at_ dx) (hi1 : @Ne Nat it at_) (hi2 : @Ne Nat it dx) (hq1 : @Ne Nat q at_) (hq2 : @Ne Nat q dx) (hlen : text.length ≤ 10000) (hx : text.cps.toList = Tx) (hws : isWs x)
  {wd t : List Nat} (hw : BB wd t) : LoopB w dp un gd outer A₀ base h₀ L p loose mean mg mb lx it q dx st at_ pb tq t1 t2 t3 t4 t5 R text x Tx b px Rr wd t := by
  have hTx : Tx.length ≤ 10000 := by rw [← hx]; simpa [Str.length] using hlen
  have i1 : (lx, instObj 59 dx) ∈ R := by obtain ⟨_, _, _, _, _, _, _, _, _, _, _, _, _, _, _, _, _, i1, _⟩ := LI; exact i1
  induction hw with
  | nil =>
    intro s tok tt0 dch pos tp kk n tn F N hn htk hr ret
    simp only [List.append_nil] at ret
    have hpl : pos < Tx.length := by
      apply Nat.lt_of_not_le; intro hle; rw [List.drop_eq_nil_of_le hle] at hr; cases hr
    have htl : (strOf tok).length ≤ 10000 := by show tok.toArray.size ≤ 10000; rw [List.size_toArray]; omega
    dsimp only [gtS, gtS0, inB, inB0]
    refine forLoop_turn ?_
    refine pyNext_cit rfl (News.get N (by k_mem)) (News.get N (by k_mem)) (X.keeps F.keep _ _ (by k_is)) rfl ?_
    refine rdch_code w _ _ _ _ _ _ _ _ _ _ _ _ _ _ _ _ _ _ _ _ _ B F X T rfl hcd (by show dp + 20 < 1000; omega) (by show un + 1 + 200 < 9900; omega) _ N (LI.mono fun _ hp9 => .tail _ (.tail _ hp9)) (by k_all) (by k_all) hne hlen (by omega) (by omega) ?_
    intro h1 tk1 u1 k1 u2 n1 tn1 i j j' e1 e2 e3 en1 en2 F1 N1
    subst e1 e2 e3
    refine ⟨_, _, rfl, News.get N1 (by k_mem), News.get N1 (by k_mem), X.keeps F1.keep _ _ (by k_is), ?_⟩
    rw [slice_at hx hr, if_neg ne_nil]
    dsimp only
    have a1 := wsY hws
    k_steps
    rename Fr h₀ _ _ _ => kF
    rename News h₀ _ _ _ => kN
    exact ret _ _ _ _ _ _ _ (pos + 1) _ (drop_tail hr) (by omega) (by omega) (by omega) (frEqv kF mG_c) kN
  | @esc d wd' t' hw' ih =>
    intro s tok tt0 dch pos tp kk n tn F N hn htk hr ret
    have hpl : pos + 1 < Tx.length := by
      apply Nat.lt_of_not_le; intro hle
      have := congrArg List.length hr
      rw [List.length_drop] at this; simp at this; omega
    have htl : (strOf tok).length ≤ 10000 := by show tok.toArray.size ≤ 10000; rw [List.size_toArray]; omega
    dsimp only [gtS, gtS0, inB, inB0]
    refine forLoop_turn ?_
    refine pyNext_cit rfl (News.get N (by k_mem)) (News.get N (by k_mem)) (X.keeps F.keep _ _ (by k_is)) rfl ?_
    refine rdch_code w _ _ _ _ _ _ _ _ _ _ _ _ _ _ _ _ _ _ _ _ _ B F X T rfl hcd (by show dp + 20 < 1000; omega) (by show un + 1 + 200 < 9900; omega) _ N (LI.mono fun _ hp9 => .tail _ (.tail _ hp9)) (by k_all) (by k_all) hne hlen (by omega) (by omega) ?_
    intro h1 tk1 u1 k1 u2 n1 tn1 i j j' e1 e2 e3 en1 en2 F1 N1
    subst e1 e2 e3
    refine ⟨_, _, rfl, News.get N1 (by k_mem), News.get N1 (by k_mem), X.keeps F1.keep _ _ (by k_is), ?_⟩
    rw [slice_at hx hr, if_neg ne_nil]
    dsimp only
    have a1 := wsN (c := 92) (by unfold isWs; decide)
    have a2 : (strOf [92] == Str.ofString "\\") = true := beq_yes (by decide +kernel)
    have a3 : (strOf [92]).length ≤ 1 := Nat.le_refl _
    have a4 : (strOf [d]).length ≤ 1 := Nat.le_refl _
    have hr2 := drop_tail hr
    have hsl : Txt.slice text (some ((pos : Int) + 1)) (some ((pos : Int) + 1 + 1)) = strOf [d] := by
      have := slice_at hx hr2
      simpa using this
    have hsl2 : (Txt.slice text (some ((pos : Int) + 1)) (some ((pos : Int) + 1 + 1))).length ≤ 1 := by rw [hsl]; exact Nat.le_refl _
    k_steps
    rename Fr h₀ _ _ _ => kF
    rename News h₀ _ _ _ => kN
    have kF' := frEqv kF mG_tcc
    rw [hsl, strOf_app] at kF'
    refine ih { s with heap := _, toks := _ } (tok ++ [d]) _ _ (pos + 1 + 1) _ _ _ _ kF' kN ⟨by omega, by omega⟩ (by simp; omega) (drop_tail hr2) ?_
    intro h' tk' u k' u2 n' tn' pos' dch' g1 g2 g3 g4 g5 g6
    have e : tok ++ [d] ++ t' = tok ++ d :: t' := by simp
    rw [e] at g5 ⊢
    exact ret h' tk' u k' u2 n' tn' pos' dch' g1 g2 g3 g4 g5 g6
  | @plain c wd' t' c1 c2 hw' ih =>
    intro s tok tt0 dch pos tp kk n tn F N hn htk hr ret
    have hpl : pos < Tx.length := by
      apply Nat.lt_of_not_le; intro hle; rw [List.drop_eq_nil_of_le hle] at hr; cases hr
    have htl : (strOf tok).length ≤ 10000 := by show tok.toArray.size ≤ 10000; rw [List.size_toArray]; omega
    dsimp only [gtS, gtS0, inB, inB0]
    refine forLoop_turn ?_
    refine pyNext_cit rfl (News.get N (by k_mem)) (News.get N (by k_mem)) (X.keeps F.keep _ _ (by k_is)) rfl ?_
    refine rdch_code w _ _ _ _ _ _ _ _ _ _ _ _ _ _ _ _ _ _ _ _ _ B F X T rfl hcd (by show dp + 20 < 1000; omega) (by show un + 1 + 200 < 9900; omega) _ N (LI.mono fun _ hp9 => .tail _ (.tail _ hp9)) (by k_all) (by k_all) hne hlen (by omega) (by omega) ?_
    intro h1 tk1 u1 k1 u2 n1 tn1 i j j' e1 e2 e3 en1 en2 F1 N1
    subst e1 e2 e3
    refine ⟨_, _, rfl, News.get N1 (by k_mem), News.get N1 (by k_mem), X.keeps F1.keep _ _ (by k_is), ?_⟩
    rw [slice_at hx hr, if_neg ne_nil]
    dsimp only
    have a1 := wsN c1
    have a2 : (strOf [c] == Str.ofString "\\") = false := beq_no (k := 92) (by decide +kernel) c2
    have a3 : (strOf [c]).length ≤ 1 := Nat.le_refl _
    k_steps
    rename Fr h₀ _ _ _ => kF
    rename News h₀ _ _ _ => kN
    have kF' := frEqv kF mG_tc
    rw [strOf_app] at kF'
    refine ih { s with heap := _, toks := _ } (tok ++ [c]) _ _ (pos + 1) _ _ _ _ kF' kN ⟨by omega, by omega⟩ (by simp; omega) (drop_tail hr) ?_
    intro h' tk' u k' u2 n' tn' pos' dch' g1 g2 g3 g4 g5 g6
    have e : tok ++ [c] ++ t' = tok ++ c :: t' := by simp
    rw [e] at g5 ⊢
    exact ret h' tk' u k' u2 n' tn' pos' dch' g1 g2 g3 g4 g5 g6
end Mine

namespace Mine
set_option maxHeartbeats 8000000
local macro_rules | `(tactic| walk_at "zzpad0") => `(tactic| skip)
theorem extFr {h₀ h h' : Heap} {L it : Addr} {m : Str → Option Value} {o : Obj} {news : List (Addr × Obj)} (F : Fr h₀ L h m) (N : News h₀ L h news) (hi : (it, o) ∈ news) (e : Heap.ExtBut it h h') : Fr h₀ L h' m :=
  ⟨F.ns.extBut e (N _ hi).2.1.symm, fun b ob q => e b ob (fun z => by rw [z] at q; rw [(N _ hi).2.2] at q; cases q) (F.keep b ob q), F.above⟩
theorem extNews {h₀ h h' : Heap} {L it : Addr} {news : List (Addr × Obj)} (N : News h₀ L h news) (hn : ∀ p ∈ news, p.1 ≠ it) (e : Heap.ExtBut it h h') : News h₀ L h' news :=
  fun p hp => ⟨e _ _ (hn p hp) (N p hp).1, (N p hp).2⟩
local macro_rules | `(tactic| walk_at "call ref") => `(tactic| (k_here; (try dsimp only [List.append_nil, List.cons_append, List.nil_append]); (with_reducible show wpAny _ _ (call (Value.ref 42) [Value.ref _]) _ _ _); k_dflt (refine' wpAny_call (rdch_code _ _ _ _ _ _ _ _ _ _ _ _ _ _ _ _ _ _ _ _ _ _ ?B ?F ?X ?T ?hk ?hcd ?hd ?hu _ ?N ?LI ?ho1 ?ho2 ?hne ?hlen ?hpos ?hn ?_); (case B => k_asm); (case F => k_asm); (case X => k_asm); (case T => k_asm); (case hk => first | rfl | assumption); (case hcd => assumption); (case N => k_asm); (case LI => exact LexIn.mono (by assumption) (fun _ hp9 => .tail _ (.tail _ hp9))); (case ho1 => k_all); (case ho2 => k_all); (case hne => assumption); (case hlen => assumption); (case hpos => omega); (case hn => omega); (case hd => show _ + 20 < 1000; (try dsimp only [ktrTop]); omega); (case hu => show _ + 200 < 9900; (try dsimp only [ktrTop]); omega); k_whole; intro h' tk' u' k' u2 n' tn' i' j' jj' e1 e2 e3 en1 en2 F' N'; (subst e1 e2 e3); (try dsimp only at N'); (try k_sweep))))
local macro_rules | `(tactic| walk_at "ite") => `(tactic| first | refine ite_neg (by rw [Bool.not_eq_true]; with_reducible assumption) ?_ | refine ite_pos (by with_reducible assumption) ?_)

noncomputable def LoopO (w : World) (dp un : Nat) (gd : Option (List Code)) (outer : List Env) (A₀ : Around) (base h₀ : Heap) (L : Addr) (p : Program) (loose : List Str) (mean : ExcName → Option Value) (mg mb : Str → Option Value) (lx it q dx st at_ pb : Addr) (tq t1 t2 t3 t4 t5 : Tok) (R : List (Addr × Obj)) (text : Str) (Tx : List Nat) (px : Pos) (Rr : Result → Shared → Prop) (tt0 : Tok) (rem t b : List Nat) : Prop :=
  ∀ (s : Shared) (dch : Option Value) (pos : Nat) (tp : Tok) (kk : Nat) (n : Int) (tn : Tok),
  Fr h₀ L s.heap (mG (some (.ref lx)) (some (.str (strOf []) tt0)) (some (.ref it)) dch) →
  News h₀ L s.heap ((at_, W.listOf #[.int (pos : Nat) tp] kk) :: (dx, lexD w n tn st pb t1 t2 t3 t4 t5) :: (it, citObj q tq) :: (q, methodObj (.ref 42) (.ref lx)) :: R) →
  0 ≤ n ∧ n ≤ pos + 1 → Tx.drop pos = rem → pos ≤ Tx.length + 20 →
  (∀ h' tk' u k' n' tn' pos' dch', t = [] → Tx.drop pos' = b → pos' ≤ max pos Tx.length + 1 → 0 ≤ n' → n' ≤ (pos' : Int) + 1 → Fr h₀ L h' (mG (some (.ref lx)) (some (.str (strOf []) tt0)) (some (.ref it)) dch') → News h₀ L h' ((at_, W.listOf #[.int (pos' : Nat) u] k') :: (dx, lexD w n' tn' st pb t1 t2 t3 t4 t5) :: (q, methodObj (.ref 42) (.ref lx)) :: R) → Rr (.ok .next) { s with heap := h', toks := tk' }) →
  (∀ h' tk' u k' u2 n' tn' pos' dch', Tx.drop pos' = b → pos' ≤ Tx.length → 0 ≤ n' → n' ≤ (pos' : Int) + 1 → Fr h₀ L h' (mG (some (.ref lx)) (some (.str (strOf t) u2)) (some (.ref it)) dch') → News h₀ L h' ((at_, W.listOf #[.int (pos' : Nat) u] k') :: (dx, lexD w n' tn' st pb t1 t2 t3 t4 t5) :: (it, citObj q tq) :: (q, methodObj (.ref 42) (.ref lx)) :: R) → Rr (.ok (.ret (.str (strOf t) u2))) { s with heap := h', toks := tk' }) →
  codeAny (model P1 w) (ktrTop dp un gd "_netrclex.get_token" gtS L 49 (.ref 48) [] outer) (.forLoop (.Name "ch" px) (.ref it) outB [] (envX "_netrclex.get_token" gtS L 49 (.ref 48) [])) Rr s

theorem loopO (w : World) (dp un : Nat) (gd : Option (List Code)) (outer : List Env) (A₀ : Around) (base h₀ : Heap) (L : Addr) (p : Program) (loose : List Str) (mean : ExcName → Option Value) (mg mb : Str → Option Value) (lx it q dx st at_ pb : Addr) (tq t1 t2 t3 t4 t5 : Tok) (R : List (Addr × Obj)) (text : Str) (Tx : List Nat) (px : Pos) (Rr : Result → Shared → Prop) (tt0 : Tok)
  (B : Below A₀ base outer h₀) (X : (wPart w.params).In h₀) (T : Top p loose mean mg mb h₀) (hcd : CodeHd base 123 119) (hd : dp + 30 < 1000) (hu : un + 400 < 9900) (LI : LexIn w R lx dx st at_ text)
  (hoff : OwnOff R [at_, dx, it]) (hne : @Ne Nat at_ dx) (hi1 : @Ne Nat it at_) (hi2 : @Ne Nat it dx) (hq1 : @Ne Nat q at_) (hq2 : @Ne Nat q dx) (hq3 : @Ne Nat q it) (hlen : text.length ≤ 10000) (hx : text.cps.toList = Tx)
  {rem t b : List Nat} (hw : Tok3 rem t b) : LoopO w dp un gd outer A₀ base h₀ L p loose mean mg mb lx it q dx st at_ pb tq t1 t2 t3 t4 t5 R text Tx px Rr tt0 rem t b := by
  have hTx : Tx.length ≤ 10000 := by rw [← hx]; simpa [Str.length] using hlen
  have i1 : (lx, instObj 59 dx) ∈ R := by obtain ⟨_, _, _, _, _, _, _, _, _, _, _, _, _, _, _, _, _, i1, _⟩ := LI; exact i1
  have hoffD : OwnOff R [at_, dx] := fun p hp b hb => hoff p hp b (by
    rcases List.mem_cons.mp hb with rfl | hb
    · exact .head _
    · rw [List.mem_singleton.mp hb]; exact .tail _ (.head _))
  induction hw with
  | @ws c r t b c1 hw' ih =>
    intro s dch pos tp kk n tn F N hn hr hps rnext ret
    have hpl : pos < Tx.length := by
      apply Nat.lt_of_not_le; intro hle; rw [List.drop_eq_nil_of_le hle] at hr; cases hr
    dsimp only [gtS, gtS0, outB, outB0]
    refine forLoop_turn ?_
    refine pyNext_cit rfl (News.get N (by k_mem)) (News.get N (by k_mem)) (X.keeps F.keep _ _ (by k_is)) rfl ?_
    refine rdch_code w _ _ _ _ _ _ _ _ _ _ _ _ _ _ _ _ _ _ _ _ _ B F X T rfl hcd (by show dp + 20 < 1000; omega) (by show un + 1 + 200 < 9900; omega) _ N (LI.mono fun _ hp9 => .tail _ (.tail _ hp9)) (by k_all) (by k_all) hne hlen (by omega) (by omega) ?_
    intro h1 tk1 u1 k1 u2 n1 tn1 i j j' e1 e2 e3 en1 en2 F1 N1
    subst e1 e2 e3
    refine ⟨_, _, rfl, News.get N1 (by k_mem), News.get N1 (by k_mem), X.keeps F1.keep _ _ (by k_is), ?_⟩
    rw [slice_at hx hr, if_neg ne_nil]
    dsimp only
    have a1 := wsY c1
    k_steps
    rename Fr h₀ _ _ _ => kF
    rename News h₀ _ _ _ => kN
    refine ih { s with heap := _, toks := _ } _ (pos + 1) _ _ _ _ (frEqv kF mG_c) kN ⟨by omega, by omega⟩ (drop_tail hr) (by omega) ?_ ?_
    · intro h' tk' u k' n' tn' pos' dch' g0 g1 g2 g3 g4 g5 g6
      exact rnext h' tk' u k' n' tn' pos' dch' g0 g1 (by omega) g3 g4 g5 g6
    · exact ret
  | eof =>
    intro s dch pos tp kk n tn F N hn hr hps rnext ret
    dsimp only [gtS, gtS0, outB, outB0]
    refine forLoop_turn ?_
    refine pyNext_cit rfl (News.get N (by k_mem)) (News.get N (by k_mem)) (X.keeps F.keep _ _ (by k_is)) rfl ?_
    refine rdch_code w _ _ _ _ _ _ _ _ _ _ _ _ _ _ _ _ _ _ _ _ _ B F X T rfl hcd (by show dp + 20 < 1000; omega) (by show un + 1 + 200 < 9900; omega) _ N (LI.mono fun _ hp9 => .tail _ (.tail _ hp9)) (by k_all) (by k_all) hne hlen (by omega) (by omega) ?_
    intro h1 tk1 u1 k1 u2 n1 tn1 i j j' e1 e2 e3 en1 en2 F1 N1
    subst e1 e2 e3
    refine ⟨_, _, rfl, News.get N1 (by k_mem), News.get N1 (by k_mem), X.keeps F1.keep _ _ (by k_is), ?_⟩
    rw [slice_end hx hr, if_pos (by decide +kernel)]
    intro h' ex
    have F2 := extFr F1 N1 (by k_mem) ex
    have N2 : News h₀ L h' _ := extNews (it := it) (fun p hp => N1 p (show p ∈ (at_, _) :: (dx, _) :: (it, _) :: (q, _) :: R from by
      rcases List.mem_cons.mp hp with rfl | hp
      · exact .head _
      rcases List.mem_cons.mp hp with rfl | hp
      · exact .tail _ (.head _)
      exact .tail _ (.tail _ (.tail _ hp)))) (by clear hoffD; k_all) ex
    exact rnext h' _ _ _ _ _ (pos + 1) _ rfl (by have : Tx.drop (pos + 1) = (Tx.drop pos).drop 1 := by rw [List.drop_drop]
                                                 rw [this, hr]; rfl) (by omega) (by omega) (by omega) F2 N2
  | @quoted w' t b hw' =>
    intro s dch pos tp kk n tn F N hn hr hps rnext ret
    have hpl : pos < Tx.length := by
      apply Nat.lt_of_not_le; intro hle; rw [List.drop_eq_nil_of_le hle] at hr; cases hr
    dsimp only [gtS, gtS0, outB, outB0]
    refine forLoop_turn ?_
    refine pyNext_cit rfl (News.get N (by k_mem)) (News.get N (by k_mem)) (X.keeps F.keep _ _ (by k_is)) rfl ?_
    refine rdch_code w _ _ _ _ _ _ _ _ _ _ _ _ _ _ _ _ _ _ _ _ _ B F X T rfl hcd (by show dp + 20 < 1000; omega) (by show un + 1 + 200 < 9900; omega) _ N (LI.mono fun _ hp9 => .tail _ (.tail _ hp9)) (by k_all) (by k_all) hne hlen (by omega) (by omega) ?_
    intro h1 tk1 u1 k1 u2 n1 tn1 i j j' e1 e2 e3 en1 en2 F1 N1
    subst e1 e2 e3
    refine ⟨_, _, rfl, News.get N1 (by k_mem), News.get N1 (by k_mem), X.keeps F1.keep _ _ (by k_is), ?_⟩
    rw [slice_at hx hr, if_neg ne_nil]
    dsimp only
    have a1 := wsN (c := 34) (by unfold isWs; decide)
    have a2 : (strOf [34] == Str.ofString "\"") = true := beq_yes (by decide +kernel)
    k_steps
    refine wpAny_For ?_
    walk1
    rename Fr h₀ _ _ _ => kF
    rename News h₀ _ _ _ => kN
    refine pyIter_cit (News.get kN (by k_mem)) ?_
    refine loopQ w dp un gd outer A₀ base h₀ L p loose mean mg mb lx it q dx st at_ pb tq t1 t2 t3 t4 t5 R text Tx b _ _ B X T hcd hd (by omega) LI hoffD hne hi1 hi2 hq1 hq2 hlen hx hw' { s with heap := _, toks := _ } [] _ _ (pos + 1) _ _ _ _ (frEqv kF mG_c) kN ⟨by omega, by omega⟩ (by simp) (drop_tail hr) ?_
    intro h' tk' u k' u2 n' tn' pos' dch' g1 g2 g3 g4 g5 g6
    exact ret h' tk' u k' u2 n' tn' pos' dch' g1 g2 g3 g4 g5 g6
  | @escaped d x w' t b hw' hws =>
    intro s dch pos tp kk n tn F N hn hr hps rnext ret
    have hpl : pos < Tx.length := by
      apply Nat.lt_of_not_le; intro hle; rw [List.drop_eq_nil_of_le hle] at hr; cases hr
    dsimp only [gtS, gtS0, outB, outB0]
    refine forLoop_turn ?_
    refine pyNext_cit rfl (News.get N (by k_mem)) (News.get N (by k_mem)) (X.keeps F.keep _ _ (by k_is)) rfl ?_
    refine rdch_code w _ _ _ _ _ _ _ _ _ _ _ _ _ _ _ _ _ _ _ _ _ B F X T rfl hcd (by show dp + 20 < 1000; omega) (by show un + 1 + 200 < 9900; omega) _ N (LI.mono fun _ hp9 => .tail _ (.tail _ hp9)) (by k_all) (by k_all) hne hlen (by omega) (by omega) ?_
    intro h1 tk1 u1 k1 u2 n1 tn1 i j j' e1 e2 e3 en1 en2 F1 N1
    subst e1 e2 e3
    refine ⟨_, _, rfl, News.get N1 (by k_mem), News.get N1 (by k_mem), X.keeps F1.keep _ _ (by k_is), ?_⟩
    rw [slice_at hx hr, if_neg ne_nil]
    dsimp only
    have a1 := wsN (c := 92) (by unfold isWs; decide)
    have a2 : (strOf [92] == Str.ofString "\"") = false := beq_no (k := 34) (by decide +kernel) (by decide)
    have a3 : (strOf [92] == Str.ofString "\\") = true := beq_yes (by decide +kernel)
    have hr2 := drop_tail hr
    have hsl : Txt.slice text (some ((pos : Int) + 1)) (some ((pos : Int) + 1 + 1)) = strOf [d] := by
      have := slice_at hx hr2
      simpa using this
    have hsl2 : (Txt.slice text (some ((pos : Int) + 1)) (some ((pos : Int) + 1 + 1))).length ≤ 1 := by rw [hsl]; exact Nat.le_refl _
    have hpl2 : pos + 1 < Tx.length := by
      apply Nat.lt_of_not_le; intro hle; rw [List.drop_eq_nil_of_le hle] at hr2; cases hr2
    have htl : (strOf []).length ≤ 1 := Nat.zero_le _
    k_steps
    refine wpAny_For ?_
    walk1
    rename Fr h₀ _ _ _ => kF
    rename News h₀ _ _ _ => kN
    refine pyIter_cit (News.get kN (by k_mem)) ?_
    have kF' := frEqv kF mG_tcc
    rw [hsl, strOf_app] at kF'
    refine loopB w dp un gd outer A₀ base h₀ L p loose mean mg mb lx it q dx st at_ pb tq t1 t2 t3 t4 t5 R text x Tx b _ _ B X T hcd hd (by omega) LI hoffD hne hi1 hi2 hq1 hq2 hlen hx hws hw' { s with heap := _, toks := _ } [d] _ _ (pos + 1 + 1) _ _ _ _ kF' kN ⟨by omega, by omega⟩ (by simp) (drop_tail hr2) ?_
    intro h' tk' u k' u2 n' tn' pos' dch' g1 g2 g3 g4 g5 g6
    exact ret h' tk' u k' u2 n' tn' pos' dch' g1 g2 g3 g4 g5 g6
  | @bare c x w' t b c1 c2 c3 hw' hws =>
    intro s dch pos tp kk n tn F N hn hr hps rnext ret
    have hpl : pos < Tx.length := by
      apply Nat.lt_of_not_le; intro hle; rw [List.drop_eq_nil_of_le hle] at hr; cases hr
    dsimp only [gtS, gtS0, outB, outB0]
    refine forLoop_turn ?_
    refine pyNext_cit rfl (News.get N (by k_mem)) (News.get N (by k_mem)) (X.keeps F.keep _ _ (by k_is)) rfl ?_
    refine rdch_code w _ _ _ _ _ _ _ _ _ _ _ _ _ _ _ _ _ _ _ _ _ B F X T rfl hcd (by show dp + 20 < 1000; omega) (by show un + 1 + 200 < 9900; omega) _ N (LI.mono fun _ hp9 => .tail _ (.tail _ hp9)) (by k_all) (by k_all) hne hlen (by omega) (by omega) ?_
    intro h1 tk1 u1 k1 u2 n1 tn1 i j j' e1 e2 e3 en1 en2 F1 N1
    subst e1 e2 e3
    refine ⟨_, _, rfl, News.get N1 (by k_mem), News.get N1 (by k_mem), X.keeps F1.keep _ _ (by k_is), ?_⟩
    rw [slice_at hx hr, if_neg ne_nil]
    dsimp only
    have a1 := wsN c1
    have a2 : (strOf [c] == Str.ofString "\"") = false := beq_no (k := 34) (by decide +kernel) c2
    have a3 : (strOf [c] == Str.ofString "\\") = false := beq_no (k := 92) (by decide +kernel) c3
    have a4 : (strOf [c]).length ≤ 1 := Nat.le_refl _
    have htl : (strOf []).length ≤ 1 := Nat.zero_le _
    k_steps
    refine wpAny_For ?_
    walk1
    rename Fr h₀ _ _ _ => kF
    rename News h₀ _ _ _ => kN
    refine pyIter_cit (News.get kN (by k_mem)) ?_
    have kF' := frEqv kF mG_tc
    rw [strOf_app] at kF'
    refine loopB w dp un gd outer A₀ base h₀ L p loose mean mg mb lx it q dx st at_ pb tq t1 t2 t3 t4 t5 R text x Tx b _ _ B X T hcd hd (by omega) LI hoffD hne hi1 hi2 hq1 hq2 hlen hx hws hw' { s with heap := _, toks := _ } [c] _ _ (pos + 1) _ _ _ _ kF' kN ⟨by omega, by omega⟩ (by simp) (drop_tail hr) ?_
    intro h' tk' u k' u2 n' tn' pos' dch' g1 g2 g3 g4 g5 g6
    exact ret h' tk' u k' u2 n' tn' pos' dch' g1 g2 g3 g4 g5 g6
end Mine

namespace Mine
set_option maxHeartbeats 8000000
local macro_rules | `(tactic| walk_at "call ref") => `(tactic| (k_here; (try dsimp only [List.append_nil, List.cons_append, List.nil_append]); (with_reducible show wpAny _ _ (call (Value.ref 42) [Value.ref _]) _ _ _); k_dflt (refine' wpAny_call (rdch_code _ _ _ _ _ _ _ _ _ _ _ _ _ _ _ _ _ _ _ _ _ _ ?B ?F ?X ?T ?hk ?hcd ?hd ?hu _ ?N ?LI ?ho1 ?ho2 ?hne ?hlen ?hpos ?hn ?_); (case B => k_asm); (case F => k_asm); (case X => k_asm); (case T => k_asm); (case hk => first | rfl | assumption); (case hcd => assumption); (case N => k_asm); (case LI => exact LexIn.mono (by assumption) (fun _ hp9 => .tail _ (.tail _ hp9))); (case ho1 => k_all); (case ho2 => k_all); (case hne => assumption); (case hlen => assumption); (case hpos => omega); (case hn => omega); (case hd => show _ + 20 < 1000; (try dsimp only [ktrTop]); omega); (case hu => show _ + 200 < 9900; (try dsimp only [ktrTop]); omega); k_whole; intro h' tk' u' k' u2 n' tn' i' j' jj' e1 e2 e3 en1 en2 F' N'; (subst e1 e2 e3); (try dsimp only at N'); (try k_sweep))))
local macro_rules | `(tactic| walk_at "ite") => `(tactic| first | refine ite_neg (by rw [Bool.not_eq_true]; with_reducible assumption) ?_ | refine ite_pos (by with_reducible assumption) ?_)

theorem frCast {h₀ h : Heap} {L : Addr} {m m' : Str → Option Value} (F : Fr h₀ L h m) (e : m = m') : Fr h₀ L h m' := e ▸ F
theorem off3 {R : List (Addr × Obj)} {x y z : Addr} (h : OwnOff R [x, y]) (h2 : ∀ p ∈ R, p.1 ≠ z) : OwnOff R [x, y, z] := fun p hp b hb => by
  rcases List.mem_cons.mp hb with rfl | hb
  · exact h p hp _ (.head _)
  rcases List.mem_cons.mp hb with rfl | hb
  · exact h p hp _ (.tail _ (.head _))
  · rw [List.mem_singleton.mp hb]; exact h2 p hp
theorem offLt {d : Addr} {R : List (Addr × Obj)} (h : AllLt d R) : ∀ p ∈ R, p.1 ≠ d := fun p hp => Nat.ne_of_lt (ktn_ltOf h p hp)
theorem news4 {h₀ h : Heap} {L : Addr} {a b c d : Addr × Obj} {R : List (Addr × Obj)} (N : News h₀ L h (a :: b :: c :: d :: R)) : News h₀ L h (c :: d :: a :: b :: R) := fun p hp => N p (by
  simp only [List.mem_cons] at hp ⊢
  rcases hp with h | h | h | h | h <;> simp only [h, true_or, or_true])
theorem lkk {y : Str} {v : Value} : List.lookup y [(("self" : Str), v)] = if y = "self" then some v else none := by
    by_cases h : y = "self"
    · rw [if_pos h, List.lookup_cons, beq_iff_eq.mpr h]
    · rw [if_neg h, List.lookup_cons, beq_eq_false_iff_ne.mpr h]; rfl
theorem mG_start {b c : Option Value} {v : Value} (y : Str) : (if y = "fiter" then c else if y = "token" then b else List.lookup y [("self", v)]) = mG (some v) b c none y := by
  rw [lkk]
  unfold mG
  by_cases h1 : y = "self"
  · subst h1; simp only [kst, ksf, if_true, if_false]
  by_cases h2 : y = "token"
  · subst h2; simp only [kst.symm, ktf, if_true, if_false]
  by_cases h3 : y = "fiter"
  · subst h3; simp only [ksf.symm, ktf.symm, if_true, if_false]
  simp only [h1, h2, h3, if_false, ite_self]
local macro_rules | `(tactic| walk_at "call builtin:iter") => `(tactic| (k_here; (with_reducible show wpAny _ _ (call (Value.builtin "iter") [Value.ref _, Value.str _ _]) _ _ _); k_dflt (refine' call_iter2 ?k1 ?k2 ?k3 ?_; (case k1 => k_asm); (case k2 => k_asm); (case k3 => exact News.get (by k_asm) (by k_mem)); k_whole); intro it' h' F' N' l1; (try k_lt l1); (try k_sweep)))
local macro_rules | `(tactic| walk_at "truthy ref") => `(tactic| (k_here; (with_reducible show wpAny _ _ (truthy (Value.ref _)) _ _ _); k_dflt (refine' wpAny_truthy_list (News.isList ?N ?m) ?z ?_; (case N => k_asm); (case m => k_mem); (case z => decide)); (simp only [List.isEmpty_toArray, Array.isEmpty_empty, Bool.not_true, Bool.not_false])))
theorem gettok_code (w : World) (dp un : Nat) (gd : Option (List Code)) (cn : Str) (cs : Scope) (a : Addr) (ccd : Value) (cl : List (Str × Addr)) (outer : List Env) (A₀ : Around) (base h₀ : Heap) (L : Addr) (m : Str → Option Value) (s : Shared) (p : Program) (loose : List Str) (mean : ExcName → Option Value) (mg mb : Str → Option Value)
    (Rr : Result → Shared → Prop)
    (B : Below A₀ base outer h₀) (F : Fr h₀ L s.heap m) (X : (wPart w.params).In h₀) (T : Top p loose mean mg mb h₀) (hk : cs.kind = .function)
    (hcd : CodeHd base 123 119) (hd : dp + 40 < 1000) (hu : un + 500 < 9900)
  (R : List (Addr × Obj)) {lx dx st at_ pb : Addr} {text : Str} {Tx : List Nat} {pos : Nat} {tp : Tok} {kk kp : Nat} {n : Int} {tn t1 t2 t3 t4 t5 : Tok}
  (N : News h₀ L s.heap ((at_, W.listOf #[.int (pos : Nat) tp] kk) :: (dx, lexD w n tn st pb t1 t2 t3 t4 t5) :: R)) (LI : LexIn w R lx dx st at_ text) (hpb : (pb, W.listOf #[] kp) ∈ R)
  (ho1 : ∀ p ∈ R, p.1 ≠ at_) (ho2 : ∀ p ∈ R, p.1 ≠ dx) (hne : @Ne Nat at_ dx) (hlen : text.length ≤ 10000) (hx : text.cps.toList = Tx) (hn : 0 ≤ n ∧ n ≤ pos + 1) (hps : pos ≤ Tx.length + 20)
  {rem t b : List Nat} (hw : Tok3 rem t b) (hr : Tx.drop pos = rem)
  (ret : ∀ h' tk' u k' u2 n' tn' pos', Tx.drop pos' = b → pos' ≤ max pos Tx.length + 1 → 0 ≤ n' → n' ≤ (pos' : Int) + 1 → Fr h₀ L h' m → News h₀ L h' ((at_, W.listOf #[.int (pos' : Nat) u] k') :: (dx, lexD w n' tn' st pb t1 t2 t3 t4 t5) :: R) → Rr (.ok (.ret (.str (strOf t) u2))) { s with heap := h', toks := tk' }) :
    codeAny (model P1 w) (ktrTop dp un gd cn cs L a ccd cl outer) (.call (.ref 49) ⟨[.ref lx], []⟩) Rr s := by
  have hoff : OwnOff R [at_, dx] := fun p hp b hb => by
    rcases List.mem_cons.mp hb with rfl | hb
    · exact ho1 p hp
    · rw [List.mem_singleton.mp hb]; exact ho2 p hp
  have i1 : (lx, instObj 59 dx) ∈ R := by obtain ⟨_, _, _, _, _, _, _, _, _, _, _, _, _, _, _, _, _, i1, _⟩ := LI; exact i1
  k_dflt (refine' code_def ?k1 ?k2 ?k3 ?k4 ?k5 ?kA ?kF ?kK ?k6 ?k7 ?k8 ?k9 ?kB ?_ ?c2 ?c3 ?c4 ?c5; (case kA => exact rfl); (case kF => exact rfl); (case kK => assumption); (case k1 => k_asm); (case k2 => k_asm); (case k3 => k_asm); (case k4 => k_asm); (case k5 => k_asm); (case k6 => k_is); (case k7 => k_is); (case k8 => show _ < 1000; dsimp only [ktrTop]; omega); (case k9 => exact BindsTo.of_eq rfl); (case c5 => decide); (case kB => exact locs rfl); (case c2 => exact rfl); (case c3 => exact rfl); (case c4 => exact rfl); k_whole; intro g' L' h' FG' F' N' B' X' T'; (try dsimp only))
  have F2 : Fr g' L' h' (fun y => List.lookup y [(("self" : Str), Value.ref lx)]) := frCast F' (by kernel_rfl)
  clear F'
  k_steps
  refine wpAny_For ?_
  walk1
  rename Fr g' _ _ _ => kF
  rename News g' _ _ _ => kN
  rename _ < _ ∧ _ < _ ∧ _ < _ ∧ AllLt _ R => l3
  rename _ < _ ∧ _ < _ ∧ AllLt _ R => l2
  refine pyIter_cit (News.get kN (by k_mem)) ?_
  have e0 : (Str.ofString "") = strOf [] := by decide +kernel
  rw [e0] at kF
  refine loopO w _ _ _ _ _ _ _ _ _ _ _ _ _ _ _ _ dx st at_ pb _ t1 t2 t3 t4 t5 R text Tx _ _ _ B' X' T' hcd (by show dp + 1 + 30 < 1000; omega) (by show un + 3 + 400 < 9900; omega) LI (off3 hoff (offLt l3.2.2.2)) hne (by omega) (by omega) (by omega) (by omega) (by omega) hlen hx hw { s with heap := _, toks := _ } _ pos _ _ _ _ (frEqv kF mG_start) (news4 kN) hn hr hps ?_ ?_
  · intro h' tk' u k' n' tn' pos' dch' g0 g1 g2 g3 g4 g5 g6
    dsimp only
    k_steps
    rename Fr h₀ _ _ _ => zF
    rename News h₀ _ _ _ => zN
    subst g0
    exact ret h' tk' u k' _ n' tn' pos' g1 g2 g3 g4 zF (fun p hp => zN p (by
      simp only [List.mem_cons] at hp ⊢
      rcases hp with h | h | h <;> simp only [h, true_or, or_true]))
  · intro h' tk' u k' u2 n' tn' pos' dch' g1 g2 g3 g4 g5 g6
    dsimp only
    k_steps
    rename Fr h₀ _ _ _ => zF
    rename News h₀ _ _ _ => zN
    exact ret h' tk' u k' u2 n' tn' pos' g1 (by omega) g3 g4 zF (fun p hp => zN p (by
      simp only [List.mem_cons] at hp ⊢
      rcases hp with h | h | h <;> simp only [h, true_or, or_true]))
end Mine

namespace Mine
set_option maxHeartbeats 8000000
theorem allLt_ne {d : Addr} : ∀ {R : List (Addr × Obj)} {b : Addr}, AllLt d R → @LE.le Nat _ d b → ∀ p ∈ R, p.1 ≠ b
  | [], _, _, _, _, h => nomatch h
  | q :: r, b, h, hb, p, hp => by
    rcases List.mem_cons.mp hp with rfl | hp
    · exact Nat.ne_of_lt (Nat.lt_of_lt_of_le h.1 hb)
    · exact allLt_ne h.2 hb p hp
theorem newsLex {h₀ h : Heap} {L : Addr} {p1 p2 p3 p4 p5 p6 p7 p8 p9 p10 p11 p12 : Addr × Obj} {R : List (Addr × Obj)} (N : News h₀ L h (p1 :: p2 :: p3 :: p4 :: p5 :: p6 :: p7 :: p8 :: p9 :: p10 :: p11 :: p12 :: R)) :
    News h₀ L h (p9 :: p3 :: p1 :: ([p2, p4, p5, p6, p7, p8, p10, p11, p12] ++ R)) := fun p hp => N p (by
  simp only [List.mem_cons, List.mem_append, List.not_mem_nil, or_false] at hp ⊢
  rcases hp with h | h | h | (h | h | h | h | h | h | h | h | h) | h <;> simp only [h, true_or, or_true])
theorem off3b {R : List (Addr × Obj)} {x y z : Addr} (h0 : ∀ p ∈ R, p.1 ≠ x) (h1 : ∀ p ∈ R, p.1 ≠ y) (h2 : ∀ p ∈ R, p.1 ≠ z) : OwnOff R [x, y, z] := by
  intro p hp b hb
  rcases List.mem_cons.mp hb with rfl | hb
  · exact h0 p hp
  rcases List.mem_cons.mp hb with rfl | hb
  · exact h1 p hp
  · rw [List.mem_singleton.mp hb]; exact h2 p hp
theorem lexMk {w : World} {sd fr cr cA cT lx dx st at_ c : Addr} {ocr oA oT oc : Obj} {fdS : FuncData} {vs : Array Value} {qual : Str} {tq : Tok} {doc pm ctv : Value} {text : Str} {tk1 tt : Tok} {p : Addr × Obj} {R : List (Addr × Obj)}
    (h2d : ocr.data = .fields vs) (h2v : vs[1]? = some (.str qual tq)) (h3d : oA.data = .cell (some (.ref at_))) (h4d : oT.data = .cell (some (.str text tt))) :
    LexIn w ([(lx, instObj 59 dx), (sd, dictOf [⟨PyData.keyHash w.params "read", .str "read" tk1, .ref fr⟩] 1), (st, fnObj fdS (some sd)), (c, oc), (fr, fnMade "read" qual readA readB readS [("text", cT), ("at", cA)] doc pm cr ctv), (cr, ocr), (cA, oA), (cT, oT), p] ++ R) lx dx st at_ text := by
  refine ⟨sd, fr, cr, cA, cT, ocr, oA, oT, fdS, vs, qual, tq, doc, pm, ctv, tk1, tt, ?_, ?_, ?_, ?_, ?_, h2d, h2v, ?_, h3d, ?_, h4d⟩ <;> simp only [List.mem_append, List.mem_cons, true_or, or_true]
end Mine

local macro_rules | `(tactic| k_room) => `(tactic| ((try simp only [depth_mark, depth_under_make, depth_under_kw, depth_in1, depth_deeper, depth_caller]); (show _ < 1000); (try dsimp only [ktrTop]); omega))
namespace Mine
set_option maxHeartbeats 8000000
local macro_rules | `(tactic| walk_at "ite") => `(tactic| first | refine ite_neg (by rw [Bool.not_eq_true]; with_reducible assumption) ?_ | refine ite_pos (by with_reducible assumption) ?_ | refine ite_neg (by omega) ?_ | refine ite_pos (by omega) ?_)
local macro_rules | `(tactic| walk_at "subscriptTail") => `(tactic| (k_here; (with_reducible show wpAny _ _ (subscriptTail _ _ (Value.str _ _) (Value.int _ _)) _ _ _); (refine KXi.item rfl ?k1 ?k2 ?k3 ?_; (case k1 => omega); (case k2 => omega); (case k3 => omega)); intro kxiE))
theorem p229_code (w : World) (dp un : Nat) (gd : Option (List Code)) (cn : Str) (cs : Scope) (a : Addr) (ccd : Value) (cl : List (Str × Addr)) (outer : List Env) (A₀ : Around) (base h₀ : Heap) (L : Addr) (m : Str → Option Value) (s : Shared) (p : Program) (loose : List Str) (mean : ExcName → Option Value) (mg mb : Str → Option Value)
    (Rr : Result → Shared → Prop)
    (B : Below A₀ base outer h₀) (F : Fr h₀ L s.heap m) (X : (wPart w.params).In h₀) (T : Top p loose mean mg mb h₀) (hk : cs.kind = .function)
    (hcd : CodeHd base 123 119) (hd : dp + 40 < 1000) (hu : un + 500 < 9900)
  (R : List (Addr × Obj)) {resp : Str} {tr tk0 tk1 : Tok} {pr : Addr} {k0 : Str} (N : News h₀ L s.heap R) (ip : (pr, ({ cls := .type "tuple", data := .seq #[.str k0 tk0, .int 21 tk1] } : Obj)) ∈ R) (hlen : resp.length ≤ 100) (hle2 : 10 ≤ resp.length)
  (e1 : (Txt.slice resp none (some 3) != Str.ofString "229") = false) (e2 : Txt.find resp (Str.ofString "(") = 4) {rt : Int} (e3 : Txt.find3 resp (Str.ofString ")") (Txt.find resp (Str.ofString "(") + 1) = rt) (hr1 : 6 ≤ rt) (hr2 : rt < resp.length)
  (e4 : (Txt.item resp (Txt.find resp (Str.ofString "(") + 1) != Txt.item resp (Txt.find3 resp (Str.ofString ")") (Txt.find resp (Str.ofString "(") + 1) - 1)) = false) {parts : List Str} {dg : Str} {port : Int}
  (e5 : Txt.split (Txt.slice resp (some (Txt.find resp (Str.ofString "(") + 1)) (some (Txt.find3 resp (Str.ofString ")") (Txt.find resp (Str.ofString "(") + 1)))) (Txt.item resp (Txt.find resp (Str.ofString "(") + 1)) = parts) (e6 : parts.length = 5) (e7 : parts[3]? = some dg) (e8 : PySem.intText? dg = some port) (e9 : dg.length ≤ 100)
  (ret : ∀ h' tk' o tk1 tk2, AllLt o R → Fr h₀ L h' m → News h₀ L h' ((o, ({ cls := .type "tuple", data := .seq #[.str k0 tk1, .int port tk2] } : Obj)) :: R) → Rr (.ok (.ret (.ref o))) { s with heap := h', toks := tk' }) :
    codeAny (model P1 w) (ktrTop dp un gd cn cs L a ccd cl outer) (.call (.ref 107) ⟨[.str resp tr, .ref pr], []⟩) Rr s := by
  k_dflt (refine' code_def ?k1 ?k2 ?k3 ?k4 ?k5 ?kA ?kF ?kK ?k6 ?k7 ?k8 ?k9 ?kB ?_ ?c2 ?c3 ?c4 ?c5; (case kA => exact rfl); (case kF => exact rfl); (case kK => assumption); (case k1 => k_asm); (case k2 => k_asm); (case k3 => k_asm); (case k4 => k_asm); (case k5 => k_asm); (case k6 => k_is); (case k7 => k_is); (case k8 => show _ < 1000; dsimp only [ktrTop]; omega); (case k9 => exact BindsTo.of_eq rfl); (case c5 => decide); (case kB => exact locs rfl); (case c2 => exact rfl); (case c3 => exact rfl); (case c4 => exact rfl); k_whole; intro g' L' h' FG' F' N' B' X' T'; (try dsimp only))
  k_steps
  · exfalso
    rename List.map _ _ = Txt.split _ _ => hs
    rw [e5] at hs
    have z := congrArg List.length hs
    simp only [List.length_map, e6] at z
    omega
  · rename List.map _ _ = Txt.split _ _ => hs
    rename (List.map _ _)[_]? = some _ => hy
    rw [hs, e5] at hy
    have hy2 := Option.some.inj (e7.symm.trans hy)
    subst hy2
    refine KIN.call_text e8 (by omega) ?_
    k_steps
    rename Fr h₀ _ _ _ => kF; rename News h₀ _ _ _ => kN; rename _ ∧ AllLt _ _ => l1
    exact ret _ _ _ _ _ l1.2 kF (fun p hp => kN p (by rcases List.mem_cons.mp hp with rfl | hp; exact .head _; exact .tail _ (.tail _ hp)))
end Mine

namespace Mine
set_option maxHeartbeats 8000000
noncomputable def Stop (P : Prop) : Prop := P
theorem Stop.go {P : Prop} (h : Stop P) : P := h
local macro_rules | `(tactic| walk_at "eval ListComp") => `(tactic| refine Stop.go ?_)
theorem strsAre_of : ∀ {vs : List Value} {ys : List Str}, TxtsAre vs ys → StrsAre vs ys
  | [], [], _ => .nil
  | .str x t :: _, _ :: _, h => h.1 ▸ .cons x t (strsAre_of h.2)
theorem lenTxts (x : Str) (hx : x.length ≤ 40) {f : Nat → Str} (hf : ∀ c, (f c).length ≤ 2) : ((x.cps.toList.map f).map (·.length)).sum + (x.cps.toList.map f).length * 64 ≤ 16777216 := by
  have h := sumTwo hf x.cps.toList
  have e : x.cps.toList.length = x.length := by simp [Str.length]
  rw [List.length_map]
  omega
theorem word1_code (w : World) (dp un : Nat) (gd : Option (List Code)) (cn : Str) (cs : Scope) (a : Addr) (ccd : Value) (cl : List (Str × Addr)) (outer : List Env) (A₀ : Around) (base h₀ : Heap) (L : Addr) (m : Str → Option Value) (s : Shared) (p : Program) (loose : List Str) (mean : ExcName → Option Value) (mg mb : Str → Option Value)
    (Rr : Result → Shared → Prop)
    (B : Below A₀ base outer h₀) (F : Fr h₀ L s.heap m) (X : (wPart w.params).In h₀) (T : Top p loose mean mg mb h₀) (hk : cs.kind = .function)
    (hcd : CodeHd base 123 119) (hd : dp + 40 < 1000) (hu : un + 500 < 9900)
  (R : List (Addr × Obj)) {x : Str} {tx : Tok} {tm : Tok} (N : News h₀ L s.heap R) (hx : x.length ≤ 40)
  (ret : ∀ h' tk' t, Fr h₀ L h' m → News h₀ L h' R → Rr (.ok (.ret (.str (Txt.join (Str.ofString "") (x.cps.toList.map fun c => Str.ofString "\\" ++ ⟨#[c]⟩)) t))) { s with heap := h', toks := tk' }) :
    codeAny (model P1 w) (ktrTop dp un gd cn cs L a ccd cl outer) (.call (.ref 129) ⟨[.str x tx, .int 1 tm], []⟩) Rr s := by
  k_dflt (refine' code_def ?k1 ?k2 ?k3 ?k4 ?k5 ?kA ?kF ?kK ?k6 ?k7 ?k8 ?k9 ?kB ?_ ?c2 ?c3 ?c4 ?c5; (case kA => exact rfl); (case kF => exact rfl); (case kK => assumption); (case k1 => k_asm); (case k2 => k_asm); (case k3 => k_asm); (case k4 => k_asm); (case k5 => k_asm); (case k6 => k_is); (case k7 => k_is); (case k8 => show _ < 1000; dsimp only [ktrTop]; omega); (case k9 => exact BindsTo.of_eq rfl); (case c5 => decide); (case kB => exact locs rfl); (case c2 => exact rfl); (case c3 => exact rfl); (case c4 => exact rfl); k_whole; intro g' L' h' FG' F' N' B' X' T'; (try dsimp only))
  k_steps
  unfold Stop
  rename Fr g' L' _ _ => kF
  refine ListComp_S kF rfl (by decide +kernel) rfl (by decide +kernel) rfl ?_
  k_steps
  rename News g' L' _ _ => kN
  refine ⟨_, _, R, rfl, rfl, kF, kN, by (show x.length ≤ _); exact Nat.le_trans hx (Nat.le_of_ble_eq_true rfl), fun s₂ ⟨hh, e⟩ => ?_⟩
  subst e
  refine compTxt_of (fun c => Str.ofString "\\" ++ ⟨#[c]⟩) ?step ?fin _ 0 [] (by omega) trivial
  case step =>
    intro c u I oI C oC D m₂ h tk E' ys hc hns hm F9 N9
    have hl1 : Str.length ⟨#[c]⟩ = 1 := rfl
    k_steps
    all_goals first | exact F9 | exact N9
  case fin =>
    intro ys hys D h9 tk9 F9 N9 o9
    k_steps
    refine join_listC (ys := x.cps.toList.map fun c => Str.ofString "\\" ++ ⟨#[c]⟩) ⟨_, (N9 _ (.head _)).1, rfl, _, rfl⟩ (strsAre_of hys) (by decide) ?_ (fun t' k => ?_)
    · exact lenTxts x hx fun c => Nat.le_refl 2
    · k_steps
      rename Fr h₀ _ _ _ => kF; rename News h₀ _ _ _ => kN
      exact ret _ _ _ kF fun p hp => kN p (.tail _ hp)
theorem word2_code (w : World) (dp un : Nat) (gd : Option (List Code)) (cn : Str) (cs : Scope) (a : Addr) (ccd : Value) (cl : List (Str × Addr)) (outer : List Env) (A₀ : Around) (base h₀ : Heap) (L : Addr) (m : Str → Option Value) (s : Shared) (p : Program) (loose : List Str) (mean : ExcName → Option Value) (mg mb : Str → Option Value)
    (Rr : Result → Shared → Prop)
    (B : Below A₀ base outer h₀) (F : Fr h₀ L s.heap m) (X : (wPart w.params).In h₀) (T : Top p loose mean mg mb h₀) (hk : cs.kind = .function)
    (hcd : CodeHd base 123 119) (hd : dp + 40 < 1000) (hu : un + 500 < 9900)
  (R : List (Addr × Obj)) {x : Str} {tx : Tok} {tm : Tok} (N : News h₀ L s.heap R) (hx : x.length ≤ 40)
  (ret : ∀ h' tk' t, Fr h₀ L h' m → News h₀ L h' R → Rr (.ok (.ret (.str (Txt.join (Str.ofString "") (x.cps.toList.map fun c => if Txt.contains (Str.ofString "\"\\ ") ⟨#[c]⟩ = true then Str.ofString "\\" ++ ⟨#[c]⟩ else ⟨#[c]⟩)) t))) { s with heap := h', toks := tk' }) :
    codeAny (model P1 w) (ktrTop dp un gd cn cs L a ccd cl outer) (.call (.ref 129) ⟨[.str x tx, .int 2 tm], []⟩) Rr s := by
  k_dflt (refine' code_def ?k1 ?k2 ?k3 ?k4 ?k5 ?kA ?kF ?kK ?k6 ?k7 ?k8 ?k9 ?kB ?_ ?c2 ?c3 ?c4 ?c5; (case kA => exact rfl); (case kF => exact rfl); (case kK => assumption); (case k1 => k_asm); (case k2 => k_asm); (case k3 => k_asm); (case k4 => k_asm); (case k5 => k_asm); (case k6 => k_is); (case k7 => k_is); (case k8 => show _ < 1000; dsimp only [ktrTop]; omega); (case k9 => exact BindsTo.of_eq rfl); (case c5 => decide); (case kB => exact locs rfl); (case c2 => exact rfl); (case c3 => exact rfl); (case c4 => exact rfl); k_whole; intro g' L' h' FG' F' N' B' X' T'; (try dsimp only))
  k_steps
  unfold Stop
  rename Fr g' L' _ _ => kF
  refine ListComp_S kF rfl (by decide +kernel) rfl (by decide +kernel) rfl ?_
  k_steps
  rename News g' L' _ _ => kN
  refine ⟨_, _, R, rfl, rfl, kF, kN, by (show x.length ≤ _); exact Nat.le_trans hx (Nat.le_of_ble_eq_true rfl), fun s₂ ⟨hh, e⟩ => ?_⟩
  subst e
  refine compTxt_of (fun c => if Txt.contains (Str.ofString "\"\\ ") ⟨#[c]⟩ = true then Str.ofString "\\" ++ ⟨#[c]⟩ else ⟨#[c]⟩) ?step ?fin _ 0 [] (by omega) trivial
  case step =>
    intro c u I oI C oC D m₂ h tk E' ys hc hns hm F9 N9
    have hl1 : Str.length ⟨#[c]⟩ = 1 := rfl
    k_steps
    all_goals first | exact F9 | exact N9 | (rename (List.isEmpty _) = _ => hoc; unfold Txt.contains; rw [hoc]; rfl)
  case fin =>
    intro ys hys D h9 tk9 F9 N9 o9
    k_steps
    refine join_listC (ys := x.cps.toList.map fun c => if Txt.contains (Str.ofString "\"\\ ") ⟨#[c]⟩ = true then Str.ofString "\\" ++ ⟨#[c]⟩ else ⟨#[c]⟩) ⟨_, (N9 _ (.head _)).1, rfl, _, rfl⟩ (strsAre_of hys) (by decide) ?_ (fun t' k => ?_)
    · exact lenTxts x hx fun c => by split; exact Nat.le_refl 2; exact Nat.le_succ 1
    · k_steps
      rename Fr h₀ _ _ _ => kF; rename News h₀ _ _ _ => kN
      exact ret _ _ _ kF fun p hp => kN p (.tail _ hp)
open PySem.Builtin PySem.Builtin.Str in
theorem replaceT {prog : Program} {w : World} {A : Around} {E : Value → Shared → Prop} {s : Shared} {x y z : Str} {t u v : Tok} {Q : Value → Shared → Prop} (hu : u ≠ 0) (hv : v ≠ 0) (huv : u ≠ v) (hyz : (y == z) = false) (hx : x.length ≤ 1000) (hz : z.length ≤ 14)
    (hq : ∀ t' k, @LE.le Nat _ s.toks k → Q (.str (Txt.replace x y z) t') { s with toks := k }) : wpAny (model prog w) A (call (.builtin "str.replace") [.str x t, .str y u, .str z v]) Q E s := by
  have hm : (x.length + 1) * z.length ≤ (x.length + 1) * 14 := Nat.mul_le_mul_left _ hz
  have hl : tooLong (x.length + (occurrences x y 0 x.length (x.length + 1)).length * z.length) = false := by
    have h1 := StrLaws.occ_length_le x y 0 x.length (x.length + 1)
    have h2 : (occurrences x y 0 x.length (x.length + 1)).length * z.length ≤ (x.length + 1) * z.length := Nat.mul_le_mul_right _ h1
    unfold tooLong
    refine decide_eq_false (Nat.not_lt.mpr ?_)
    refine Nat.le_trans (m := 16777216) (by omega) (Nat.le_of_ble_eq_true rfl)
  refine call_gives F.slot_str_replace (typeIs_str _ _ _) F.entry_str_replace (F.args_str_replace_3 _ _ _)
    (gives_str_replace x y z t u v fun _ => ⟨by simp [hu, hv], by simp [huv], hyz, hl⟩) ?_
  unfold Txt.replace at hq
  cases hc : ((occurrences x y 0 x.length (x.length + 1)).isEmpty || (y.length == 0 && z.length == 0))
  · rw [hc] at hq
    simp only [Bool.false_eq_true, if_false] at hq ⊢
    refine ⟨fits_replaced y (by omega), hq _ _ ?_⟩
    exact Nat.le_succ _
  · rw [hc] at hq
    simp only [if_true] at hq ⊢
    exact hq t s.toks (Nat.le_refl _)
local macro_rules | `(tactic| walk_at "call builtin:str.replace") => `(tactic| (refine replaceT (by (show @Ne Nat _ _); omega) (by (show @Ne Nat _ _); omega) (by (show @Ne Nat _ _); omega) (by decide) (by omega) (by decide) ?_; intro _ _ hrk; (try dsimp only at hrk)))
theorem word0_code (w : World) (dp un : Nat) (gd : Option (List Code)) (cn : Str) (cs : Scope) (a : Addr) (ccd : Value) (cl : List (Str × Addr)) (outer : List Env) (A₀ : Around) (base h₀ : Heap) (L : Addr) (m : Str → Option Value) (s : Shared) (p : Program) (loose : List Str) (mean : ExcName → Option Value) (mg mb : Str → Option Value)
    (Rr : Result → Shared → Prop)
    (B : Below A₀ base outer h₀) (F : Fr h₀ L s.heap m) (X : (wPart w.params).In h₀) (T : Top p loose mean mg mb h₀) (hk : cs.kind = .function)
    (hcd : CodeHd base 123 119) (hd : dp + 40 < 1000) (hu : un + 500 < 9900)
  (R : List (Addr × Obj)) {x : Str} {tx : Tok} {tm : Tok} (N : News h₀ L s.heap R) (hx : x.length ≤ 40) (h1 : (Txt.replace x (Str.ofString "\\") (Str.ofString "\\\\")).length ≤ 80) (h2 : (Txt.replace (Txt.replace x (Str.ofString "\\") (Str.ofString "\\\\")) (Str.ofString "\"") (Str.ofString "\\\"")).length ≤ 160)
  (ret : ∀ h' tk' t, Fr h₀ L h' m → News h₀ L h' R → Rr (.ok (.ret (.str (Str.ofString "\"" ++ Txt.replace (Txt.replace x (Str.ofString "\\") (Str.ofString "\\\\")) (Str.ofString "\"") (Str.ofString "\\\"") ++ Str.ofString "\"") t))) { s with heap := h', toks := tk' }) :
    codeAny (model P1 w) (ktrTop dp un gd cn cs L a ccd cl outer) (.call (.ref 129) ⟨[.str x tx, .int 0 tm], []⟩) Rr s := by
  k_dflt (refine' code_def ?k1 ?k2 ?k3 ?k4 ?k5 ?kA ?kF ?kK ?k6 ?k7 ?k8 ?k9 ?kB ?_ ?c2 ?c3 ?c4 ?c5; (case kA => exact rfl); (case kF => exact rfl); (case kK => assumption); (case k1 => k_asm); (case k2 => k_asm); (case k3 => k_asm); (case k4 => k_asm); (case k5 => k_asm); (case k6 => k_is); (case k7 => k_is); (case k8 => show _ < 1000; dsimp only [ktrTop]; omega); (case k9 => exact BindsTo.of_eq rfl); (case c5 => decide); (case kB => exact locs rfl); (case c2 => exact rfl); (case c3 => exact rfl); (case c4 => exact rfl); k_whole; intro g' L' h' FG' F' N' B' X' T'; (try dsimp only))
  k_steps
  rename Fr h₀ _ _ _ => kF; rename News h₀ _ _ _ => kN
  exact ret _ _ _ kF kN
end Mine

namespace Mine
open PySem PySem.W PyProof.Rows PySem.Calls PyProof.V PySem.Spec PySem.SeqAt
set_option maxHeartbeats 4000000
theorem rdTxts {h : Heap} : ∀ {vs : List Value} {ys : List Str}, TxtsAre vs ys → ReadsAll h vs (ys.map PyData.str) []
  | [], [], _ => .nil
  | .str x t :: vs, _ :: ys, ⟨rfl, r⟩ => by
    have := ReadsAll.cons (Reads.str (h := h) x t) (rdTxts (h := h) r)
    simpa using this
/-- the list's entries are pairs of two ints in the ledger -/
noncomputable abbrev tupII (p q : Int) (t1 t2 : Tok) : Obj := { cls := .type "tuple", data := .seq #[.int p t1, .int q t2] }
noncomputable def PairsIn (R : List (Addr × Obj)) : List Value → List (Int × Int) → Prop
  | [], [] => True
  | .ref a :: vs, e :: es => (∃ t1 t2, (a, tupII e.1 e.2 t1 t2) ∈ R) ∧ PairsIn R vs es
  | _, _ => False
theorem PairsIn.mono : ∀ {R R' : List (Addr × Obj)} {vs : List Value} {es : List (Int × Int)}, (∀ p ∈ R, p ∈ R') → PairsIn R vs es → PairsIn R' vs es
  | _, _, [], [], _, _ => trivial
  | _, _, .ref _ :: _, _ :: _, hs, h => ⟨⟨h.1.choose, h.1.choose_spec.choose, hs _ h.1.choose_spec.choose_spec⟩, PairsIn.mono hs h.2⟩
theorem PairsIn.snoc : ∀ {R : List (Addr × Obj)} {vs : List Value} {es : List (Int × Int)} {a : Addr} {e : Int × Int}, PairsIn R vs es → (∃ t1 t2, (a, tupII e.1 e.2 t1 t2) ∈ R) → PairsIn R (vs ++ [.ref a]) (es ++ [e])
  | _, [], [], _, _, _, h1 => ⟨h1, trivial⟩
  | _, .ref _ :: _, _ :: _, _, _, h, h1 => ⟨h.1, PairsIn.snoc h.2 h1⟩
noncomputable def pairD (e : Int × Int) : PyData := .tuple [.int e.1, .int e.2]
theorem rdPairs {h₀ h : Heap} {L : Addr} {R : List (Addr × Obj)} (N : News h₀ L h R) : ∀ {vs : List Value} {es : List (Int × Int)}, PairsIn R vs es → ReadsAll h vs (es.map pairD) []
  | [], [], _ => .nil
  | .ref a :: vs, e :: es, ⟨⟨t1, t2, hm⟩, r⟩ => by
    have h1 : Reads h (.ref a) (pairD e) [] := by
      have z : ReadsAll h (#[Value.int e.1 t1, Value.int e.2 t2] : Array Value).toList [.int e.1, .int e.2] [] := by
        have := ReadsAll.cons (Reads.int (h := h) e.1 t1) (ReadsAll.cons (Reads.int (h := h) e.2 t2) (.nil (h := h)))
        simpa using this
      exact Reads.tuple (N _ hm).1 rfl rfl z
    have := ReadsAll.cons h1 (rdPairs N r)
    simpa using this
section
variable {α : Type} (f : α → PyData)
theorem layAll_map : ∀ l : List α, (∀ a ∈ l, PyData.canLay0 (f a) = true) → PyData.canLayAll0 (l.map f) = true
  | [], _ => by simp [PyData.canLayAll0]
  | a :: l, hf => by
    have h1 := hf a (.head _)
    have h2 := layAll_map l fun b hb => hf b (.tail _ hb)
    simp [PyData.canLayAll0, h1, h2]
theorem depthAll_map (hf : ∀ a, PyData.depth (f a) ≤ 3) : ∀ l : List α, PyData.depthAll (l.map f) ≤ 3
  | [] => by simp [PyData.depthAll]
  | a :: l => by
    have h1 := hf a
    have h2 := depthAll_map hf l
    simp only [List.map_cons, PyData.depthAll]
    omega
theorem noMix_map (hf : ∀ a, noMix (f a) (f a) = true) : ∀ l : List α, noMixAll (l.map f) (l.map f) = true
  | [] => by simp [noMixAll]
  | a :: l => by simp [noMixAll, hf a, noMix_map hf l]
theorem same_map (hf : ∀ a, PySem.Spec.same (f a) (f a) = true) : ∀ l : List α, PySem.Spec.sameAll (l.map f) (l.map f) = true
  | [] => by simp [PySem.Spec.sameAll]
  | a :: l => by simp [PySem.Spec.sameAll, hf a, same_map hf l]
theorem shaped_map (l : List α) (h1 : ∀ a ∈ l, PyData.canLay0 (f a) = true) (h2 : ∀ a, PyData.depth (f a) ≤ 3) : shaped (.list (l.map f)) = true := by
  have z := depthAll_map f h2 l
  have h2 : PyData.depth (.list (l.map f)) ≤ 64 := by simp only [PyData.depth]; omega
  show (PyData.canLay0 (.list (l.map f)) && decide (PyData.depth (.list (l.map f)) ≤ 64)) = true
  rw [Bool.and_eq_true]
  exact ⟨by simp only [PyData.canLay0]; exact layAll_map f l h1, decide_eq_true h2⟩
end
section
variable {prog : Program} {w : World} {A : Around} {E : Value → Shared → Prop} {s : Shared}
theorem neSame {α : Type} {f : α → PyData} {l : List α} {a b : Addr} {vs us : List Value} {k1 k2 : Nat} {Q : Value → Shared → Prop} {h₀ : Heap} {L : Addr} {R : List (Addr × Obj)} (N : News h₀ L s.heap R)
    (m1 : (a, W.listOf vs.toArray k1) ∈ R) (m2 : (b, W.listOf us.toArray k2) ∈ R) (r1 : ReadsAll s.heap vs (l.map f) []) (r2 : ReadsAll s.heap us (l.map f) [])
    (h1 : ∀ a ∈ l, PyData.canLay0 (f a) = true) (h2 : ∀ a, PyData.depth (f a) ≤ 3) (h3 : ∀ a, noMix (f a) (f a) = true) (h4 : ∀ a, PySem.Spec.same (f a) (f a) = true) (hu : A.units + 64 < cLine)
    (h : Q (.bool false) s) : wpAny (model prog w) A (compareOp .NotEq (.ref a) (.ref b)) Q E s := by
  have q1 : Reads s.heap (.ref a) (.list (l.map f)) [a] := Reads.list (N _ m1).1 rfl rfl (by simpa using r1)
  have q2 : Reads s.heap (.ref b) (.list (l.map f)) [b] := Reads.list (N _ m2).1 rfl rfl (by simpa using r2)
  refine ne_dataH_same q1 q2 (shaped_map f l h1 h2) (shaped_map f l h1 h2) hu (by simp only [noMix]; exact noMix_map f h3 l) ?_
  simp only [PySem.Spec.same]
  rw [same_map f h4 l]
  exact h
theorem neTxts {ys : List Str} {a b : Addr} {vs us : List Value} {k1 k2 : Nat} {Q : Value → Shared → Prop} {h₀ : Heap} {L : Addr} {R : List (Addr × Obj)} (N : News h₀ L s.heap R)
    (m1 : (a, W.listOf vs.toArray k1) ∈ R) (m2 : (b, W.listOf us.toArray k2) ∈ R) (r1 : TxtsAre vs ys) (r2 : TxtsAre us ys) (hok : ∀ y ∈ ys, PyData.strOk y = true) (hu : A.units + 64 < cLine)
    (h : Q (.bool false) s) : wpAny (model prog w) A (compareOp .NotEq (.ref a) (.ref b)) Q E s :=
  neSame N m1 m2 (rdTxts r1) (rdTxts r2) (fun y hy => by simp [PyData.canLay0, hok y hy]) (fun _ => by simp [PyData.depth]) (fun _ => by simp [noMix]) (fun _ => by simp [PySem.Spec.same]) hu h
theorem nePairs {ps : List (Int × Int)} {a b : Addr} {vs us : List Value} {k1 k2 : Nat} {Q : Value → Shared → Prop} {h₀ : Heap} {L : Addr} {R : List (Addr × Obj)} (N : News h₀ L s.heap R)
    (m1 : (a, W.listOf vs.toArray k1) ∈ R) (m2 : (b, W.listOf us.toArray k2) ∈ R) (r1 : PairsIn R vs ps) (r2 : PairsIn R us ps) (hu : A.units + 64 < cLine)
    (h : Q (.bool false) s) : wpAny (model prog w) A (compareOp .NotEq (.ref a) (.ref b)) Q E s :=
  neSame N m1 m2 (rdPairs N r1) (rdPairs N r2) (fun _ _ => by simp [pairD, PyData.canLay0, PyData.canLayAll0]) (fun _ => by simp [pairD, PyData.depth, PyData.depthAll]) (fun _ => by simp [pairD, noMix, noMixAll]) (fun _ => by simp [pairD, PySem.Spec.same, PySem.Spec.sameAll]) hu h
end
end Mine

namespace Mine
structure Good (resp dg : Str) (parts : List Str) (rt port : Int) : Prop where
  len : resp.length ≤ 100 ∧ 10 ≤ resp.length ∧ 6 ≤ rt ∧ rt < resp.length
  e1 : (Txt.slice resp none (some 3) != Str.ofString "229") = false
  e2 : Txt.find resp (Str.ofString "(") = 4
  e3 : Txt.find3 resp (Str.ofString ")") (Txt.find resp (Str.ofString "(") + 1) = rt
  e4 : (Txt.item resp (Txt.find resp (Str.ofString "(") + 1) != Txt.item resp (Txt.find3 resp (Str.ofString ")") (Txt.find resp (Str.ofString "(") + 1) - 1)) = false
  e5 : Txt.split (Txt.slice resp (some (Txt.find resp (Str.ofString "(") + 1)) (some (Txt.find3 resp (Str.ofString ")") (Txt.find resp (Str.ofString "(") + 1)))) (Txt.item resp (Txt.find resp (Str.ofString "(") + 1)) = parts
  e6 : parts.length = 5
  e7 : parts[3]? = some dg
  e8 : PySem.intText? dg = some port
  e9 : dg.length ≤ 100
end Mine

namespace Mine
noncomputable def escQ (c : Nat) : List Nat := if c = 92 then [92, 92] else if c = 34 then [92, 34] else [c]
noncomputable def escB (c : Nat) : List Nat := if c = 34 ∨ c = 92 ∨ c = 32 then [92, c] else [c]
theorem QB_esc : ∀ t : List Nat, QB (t.flatMap escQ) t
  | [] => .nil
  | c :: t => by
    rw [List.flatMap_cons]
    unfold escQ
    by_cases h : c = 92
    · rw [if_pos h, h]; exact .esc (QB_esc t)
    · rw [if_neg h]
      by_cases h2 : c = 34
      · rw [if_pos h2, h2]; exact .esc (QB_esc t)
      · rw [if_neg h2]; exact .plain h2 h (QB_esc t)
theorem BB_all : ∀ t : List Nat, BB (t.flatMap fun c => [92, c]) t
  | [] => .nil
  | c :: t => .esc (BB_all t)
theorem BB_esc : ∀ t : List Nat, (∀ c ∈ t, ¬ (c = 10 ∨ c = 9 ∨ c = 13)) → BB (t.flatMap escB) t
  | [], _ => .nil
  | c :: t, h => by
    rw [List.flatMap_cons]
    have ht := BB_esc t fun c hc => h c (.tail _ hc)
    have hc := h c (.head _)
    unfold escB
    by_cases h1 : c = 34 ∨ c = 92 ∨ c = 32
    · rw [if_pos h1]; exact .esc ht
    · rw [if_neg h1]
      refine .plain (fun hw => ?_) (fun e => h1 (.inr (.inl e))) ht
      unfold isWs at hw
      rcases hw with e | e | e | e
      · exact hc (.inl e)
      · exact hc (.inr (.inl e))
      · exact hc (.inr (.inr e))
      · exact h1 (.inr (.inr e))
/-- the word of a text in one of the three manners -/
noncomputable def wordL (mn : Nat) (t : List Nat) : List Nat :=
  if mn = 0 then 34 :: (t.flatMap escQ ++ [34]) else if mn = 1 then t.flatMap (fun c => [92, c]) else t.flatMap escB
noncomputable def behind (mn x : Nat) (b : List Nat) : List Nat := if mn = 0 then x :: b else b
theorem wordTok {mn c x : Nat} {t b : List Nat} (hc : ¬ (c = 34 ∨ c = 92 ∨ c = 32)) (hp : ∀ d ∈ c :: t, ¬ (d = 10 ∨ d = 9 ∨ d = 13)) (hx : isWs x) : Tok3 (wordL mn (c :: t) ++ x :: b) (c :: t) (behind mn x b) := by
  unfold wordL behind
  by_cases h0 : mn = 0
  · rw [if_pos h0, if_pos h0]
    rw [List.cons_append, List.append_assoc]
    exact .quoted (QB_esc _)
  · rw [if_neg h0, if_neg h0]
    by_cases h1 : mn = 1
    · rw [if_pos h1, List.flatMap_cons]
      exact .escaped (BB_all t) hx
    · rw [if_neg h1, List.flatMap_cons]
      have e : escB c = [c] := if_neg hc
      rw [e]
      refine .bare (fun hw => ?_) (fun e => hc (.inl e)) (fun e => hc (.inr (.inl e))) (BB_esc t fun d hd => hp d (.tail _ hd)) hx
      unfold isWs at hw
      have := hp c (.head _)
      rcases hw with e | e | e | e
      · exact this (.inl e)
      · exact this (.inr (.inl e))
      · exact this (.inr (.inr e))
      · exact hc (.inr (.inr e))
end Mine

namespace Mine
open PySem PySem.W PyProof.Rows PySem.NumText PySem.W.KIN
noncomputable def numS (y : Int) : Str := Str.ofString (toString y)
theorem signs_neg (m : Nat) : (Str.ofString (toString (Int.negSucc m))).cps.toList = 45 :: (Nat.toDigits 10 (m + 1)).map Char.toNat := by
  rw [signs_ofString]
  show ("-" ++ Nat.repr (m + 1)).toList.map Char.toNat = _
  rw [String.toList_append, List.map_append, Nat.toList_repr]
  rfl
theorem digs (m : Nat) : AllDigits ((Nat.toDigits 10 m).map Char.toNat) := by
  intro c hc
  obtain ⟨ch, hch, e⟩ := List.mem_map.mp hc
  have r := digit_range (Nat.isDigit_of_mem_toDigits (by decide) (by decide) hch)
  rw [← e]
  exact r
theorem digs_ne (m : Nat) : (Nat.toDigits 10 m).map Char.toNat ≠ [] := by
  intro e
  have h := toDigits_len_ge 10 m
  rw [List.map_eq_nil_iff.mp e] at h
  exact absurd h (by decide)
theorem digs_len {m : Nat} (h : m < 10 ^ 24) : (Nat.toDigits 10 m).length ≤ 24 := by
  have z : (Str.ofString (toString ((m : Nat) : Int))).length ≤ 24 := toString_length_le (v := (m : Int)) (k := 24) (by omega) (by decide) (by omega)
  have e : (Str.ofString (toString ((m : Nat) : Int))).cps.toList.length = (Str.ofString (toString ((m : Nat) : Int))).length := by simp [Str.length]
  rw [← e, signs_num, List.length_map] at z
  exact z
theorem numS_len {y : Int} (h1 : -(10 ^ 24) < y) (h2 : y < 10 ^ 24) : (numS y).length ≤ 25 ∧ 1 ≤ (numS y).length := by
  have e : (numS y).cps.toList.length = (numS y).length := by simp [Str.length]
  rw [← e]
  unfold numS
  cases y with
  | ofNat m =>
    show (Str.ofString (toString ((m : Nat) : Int))).cps.toList.length ≤ 25 ∧ 1 ≤ (Str.ofString (toString ((m : Nat) : Int))).cps.toList.length
    rw [signs_num, List.length_map]
    have z := digs_len (m := m) (by have := h2; simp only [Int.ofNat_eq_natCast] at this; omega)
    have z2 := List.length_pos_iff.mpr (digs_ne m)
    rw [List.length_map] at z2
    omega
  | negSucc m =>
    rw [signs_neg, List.length_cons, List.length_map]
    have z := digs_len (m := m + 1) (by omega)
    omega
theorem numS_read {y : Int} (h1 : -(10 ^ 24) < y) (h2 : y < 10 ^ 24) : PySem.intText? (numS y) = some y := by
  have hl := (numS_len h1 h2).1
  unfold numS at hl ⊢
  cases y with
  | ofNat m =>
    have hs := signs_num m
    have e := intText_digits (x := Str.ofString (toString ((m : Nat) : Int))) (by rw [hs]; exact digs m) (by rw [hs]; exact digs_ne m) (Nat.le_trans hl (by decide))
    rw [hs, val_back] at e
    exact e
  | negSucc m =>
    have e := intText_neg (signs_neg m) (digs (m + 1)) (digs_ne (m + 1)) (Nat.le_trans hl (by decide))
    rw [val_back] at e
    exact e
theorem numS_q (y : Int) : ∀ c ∈ (numS y).cps.toList, c ≠ 34 := fun c hc e => by
  subst e
  exact (intText_free_34 y).mp hc
noncomputable def goalW (y : Int) : Str := Str.ofString "257 \"" ++ numS y ++ Str.ofString "\" is wanted"
theorem app_toList (x y : Str) : (x ++ y).cps.toList = x.cps.toList ++ y.cps.toList := by
  rw [PySem.Str.cps_append, Array.toList_append]
theorem goalW_list (y : Int) : (goalW y).cps.toList = [50, 53, 55, 32, 34] ++ ((numS y).cps.toList ++ (34 :: 32 :: [105, 115, 32, 119, 97, 110, 116, 101, 100])) := by
  unfold goalW
  rw [app_toList, app_toList, List.append_assoc]
  have e1 : (Str.ofString "257 \"").cps.toList = [50, 53, 55, 32, 34] := by decide +kernel
  have e2 : (Str.ofString "\" is wanted").cps.toList = 34 :: 32 :: [105, 115, 32, 119, 97, 110, 116, 101, 100] := by decide +kernel
  rw [e1, e2]
theorem goalW_len {y : Int} (h1 : -(10 ^ 24) < y) (h2 : y < 10 ^ 24) : 6 ≤ (goalW y).length ∧ (goalW y).length ≤ 100 := by
  have e : (goalW y).cps.toList.length = (goalW y).length := by simp [Str.length]
  have e2 : (numS y).cps.toList.length = (numS y).length := by simp [Str.length]
  have z := numS_len h1 h2
  rw [← e, goalW_list]
  simp only [List.length_append, List.length_cons, List.length_nil]
  omega
theorem goalW_drop (y : Int) : (goalW y).cps.toList.drop 5 = (numS y).cps.toList ++ 34 :: 32 :: [105, 115, 32, 119, 97, 110, 116, 101, 100] := by
  rw [goalW_list]; rfl
open PySem.StrLaws PySem.Builtin PySem.Builtin.Str in
theorem slice_nat (x : Str) (i j : Nat) (h : i ≤ j) (hj : j ≤ x.length) : Txt.slice x (some (i : Int)) (some (j : Int)) = strOf ((x.cps.toList.drop i).take (j - i)) := by
  have e := sliceText_nat x (a := i) (b := j) h hj
  show sliceText x _ _ = _
  rw [e]
open PySem.StrLaws PySem.Builtin PySem.Builtin.Str in
theorem slice_none (x : Str) (j : Int) : Txt.slice x none (some j) = Txt.slice x (some ((0 : Nat) : Int)) (some j) := by
  show sliceText x none (some j) = sliceText x (some ((0 : Nat) : Int)) (some j)
  unfold sliceText
  have e : strSliceIndices none (some j) 1 x.length = strSliceIndices (some ((0 : Nat) : Int)) (some j) 1 x.length := by
    unfold strSliceIndices
    have h0 : ∀ k : Nat, max (0 : Int) (min 0 (k : Int)) = 0 := fun k => by omega
    simp [h0]
  rw [e]
theorem goalW_facts {y : Int} (h1 : -(10 ^ 24) < y) (h2 : y < 10 ^ 24) : (Txt.slice (goalW y) none (some 3) != Str.ofString "229") = true ∧ (Txt.slice (goalW y) none (some 3) != Str.ofString "257") = false ∧ (Txt.slice (goalW y) (some 3) (some 5) != Str.ofString " \"") = false := by
  have hl := goalW_len h1 h2
  have a : Txt.slice (goalW y) none (some 3) = strOf [50, 53, 55] := by
    rw [slice_none]
    show Txt.slice (goalW y) (some ((0 : Nat) : Int)) (some ((3 : Nat) : Int)) = _
    rw [slice_nat _ 0 3 (by decide) (by omega), goalW_list]
    rfl
  have b : Txt.slice (goalW y) (some 3) (some 5) = strOf [32, 34] := by
    show Txt.slice (goalW y) (some ((3 : Nat) : Int)) (some ((5 : Nat) : Int)) = _
    rw [slice_nat _ 3 5 (by decide) (by omega), goalW_list]
    rfl
  rw [a, b]
  exact ⟨by decide +kernel, by decide +kernel, by decide +kernel⟩
end Mine

namespace Mine
/-- law 2's marks and replies -/
noncomputable def mk2 (q : Nat) : Nat := if q = 0 then 43 else 45
noncomputable def mkS2 (q : Nat) : Str := ⟨#[mk2 q]⟩
noncomputable def rep2 (q p : Nat) : Str := Str.ofString "229 (" ++ Txt.mul (mkS2 q) 3 ++ numS (p : Int) ++ mkS2 q ++ Str.ofString ")"
noncomputable def digL (p : Nat) : List Nat := (numS (p : Int)).cps.toList
theorem mul3 (q : Nat) : (Txt.mul (mkS2 q) 3).cps.toList = [mk2 q, mk2 q, mk2 q] := by
  unfold mkS2
  generalize mk2 q = c
  rfl
theorem rep2_list (q p : Nat) : (rep2 q p).cps.toList = [50, 50, 57, 32, 40] ++ (mk2 q :: mk2 q :: mk2 q :: (digL p ++ [mk2 q, 41])) := by
  unfold rep2 digL
  rw [app_toList, app_toList, app_toList, app_toList, mul3]
  have e1 : (Str.ofString "229 (").cps.toList = [50, 50, 57, 32, 40] := by decide +kernel
  have e2 : (Str.ofString ")").cps.toList = [41] := by decide +kernel
  have e3 : (mkS2 q).cps.toList = [mk2 q] := rfl
  rw [e1, e2, e3]
  simp
theorem digL_range (p : Nat) : ∀ c ∈ digL p, 48 ≤ c ∧ c ≤ 57 := by
  intro c hc
  unfold digL numS at hc
  rw [PySem.W.KIN.signs_num] at hc
  exact digs p c hc
theorem digL_len {p : Nat} (h : p < 10 ^ 12) : 1 ≤ (digL p).length ∧ (digL p).length ≤ 25 := by
  have z := numS_len (y := (p : Int)) (by omega) (by omega)
  have e : (digL p).length = (numS (p : Int)).length := by unfold digL; simp [Str.length]
  omega
theorem mk2_cases (q : Nat) : mk2 q = 43 ∨ mk2 q = 45 := by
  unfold mk2
  split
  · exact .inl rfl
  · exact .inr rfl
theorem rep2_len {q p : Nat} (h : p < 10 ^ 12) : (rep2 q p).length = (digL p).length + 10 := by
  have e : (rep2 q p).cps.toList.length = (rep2 q p).length := by simp [Str.length]
  rw [← e, rep2_list]
  simp only [List.length_append, List.length_cons, List.length_nil]
  omega
open PySem.StrLaws PySem.Builtin.Str in
theorem find_at {x : Str} {c k : Nat} (h : x.cps.toList[k]? = some c) (hn : ∀ i, i < k → x.cps.toList[i]? ≠ some c) : Txt.find x ⟨#[c]⟩ = (k : Int) := by
  unfold Txt.find
  rcases occ_head x ⟨#[c]⟩ 1 (Nat.le_refl 1) with ⟨h0, hx⟩ | ⟨i, r, h0, hi, hx⟩
  · exact absurd ((subAt_one x c k).mpr h) (hx k)
  · rw [h0]
    have hi2 := (subAt_one x c i).mp hi
    have h1 : ¬ i < k := fun hlt => hn i hlt hi2
    have h2 : ¬ k < i := fun hlt => hx k hlt ((subAt_one x c k).mpr h)
    show (i : Int) = (k : Int)
    omega
open PySem.StrLaws PySem.Builtin.Str in
theorem find3_at {x : Str} {c i k : Nat} (hik : i ≤ k) (h : x.cps.toList[k]? = some c) (hn : ∀ v, i ≤ v → v < k → x.cps.toList[v]? ≠ some c) : Txt.find3 x ⟨#[c]⟩ (i : Int) = (k : Int) := by
  have hk : k < x.length := by
    have := (List.getElem?_eq_some_iff.mp h).1
    simpa [Str.length] using this
  have hf : fromIndex x.length (i : Int) = i := by
    unfold fromIndex
    split <;> omega
  rcases find3_spec x c (i : Int) with ⟨_, hx⟩ | ⟨j, h0, hj1, hj2, hj3, hx⟩
  · rw [hf] at hx
    exact absurd (getD_of_getElem? h) (hx k hik hk)
  · rw [hf] at hj1 hx
    rw [h0]
    have hj := getElem?_of_getD hj2 hj3
    have h1 : ¬ j < k := fun hlt => hn j hj1 hlt hj
    have h2 : ¬ k < j := fun hlt => hx k hik hlt (getD_of_getElem? h)
    omega
end Mine

namespace Mine
theorem strExt {x y : Str} (h : x.cps.toList = y.cps.toList) : x = y := by
  have e : x.cps = y.cps := Array.ext' h
  cases x
  cases y
  cases e
  rfl
theorem join_two (c : Nat) (x y : Str) (r : List Str) : (Str.join ⟨#[c]⟩ (x :: y :: r)).cps.toList = x.cps.toList ++ c :: (Str.join ⟨#[c]⟩ (y :: r)).cps.toList := by
  show ((x ++ ⟨#[c]⟩ ++ Str.join ⟨#[c]⟩ (y :: r)) : Str).cps.toList = _
  rw [app_toList, app_toList, List.append_assoc]
  rfl
/-- two ways to cut a text at c, pieces free of c, are one -/
theorem cut_one (c : Nat) : ∀ (a b : List Str), a ≠ [] → b ≠ [] → (∀ p ∈ a, c ∉ p.cps.toList) → (∀ p ∈ b, c ∉ p.cps.toList) → (Str.join ⟨#[c]⟩ a).cps.toList = (Str.join ⟨#[c]⟩ b).cps.toList → a = b
  | [], _, h, _, _, _, _ => absurd rfl h
  | _, [], _, h, _, _, _ => absurd rfl h
  | [x], [y], _, _, _, _, h => by
    have h' : x.cps.toList = y.cps.toList := h
    rw [strExt h']
  | [x], y :: z :: r, _, _, ha, _, h => by
    rw [join_two] at h
    have h' : x.cps.toList = y.cps.toList ++ c :: (Str.join ⟨#[c]⟩ (z :: r)).cps.toList := h
    exact absurd (by rw [h']; exact List.mem_append_right _ (.head _)) (ha x (.head _))
  | x :: z :: r, [y], _, _, _, hb, h => by
    rw [join_two] at h
    have h' : x.cps.toList ++ c :: (Str.join ⟨#[c]⟩ (z :: r)).cps.toList = y.cps.toList := h
    exact absurd (by rw [← h']; exact List.mem_append_right _ (.head _)) (hb y (.head _))
  | x :: z :: r, y :: z' :: r', _, _, ha, hb, h => by
    rw [join_two, join_two] at h
    have hx := ha x (.head _)
    have hy := hb y (.head _)
    obtain ⟨e1, e2⟩ := cutHead hx hy h
    rw [strExt e1, cut_one c (z :: r) (z' :: r') (by simp) (by simp) (fun p hp => ha p (.tail _ hp)) (fun p hp => hb p (.tail _ hp)) e2]
where
  cutHead {c : Nat} : ∀ {u v s t : List Nat}, c ∉ u → c ∉ v → u ++ c :: s = v ++ c :: t → u = v ∧ s = t
    | [], [], _, _, _, _, h => ⟨rfl, (List.cons.inj h).2⟩
    | [], d :: v, _, _, _, hv, h => by
      have e := (List.cons.inj h).1
      subst e
      exact absurd (List.Mem.head _) hv
    | d :: u, [], _, _, hu, _, h => by
      have e := (List.cons.inj h).1
      subst e
      exact absurd (List.Mem.head _) hu
    | d :: u, d' :: v, s, t, hu, hv, h => by
      obtain ⟨e1, e2⟩ := List.cons.inj h
      obtain ⟨q1, q2⟩ := cutHead (c := c) (fun k => hu (.tail _ k)) (fun k => hv (.tail _ k)) e2
      exact ⟨by rw [e1, q1], q2⟩
theorem split_is {x : Str} {c : Nat} {parts : List Str} (hp : parts ≠ []) (hf : ∀ p ∈ parts, c ∉ p.cps.toList) (hj : (Str.join ⟨#[c]⟩ parts).cps.toList = x.cps.toList) : Txt.split x ⟨#[c]⟩ = parts := by
  have h1 := PySem.StrLaws.join_split x ⟨#[c]⟩
  have h2 := PySem.StrLaws.split_free x c
  refine cut_one c _ _ (fun e => ?_) hp h2 hf ?_
  · unfold Txt.split at e
    split at e
    · cases e
    · split at e
      · cases e
      · rw [PySem.StrLaws.partsBetween_eq] at e
        obtain ⟨p, r, e2⟩ := PySem.StrLaws.partsFrom_ne x (⟨#[c]⟩ : Str).length 0 (Builtin.Str.occurrences x ⟨#[c]⟩ 0 x.length (x.length + 1))
        rw [e2] at e
        cases e
  · rw [h1, hj]
noncomputable def parts2 (p : Nat) : List Str := [⟨#[]⟩, ⟨#[]⟩, ⟨#[]⟩, numS (p : Int), ⟨#[]⟩]
theorem good2 (q : Nat) {p : Nat} (h : p < 10 ^ 12) : Good (rep2 q p) (numS (p : Int)) (parts2 p) (((digL p).length + 9 : Nat) : Int) (p : Int) := by
  have hl := rep2_len (q := q) h
  have hd := digL_len h
  have hL := rep2_list q p
  have hr := digL_range p
  have hc := mk2_cases q
  have hll : (rep2 q p).cps.toList.length = (rep2 q p).length := by simp [Str.length]
  have e2 : Txt.find (rep2 q p) (Str.ofString "(") = 4 := by
    have e : Str.ofString "(" = ⟨#[40]⟩ := by decide +kernel
    rw [e]
    refine find_at (k := 4) (by rw [hL]; rfl) fun i hi => ?_
    rw [hL]
    have : i = 0 ∨ i = 1 ∨ i = 2 ∨ i = 3 := by omega
    rcases this with rfl | rfl | rfl | rfl <;> simp
  have e25 : Txt.find (rep2 q p) (Str.ofString "(") + 1 = ((5 : Nat) : Int) := by rw [e2]; rfl
  have hat : ∀ j, (rep2 q p).cps.toList[5 + j]? = (mk2 q :: mk2 q :: mk2 q :: (digL p ++ [mk2 q, 41]))[j]? := by
    intro j
    rw [hL, List.getElem?_append_right (by simp)]
    simp
  have hlast : (rep2 q p).cps.toList[(digL p).length + 9]? = some 41 := by
    have z := hat ((digL p).length + 4)
    rw [show 5 + ((digL p).length + 4) = (digL p).length + 9 by omega] at z
    rw [z]
    simp only [List.getElem?_cons_succ]
    rw [show (digL p).length + 1 = (digL p).length + 1 from rfl, List.getElem?_append_right (by omega)]
    simp
  have hlast2 : (rep2 q p).cps.toList[(digL p).length + 8]? = some (mk2 q) := by
    have z := hat ((digL p).length + 3)
    rw [show 5 + ((digL p).length + 3) = (digL p).length + 8 by omega] at z
    rw [z]
    simp only [List.getElem?_cons_succ]
    rw [List.getElem?_append_right (by omega)]
    simp
  have h5 : (rep2 q p).cps.toList[5]? = some (mk2 q) := by
    have z := hat 0
    simpa using z
  have e3 : Txt.find3 (rep2 q p) (Str.ofString ")") (Txt.find (rep2 q p) (Str.ofString "(") + 1) = (((digL p).length + 9 : Nat) : Int) := by
    have e : Str.ofString ")" = ⟨#[41]⟩ := by decide +kernel
    rw [e25, e]
    refine find3_at (by omega) hlast fun v h1 h2 => ?_
    obtain ⟨j, rfl⟩ : ∃ j, v = 5 + j := ⟨v - 5, by omega⟩
    rw [hat j]
    intro hh
    have hm : 41 ∈ mk2 q :: mk2 q :: mk2 q :: (digL p ++ [mk2 q]) := by
      have hj : j < (digL p).length + 4 := by omega
      have e : (mk2 q :: mk2 q :: mk2 q :: (digL p ++ [mk2 q, 41])) = (mk2 q :: mk2 q :: mk2 q :: (digL p ++ [mk2 q])) ++ [41] := by simp
      rw [e, List.getElem?_append_left (by simp; omega)] at hh
      exact List.mem_of_getElem? hh
    simp only [List.mem_cons, List.mem_append, List.not_mem_nil, or_false] at hm
    rcases hm with z | z | z | z | z
    · omega
    · omega
    · omega
    · have := hr 41 z; omega
    · omega
  have i5 : Txt.item (rep2 q p) (Txt.find (rep2 q p) (Str.ofString "(") + 1) = ⟨#[mk2 q]⟩ := by
    rw [e25]; exact item2 h5
  have i8 : Txt.item (rep2 q p) (Txt.find3 (rep2 q p) (Str.ofString ")") (Txt.find (rep2 q p) (Str.ofString "(") + 1) - 1) = ⟨#[mk2 q]⟩ := by
    rw [e3, show (((digL p).length + 9 : Nat) : Int) - 1 = (((digL p).length + 8 : Nat) : Int) by omega]
    exact item2 hlast2
  refine ⟨⟨by omega, by omega, by omega, by omega⟩, ?_, e2, e3, ?_, ?_, rfl, rfl, ?_, ?_⟩
  · rw [slice_none, show (3 : Int) = ((3 : Nat) : Int) from rfl, slice_nat _ 0 3 (by decide) (by omega), hL]
    show (strOf [50, 50, 57] != _) = false
    decide +kernel
  · rw [i5, i8]; simp
  · rw [i5, e3, e25, slice_nat _ 5 _ (by omega) (by omega)]
    refine split_is (by simp [parts2]) ?_ ?_
    · intro x hx
      simp only [parts2, List.mem_cons, List.not_mem_nil, or_false] at hx
      rcases hx with rfl | rfl | rfl | rfl | rfl
      · simp
      · simp
      · simp
      · intro hm; have := hr _ hm; omega
      · simp
    · unfold parts2
      rw [join_two, join_two, join_two, join_two]
      have e : (Str.join ⟨#[mk2 q]⟩ [(⟨#[]⟩ : Str)]).cps.toList = [] := rfl
      rw [e]
      have hdrop : (rep2 q p).cps.toList.drop 5 = mk2 q :: mk2 q :: mk2 q :: (digL p ++ [mk2 q, 41]) := by rw [hL]; rfl
      rw [hdrop]
      show _ = (List.take _ _)
      rw [show (digL p).length + 9 - 5 = (digL p).length + 1 + 1 + 1 + 1 by omega]
      simp only [List.take_succ_cons]
      rw [List.take_append, List.take_of_length_le (by omega)]
      simp [digL]
  · exact numS_read (by omega) (by omega)
  · have := (numS_len (y := (p : Int)) (by omega) (by omega)).1; omega
where
  item2 {x : Str} {i c : Nat} (h : x.cps.toList[i]? = some c) : Txt.item x (i : Int) = ⟨#[c]⟩ := by
    have e : x.cps[i]? = some c := by simpa using h
    unfold Txt.item
    have : Txt.charAt x (i : Int) = some c := by
      have hl : i < x.length := (Array.getElem?_eq_some_iff.mp e).1
      unfold Txt.charAt PySem.seqIndex?
      have h1 : ¬ ((i : Int) < 0) := by omega
      simp [h1, hl, e]
    rw [this]
    rfl
end Mine

namespace Mine
noncomputable def fB (c : Nat) : Str := Str.ofString "\\" ++ ⟨#[c]⟩
noncomputable def fE (c : Nat) : Str := if Txt.contains (Str.ofString "\"\\ ") ⟨#[c]⟩ = true then Str.ofString "\\" ++ ⟨#[c]⟩ else ⟨#[c]⟩
theorem joinE : ∀ l : List Str, (Str.join (Str.ofString "") l).cps.toList = l.flatMap (·.cps.toList)
  | [] => rfl
  | [x] => by
    show x.cps.toList = _
    simp
  | x :: y :: r => by
    show ((x ++ Str.ofString "" ++ Str.join (Str.ofString "") (y :: r)) : Str).cps.toList = _
    rw [app_toList, app_toList, joinE (y :: r), List.flatMap_cons]
    have e : (Str.ofString "").cps.toList = [] := by decide +kernel
    rw [e, List.append_nil]
    simp only [List.flatMap_cons]
theorem txtJoinE (l : List Str) : Txt.join (Str.ofString "") l = strOf (l.flatMap (·.cps.toList)) := by
  refine strExt ?_
  show (Builtin.Str.glued _ _).cps.toList = _
  rw [PySem.StrLaws.glued_eq_join, joinE]
theorem fB_list (c : Nat) : (fB c).cps.toList = [92, c] := by
  unfold fB
  rw [app_toList]
  have e : (Str.ofString "\\").cps.toList = [92] := by decide +kernel
  rw [e]; rfl
theorem fE_list (c : Nat) : (fE c).cps.toList = escB c := by
  unfold fE escB
  have e : (Txt.contains (Str.ofString "\"\\ ") ⟨#[c]⟩ = true) ↔ (c = 34 ∨ c = 92 ∨ c = 32) := by
    unfold Txt.contains
    rw [PySem.StrLaws.found_one, decide_eq_true_iff]
    have e2 : (Str.ofString "\"\\ ").cps.toList = [34, 92, 32] := by decide +kernel
    rw [e2]
    simp
  by_cases h : c = 34 ∨ c = 92 ∨ c = 32
  · rw [if_pos h, if_pos (e.mpr h)]
    exact fB_list c
  · rw [if_neg h, if_neg (fun k => h (e.mp k))]
theorem repl_join (c : Nat) (z : Str) : ∀ parts : List Str, (∀ p ∈ parts, c ∉ p.cps.toList) → (Str.join z parts).cps.toList = (Str.join ⟨#[c]⟩ parts).cps.toList.flatMap (fun d => if d = c then z.cps.toList else [d])
  | [], _ => rfl
  | [x], h => by
    show x.cps.toList = x.cps.toList.flatMap _
    exact (flatFree c z _ (h x (.head _))).symm
  | x :: y :: r, h => by
    show ((x ++ z ++ Str.join z (y :: r)) : Str).cps.toList = _
    rw [app_toList, app_toList, join_two, repl_join c z (y :: r) (fun p hp => h p (.tail _ hp)), List.flatMap_append, List.flatMap_cons, if_pos rfl, flatFree c z _ (h x (.head _)), List.append_assoc]
where
  flatFree (c : Nat) (z : Str) : ∀ l : List Nat, c ∉ l → l.flatMap (fun d => if d = c then z.cps.toList else [d]) = l
    | [], _ => rfl
    | d :: l, h => by
      rw [List.flatMap_cons, flatFree c z l (fun k => h (.tail _ k)), if_neg (fun e => h (by rw [e]; exact .head _))]
      rfl
theorem repl_list (x z : Str) (c : Nat) : (Txt.replace x ⟨#[c]⟩ z).cps.toList = x.cps.toList.flatMap (fun d => if d = c then z.cps.toList else [d]) := by
  rw [PySem.StrLaws.replace_one, repl_join c z _ (PySem.StrLaws.split_free x c), PySem.StrLaws.join_split]
theorem word0_text (x : Str) : Str.ofString "\"" ++ Txt.replace (Txt.replace x (Str.ofString "\\") (Str.ofString "\\\\")) (Str.ofString "\"") (Str.ofString "\\\"") ++ Str.ofString "\"" = strOf (wordL 0 x.cps.toList) := by
  have e1 : Str.ofString "\\" = ⟨#[92]⟩ := by decide +kernel
  have e2 : Str.ofString "\"" = ⟨#[34]⟩ := by decide +kernel
  have e3 : (Str.ofString "\\\\").cps.toList = [92, 92] := by decide +kernel
  have e4 : (Str.ofString "\\\"").cps.toList = [92, 34] := by decide +kernel
  refine strExt ?_
  rw [app_toList, app_toList, e1, e2, repl_list, repl_list, e3, e4]
  show [34] ++ _ ++ [34] = wordL 0 x.cps.toList
  unfold wordL
  rw [if_pos rfl, List.flatMap_assoc]
  have e5 : ∀ d : Nat, List.flatMap (fun d => if d = 34 then [92, 34] else [d]) (if d = 92 then [92, 92] else [d]) = escQ d := by
    intro d
    unfold escQ
    by_cases h1 : d = 92
    · rw [if_pos h1, if_pos h1]; rfl
    · rw [if_neg h1, if_neg h1]
      by_cases h2 : d = 34
      · rw [if_pos h2, List.flatMap_singleton, if_pos h2]
      · rw [if_neg h2, List.flatMap_singleton, if_neg h2]
  simp only [e5]
  rfl
theorem word1_text (x : Str) : Txt.join (Str.ofString "") (x.cps.toList.map fB) = strOf (wordL 1 x.cps.toList) := by
  rw [txtJoinE]
  unfold wordL
  rw [if_neg (by decide), if_pos rfl, List.flatMap_map]
  simp only [fB_list]
theorem word2_text (x : Str) : Txt.join (Str.ofString "") (x.cps.toList.map fE) = strOf (wordL 2 x.cps.toList) := by
  rw [txtJoinE]
  unfold wordL
  rw [if_neg (by decide), if_neg (by decide), List.flatMap_map]
  simp only [fE_list]
theorem repl1_len (x : Str) : (Txt.replace x (Str.ofString "\\") (Str.ofString "\\\\")).length ≤ 2 * x.length := by
  have e1 : Str.ofString "\\" = ⟨#[92]⟩ := by decide +kernel
  have e3 : (Str.ofString "\\\\").cps.toList = [92, 92] := by decide +kernel
  have h := repl_list x (Str.ofString "\\\\") 92
  rw [e3] at h
  rw [e1]
  exact lenFlat h (fun d => by split <;> simp)
where
  lenFlat {y x : Str} {f : Nat → List Nat} (h : y.cps.toList = x.cps.toList.flatMap f) (hf : ∀ d, (f d).length ≤ 2) : y.length ≤ 2 * x.length := by
    have e : y.cps.toList.length = y.length := by simp [Str.length]
    have e2 : x.cps.toList.length = x.length := by simp [Str.length]
    rw [← e, ← e2, h]
    generalize x.cps.toList = l
    induction l with
    | nil => simp
    | cons d l ih =>
      have z := hf d
      rw [List.flatMap_cons, List.length_append, List.length_cons]
      omega
theorem repl2_len (x : Str) : (Txt.replace x (Str.ofString "\"") (Str.ofString "\\\"")).length ≤ 2 * x.length := by
  have e1 : Str.ofString "\"" = ⟨#[34]⟩ := by decide +kernel
  have e3 : (Str.ofString "\\\"").cps.toList = [92, 34] := by decide +kernel
  have h := repl_list x (Str.ofString "\\\"") 34
  rw [e3] at h
  rw [e1]
  exact repl1_len.lenFlat h (fun d => by split <;> simp)
end Mine

namespace Mine
/-- _law_by_brackets and _law_by_count as plain functions, list by list -/
noncomputable def ins (fs : List Int) (v : Int) : List Int := if fs.any (· == v) = true then fs else fs ++ [v]
noncomputable def insR (w l : Int) (rs fs : List Int) : List Int := rs.foldl (fun f r => ins f (l + w * r)) fs
noncomputable def insL (w : Int) (ls rs fs : List Int) : List Int := ls.foldl (fun f l => insR w l rs f) fs
noncomputable def cellAt (C : List (Nat → List Int)) (k i : Nat) : List Int := (C.getD k fun _ => []) i
noncomputable def insK (C : List (Nat → List Int)) (ws : Nat → Int) (s i : Nat) : Nat → List Int
  | 0 => []
  | k + 1 => insL (ws (i + k + 1)) (cellAt C k i) (cellAt C (s - k - 1) (i + k + 1)) (insK C ws s i k)
noncomputable def cells (ns ws : Nat → Int) : Nat → List (Nat → List Int)
  | 0 => [fun i => [ns i]]
  | s + 1 => cells ns ws s ++ [fun i => insK (cells ns ws s) ws (s + 1) i (s + 1)]
noncomputable def cell (ns ws : Nat → Int) (s i : Nat) : List Int := cellAt (cells ns ws s) s i
theorem cells_len (ns ws : Nat → Int) : ∀ s, (cells ns ws s).length = s + 1
  | 0 => rfl
  | s + 1 => by unfold cells; rw [List.length_append, cells_len ns ws s]; rfl
theorem cells_at (ns ws : Nat → Int) : ∀ s k, k ≤ s → ∀ i, cellAt (cells ns ws s) k i = cell ns ws k i
  | 0, k, h, i => by
    have : k = 0 := by omega
    subst this; rfl
  | s + 1, k, h, i => by
    by_cases e : k = s + 1
    · subst e; rfl
    · have hk : k ≤ s := by omega
      rw [← cells_at ns ws s k hk i]
      unfold cellAt
      have hl := cells_len ns ws s
      rw [show cells ns ws (s + 1) = cells ns ws s ++ [fun i => insK (cells ns ws s) ws (s + 1) i (s + 1)] from rfl]
      rw [List.getD_eq_getElem?_getD, List.getD_eq_getElem?_getD, List.getElem?_append_left (by omega)]
noncomputable def foundK (ns ws : Nat → Int) (s i : Nat) : Nat → List Int
  | 0 => []
  | k + 1 => insL (ws (i + k + 1)) (cell ns ws k i) (cell ns ws (s - k - 1) (i + k + 1)) (foundK ns ws s i k)
theorem foundK_is (ns ws : Nat → Int) (s i : Nat) : ∀ k, k ≤ s + 1 → insK (cells ns ws s) ws (s + 1) i k = foundK ns ws (s + 1) i k
  | 0, _ => rfl
  | k + 1, h => by
    unfold insK foundK
    rw [foundK_is ns ws s i k (by omega), cells_at ns ws s k (by omega), cells_at ns ws s (s + 1 - k - 1) (by omega)]
theorem cell_zero (ns ws : Nat → Int) (i : Nat) : cell ns ws 0 i = [ns i] := rfl
theorem cell_succ (ns ws : Nat → Int) (s i : Nat) : cell ns ws (s + 1) i = foundK ns ws (s + 1) i (s + 1) := by
  rw [← foundK_is ns ws s i (s + 1) (Nat.le_refl _)]
  unfold cell cellAt
  rw [show cells ns ws (s + 1) = cells ns ws s ++ [fun i => insK (cells ns ws s) ws (s + 1) i (s + 1)] from rfl]
  rw [List.getD_eq_getElem?_getD, List.getElem?_append_right (by rw [cells_len]; omega), cells_len]
  simp
/-! lengths -/
theorem ins_len (fs : List Int) (v : Int) : (ins fs v).length ≤ fs.length + 1 := by
  unfold ins; split
  · omega
  · simp
theorem insR_len (w l : Int) : ∀ (rs fs : List Int), (insR w l rs fs).length ≤ fs.length + rs.length
  | [], fs => by simp [insR]
  | r :: rs, fs => by
    have h := insR_len w l rs (ins fs (l + w * r))
    have h2 := ins_len fs (l + w * r)
    show (insR w l rs (ins fs (l + w * r))).length ≤ _
    rw [List.length_cons]; omega
theorem insL_len (w : Int) : ∀ (ls rs fs : List Int), (insL w ls rs fs).length ≤ fs.length + ls.length * rs.length
  | [], rs, fs => by simp [insL]
  | l :: ls, rs, fs => by
    have h := insL_len w ls rs (insR w l rs fs)
    have h2 := insR_len w l rs fs
    show (insL w ls rs (insR w l rs fs)).length ≤ _
    rw [List.length_cons, Nat.add_mul]; omega
noncomputable def catB : Nat → Nat
  | 0 => 1
  | 1 => 1
  | 2 => 2
  | 3 => 5
  | 4 => 14
  | _ => 42
theorem cell_cat (ns ws : Nat → Int) : ∀ s, s ≤ 5 → ∀ i, (cell ns ws s i).length ≤ catB s := by
  have h0 : ∀ i, (cell ns ws 0 i).length ≤ 1 := fun i => by rw [cell_zero]; exact Nat.le_refl _
  have up : ∀ (s i k : Nat) (a b c : Nat), (foundK ns ws s i k).length ≤ c → (cell ns ws k i).length ≤ a → (cell ns ws (s - k - 1) (i + k + 1)).length ≤ b → (foundK ns ws s i (k + 1)).length ≤ c + a * b := by
    intro s i k a b c h1 h2 h3
    unfold foundK
    have z := insL_len (ws (i + k + 1)) (cell ns ws k i) (cell ns ws (s - k - 1) (i + k + 1)) (foundK ns ws s i k)
    have z2 := Nat.mul_le_mul h2 h3
    omega
  have hz : ∀ s i, (foundK ns ws s i 0).length ≤ 0 := fun s i => Nat.le_refl _
  have h1 : ∀ i, (cell ns ws 1 i).length ≤ 1 := fun i => by
    rw [cell_succ]; exact up 1 i 0 1 1 0 (hz _ _) (h0 _) (h0 _)
  have h2 : ∀ i, (cell ns ws 2 i).length ≤ 2 := fun i => by
    rw [cell_succ]
    exact up 2 i 1 1 1 1 (up 2 i 0 1 1 0 (hz _ _) (h0 _) (h1 _)) (h1 _) (h0 _)
  have h3 : ∀ i, (cell ns ws 3 i).length ≤ 5 := fun i => by
    rw [cell_succ]
    exact up 3 i 2 2 1 3 (up 3 i 1 1 1 2 (up 3 i 0 1 2 0 (hz _ _) (h0 _) (h2 _)) (h1 _) (h1 _)) (h2 _) (h0 _)
  have h4 : ∀ i, (cell ns ws 4 i).length ≤ 14 := fun i => by
    rw [cell_succ]
    exact up 4 i 3 5 1 9 (up 4 i 2 2 1 7 (up 4 i 1 1 2 5 (up 4 i 0 1 5 0 (hz _ _) (h0 _) (h3 _)) (h1 _) (h2 _)) (h2 _) (h1 _)) (h3 _) (h0 _)
  have h5 : ∀ i, (cell ns ws 5 i).length ≤ 42 := fun i => by
    rw [cell_succ]
    exact up 5 i 4 14 1 28 (up 5 i 3 5 1 23 (up 5 i 2 2 2 19 (up 5 i 1 1 5 14 (up 5 i 0 1 14 0 (hz _ _) (h0 _) (h4 _)) (h1 _) (h3 _)) (h2 _) (h2 _)) (h3 _) (h1 _)) (h4 _) (h0 _)
  intro s hs i
  have : s = 0 ∨ s = 1 ∨ s = 2 ∨ s = 3 ∨ s = 4 ∨ s = 5 := by omega
  rcases this with rfl | rfl | rfl | rfl | rfl | rfl
  · exact h0 i
  · exact h1 i
  · exact h2 i
  · exact h3 i
  · exact h4 i
  · exact h5 i
theorem cell_len (ns ws : Nat → Int) {s : Nat} (hs : s ≤ 5) (i : Nat) : (cell ns ws s i).length ≤ 42 := by
  have z := cell_cat ns ws s hs i
  have : s = 0 ∨ s = 1 ∨ s = 2 ∨ s = 3 ∨ s = 4 ∨ s = 5 := by omega
  have z2 : catB s ≤ 42 := by rcases this with rfl | rfl | rfl | rfl | rfl | rfl <;> decide
  omega
theorem foundK_len (ns ws : Nat → Int) {s i : Nat} (hs : s ≤ 5) : ∀ k, k ≤ s → (foundK ns ws s i k).length ≤ k * 1764
  | 0, _ => Nat.le_refl _
  | k + 1, h => by
    have z := foundK_len ns ws (i := i) hs k (by omega)
    have z1 := insL_len (ws (i + k + 1)) (cell ns ws k i) (cell ns ws (s - k - 1) (i + k + 1)) (foundK ns ws s i k)
    have z2 := Nat.mul_le_mul (cell_len ns ws (show k ≤ 5 by omega) i) (cell_len ns ws (show s - k - 1 ≤ 5 by omega) (i + k + 1))
    unfold foundK
    omega
/-! no doubles; members -/
theorem ins_nodup {fs : List Int} (v : Int) (h : fs.Nodup) : (ins fs v).Nodup := by
  unfold ins; split
  · exact h
  · rename_i hn
    rw [List.nodup_append]
    refine ⟨h, by simp, fun a ha b hb => ?_⟩
    rw [List.mem_singleton.mp hb]
    intro e
    subst e
    exact hn (List.any_eq_true.mpr ⟨a, ha, beq_self_eq_true _⟩)
theorem ins_mem {fs : List Int} (v x : Int) : x ∈ ins fs v ↔ x ∈ fs ∨ x = v := by
  unfold ins; split
  · rename_i h
    obtain ⟨y, hy, e⟩ := List.any_eq_true.mp h
    have e := eq_of_beq e
    subst e
    exact ⟨.inl, fun k => k.elim id fun e => e ▸ hy⟩
  · rw [List.mem_append, List.mem_singleton]
theorem insR_nodup (w l : Int) : ∀ (rs : List Int) {fs : List Int}, fs.Nodup → (insR w l rs fs).Nodup
  | [], _, h => h
  | _ :: rs, _, h => insR_nodup w l rs (ins_nodup _ h)
theorem insL_nodup (w : Int) : ∀ (ls rs : List Int) {fs : List Int}, fs.Nodup → (insL w ls rs fs).Nodup
  | [], _, _, h => h
  | _ :: ls, rs, _, h => insL_nodup w ls rs (insR_nodup _ _ rs h)
theorem foundK_nodup (ns ws : Nat → Int) (s i : Nat) : ∀ k, (foundK ns ws s i k).Nodup
  | 0 => List.nodup_nil
  | k + 1 => insL_nodup _ _ _ (foundK_nodup ns ws s i k)
theorem insR_mem (w l x : Int) : ∀ (rs fs : List Int), x ∈ insR w l rs fs ↔ x ∈ fs ∨ ∃ r ∈ rs, x = l + w * r
  | [], fs => by simp [insR]
  | r :: rs, fs => by
    have z := insR_mem w l x rs (ins fs (l + w * r))
    show x ∈ insR w l rs (ins fs (l + w * r)) ↔ _
    rw [z, ins_mem]
    constructor
    · rintro ((h | h) | ⟨r', h1, h2⟩)
      · exact .inl h
      · exact .inr ⟨r, .head _, h⟩
      · exact .inr ⟨r', .tail _ h1, h2⟩
    · rintro (h | ⟨r', h1, h2⟩)
      · exact .inl (.inl h)
      · rcases List.mem_cons.mp h1 with rfl | h1
        · exact .inl (.inr h2)
        · exact .inr ⟨r', h1, h2⟩
theorem insL_mem (w x : Int) : ∀ (ls rs fs : List Int), x ∈ insL w ls rs fs ↔ x ∈ fs ∨ ∃ l ∈ ls, ∃ r ∈ rs, x = l + w * r
  | [], rs, fs => by simp [insL]
  | l :: ls, rs, fs => by
    have z := insL_mem w x ls rs (insR w l rs fs)
    show x ∈ insL w ls rs (insR w l rs fs) ↔ _
    rw [z, insR_mem]
    constructor
    · rintro ((h | h) | ⟨r', h1, h2⟩)
      · exact .inl h
      · exact .inr ⟨l, .head _, h⟩
      · exact .inr ⟨r', .tail _ h1, h2⟩
    · rintro (h | ⟨r', h1, h2⟩)
      · exact .inl (.inl h)
      · rcases List.mem_cons.mp h1 with rfl | h1
        · exact .inl (.inr h2)
        · exact .inr ⟨r', h1, h2⟩
theorem foundK_mem (ns ws : Nat → Int) (s i : Nat) (x : Int) : ∀ k, x ∈ foundK ns ws s i k ↔ ∃ j, j < k ∧ ∃ l ∈ cell ns ws j i, ∃ r ∈ cell ns ws (s - j - 1) (i + j + 1), x = l + ws (i + j + 1) * r
  | 0 => by
    show x ∈ ([] : List Int) ↔ _
    constructor
    · intro h; cases h
    · rintro ⟨j, h, _⟩; omega
  | k + 1 => by
    unfold foundK
    rw [insL_mem, foundK_mem ns ws s i x k]
    constructor
    · rintro (⟨j, h1, h2⟩ | h)
      · exact ⟨j, by omega, h2⟩
      · exact ⟨k, by omega, h⟩
    · rintro ⟨j, h1, h2⟩
      by_cases e : j = k
      · subst e; exact .inr h2
      · exact .inl ⟨j, by omega, h2⟩
end Mine

namespace Mine
/-! the same two counts on rows of signs -/
noncomputable def evG : List Bool → (Nat → Int) → Nat → Int
  | [], _, _ => 0
  | b :: g, ns, i => (if b = true then ns i else - ns i) + evG g ns (i + 1)
theorem evG_app : ∀ (g h : List Bool) (ns : Nat → Int) (i : Nat), evG (g ++ h) ns i = evG g ns i + evG h ns (i + g.length)
  | [], h, ns, i => by simp [evG]
  | b :: g, h, ns, i => by
    have z := evG_app g h ns (i + 1)
    show (if b = true then ns i else - ns i) + evG (g ++ h) ns (i + 1) = ((if b = true then ns i else - ns i) + evG g ns (i + 1)) + _
    rw [z, List.length_cons, show i + 1 + g.length = i + (g.length + 1) by omega]
    omega
theorem evG_not : ∀ (g : List Bool) (ns : Nat → Int) (i : Nat), evG (g.map (!·)) ns i = - evG g ns i
  | [], _, _ => by simp [evG]
  | b :: g, ns, i => by
    have z := evG_not g ns (i + 1)
    show (if (!b) = true then ns i else - ns i) + evG (g.map (!·)) ns (i + 1) = - ((if b = true then ns i else - ns i) + evG g ns (i + 1))
    rw [z]
    cases b <;> simp <;> omega
noncomputable def flipG (w : Bool) (g : List Bool) : List Bool := if w = true then g else g.map (!·)
/-- rows of signs of a cell: w i tells whether the mark ahead of number i is a plus -/
noncomputable def gStep (C : List (Nat → List (List Bool))) (w : Nat → Bool) (s i : Nat) : Nat → List (List Bool)
  | 0 => []
  | k + 1 => gStep C w s i k ++ ((C.getD k fun _ => []) i).flatMap fun l => ((C.getD (s - k - 1) fun _ => []) (i + k + 1)).map fun r => l ++ flipG (w (i + k + 1)) r
noncomputable def gCells (w : Nat → Bool) : Nat → List (Nat → List (List Bool))
  | 0 => [fun _ => [[true]]]
  | s + 1 => gCells w s ++ [fun i => gStep (gCells w s) w (s + 1) i (s + 1)]
noncomputable def gCell (w : Nat → Bool) (s i : Nat) : List (List Bool) := ((gCells w s).getD s fun _ => []) i
theorem gCells_len (w : Nat → Bool) : ∀ s, (gCells w s).length = s + 1
  | 0 => rfl
  | s + 1 => by unfold gCells; rw [List.length_append, gCells_len w s]; rfl
theorem gCells_at (w : Nat → Bool) : ∀ s k, k ≤ s → ∀ i, ((gCells w s).getD k fun _ => []) i = gCell w k i
  | 0, k, h, i => by
    have : k = 0 := by omega
    subst this; rfl
  | s + 1, k, h, i => by
    by_cases e : k = s + 1
    · subst e; rfl
    · have hk : k ≤ s := by omega
      rw [← gCells_at w s k hk i]
      have hl := gCells_len w s
      rw [show gCells w (s + 1) = gCells w s ++ [fun i => gStep (gCells w s) w (s + 1) i (s + 1)] from rfl]
      rw [List.getD_eq_getElem?_getD, List.getD_eq_getElem?_getD, List.getElem?_append_left (by omega)]
theorem gStep_mem (w : Nat → Bool) (s i : Nat) (g : List Bool) : ∀ k, k ≤ s + 1 → (g ∈ gStep (gCells w s) w (s + 1) i k ↔ ∃ j, j < k ∧ ∃ l ∈ gCell w j i, ∃ r ∈ gCell w (s + 1 - j - 1) (i + j + 1), g = l ++ flipG (w (i + j + 1)) r)
  | 0, _ => by
    show g ∈ ([] : List (List Bool)) ↔ _
    constructor
    · intro h; cases h
    · rintro ⟨j, h, _⟩; omega
  | k + 1, h => by
    unfold gStep
    rw [List.mem_append, gStep_mem w s i g k (by omega), gCells_at w s k (by omega), gCells_at w s (s + 1 - k - 1) (by omega), List.mem_flatMap]
    constructor
    · rintro (⟨j, h1, h2⟩ | ⟨l, hl, h2⟩)
      · exact ⟨j, by omega, h2⟩
      · obtain ⟨r, hr, e⟩ := List.mem_map.mp h2
        exact ⟨k, by omega, l, hl, r, hr, e.symm⟩
    · rintro ⟨j, h1, l, hl, r, hr, e⟩
      by_cases e2 : j = k
      · subst e2; exact .inr ⟨l, hl, List.mem_map.mpr ⟨r, hr, e.symm⟩⟩
      · exact .inl ⟨j, by omega, l, hl, r, hr, e⟩
theorem gCell_succ (w : Nat → Bool) (s i : Nat) : gCell w (s + 1) i = gStep (gCells w s) w (s + 1) i (s + 1) := by
  unfold gCell
  rw [show gCells w (s + 1) = gCells w s ++ [fun i => gStep (gCells w s) w (s + 1) i (s + 1)] from rfl]
  rw [List.getD_eq_getElem?_getD, List.getElem?_append_right (by rw [gCells_len]; omega), gCells_len]
  simp
noncomputable def wI (b : Bool) : Int := if b = true then 1 else -1
theorem evG_flip (b : Bool) (g : List Bool) (ns : Nat → Int) (i : Nat) : evG (flipG b g) ns i = wI b * evG g ns i := by
  unfold flipG wI
  cases b
  · rw [if_neg (by decide), if_neg (by decide), evG_not]; omega
  · rw [if_pos rfl, if_pos rfl]; omega
theorem flip_len (b : Bool) (g : List Bool) : (flipG b g).length = g.length := by unfold flipG; split <;> simp
/-- a cell's numbers are what its rows of signs tell -/
theorem cell_signs (ns : Nat → Int) (w : Nat → Bool) : ∀ s i x, (x ∈ cell ns (fun i => wI (w i)) s i ↔ ∃ g ∈ gCell w s i, x = evG g ns i) ∧ ∀ g ∈ gCell w s i, g.length = s + 1 := by
  intro s
  induction s using Nat.strongRecOn with
  | _ s IH =>
    intro i x
    cases s with
    | zero =>
      refine ⟨?_, fun g hg => ?_⟩
      · rw [cell_zero]
        show x ∈ [ns i] ↔ ∃ g ∈ [[true]], x = evG g ns i
        simp [evG]
      · rw [List.mem_singleton.mp hg]; rfl
    | succ s =>
      have hlen : ∀ g ∈ gCell w (s + 1) i, g.length = s + 1 + 1 := by
        intro g hg
        rw [gCell_succ, gStep_mem w s i g (s + 1) (Nat.le_refl _)] at hg
        obtain ⟨j, hj, l, hl, r, hr, rfl⟩ := hg
        have e1 := (IH j (by omega) i 0).2 l hl
        have e2 := (IH (s + 1 - j - 1) (by omega) (i + j + 1) 0).2 r hr
        rw [List.length_append, flip_len, e1, e2]
        omega
      refine ⟨?_, hlen⟩
      rw [cell_succ, foundK_mem]
      constructor
      · rintro ⟨j, hj, l, hl, r, hr, e⟩
        obtain ⟨gl, hgl, rfl⟩ := (IH j (by omega) i l).1.mp hl
        obtain ⟨gr, hgr, rfl⟩ := (IH (s + 1 - j - 1) (by omega) (i + j + 1) r).1.mp hr
        refine ⟨gl ++ flipG (w (i + j + 1)) gr, ?_, ?_⟩
        · rw [gCell_succ, gStep_mem w s i _ (s + 1) (Nat.le_refl _)]
          exact ⟨j, hj, gl, hgl, gr, hgr, rfl⟩
        · rw [evG_app, evG_flip, (IH j (by omega) i 0).2 gl hgl, e]
          rfl
      · rintro ⟨g, hg, e⟩
        rw [gCell_succ, gStep_mem w s i _ (s + 1) (Nat.le_refl _)] at hg
        obtain ⟨j, hj, gl, hgl, gr, hgr, rfl⟩ := hg
        refine ⟨j, hj, evG gl ns i, (IH j (by omega) i _).1.mpr ⟨gl, hgl, rfl⟩, evG gr ns (i + j + 1), (IH (s + 1 - j - 1) (by omega) (i + j + 1) _).1.mpr ⟨gr, hgr, rfl⟩, ?_⟩
        rw [evG_app, evG_flip, (IH j (by omega) i 0).2 gl hgl] at e
        exact e
/-! the walk by count: states are value, added, count -/
noncomputable def afterC (q : Nat) (added adds : Bool) (c : Int) : Int := if (adds != added) = true then (if q = 1 then c + 1 else c - 1) else (if q = 0 ∨ 0 < c then c else -1)
noncomputable def push1 (q : Nat) (p : Int) (st : Int × Bool × Int) (adds : Bool) (acc : List (Int × Bool × Int)) : List (Int × Bool × Int) :=
  if 0 ≤ afterC q st.2.1 adds st.2.2 then acc ++ [(if adds = true then st.1 + p else st.1 - p, adds, afterC q st.2.1 adds st.2.2)] else acc
noncomputable def push2 (q : Nat) (p : Int) (st : Int × Bool × Int) (acc : List (Int × Bool × Int)) : List (Int × Bool × Int) := push1 q p st false (push1 q p st true acc)
noncomputable def reach (q : Nat) (p : Int) : List (Int × Bool × Int) → List (Int × Bool × Int) → List (Int × Bool × Int)
  | [], acc => acc
  | st :: r, acc => reach q p r (push2 q p st acc)
noncomputable def walkC : List (Nat × Int) → List (Int × Bool × Int) → List (Int × Bool × Int)
  | [], sts => sts
  | t :: ts, sts => walkC ts (reach t.1 t.2 sts [])
noncomputable def valsC (sts : List (Int × Bool × Int)) : List Int := sts.foldl (fun f st => ins f st.1) []
/-- the same with rows of signs -/
noncomputable def gPush1 (q : Nat) (st : List Bool × Bool × Int) (adds : Bool) (acc : List (List Bool × Bool × Int)) : List (List Bool × Bool × Int) :=
  if 0 ≤ afterC q st.2.1 adds st.2.2 then acc ++ [(st.1 ++ [adds], adds, afterC q st.2.1 adds st.2.2)] else acc
noncomputable def gReach (q : Nat) : List (List Bool × Bool × Int) → List (List Bool × Bool × Int) → List (List Bool × Bool × Int)
  | [], acc => acc
  | st :: r, acc => gReach q r (gPush1 q st false (gPush1 q st true acc))
noncomputable def gWalk : List Nat → List (List Bool × Bool × Int) → List (List Bool × Bool × Int)
  | [], sts => sts
  | q :: qs, sts => gWalk qs (gReach q sts [])
noncomputable def evS (ns : Nat → Int) (st : List Bool × Bool × Int) : Int × Bool × Int := (evG st.1 ns 0, st.2)
theorem gPush1_ev (ns : Nat → Int) (q : Nat) (n : Nat) (st : List Bool × Bool × Int) (hl : st.1.length = n) (adds : Bool) (acc : List (List Bool × Bool × Int)) :
    (gPush1 q st adds acc).map (evS ns) = push1 q (ns n) (evS ns st) adds (acc.map (evS ns)) := by
  unfold gPush1 push1
  show _ = if 0 ≤ afterC q st.2.1 adds st.2.2 then _ else _
  by_cases h : 0 ≤ afterC q st.2.1 adds st.2.2
  · rw [if_pos h, if_pos h, List.map_append]
    refine congrArg _ ?_
    show [(evG (st.1 ++ [adds]) ns 0, _)] = _
    rw [evG_app, hl]
    have : evG [adds] ns (0 + n) = if adds = true then ns n else - ns n := by
      rw [Nat.zero_add]; show _ + (0 : Int) = _; rw [Int.add_zero]
    rw [this]
    cases adds
    · rw [if_neg (by decide), if_neg (by decide)]; rfl
    · rw [if_pos rfl, if_pos rfl]; rfl
  · rw [if_neg h, if_neg h]
theorem gPush1_len {q n : Nat} {st : List Bool × Bool × Int} (hl : st.1.length = n) {adds : Bool} {acc : List (List Bool × Bool × Int)} (ha : ∀ x ∈ acc, x.1.length = n + 1) : ∀ x ∈ gPush1 q st adds acc, x.1.length = n + 1 := by
  intro x hx
  unfold gPush1 at hx
  split at hx
  · rcases List.mem_append.mp hx with h | h
    · exact ha x h
    · rw [List.mem_singleton.mp h]; simp [hl]
  · exact ha x hx
theorem gReach_ev (ns : Nat → Int) (q n : Nat) : ∀ (sts acc : List (List Bool × Bool × Int)), (∀ x ∈ sts, x.1.length = n) → (∀ x ∈ acc, x.1.length = n + 1) →
    (gReach q sts acc).map (evS ns) = reach q (ns n) (sts.map (evS ns)) (acc.map (evS ns)) ∧ ∀ x ∈ gReach q sts acc, x.1.length = n + 1
  | [], acc, _, ha => ⟨rfl, ha⟩
  | st :: r, acc, hs, ha => by
    have h1 := hs st (.head _)
    have z := gReach_ev ns q n r (gPush1 q st false (gPush1 q st true acc)) (fun x hx => hs x (.tail _ hx)) (gPush1_len h1 (gPush1_len h1 ha))
    refine ⟨?_, z.2⟩
    show (gReach q r _).map (evS ns) = reach q (ns n) (r.map (evS ns)) (push2 q (ns n) (evS ns st) (acc.map (evS ns)))
    rw [z.1, gPush1_ev ns q n st h1, gPush1_ev ns q n st h1]
    rfl
theorem gWalk_ev (ns : Nat → Int) : ∀ (ts : List (Nat × Int)) (n : Nat) (sts : List (List Bool × Bool × Int)), (∀ x ∈ sts, x.1.length = n) → (∀ i t, ts[i]? = some t → ns (n + i) = t.2) →
    (gWalk (ts.map (·.1)) sts).map (evS ns) = walkC ts (sts.map (evS ns))
  | [], _, _, _, _ => rfl
  | t :: ts, n, sts, hs, ht => by
    have e : ns n = t.2 := ht 0 t rfl
    have z := gReach_ev ns t.1 n sts [] hs (fun x hx => nomatch hx)
    have z2 := gWalk_ev ns ts (n + 1) (gReach t.1 sts []) z.2 (fun i u hu => by rw [show n + 1 + i = n + (i + 1) by omega]; exact ht (i + 1) u hu)
    show (gWalk (ts.map (·.1)) (gReach t.1 sts [])).map (evS ns) = walkC ts (reach t.1 t.2 (sts.map (evS ns)) [])
    rw [z2, z.1, e]
    rfl
/-! the law on signs: for each row of marks -/
noncomputable def wOf (qs : List Nat) (i : Nat) : Bool := qs.getD (i - 1) 0 == 0
noncomputable def same2 (qs : List Nat) : Bool :=
  let a := gCell (wOf qs) qs.length 0
  let b := (gWalk qs [([true], true, 0)]).map (·.1)
  (a.all fun g => b.contains g) && b.all fun g => a.contains g
noncomputable def pats : Nat → List (List Nat)
  | 0 => [[]]
  | k + 1 => (pats k).flatMap fun r => [0 :: r, 1 :: r]
theorem pats_mem : ∀ qs : List Nat, (∀ q ∈ qs, q < 2) → qs ∈ pats qs.length
  | [], _ => .head _
  | q :: qs, h => by
    have ih := pats_mem qs fun x hx => h x (.tail _ hx)
    have hq := h q (.head _)
    refine List.mem_flatMap.mpr ⟨qs, ih, ?_⟩
    have : q = 0 ∨ q = 1 := by omega
    rcases this with rfl | rfl
    · exact .head _
    · exact .tail _ (.head _)
theorem same2All : ((pats 2).all same2 && (pats 3).all same2 && (pats 4).all same2 && (pats 5).all same2) = true := by decide +kernel
theorem same2_of {qs : List Nat} (h : ∀ q ∈ qs, q < 2) (h2 : 2 ≤ qs.length) (h5 : qs.length ≤ 5) : same2 qs = true := by
  have hm := pats_mem qs h
  have z := same2All
  simp only [Bool.and_eq_true] at z
  have c : qs.length = 2 ∨ qs.length = 3 ∨ qs.length = 4 ∨ qs.length = 5 := by omega
  rcases c with c | c | c | c <;> rw [c] at hm
  · exact List.all_eq_true.mp z.1.1.1 qs hm
  · exact List.all_eq_true.mp z.1.1.2 qs hm
  · exact List.all_eq_true.mp z.1.2 qs hm
  · exact List.all_eq_true.mp z.2 qs hm
theorem valsC_mem (x : Int) : ∀ (sts : List (Int × Bool × Int)) (f : List Int), x ∈ sts.foldl (fun f st => ins f st.1) f ↔ x ∈ f ∨ ∃ st ∈ sts, x = st.1
  | [], f => by simp
  | st :: r, f => by
    have z := valsC_mem x r (ins f st.1)
    rw [List.foldl_cons, z, ins_mem]
    constructor
    · rintro ((h | h) | ⟨u, h1, h2⟩)
      · exact .inl h
      · exact .inr ⟨st, .head _, h⟩
      · exact .inr ⟨u, .tail _ h1, h2⟩
    · rintro (h | ⟨u, h1, h2⟩)
      · exact .inl (.inl h)
      · rcases List.mem_cons.mp h1 with rfl | h1
        · exact .inl (.inr h2)
        · exact .inr ⟨u, h1, h2⟩
theorem valsC_nodup : ∀ (sts : List (Int × Bool × Int)) {f : List Int}, f.Nodup → (sts.foldl (fun f st => ins f st.1) f).Nodup
  | [], _, h => h
  | st :: r, _, h => valsC_nodup r (ins_nodup _ h)
/-- the two counts tell the same values -/
theorem law2_perm {first : Int} {ts : List (Nat × Int)} {ns ws : Nat → Int} (hq : ∀ t ∈ ts, t.1 < 2) (h2 : 2 ≤ ts.length) (h5 : ts.length ≤ 5) (h0 : ns 0 = first) (hn : ∀ i t, ts[i]? = some t → ns (1 + i) = t.2)
    (hw : ∀ i t, ts[i]? = some t → ws (1 + i) = wI (t.1 == 0)) (hw9 : ∀ i, ts.length < i → ws i = 1) (hw0 : ws 0 = wI (wOf (ts.map (·.1)) 0)) : (cell ns ws ts.length 0).Perm (valsC (walkC ts [(first, true, 0)])) := by
  have hws : ws = fun i => wI (wOf (ts.map (·.1)) i) := by
    funext i
    cases i with
    | zero => exact hw0
    | succ i =>
      unfold wOf
      rw [List.getD_eq_getElem?_getD, Nat.add_sub_cancel]
      cases e : ts[i]? with
      | none =>
        have hl : ts.length ≤ i := List.getElem?_eq_none_iff.mp e
        rw [hw9 (i + 1) (by omega), List.getElem?_map, e]; rfl
      | some t =>
        have z := hw i t e
        rw [Nat.add_comm] at z
        rw [z, List.getElem?_map, e]; rfl
  have hsm := same2_of (qs := ts.map (·.1)) (fun q hq' => by obtain ⟨t, ht, rfl⟩ := List.mem_map.mp hq'; exact hq t ht) (by rw [List.length_map]; exact h2) (by rw [List.length_map]; exact h5)
  unfold same2 at hsm
  simp only [Bool.and_eq_true, List.all_eq_true, List.contains_iff_mem, List.length_map] at hsm
  have hg : (gWalk (ts.map (·.1)) [([true], true, 0)]).map (evS ns) = walkC ts [(first, true, 0)] := by
    have z := gWalk_ev ns ts 1 [([true], true, 0)] (fun x hx => by rw [List.mem_singleton.mp hx]; rfl) hn
    rw [z]
    have e : evG [true] ns 0 = first := by show ns 0 + (0 : Int) = _; rw [Int.add_zero, h0]
    show walkC ts [(evG [true] ns 0, true, 0)] = _
    rw [e]
  have nd1 : (cell ns ws ts.length 0).Nodup := by
    obtain ⟨k, hk⟩ : ∃ k, ts.length = k + 1 := ⟨ts.length - 1, by omega⟩
    rw [hk, cell_succ]
    exact foundK_nodup _ _ _ _ _
  have nd2 : (valsC (walkC ts [(first, true, 0)])).Nodup := valsC_nodup _ List.nodup_nil
  refine (List.perm_ext_iff_of_nodup nd1 nd2).mpr fun x => ?_
  rw [hws, (cell_signs ns (wOf (ts.map (·.1))) ts.length 0 x).1]
  unfold valsC
  rw [valsC_mem, ← hg]
  constructor
  · rintro ⟨g, hg1, rfl⟩
    refine .inr ⟨evS ns ?_, ?_⟩
    have hb := hsm.1 g hg1
    · exact (List.mem_map.mp hb).choose
    · have hb := hsm.1 g hg1
      have z := (List.mem_map.mp hb).choose_spec
      exact ⟨List.mem_map.mpr ⟨_, z.1, rfl⟩, by show _ = evG (List.mem_map.mp hb).choose.1 ns 0; rw [z.2]⟩
  · rintro (h | ⟨st, h1, h2⟩)
    · cases h
    · obtain ⟨u, hu, rfl⟩ := List.mem_map.mp h1
      exact ⟨u.1, hsm.2 u.1 (List.mem_map.mpr ⟨u, hu, rfl⟩), h2⟩
end Mine

namespace Mine
/-! what law 2's script draws -/
noncomputable def wsOf (b : Nat) : Nat := if b = 0 then 32 else if b = 1 then 9 else if b = 2 then 10 else 13
noncomputable def q2 (x : Int) : Nat := (x % 2).toNat
noncomputable def p2 (x : Int) : Nat := x.natAbs / 2 % 10 ^ 12
noncomputable def mn2 (x : Int) : Nat := (x / 2 % 3).toNat
noncomputable def b2 (x : Int) : Nat := wsOf (x / 6 % 4).toNat
noncomputable def k2 (x : Int) : Nat := (x % 7).toNat
theorem q2_lt (x : Int) : q2 x < 2 := by unfold q2; omega
theorem mn2_lt (x : Int) : mn2 x < 3 := by unfold mn2; omega
theorem k2_lt (x : Int) : k2 x < 7 := by unfold k2; omega
theorem p2_lt (x : Int) : p2 x < 10 ^ 12 := Nat.mod_lt _ (by decide)
theorem isWs_b2 (x : Int) : isWs (b2 x) := by
  unfold b2 wsOf isWs
  split
  · omega
  split
  · omega
  split
  · omega
  · omega
noncomputable def rep2E (x : Int) : Str := rep2 (q2 x) (p2 x)
noncomputable def nmL (k : Nat) : List Nat := [34, 92, 32, 34, 34, 35].take k
noncomputable def nmS (k : Nat) : Str := strOf (nmL k)
noncomputable def rep0 (k : Nat) : Str := Str.ofString "257 \"" ++ Txt.replace (nmS k) (Str.ofString "\"") (Str.ofString "\"\"") ++ Str.ofString "\" is here"
noncomputable def repsE : List Int → List Str
  | [] => []
  | x :: r => rep0 (k2 x) :: r.map rep2E
/-- the tokens that the lexer still reads -/
inductive ReadsT : List Nat → List Str → Prop
  | nil {rem : List Nat} : Tok3 rem [] [] → ReadsT rem []
  | cons {rem b : List Nat} {y : Str} {ys : List Str} : Tok3 rem y.cps.toList b → ReadsT b ys → ReadsT rem (y :: ys)
noncomputable def headOk (l : List Nat) : Prop := ∃ c t, l = c :: t ∧ ¬ (c = 34 ∨ c = 92 ∨ c = 32) ∧ ∀ d ∈ c :: t, ¬ (d = 10 ∨ d = 9 ∨ d = 13)
noncomputable def wordX (x : Int) (y : Str) : List Nat := wordL (mn2 x) y.cps.toList ++ [b2 x]
noncomputable def textX : List Int → List Str → List Nat
  | x :: xs, y :: ys => wordX x y ++ textX xs ys
  | _, _ => []
theorem readsX : ∀ (xs : List Int) (ys : List Str), xs.length = ys.length → (∀ y ∈ ys, headOk y.cps.toList) → ReadsT (textX xs ys) ys ∧ ∀ c, isWs c → ReadsT (c :: textX xs ys) ys
  | [], [], _, _ => ⟨.nil .eof, fun _ hx => .nil (.ws hx .eof)⟩
  | [], _ :: _, h, _ => by cases h
  | _ :: _, [], h, _ => by cases h
  | x :: xs, y :: ys, hl, hy => by
    have ih := readsX xs ys (by simpa using hl) fun z hz => hy z (.tail _ hz)
    obtain ⟨c, t, e, h1, h2⟩ := hy y (.head _)
    have h : Tok3 (wordL (mn2 x) y.cps.toList ++ b2 x :: textX xs ys) y.cps.toList (behind (mn2 x) (b2 x) (textX xs ys)) := by
      rw [e]; exact wordTok h1 h2 (isWs_b2 x)
    have hb : ReadsT (behind (mn2 x) (b2 x) (textX xs ys)) ys := by
      unfold behind
      split
      · exact ih.2 _ (isWs_b2 x)
      · exact ih.1
    have e1 : textX (x :: xs) (y :: ys) = wordL (mn2 x) y.cps.toList ++ b2 x :: textX xs ys := by
      show wordX x y ++ textX xs ys = _
      unfold wordX
      rw [List.append_assoc]; rfl
    rw [e1]
    exact ⟨.cons h hb, fun z hz => .cons (.ws hz h) hb⟩
theorem textX_app : ∀ (xs xs2 : List Int) (ys ys2 : List Str), xs.length = ys.length → textX (xs ++ xs2) (ys ++ ys2) = textX xs ys ++ textX xs2 ys2
  | [], _, [], _, _ => rfl
  | [], _, _ :: _, _, h => by cases h
  | _ :: _, _, [], _, h => by cases h
  | x :: xs, xs2, y :: ys, ys2, h => by
    have z := textX_app xs xs2 ys ys2 (by simpa using h)
    show wordX x y ++ textX (xs ++ xs2) (ys ++ ys2) = wordX x y ++ textX xs ys ++ textX xs2 ys2
    rw [z, List.append_assoc]
theorem wordL_len (mn : Nat) (l : List Nat) : (wordL mn l).length ≤ 2 * l.length + 2 := by
  have f : ∀ (g : Nat → List Nat), (∀ d, (g d).length ≤ 2) → ∀ l : List Nat, (l.flatMap g).length ≤ 2 * l.length := by
    intro g hg l
    induction l with
    | nil => simp
    | cons d l ih =>
      have := hg d
      rw [List.flatMap_cons, List.length_append, List.length_cons]; omega
  unfold wordL
  split
  · have z := f escQ (fun d => by unfold escQ; split <;> (try split) <;> simp) l
    simp only [List.length_cons, List.length_append, List.length_nil]; omega
  split
  · have z := f (fun c => [92, c]) (fun d => by simp) l
    omega
  · have z := f escB (fun d => by unfold escB; split <;> simp) l
    omega
theorem wordX_len {x : Int} {y : Str} (h : y.length ≤ 40) : (wordX x y).length ≤ 83 := by
  have z := wordL_len (mn2 x) y.cps.toList
  have e : y.cps.toList.length = y.length := by simp [Str.length]
  unfold wordX
  rw [List.length_append, List.length_singleton]; omega
theorem textX_len : ∀ (xs : List Int) (ys : List Str), (∀ y ∈ ys, y.length ≤ 40) → (textX xs ys).length ≤ 83 * ys.length
  | [], _, _ => by simp [textX]
  | _ :: _, [], _ => by simp [textX]
  | x :: xs, y :: ys, h => by
    have z := textX_len xs ys fun u hu => h u (.tail _ hu)
    have z2 := wordX_len (x := x) (h y (.head _))
    show (wordX x y ++ textX xs ys).length ≤ _
    rw [List.length_append, List.length_cons]; omega
theorem rep2_headOk (q : Nat) {p : Nat} : headOk (rep2 q p).cps.toList := by
  have hL := rep2_list q p
  have hr := digL_range p
  have hc := mk2_cases q
  refine ⟨50, [50, 57, 32, 40] ++ (mk2 q :: mk2 q :: mk2 q :: (digL p ++ [mk2 q, 41])), by rw [hL]; rfl, by omega, fun d hd => ?_⟩
  exact fun hx => rep2_mem hr hc hd hx
where
  rep2_mem {q p d : Nat} (hr : ∀ c ∈ digL p, 48 ≤ c ∧ c ≤ 57) (hc : mk2 q = 43 ∨ mk2 q = 45) (hd : d ∈ 50 :: ([50, 57, 32, 40] ++ (mk2 q :: mk2 q :: mk2 q :: (digL p ++ [mk2 q, 41])))) (hx : d = 10 ∨ d = 9 ∨ d = 13) : False := by
    have : 32 ≤ d := by
      simp only [List.cons_append, List.nil_append, List.mem_cons, List.mem_append, List.not_mem_nil, or_false] at hd
      rcases hd with h | h | h | h | h | h | h | h | h | h | h
      all_goals first | omega | (have := hr d h; omega)
    omega
theorem rep2_strOk (q p : Nat) : PyData.strOk (rep2 q p) = true := by
  unfold PyData.strOk
  rw [← Array.all_toList, List.all_eq_true]
  intro d hd
  rw [rep2_list] at hd
  have hr := digL_range p
  have hc := mk2_cases q
  have : d < 200 := by
    simp only [List.cons_append, List.nil_append, List.mem_cons, List.mem_append, List.not_mem_nil, or_false] at hd
    rcases hd with h | h | h | h | h | h | h | h | h | h | h
    all_goals first | omega | (have := hr d h; omega)
  exact decide_eq_true (by omega)
theorem rep0_facts : ((List.range 7).all fun k => decide ((rep0 k).length ≤ 40) && (match (rep0 k).cps.toList with | [] => false | c :: t => c == 50 && (c :: t).all fun d => d != 10 && d != 9 && d != 13) && PyData.strOk (rep0 k)) = true := by decide +kernel
theorem rep0_ok {k : Nat} (h : k < 7) : (rep0 k).length ≤ 40 ∧ headOk (rep0 k).cps.toList ∧ PyData.strOk (rep0 k) = true := by
  have z := List.all_eq_true.mp rep0_facts k (List.mem_range.mpr h)
  simp only [Bool.and_eq_true, decide_eq_true_eq] at z
  obtain ⟨⟨z1, z2⟩, z3⟩ := z
  refine ⟨z1, ?_, z3⟩
  cases e : (rep0 k).cps.toList with
  | nil => rw [e] at z2; cases z2
  | cons c t =>
    rw [e] at z2
    simp only [Bool.and_eq_true, beq_iff_eq, List.all_eq_true, bne_iff_ne, ne_eq] at z2
    refine ⟨c, t, rfl, by omega, fun d hd => ?_⟩
    have := z2.2 d hd
    omega
theorem rep2E_ok (x : Int) : (rep2E x).length ≤ 40 ∧ headOk (rep2E x).cps.toList ∧ PyData.strOk (rep2E x) = true := by
  have h := rep2_len (q := q2 x) (p2_lt x)
  have hd := digL_len (p2_lt x)
  exact ⟨by unfold rep2E; omega, rep2_headOk _, rep2_strOk _ _⟩
theorem repsE_ok : ∀ xs : List Int, ∀ y ∈ repsE xs, y.length ≤ 40 ∧ headOk y.cps.toList ∧ PyData.strOk y = true
  | [], _, h => nomatch h
  | x :: xs, y, h => by
    rcases List.mem_cons.mp h with rfl | h
    · exact rep0_ok (k2_lt x)
    · obtain ⟨z, _, rfl⟩ := List.mem_map.mp h
      exact rep2E_ok z
theorem repsE_len : ∀ xs : List Int, (repsE xs).length = xs.length
  | [] => rfl
  | _ :: _ => by simp [repsE]
end Mine

namespace Mine
noncomputable def p257B (k : Nat) : Bool := decide (6 ≤ (rep0 k).length) && ((Txt.slice (rep0 k) none (some 3) != Str.ofString "257") == false) && ((Txt.slice (rep0 k) (some 3) (some 5) != Str.ofString " \"") == false) && decide ((rep0 k).cps.toList.drop 5 = ((nmL k).flatMap fun c => if c = 34 then [34, 34] else [c]) ++ 34 :: 32 :: [105, 115, 32, 104, 101, 114, 101]) && decide ((nmL k).length = k)
theorem p257All : ((List.range 7).all p257B) = true := by decide +kernel
theorem p257_facts {k : Nat} (h : k < 7) : (6 ≤ (rep0 k).length ∧ (rep0 k).length ≤ 100) ∧ (Txt.slice (rep0 k) none (some 3) != Str.ofString "257") = false ∧ (Txt.slice (rep0 k) (some 3) (some 5) != Str.ofString " \"") = false ∧
    (rep0 k).cps.toList.drop 5 = ((nmL k).flatMap fun c => if c = 34 then [34, 34] else [c]) ++ 34 :: 32 :: [105, 115, 32, 104, 101, 114, 101] ∧ (nmL k).length = k := by
  have z := List.all_eq_true.mp p257All k (List.mem_range.mpr h)
  unfold p257B at z
  simp only [Bool.and_eq_true, decide_eq_true_eq, beq_iff_eq] at z
  obtain ⟨⟨⟨⟨z1, z2⟩, z3⟩, z4⟩, z5⟩ := z
  exact ⟨⟨z1, Nat.le_trans (rep0_ok h).1 (by decide)⟩, z2, z3, z4, z5⟩
end Mine

namespace Mine
theorem law2_perm' {first : Int} {ts : List (Nat × Int)} {ns : Nat → Int} (hq : ∀ t ∈ ts, t.1 < 2) (h2 : 2 ≤ ts.length) (h5 : ts.length ≤ 5) (h0 : ns 0 = first) (hn : ∀ i t, ts[i]? = some t → ns (1 + i) = t.2) :
    (cell ns (fun i => wI (wOf (ts.map (·.1)) i)) ts.length 0).Perm (valsC (walkC ts [(first, true, 0)])) := by
  refine law2_perm hq h2 h5 h0 hn (fun i t ht => ?_) (fun i hi => ?_) rfl
  · show wI (wOf _ (1 + i)) = _
    unfold wOf
    rw [show 1 + i - 1 = i by omega, List.getD_eq_getElem?_getD, List.getElem?_map, ht]
    rfl
  · show wI (wOf _ i) = 1
    unfold wOf
    rw [List.getD_eq_getElem?_getD, List.getElem?_map, List.getElem?_eq_none (by omega)]
    rfl
theorem intsAt : ∀ {vs : List Value} {ns : List Int} {j : Nat} {x : Int}, IntsAre vs ns → ns[j]? = some x → ∃ t, vs[j]? = some (.int x t)
  | _, _, j, x, .nil, h => by simp at h
  | _, _, 0, x, .cons n t r, h => by
    simp at h
    subst h
    exact ⟨t, rfl⟩
  | _, _, j + 1, x, .cons n t r, h => by
    simp at h
    obtain ⟨u, hu⟩ := intsAt r h
    exact ⟨u, by simpa using hu⟩
noncomputable def numF (n0 : Int) (xs : List Int) (j : Nat) : Int := (n0 :: xs.map fun x => ((p2 x : Nat) : Int)).getD j 0
theorem numF_at {n0 : Int} {xs : List Int} {j : Nat} {x : Int} (h : (n0 :: xs.map fun x => ((p2 x : Nat) : Int))[j]? = some x) : numF n0 xs j = x := by
  unfold numF
  rw [List.getD_eq_getElem?_getD, h]; rfl
noncomputable def tE8 (x : Int) : Nat × Int := (q2 x, ((p2 x : Nat) : Int))
noncomputable def wbF (xs : List Int) (i : Nat) : Bool := wOf ((xs.map tE8).map (·.1)) i
theorem ways_at {wv : List Value} {xs : List Int} (h : IntsAre wv (1 :: xs.map fun x => wI (q2 x == 0))) {j : Nat} (h1 : 1 ≤ j) (h2 : j < xs.length + 1) : ∃ t, wv[j]? = some (.int (wI (wbF xs j)) t) := by
  obtain ⟨i, rfl⟩ : ∃ i, j = i + 1 := ⟨j - 1, by omega⟩
  refine intsAt h ?_
  have hi : i < xs.length := by omega
  have e : wbF xs (i + 1) = (q2 xs[i] == 0) := by
    unfold wbF wOf
    rw [Nat.add_sub_cancel, List.getD_eq_getElem?_getD, List.getElem?_map, List.getElem?_map, List.getElem?_eq_getElem hi]
    rfl
  rw [e]
  simp [hi]
theorem law2_final {n0 : Int} {xs : List Int} (h2 : 2 ≤ xs.length) (h5 : xs.length ≤ 5) : (cell (numF n0 xs) (fun i => wI (wbF xs i)) (xs.length + 1 - 1) 0).Perm (valsC (walkC (xs.map tE8) [(n0, true, 0)])) := by
  have z := law2_perm' (first := n0) (ts := xs.map tE8) (ns := numF n0 xs) (fun t ht => by obtain ⟨x, _, rfl⟩ := List.mem_map.mp ht; exact q2_lt x) (by rw [List.length_map]; exact h2) (by rw [List.length_map]; exact h5) rfl (fun i t ht => ?_)
  · rw [List.length_map] at z
    exact z
  · rw [List.getElem?_map] at ht
    obtain ⟨x, hx, rfl⟩ := Option.map_eq_some_iff.mp ht
    refine numF_at ?_
    rw [Nat.add_comm]
    simp [tE8, hx]
theorem slice_nm (x : Int) : Txt.slice (Str.ofString "\"\\ \"\"#") none (some (x.fmod 7)) = nmS (k2 x) := by
  have k : ∀ i : Fin 7, Txt.slice (Str.ofString "\"\\ \"\"#") none (some ((i.val : Nat) : Int)) = nmS i.val := by decide +kernel
  have e : x.fmod 7 = ((k2 x : Nat) : Int) := by
    rw [Int.fmod_eq_emod_of_nonneg _ (by decide)]
    unfold k2; omega
  rw [e]
  exact k ⟨k2 x, k2_lt x⟩
theorem rep0_parts (k : Nat) : Str.ofString "257 \"" ++ Txt.replace (nmS k) (Str.ofString "\"") (Str.ofString "\"\"") ++ Str.ofString "\" is here" = rep0 k := rfl
theorem replB : ((List.range 7).all fun k => decide ((Txt.replace (nmS k) (Str.ofString "\"") (Str.ofString "\"\"")).length ≤ 12) && decide ((nmS k).length ≤ 6)) = true := by decide +kernel
theorem repl_len {k : Nat} (h : k < 7) : (Txt.replace (nmS k) (Str.ofString "\"") (Str.ofString "\"\"")).length ≤ 12 ∧ (nmS k).length ≤ 6 := by
  have z := List.all_eq_true.mp replB k (List.mem_range.mpr h)
  simp only [Bool.and_eq_true, decide_eq_true_eq] at z
  exact z
theorem toldCons (l : List Int) : ∃ x0 xs, List.take 6 (l ++ [30, 9, 17]) = x0 :: xs ∧ 2 ≤ xs.length ∧ xs.length ≤ 5 := by
  have h : 3 ≤ (List.take 6 (l ++ [30, 9, 17])).length ∧ (List.take 6 (l ++ [30, 9, 17])).length ≤ 6 := by
    rw [List.length_take, List.length_append]
    simp only [List.length_cons, List.length_nil]
    omega
  cases e : List.take 6 (l ++ [30, 9, 17]) with
  | nil => rw [e] at h; simp at h
  | cons x0 xs =>
    rw [e] at h
    simp only [List.length_cons] at h
    exact ⟨x0, xs, rfl, by omega, by omega⟩
theorem toldOf {ws : List Value} {l : List Int} (_h : IntsAre ws (List.take 6 (l ++ [30, 9, 17]))) : ∃ x0 xs, List.take 6 (l ++ [30, 9, 17]) = x0 :: xs ∧ 2 ≤ xs.length ∧ xs.length ≤ 5 := toldCons l
end Mine

namespace Mine
set_option maxHeartbeats 8000000
theorem word_code (w : World) (dp un : Nat) (gd : Option (List Code)) (cn : Str) (cs : Scope) (a : Addr) (ccd : Value) (cl : List (Str × Addr)) (outer : List Env) (A₀ : Around) (base h₀ : Heap) (L : Addr) (m : Str → Option Value) (s : Shared) (p : Program) (loose : List Str) (mean : ExcName → Option Value) (mg mb : Str → Option Value)
    (Rr : Result → Shared → Prop)
    (B : Below A₀ base outer h₀) (F : Fr h₀ L s.heap m) (X : (wPart w.params).In h₀) (T : Top p loose mean mg mb h₀) (hk : cs.kind = .function)
    (hcd : CodeHd base 123 119) (hd : dp + 40 < 1000) (hu : un + 500 < 9900)
  (R : List (Addr × Obj)) {x : Str} {mn : Nat} {tx : Tok} {tm : Tok} (N : News h₀ L s.heap R) (hx : x.length ≤ 40) (hmn : mn < 3)
  (ret : ∀ h' tk' t, Fr h₀ L h' m → News h₀ L h' R → Rr (.ok (.ret (.str (strOf (wordL mn x.cps.toList)) t))) { s with heap := h', toks := tk' }) :
    codeAny (model P1 w) (ktrTop dp un gd cn cs L a ccd cl outer) (.call (.ref 129) ⟨[.str x tx, .int mn tm], []⟩) Rr s := by
  have hm : mn = 0 ∨ mn = 1 ∨ mn = 2 := by omega
  rcases hm with rfl | rfl | rfl
  · rw [← word0_text] at ret
    have e1 := repl1_len x
    have e2 := repl2_len (Txt.replace x (Str.ofString "\\") (Str.ofString "\\\\"))
    exact word0_code w dp un gd cn cs a ccd cl outer A₀ base h₀ L m s p loose mean mg mb Rr B F X T hk hcd hd hu R N hx (by omega) (by omega) ret
  · rw [← word1_text] at ret
    exact word1_code w dp un gd cn cs a ccd cl outer A₀ base h₀ L m s p loose mean mg mb Rr B F X T hk hcd hd hu R N hx ret
  · rw [← word2_text] at ret
    exact word2_code w dp un gd cn cs a ccd cl outer A₀ base h₀ L m s p loose mean mg mb Rr B F X T hk hcd hd hu R N hx ret
end Mine

namespace Mine
set_option maxHeartbeats 8000000
theorem lexMk2 {w : World} {sd fr cr cA cT lx dx st at_ c : Addr} {ocr oA oT oc : Obj} {fdS : FuncData} {vs : Array Value} {qual : Str} {tq : Tok} {doc pm ctv : Value} {text : Str} {tk1 tt : Tok} 
    (h2d : ocr.data = .fields vs) (h2v : vs[1]? = some (.str qual tq)) (h3d : oA.data = .cell (some (.ref at_))) (h4d : oT.data = .cell (some (.str text tt))) :
    LexIn w ([(lx, instObj 59 dx), (sd, dictOf [⟨PyData.keyHash w.params "read", .str "read" tk1, .ref fr⟩] 1), (st, fnObj fdS (some sd)), (c, oc), (fr, fnMade "read" qual readA readB readS [("text", cT), ("at", cA)] doc pm cr ctv), (cr, ocr), (cA, oA), (cT, oT)]) lx dx st at_ text := by
  refine ⟨sd, fr, cr, cA, cT, ocr, oA, oT, fdS, vs, qual, tq, doc, pm, ctv, tk1, tt, ?_, ?_, ?_, ?_, ?_, h2d, h2v, ?_, h3d, ?_, h4d⟩ <;> simp only [List.mem_cons, true_or, or_true]
theorem newsLex2 {h₀ h : Heap} {L : Addr} {p1 p2 p3 p4 p5 p6 p7 p8 p9 p10 p11 p12 : Addr × Obj} {R : List (Addr × Obj)} (N : News h₀ L h (p1 :: p2 :: p3 :: p4 :: p5 :: p6 :: p7 :: p8 :: p9 :: p10 :: p11 :: p12 :: R)) :
    News h₀ L h (p9 :: p3 :: p1 :: ([p2, p4, p5, p6, p7, p8, p10, p11] ++ (p12 :: R))) := fun p hp => N p (by
  simp only [List.mem_cons, List.mem_append, List.not_mem_nil, or_false] at hp ⊢
  rcases hp with h | h | h | (h | h | h | h | h | h | h | h) | h | h <;> simp only [h, true_or, or_true])
local macro_rules | `(tactic| k_all) => `(tactic| first | exact OwnOff.ne (by assumption) (by k_memK) | (refine allLt_ne (d := ?d) ?h ?b; (case h => assumption); (case b => (show @LE.le Nat _ _ _); omega)))
local macro_rules | `(tactic| walk_at "setAttr ref") => `(tactic| (k_here; k_dflt (refine' setAttr_fn ?k1 ?k2 ?k3 ?_; (case k1 => k_asm); (case k2 => k_asm); (case k3 => k_all); k_whole); intro d' h' tk' k' F' N' l1 l2; (try k_lt l1); (try k_lt2 l2); (try k_sweep)))
theorem lexer_code2 (w : World) (dp un : Nat) (gd : Option (List Code)) (cn : Str) (cs : Scope) (a : Addr) (ccd : Value) (cl : List (Str × Addr)) (outer : List Env) (A₀ : Around) (base h₀ : Heap) (L : Addr) (m : Str → Option Value) (s : Shared) (p : Program) (loose : List Str) (mean : ExcName → Option Value) (mg mb : Str → Option Value)
    (Rr : Result → Shared → Prop)
    (B : Below A₀ base outer h₀) (F : Fr h₀ L s.heap m) (X : (wPart w.params).In h₀) (T : Top p loose mean mg mb h₀) (hk : cs.kind = .function)
    (hcd : CodeHd base 123 119) (hd : dp + 40 < 1000) (hu : un + 500 < 9900)
  (R : List (Addr × Obj)) {text : Str} {t : Tok} (N : News h₀ L s.heap ((119, tabObj #[]) :: R)) (hoff : OwnOff R [119])
  (ret : ∀ ps h' tk' X0 D0 lx dx st pb at_ u k n tn t1 t2 t3 t4 t5 kp, AllLt D0 R → (∀ p ∈ X0, @LE.le Nat _ D0 p.1) → (@LE.le Nat _ D0 at_ ∧ @LE.le Nat _ D0 dx ∧ @LE.le Nat _ D0 pb) → LexIn w X0 lx dx st at_ text → OwnOff X0 [at_, dx, pb] → @Ne Nat at_ dx → @Ne Nat at_ pb → @Ne Nat dx pb → n = 1 →
    Fr h₀ L h' m → News h₀ L h' ((at_, W.listOf #[.int 0 u] k) :: (dx, lexD w n tn st pb t1 t2 t3 t4 t5) :: (pb, W.listOf #[] kp) :: (X0 ++ ((119, tabObj ps) :: R))) → Rr (.ok (.ret (.ref lx))) { s with heap := h', toks := tk' }) :
    codeAny (model P1 w) (ktrTop dp un gd cn cs L a ccd cl outer) (.call (.ref 124) ⟨[.str text t], []⟩) Rr s := by
  k_dflt (refine' code_defC ?k1 ?k2 ?k3 ?k4 ?k5 ?kA ?kF ?kK ?k6 ?k7 ?k8 ?k9 ?kB ?kD ?_ ?c2 ?c3 ?c4; (case kA => exact rfl); (case kF => exact rfl); (case kK => assumption); (case k1 => k_asm); (case k2 => k_asm); (case k3 => k_asm); (case k4 => k_asm); (case k5 => k_asm); (case k6 => k_is); (case k7 => k_is); (case k8 => k_room); (case k9 => exact BindsTo.of_eq rfl); (case kB => exact rfl); (case kD => decide +kernel); (case c2 => exact rfl); (case c3 => exact rfl); (case c4 => exact rfl); k_whole; intro g' L' h' tk' cells' FG' F' N' Y' B' X' T' l1; (try k_lt l1); k_cells Y'; (try simp only [List.cons_append, List.nil_append] at N'); (try dsimp only); (try k_lift B'); (try k_fold))
  obtain ⟨l1, l2⟩ := l1
  k_steps
  rename Fr h₀ _ _ _ => kF
  rename News h₀ _ _ _ => kN
  rename Fr h₀ _ _ _ => kF
  rename News h₀ _ _ _ => kN
  refine ret _ _ _ _ L' _ _ _ _ _ _ _ _ _ _ _ _ _ _ _ l2 ?_ ?_ ?_ ?_ ?_ ?_ ?_ ?_ kF (newsLex2 kN)
  · intro p hp
    simp only [List.mem_cons, List.not_mem_nil, or_false] at hp
    rcases hp with h | h | h | h | h | h | h | h <;> (rw [h]; (show @LE.le Nat _ _ _); omega)
  · refine ⟨?_, ?_, ?_⟩ <;> ((show @LE.le Nat _ _ _); omega)
  · have z := @lexMk2 w
    dsimp only [readA, readB, readS, readA0, readB0, readS0] at z
    refine' z ?k1 ?k2 ?k3 ?k4; (case k3 => assumption); (case k4 => assumption); (case k1 => assumption); (case k2 => assumption)
  · refine off3b ?_ ?_ ?_ <;> first | k_all | skip
  · (show @Ne Nat _ _); omega
  · (show @Ne Nat _ _); omega
  · (show @Ne Nat _ _); omega
  · rfl
end Mine

namespace Mine
noncomputable def noExpr : PySem.Expr := .Name "_" ⟨0, 0, 0, 0⟩
noncomputable def forTgt : Stmt → PySem.Expr
  | .For t _ _ _ _ => t
  | _ => noExpr
noncomputable def forIter : Stmt → PySem.Expr
  | .For _ i _ _ _ => i
  | _ => noExpr
noncomputable def lawStmt : Stmt := PySem.Challenge.pw_tr0043_02.main.body.getD 63 noStmt
noncomputable def lawSt (k : Nat) : Stmt := (fnBody lawStmt).getD k noStmt
noncomputable def lawS0 : {x : Scope // x = fnScope lawStmt} := by
  refine ⟨?x, ?h⟩
  case h => (conv => rhs; whnf); try exact rfl
noncomputable abbrev lawS : Scope := lawS0.1
noncomputable def lawW40 : {x : Stmt // x = lawSt 4} := by
  refine ⟨?x, ?h⟩
  case h => (conv => rhs; whnf); try exact rfl
noncomputable abbrev lawW4 : Stmt := lawW40.1
noncomputable def lawW60 : {x : Stmt // x = lawSt 6} := by
  refine ⟨?x, ?h⟩
  case h => (conv => rhs; whnf); try exact rfl
noncomputable abbrev lawW6 : Stmt := lawW60.1
noncomputable def lawSt50 : {x : Stmt // x = lawSt 8} := by
  refine ⟨?x, ?h⟩
  case h => (conv => rhs; whnf); try exact rfl
noncomputable abbrev lawSt5 : Stmt := lawSt50.1
noncomputable def lawW130 : {x : Stmt // x = lawSt 13} := by
  refine ⟨?x, ?h⟩
  case h => (conv => rhs; whnf); try exact rfl
noncomputable abbrev lawW13 : Stmt := lawW130.1
noncomputable def lawRest0 : {x : List Stmt // x = (fnBody lawStmt).drop 5} := by
  refine ⟨?x, ?h⟩
  case h => (conv => rhs; whnf); try exact rfl
noncomputable abbrev lawRest : List Stmt := lawRest0.1
noncomputable def brStmt : Stmt := PySem.Challenge.pw_tr0043_02.main.body.getD 61 noStmt
noncomputable def brS0 : {x : Scope // x = fnScope brStmt} := by
  refine ⟨?x, ?h⟩
  case h => (conv => rhs; whnf); try exact rfl
noncomputable abbrev brS : Scope := brS0.1
noncomputable def brT0 : {x : Stmt // x = (fnBody brStmt).getD 0 noStmt} := by
  refine ⟨?x, ?h⟩
  case h => (conv => rhs; whnf); try exact rfl
noncomputable abbrev brT : Stmt := brT0.1
/-- for i in range(len(numbers) - span) -/
noncomputable def brI0 : {x : Stmt // x = (forBody ((fnBody brStmt).getD 1 noStmt)).getD 0 noStmt} := by
  refine ⟨?x, ?h⟩
  case h => (conv => rhs; whnf); try exact rfl
noncomputable abbrev brI : Stmt := brI0.1
/-- for k in range(span) -/
noncomputable def brK0 : {x : Stmt // x = (forBody brI).getD 1 noStmt} := by
  refine ⟨?x, ?h⟩
  case h => (conv => rhs; whnf); try exact rfl
noncomputable abbrev brK : Stmt := brK0.1
/-- for left in table[i][k] -/
noncomputable def brL0 : {x : Stmt // x = (forBody brK).getD 0 noStmt} := by
  refine ⟨?x, ?h⟩
  case h => (conv => rhs; whnf); try exact rfl
noncomputable abbrev brL : Stmt := brL0.1
/-- for right in .. -/
noncomputable def brR0 : {x : Stmt // x = (forBody brL).getD 0 noStmt} := by
  refine ⟨?x, ?h⟩
  case h => (conv => rhs; whnf); try exact rfl
noncomputable abbrev brR : Stmt := brR0.1
end Mine

namespace Mine
noncomputable def ctStmt : Stmt := PySem.Challenge.pw_tr0043_02.main.body.getD 62 noStmt
noncomputable def ctS0 : {x : Scope // x = fnScope ctStmt} := by
  refine ⟨?x, ?h⟩
  case h => (conv => rhs; whnf); try exact rfl
noncomputable abbrev ctS : Scope := ctS0.1
/-- for mark, port in terms -/
noncomputable def ctT0 : {x : Stmt // x = (fnBody ctStmt).getD 1 noStmt} := by
  refine ⟨?x, ?h⟩
  case h => (conv => rhs; whnf); try exact rfl
noncomputable abbrev ctT : Stmt := ctT0.1
/-- for value, added, count in states -/
noncomputable def ctV0 : {x : Stmt // x = (forBody ctT).getD 1 noStmt} := by
  refine ⟨?x, ?h⟩
  case h => (conv => rhs; whnf); try exact rfl
noncomputable abbrev ctV : Stmt := ctV0.1
/-- for adds in [True, False] -/
noncomputable def ctA0 : {x : Stmt // x = (forBody ctV).getD 0 noStmt} := by
  refine ⟨?x, ?h⟩
  case h => (conv => rhs; whnf); try exact rfl
noncomputable abbrev ctA : Stmt := ctA0.1
/-- the last for -/
noncomputable def ctF0 : {x : Stmt // x = (fnBody ctStmt).getD 3 noStmt} := by
  refine ⟨?x, ?h⟩
  case h => (conv => rhs; whnf); try exact rfl
noncomputable abbrev ctF : Stmt := ctF0.1
end Mine

namespace Mine
noncomputable def lawEnd0 : {x : List Stmt // x = (fnBody lawStmt).drop 7} := by
  refine ⟨?x, ?h⟩
  case h => (conv => rhs; whnf); try exact rfl
noncomputable abbrev lawEnd : List Stmt := lawEnd0.1
end Mine

namespace Mine
set_option maxHeartbeats 2000000
theorem setB4 {m1 : Str → Option Value} {x1 x2 x3 x4 : Str} {v1 v2 v3 v4 : Value} (h1 : m1 x1 = some v1) (h2 : m1 x2 = some v2) (h3 : m1 x3 = some v3) (h4 : m1 x4 = some v4) : m1 = fun y => if y = x1 then some v1 else if y = x2 then some v2 else if y = x3 then some v3 else if y = x4 then some v4 else m1 y := by
  funext y
  by_cases e1 : y = x1
  · rw [if_pos e1, e1, h1]
  rw [if_neg e1]
  by_cases e2 : y = x2
  · rw [if_pos e2, e2, h2]
  rw [if_neg e2]
  by_cases e3 : y = x3
  · rw [if_pos e3, e3, h3]
  rw [if_neg e3]
  by_cases e4 : y = x4
  · rw [if_pos e4, e4, h4]
  rw [if_neg e4]
theorem setB5 {m1 : Str → Option Value} {x1 x2 x3 x4 x5 : Str} {v1 v2 v3 v4 v5 : Value} (h1 : m1 x1 = some v1) (h2 : m1 x2 = some v2) (h3 : m1 x3 = some v3) (h4 : m1 x4 = some v4) (h5 : m1 x5 = some v5) : m1 = fun y => if y = x1 then some v1 else if y = x2 then some v2 else if y = x3 then some v3 else if y = x4 then some v4 else if y = x5 then some v5 else m1 y := by
  funext y
  by_cases e1 : y = x1
  · rw [if_pos e1, e1, h1]
  rw [if_neg e1]
  by_cases e2 : y = x2
  · rw [if_pos e2, e2, h2]
  rw [if_neg e2]
  by_cases e3 : y = x3
  · rw [if_pos e3, e3, h3]
  rw [if_neg e3]
  by_cases e4 : y = x4
  · rw [if_pos e4, e4, h4]
  rw [if_neg e4]
  by_cases e5 : y = x5
  · rw [if_pos e5, e5, h5]
  rw [if_neg e5]
theorem itemL {prog : Program} {w : World} {A : Around} {E : Value → Shared → Prop} {s : Shared} {h₀ : Heap} {L l : Addr} {news : List (Addr × Obj)} {value slice : PySem.Expr} {vs : List Value} {n : Nat} {k : Int} {u : Tok} {v : Value} {Q : Value → Shared → Prop}
    (N : News h₀ L s.heap news) (hm : (l, W.listOf vs.toArray n) ∈ news) (h0 : 0 ≤ k) (hfit : k < 2 ^ 63) (hx : vs[k.toNat]? = some v) (h : Q v s)
    (hs : subscripted slice false (.ref l) (.int k u) = operate [.ref l, .int k u] (getItem (.ref l) (.int k u)) := by with_unfolding_all rfl) :
    wpAny (model prog w) A (subscriptTail value slice (.ref l) (.int k u)) Q E s := by
  have hl : s.heap.IsList l vs.toArray := ⟨_, (N _ hm).1, rfl, _, rfl⟩
  exact tail_any hl.typeIs slot_list_getitem.lookup (wpAny_getItem_list hl h0 hfit (by rw [List.getElem?_toArray]; exact hx) h) hs
theorem notinL {prog : Program} {w : World} {A : Around} {E : Value → Shared → Prop} {s : Shared} {h₀ : Heap} {L l : Addr} {news : List (Addr × Obj)} {vs : List Value} {ns : List Int} {n : Nat} {k : Int} {t : Tok} {Q : Value → Shared → Prop}
    (N : News h₀ L s.heap news) (hm : (l, W.listOf vs.toArray n) ∈ news) (hi : IntsAre vs ns) (h : Q (.bool (!(ns.any (· == k)))) s) : wpAny (model prog w) A (compareOp .NotIn (.int k t) (.ref l)) Q E s :=
  notin_list_ints ⟨_, (N _ hm).1, rfl, _, rfl⟩ hi h
local macro_rules | `(tactic| walk_at "subscriptTail") => `(tactic| (k_here; (with_reducible show wpAny _ _ (subscriptTail _ _ (Value.ref _) (Value.int _ _)) _ _ _); k_dflt (refine' itemL ?k1 ?k2 ?k3 ?k4 ?k5 ?_; (case k1 => k_asm); (case k2 => k_mem); (case k3 => omega); (case k4 => omega); (case k5 => assumption))))
local macro_rules | `(tactic| walk_at "compareOp NotIn int ref") => `(tactic| (k_here; (with_reducible show wpAny _ _ (compareOp _ (Value.int _ _) (Value.ref _)) _ _ _); k_dflt (refine' notinL ?k1 ?k2 ?k3 ?_; (case k1 => k_asm); (case k2 => k_mem); (case k3 => assumption))))
theorem mulW (b : Bool) (y : Int) : IntMulOk (wI b) y := by
  refine IntMulOk.of_left ?_
  cases b <;> decide +kernel
local macro_rules | `(tactic| walk_at "binaryOp Mult int int") => `(tactic| refine PyProof.Rows.mul_int ?_ (mulW _ _))
noncomputable def StopB (P : Prop) : Prop := P
theorem StopB.go {P : Prop} (h : StopB P) : P := h
local macro_rules | `(tactic| walk_at "execs nil") => `(tactic| refine StopB.go ?_)
local macro_rules | `(tactic| walk_at "UnrEndW") => `(tactic| refine StopB.go ?_)
theorem pushL (vs : List Value) (v : Value) : vs.toArray.push v = (vs ++ [v]).toArray := by simp
theorem newsSw2 {h₀ h : Heap} {L : Addr} {i x : Addr × Obj} {R : List (Addr × Obj)} (N : News h₀ L h (i :: x :: R)) : News h₀ L h (x :: i :: R) := fun p hp => N p (by
  simp only [List.mem_cons] at hp ⊢
  rcases hp with h | h | h <;> simp only [h, true_or, or_true])
theorem right_code (w : World) (dp un : Nat) (gd : Option (List Code)) (outer : List Env) (A₀ : Around) (base h₀ : Heap) (L : Addr) (m : Str → Option Value) (s : Shared) (p : Program) (loose : List Str) (mean : ExcName → Option Value) (mg mb : Str → Option Value)
    (Rr : Result → Shared → Prop)
    (B : Below A₀ base outer h₀) (F : Fr h₀ L s.heap m) (X : (wPart w.params).In h₀) (T : Top p loose mean mg mb h₀)
    (hcd : CodeHd base 123 119) (hd : dp + 80 < 1000) (hu : un + 900 < 9900)
  {E : Value → Shared → Prop} {Q : Flow → Shared → Prop} (hE : PassesOwn (model P1 w) (ktrTop dp un gd "_law_by_brackets" brS L 134 (.ref 133) [] outer) (envX "_law_by_brackets" brS L 134 (.ref 133) []) E) (R : List (Addr × Obj)) {fd tb wy rj ca : Addr} {fv tv jv rv wv : List Value} {fs rs : List Int} {kf kt kj kc kw : Nat} {i k sp : Nat} {l : Int} {b : Bool} {t1 t2 t3 t4 t5 : Tok}
  (N : News h₀ L s.heap ((fd, W.listOf fv.toArray kf) :: R)) (hoff : OwnOff R [fd]) (hfi : IntsAre fv fs) (hfl : fs.length + rs.length ≤ 20000) (hir : i < 100) (hkr : k < 100) (hks : k + 1 ≤ sp) (hsr : sp < 100)
  (htb : (tb, W.listOf tv.toArray kt) ∈ R) (htj : tv[i + k + 1]? = some (.ref rj)) (hrj : (rj, W.listOf jv.toArray kj) ∈ R) (hjc : jv[sp - k - 1]? = some (.ref ca)) (hca : (ca, W.listOf rv.toArray kc) ∈ R) (hri : IntsAre rv rs)
  (hwy : (wy, W.listOf wv.toArray kw) ∈ R) (hww : wv[i + k + 1]? = some (.int (wI b) t5))
  (hm1 : m "i" = some (.int (i : Nat) t1)) (hm2 : m "k" = some (.int (k : Nat) t2)) (hm3 : m "span" = some (.int (sp : Nat) t3)) (hm4 : m "left" = some (.int l t4)) (hm5 : m "table" = some (.ref tb)) (hm6 : m "ways" = some (.ref wy)) (hm7 : m "found" = some (.ref fd))
  (ret : ∀ h' tk' m' fv' kf', Fr h₀ L h' m' → (∀ z, z ≠ Str.ofString "right" → z ≠ Str.ofString "value" → m' z = m z) → News h₀ L h' ((fd, W.listOf fv'.toArray kf') :: R) → IntsAre fv' (insR (wI b) l rs fs) → Q .next { s with heap := h', toks := tk' }) :
    wpAny (model P1 w) (ktrTop dp un gd "_law_by_brackets" brS L 134 (.ref 133) [] outer) (exec brR (envX "_law_by_brackets" brS L 134 (.ref 133) [])) Q E s := by
  dsimp only [brR, brR0, brS, brS0]
  have e4 := setB4 hm1 hm2 hm3 hm5
  rw [e4] at F
  refine For_turns (hE := hE) F ?_
  have x1 : tv[((i : Int) + (k : Int) + 1).toNat]? = some (.ref rj) := by rw [show ((i : Int) + (k : Int) + 1).toNat = i + k + 1 by omega]; exact htj
  have x2 : jv[((sp : Int) - (k : Int) - 1).toNat]? = some (.ref ca) := by rw [show ((sp : Int) - (k : Int) - 1).toNat = sp - k - 1 by omega]; exact hjc
  have x3 : wv[((i : Int) + (k : Int) + 1).toNat]? = some (.int (wI b) t5) := by rw [show ((i : Int) + (k : Int) + 1).toNat = i + k + 1 by omega]; exact hww
  k_steps
  rw [← e4] at F
  refine iter_listTurns (n := kc) (lo := W.listOf rv.toArray kc) rfl F N (.tail _ hca) rfl rfl ?_
  intro I hI
  have hfI : @LT.lt Nat _ fd I := hI _ (.head _)
  refine itemsRest_of2 (fun vs' m1 news => ∃ (rs' fs' : List Int) (fv' : List Value) (kf' : Nat), IntsAre vs' rs' ∧ news = (fd, W.listOf fv'.toArray kf') :: R ∧ IntsAre fv' fs' ∧ fs'.length + rs'.length ≤ 20000 ∧ insR (wI b) l rs' fs' = insR (wI b) l rs fs ∧ (∀ z, z ≠ Str.ofString "right" → z ≠ Str.ofString "value" → m1 z = m z)) ?z ?s rv m _ ⟨rs, fs, fv, kf, hri, rfl, hfi, hfl, rfl, fun _ _ _ => rfl⟩
  case z =>
    rintro m1 news ⟨rs', fs', fv', kf', hi1, rfl, hi2, hl2, he, em⟩ h tk F9 N9
    cases hi1
    exact ret _ _ _ _ _ F9 em N9 (by rw [← he]; exact hi2)
  case s =>
    rintro v r m1 news ⟨rs', fs', fv', kf', hi1, rfl, hi2, hl2, he, em⟩ IH
    cases hi1
    rename_i y ty ys hi1
    refine ItemsRest.val (fun h tk F9 => AllObj.cons (fun oI hoI => AllObj.nil (fun N9 => ?_)))
    simp only [List.cons_append, List.nil_append] at N9
    have f1 := (em "i" (by decide) (by decide)).trans hm1
    have f2 := (em "k" (by decide) (by decide)).trans hm2
    have f3 := (em "left" (by decide) (by decide)).trans hm4
    have f4 := (em "ways" (by decide) (by decide)).trans hm6
    have f5 := (em "found" (by decide) (by decide)).trans hm7
    have e5 := setB5 f1 f2 f3 f4 f5
    rw [e5] at F9
    have N9 := newsSw2 N9
    have hoff2 : OwnOff ((I, oI) :: R) [fd] := by
      intro p hp c hc
      rw [List.mem_singleton.mp hc]
      rcases List.mem_cons.mp hp with rfl | hp
      · exact Nat.ne_of_gt hfI
      · exact hoff p hp fd (.head _)
    have hfl9 : fv'.length ≤ 20000 := by have z : fv'.length = fs'.length := hi2.length; omega
    clear F N hoff hfi
    k_steps
    · unfold StopB
      refine wpAny_execs_nil ?_
      dsimp only
      refine wpAny_execs_nil ?_
      dsimp only [UnrPostW]
      rename Fr h₀ _ _ _ => kF; rename News h₀ _ _ _ => kN
      rename (List.any _ _ = true) => hb
      refine ⟨_, _, _, (fd, W.listOf fv'.toArray kf') :: R, rfl, kF, newsSw2 kN, ?_, ⟨.tail _ hca, trivial⟩, IH _ _ ⟨ys, fs', _, _, hi1, rfl, hi2, ?_, ?_, ?_⟩⟩
      · intro p hp q hq
        rw [List.mem_singleton.mp hq]
        rcases List.mem_cons.mp hp with rfl | hp
        · exact Nat.ne_of_lt hfI
        · exact Nat.ne_of_lt (hI p (.tail _ hp))
      · rw [List.length_cons] at hl2; omega
      · rw [← he]
        show _ = insR (wI b) l ys (ins fs' (l + wI b * y))
        unfold ins
        rw [if_pos hb]
      · intro z hz1 hz2
        rw [if_neg hz2, if_neg hz1]
        exact (congrFun e5 z).symm.trans (em z hz1 hz2)
    · unfold StopB
      refine wpAny_execs_nil ?_
      dsimp only
      refine wpAny_execs_nil ?_
      dsimp only [UnrPostW]
      rename Fr h₀ _ _ _ => kF; rename News h₀ _ _ _ => kN
      rename (List.any _ _ = false) => hb
      refine ⟨_, _, _, (fd, W.listOf (fv' ++ [Value.int (l + wI b * y) _]).toArray _) :: R, rfl, kF, newsSw2 (by rw [← pushL]; exact kN), ?_, ⟨.tail _ hca, trivial⟩, IH _ _ ⟨ys, fs' ++ [l + wI b * y], _, _, hi1, rfl, hi2.append (.cons _ _ .nil), ?_, ?_, ?_⟩⟩
      · intro p hp q hq
        rw [List.mem_singleton.mp hq]
        rcases List.mem_cons.mp hp with rfl | hp
        · exact Nat.ne_of_lt hfI
        · exact Nat.ne_of_lt (hI p (.tail _ hp))
      · rw [List.length_append, List.length_singleton]; rw [List.length_cons] at hl2; omega
      · rw [← he]
        show _ = insR (wI b) l ys (ins fs' (l + wI b * y))
        unfold ins
        rw [if_neg (by rw [hb]; decide)]
      · intro z hz1 hz2
        rw [if_neg hz2, if_neg hz1]
        exact (congrFun e5 z).symm.trans (em z hz1 hz2)
end Mine

namespace Mine
set_option maxHeartbeats 2000000
theorem setB3 {m1 : Str → Option Value} {x1 x2 x3 : Str} {v1 v2 v3 : Value} (h1 : m1 x1 = some v1) (h2 : m1 x2 = some v2) (h3 : m1 x3 = some v3) : m1 = fun y => if y = x1 then some v1 else if y = x2 then some v2 else if y = x3 then some v3 else m1 y := by
  funext y
  by_cases e1 : y = x1
  · rw [if_pos e1, e1, h1]
  rw [if_neg e1]
  by_cases e2 : y = x2
  · rw [if_pos e2, e2, h2]
  rw [if_neg e2]
  by_cases e3 : y = x3
  · rw [if_pos e3, e3, h3]
  rw [if_neg e3]
theorem offC {R : List (Addr × Obj)} {i : Addr × Obj} {b : Addr} (h : OwnOff R [b]) (hi : i.1 ≠ b) : OwnOff (i :: R) [b] := fun p hp c hc => by
  rw [List.mem_singleton.mp hc]
  rcases List.mem_cons.mp hp with rfl | hp
  · exact hi
  · exact h p hp b (.head _)
theorem keepOff {I : Addr} {oI x : Addr × Obj} {R : List (Addr × Obj)} (hI : ∀ p ∈ x :: R, @LT.lt Nat _ p.1 I) (e : oI.1 = x.1) : ∀ p ∈ oI :: R, ∀ q ∈ [(I, ())], p.1 ≠ q.1 := by
  intro p hp q hq
  rw [List.mem_singleton.mp hq]
  rcases List.mem_cons.mp hp with rfl | hp
  · rw [e]; exact Nat.ne_of_lt (hI x (.head _))
  · exact Nat.ne_of_lt (hI p (.tail _ hp))
local macro_rules | `(tactic| walk_at "subscriptTail") => `(tactic| (k_here; (with_reducible show wpAny _ _ (subscriptTail _ _ (Value.ref _) (Value.int _ _)) _ _ _); k_dflt (refine' itemL ?k1 ?k2 ?k3 ?k4 ?k5 ?_; (case k1 => k_asm); (case k2 => k_mem); (case k3 => omega); (case k4 => omega); (case k5 => assumption))))
noncomputable def StopBb (P : Prop) : Prop := P
theorem StopBb.go {P : Prop} (h : StopBb P) : P := h
local macro_rules | `(tactic| walk_at "execs nil") => `(tactic| refine StopBb.go ?_)
local macro_rules | `(tactic| walk_at "UnrEndW") => `(tactic| refine StopBb.go ?_)
noncomputable def StopFb (P : Prop) : Prop := P
theorem StopFb.go {P : Prop} (h : StopFb P) : P := h
local macro_rules | `(tactic| walk_at "exec For") => `(tactic| refine StopFb.go ?_)
local macro_rules | `(tactic| walk_at "exec For Name") => `(tactic| refine StopFb.go ?_)
local macro_rules | `(tactic| walk_at "exec For Name Subscript") => `(tactic| refine StopFb.go ?_)
local macro_rules | `(tactic| walk_at "exec For Name Name") => `(tactic| refine StopFb.go ?_)
local macro_rules | `(tactic| walk_at "exec For Name Call") => `(tactic| refine StopFb.go ?_)
local macro_rules | `(tactic| walk_at "exec For Name Name cons nil") => `(tactic| refine StopFb.go ?_)
local macro_rules | `(tactic| walk_at "exec For Name Subscript cons nil") => `(tactic| refine StopFb.go ?_)
local macro_rules | `(tactic| walk_at "exec For Name Call cons nil") => `(tactic| refine StopFb.go ?_)
theorem left_code (w : World) (dp un : Nat) (gd : Option (List Code)) (outer : List Env) (A₀ : Around) (base h₀ : Heap) (L : Addr) (m : Str → Option Value) (s : Shared) (p : Program) (loose : List Str) (mean : ExcName → Option Value) (mg mb : Str → Option Value)
    (Rr : Result → Shared → Prop)
    (B : Below A₀ base outer h₀) (F : Fr h₀ L s.heap m) (X : (wPart w.params).In h₀) (T : Top p loose mean mg mb h₀)
    (hcd : CodeHd base 123 119) (hd : dp + 80 < 1000) (hu : un + 900 < 9900)
  {E : Value → Shared → Prop} {Q : Flow → Shared → Prop} (hE : PassesOwn (model P1 w) (ktrTop dp un gd "_law_by_brackets" brS L 134 (.ref 133) [] outer) (envX "_law_by_brackets" brS L 134 (.ref 133) []) E) (R : List (Addr × Obj)) {fd tb wy ri rj ca cb : Addr} {fv tv iv jv lv rv wv : List Value} {fs ls rs : List Int} {kf kt ki kj kc kb kw : Nat} {i k sp : Nat} {b : Bool} {t1 t2 t3 t5 : Tok}
  (N : News h₀ L s.heap ((fd, W.listOf fv.toArray kf) :: R)) (hoff : OwnOff R [fd]) (hfi : IntsAre fv fs) (hfl : fs.length + ls.length * rs.length ≤ 20000) (hir : i < 100) (hkr : k < 100) (hks : k + 1 ≤ sp) (hsr : sp < 100)
  (htb : (tb, W.listOf tv.toArray kt) ∈ R) (hti : tv[i]? = some (.ref ri)) (hri : (ri, W.listOf iv.toArray ki) ∈ R) (hic : iv[k]? = some (.ref cb)) (hcb : (cb, W.listOf lv.toArray kb) ∈ R) (hli : IntsAre lv ls)
  (htj : tv[i + k + 1]? = some (.ref rj)) (hrj : (rj, W.listOf jv.toArray kj) ∈ R) (hjc : jv[sp - k - 1]? = some (.ref ca)) (hca : (ca, W.listOf rv.toArray kc) ∈ R) (hrI : IntsAre rv rs)
  (hwy : (wy, W.listOf wv.toArray kw) ∈ R) (hww : wv[i + k + 1]? = some (.int (wI b) t5))
  (hm1 : m "i" = some (.int (i : Nat) t1)) (hm2 : m "k" = some (.int (k : Nat) t2)) (hm3 : m "span" = some (.int (sp : Nat) t3)) (hm5 : m "table" = some (.ref tb)) (hm6 : m "ways" = some (.ref wy)) (hm7 : m "found" = some (.ref fd))
  (ret : ∀ h' tk' m' fv' kf', Fr h₀ L h' m' → (∀ z, z ≠ Str.ofString "right" → z ≠ Str.ofString "value" → z ≠ Str.ofString "left" → m' z = m z) → News h₀ L h' ((fd, W.listOf fv'.toArray kf') :: R) → IntsAre fv' (insL (wI b) ls rs fs) → Q .next { s with heap := h', toks := tk' }) :
    wpAny (model P1 w) (ktrTop dp un gd "_law_by_brackets" brS L 134 (.ref 133) [] outer) (exec brL (envX "_law_by_brackets" brS L 134 (.ref 133) [])) Q E s := by
  dsimp only [brL, brL0, brS, brS0]
  have e4 := setB3 hm1 hm2 hm5
  rw [e4] at F
  refine For_turns (hE := hE) F ?_
  have x1 : tv[((i : Int)).toNat]? = some (.ref ri) := hti
  have x2 : iv[((k : Int)).toNat]? = some (.ref cb) := hic
  k_steps
  rw [← e4] at F
  refine iter_listTurns (n := kb) (lo := W.listOf lv.toArray kb) rfl F N (.tail _ hcb) rfl rfl ?_
  intro I hI
  have hfI : @LT.lt Nat _ fd I := hI _ (.head _)
  refine itemsRest_of2 (fun vs' m1 news => ∃ (ls' fs' : List Int) (fv' : List Value) (kf' : Nat), IntsAre vs' ls' ∧ news = (fd, W.listOf fv'.toArray kf') :: R ∧ IntsAre fv' fs' ∧ fs'.length + ls'.length * rs.length ≤ 20000 ∧ insL (wI b) ls' rs fs' = insL (wI b) ls rs fs ∧ (∀ z, z ≠ Str.ofString "right" → z ≠ Str.ofString "value" → z ≠ Str.ofString "left" → m1 z = m z)) ?z ?s lv m _ ⟨ls, fs, fv, kf, hli, rfl, hfi, hfl, rfl, fun _ _ _ _ => rfl⟩
  case z =>
    rintro m1 news ⟨ls', fs', fv', kf', hi1, rfl, hi2, hl2, he, em⟩ h tk F9 N9
    cases hi1
    exact ret _ _ _ _ _ F9 em N9 (by rw [← he]; exact hi2)
  case s =>
    rintro v r m1 news ⟨ls', fs', fv', kf', hi1, rfl, hi2, hl2, he, em⟩ IH
    cases hi1
    rename_i y ty ys hi1
    refine ItemsRest.val (fun h tk F9 => AllObj.cons (fun oI hoI => AllObj.nil (fun N9 => ?_)))
    simp only [List.cons_append, List.nil_append] at N9
    have N9 := newsSw2 N9
    have hoff2 : OwnOff ((I, oI) :: R) [fd] := offC hoff (Nat.ne_of_gt hfI)
    rw [List.length_cons, Nat.add_mul, Nat.one_mul] at hl2
    have g1 : m1 "i" = some (.int (i : Nat) t1) := (em "i" (by decide) (by decide) (by decide)).trans hm1
    have g2 : m1 "k" = some (.int (k : Nat) t2) := (em "k" (by decide) (by decide) (by decide)).trans hm2
    have g3 : m1 "span" = some (.int (sp : Nat) t3) := (em "span" (by decide) (by decide) (by decide)).trans hm3
    have g5 : m1 "table" = some (.ref tb) := (em "table" (by decide) (by decide) (by decide)).trans hm5
    have g6 : m1 "ways" = some (.ref wy) := (em "ways" (by decide) (by decide) (by decide)).trans hm6
    have g7 : m1 "found" = some (.ref fd) := (em "found" (by decide) (by decide) (by decide)).trans hm7
    clear F N hoff hfi
    k_steps
    unfold StopFb
    rename Fr h₀ _ _ _ => kF; rename News h₀ _ _ _ => kN
    refine right_code w dp un gd outer A₀ base h₀ L _ _ p loose mean mg mb Rr B kF X T hcd (by omega) (by omega) (by passes_own) ((I, oI) :: R) kN hoff2 hi2 (by omega) hir hkr hks hsr (.tail _ htb) htj (.tail _ hrj) hjc (.tail _ hca) hrI (.tail _ hwy) hww (by exact g1) (by exact g2) (by exact g3) rfl (by exact g5) (by exact g6) (by exact g7) ?_
    intro h5 tk5 m5 fv5 kf5 F5 e5 N5 hi5
    dsimp only
    refine wpAny_execs_nil ?_
    dsimp only [UnrPostW]
    refine ⟨_, _, _, (fd, W.listOf fv5.toArray kf5) :: R, rfl, F5, newsSw2 N5, ?_, ⟨.tail _ hcb, trivial⟩, IH _ _ ⟨ys, _, _, _, hi1, rfl, hi5, ?_, ?_, ?_⟩⟩
    · intro p hp q hq
      rw [List.mem_singleton.mp hq]
      rcases List.mem_cons.mp hp with rfl | hp
      · exact Nat.ne_of_lt hfI
      · exact Nat.ne_of_lt (hI p (.tail _ hp))
    · have z := insR_len (wI b) y rs fs'
      omega
    · rw [← he]; rfl
    · intro z hz1 hz2 hz3
      rw [e5 z hz1 hz2, if_neg hz3]
      exact em z hz1 hz2 hz3
end Mine

namespace Mine
set_option maxHeartbeats 2000000
theorem setB1 {m1 : Str → Option Value} {x1 : Str} {v1 : Value} (h1 : m1 x1 = some v1) : m1 = fun y => if y = x1 then some v1 else m1 y := by
  funext y
  by_cases e1 : y = x1
  · rw [if_pos e1, e1, h1]
  rw [if_neg e1]
noncomputable def StopBc (P : Prop) : Prop := P
theorem StopBc.go {P : Prop} (h : StopBc P) : P := h
local macro_rules | `(tactic| walk_at "execs nil") => `(tactic| refine StopBc.go ?_)
local macro_rules | `(tactic| walk_at "UnrEndW") => `(tactic| refine StopBc.go ?_)
noncomputable def StopFc (P : Prop) : Prop := P
theorem StopFc.go {P : Prop} (h : StopFc P) : P := h
local macro_rules | `(tactic| walk_at "exec For") => `(tactic| refine StopFc.go ?_)
local macro_rules | `(tactic| walk_at "exec For Name") => `(tactic| refine StopFc.go ?_)
local macro_rules | `(tactic| walk_at "exec For Name Subscript") => `(tactic| refine StopFc.go ?_)
local macro_rules | `(tactic| walk_at "exec For Name Name") => `(tactic| refine StopFc.go ?_)
local macro_rules | `(tactic| walk_at "exec For Name Call") => `(tactic| refine StopFc.go ?_)
local macro_rules | `(tactic| walk_at "exec For Name Name cons nil") => `(tactic| refine StopFc.go ?_)
local macro_rules | `(tactic| walk_at "exec For Name Subscript cons nil") => `(tactic| refine StopFc.go ?_)
local macro_rules | `(tactic| walk_at "exec For Name Call cons nil") => `(tactic| refine StopFc.go ?_)
theorem k_code (w : World) (dp un : Nat) (gd : Option (List Code)) (outer : List Env) (A₀ : Around) (base h₀ : Heap) (L : Addr) (m : Str → Option Value) (s : Shared) (p : Program) (loose : List Str) (mean : ExcName → Option Value) (mg mb : Str → Option Value)
    (Rr : Result → Shared → Prop)
    (B : Below A₀ base outer h₀) (F : Fr h₀ L s.heap m) (X : (wPart w.params).In h₀) (T : Top p loose mean mg mb h₀)
    (hcd : CodeHd base 123 119) (hd : dp + 80 < 1000) (hu : un + 900 < 9900)
  {E : Value → Shared → Prop} {Q : Flow → Shared → Prop} (hE : PassesOwn (model P1 w) (ktrTop dp un gd "_law_by_brackets" brS L 134 (.ref 133) [] outer) (envX "_law_by_brackets" brS L 134 (.ref 133) []) E) (R : List (Addr × Obj)) {fd tb wy : Addr} {tv wv : List Value} {kf kt kw : Nat} {i sp n : Nat} {ns : Nat → Int} {wb : Nat → Bool} {t1 t3 : Tok}
  (N : News h₀ L s.heap ((fd, W.listOf #[] kf) :: R)) (hoff : OwnOff R [fd]) (hn : n ≤ 6) (hin : i + sp < n)
  (htb : (tb, W.listOf tv.toArray kt) ∈ R) (hwy : (wy, W.listOf wv.toArray kw) ∈ R) (hC : ∀ j c, j + c < n → c < sp → ∃ (rj : Addr) (jv : List Value) (kj : Nat) (ca : Addr) (lv : List Value) (kc : Nat), tv[j]? = some (.ref rj) ∧ (rj, W.listOf jv.toArray kj) ∈ R ∧ jv[c]? = some (.ref ca) ∧ (ca, W.listOf lv.toArray kc) ∈ R ∧ IntsAre lv (cell ns (fun i => wI (wb i)) c j))
  (hW : ∀ j, 1 ≤ j → j < n → ∃ t, wv[j]? = some (.int (wI (wb j)) t))
  (hm1 : m "i" = some (.int (i : Nat) t1)) (hm3 : m "span" = some (.int (sp : Nat) t3)) (hm5 : m "table" = some (.ref tb)) (hm6 : m "ways" = some (.ref wy)) (hm7 : m "found" = some (.ref fd))
  (ret : ∀ h' tk' m' fv' kf', Fr h₀ L h' m' → (∀ z, z ≠ Str.ofString "right" → z ≠ Str.ofString "value" → z ≠ Str.ofString "left" → z ≠ Str.ofString "k" → m' z = m z) → News h₀ L h' ((fd, W.listOf fv'.toArray kf') :: R) → IntsAre fv' (foundK ns (fun i => wI (wb i)) sp i sp) → Q .next { s with heap := h', toks := tk' }) :
    wpAny (model P1 w) (ktrTop dp un gd "_law_by_brackets" brS L 134 (.ref 133) [] outer) (exec brK (envX "_law_by_brackets" brS L 134 (.ref 133) [])) Q E s := by
  dsimp only [brK, brK0, brS, brS0]
  have e1 := setB1 hm3
  rw [e1] at F
  refine For_turns (hE := hE) F ?_
  k_steps
  rename Fr h₀ _ _ _ => kF; rename News h₀ _ _ _ => kN
  rename (Heap.get? _ _ = some { cls := Value.type "range", dict := _, data := _, slots := _ }) => hr
  rw [← e1] at kF
  have z := rngSmall (a := 0) (b := (sp : Int)) (by omega) (by omega) (by omega)
  rw [show ((sp : Int) - 0).toNat = sp by omega] at z
  refine iter_rangeTurns rfl kF kN hr z.1 z.2 ?_
  intro I hI
  have hfI : @LT.lt Nat _ fd I := hI _ (.head _)
  have hoff2 : ∀ oI, OwnOff ((I, oI) :: R) [fd] := fun oI => offC hoff (Nat.ne_of_gt hfI)
  clear kF kN hr hoff
  refine rngRest 0 sp (fun k m1 news => ∃ (fv' : List Value) (kf' : Nat), news = (fd, W.listOf fv'.toArray kf') :: R ∧ IntsAre fv' (foundK ns (fun i => wI (wb i)) sp i k) ∧ (∀ z, z ≠ Str.ofString "right" → z ≠ Str.ofString "value" → z ≠ Str.ofString "left" → z ≠ Str.ofString "k" → m1 z = m z)) ?z ?s m _ ⟨[], kf, rfl, .nil, fun _ _ _ _ _ => rfl⟩
  case z =>
    rintro m1 news ⟨fv', kf', rfl, hi2, em⟩ h tk F9 N9
    exact ret _ _ _ _ _ F9 em N9 hi2
  case s =>
    rintro k m1 news hk ⟨fv', kf', rfl, hi2, em⟩ r IH
    refine ItemsRest.tok (fun t h tk F9 => AllObj.cons (fun oI hoI => AllObj.nil (fun N9 => ?_)))
    simp only [List.cons_append, List.nil_append] at N9
    have N9 := newsSw2 N9
    rw [Int.zero_add]
    have g1 : m1 "i" = some (.int (i : Nat) t1) := (em "i" (by decide) (by decide) (by decide) (by decide)).trans hm1
    have g3 : m1 "span" = some (.int (sp : Nat) t3) := (em "span" (by decide) (by decide) (by decide) (by decide)).trans hm3
    have g5 : m1 "table" = some (.ref tb) := (em "table" (by decide) (by decide) (by decide) (by decide)).trans hm5
    have g6 : m1 "ways" = some (.ref wy) := (em "ways" (by decide) (by decide) (by decide) (by decide)).trans hm6
    have g7 : m1 "found" = some (.ref fd) := (em "found" (by decide) (by decide) (by decide) (by decide)).trans hm7
    k_steps
    unfold StopFc
    rename Fr h₀ _ _ _ => kF; rename News h₀ _ _ _ => kN
    obtain ⟨ri, iv, ki, cb, lv, kb, a1, a2, a3, a4, a5⟩ := hC i k (by omega) hk
    obtain ⟨rj, jv, kj, ca, rv, kc, b1, b2, b3, b4, b5⟩ := hC (i + k + 1) (sp - k - 1) (by omega) (by omega)
    obtain ⟨t5, w5⟩ := hW (i + k + 1) (by omega) (by omega)
    have l1 := foundK_len ns (fun i => wI (wb i)) (s := sp) (i := i) (by omega) k (by omega)
    have l2 := Nat.mul_le_mul (cell_len ns (fun i => wI (wb i)) (show k ≤ 5 by omega) i) (cell_len ns (fun i => wI (wb i)) (show sp - k - 1 ≤ 5 by omega) (i + k + 1))
    refine left_code w dp un gd outer A₀ base h₀ L _ _ p loose mean mg mb Rr B kF X T hcd (by omega) (by omega) (by passes_own) ((I, oI) :: R) kN (hoff2 oI) hi2 ?_ (by omega) (by omega) (by omega) (by omega) (.tail _ htb) a1 (.tail _ a2) a3 (.tail _ a4) a5 b1 (.tail _ b2) b3 (.tail _ b4) b5 (.tail _ hwy) w5 (by exact g1) rfl (by exact g3) (by exact g5) (by exact g6) (by exact g7) ?_
    · omega
    intro h5 tk5 m5 fv5 kf5 F5 e5 N5 hi5
    dsimp only
    refine wpAny_execs_nil ?_
    dsimp only [UnrPostW]
    refine ⟨_, _, _, (fd, W.listOf fv5.toArray kf5) :: R, rfl, F5, newsSw2 N5, ?_, trivial, IH _ _ ⟨_, _, rfl, hi5, ?_⟩⟩
    · intro p hp q hq
      rw [List.mem_singleton.mp hq]
      rcases List.mem_cons.mp hp with rfl | hp
      · exact Nat.ne_of_lt hfI
      · exact Nat.ne_of_lt (hI p (.tail _ hp))
    · intro z hz1 hz2 hz3 hz4
      rw [e5 z hz1 hz2 hz3, if_neg hz4]
      exact em z hz1 hz2 hz3 hz4
end Mine

namespace Mine
set_option maxHeartbeats 2000000
theorem setB2 {m1 : Str → Option Value} {x1 x2 : Str} {v1 v2 : Value} (h1 : m1 x1 = some v1) (h2 : m1 x2 = some v2) : m1 = fun y => if y = x1 then some v1 else if y = x2 then some v2 else m1 y := by
  funext y
  by_cases e1 : y = x1
  · rw [if_pos e1, e1, h1]
  rw [if_neg e1]
  by_cases e2 : y = x2
  · rw [if_pos e2, e2, h2]
  rw [if_neg e2]
noncomputable def dropA (a : Addr) (l : List (Addr × Obj)) : List (Addr × Obj) := l.filter fun p => !(Nat.beq p.1 a)
theorem dropA_mem {a : Addr} {l : List (Addr × Obj)} {p : Addr × Obj} : p ∈ dropA a l ↔ p ∈ l ∧ @Ne Nat p.1 a := by
  unfold dropA
  rw [List.mem_filter]
  refine and_congr_right fun _ => ?_
  rw [Bool.not_eq_true']
  constructor
  · intro h e
    rw [e] at h
    have z : Nat.beq a a = true := Nat.beq_refl a
    rw [z] at h
    cases h
  · intro h
    cases e : Nat.beq p.1 a with
    | false => rfl
    | true => exact absurd (Nat.eq_of_beq_eq_true e) h
noncomputable def TabInv (ra : Nat → Addr) (n sp i : Nat) (C : Nat → Nat → List Int) (news : List (Addr × Obj)) : Prop :=
  ∃ (iv : Nat → List Value) (kk : Nat → Nat), (∀ j, j < n → (ra j, W.listOf (iv j).toArray (kk j)) ∈ news) ∧ (∀ j, j + sp < n → (iv j).length = if j < i then sp + 1 else sp) ∧
    ∀ j c, j + c < n → (c < sp ∨ (c = sp ∧ j < i)) → ∃ (ca : Addr) (lv : List Value) (kc : Nat), (iv j)[c]? = some (.ref ca) ∧ (∀ j', j' < n → @Ne Nat ca (ra j')) ∧ (ca, W.listOf lv.toArray kc) ∈ news ∧ IntsAre lv (C c j)
theorem TabInv.next {ra : Nat → Addr} {n sp : Nat} {C : Nat → Nat → List Int} {news : List (Addr × Obj)} (h : TabInv ra n sp (n - sp) C news) : TabInv ra n (sp + 1) 0 C news := by
  obtain ⟨iv, kk, h1, h2, h3⟩ := h
  refine ⟨iv, kk, h1, fun j hj => ?_, fun j c hj hc => h3 j c hj ?_⟩
  · rw [if_neg (by omega), h2 j (by omega), if_pos (by omega)]
  · omega
theorem TabInv.turn {ra : Nat → Addr} {n sp i : Nat} {C : Nat → Nat → List Int} {news : List (Addr × Obj)} {iv : Nat → List Value} {kk : Nat → Nat} {fd : Addr} {fv : List Value} {kf k' : Nat} (hin : i + sp < n) (hinj : ∀ j j', j < n → j' < n → j ≠ j' → @Ne Nat (ra j) (ra j'))
    (h1 : ∀ j, j < n → (ra j, W.listOf (iv j).toArray (kk j)) ∈ news) (h2 : ∀ j, j + sp < n → (iv j).length = if j < i then sp + 1 else sp)
    (h3 : ∀ j c, j + c < n → (c < sp ∨ (c = sp ∧ j < i)) → ∃ (ca : Addr) (lv : List Value) (kc : Nat), (iv j)[c]? = some (.ref ca) ∧ (∀ j', j' < n → @Ne Nat ca (ra j')) ∧ (ca, W.listOf lv.toArray kc) ∈ news ∧ IntsAre lv (C c j))
    (hfd : ∀ j, j < n → @Ne Nat fd (ra j)) (hfi : IntsAre fv (C sp i)) : TabInv ra n sp (i + 1) C ((ra i, W.listOf (iv i ++ [Value.ref fd]).toArray k') :: (fd, W.listOf fv.toArray kf) :: dropA (ra i) news) := by
  refine ⟨fun j => if j = i then iv i ++ [Value.ref fd] else iv j, fun j => if j = i then k' else kk j, fun j hj => ?_, fun j hj => ?_, fun j c hj hc => ?_⟩
  · dsimp only
    by_cases e : j = i
    · subst e; rw [if_pos rfl, if_pos rfl]; exact .head _
    · rw [if_neg e, if_neg e]
      exact .tail _ (.tail _ (dropA_mem.mpr ⟨h1 j hj, hinj j i hj (by omega) e⟩))
  · have z := h2 j hj
    dsimp only
    by_cases e : j = i
    · subst e
      rw [if_neg (Nat.lt_irrefl _)] at z
      rw [if_pos rfl, if_pos (Nat.lt_succ_self _), List.length_append, z]; rfl
    · rw [if_neg e, z]
      by_cases e2 : j < i
      · rw [if_pos e2, if_pos (by omega)]
      · rw [if_neg e2, if_neg (by omega)]
  · dsimp only
    by_cases e : j = i
    · subst e
      rw [if_pos rfl]
      have z := h2 j (by omega)
      rw [if_neg (Nat.lt_irrefl _)] at z
      by_cases ec : c = sp
      · subst ec
        refine ⟨fd, fv, kf, ?_, hfd, .tail _ (.head _), hfi⟩
        rw [List.getElem?_append_right (by omega), z, Nat.sub_self]; rfl
      · obtain ⟨ca, lv, kc, b1, b2, b3, b4⟩ := h3 j c hj (by omega)
        refine ⟨ca, lv, kc, ?_, b2, .tail _ (.tail _ (dropA_mem.mpr ⟨b3, b2 j (by omega)⟩)), b4⟩
        rw [List.getElem?_append_left (by omega)]; exact b1
    · rw [if_neg e]
      obtain ⟨ca, lv, kc, b1, b2, b3, b4⟩ := h3 j c hj (by omega)
      exact ⟨ca, lv, kc, b1, b2, .tail _ (.tail _ (dropA_mem.mpr ⟨b3, b2 i (by omega)⟩)), b4⟩
theorem allLt_mem {a : Addr} : ∀ {l : List (Addr × Obj)}, AllLt a l → ∀ p ∈ l, @LT.lt Nat _ p.1 a
  | [], _, _, h => nomatch h
  | _ :: _, h, p, hp => by
    rcases List.mem_cons.mp hp with rfl | hp
    · exact h.1
    · exact allLt_mem h.2 p hp
noncomputable def StopBd (P : Prop) : Prop := P
theorem StopBd.go {P : Prop} (h : StopBd P) : P := h
local macro_rules | `(tactic| walk_at "execs nil") => `(tactic| refine StopBd.go ?_)
local macro_rules | `(tactic| walk_at "UnrEndW") => `(tactic| refine StopBd.go ?_)
noncomputable def StopFd (P : Prop) : Prop := P
theorem StopFd.go {P : Prop} (h : StopFd P) : P := h
local macro_rules | `(tactic| walk_at "exec For") => `(tactic| refine StopFd.go ?_)
local macro_rules | `(tactic| walk_at "exec For Name") => `(tactic| refine StopFd.go ?_)
local macro_rules | `(tactic| walk_at "exec For Name Subscript") => `(tactic| refine StopFd.go ?_)
local macro_rules | `(tactic| walk_at "exec For Name Name") => `(tactic| refine StopFd.go ?_)
local macro_rules | `(tactic| walk_at "exec For Name Call") => `(tactic| refine StopFd.go ?_)
local macro_rules | `(tactic| walk_at "exec For Name Name cons nil") => `(tactic| refine StopFd.go ?_)
local macro_rules | `(tactic| walk_at "exec For Name Subscript cons nil") => `(tactic| refine StopFd.go ?_)
local macro_rules | `(tactic| walk_at "exec For Name Call cons nil") => `(tactic| refine StopFd.go ?_)
local macro_rules | `(tactic| walk_at "subscriptTail") => `(tactic| (k_here; (with_reducible show wpAny _ _ (subscriptTail _ _ (Value.ref _) (Value.int _ _)) _ _ _); k_dflt (refine' itemL ?k1 ?k2 ?k3 ?k4 ?k5 ?_; (case k1 => k_asm); (case k2 => k_mem); (case k3 => omega); (case k4 => omega); (case k5 => assumption))))
theorem lenL {prog : Program} {w : World} {A : Around} {E : Value → Shared → Prop} {s : Shared} {h₀ : Heap} {L l : Addr} {news : List (Addr × Obj)} {vs : List Value} {n : Nat} {Q : Value → Shared → Prop}
    (N : News h₀ L s.heap news) (hm : (l, W.listOf vs.toArray n) ∈ news) (hn : vs.length ≤ 1000000) (h : Q (.int (vs.length : Nat) (s.toks + 1)) { s with toks := s.toks + 1 + 1 }) : wpAny (model prog w) A (call (.builtin "len") [.ref l]) Q E s := by
  have hl : s.heap.IsList l vs.toArray := ⟨_, (N _ hm).1, rfl, _, rfl⟩
  exact len_list hl (by rw [List.size_toArray]; omega) (by rw [List.size_toArray]; exact h)
local macro_rules | `(tactic| walk_at "call builtin:len") => `(tactic| (k_here; (with_reducible show wpAny _ _ (call (Value.builtin "len") [Value.ref _]) _ _ _); k_dflt (refine' lenL ?k1 ?k2 ?k3 ?_; (case k1 => k_asm); (case k2 => k_mem); (case k3 => omega))))
theorem i_code (w : World) (dp un : Nat) (gd : Option (List Code)) (outer : List Env) (A₀ : Around) (base h₀ : Heap) (L : Addr) (m : Str → Option Value) (s : Shared) (p : Program) (loose : List Str) (mean : ExcName → Option Value) (mg mb : Str → Option Value)
    (Rr : Result → Shared → Prop)
    (B : Below A₀ base outer h₀) (F : Fr h₀ L s.heap m) (X : (wPart w.params).In h₀) (T : Top p loose mean mg mb h₀)
    (hcd : CodeHd base 123 119) (hd : dp + 80 < 1000) (hu : un + 900 < 9900)
  {E : Value → Shared → Prop} {Q : Flow → Shared → Prop} (hE : PassesOwn (model P1 w) (ktrTop dp un gd "_law_by_brackets" brS L 134 (.ref 133) [] outer) (envX "_law_by_brackets" brS L 134 (.ref 133) []) E) (Rf news : List (Addr × Obj)) {tb wy nb : Addr} {tv wv nv : List Value} {kt kw kn : Nat} {sp n : Nat} {ra : Nat → Addr} {ns : Nat → Int} {wb : Nat → Bool} {t3 : Tok}
  (N : News h₀ L s.heap news) (hn : n ≤ 6) (hsp : 1 ≤ sp) (hin : sp < n) (hRf : ∀ p ∈ Rf, p ∈ news) (hRa : ∀ p ∈ Rf, ∀ j, j < n → @Ne Nat p.1 (ra j))
  (htb : (tb, W.listOf tv.toArray kt) ∈ Rf) (hwy : (wy, W.listOf wv.toArray kw) ∈ Rf) (hnb : (nb, W.listOf nv.toArray kn) ∈ Rf) (hnl : nv.length = n)
  (hra : ∀ j, j < n → tv[j]? = some (.ref (ra j))) (hinj : ∀ j j', j < n → j' < n → j ≠ j' → @Ne Nat (ra j) (ra j')) (hT : TabInv ra n sp 0 (cell ns (fun i => wI (wb i))) news)
  (hW : ∀ j, 1 ≤ j → j < n → ∃ t, wv[j]? = some (.int (wI (wb j)) t))
  (hm1 : m "numbers" = some (.ref nb)) (hm3 : m "span" = some (.int (sp : Nat) t3)) (hm5 : m "table" = some (.ref tb)) (hm6 : m "ways" = some (.ref wy))
  (ret : ∀ h' tk' m' news', Fr h₀ L h' m' → (∀ z, z ≠ Str.ofString "right" → z ≠ Str.ofString "value" → z ≠ Str.ofString "left" → z ≠ Str.ofString "k" → z ≠ Str.ofString "found" → z ≠ Str.ofString "i" → m' z = m z) → News h₀ L h' news' → (∀ p ∈ Rf, p ∈ news') → TabInv ra n sp (n - sp) (cell ns (fun i => wI (wb i))) news' → Q .next { s with heap := h', toks := tk' }) :
    wpAny (model P1 w) (ktrTop dp un gd "_law_by_brackets" brS L 134 (.ref 133) [] outer) (exec brI (envX "_law_by_brackets" brS L 134 (.ref 133) [])) Q E s := by
  dsimp only [brI, brI0, brS, brS0]
  have e1 := setB2 hm1 hm3
  rw [e1] at F
  have hnb9 := hRf _ hnb
  refine For_turns (hE := hE) F ?_
  k_steps
  rename Fr h₀ _ _ _ => kF; rename News h₀ _ _ _ => kN
  rename (Heap.get? _ _ = some { cls := Value.type "range", dict := _, data := _, slots := _ }) => hr
  rw [← e1] at kF
  have z := rngSmall (a := 0) (b := ((nv.length : Nat) : Int) - (sp : Int)) (by omega) (by omega) (by omega)
  rw [show (((nv.length : Nat) : Int) - (sp : Int) - 0).toNat = n - sp by omega] at z
  refine iter_rangeTurns rfl kF kN hr z.1 z.2 ?_
  intro I hI
  clear kF kN hr
  refine rngRest 0 (n - sp) (fun i m1 news' => (∀ p ∈ news', @Ne Nat p.1 I) ∧ (∀ p ∈ Rf, p ∈ news') ∧ TabInv ra n sp i (cell ns (fun i => wI (wb i))) news' ∧ (∀ z, z ≠ Str.ofString "right" → z ≠ Str.ofString "value" → z ≠ Str.ofString "left" → z ≠ Str.ofString "k" → z ≠ Str.ofString "found" → z ≠ Str.ofString "i" → m1 z = m z)) ?z ?s m _ ⟨fun p hp => Nat.ne_of_lt (hI p hp), hRf, hT, fun _ _ _ _ _ _ _ => rfl⟩
  case z =>
    rintro m1 news' ⟨q1, q2, q3, em⟩ h tk F9 N9
    exact ret _ _ _ _ F9 em N9 q2 q3
  case s =>
    rintro i m1 news' hi ⟨q1, q2, ⟨iv, kk, h1, h2, h3⟩, em⟩ r IH
    refine ItemsRest.tok (fun t h tk F9 => AllObj.cons (fun oI hoI => AllObj.nil (fun N9 => ?_)))
    simp only [List.cons_append, List.nil_append] at N9
    rw [Int.zero_add]
    have g3 : m1 "span" = some (.int (sp : Nat) t3) := (em "span" (by decide) (by decide) (by decide) (by decide) (by decide) (by decide)).trans hm3
    have g5 : m1 "table" = some (.ref tb) := (em "table" (by decide) (by decide) (by decide) (by decide) (by decide) (by decide)).trans hm5
    have g6 : m1 "ways" = some (.ref wy) := (em "ways" (by decide) (by decide) (by decide) (by decide) (by decide) (by decide)).trans hm6
    k_steps
    unfold StopFd
    rename Fr h₀ _ _ _ => kF; rename News h₀ _ _ _ => kN; rename (@LT.lt Nat _ I _ ∧ _) => l1
    rename_i fd _ _
    have l2 := allLt_mem l1.2
    have hoff : OwnOff ((I, oI) :: news') [fd] := by
      intro p hp c hc
      rw [List.mem_singleton.mp hc]
      rcases List.mem_cons.mp hp with rfl | hp
      · exact Nat.ne_of_lt l1.1
      · exact Nat.ne_of_lt (l2 p hp)
    refine k_code (ns := ns) (wb := wb) w dp un gd outer A₀ base h₀ L _ _ p loose mean mg mb Rr B kF X T hcd (by omega) (by omega) (by passes_own) ((I, oI) :: news') kN hoff hn (show i + sp < n by omega) (.tail _ (q2 _ htb)) (.tail _ (q2 _ hwy)) ?_ hW rfl (by exact g3) (by exact g5) (by exact g6) rfl ?_
    · intro j c hj hc
      obtain ⟨ca, lv, kc, b1, b2, b3, b4⟩ := h3 j c hj (.inl hc)
      exact ⟨ra j, iv j, kk j, ca, lv, kc, hra j (by omega), .tail _ (h1 j (by omega)), b1, .tail _ b3, b4⟩
    intro h6 tk6 m6 fv6 kf6 F6 e6 N6 hi6
    have hfd : ∀ j, j < n → @Ne Nat fd (ra j) := fun j hj => Nat.ne_of_gt (l2 _ (h1 j hj))
    have hfi : IntsAre fv6 (cell ns (fun i => wI (wb i)) sp i) := by
      obtain ⟨sq, rfl⟩ : ∃ sq, sp = sq + 1 := ⟨sp - 1, by omega⟩
      rw [cell_succ]; exact hi6
    have N7 : News h₀ L h6 ((ra i, W.listOf (iv i).toArray (kk i)) :: (fd, W.listOf fv6.toArray kf6) :: (I, oI) :: dropA (ra i) news') := fun p hp => N6 p (by
      simp only [List.mem_cons] at hp ⊢
      rcases hp with rfl | rfl | rfl | hp
      · exact .inr (.inr (h1 i (by omega)))
      · exact .inl rfl
      · exact .inr (.inl rfl)
      · exact .inr (.inr (dropA_mem.mp hp).1))
    have hoff7 : OwnOff ((fd, W.listOf fv6.toArray kf6) :: (I, oI) :: dropA (ra i) news') [ra i] := by
      intro p hp c hc
      rw [List.mem_singleton.mp hc]
      simp only [List.mem_cons] at hp
      rcases hp with rfl | rfl | hp
      · exact hfd i (by omega)
      · exact Ne.symm (q1 _ (h1 i (by omega)))
      · exact (dropA_mem.mp hp).2
    have htb9 : (tb, W.listOf tv.toArray kt) ∈ dropA (ra i) news' := dropA_mem.mpr ⟨q2 _ htb, hRa _ htb i (by omega)⟩
    have f1 : m6 "i" = some (.int (i : Nat) t) := (e6 "i" (by decide) (by decide) (by decide) (by decide)).trans rfl
    have f2 : m6 "found" = some (.ref fd) := (e6 "found" (by decide) (by decide) (by decide) (by decide)).trans rfl
    have f3 : m6 "table" = some (.ref tb) := (e6 "table" (by decide) (by decide) (by decide) (by decide)).trans g5
    have e9 := setB3 f1 f2 f3
    rw [e9] at F6
    have x1 : tv[((i : Nat) : Int).toNat]? = some (.ref (ra i)) := hra i (by omega)
    have hvl : (iv i).length ≤ 100 := by have z := h2 i (by omega); split at z <;> omega
    have hRI : ∀ j, j < n → @Ne Nat (ra j) I := fun j hj => q1 _ (h1 j hj)
    clear kF kN N6 hoff
    dsimp only
    k_steps
    unfold StopBd
    refine wpAny_execs_nil ?_
    dsimp only [UnrPostW]
    rename Fr h₀ _ _ _ => kF; rename News h₀ _ _ _ => kN
    refine ⟨_, _, _, (ra i, W.listOf (iv i ++ [Value.ref fd]).toArray (kk i + 1)) :: (fd, W.listOf fv6.toArray kf6) :: dropA (ra i) news', rfl, kF, ?_, ?_, trivial, IH _ _ ?_⟩
    · intro p hp
      refine kN p ?_
      rw [pushL]
      simp only [List.cons_append, List.nil_append, List.mem_cons] at hp ⊢
      rcases hp with h | h | h | h <;> simp only [h, true_or, or_true]
    · intro p hp q hq
      rw [List.mem_singleton.mp hq]
      simp only [List.mem_cons] at hp
      rcases hp with rfl | rfl | hp
      · exact hRI i (by omega)
      · exact Nat.ne_of_gt l1.1
      · exact q1 p (dropA_mem.mp hp).1
    · refine ⟨?_, ?_, TabInv.turn (by omega) hinj h1 h2 h3 hfd hfi, ?_⟩
      · intro p hp
        simp only [List.mem_cons] at hp
        rcases hp with rfl | rfl | hp
        · exact hRI i (by omega)
        · exact Nat.ne_of_gt l1.1
        · exact q1 p (dropA_mem.mp hp).1
      · exact fun p hp => .tail _ (.tail _ (dropA_mem.mpr ⟨q2 p hp, hRa p hp i (by omega)⟩))
      · intro z z1 z2 z3 z4 z5 z6
        have q := (congrFun e9 z).symm.trans (e6 z z1 z2 z3 z4)
        refine q.trans ?_
        rw [if_neg z5, if_neg z6]
        exact em z z1 z2 z3 z4 z5 z6
end Mine

namespace Mine
set_option maxHeartbeats 2000000
noncomputable def StopX (P : Prop) : Prop := P
theorem StopX.go {P : Prop} (h : StopX P) : P := h
local macro_rules | `(tactic| walk_at "Exists") => `(tactic| refine StopX.go ?_)
theorem intsGet2 {v : Value} : ∀ (vs : List Value) (ns : List Int) (i : Nat), IntsAre vs ns → vs[i]? = some v → ∃ n t, ns[i]? = some n ∧ v = .int n t := by
  intro vs ns i h
  induction h generalizing i with
  | nil => intro hv; simp at hv
  | cons n t h ih =>
    intro hv
    cases i with
    | zero => simp at hv; exact ⟨n, t, rfl, hv.symm⟩
    | succ i => exact ih i (by simpa using hv)
noncomputable def RowsIn (ra : Nat → Addr) (ns : Nat → Int) (i : Nat) (ys : List Value) (R news : List (Addr × Obj)) : Prop :=
  ys.length = i ∧ (∀ j, j < i → ∃ (ca : Addr) (t : Tok) (kr kc : Nat), ys[j]? = some (.ref (ra j)) ∧ (ra j, W.listOf [Value.ref ca].toArray kr) ∈ news ∧ (ca, W.listOf [Value.int (ns j) t].toArray kc) ∈ news ∧ ∀ j', j' < i → @Ne Nat ca (ra j')) ∧
    (∀ j j', j < i → j' < i → j ≠ j' → @Ne Nat (ra j) (ra j')) ∧ (∀ p ∈ R, p ∈ news) ∧ ∀ p ∈ R, ∀ j, j < i → @Ne Nat p.1 (ra j)
theorem RowsIn.snoc {ra : Nat → Addr} {ns : Nat → Int} {i : Nat} {ys : List Value} {R news : List (Addr × Obj)} {a1 a2 : Addr} {t : Tok} {k1 k2 : Nat} (h : RowsIn ra ns i ys R news) (l1 : ∀ p ∈ news, @LT.lt Nat _ p.1 a1) (l2 : ∀ p ∈ news, @LT.lt Nat _ p.1 a2) (l3 : @Ne Nat a1 a2) :
    RowsIn (fun j => if j = i then a2 else ra j) ns (i + 1) (ys ++ [Value.ref a2]) R ((a2, W.listOf [Value.ref a1].toArray k2) :: (a1, W.listOf [Value.int (ns i) t].toArray k1) :: news) := by
  obtain ⟨h1, h2, h3, h4, h5⟩ := h
  have lr : ∀ j, j < i → @LT.lt Nat _ (ra j) a1 ∧ @LT.lt Nat _ (ra j) a2 := fun j hj => by
    obtain ⟨ca, t, kr, kc, b1, b2, b3, b4⟩ := h2 j hj
    exact ⟨l1 _ b2, l2 _ b2⟩
  refine ⟨by rw [List.length_append, h1]; rfl, fun j hj => ?_, fun j j' hj hj' hne => ?_, fun p hp => .tail _ (.tail _ (h4 p hp)), fun p hp j hj => ?_⟩
  · dsimp only
    by_cases e : j = i
    · subst e
      refine ⟨a1, t, k2, k1, ?_, ?_, .tail _ (.head _), fun j' hj' => ?_⟩
      · rw [if_pos rfl, List.getElem?_append_right (by omega), h1, Nat.sub_self]; rfl
      · rw [if_pos rfl]; exact .head _
      · by_cases e' : j' = j
        · rw [if_pos e']; exact l3
        · rw [if_neg e']; exact Nat.ne_of_gt (lr j' (by omega)).1
    · obtain ⟨ca, t', kr, kc, b1, b2, b3, b4⟩ := h2 j (by omega)
      refine ⟨ca, t', kr, kc, ?_, ?_, .tail _ (.tail _ b3), fun j' hj' => ?_⟩
      · rw [if_neg e, List.getElem?_append_left (by omega)]; exact b1
      · rw [if_neg e]; exact .tail _ (.tail _ b2)
      · by_cases e' : j' = i
        · rw [if_pos e']; exact Nat.ne_of_lt (l2 _ b3)
        · rw [if_neg e']; exact b4 j' (by omega)
  · dsimp only
    by_cases e : j = i
    · rw [if_pos e, if_neg (by omega)]
      exact Nat.ne_of_gt (lr j' (by omega)).2
    · rw [if_neg e]
      by_cases e' : j' = i
      · rw [if_pos e']; exact Nat.ne_of_lt (lr j (by omega)).2
      · rw [if_neg e']; exact h3 j j' (by omega) (by omega) hne
  · dsimp only
    by_cases e : j = i
    · rw [if_pos e]; exact Nat.ne_of_lt (l2 _ (h4 p hp))
    · rw [if_neg e]; exact h5 p hp j (by omega)
theorem off1Mem {D : Addr} : ∀ {l : List (Addr × Obj)}, LCg.Off1 D l → ∀ p ∈ l, @Ne Nat p.1 D
  | [], _, _, h => nomatch h
  | _ :: _, h, p, hp => by
    rcases List.mem_cons.mp hp with rfl | hp
    · exact h.1
    · exact off1Mem h.2 p hp
theorem newsRow {h₀ h : Heap} {L : Addr} {a b i c d : Addr × Obj} {R : List (Addr × Obj)} (N : News h₀ L h (a :: b :: i :: c :: d :: R)) : News h₀ L h (i :: c :: d :: a :: b :: R) := fun p hp => N p (by
  simp only [List.mem_cons] at hp ⊢
  rcases hp with h | h | h | h | h | h <;> simp only [h, true_or, or_true])
theorem RowsIn.tab {ra : Nat → Addr} {ns ws : Nat → Int} {n : Nat} {ys : List Value} {R news : List (Addr × Obj)} (h : RowsIn ra ns n ys R news) : TabInv ra n 1 0 (cell ns ws) news := by
  obtain ⟨h1, h2, h3, h4, h5⟩ := h
  have q : ∀ j, ∃ (ca : Addr) (kr : Nat), j < n → (ra j, W.listOf [Value.ref ca].toArray kr) ∈ news ∧ (∀ j', j' < n → @Ne Nat ca (ra j')) ∧ ∃ t kc, (ca, W.listOf [Value.int (ns j) t].toArray kc) ∈ news := by
    intro j
    by_cases hj : j < n
    · obtain ⟨ca, t, kr, kc, b1, b2, b3, b4⟩ := h2 j hj
      exact ⟨ca, kr, fun _ => ⟨b2, b4, t, kc, b3⟩⟩
    · exact ⟨0, 0, fun h => absurd h hj⟩
  refine ⟨fun j => [Value.ref (q j).choose], fun j => (q j).choose_spec.choose, fun j hj => ((q j).choose_spec.choose_spec hj).1, fun j hj => rfl, fun j c hj hc => ?_⟩
  have e : c = 0 := by omega
  subst e
  obtain ⟨b1, b2, t, kc, b3⟩ := (q j).choose_spec.choose_spec (by omega)
  exact ⟨_, _, kc, rfl, b2, b3, .cons _ _ .nil⟩
theorem table_code (w : World) (dp un : Nat) (gd : Option (List Code)) (outer : List Env) (A₀ : Around) (base h₀ : Heap) (L : Addr) (m : Str → Option Value) (s : Shared) (p : Program) (loose : List Str) (mean : ExcName → Option Value) (mg mb : Str → Option Value)
    (Rr : Result → Shared → Prop)
    (B : Below A₀ base outer h₀) (F : Fr h₀ L s.heap m) (X : (wPart w.params).In h₀) (T : Top p loose mean mg mb h₀)
    (hcd : CodeHd base 123 119) (hd : dp + 80 < 1000) (hu : un + 900 < 9900)
  {E : Value → Shared → Prop} {Q : Flow → Shared → Prop} (R : List (Addr × Obj)) {nb : Addr} {nv : List Value} {xs : List Int} {kn n : Nat} {ns ws : Nat → Int}
  (N : News h₀ L s.heap R) (hnb : (nb, W.listOf nv.toArray kn) ∈ R) (hni : IntsAre nv xs) (hxl : xs.length = n) (hn : n ≤ 6) (hns : ∀ j x, xs[j]? = some x → ns j = x) (hm1 : m "numbers" = some (.ref nb))
  (ret : ∀ h' tk' D tv ra news', Fr h₀ L h' (fun z => if z = Str.ofString "table" then some (.ref D) else m z) → News h₀ L h' ((D, LCg.lst tv) :: news') → (∀ j, j < n → tv[j]? = some (.ref (ra j))) → (∀ j j', j < n → j' < n → j ≠ j' → @Ne Nat (ra j) (ra j')) → TabInv ra n 1 0 (cell ns ws) news' → (∀ p ∈ R, p ∈ news') → (∀ p ∈ R, ∀ j, j < n → @Ne Nat p.1 (ra j)) → (∀ j, j < n → @Ne Nat D (ra j)) → Q .next { s with heap := h', toks := tk' }) :
    wpAny (model P1 w) (ktrTop dp un gd "_law_by_brackets" brS L 134 (.ref 133) [] outer) (exec brT (envX "_law_by_brackets" brS L 134 (.ref 133) [])) Q E s := by
  dsimp only [brT, brT0, brS, brS0]
  refine LCg.Assign_ListComp_U F rfl rfl rfl (by decide +kernel) rfl (by decide +kernel) rfl rfl rfl ?_
  refine nameX_L F hm1 ?_
  have hvl : nv.length = xs.length := hni.length
  refine LCg.CompSrc.ledger (k := kn) rfl F N hnb ?_ fun g => ?_
  · rw [List.size_toArray, hvl, hxl]; exact Nat.le_trans hn (Nat.le_of_ble_eq_true rfl)
  refine compInv nv.toArray.size (fun i ys news => ∃ ra, RowsIn ra ns i ys R news) ?fin ?step _ 0 [] _ (by omega) ⟨fun _ => 0, rfl, fun j h => absurd h (by omega), fun j _ h => absurd h (by omega), fun p hp => hp, fun p hp j h => absurd h (by omega)⟩
  case fin =>
    rintro ys news ⟨ra, hr⟩ D h tk F9 N9 hoff
    rw [List.size_toArray, hvl, hxl] at hr
    obtain ⟨h1, h2, h3, h4, h5⟩ := id hr
    refine ret _ _ _ _ ra _ F9 N9 (fun j hj => (h2 j hj).choose_spec.choose_spec.choose_spec.choose_spec.1) h3 hr.tab h4 h5 fun j hj => ?_
    obtain ⟨ca, t, kr, kc, b1, b2, b3, b4⟩ := h2 j hj
    exact Ne.symm (off1Mem hoff _ b2)
  case step =>
    rintro i ys news v I oI C oC D m₂ h tk E' hi ⟨ra, hr⟩ hP hns2 hm2 F9 N9 hoff hne3
    obtain ⟨x, tx, hx, rfl⟩ := intsGet2 _ _ _ hni (by simpa using hP)
    have hx2 := hns i x hx
    subst hx2
    dsimp only [brS, brS0]
    k_steps
    unfold StopX
    rename Fr h₀ _ _ _ => kF; rename News h₀ _ _ _ => kN
    rename_i a1 h5 l1 a2 h6 l2
    obtain ⟨p1, p2, p3, p4⟩ := l1
    obtain ⟨q0, q1, q2, q3, q4⟩ := l2
    refine ⟨_, _, _, rfl, kF, newsRow kN, ?_, .inr ⟨_, .tail _ (.tail _ (hr.2.2.2.1 _ hnb)), rfl, _, rfl⟩, _, hr.snoc (allLt_mem p4) (allLt_mem q4) (Nat.ne_of_lt q0)⟩
    exact ⟨⟨Nat.ne_of_gt q1, Nat.ne_of_gt q2, Nat.ne_of_gt q3⟩, ⟨Nat.ne_of_gt p1, Nat.ne_of_gt p2, Nat.ne_of_gt p3⟩, hoff⟩
end Mine

namespace Mine
set_option maxHeartbeats 2000000
theorem sortedL {prog : Program} {w : World} {A : Around} {E : Value → Shared → Prop} {s : Shared} {h₀ : Heap} {L l : Addr} {m : Str → Option Value} {news : List (Addr × Obj)} {vs : List Value} {ns : List Int} {n : Nat} {Q : Value → Shared → Prop}
    (F : Fr h₀ L s.heap m) (N : News h₀ L s.heap news) (hm : (l, W.listOf vs.toArray n) ∈ news) (hi : IntsAre vs ns) (h64 : ns.length < 64)
    (h : ∀ D vs' ns' c h', Fr h₀ L h' m → News h₀ L h' ((D, W.listOf vs'.toArray c) :: news) → (∀ q ∈ news, @LT.lt Nat _ q.1 D) → IntsAre vs' ns' → ns'.Perm ns → ns'.Pairwise (· ≤ ·) → Q (.ref D) { s with heap := h' }) :
    wpAny (model prog w) A (call (.builtin "sorted") [.ref l]) Q E s :=
  kso_sorted F N ⟨_, (N _ hm).1, rfl, _, rfl⟩ hi h64 fun D vs' ns' c h' F' N' l1 i1 _ p1 p2 _ => h D vs' ns' c h' F' N' l1 i1 p1 p2
noncomputable def StopFe (P : Prop) : Prop := P
theorem StopFe.go {P : Prop} (h : StopFe P) : P := h
local macro_rules | `(tactic| walk_at "exec For") => `(tactic| refine StopFe.go ?_)
local macro_rules | `(tactic| walk_at "exec For Name") => `(tactic| refine StopFe.go ?_)
local macro_rules | `(tactic| walk_at "exec For Name Subscript") => `(tactic| refine StopFe.go ?_)
local macro_rules | `(tactic| walk_at "exec For Name Name") => `(tactic| refine StopFe.go ?_)
local macro_rules | `(tactic| walk_at "exec For Name Call") => `(tactic| refine StopFe.go ?_)
local macro_rules | `(tactic| walk_at "exec For Name Name cons nil") => `(tactic| refine StopFe.go ?_)
local macro_rules | `(tactic| walk_at "exec For Name Subscript cons nil") => `(tactic| refine StopFe.go ?_)
local macro_rules | `(tactic| walk_at "exec For Name Call cons nil") => `(tactic| refine StopFe.go ?_)
noncomputable def StopBe (P : Prop) : Prop := P
theorem StopBe.go {P : Prop} (h : StopBe P) : P := h
local macro_rules | `(tactic| walk_at "execs nil") => `(tactic| refine StopBe.go ?_)
local macro_rules | `(tactic| walk_at "UnrEndW") => `(tactic| refine StopBe.go ?_)
noncomputable def StopAe (P : Prop) : Prop := P
theorem StopAe.go {P : Prop} (h : StopAe P) : P := h
local macro_rules | `(tactic| walk_at "exec Assign") => `(tactic| ((with_reducible show wpAny _ _ (exec (Stmt.Assign _ (PySem.Expr.ListComp _ _ _ _) _) _) _ _ _); refine StopAe.go ?_))
local macro_rules | `(tactic| walk_at "exec Assign Name") => `(tactic| ((with_reducible show wpAny _ _ (exec (Stmt.Assign _ (PySem.Expr.ListComp _ _ _ _) _) _) _ _ _); refine StopAe.go ?_))
local macro_rules | `(tactic| walk_at "exec Assign cons ListComp") => `(tactic| ((with_reducible show wpAny _ _ (exec (Stmt.Assign _ (PySem.Expr.ListComp _ _ _ _) _) _) _ _ _); refine StopAe.go ?_))
local macro_rules | `(tactic| walk_at "subscriptTail") => `(tactic| (k_here; (with_reducible show wpAny _ _ (subscriptTail _ _ (Value.ref _) (Value.int _ _)) _ _ _); k_dflt (refine' itemL ?k1 ?k2 ?k3 ?k4 ?k5 ?_; (case k1 => k_asm); (case k2 => k_mem); (case k3 => omega); (case k4 => omega); (case k5 => assumption))))
local macro_rules | `(tactic| walk_at "call builtin:len") => `(tactic| (k_here; (with_reducible show wpAny _ _ (call (Value.builtin "len") [Value.ref _]) _ _ _); k_dflt (refine' lenL ?k1 ?k2 ?k3 ?_; (case k1 => k_asm); (case k2 => k_mem); (case k3 => omega))))
local macro_rules | `(tactic| walk_at "call builtin:sorted") => `(tactic| (k_here; (with_reducible show wpAny _ _ (call (Value.builtin "sorted") [Value.ref _]) _ _ _); k_dflt (refine' sortedL ?k1 ?k2 ?k3 ?k4 ?k5 ?_; (case k1 => k_asm); (case k2 => k_asm); (case k3 => k_mem); (case k4 => assumption); (case k5 => omega); k_whole); intro D' vs' ns' c' h' F' N' l1 i1 p1 p2))
theorem newsDrop {h₀ h : Heap} {L I : Addr} {news : List (Addr × Obj)} (N : News h₀ L h news) : News h₀ L h (dropA I news) := fun p hp => N p (dropA_mem.mp hp).1
theorem newsSub {h₀ h : Heap} {L : Addr} {x : Addr × Obj} {R news : List (Addr × Obj)} (N : News h₀ L h (x :: news)) (hs : ∀ p ∈ R, p ∈ news) : News h₀ L h (x :: R) := fun p hp => N p (by
  rcases List.mem_cons.mp hp with rfl | hp
  · exact .head _
  · exact .tail _ (hs p hp))
theorem TabInv.drop {ra : Nat → Addr} {n sp i : Nat} {C : Nat → Nat → List Int} {I : Addr} {o : Obj} {news : List (Addr × Obj)} (h : TabInv ra n sp i C news) (hN : ∀ p ∈ news, p.1 = I → p.2 = o) (ho : ∀ vs k, o ≠ W.listOf vs k) : TabInv ra n sp i C (dropA I news) := by
  obtain ⟨iv, kk, h1, h2, h3⟩ := h
  refine ⟨iv, kk, fun j hj => dropA_mem.mpr ⟨h1 j hj, fun e => ho _ _ (hN _ (h1 j hj) e).symm⟩, h2, fun j c hj hc => ?_⟩
  obtain ⟨ca, lv, kc, b1, b2, b3, b4⟩ := h3 j c hj hc
  exact ⟨ca, lv, kc, b1, b2, dropA_mem.mpr ⟨b3, fun e => ho _ _ (hN _ b3 e).symm⟩, b4⟩
theorem brackets_code (w : World) (dp un : Nat) (gd : Option (List Code)) (cn : Str) (cs : Scope) (a : Addr) (ccd : Value) (cl : List (Str × Addr)) (outer : List Env) (A₀ : Around) (base h₀ : Heap) (L : Addr) (m : Str → Option Value) (s : Shared) (p : Program) (loose : List Str) (mean : ExcName → Option Value) (mg mb : Str → Option Value)
    (Rr : Result → Shared → Prop)
    (B : Below A₀ base outer h₀) (F : Fr h₀ L s.heap m) (X : (wPart w.params).In h₀) (T : Top p loose mean mg mb h₀) (hk : cs.kind = .function)
    (hcd : CodeHd base 123 119) (hd : dp + 90 < 1000) (hu : un + 1000 < 9900)
  (R : List (Addr × Obj)) {nb wy : Addr} {nv wv : List Value} {xs : List Int} {kn kw n : Nat} {ns : Nat → Int} {wb : Nat → Bool} (N : News h₀ L s.heap R) (hnb : (nb, W.listOf nv.toArray kn) ∈ R) (hwy : (wy, W.listOf wv.toArray kw) ∈ R) (hni : IntsAre nv xs) (hxl : xs.length = n) (hn : n ≤ 6) (hn3 : 3 ≤ n) (hns : ∀ j x, xs[j]? = some x → ns j = x)
  (hW : ∀ j, 1 ≤ j → j < n → ∃ t, wv[j]? = some (.int (wI (wb j)) t))
  (ret : ∀ h' tk' D vs' ns' c, Fr h₀ L h' m → News h₀ L h' ((D, W.listOf vs'.toArray c) :: R) → IntsAre vs' ns' → ns'.Perm (cell ns (fun i => wI (wb i)) (n - 1) 0) → ns'.Pairwise (· ≤ ·) → Rr (.ok (.ret (.ref D))) { s with heap := h', toks := tk' }) :
    codeAny (model P1 w) (ktrTop dp un gd cn cs L a ccd cl outer) (.call (.ref 134) ⟨[.ref nb, .ref wy], []⟩) Rr s := by
  have hvl : nv.length = n := by rw [hni.length]; exact hxl
  k_dflt (refine' code_def ?k1 ?k2 ?k3 ?k4 ?k5 ?kA ?kF ?kK ?k6 ?k7 ?k8 ?k9 ?kB ?_ ?c2 ?c3 ?c4 ?c5; (case kA => exact rfl); (case kF => exact rfl); (case kK => assumption); (case k1 => k_asm); (case k2 => k_asm); (case k3 => k_asm); (case k4 => k_asm); (case k5 => k_asm); (case k6 => k_is); (case k7 => k_is); (case k8 => show _ < 1000; dsimp only [ktrTop]; omega); (case k9 => exact BindsTo.of_eq rfl); (case c5 => decide); (case kB => exact locs rfl); (case c2 => exact rfl); (case c3 => exact rfl); (case c4 => exact rfl); k_whole; intro g' L' h' FG' F' N' B' X' T'; (try dsimp only))
  k_steps
  unfold StopAe
  rename Fr _ _ _ _ => kF; rename News _ _ _ _ => kN
  refine table_code (ns := ns) (ws := fun i => wI (wb i)) w _ _ _ _ _ base _ _ _ _ p loose mean mg mb Rr (by assumption) kF (by assumption) (by assumption) hcd ?yhd ?yhu R kN hnb hni hxl hn hns rfl ?_
  case yhd => show _ + 80 < 1000; (try dsimp only [ktrTop]); omega
  case yhu => show _ + 900 < 9900; (try dsimp only [ktrTop]); omega
  intro h6 tk6 D tv ra news6 F6 N6 hra hinj hT hR6 hRa hDa
  dsimp only
  have f1 := (show (fun z => if z = Str.ofString "table" then some (Value.ref D) else _) (Str.ofString "numbers") = some (.ref nb) from rfl)
  generalize hm6 : (fun z => if z = Str.ofString "table" then some (Value.ref D) else _) = m6 at F6
  have g1 : m6 "numbers" = some (.ref nb) := by rw [← hm6]; rfl
  have g2 : m6 "table" = some (.ref D) := by rw [← hm6]; rfl
  have g3 : m6 "ways" = some (.ref wy) := by rw [← hm6]; rfl
  clear hm6 f1
  have hnb9 := hR6 _ hnb
  have e1 := setB1 g1
  rw [e1] at F6
  walk1
  refine For_turns (hE := by passes_own) F6 ?_
  k_steps
  rename Fr _ L' _ _ => kF; rename News _ L' _ _ => kN
  rename (Heap.get? _ _ = some { cls := Value.type "range", dict := _, data := _, slots := _ }) => hr
  rw [← e1] at kF
  refine iter_rangeTurns (n := n - 1) rfl kF kN hr ?q1 ?q2 ?_
  case q1 => exact (rngSmall (by omega) (by omega) (by omega)).1
  case q2 =>
    refine (rngSmall (by omega) (by omega) (by omega)).2.trans ?_
    omega
  intro I hI
  clear kF kN hr
  refine rngRest 1 (n - 1) (fun i m1 news' => (∀ p ∈ news', @Ne Nat p.1 I) ∧ (∀ p ∈ (D, LCg.lst tv) :: R, p ∈ news') ∧ TabInv ra n (i + 1) 0 (cell ns (fun i => wI (wb i))) news' ∧ (∀ z, z ≠ Str.ofString "right" → z ≠ Str.ofString "value" → z ≠ Str.ofString "left" → z ≠ Str.ofString "k" → z ≠ Str.ofString "found" → z ≠ Str.ofString "i" → z ≠ Str.ofString "span" → m1 z = m6 z)) ?z ?s m6 _ ⟨fun p hp => Nat.ne_of_lt (hI p hp), ?b, ?t, fun _ _ _ _ _ _ _ _ => rfl⟩
  case b =>
    intro p hp
    rcases List.mem_cons.mp hp with rfl | hp
    · exact .head _
    · exact .tail _ (hR6 p hp)
  case t =>
    obtain ⟨iv, kk, h1, h2, h3⟩ := hT
    refine ⟨iv, kk, fun j hj => .tail _ (h1 j hj), h2, fun j c hj hc => ?_⟩
    obtain ⟨ca, lv, kc, b1, b2, b3, b4⟩ := h3 j c hj hc
    exact ⟨ca, lv, kc, b1, b2, .tail _ b3, b4⟩
  case z =>
    rintro m1 news' ⟨q1, q2, q3, em⟩ h tk F9 N9
    obtain ⟨nq, rfl⟩ : ∃ nq, n = nq + 1 := ⟨n - 1, by omega⟩
    simp only [Nat.add_sub_cancel] at q3 ret
    obtain ⟨iv, kk, h1, h2, h3⟩ := q3
    obtain ⟨ca, lv, kc, b1, b2, b3, b4⟩ := h3 0 nq (by omega) (.inl (by omega))
    have a1 := h1 0 (by omega)
    have c1 := hra 0 (by omega)
    have x1 : tv[((0 : Int)).toNat]? = some (.ref (ra 0)) := c1
    have x2 : (iv 0)[(((nv.length : Nat) : Int) - 1).toNat]? = some (.ref ca) := by rw [show (((nv.length : Nat) : Int) - 1).toNat = nq by omega]; exact b1
    have hD9 : (D, W.listOf tv.toArray tv.length) ∈ news' := q2 _ (.head _)
    have hnb8 : (nb, W.listOf nv.toArray kn) ∈ news' := q2 _ (.tail _ hnb)
    have hcl := cell_len ns (fun i => wI (wb i)) (s := nq) (by omega) 0
    have g1 := (em "numbers" (by decide) (by decide) (by decide) (by decide) (by decide) (by decide) (by decide)).trans g1
    have g2 := (em "table" (by decide) (by decide) (by decide) (by decide) (by decide) (by decide) (by decide)).trans g2
    rw [setB2 g1 g2] at F9
    k_steps
    rename Fr h₀ L _ m => kF; rename News h₀ L _ _ => kN
    exact ret _ _ _ _ _ _ kF (newsSub kN fun p hp => q2 p (.tail _ hp)) (by assumption) (by assumption) (by assumption)
  case s =>
    rintro i m1 news' hi ⟨q1, q2, q3, em⟩ r IH
    refine ItemsRest.tok (fun t h tk F9 => AllObj.cons (fun oI hoI => AllObj.nil (fun N9 => ?_)))
    simp only [List.cons_append, List.nil_append] at N9
    rw [show (1 + ((i : Nat) : Int)) = ((i + 1 : Nat) : Int) by omega]
    have g1 : m1 "numbers" = some (.ref nb) := (em "numbers" (by decide) (by decide) (by decide) (by decide) (by decide) (by decide) (by decide)).trans g1
    have g2 : m1 "table" = some (.ref D) := (em "table" (by decide) (by decide) (by decide) (by decide) (by decide) (by decide) (by decide)).trans g2
    have g3 : m1 "ways" = some (.ref wy) := (em "ways" (by decide) (by decide) (by decide) (by decide) (by decide) (by decide) (by decide)).trans g3
    have hrI : ∀ j, j < n → @Ne Nat I (ra j) := fun j hj => by
      obtain ⟨iv, kk, h1, _⟩ := q3
      exact Ne.symm (q1 _ (h1 j hj))
    have hT9 : TabInv ra n (i + 1) 0 (cell ns (fun i => wI (wb i))) ((I, oI) :: news') := by
      obtain ⟨iv, kk, h1, h2, h3⟩ := q3
      refine ⟨iv, kk, fun j hj => .tail _ (h1 j hj), h2, fun j c hj hc => ?_⟩
      obtain ⟨ca, lv, kc, b1, b2, b3, b4⟩ := h3 j c hj hc
      exact ⟨ca, lv, kc, b1, b2, .tail _ b3, b4⟩
    k_steps
    unfold StopFe
    rename Fr _ L' _ _ => kF; rename News _ L' _ _ => kN
    refine i_code (ns := ns) (wb := wb) w _ _ _ _ _ base _ _ _ _ p loose mean mg mb Rr (by assumption) kF (by assumption) (by assumption) hcd ?yhd ?yhu (by passes_own) ((I, oI) :: (D, LCg.lst tv) :: R) ((I, oI) :: news') kN hn (show 1 ≤ i + 1 by omega) (show i + 1 < n by omega) ?u1 ?u2 (.tail _ (.head _)) (.tail _ (.tail _ hwy)) (.tail _ (.tail _ hnb)) hvl hra hinj hT9 hW (by exact g1) rfl (by exact g2) (by exact g3) ?_
    case yhd => show _ + 80 < 1000; (try dsimp only [ktrTop]); omega
    case yhu => show _ + 900 < 9900; (try dsimp only [ktrTop]); omega
    case u1 =>
      intro p hp
      rcases List.mem_cons.mp hp with rfl | hp
      · exact .head _
      · exact .tail _ (q2 p hp)
    case u2 =>
      intro p hp j hj
      rcases List.mem_cons.mp hp with rfl | hp
      · exact hrI j hj
      rcases List.mem_cons.mp hp with rfl | hp
      · exact hDa j hj
      · exact hRa p hp j hj
    intro h7 tk7 m7 news7 F7 e7 N7 q7 T7
    dsimp only
    refine wpAny_execs_nil ?_
    dsimp only [UnrPostW]
    have hI7 := q7 _ (.head _)
    refine ⟨_, _, _, dropA I news7, rfl, F7, ?_, fun p hp q hq => ?_, trivial, IH _ _ ⟨fun p hp => (dropA_mem.mp hp).2, fun p hp => dropA_mem.mpr ⟨q7 p (.tail _ hp), ?_⟩, TabInv.drop (I := I) (o := oI) T7.next (fun p hp e => ?_) (fun vs k e => ?_), ?_⟩⟩
    · intro p hp
      rcases List.mem_cons.mp hp with rfl | hp
      · exact N7 _ hI7
      · exact N7 p (dropA_mem.mp hp).1
    · rw [List.mem_singleton.mp hq]; exact (dropA_mem.mp hp).2
    · exact q1 p (q2 p hp)
    · have z1 := (N7 p hp).1
      rw [e, (N7 _ hI7).1] at z1
      exact (Option.some.inj z1).symm
    · rw [e] at hoI
      exact absurd (show "list" = "range_iterator" from Value.type.inj hoI) (by decide)
    · intro z z1 z2 z3 z4 z5 z6 z7
      rw [e7 z z1 z2 z3 z4 z5 z6, if_neg z7]
      exact em z z1 z2 z3 z4 z5 z6 z7
end Mine

namespace Mine
set_option maxHeartbeats 2000000
noncomputable abbrev tup3 (v : Int) (b : Bool) (c : Int) (t1 t2 : Tok) : Obj := { cls := .type "tuple", data := .seq #[.int v t1, .bool b, .int c t2] }
noncomputable def StIn (R : List (Addr × Obj)) : List Value → List (Int × Bool × Int) → Prop
  | [], [] => True
  | .ref a :: vs, e :: es => (∃ t1 t2, (a, tup3 e.1 e.2.1 e.2.2 t1 t2) ∈ R) ∧ StIn R vs es
  | _, _ => False
theorem StIn.mono {R R' : List (Addr × Obj)} (hs : ∀ p ∈ R, p ∈ R') : ∀ {vs : List Value} {es : List (Int × Bool × Int)}, StIn R vs es → StIn R' vs es
  | [], [], _ => trivial
  | .ref _ :: _, _ :: _, h => ⟨⟨h.1.choose, h.1.choose_spec.choose, hs _ h.1.choose_spec.choose_spec⟩, StIn.mono hs h.2⟩
theorem StIn.snoc {R : List (Addr × Obj)} : ∀ {vs : List Value} {es : List (Int × Bool × Int)} {a : Addr} {e : Int × Bool × Int}, StIn R vs es → (∃ t1 t2, (a, tup3 e.1 e.2.1 e.2.2 t1 t2) ∈ R) → StIn R (vs ++ [.ref a]) (es ++ [e])
  | [], [], _, _, _, h => ⟨h, trivial⟩
  | .ref _ :: _, _ :: _, _, _, h, h1 => ⟨h.1, StIn.snoc h.2 h1⟩
theorem StIn.len {R : List (Addr × Obj)} : ∀ {vs : List Value} {es : List (Int × Bool × Int)}, StIn R vs es → vs.length = es.length
  | [], [], _ => rfl
  | .ref _ :: _, _ :: _, h => congrArg (· + 1) (StIn.len h.2)
noncomputable def loTF : Obj := W.listOf [Value.bool true, Value.bool false].toArray 0
noncomputable def InvA (q : Nat) (p9 v c : Int) (b : Bool) (acc : List (Int × Bool × Int)) (rd ld I : Addr) (R : List (Addr × Obj)) (m : Str → Option Value) (vs' : List Value) (m1 : Str → Option Value) (news : List (Addr × Obj)) : Prop :=
  ∃ (acc' : List (Int × Bool × Int)) (rv' : List Value) (kr' : Nat) (TR' : List (Addr × Obj)), ((vs' = [.bool true, .bool false] ∧ acc' = acc) ∨ (vs' = [.bool false] ∧ acc' = push1 q p9 (v, b, c) true acc) ∨ (vs' = [] ∧ acc' = push2 q p9 (v, b, c) acc)) ∧ news = (rd, W.listOf rv'.toArray kr') :: (TR' ++ ((ld, W.listOf [Value.bool true, Value.bool false].toArray 0) :: R)) ∧ StIn TR' rv' acc' ∧ OwnOff (TR' ++ ((ld, W.listOf [Value.bool true, Value.bool false].toArray 0) :: R)) [rd] ∧ rv'.length + vs'.length ≤ 102 ∧ (∀ p ∈ TR', @Ne Nat p.1 I) ∧ (∀ z, z ≠ Str.ofString "adds" → z ≠ Str.ofString "after" → m1 z = m z)
theorem endSkip {h₀ h' : Heap} {L : Addr} {s₁ : Shared} {tk : Nat} {oI : Obj} {RR : List (Addr × Obj)} {q : Nat} {p9 v c : Int} {b ad : Bool} {acc acc' : List (Int × Bool × Int)} {rd ld I : Addr} {R TR' : List (Addr × Obj)} {m m2 : Str → Option Value} {r rv' : List Value} {kr' : Nat} {J : (Str → Option Value) → List (Addr × Obj) → Prop}
    (kF : Fr h₀ L h' m2) (kN : News h₀ L h' ((rd, W.listOf rv'.toArray kr') :: (I, oI) :: RR)) (hRR : TR' ++ ((ld, W.listOf [Value.bool true, Value.bool false].toArray 0) :: R) = RR) (hrI : @LT.lt Nat _ rd I) (hneI : ∀ p ∈ TR' ++ ((ld, W.listOf [Value.bool true, Value.bool false].toArray 0) :: R), @Ne Nat p.1 I)
    (IH : ∀ m' news', InvA q p9 v c b acc rd ld I R m r m' news' → J m' news')
    (hcs : (r = [.bool true, .bool false] ∧ push1 q p9 (v, b, c) ad acc' = acc) ∨ (r = [.bool false] ∧ push1 q p9 (v, b, c) ad acc' = push1 q p9 (v, b, c) true acc) ∨ (r = [] ∧ push1 q p9 (v, b, c) ad acc' = push2 q p9 (v, b, c) acc))
    (hS' : StIn TR' rv' acc') (ho' : OwnOff (TR' ++ ((ld, W.listOf [Value.bool true, Value.bool false].toArray 0) :: R)) [rd]) (hl' : rv'.length + (r.length + 1) ≤ 102) (hI' : ∀ p ∈ TR', @Ne Nat p.1 I) (hp : push1 q p9 (v, b, c) ad acc' = acc') (em : ∀ z, z ≠ Str.ofString "adds" → z ≠ Str.ofString "after" → m2 z = m z) :
    UnrEndW h₀ L s₁ [(I, oI)] (fun m' n' => SubL [(ld, W.listOf [Value.bool true, Value.bool false].toArray 0)] n' ∧ J m' n') { s₁ with heap := h', toks := tk } := by
  rw [hp] at hcs
  refine ⟨_, _, _, (rd, W.listOf rv'.toArray kr') :: (TR' ++ ((ld, W.listOf [Value.bool true, Value.bool false].toArray 0) :: R)), rfl, kF, fun p hp => kN p ?_, fun p hp x hx => ?_, ⟨.tail _ (List.mem_append_right _ (.head _)), trivial⟩, IH _ _ ⟨acc', rv', kr', TR', hcs, rfl, hS', ho', by omega, hI', em⟩⟩
  · rw [← hRR]
    simp only [List.cons_append, List.nil_append, List.mem_cons, List.mem_append] at hp ⊢
    rcases hp with h | h | h | h | h <;> simp only [h, true_or, or_true]
  · rw [List.mem_singleton.mp hx]
    rcases List.mem_cons.mp hp with rfl | hp
    · exact Nat.ne_of_lt hrI
    · exact hneI p hp
theorem endPush {h₀ h' : Heap} {L : Addr} {s₁ : Shared} {tk : Nat} {oI : Obj} {RR : List (Addr × Obj)} {q : Nat} {p9 v c v2 c2 : Int} {b ad : Bool} {acc acc' : List (Int × Bool × Int)} {rd ld I D : Addr} {R TR' : List (Addr × Obj)} {m m2 : Str → Option Value} {r rv' : List Value} {k2 : Nat} {ta tb : Tok} {J : (Str → Option Value) → List (Addr × Obj) → Prop}
    (kF : Fr h₀ L h' m2) (kN : News h₀ L h' ((D, tup3 v2 ad c2 ta tb) :: (rd, W.listOf (rv'.toArray.push (.ref D)) k2) :: (I, oI) :: RR)) (l1 : @LT.lt Nat _ rd D ∧ @LT.lt Nat _ I D ∧ AllLt D RR) (hRR : TR' ++ ((ld, W.listOf [Value.bool true, Value.bool false].toArray 0) :: R) = RR) (hrI : @LT.lt Nat _ rd I) (hneI : ∀ p ∈ TR' ++ ((ld, W.listOf [Value.bool true, Value.bool false].toArray 0) :: R), @Ne Nat p.1 I)
    (IH : ∀ m' news', InvA q p9 v c b acc rd ld I R m r m' news' → J m' news')
    (hcs : (r = [.bool true, .bool false] ∧ push1 q p9 (v, b, c) ad acc' = acc) ∨ (r = [.bool false] ∧ push1 q p9 (v, b, c) ad acc' = push1 q p9 (v, b, c) true acc) ∨ (r = [] ∧ push1 q p9 (v, b, c) ad acc' = push2 q p9 (v, b, c) acc))
    (hS' : StIn TR' rv' acc') (ho' : OwnOff (TR' ++ ((ld, W.listOf [Value.bool true, Value.bool false].toArray 0) :: R)) [rd]) (hl' : rv'.length + (r.length + 1) ≤ 102) (hI' : ∀ p ∈ TR', @Ne Nat p.1 I) (hp : push1 q p9 (v, b, c) ad acc' = acc' ++ [(v2, ad, c2)]) (em : ∀ z, z ≠ Str.ofString "adds" → z ≠ Str.ofString "after" → m2 z = m z) :
    UnrEndW h₀ L s₁ [(I, oI)] (fun m' n' => SubL [(ld, W.listOf [Value.bool true, Value.bool false].toArray 0)] n' ∧ J m' n') { s₁ with heap := h', toks := tk } := by
  rw [hp] at hcs
  refine ⟨_, _, _, (rd, W.listOf (rv' ++ [Value.ref D]).toArray k2) :: (((D, tup3 v2 ad c2 ta tb) :: TR') ++ ((ld, W.listOf [Value.bool true, Value.bool false].toArray 0) :: R)), rfl, kF, fun p hp => kN p ?_, fun p hp x hx => ?_, ⟨.tail _ (List.mem_append_right _ (.head _)), trivial⟩, IH _ _ ⟨_, _, k2, (D, tup3 v2 ad c2 ta tb) :: TR', hcs, rfl, (hS'.mono fun p hp => .tail _ hp).snoc ⟨ta, tb, .head _⟩, ?_, by rw [List.length_append, List.length_singleton]; omega, ?_, em⟩⟩
  · rw [← hRR, pushL]
    simp only [List.cons_append, List.nil_append, List.mem_cons, List.mem_append] at hp ⊢
    rcases hp with h | h | h | h | h | h <;> simp only [h, true_or, or_true]
  · rw [List.mem_singleton.mp hx]
    simp only [List.cons_append, List.mem_cons] at hp
    rcases hp with rfl | rfl | hp
    · exact Nat.ne_of_lt hrI
    · exact Nat.ne_of_gt l1.2.1
    · exact hneI p hp
  · intro p hp x hx
    rw [List.mem_singleton.mp hx]
    rcases List.mem_cons.mp hp with rfl | hp
    · exact Nat.ne_of_gt l1.1
    · exact ho' p hp rd (.head _)
  · intro p hp
    rcases List.mem_cons.mp hp with rfl | hp
    · exact Nat.ne_of_gt l1.2.1
    · exact hI' p hp
theorem setB6 {m1 : Str → Option Value} {x1 x2 x3 x4 x5 x6 : Str} {v1 v2 v3 v4 v5 v6 : Value} (h1 : m1 x1 = some v1) (h2 : m1 x2 = some v2) (h3 : m1 x3 = some v3) (h4 : m1 x4 = some v4) (h5 : m1 x5 = some v5) (h6 : m1 x6 = some v6) : m1 = fun y => if y = x1 then some v1 else if y = x2 then some v2 else if y = x3 then some v3 else if y = x4 then some v4 else if y = x5 then some v5 else if y = x6 then some v6 else m1 y := by
  funext y
  by_cases e1 : y = x1
  · rw [if_pos e1, e1, h1]
  rw [if_neg e1]
  by_cases e2 : y = x2
  · rw [if_pos e2, e2, h2]
  rw [if_neg e2]
  by_cases e3 : y = x3
  · rw [if_pos e3, e3, h3]
  rw [if_neg e3]
  by_cases e4 : y = x4
  · rw [if_pos e4, e4, h4]
  rw [if_neg e4]
  by_cases e5 : y = x5
  · rw [if_pos e5, e5, h5]
  rw [if_neg e5]
  by_cases e6 : y = x6
  · rw [if_pos e6, e6, h6]
  rw [if_neg e6]
noncomputable def StopBg (P : Prop) : Prop := P
theorem StopBg.go {P : Prop} (h : StopBg P) : P := h
local macro_rules | `(tactic| walk_at "UnrEndW") => `(tactic| refine StopBg.go ?_)
noncomputable def StopFg (P : Prop) : Prop := P
theorem StopFg.go {P : Prop} (h : StopFg P) : P := h
local macro_rules | `(tactic| walk_at "exec For") => `(tactic| refine StopFg.go ?_)
local macro_rules | `(tactic| walk_at "exec For Name") => `(tactic| refine StopFg.go ?_)
local macro_rules | `(tactic| walk_at "exec For Name Subscript") => `(tactic| refine StopFg.go ?_)
local macro_rules | `(tactic| walk_at "exec For Name Name") => `(tactic| refine StopFg.go ?_)
local macro_rules | `(tactic| walk_at "exec For Name Call") => `(tactic| refine StopFg.go ?_)
local macro_rules | `(tactic| walk_at "exec For Name Name cons nil") => `(tactic| refine StopFg.go ?_)
local macro_rules | `(tactic| walk_at "exec For Name Subscript cons nil") => `(tactic| refine StopFg.go ?_)
local macro_rules | `(tactic| walk_at "exec For Name Call cons nil") => `(tactic| refine StopFg.go ?_)
local macro_rules | `(tactic| walk_at "pyIter ref") => `(tactic| refine StopFg.go ?_)
theorem adds_code (w : World) (dp un : Nat) (gd : Option (List Code)) (outer : List Env) (A₀ : Around) (base h₀ : Heap) (L : Addr) (m : Str → Option Value) (s : Shared) (p : Program) (loose : List Str) (mean : ExcName → Option Value) (mg mb : Str → Option Value)
    (Rr : Result → Shared → Prop)
    (B : Below A₀ base outer h₀) (F : Fr h₀ L s.heap m) (X : (wPart w.params).In h₀) (T : Top p loose mean mg mb h₀)
    (hcd : CodeHd base 123 119) (hd : dp + 80 < 1000) (hu : un + 900 < 9900)
  {E : Value → Shared → Prop} {Q : Flow → Shared → Prop} (hE : PassesOwn (model P1 w) (ktrTop dp un gd "_law_by_count" ctS L 141 (.ref 140) [] outer) (envX "_law_by_count" ctS L 141 (.ref 140) []) E) (R TR : List (Addr × Obj)) {rd : Addr} {rv : List Value} {acc : List (Int × Bool × Int)} {kr : Nat} {v c p9 : Int} {b : Bool} {q : Nat} {t1 t2 t3 t4 : Tok}
  (N : News h₀ L s.heap ((rd, W.listOf rv.toArray kr) :: (TR ++ R))) (hS : StIn TR rv acc) (hoff : OwnOff (TR ++ R) [rd]) (hl : rv.length ≤ 100) (hc0 : 0 ≤ c) (hc1 : c ≤ 100) (hq : q < 2)
  (hm1 : m "value" = some (.int v t1)) (hm2 : m "added" = some (.bool b)) (hm3 : m "count" = some (.int c t2)) (hm4 : m "mark" = some (.str (mkS2 q) t3)) (hm5 : m "port" = some (.int p9 t4)) (hm6 : m "reached" = some (.ref rd))
  (ret : ∀ h' tk' m' rv' kr' TR', Fr h₀ L h' m' → (∀ z, z ≠ Str.ofString "adds" → z ≠ Str.ofString "after" → m' z = m z) → News h₀ L h' ((rd, W.listOf rv'.toArray kr') :: (TR' ++ R)) → StIn TR' rv' (push2 q p9 (v, b, c) acc) → OwnOff (TR' ++ R) [rd] → Q .next { s with heap := h', toks := tk' }) :
    wpAny (model P1 w) (ktrTop dp un gd "_law_by_count" ctS L 141 (.ref 140) [] outer) (exec ctA (envX "_law_by_count" ctS L 141 (.ref 140) [])) Q E s := by
  have hk : q = 0 ∨ q = 1 := by omega
  have s0 : mkS2 0 = Str.ofString "+" := by decide +kernel
  have s1 : mkS2 1 = Str.ofString "-" := by decide +kernel
  dsimp only [ctA, ctA0, ctS, ctS0]
  refine For_turns (hE := hE) F ?_
  k_steps
  unfold StopFg
  rename Fr h₀ _ _ _ => kF; rename News h₀ _ _ _ => kN
  rename_i ld h5 l1
  obtain ⟨lr, lT⟩ := l1
  have kN2 : News h₀ L h5 ((rd, W.listOf rv.toArray kr) :: (TR ++ ((ld, W.listOf [Value.bool true, Value.bool false].toArray 0) :: R))) := fun p hp => kN p (by
    simp only [List.mem_cons, List.mem_append] at hp ⊢
    rcases hp with h | h | h | h <;> simp only [h, true_or, or_true])
  refine iter_listTurns (n := 0) (lo := W.listOf [Value.bool true, Value.bool false].toArray 0) rfl kF kN2 (.tail _ (List.mem_append_right _ (.head _))) rfl rfl ?_
  intro I hI
  have hrI : @LT.lt Nat _ rd I := hI _ (.head _)
  have hlI : @LT.lt Nat _ ld I := hI _ (.tail _ (List.mem_append_right _ (.head _)))
  clear kF kN kN2
  refine itemsRest_of2 (InvA q p9 v c b acc rd ld I R m) ?z ?s _ m _ ⟨acc, rv, kr, TR, .inl ⟨rfl, rfl⟩, ?b1, hS, ?b2, by show rv.length + 2 ≤ 102; omega, ?b3, fun _ _ _ => rfl⟩
  case b1 => rfl
  case b2 =>
    intro p hp x hx
    rw [List.mem_singleton.mp hx]
    rcases List.mem_append.mp hp with hp | hp
    · exact hoff p (List.mem_append_left _ hp) rd (.head _)
    rcases List.mem_cons.mp hp with rfl | hp
    · exact Nat.ne_of_gt lr
    · exact hoff p (List.mem_append_right _ hp) rd (.head _)
  case b3 => exact fun p hp => Nat.ne_of_lt (hI p (.tail _ (List.mem_append_left _ hp)))
  case z =>
    rintro m1 news ⟨acc', rv', kr', TR', hcs, rfl, hS', ho', hl', hI', em⟩ h tk F9 N9
    rcases hcs with ⟨e, _⟩ | ⟨e, _⟩ | ⟨_, rfl⟩
    · cases e
    · cases e
    · exact ret _ _ _ rv' kr' TR' F9 em (fun p hp => N9 p (by
        simp only [List.mem_cons, List.mem_append] at hp ⊢
        rcases hp with h | h | h <;> simp only [h, true_or, or_true])) hS' (fun p hp => ho' p (by
        simp only [List.mem_cons, List.mem_append] at hp ⊢
        rcases hp with h | h <;> simp only [h, true_or, or_true]))
  case s =>
    rintro v0 r m1 news ⟨acc', rv', kr', TR', hcs, rfl, hS', ho', hl', hI', em⟩ IH
    have hv : ∃ ad : Bool, v0 = .bool ad ∧ ((r = [.bool true, .bool false] ∧ push1 q p9 (v, b, c) ad acc' = acc) ∨ (r = [.bool false] ∧ push1 q p9 (v, b, c) ad acc' = push1 q p9 (v, b, c) true acc) ∨ (r = [] ∧ push1 q p9 (v, b, c) ad acc' = push2 q p9 (v, b, c) acc)) := by
      rcases hcs with ⟨e, rfl⟩ | ⟨e, rfl⟩ | ⟨e, _⟩
      · obtain ⟨rfl, rfl⟩ := List.cons.inj e
        exact ⟨true, rfl, .inr (.inl ⟨rfl, rfl⟩)⟩
      · obtain ⟨rfl, rfl⟩ := List.cons.inj e
        exact ⟨false, rfl, .inr (.inr ⟨rfl, rfl⟩)⟩
      · cases e
    clear hcs
    obtain ⟨ad, rfl, hcs⟩ := hv
    have g1 := (em "value" (by decide) (by decide)).trans hm1
    have g2 := (em "added" (by decide) (by decide)).trans hm2
    have g3 := (em "count" (by decide) (by decide)).trans hm3
    have g4 := (em "mark" (by decide) (by decide)).trans hm4
    have g5 := (em "port" (by decide) (by decide)).trans hm5
    have g6 := (em "reached" (by decide) (by decide)).trans hm6
    refine ItemsRest.val (fun h tk F9 => AllObj.cons (fun oI hoI => AllObj.nil (fun N9 => ?_)))
    simp only [List.cons_append, List.nil_append] at N9
    have N9 := newsSw2 N9
    have e6 := setB6 g1 g2 g3 g4 g5 g6
    rw [e6] at F9
    rw [List.length_cons] at hl'
    have hl9 : rv'.length ≤ 102 := by omega
    generalize hRR : TR' ++ ((ld, W.listOf [Value.bool true, Value.bool false].toArray 0) :: R) = RR at ho' N9
    have hoff2 : OwnOff ((I, oI) :: RR) [rd] := offC ho' (Nat.ne_of_gt hrI)
    rw [← hRR] at ho'
    have hneI : ∀ p ∈ TR' ++ ((ld, W.listOf [Value.bool true, Value.bool false].toArray 0) :: R), @Ne Nat p.1 I := by
      intro p hp
      rcases List.mem_append.mp hp with hp | hp
      · exact hI' p hp
      · exact Nat.ne_of_lt (hI p (.tail _ (List.mem_append_right _ hp)))
    rcases hk with rfl | rfl
    · rw [s0] at F9
      cases b <;> cases ad
      · k_steps
        · unfold StopBg
          rename Fr h₀ _ _ _ => kF; rename News h₀ _ _ _ => kN
          rename (@LT.lt Nat _ rd _ ∧ _) => l1
          refine endPush kF kN l1 hRR hrI hneI IH hcs hS' ho' hl' hI' ?_ ?_
          · first | (simp [push1, afterC] <;> omega; done) | (have hc9 : 0 < c := (by omega); simp [push1, afterC, hc9] <;> omega; done) | (have hc9 : ¬ 0 < c := (by omega); simp [push1, afterC, hc9] <;> omega; done)
          · intro z z1 z2
            rw [if_neg z2, if_neg z1]
            exact (congrFun e6 z).symm.trans (em z z1 z2)
      · k_steps
        · unfold StopBg
          rename Fr h₀ _ _ _ => kF; rename News h₀ _ _ _ => kN
          rename (@LT.lt Nat _ rd _ ∧ _) => l1
          refine endPush kF kN l1 hRR hrI hneI IH hcs hS' ho' hl' hI' ?_ ?_
          · first | (simp [push1, afterC] <;> omega; done) | (have hc9 : 0 < c := (by omega); simp [push1, afterC, hc9] <;> omega; done) | (have hc9 : ¬ 0 < c := (by omega); simp [push1, afterC, hc9] <;> omega; done)
          · intro z z1 z2
            rw [if_neg z2, if_neg z1]
            exact (congrFun e6 z).symm.trans (em z z1 z2)
        · unfold StopBg
          rename Fr h₀ _ _ _ => kF; rename News h₀ _ _ _ => kN
          refine endSkip kF kN hRR hrI hneI IH hcs hS' ho' hl' hI' ?_ ?_
          · first | (simp [push1, afterC] <;> omega; done) | (have hc9 : 0 < c := (by omega); simp [push1, afterC, hc9] <;> omega; done) | (have hc9 : ¬ 0 < c := (by omega); simp [push1, afterC, hc9] <;> omega; done)
          · intro z z1 z2
            rw [if_neg z2, if_neg z1]
            exact (congrFun e6 z).symm.trans (em z z1 z2)
      · k_steps
        · unfold StopBg
          rename Fr h₀ _ _ _ => kF; rename News h₀ _ _ _ => kN
          rename (@LT.lt Nat _ rd _ ∧ _) => l1
          refine endPush kF kN l1 hRR hrI hneI IH hcs hS' ho' hl' hI' ?_ ?_
          · first | (simp [push1, afterC] <;> omega; done) | (have hc9 : 0 < c := (by omega); simp [push1, afterC, hc9] <;> omega; done) | (have hc9 : ¬ 0 < c := (by omega); simp [push1, afterC, hc9] <;> omega; done)
          · intro z z1 z2
            rw [if_neg z2, if_neg z1]
            exact (congrFun e6 z).symm.trans (em z z1 z2)
        · unfold StopBg
          rename Fr h₀ _ _ _ => kF; rename News h₀ _ _ _ => kN
          refine endSkip kF kN hRR hrI hneI IH hcs hS' ho' hl' hI' ?_ ?_
          · first | (simp [push1, afterC] <;> omega; done) | (have hc9 : 0 < c := (by omega); simp [push1, afterC, hc9] <;> omega; done) | (have hc9 : ¬ 0 < c := (by omega); simp [push1, afterC, hc9] <;> omega; done)
          · intro z z1 z2
            rw [if_neg z2, if_neg z1]
            exact (congrFun e6 z).symm.trans (em z z1 z2)
      · k_steps
        · unfold StopBg
          rename Fr h₀ _ _ _ => kF; rename News h₀ _ _ _ => kN
          rename (@LT.lt Nat _ rd _ ∧ _) => l1
          refine endPush kF kN l1 hRR hrI hneI IH hcs hS' ho' hl' hI' ?_ ?_
          · first | (simp [push1, afterC] <;> omega; done) | (have hc9 : 0 < c := (by omega); simp [push1, afterC, hc9] <;> omega; done) | (have hc9 : ¬ 0 < c := (by omega); simp [push1, afterC, hc9] <;> omega; done)
          · intro z z1 z2
            rw [if_neg z2, if_neg z1]
            exact (congrFun e6 z).symm.trans (em z z1 z2)
    · rw [s1] at F9
      cases b <;> cases ad
      · k_steps
        · unfold StopBg
          rename Fr h₀ _ _ _ => kF; rename News h₀ _ _ _ => kN
          rename (@LT.lt Nat _ rd _ ∧ _) => l1
          refine endPush kF kN l1 hRR hrI hneI IH hcs hS' ho' hl' hI' ?_ ?_
          · first | (simp [push1, afterC] <;> omega; done) | (have hc9 : 0 < c := (by omega); simp [push1, afterC, hc9] <;> omega; done) | (have hc9 : ¬ 0 < c := (by omega); simp [push1, afterC, hc9] <;> omega; done)
          · intro z z1 z2
            rw [if_neg z2, if_neg z1]
            exact (congrFun e6 z).symm.trans (em z z1 z2)
        · unfold StopBg
          rename Fr h₀ _ _ _ => kF; rename News h₀ _ _ _ => kN
          refine endSkip kF kN hRR hrI hneI IH hcs hS' ho' hl' hI' ?_ ?_
          · first | (simp [push1, afterC] <;> omega; done) | (have hc9 : 0 < c := (by omega); simp [push1, afterC, hc9] <;> omega; done) | (have hc9 : ¬ 0 < c := (by omega); simp [push1, afterC, hc9] <;> omega; done)
          · intro z z1 z2
            rw [if_neg z2, if_neg z1]
            exact (congrFun e6 z).symm.trans (em z z1 z2)
      · k_steps
        · unfold StopBg
          rename Fr h₀ _ _ _ => kF; rename News h₀ _ _ _ => kN
          rename (@LT.lt Nat _ rd _ ∧ _) => l1
          refine endPush kF kN l1 hRR hrI hneI IH hcs hS' ho' hl' hI' ?_ ?_
          · first | (simp [push1, afterC] <;> omega; done) | (have hc9 : 0 < c := (by omega); simp [push1, afterC, hc9] <;> omega; done) | (have hc9 : ¬ 0 < c := (by omega); simp [push1, afterC, hc9] <;> omega; done)
          · intro z z1 z2
            rw [if_neg z2, if_neg z1]
            exact (congrFun e6 z).symm.trans (em z z1 z2)
      · k_steps
        · unfold StopBg
          rename Fr h₀ _ _ _ => kF; rename News h₀ _ _ _ => kN
          rename (@LT.lt Nat _ rd _ ∧ _) => l1
          refine endPush kF kN l1 hRR hrI hneI IH hcs hS' ho' hl' hI' ?_ ?_
          · first | (simp [push1, afterC] <;> omega; done) | (have hc9 : 0 < c := (by omega); simp [push1, afterC, hc9] <;> omega; done) | (have hc9 : ¬ 0 < c := (by omega); simp [push1, afterC, hc9] <;> omega; done)
          · intro z z1 z2
            rw [if_neg z2, if_neg z1]
            exact (congrFun e6 z).symm.trans (em z z1 z2)
      · k_steps
        · unfold StopBg
          rename Fr h₀ _ _ _ => kF; rename News h₀ _ _ _ => kN
          rename (@LT.lt Nat _ rd _ ∧ _) => l1
          refine endPush kF kN l1 hRR hrI hneI IH hcs hS' ho' hl' hI' ?_ ?_
          · first | (simp [push1, afterC] <;> omega; done) | (have hc9 : 0 < c := (by omega); simp [push1, afterC, hc9] <;> omega; done) | (have hc9 : ¬ 0 < c := (by omega); simp [push1, afterC, hc9] <;> omega; done)
          · intro z z1 z2
            rw [if_neg z2, if_neg z1]
            exact (congrFun e6 z).symm.trans (em z z1 z2)
        · unfold StopBg
          rename Fr h₀ _ _ _ => kF; rename News h₀ _ _ _ => kN
          refine endSkip kF kN hRR hrI hneI IH hcs hS' ho' hl' hI' ?_ ?_
          · first | (simp [push1, afterC] <;> omega; done) | (have hc9 : 0 < c := (by omega); simp [push1, afterC, hc9] <;> omega; done) | (have hc9 : ¬ 0 < c := (by omega); simp [push1, afterC, hc9] <;> omega; done)
          · intro z z1 z2
            rw [if_neg z2, if_neg z1]
            exact (congrFun e6 z).symm.trans (em z z1 z2)
end Mine

namespace Mine
set_option maxHeartbeats 2000000
noncomputable def StopBh (P : Prop) : Prop := P
theorem StopBh.go {P : Prop} (h : StopBh P) : P := h
local macro_rules | `(tactic| walk_at "UnrEndW") => `(tactic| refine StopBh.go ?_)
noncomputable def StopFh (P : Prop) : Prop := P
theorem StopFh.go {P : Prop} (h : StopFh P) : P := h
local macro_rules | `(tactic| walk_at "exec For") => `(tactic| refine StopFh.go ?_)
local macro_rules | `(tactic| walk_at "exec For Name") => `(tactic| refine StopFh.go ?_)
local macro_rules | `(tactic| walk_at "exec For Name List") => `(tactic| refine StopFh.go ?_)
local macro_rules | `(tactic| walk_at "exec For Name List cons nil") => `(tactic| refine StopFh.go ?_)
local macro_rules | `(tactic| walk_at "exec For Name Subscript") => `(tactic| refine StopFh.go ?_)
local macro_rules | `(tactic| walk_at "exec For Name Name") => `(tactic| refine StopFh.go ?_)
local macro_rules | `(tactic| walk_at "exec For Name Call") => `(tactic| refine StopFh.go ?_)
local macro_rules | `(tactic| walk_at "exec For Name Name cons nil") => `(tactic| refine StopFh.go ?_)
local macro_rules | `(tactic| walk_at "exec For Name Subscript cons nil") => `(tactic| refine StopFh.go ?_)
local macro_rules | `(tactic| walk_at "exec For Name Call cons nil") => `(tactic| refine StopFh.go ?_)
theorem stGet {R : List (Addr × Obj)} {v : Value} {r : List Value} : ∀ {es : List (Int × Bool × Int)}, StIn R (v :: r) es → ∃ e es2 a t1 t2, es = e :: es2 ∧ v = .ref a ∧ (a, tup3 e.1 e.2.1 e.2.2 t1 t2) ∈ R ∧ StIn R r es2
  | [], h => by cases v <;> exact h.elim
  | e :: es2, h => by
    cases v <;> try exact h.elim
    obtain ⟨⟨t1, t2, hm⟩, h2⟩ := h
    exact ⟨e, es2, _, t1, t2, rfl, rfl, hm, h2⟩
theorem StIn.drop {I : Addr} {o : Obj} {R : List (Addr × Obj)} (hN : ∀ p ∈ R, p.1 = I → p.2 = o) (ho : ∀ v b c t1 t2, o ≠ tup3 v b c t1 t2) : ∀ {vs : List Value} {es : List (Int × Bool × Int)}, StIn R vs es → StIn (dropA I R) vs es
  | [], [], _ => trivial
  | .ref _ :: _, _ :: _, h => ⟨⟨h.1.choose, h.1.choose_spec.choose, dropA_mem.mpr ⟨h.1.choose_spec.choose_spec, fun e => ho _ _ _ _ _ (hN _ h.1.choose_spec.choose_spec e).symm⟩⟩, StIn.drop hN ho h.2⟩
theorem push1_len (q : Nat) (p : Int) (st : Int × Bool × Int) (b : Bool) (acc : List (Int × Bool × Int)) : (push1 q p st b acc).length ≤ acc.length + 1 := by
  unfold push1; split
  · rw [List.length_append]; exact Nat.le_refl _
  · omega
theorem push2_len (q : Nat) (p : Int) (st : Int × Bool × Int) (acc : List (Int × Bool × Int)) : (push2 q p st acc).length ≤ acc.length + 2 := by
  have a := push1_len q p st true acc
  have b := push1_len q p st false (push1 q p st true acc)
  unfold push2; omega
theorem states_code (w : World) (dp un : Nat) (gd : Option (List Code)) (outer : List Env) (A₀ : Around) (base h₀ : Heap) (L : Addr) (m : Str → Option Value) (s : Shared) (p : Program) (loose : List Str) (mean : ExcName → Option Value) (mg mb : Str → Option Value)
    (Rr : Result → Shared → Prop)
    (B : Below A₀ base outer h₀) (F : Fr h₀ L s.heap m) (X : (wPart w.params).In h₀) (T : Top p loose mean mg mb h₀)
    (hcd : CodeHd base 123 119) (hd : dp + 80 < 1000) (hu : un + 900 < 9900)
  {E : Value → Shared → Prop} {Q : Flow → Shared → Prop} (hE : PassesOwn (model P1 w) (ktrTop dp un gd "_law_by_count" ctS L 141 (.ref 140) [] outer) (envX "_law_by_count" ctS L 141 (.ref 140) []) E) (R : List (Addr × Obj)) {rd sd : Addr} {sv : List Value} {sts : List (Int × Bool × Int)} {ks kr : Nat} {p9 : Int} {q : Nat} {t3 t4 : Tok}
  (N : News h₀ L s.heap ((rd, W.listOf #[] kr) :: R)) (hsd : (sd, W.listOf sv.toArray ks) ∈ R) (hS : StIn R sv sts) (hoff : OwnOff R [rd]) (hl : sts.length ≤ 40) (hc : ∀ e ∈ sts, 0 ≤ e.2.2 ∧ e.2.2 ≤ 100) (hq : q < 2)
  (hm4 : m "mark" = some (.str (mkS2 q) t3)) (hm5 : m "port" = some (.int p9 t4)) (hm6 : m "reached" = some (.ref rd)) (hm7 : m "states" = some (.ref sd))
  (ret : ∀ h' tk' m' rv' kr' TR', Fr h₀ L h' m' → (∀ z, z ≠ Str.ofString "adds" → z ≠ Str.ofString "after" → z ≠ Str.ofString "value" → z ≠ Str.ofString "added" → z ≠ Str.ofString "count" → m' z = m z) → News h₀ L h' ((rd, W.listOf rv'.toArray kr') :: (TR' ++ R)) → StIn TR' rv' (reach q p9 sts []) → OwnOff (TR' ++ R) [rd] → Q .next { s with heap := h', toks := tk' }) :
    wpAny (model P1 w) (ktrTop dp un gd "_law_by_count" ctS L 141 (.ref 140) [] outer) (exec ctV (envX "_law_by_count" ctS L 141 (.ref 140) [])) Q E s := by
  dsimp only [ctV, ctV0, ctS, ctS0]
  refine For_turns (hE := hE) F ?_
  refine nameX_L F hm7 ?_
  refine iter_listTurns (n := ks) (lo := W.listOf sv.toArray ks) rfl F N (.tail _ hsd) rfl rfl ?_
  intro I hI
  have hrI : @LT.lt Nat _ rd I := hI _ (.head _)
  refine itemsRest_of2 (fun vs' m1 news => ∃ (sts' acc : List (Int × Bool × Int)) (rv' : List Value) (kr' : Nat) (TR' : List (Addr × Obj)), StIn R vs' sts' ∧ (∀ e ∈ sts', 0 ≤ e.2.2 ∧ e.2.2 ≤ 100) ∧ reach q p9 sts' acc = reach q p9 sts [] ∧ news = (rd, W.listOf rv'.toArray kr') :: (TR' ++ R) ∧ StIn TR' rv' acc ∧ OwnOff (TR' ++ R) [rd] ∧ rv'.length + 2 * sts'.length ≤ 80 ∧ (∀ p ∈ TR', @Ne Nat p.1 I) ∧ (∀ z, z ≠ Str.ofString "adds" → z ≠ Str.ofString "after" → z ≠ Str.ofString "value" → z ≠ Str.ofString "added" → z ≠ Str.ofString "count" → m1 z = m z)) ?z ?s _ m _ ⟨sts, [], [], kr, [], hS, hc, rfl, rfl, trivial, hoff, by show 0 + 2 * sts.length ≤ 80; omega, fun p hp => (nomatch hp), fun _ _ _ _ _ _ => rfl⟩
  case z =>
    rintro m1 news ⟨sts', acc, rv', kr', TR', h1, h2, h3, rfl, h5, h6, h7, h8, em⟩ h tk F9 N9
    cases sts' with
    | cons e es => exact h1.elim
    | nil => exact ret _ _ _ rv' kr' TR' F9 em N9 (by rw [← h3]; exact h5) h6
  case s =>
    rintro v0 r m1 news ⟨sts', acc, rv', kr', TR', h1, h2, h3, rfl, h5, h6, h7, h8, em⟩ IH
    obtain ⟨⟨v, b, c⟩, es, a, t1, t2, rfl, rfl, hm, h1⟩ := stGet h1
    refine ItemsRest.val (fun h tk F9 => AllObj.cons (fun oI hoI => AllObj.nil (fun N9 => ?_)))
    simp only [List.cons_append, List.nil_append] at N9
    dsimp only at hm
    have hmT : (a, tup3 v b c t1 t2) ∈ TR' ++ R := List.mem_append_right _ hm
    have hcc := h2 _ (.head _)
    dsimp only at hcc
    rw [List.length_cons] at h7
    have g4 : m1 "mark" = some (.str (mkS2 q) t3) := (em "mark" (by decide) (by decide) (by decide) (by decide) (by decide)).trans hm4
    have g5 : m1 "port" = some (.int p9 t4) := (em "port" (by decide) (by decide) (by decide) (by decide) (by decide)).trans hm5
    have g6 : m1 "reached" = some (.ref rd) := (em "reached" (by decide) (by decide) (by decide) (by decide) (by decide)).trans hm6
    k_steps
    unfold StopFh
    rename Fr h₀ _ _ _ => kF; rename News h₀ _ _ _ => kN
    have kN2 := newsSw2 kN
    have kN3 : News h₀ L _ ((rd, W.listOf rv'.toArray kr') :: (TR' ++ ((I, oI) :: R))) := fun p hp => kN p (by
      simp only [List.mem_cons, List.mem_append] at hp ⊢
      rcases hp with h | h | h | h <;> simp only [h, true_or, or_true])
    have hoff3 : OwnOff (TR' ++ ((I, oI) :: R)) [rd] := by
      intro p hp x hx
      rw [List.mem_singleton.mp hx]
      rcases List.mem_append.mp hp with hp | hp
      · exact h6 p (List.mem_append_left _ hp) rd (.head _)
      rcases List.mem_cons.mp hp with rfl | hp
      · exact Nat.ne_of_gt hrI
      · exact h6 p (List.mem_append_right _ hp) rd (.head _)
    refine adds_code w dp un gd outer A₀ base h₀ L _ _ p loose mean mg mb Rr B kF X T hcd (by omega) (by omega) (by passes_own) ((I, oI) :: R) TR' kN3 h5 hoff3 (by omega) hcc.1 hcc.2 hq rfl rfl rfl (by exact g4) (by exact g5) (by exact g6) ?_
    intro h9 tk9 m9 rv9 kr9 TR9 F9 e9 N9 S9 o9
    dsimp only
    refine wpAny_execs_nil ?_
    dsimp only [UnrPostW]
    have hI9 := (N9 _ (.tail _ (List.mem_append_right _ (.head _)))).1
    have q1 : rv9.length ≤ rv'.length + 2 := by
      have z1 := S9.len
      have z2 := h5.len
      have z3 := push2_len q p9 (v, b, c) acc
      omega
    refine ⟨_, _, _, (rd, W.listOf rv9.toArray kr9) :: (dropA I TR9 ++ R), rfl, F9, fun p hp => N9 p ?_, fun p hp x hx => ?_, ⟨.tail _ (List.mem_append_right _ hsd), trivial⟩, IH _ _ ⟨es, _, rv9, kr9, dropA I TR9, h1, fun e he => h2 e (.tail _ he), h3, rfl, StIn.drop (I := I) (o := oI) (fun p hp e => ?_) (fun v b c t1 t2 e => ?_) S9, fun p hp x hx => ?_, by omega, fun p hp => (dropA_mem.mp hp).2, fun z z1 z2 z3 z4 z5 => ?_⟩⟩
    · simp only [List.cons_append, List.nil_append, List.mem_cons, List.mem_append] at hp ⊢
      rcases hp with h | h | h | h
      · exact .inr (.inr (.inl h))
      · exact .inl h
      · exact .inr (.inl (dropA_mem.mp h).1)
      · exact .inr (.inr (.inr h))
    · rw [List.mem_singleton.mp hx]
      rcases List.mem_cons.mp hp with rfl | hp
      · exact Nat.ne_of_lt hrI
      rcases List.mem_append.mp hp with hp | hp
      · exact (dropA_mem.mp hp).2
      · exact Nat.ne_of_lt (hI p (.tail _ hp))
    · have z1 := (N9 p (.tail _ (List.mem_append_left _ hp))).1
      rw [e, hI9] at z1
      exact (Option.some.inj z1).symm
    · rw [e] at hoI
      exact absurd (show "tuple" = "list_iterator" from Value.type.inj hoI) (by decide)
    · rcases List.mem_append.mp hp with hp | hp
      · exact o9 p (List.mem_append_left _ (dropA_mem.mp hp).1) x hx
      · exact o9 p (List.mem_append_right _ (.tail _ hp)) x hx
    · rw [e9 z z1 z2, if_neg z5, if_neg z4, if_neg z3]
      exact em z z1 z2 z3 z4 z5
end Mine

namespace Mine
set_option maxHeartbeats 2000000
noncomputable abbrev tupSI (mk : Str) (p : Int) (t1 t2 : Tok) : Obj := { cls := .type "tuple", data := .seq #[.str mk t1, .int p t2] }
noncomputable def TermIn (R : List (Addr × Obj)) : List Value → List (Nat × Int) → Prop
  | [], [] => True
  | .ref a :: vs, e :: es => (∃ t1 t2, (a, tupSI (mkS2 e.1) e.2 t1 t2) ∈ R) ∧ e.1 < 2 ∧ TermIn R vs es
  | _, _ => False
theorem TermIn.mono {R R' : List (Addr × Obj)} (hs : ∀ p ∈ R, p ∈ R') : ∀ {vs : List Value} {es : List (Nat × Int)}, TermIn R vs es → TermIn R' vs es
  | [], [], _ => trivial
  | .ref _ :: _, _ :: _, h => ⟨⟨h.1.choose, h.1.choose_spec.choose, hs _ h.1.choose_spec.choose_spec⟩, h.2.1, TermIn.mono hs h.2.2⟩
theorem TermIn.snoc {R : List (Addr × Obj)} : ∀ {vs : List Value} {es : List (Nat × Int)} {a : Addr} {e : Nat × Int}, TermIn R vs es → (∃ t1 t2, (a, tupSI (mkS2 e.1) e.2 t1 t2) ∈ R) → e.1 < 2 → TermIn R (vs ++ [.ref a]) (es ++ [e])
  | [], [], _, _, _, h, h1 => ⟨h, h1, trivial⟩
  | .ref _ :: _, _ :: _, _, _, h, h1, h2 => ⟨h.1, h.2.1, TermIn.snoc h.2.2 h1 h2⟩
theorem termGet {R : List (Addr × Obj)} {v : Value} {r : List Value} : ∀ {es : List (Nat × Int)}, TermIn R (v :: r) es → ∃ q p es2 a t1 t2, es = (q, p) :: es2 ∧ v = .ref a ∧ (a, tupSI (mkS2 q) p t1 t2) ∈ R ∧ q < 2 ∧ TermIn R r es2
  | [], h => by cases v <;> exact h.elim
  | e :: es2, h => by
    cases v <;> try exact h.elim
    obtain ⟨⟨t1, t2, hm⟩, h2, h3⟩ := h
    exact ⟨e.1, e.2, es2, _, t1, t2, rfl, rfl, hm, h2, h3⟩
theorem push1_cnt {q : Nat} {p : Int} {st : Int × Bool × Int} {b : Bool} {acc : List (Int × Bool × Int)} {k : Int} (hs : 0 ≤ st.2.2 ∧ st.2.2 ≤ k) (ha : ∀ e ∈ acc, 0 ≤ e.2.2 ∧ e.2.2 ≤ k + 1) : ∀ e ∈ push1 q p st b acc, 0 ≤ e.2.2 ∧ e.2.2 ≤ k + 1 := by
  intro e he
  unfold push1 at he
  split at he
  · rename_i h0
    rcases List.mem_append.mp he with h | h
    · exact ha e h
    · rw [List.mem_singleton.mp h]
      refine ⟨h0, ?_⟩
      show afterC q st.2.1 b st.2.2 ≤ k + 1
      unfold afterC
      split
      · split <;> omega
      · split <;> omega
  · exact ha e he
theorem reach_cnt {q : Nat} {p : Int} {k : Int} : ∀ (sts acc : List (Int × Bool × Int)), (∀ e ∈ sts, 0 ≤ e.2.2 ∧ e.2.2 ≤ k) → (∀ e ∈ acc, 0 ≤ e.2.2 ∧ e.2.2 ≤ k + 1) → ∀ e ∈ reach q p sts acc, 0 ≤ e.2.2 ∧ e.2.2 ≤ k + 1
  | [], _, _, ha => ha
  | st :: r, acc, hs, ha => reach_cnt r _ (fun e he => hs e (.tail _ he)) (push1_cnt (hs st (.head _)) (push1_cnt (hs st (.head _)) ha))
theorem reach_len {q : Nat} {p : Int} : ∀ (sts acc : List (Int × Bool × Int)), (reach q p sts acc).length ≤ acc.length + 2 * sts.length
  | [], _ => by simp [reach]
  | st :: r, acc => by
    have z := reach_len (q := q) (p := p) r (push2 q p st acc)
    have z2 := push2_len q p st acc
    show (reach q p r (push2 q p st acc)).length ≤ _
    rw [List.length_cons]; omega
noncomputable def StopBk (P : Prop) : Prop := P
theorem StopBk.go {P : Prop} (h : StopBk P) : P := h
local macro_rules | `(tactic| walk_at "UnrEndW") => `(tactic| refine StopBk.go ?_)
noncomputable def StopFk (P : Prop) : Prop := P
theorem StopFk.go {P : Prop} (h : StopFk P) : P := h
local macro_rules | `(tactic| walk_at "exec For") => `(tactic| refine StopFk.go ?_)
local macro_rules | `(tactic| walk_at "exec For Name") => `(tactic| refine StopFk.go ?_)
local macro_rules | `(tactic| walk_at "exec For Name List") => `(tactic| refine StopFk.go ?_)
local macro_rules | `(tactic| walk_at "exec For Name List cons nil") => `(tactic| refine StopFk.go ?_)
local macro_rules | `(tactic| walk_at "exec For Name Subscript") => `(tactic| refine StopFk.go ?_)
local macro_rules | `(tactic| walk_at "exec For Name Name") => `(tactic| refine StopFk.go ?_)
local macro_rules | `(tactic| walk_at "exec For Name Call") => `(tactic| refine StopFk.go ?_)
local macro_rules | `(tactic| walk_at "exec For Name Name cons nil") => `(tactic| refine StopFk.go ?_)
local macro_rules | `(tactic| walk_at "exec For Name Subscript cons nil") => `(tactic| refine StopFk.go ?_)
local macro_rules | `(tactic| walk_at "exec For Name Call cons nil") => `(tactic| refine StopFk.go ?_)
local macro_rules | `(tactic| walk_at "compareOp NotIn int ref") => `(tactic| (k_here; (with_reducible show wpAny _ _ (compareOp _ (Value.int _ _) (Value.ref _)) _ _ _); k_dflt (refine' notinL ?k1 ?k2 ?k3 ?_; (case k1 => k_asm); (case k2 => k_mem); (case k3 => assumption))))
local macro_rules | `(tactic| walk_at "call builtin:sorted") => `(tactic| (k_here; (with_reducible show wpAny _ _ (call (Value.builtin "sorted") [Value.ref _]) _ _ _); k_dflt (refine' sortedL ?k1 ?k2 ?k3 ?k4 ?k5 ?_; (case k1 => k_asm); (case k2 => k_asm); (case k3 => k_mem); (case k4 => assumption); (case k5 => omega); k_whole); intro D' vs' ns' c' h' F' N' l1 i1 p1 p2))
theorem count_code (w : World) (dp un : Nat) (gd : Option (List Code)) (cn : Str) (cs : Scope) (a : Addr) (ccd : Value) (cl : List (Str × Addr)) (outer : List Env) (A₀ : Around) (base h₀ : Heap) (L : Addr) (m : Str → Option Value) (s : Shared) (p : Program) (loose : List Str) (mean : ExcName → Option Value) (mg mb : Str → Option Value)
    (Rr : Result → Shared → Prop)
    (B : Below A₀ base outer h₀) (F : Fr h₀ L s.heap m) (X : (wPart w.params).In h₀) (T : Top p loose mean mg mb h₀) (hk : cs.kind = .function)
    (hcd : CodeHd base 123 119) (hd : dp + 90 < 1000) (hu : un + 1000 < 9900)
  (R : List (Addr × Obj)) {td : Addr} {tv : List Value} {ts : List (Nat × Int)} {kt : Nat} {first : Int} {t0 : Tok} (N : News h₀ L s.heap R) (htd : (td, W.listOf tv.toArray kt) ∈ R) (hT : TermIn R tv ts) (hl5 : ts.length ≤ 5)
  (ret : ∀ h' tk' D vs' ns' c, Fr h₀ L h' m → News h₀ L h' ((D, W.listOf vs'.toArray c) :: R) → IntsAre vs' ns' → ns'.Perm (valsC (walkC ts [(first, true, 0)])) → ns'.Pairwise (· ≤ ·) → Rr (.ok (.ret (.ref D))) { s with heap := h', toks := tk' }) :
    codeAny (model P1 w) (ktrTop dp un gd cn cs L a ccd cl outer) (.call (.ref 141) ⟨[.int first t0, .ref td], []⟩) Rr s := by
  k_dflt (refine' code_def ?k1 ?k2 ?k3 ?k4 ?k5 ?kA ?kF ?kK ?k6 ?k7 ?k8 ?k9 ?kB ?_ ?c2 ?c3 ?c4 ?c5; (case kA => exact rfl); (case kF => exact rfl); (case kK => assumption); (case k1 => k_asm); (case k2 => k_asm); (case k3 => k_asm); (case k4 => k_asm); (case k5 => k_asm); (case k6 => k_is); (case k7 => k_is); (case k8 => show _ < 1000; dsimp only [ktrTop]; omega); (case k9 => exact BindsTo.of_eq rfl); (case c5 => decide); (case kB => exact locs rfl); (case c2 => exact rfl); (case c3 => exact rfl); (case c4 => exact rfl); k_whole; intro g' L' h' FG' F' N' B' X' T'; (try dsimp only))
  k_steps
  unfold StopFk
  rename Fr _ _ _ _ => kF; rename News _ _ _ _ => kN
  rename_i D0 h5 l1 sd h6 l2 _
  refine For_turns (hE := by passes_own) kF ?_
  refine nameX_L kF (v := .ref td) rfl ?_
  refine iter_listTurns (n := kt) (lo := W.listOf tv.toArray kt) rfl kF kN (.tail _ (.tail _ htd)) rfl rfl ?_
  intro I hI
  have hIR : ∀ p ∈ R, @Ne Nat p.1 I := fun p hp => Nat.ne_of_lt (hI p (.tail _ (.tail _ hp)))
  clear hI
  refine itemsRest_of2 (fun vs' m1 news => ∃ (ts' : List (Nat × Int)) (sts : List (Int × Bool × Int)) (sd : Addr) (sv : List Value) (ks : Nat), TermIn R vs' ts' ∧ walkC ts' sts = walkC ts [(first, true, 0)] ∧ (sd, W.listOf sv.toArray ks) ∈ news ∧ StIn news sv sts ∧ (∀ p ∈ R, p ∈ news) ∧ (∀ e ∈ sts, 0 ≤ e.2.2 ∧ e.2.2 ≤ 5 - (ts'.length : Int)) ∧ sts.length * 2 ^ ts'.length ≤ 32 ∧ m1 "states" = some (.ref sd)) ?z ?s tv _ _ ⟨ts, [(first, true, 0)], sd, [Value.ref D0], 0, hT, rfl, .head _, ⟨⟨_, _, .tail _ (.head _)⟩, trivial⟩, fun p hp => .tail _ (.tail _ hp), ?b1, ?b2, rfl⟩
  case b1 =>
    intro e he
    rw [List.mem_singleton.mp he]
    dsimp only
    omega
  case b2 =>
    rw [List.length_singleton, Nat.one_mul]
    exact Nat.le_trans (Nat.pow_le_pow_right (by decide) hl5) (by decide)
  case z =>
    rintro m1 news ⟨ts', sts, sd, sv, ks, h1, h2, h3, h4, h5, h6, h7, hst⟩ h tk F9 N9
    cases ts' with
    | cons e es => exact h1.elim
    | nil =>
    rw [show walkC [] sts = sts from rfl] at h2
    rw [← h2] at ret
    rw [setB1 hst] at F9
    have hsl : sts.length ≤ 32 := by simpa using h7
    k_steps
    unfold StopFk
    rename Fr _ _ _ _ => kF; rename News _ _ _ _ => kN; rename (∀ p ∈ news, _) => l3
    rename_i fd _ _ _ _
    have hfoff : OwnOff news [fd] := fun p hp x hx => by
      rw [List.mem_singleton.mp hx]; exact Nat.ne_of_lt (l3 p hp)
    refine For_turns (hE := by passes_own) kF ?_
    refine nameX_L kF (v := .ref sd) rfl ?_
    refine iter_listTurns (n := ks) (lo := W.listOf sv.toArray ks) rfl kF kN (.tail _ h3) rfl rfl ?_
    intro I2 hI2
    have hfI : @LT.lt Nat _ fd I2 := hI2 _ (.head _)
    refine itemsRest_of2 (fun vs' m1 nw => ∃ (sts' : List (Int × Bool × Int)) (fs : List Int) (fv : List Value) (kf : Nat), StIn news vs' sts' ∧ sts'.foldl (fun f st => ins f st.1) fs = valsC sts ∧ nw = (fd, W.listOf fv.toArray kf) :: news ∧ IntsAre fv fs ∧ fs.length + sts'.length ≤ 40 ∧ m1 "found" = some (.ref fd)) ?z2 ?s2 sv _ _ ⟨sts, [], [], 0, h4, rfl, rfl, .nil, by show 0 + sts.length ≤ 40; omega, rfl⟩
    case z2 =>
      rintro m2 nw ⟨sts', fs, fv, kf, i1, i2, rfl, i4, i5, hfm⟩ h9 tk9 F10 N10
      cases sts' with
      | cons e es => exact i1.elim
      | nil =>
      rw [show List.foldl (fun f (st : Int × Bool × Int) => ins f st.1) fs [] = fs from rfl] at i2
      rw [← i2] at ret
      rw [setB1 hfm] at F10
      rw [List.length_nil] at i5
      clear kF kN
      k_steps
      rename Fr h₀ L _ m => kF; rename News h₀ L _ _ => kN
      exact ret _ _ _ _ _ _ kF (newsSub kN fun p hp => .tail _ (h5 p hp)) (by assumption) (by assumption) (by assumption)
    case s2 =>
      rintro v0 r m2 nw ⟨sts', fs, fv, kf, i1, i2, rfl, i4, i5, hfm⟩ IH
      obtain ⟨⟨v, b, c⟩, es, a, t1, t2, rfl, rfl, hm, i1⟩ := stGet i1
      refine ItemsRest.val (fun h tk F10 => AllObj.cons (fun oI hoI => AllObj.nil (fun N10 => ?_)))
      simp only [List.cons_append, List.nil_append] at N10
      have N10 := newsSw2 N10
      dsimp only at hm
      rw [setB1 hfm] at F10
      rw [List.length_cons] at i5
      have hoff2 : OwnOff ((I2, oI) :: news) [fd] := offC hfoff (Nat.ne_of_gt hfI)
      have hfl9 : fv.length ≤ 40 := by have z : fv.length = fs.length := i4.length; omega
      clear kF kN
      k_steps
      · unfold StopBk
        rename Fr _ _ _ _ => kF; rename News _ _ _ _ => kN
        rename (List.any _ _ = true) => hb
        refine ⟨_, _, _, (fd, W.listOf fv.toArray kf) :: news, rfl, kF, newsSw2 kN, ?_, ⟨.tail _ h3, trivial⟩, IH _ _ ⟨es, fs, _, _, i1, ?_, rfl, i4, by omega, rfl⟩⟩
        · intro p hp q hq
          rw [List.mem_singleton.mp hq]
          rcases List.mem_cons.mp hp with rfl | hp
          · exact Nat.ne_of_lt hfI
          · exact Nat.ne_of_lt (hI2 p (.tail _ hp))
        · rw [← i2]
          show _ = List.foldl _ (ins fs v) es
          unfold ins
          rw [if_pos hb]
      · unfold StopBk
        rename Fr _ _ _ _ => kF; rename News _ _ _ _ => kN
        rename (List.any _ _ = false) => hb
        refine ⟨_, _, _, (fd, W.listOf (fv ++ [Value.int v _]).toArray _) :: news, rfl, kF, newsSw2 (by rw [← pushL]; exact kN), ?_, ⟨.tail _ h3, trivial⟩, IH _ _ ⟨es, fs ++ [v], _, _, i1, ?_, rfl, i4.append (.cons _ _ .nil), by rw [List.length_append, List.length_singleton]; omega, rfl⟩⟩
        · intro p hp q hq
          rw [List.mem_singleton.mp hq]
          rcases List.mem_cons.mp hp with rfl | hp
          · exact Nat.ne_of_lt hfI
          · exact Nat.ne_of_lt (hI2 p (.tail _ hp))
        · rw [← i2]
          show _ = List.foldl _ (ins fs v) es
          unfold ins
          rw [if_neg (by rw [hb]; decide)]
  case s =>
    rintro v0 r m1 news ⟨ts', sts, sd, sv, ks, h1, h2, h3, h4, h5, h6, h7, hst⟩ IH
    obtain ⟨q, p9, es, a, t1, t2, rfl, rfl, hm, hq, h1⟩ := termGet h1
    refine ItemsRest.val (fun h tk F9 => AllObj.cons (fun oI hoI => AllObj.nil (fun N9 => ?_)))
    simp only [List.cons_append, List.nil_append] at N9
    have hmT : (a, tupSI (mkS2 q) p9 t1 t2) ∈ news := h5 _ hm
    rw [setB1 hst] at F9
    rw [List.length_cons] at h6 h7
    have hsl : sts.length ≤ 32 := Nat.le_trans (Nat.le_mul_of_pos_right _ (Nat.two_pow_pos _)) h7
    k_steps
    unfold StopFk
    rename Fr _ _ _ _ => kF; rename News _ _ _ _ => kN; rename (@LT.lt Nat _ I _ ∧ _) => l3
    rename_i rd _ _
    have l4 := allLt_mem l3.2
    have hoff : OwnOff ((I, oI) :: news) [rd] := by
      intro p hp x hx
      rw [List.mem_singleton.mp hx]
      rcases List.mem_cons.mp hp with rfl | hp
      · exact Nat.ne_of_lt l3.1
      · exact Nat.ne_of_lt (l4 p hp)
    refine states_code w _ _ _ _ _ base _ _ _ _ p loose mean mg mb Rr (by assumption) kF (by assumption) (by assumption) hcd ?yhd ?yhu (by passes_own) ((I, oI) :: news) kN (.tail _ h3) (h4.mono fun p hp => .tail _ hp) hoff (by omega) (fun e he => ?yc) hq rfl rfl rfl rfl ?_
    case yhd => show _ + 80 < 1000; (try dsimp only [ktrTop]); omega
    case yhu => show _ + 900 < 9900; (try dsimp only [ktrTop]); omega
    case yc => have z := h6 e he; omega
    intro h7' tk7 m7 rv7 kr7 TR7 F7 e7 N7 S7 o7
    have f1 : m7 "reached" = some (.ref rd) := (e7 "reached" (by decide) (by decide) (by decide) (by decide) (by decide)).trans rfl
    rw [setB1 f1] at F7
    clear kF kN
    dsimp only
    k_steps
    unfold StopBk
    rename Fr _ _ _ _ => kF; rename News _ _ _ _ => kN
    have hrI : @Ne Nat rd I := Nat.ne_of_gt l3.1
    have hlen := reach_len (q := q) (p := p9) sts []
    refine ⟨_, _, _, (rd, W.listOf rv7.toArray kr7) :: (dropA I TR7 ++ dropA I news), rfl, kF, fun p hp => kN p ?_, fun p hp x hx => ?_, ⟨.tail _ (List.mem_append_right _ (dropA_mem.mpr ⟨h5 _ htd, hIR _ htd⟩)), trivial⟩, IH _ _ ⟨es, reach q p9 sts [], rd, rv7, kr7, h1, h2, .head _, StIn.mono (fun p hp => .tail _ (List.mem_append_left _ hp)) (StIn.drop (I := I) (o := oI) (fun p hp e => ?_) (fun v b c t1 t2 e => ?_) S7), fun p hp => .tail _ (List.mem_append_right _ (dropA_mem.mpr ⟨h5 p hp, hIR p hp⟩)), fun e he => ?_, ?_, rfl⟩⟩
    · simp only [List.cons_append, List.nil_append, List.mem_cons, List.mem_append] at hp ⊢
      rcases hp with h | h | h | h
      · exact .inr (.inr (.inl h))
      · exact .inl h
      · exact .inr (.inl (dropA_mem.mp h).1)
      · exact .inr (.inr (.inr (dropA_mem.mp h).1))
    · rw [List.mem_singleton.mp hx]
      rcases List.mem_cons.mp hp with rfl | hp
      · exact hrI
      rcases List.mem_append.mp hp with hp | hp
      · exact (dropA_mem.mp hp).2
      · exact (dropA_mem.mp hp).2
    · have z1 := (kN p (.tail _ (List.mem_append_left _ hp))).1
      rw [e, (kN _ (.tail _ (List.mem_append_right _ (.head _)))).1] at z1
      exact (Option.some.inj z1).symm
    · rw [e] at hoI
      exact absurd (show "tuple" = "list_iterator" from Value.type.inj hoI) (by decide)
    · have z := reach_cnt (q := q) (p := p9) (k := 5 - ((es.length + 1 : Nat) : Int)) sts [] h6 (fun e he => nomatch he) e he
      omega
    · rw [List.length_nil, Nat.zero_add] at hlen
      have z := Nat.mul_le_mul_right (2 ^ es.length) hlen
      rw [Nat.pow_succ] at h7
      have e : 2 * sts.length * 2 ^ es.length = sts.length * (2 ^ es.length * 2) := by
        rw [Nat.mul_comm 2 sts.length, Nat.mul_assoc, Nat.mul_comm 2]
      omega
end Mine

namespace Mine
set_option maxHeartbeats 8000000
theorem sliceD {prog : Program} {w : World} {A : Around} {E : Value → Shared → Prop} {s : Shared} {h₀ : Heap} {L l : Addr} {m : Str → Option Value} {news : List (Addr × Obj)} {value slice : PySem.Expr} {vs : List Value} {n : Nat} {t1 : Tok} {Q : Value → Shared → Prop}
    (F : Fr h₀ L s.heap m) (N : News h₀ L s.heap news) (hm : (l, W.listOf vs.toArray n) ∈ news) (hz : vs.length ≤ 1000)
    (h : ∀ D h', Fr h₀ L h' m → News h₀ L h' ((D, W.listOf (vs.drop 1).toArray 0) :: news) → (∀ p ∈ news, @LT.lt Nat _ p.1 D) → Q (.ref D) { s with heap := h' })
    (hs : subscripted slice false (.ref l) (.ref s.heap.objs.size) = operate [.ref s.heap.objs.size, .ref l] (getItem (.ref l) (.ref s.heap.objs.size))) :
    wpAny (model prog w) A (subscriptTail value slice (.ref l) (.ref s.heap.objs.size)) Q E { s with heap := s.heap.push { cls := .type "slice", data := .fields #[.int 1 t1, .none, .none] } } := by
  have e : (slicePick vs.toArray (some 1) none none).toList = vs.drop 1 := by
    have e1 : sliceBounds (some (1 : Int)) none none vs.toArray.size = (((min 1 vs.length : Nat) : Int), ((vs.length : Nat) : Int), 1) := by
      unfold sliceBounds
      simp only [Option.getD_none, List.size_toArray]
      have h2 : max (0 : Int) (min (1 : Int) (vs.length : Int)) = ((min 1 vs.length : Nat) : Int) := by omega
      simp [h2]
    rw [kmk_pick_nat vs.toArray e1]
    have z : (List.take (vs.length - min 1 vs.length) (List.drop (min 1 vs.length) vs)) = vs.drop 1 := by
      rw [kmk_drop_min]
      refine List.take_of_length_le ?_
      rw [List.length_drop]; omega
    simpa using z
  refine kba_turn (value' := PySem.Expr.Name (PySem.Str.ofString "_") ⟨0, 0, 0, 0⟩) (fun _ => rfl) ?_
  exact kmk_slice_lit F N ⟨_, (N _ hm).1, rfl, _, rfl⟩ (.int 1 t1) .none e h hs (fun _ => rfl) (by rw [List.size_toArray]; exact Nat.le_trans hz (Nat.le_of_ble_eq_true rfl))
local macro_rules | `(tactic| walk_at "subscriptTail") => `(tactic| (k_here; (with_reducible show wpAny _ _ (subscriptTail _ (PySem.Expr.Slice _ none none _) (Value.ref _) (Value.ref _)) _ _ _); k_dflt (refine' sliceD ?k1 ?k2 ?k3 ?k4 ?_ ?k6; (case k1 => k_asm); (case k2 => k_asm); (case k3 => k_mem); (case k4 => omega); (case k6 => with_unfolding_all rfl); k_whole); intro D' h' F' N' l1; (try k_lt l1)))
local macro_rules | `(tactic| walk_at "subscriptTail Name Slice") => `(tactic| (k_here; (with_reducible show wpAny _ _ (subscriptTail _ (PySem.Expr.Slice _ none none _) (Value.ref _) (Value.ref _)) _ _ _); k_dflt (refine' sliceD ?k1 ?k2 ?k3 ?k4 ?_ ?k6; (case k1 => k_asm); (case k2 => k_asm); (case k3 => k_mem); (case k4 => omega); (case k6 => with_unfolding_all rfl); k_whole); intro D' h' F' N' l1; (try k_lt l1)))
local macro_rules | `(tactic| walk_at "subscriptTail Name Slice ref ref") => `(tactic| (k_here; (with_reducible show wpAny _ _ (subscriptTail _ (PySem.Expr.Slice _ none none _) (Value.ref _) (Value.ref _)) _ _ _); k_dflt (refine' sliceD ?k1 ?k2 ?k3 ?k4 ?_ ?k6; (case k1 => k_asm); (case k2 => k_asm); (case k3 => k_mem); (case k4 => omega); (case k6 => with_unfolding_all rfl); k_whole); intro D' h' F' N' l1; (try k_lt l1)))
noncomputable def StopBm (P : Prop) : Prop := P
theorem StopBm.go {P : Prop} (h : StopBm P) : P := h
local macro_rules | `(tactic| walk_at "UnrEndW") => `(tactic| refine StopBm.go ?_)
noncomputable def StopFm (P : Prop) : Prop := P
theorem StopFm.go {P : Prop} (h : StopFm P) : P := h
local macro_rules | `(tactic| walk_at "exec For") => `(tactic| refine StopFm.go ?_)
local macro_rules | `(tactic| walk_at "exec For Name") => `(tactic| refine StopFm.go ?_)
local macro_rules | `(tactic| walk_at "exec For Name List") => `(tactic| refine StopFm.go ?_)
local macro_rules | `(tactic| walk_at "exec For Name List cons nil") => `(tactic| refine StopFm.go ?_)
local macro_rules | `(tactic| walk_at "exec For Name Subscript") => `(tactic| refine StopFm.go ?_)
local macro_rules | `(tactic| walk_at "exec For Name Name") => `(tactic| refine StopFm.go ?_)
local macro_rules | `(tactic| walk_at "exec For Name Call") => `(tactic| refine StopFm.go ?_)
local macro_rules | `(tactic| walk_at "exec For Name Name cons nil") => `(tactic| refine StopFm.go ?_)
local macro_rules | `(tactic| walk_at "exec For Name Subscript cons nil") => `(tactic| refine StopFm.go ?_)
local macro_rules | `(tactic| walk_at "exec For Name Call cons nil") => `(tactic| refine StopFm.go ?_)
local macro_rules | `(tactic| walk_at "pyIter ref") => `(tactic| refine StopFm.go ?_)
noncomputable def tE (x : Int) : Nat × Int := (q2 x, ((p2 x : Nat) : Int))
theorem termLen {R : List (Addr × Obj)} : ∀ {vs : List Value} {es : List (Nat × Int)}, TermIn R vs es → vs.length = es.length
  | [], [], _ => rfl
  | .ref _ :: _, _ :: _, h => congrArg (· + 1) (termLen h.2.2)
theorem txtsLen : ∀ {vs : List Value} {es : List Str}, TxtsAre vs es → vs.length = es.length
  | [], [], _ => rfl
  | .str _ _ :: _, _ :: _, h => congrArg (· + 1) (txtsLen h.2)
noncomputable def InvD (x0 : Int) (xs : List Int) (tm rp D I : Addr) (sv1 : List Value) (R : List (Addr × Obj)) (m : Str → Option Value) (vs' : List Value) (m1 : Str → Option Value) (news : List (Addr × Obj)) : Prop :=
  ∃ (ns' es : List Int) (vsT vsR : List Value) (kt kr : Nat) (TR : List (Addr × Obj)), IntsAre vs' ns' ∧ es ++ ns' = xs ∧ news = (tm, W.listOf vsT.toArray kt) :: (rp, W.listOf vsR.toArray kr) :: (TR ++ ((D, W.listOf sv1.toArray 0) :: R)) ∧ TermIn TR vsT (es.map tE) ∧ TxtsAre vsR (rep0 (k2 x0) :: es.map rep2E) ∧ OwnOff (TR ++ ((D, W.listOf sv1.toArray 0) :: R)) [tm, rp] ∧ (∀ p ∈ TR, @Ne Nat p.1 I) ∧
    m1 "terms" = some (.ref tm) ∧ m1 "replies" = some (.ref rp) ∧ (∀ z, z ≠ Str.ofString "x" → z ≠ Str.ofString "mark" → z ≠ Str.ofString "port" → m1 z = m z)
theorem modQ {prog : Program} {w : World} {A : Around} {E : Value → Shared → Prop} {s : Shared} {n k : Int} {t u : Tok} {Q : Value → Shared → Prop} (ek : k = 2) (h : Q (.int ((q2 n : Nat) : Int) s.toks) { s with toks := s.toks + 1 }) : wpAny (model prog w) A (binaryOp .Mod (.int n t) (.int k u)) Q E s := by
  subst ek
  refine PyProof.Rows.mod_int (by decide) ?_
  rw [Int.fmod_eq_emod_of_nonneg _ (by decide), show n % 2 = ((q2 n : Nat) : Int) by unfold q2; omega]
  exact h
theorem modP {prog : Program} {w : World} {A : Around} {E : Value → Shared → Prop} {s : Shared} {n k : Int} {t u : Tok} {Q : Value → Shared → Prop} (ek : k = 1000000000000) (h : Q (.int ((p2 n : Nat) : Int) s.toks) { s with toks := s.toks + 1 }) : wpAny (model prog w) A (binaryOp .Mod (.int ((n.natAbs / 2 : Nat) : Int) t) (.int k u)) Q E s := by
  subst ek
  refine PyProof.Rows.mod_int (by decide) ?_
  rw [Int.fmod_eq_emod_of_nonneg _ (by decide)]
  exact h
theorem divA {prog : Program} {w : World} {A : Around} {E : Value → Shared → Prop} {s : Shared} {n k : Int} {t u : Tok} {Q : Value → Shared → Prop} (ek : k = 2) (h : Q (.int ((n.natAbs / 2 : Nat) : Int) s.toks) { s with toks := s.toks + 1 }) : wpAny (model prog w) A (binaryOp .FloorDiv (.int ((n.natAbs : Nat) : Int) t) (.int k u)) Q E s := by
  subst ek
  refine PyProof.Rows.floordiv_int (by decide) ?_ (Or.inl (PyProof.noPylong_small (by decide)))
  rw [Int.fdiv_eq_ediv_of_nonneg _ (by decide)]; exact h
theorem absN {prog : Program} {w : World} {A : Around} {E : Value → Shared → Prop} {s : Shared} {n : Int} {t : Tok} {Q : Value → Shared → Prop} (h : ∀ u tk, Q (.int ((n.natAbs : Nat) : Int) u) { s with toks := tk }) : wpAny (model prog w) A (call (.builtin "abs") [.int n t]) Q E s := by
  refine call_abs_int fun u tk => ?_
  rw [show (if n < 0 then -n else n) = ((n.natAbs : Nat) : Int) by split <;> omega]
  exact h u tk
theorem mark2_at (x : Int) : Txt.item (Str.ofString "+-") ((q2 x : Nat) : Int) = mkS2 (q2 x) := by
  have k : ∀ i : Fin 2, Txt.item (Str.ofString "+-") ((i.val : Nat) : Int) = mkS2 i.val := by decide +kernel
  exact k ⟨q2 x, q2_lt x⟩
local macro_rules | `(tactic| walk_at "binaryOp Mod int int") => `(tactic| first | refine modP (by decide) ?_ | refine modQ (by decide) ?_)
local macro_rules | `(tactic| walk_at "binaryOp FloorDiv int int") => `(tactic| refine divA (by decide) ?_)
local macro_rules | `(tactic| walk_at "call builtin:abs") => `(tactic| (k_here; (with_reducible show wpAny _ _ (call (Value.builtin "abs") [Value.int _ _]) _ _ _); refine absN fun u tk => ?_))
local macro_rules | `(tactic| walk_at "subscriptTail") => `(tactic| (k_here; (with_reducible show wpAny _ _ (subscriptTail _ _ (Value.str _ _) (Value.int _ _)) _ _ _); (refine KXi.item (n := 2) (by decide) ?yk1 ?yk2 ?yk3 ?_; (case yk1 => omega); (case yk2 => omega); (case yk3 => omega)); intro kxiE; rw [mark2_at] at kxiE ⊢))
theorem strP (x : Int) : (((p2 x : Nat) : Int)).natAbs.log2 < 1920 := by
  have h := p2_lt x
  exact shown (N := 10 ^ 13) (by omega) (by omega) (by decide)
local macro_rules | `(tactic| walk_at "call type:str") => `(tactic| (k_here; (with_reducible show wpAny _ _ (call (Value.type "str") [Value.int _ _]) _ _ _); refine P.str_of_int (strP _) ?_))
theorem endD {h₀ h' : Heap} {L : Addr} {s₁ : Shared} {tk : Nat} {oI : Obj} {RR TR R : List (Addr × Obj)} {x0 x : Int} {xs ns2 es : List Int} {tm rp D I T : Addr} {sv1 r vsT vsR : List Value} {k1 k3 : Nat} {ta tb tc : Tok} {txt : Str} {m m2 : Str → Option Value} {J : (Str → Option Value) → List (Addr × Obj) → Prop}
    (kF : Fr h₀ L h' m2) (kN : News h₀ L h' ((T, tupSI (mkS2 (q2 x)) ((p2 x : Nat) : Int) ta tb) :: (I, oI) :: (tm, W.listOf (vsT.toArray.push (.ref T)) k1) :: (rp, W.listOf (vsR.toArray.push (.str txt tc)) k3) :: RR))
    (l1 : @LT.lt Nat _ I T ∧ @LT.lt Nat _ tm T ∧ @LT.lt Nat _ rp T ∧ AllLt T RR) (hRR : TR ++ ((D, W.listOf sv1.toArray 0) :: R) = RR) (htxt : txt = rep2E x)
    (hIt : @LT.lt Nat _ tm I) (hIr : @LT.lt Nat _ rp I) (hID : @LT.lt Nat _ D I) (hIR : ∀ p ∈ R, @LT.lt Nat _ p.1 I)
    (IH : ∀ m' news', InvD x0 xs tm rp D I sv1 R m r m' news' → J m' news') (i1 : IntsAre r ns2) (i2 : es ++ x :: ns2 = xs) (i4 : TermIn TR vsT (es.map tE)) (i5 : TxtsAre vsR (rep0 (k2 x0) :: es.map rep2E)) (i6 : OwnOff RR [tm, rp]) (i7 : ∀ p ∈ TR, @Ne Nat p.1 I)
    (n1 : m2 "terms" = some (.ref tm)) (n2 : m2 "replies" = some (.ref rp)) (em : ∀ z, z ≠ Str.ofString "x" → z ≠ Str.ofString "mark" → z ≠ Str.ofString "port" → m2 z = m z) :
    UnrEndW h₀ L s₁ [(I, oI)] (fun m' n' => SubL [(D, W.listOf sv1.toArray 0)] n' ∧ J m' n') { s₁ with heap := h', toks := tk } := by
  subst hRR
  refine ⟨_, _, _, (tm, W.listOf (vsT ++ [Value.ref T]).toArray k1) :: (rp, W.listOf (vsR ++ [Value.str txt tc]).toArray k3) :: (((T, tupSI (mkS2 (q2 x)) ((p2 x : Nat) : Int) ta tb) :: TR) ++ ((D, W.listOf sv1.toArray 0) :: R)), rfl, kF, fun p hp => kN p ?_, fun p hp y hy => ?_, ⟨.tail _ (.tail _ (List.mem_append_right _ (.head _))), trivial⟩, IH _ _ ⟨ns2, es ++ [x], _, _, k1, k3, _, i1, by rw [← i2, List.append_assoc]; rfl, rfl, ?_, ?_, ?_, ?_, n1, n2, em⟩⟩
  · rw [pushL, pushL]
    simp only [List.cons_append, List.nil_append, List.mem_cons, List.mem_append] at hp ⊢
    rcases hp with h | h | h | h | h | h | h <;> simp only [h, true_or, or_true]
  · rw [List.mem_singleton.mp hy]
    simp only [List.cons_append, List.mem_cons, List.mem_append] at hp
    rcases hp with rfl | rfl | rfl | hp | rfl | hp
    · exact Nat.ne_of_lt hIt
    · exact Nat.ne_of_lt hIr
    · exact Nat.ne_of_gt l1.1
    · exact i7 p hp
    · exact Nat.ne_of_lt hID
    · exact Nat.ne_of_lt (hIR p hp)
  · rw [List.map_append]
    exact TermIn.snoc (i4.mono fun p hp => .tail _ hp) ⟨ta, tb, .head _⟩ (q2_lt x)
  · rw [List.map_append, htxt]
    exact TxtsAre.snoc (ys := rep0 (k2 x0) :: es.map rep2E) i5
  · intro p hp y hy
    rcases List.mem_cons.mp (show p ∈ (T, _) :: (TR ++ ((D, W.listOf sv1.toArray 0) :: R)) from hp) with rfl | hp
    · simp only [List.mem_cons, List.not_mem_nil, or_false] at hy
      rcases hy with rfl | rfl
      · exact Nat.ne_of_gt l1.2.1
      · exact Nat.ne_of_gt l1.2.2.1
    · exact i6 p hp y hy
  · intro p hp
    rcases List.mem_cons.mp hp with rfl | hp
    · exact Nat.ne_of_gt l1.1
    · exact i7 p hp
local macro_rules | `(tactic| walk_at "storeName") => `(tactic| (k_here; (try dsimp only); k_dflt (refine' storeX_L ?F ?N ?_ ?a ?b; (case F => k_asm); (case N => k_asm); (case a => rfl); (case b => rfl); k_whole); intro h' F' N'; (try k_sweep)))
theorem draw_code (w : World) (dp un : Nat) (gd : Option (List Code)) (a : Addr) (ccd : Value) (cl : List (Str × Addr)) (outer : List Env) (A₀ : Around) (base h₀ : Heap) (L : Addr) (m : Str → Option Value) (s : Shared) (p : Program) (loose : List Str) (mean : ExcName → Option Value) (mg mb : Str → Option Value)
    (Rr : Result → Shared → Prop)
    (B : Below A₀ base outer h₀) (F : Fr h₀ L s.heap m) (X : (wPart w.params).In h₀) (T : Top p loose mean mg mb h₀)
    (hcd : CodeHd base 123 119) (hd : dp + 80 < 1000) (hu : un + 900 < 9900)
  {E : Value → Shared → Prop} {Q : Flow → Shared → Prop} (hE : PassesOwn (model P1 w) (ktrTop dp un gd "law" lawS L a ccd cl outer) (envX "law" lawS L a ccd cl) E) (R : List (Addr × Obj)) {tl tm rp : Addr} {sv : List Value} {x0 : Int} {xs : List Int} {kl kt kr : Nat} {tx : Tok}
  (N : News h₀ L s.heap ((tm, W.listOf #[] kt) :: (rp, W.listOf [Value.str (rep0 (k2 x0)) tx].toArray kr) :: R)) (htl : (tl, W.listOf sv.toArray kl) ∈ R) (hsi : IntsAre sv (x0 :: xs)) (hxl : xs.length ≤ 5) (hoff : OwnOff R [tm, rp]) (hne : @Ne Nat tm rp)
  (hm1 : m "told" = some (.ref tl)) (hm2 : m "terms" = some (.ref tm)) (hm3 : m "replies" = some (.ref rp))
  (ret : ∀ h' tk' m' vsT vsR kt kr TR, Fr h₀ L h' m' → News h₀ L h' ((tm, W.listOf vsT.toArray kt) :: (rp, W.listOf vsR.toArray kr) :: (TR ++ R)) → m' "terms" = some (.ref tm) → m' "replies" = some (.ref rp) → (∀ z, z ≠ Str.ofString "x" → z ≠ Str.ofString "mark" → z ≠ Str.ofString "port" → m' z = m z) → TermIn TR vsT (xs.map tE) → TxtsAre vsR (repsE (x0 :: xs)) → OwnOff (TR ++ R) [tm, rp] → Q .next { s with heap := h', toks := tk' }) :
    wpAny (model P1 w) (ktrTop dp un gd "law" lawS L a ccd cl outer) (exec lawW4 (envX "law" lawS L a ccd cl)) Q E s := by
  dsimp only [lawW4, lawW40, lawS, lawS0]
  have hsl : sv.length = xs.length + 1 := hsi.length
  refine For_turns (hE := hE) F ?_
  have e1 := setB1 hm1
  rw [e1] at F
  k_steps
  unfold StopFm
  rename Fr h₀ _ _ _ => kF; rename News h₀ _ _ _ => kN; rename (@LT.lt Nat _ tm _ ∧ _) => l1
  rename_i D h5
  rw [← e1] at kF
  obtain ⟨v0, sv1, rfl, hsi1⟩ : ∃ v0 sv1, sv = v0 :: sv1 ∧ IntsAre sv1 xs := by cases hsi; exact ⟨_, _, rfl, by assumption⟩
  rw [show List.drop 1 (v0 :: sv1) = sv1 from rfl] at kN
  have kN2 : News h₀ L h5 ((tm, W.listOf #[] kt) :: (rp, W.listOf [Value.str (rep0 (k2 x0)) tx].toArray kr) :: ([] ++ ((D, W.listOf sv1.toArray 0) :: R))) := fun p hp => kN p (by
    simp only [List.mem_cons, List.nil_append] at hp ⊢
    rcases hp with h | h | h | h <;> simp only [h, true_or, or_true])
  refine iter_listTurns (n := 0) (lo := W.listOf sv1.toArray 0) rfl kF kN2 (.tail _ (.tail _ (.head _))) rfl rfl ?_
  intro I hI
  have hIt : @LT.lt Nat _ tm I := hI _ (.head _)
  have hIr : @LT.lt Nat _ rp I := hI _ (.tail _ (.head _))
  have hID : @LT.lt Nat _ D I := hI _ (.tail _ (.tail _ (.head _)))
  have hIR : ∀ p ∈ R, @LT.lt Nat _ p.1 I := fun p hp => hI p (.tail _ (.tail _ (.tail _ hp)))
  clear kF kN kN2
  refine itemsRest_of2 (InvD x0 xs tm rp D I sv1 R m) ?z ?s sv1 m _ ⟨xs, [], [], [Value.str (rep0 (k2 x0)) tx], kt, kr, [], hsi1, rfl, rfl, trivial, ⟨rfl, trivial⟩, ?b1, fun p hp => (nomatch hp), hm2, hm3, fun _ _ _ _ => rfl⟩
  case b1 =>
    intro p hp x hx
    rcases List.mem_cons.mp (show p ∈ (D, W.listOf sv1.toArray 0) :: R from hp) with rfl | hp
    · simp only [List.mem_cons, List.not_mem_nil, or_false] at hx
      rcases hx with rfl | rfl
      · exact Nat.ne_of_gt l1.1
      · exact Nat.ne_of_gt l1.2.1
    · exact hoff p hp x hx
  case z =>
    rintro m1 news ⟨ns', es, vsT, vsR, kt', kr', TR, i1, i2, rfl, i4, i5, i6, i7, n1, n2, em⟩ h tk F9 N9
    cases i1
    rw [List.append_nil] at i2
    subst i2
    exact ret _ _ _ _ _ kt' kr' TR F9 (fun p hp => N9 p (by
      simp only [List.mem_cons, List.mem_append] at hp ⊢
      rcases hp with h | h | h | h <;> simp only [h, true_or, or_true])) n1 n2 em i4 i5 (fun p hp => i6 p (by
      simp only [List.mem_cons, List.mem_append] at hp ⊢
      rcases hp with h | h <;> simp only [h, true_or, or_true]))
  case s =>
    rintro v1 r m1 news ⟨ns', es, vsT, vsR, kt', kr', TR, i1, i2, rfl, i4, i5, i6, i7, n1, n2, em⟩ IH
    cases i1
    rename_i x tx9 ns2 i1
    refine ItemsRest.val (fun h tk F9 => AllObj.cons (fun oI hoI => AllObj.nil (fun N9 => ?_)))
    simp only [List.cons_append, List.nil_append] at N9
    rw [setB2 n1 n2] at F9
    have hel : es.length ≤ 5 := by
      have z := congrArg List.length i2
      rw [List.length_append, List.length_cons] at z; omega
    have hvT : vsT.length ≤ 100 := by have z := termLen i4; rw [List.length_map] at z; omega
    have hvR : vsR.length ≤ 100 := by have z := txtsLen i5; rw [List.length_cons, List.length_map] at z; omega
    have hq2 : q2 x < 2 := q2_lt x
    have hp9 : p2 x < 1000000000000 := p2_lt x
    have hmk : (mkS2 (q2 x)).length = 1 := rfl
    have hml : (Txt.mul (mkS2 (q2 x)) 3).length = 3 := by unfold mkS2; rfl
    have hnl : (Str.ofString (toString ((p2 x : Nat) : Int))).length ≤ 25 := (numS_len (y := ((p2 x : Nat) : Int)) (by omega) (by have := p2_lt x; omega)).1
    generalize hRR : TR ++ ((D, W.listOf sv1.toArray 0) :: R) = RR at i6 N9
    k_steps
    unfold StopBm
    rename Fr h₀ _ _ _ => kF; rename News h₀ _ _ _ => kN; rename (@LT.lt Nat _ I _ ∧ _) => l2
    refine endD kF kN l2 hRR rfl hIt hIr hID hIR IH i1 i2 i4 i5 i6 i7 rfl rfl ?_
    intro z z1 z2 z3
    rw [if_neg z3, if_neg z2, if_neg z1]
    exact (congrFun (setB2 n1 n2) z).symm.trans (em z z1 z2 z3)
end Mine

namespace Mine
set_option maxHeartbeats 2000000
noncomputable def StopBn (P : Prop) : Prop := P
theorem StopBn.go {P : Prop} (h : StopBn P) : P := h
local macro_rules | `(tactic| walk_at "UnrEndW") => `(tactic| refine StopBn.go ?_)
theorem div2X {prog : Program} {w : World} {A : Around} {E : Value → Shared → Prop} {s : Shared} {n k : Int} {t u : Tok} {Q : Value → Shared → Prop} (ek : k = 2) (h : Q (.int (n / 2) s.toks) { s with toks := s.toks + 1 }) : wpAny (model prog w) A (binaryOp .FloorDiv (.int n t) (.int k u)) Q E s := by
  subst ek
  refine PyProof.Rows.floordiv_int (by decide) ?_ (Or.inl (PyProof.noPylong_small (by decide)))
  rw [Int.fdiv_eq_ediv_of_nonneg _ (by decide)]; exact h
theorem div6X {prog : Program} {w : World} {A : Around} {E : Value → Shared → Prop} {s : Shared} {n k : Int} {t u : Tok} {Q : Value → Shared → Prop} (ek : k = 6) (h : Q (.int (n / 6) s.toks) { s with toks := s.toks + 1 }) : wpAny (model prog w) A (binaryOp .FloorDiv (.int n t) (.int k u)) Q E s := by
  subst ek
  refine PyProof.Rows.floordiv_int (by decide) ?_ (Or.inl (PyProof.noPylong_small (by decide)))
  rw [Int.fdiv_eq_ediv_of_nonneg _ (by decide)]; exact h
theorem mod3X {prog : Program} {w : World} {A : Around} {E : Value → Shared → Prop} {s : Shared} {n k : Int} {t u : Tok} {Q : Value → Shared → Prop} (ek : k = 3) (h : Q (.int ((mn2 n : Nat) : Int) s.toks) { s with toks := s.toks + 1 }) : wpAny (model prog w) A (binaryOp .Mod (.int (n / 2) t) (.int k u)) Q E s := by
  subst ek
  refine PyProof.Rows.mod_int (by decide) ?_
  rw [Int.fmod_eq_emod_of_nonneg _ (by decide), show n / 2 % 3 = ((mn2 n : Nat) : Int) by unfold mn2; omega]
  exact h
theorem mod4X {prog : Program} {w : World} {A : Around} {E : Value → Shared → Prop} {s : Shared} {n k : Int} {t u : Tok} {Q : Value → Shared → Prop} (ek : k = 4) (h : Q (.int (((n / 6 % 4).toNat : Nat) : Int) s.toks) { s with toks := s.toks + 1 }) : wpAny (model prog w) A (binaryOp .Mod (.int (n / 6) t) (.int k u)) Q E s := by
  subst ek
  refine PyProof.Rows.mod_int (by decide) ?_
  rw [Int.fmod_eq_emod_of_nonneg _ (by decide), show n / 6 % 4 = (((n / 6 % 4).toNat : Nat) : Int) by omega]
  exact h
@[irreducible] noncomputable def bS (x : Int) : Str := strOf [b2 x]
theorem bS_eq (x : Int) : bS x = strOf [b2 x] := by unfold bS; rfl
theorem ws2_at (x : Int) : Txt.item (Str.ofString " \t\n\r") (((x / 6 % 4).toNat : Nat) : Int) = bS x := by
  rw [bS_eq]
  have k : ∀ i : Fin 4, Txt.item (Str.ofString " \t\n\r") ((i.val : Nat) : Int) = strOf [wsOf i.val] := by decide +kernel
  exact k ⟨(x / 6 % 4).toNat, by omega⟩
local macro_rules | `(tactic| walk_at "binaryOp FloorDiv int int") => `(tactic| first | refine div2X (by decide) ?_ | refine div6X (by decide) ?_)
local macro_rules | `(tactic| walk_at "binaryOp Mod int int") => `(tactic| first | refine mod3X (by decide) ?_ | refine mod4X (by decide) ?_)
local macro_rules | `(tactic| walk_at "subscriptTail") => `(tactic| (k_here; (with_reducible show wpAny _ _ (subscriptTail _ _ (Value.str _ _) (Value.int _ _)) _ _ _); (refine KXi.item (n := 4) (by decide) ?yk1 ?yk2 ?yk3 ?_; (case yk1 => omega); (case yk2 => omega); (case yk3 => omega)); intro kxiE; rw [ws2_at] at kxiE ⊢))
theorem zipRest {prog : Program} {w : World} {A : Around} {E : Value → Shared → Prop} {h₀ : Heap} {env : Env} {target : PySem.Expr} {body : List Stmt} {Q : Flow → Shared → Prop} {s : Shared} {wsA : List (Addr × String)} {keep : List (Addr × Obj)} (Inv : List Value → List Value → (Str → Option Value) → List (Addr × Obj) → Prop) (hlen : ∀ vs us m news, Inv vs us m news → vs.length = us.length)
    (zero : ∀ m news, Inv [] [] m news → ∀ h tk, Fr h₀ env.locals h m → News h₀ env.locals h news → Q .next { s with heap := h, toks := tk })
    (succ : ∀ v u r q m news, Inv (v :: r) (u :: q) m news → (∀ m' news', Inv r q m' news' → ItemsRest prog w A E h₀ env target body Q s wsA keep (zipItems r q) m' news') → ItemsRest prog w A E h₀ env target body Q s wsA keep (.pair (fun _ => v) u :: zipItems r q) m news) :
    ∀ vs us m news, Inv vs us m news → ItemsRest prog w A E h₀ env target body Q s wsA keep (zipItems vs us) m news
  | [], [], m, news, h => .zero (zero m news h)
  | [], _ :: _, m, news, h => absurd (hlen _ _ _ _ h) (by simp)
  | _ :: _, [], m, news, h => absurd (hlen _ _ _ _ h) (by simp)
  | v :: r, u :: q, m, news, h => succ v u r q m news h (zipRest Inv hlen zero succ r q)
theorem strOf_len (l : List Nat) : (strOf l).length = l.length := by simp [Str.length]
local macro_rules | `(tactic| walk_at "loadName") => `(tactic| (k_here; refine wpAny_loadName_local (by rfl) (by rfl) (Fr.ns (by k_asm)) (by rfl) ?_))
noncomputable def StopZ (P : Prop) : Prop := P
theorem StopZ.go {P : Prop} (h : StopZ P) : P := h
local macro_rules | `(tactic| walk_at "call type:zip") => `(tactic| refine StopZ.go ?_)
local macro_rules | `(tactic| walk_at "call ref") => `(tactic| (k_here; (with_reducible show wpAny _ _ (call (Value.ref 129) _) _ _ _); refine StopZ.go ?_))
local macro_rules | `(tactic| walk_at "storeName") => `(tactic| (k_here; (try dsimp only); k_dflt (refine' storeX_L ?F ?N ?_ ?a ?b; (case F => k_asm); (case N => k_asm); (case a => rfl); (case b => rfl); k_whole); intro h' F' N'; (try k_sweep)))
theorem text_code (w : World) (dp un : Nat) (gd : Option (List Code)) (a : Addr) (ccd : Value) (cl : List (Str × Addr)) (outer : List Env) (A₀ : Around) (base h₀ : Heap) (L : Addr) (m : Str → Option Value) (s : Shared) (p : Program) (loose : List Str) (mean : ExcName → Option Value) (mg mb : Str → Option Value)
    (Rr : Result → Shared → Prop)
    (B : Below A₀ base outer h₀) (F : Fr h₀ L s.heap m) (X : (wPart w.params).In h₀) (T : Top p loose mean mg mb h₀)
    (hcd : CodeHd base 123 119) (hd : dp + 80 < 1000) (hu : un + 900 < 9900)
  {E : Value → Shared → Prop} {Q : Flow → Shared → Prop} (hE : PassesOwn (model P1 w) (ktrTop dp un gd "law" lawS L a ccd cl outer) (envX "law" lawS L a ccd cl) E) (R : List (Addr × Obj)) {tl rp : Addr} {sv vsR : List Value} {xs : List Int} {ys : List Str} {kl kr : Nat} {t0 : Tok}
  (N : News h₀ L s.heap R) (htl : (tl, W.listOf sv.toArray kl) ∈ R) (hsi : IntsAre sv xs) (hrp : (rp, W.listOf vsR.toArray kr) ∈ R) (hT : TxtsAre vsR ys) (hxl : xs.length ≤ 6) (hyl : xs.length = ys.length) (hy : ∀ y ∈ ys, y.length ≤ 40)
  (hm1 : m "told" = some (.ref tl)) (hm2 : m "replies" = some (.ref rp)) (hm3 : m "text" = some (.str (strOf []) t0))
  (ret : ∀ h' tk' m' t, Fr h₀ L h' m' → News h₀ L h' R → m' "text" = some (.str (strOf (textX xs ys)) t) → (∀ z, z ≠ Str.ofString "x" → z ≠ Str.ofString "reply" → z ≠ Str.ofString "text" → m' z = m z) → Q .next { s with heap := h', toks := tk' }) :
    wpAny (model P1 w) (ktrTop dp un gd "law" lawS L a ccd cl outer) (exec lawW6 (envX "law" lawS L a ccd cl)) Q E s := by
  dsimp only [lawW6, lawW60, lawS, lawS0]
  refine For_turns (hE := hE) F ?_
  have e1 := setB2 hm1 hm2
  rw [e1] at F
  k_steps
  unfold StopZ
  rw [← e1] at F
  refine ktu_zip (lo1 := W.listOf sv.toArray kl) (lo2 := W.listOf vsR.toArray kr) rfl F N htl rfl rfl hrp rfl rfl ?_
  intro I hI
  refine zipRest (fun vs us m1 news => ∃ (xa xb : List Int) (ya yb : List Str) (t : Tok), IntsAre vs xb ∧ TxtsAre us yb ∧ xa ++ xb = xs ∧ ya ++ yb = ys ∧ xa.length = ya.length ∧ xb.length = yb.length ∧ news = R ∧ m1 "text" = some (.str (strOf (textX xa ya)) t) ∧ (∀ z, z ≠ Str.ofString "x" → z ≠ Str.ofString "reply" → z ≠ Str.ofString "text" → m1 z = m z)) ?l ?z ?s sv vsR m R ⟨[], xs, [], ys, t0, hsi, hT, rfl, rfl, rfl, hyl, rfl, hm3, fun _ _ _ _ => rfl⟩
  case l =>
    rintro vs us m1 news ⟨xa, xb, ya, yb, t, a1, a2, a3, a4, a5, a6, a7, a8, a9⟩
    rw [a1.length, txtsLen a2]; exact a6
  case z =>
    rintro m1 news ⟨xa, xb, ya, yb, t, a1, a2, a3, a4, a5, a6, rfl, a8, a9⟩ h tk F9 N9
    cases a1
    cases yb with
    | cons y yb => exact a2.elim
    | nil =>
    rw [List.append_nil] at a3 a4
    subst a3 a4
    exact ret _ _ _ _ F9 N9 a8 a9
  case s =>
    rintro v u r q m1 news ⟨xa, xb, ya, yb, t, a1, a2, a3, a4, a5, a6, rfl, a8, a9⟩ IH
    cases a1
    rename_i x tx xb a1
    cases yb with
    | nil => cases u <;> exact a2.elim
    | cons y yb =>
    cases u <;> try exact a2.elim
    rename_i y' ty
    obtain ⟨rfl, a2⟩ := a2
    refine ItemsRest.pair (fun T9 t9 h tk hTup F9 => AllObj.cons (fun o1 ho1 => AllObj.cons (fun o2 ho2 => AllObj.cons (fun o3 ho3 => AllObj.cons (fun o4 ho4 => AllObj.cons (fun o5 ho5 => AllObj.nil (fun N9 => ?_)))))))
    simp only [List.cons_append, List.nil_append] at N9
    rw [setB1 a8] at F9
    have hyl9 := hy y' (by rw [← a4]; exact List.mem_append_right _ (.head _))
    have hya : ∀ z ∈ ya, z.length ≤ 40 := fun z hz => hy z (by rw [← a4]; exact List.mem_append_left _ hz)
    have htl9 : (strOf (textX xa ya)).length ≤ 500 := by
      rw [strOf_len]
      have z := textX_len xa ya hya
      have z2 := congrArg List.length a4
      rw [List.length_append, List.length_cons] at z2
      omega
    have hwl9 : (strOf (wordL (mn2 x) y'.cps.toList)).length ≤ 82 := by
      rw [strOf_len]
      have z := wordL_len (mn2 x) y'.cps.toList
      have e : y'.cps.toList.length = y'.length := by simp [Str.length]
      omega
    have hbl : (bS x).length = 1 := by rw [bS_eq]; rfl
    obtain ⟨tA, htA⟩ : ∃ z, z = strOf (textX xa ya) := ⟨_, rfl⟩
    obtain ⟨wA, hwA⟩ : ∃ z, z = strOf (wordL (mn2 x) y'.cps.toList) := ⟨_, rfl⟩
    rw [← htA] at F9 htl9
    rw [← hwA] at hwl9
    k_steps
    unfold StopZ
    rename Fr h₀ _ _ _ => kF; rename News h₀ _ _ _ => kN
    refine wpAny_call (word_code w dp un gd _ _ a ccd cl outer A₀ base h₀ L _ _ p loose mean mg mb _ B kF X T rfl hcd (by omega) (by omega) _ kN hyl9 (mn2_lt x) ?_)
    intro h8 tk8 t8 F8 N8
    rw [← hwA]
    clear kF kN
    k_steps
    unfold StopBn
    rename Fr h₀ _ _ _ => kF; rename News h₀ _ _ _ => kN
    have htx : tA ++ (wA ++ bS x) = strOf (textX (xa ++ [x]) (ya ++ [y'])) := by
      have e : textX [x] [y'] = wordL (mn2 x) y'.cps.toList ++ [b2 x] := by
        show wordX x y' ++ [] = _
        rw [List.append_nil]; rfl
      rw [textX_app _ _ _ _ a5, e, htA, hwA, bS_eq, strOf_app, strOf_app]
    refine ⟨_, _, _, news, rfl, kF, kN, ?_, ⟨htl, hrp, trivial⟩, IH _ _ ⟨xa ++ [x], xb, ya ++ [y'], yb, _, a1, a2, by rw [← a3, List.append_assoc]; rfl, by rw [← a4, List.append_assoc]; rfl, by simp [a5], by simpa using a6, rfl, congrArg (fun z => some (Value.str z _)) htx, ?_⟩⟩
    · intro p hp z hz
      have hl := hI p hp
      simp only [List.mem_cons, List.not_mem_nil, or_false] at hz
      rcases hz with rfl | rfl | rfl | rfl | rfl
      · exact Nat.ne_of_lt (Nat.lt_of_lt_of_le hl (Nat.le_add_right _ _))
      · exact Nat.ne_of_lt (Nat.lt_of_lt_of_le hl (Nat.le_add_right _ _))
      · exact Nat.ne_of_lt (Nat.lt_of_lt_of_le hl (Nat.le_add_right _ _))
      · exact Nat.ne_of_lt hl
      · exact Nat.ne_of_lt (Nat.lt_of_lt_of_le hl (Nat.le_add_right _ _))
    · intro z z1 z2 z3
      rw [if_neg z3, if_neg z2, if_neg z1, if_neg z3]
      exact a9 z z1 z2 z3
end Mine

namespace Mine
set_option maxHeartbeats 2000000
noncomputable def Stop7 (P : Prop) : Prop := P
theorem Stop7.go {P : Prop} (h : Stop7 P) : P := h
local macro_rules | `(tactic| walk_at "call ref") => `(tactic| (k_here; (with_reducible show wpAny _ _ (call (Value.ref 49) _) _ _ _); refine Stop7.go ?_))
theorem newsOut {h₀ h : Heap} {L : Addr} {i c d x y : Addr × Obj} {R : List (Addr × Obj)} (N : News h₀ L h (i :: c :: d :: x :: y :: R)) : News h₀ L h (x :: y :: i :: c :: d :: R) := fun p hp => N p (by
  simp only [List.mem_cons] at hp ⊢
  rcases hp with h | h | h | h | h | h <;> simp only [h, true_or, or_true])
theorem newsIn {h₀ h : Heap} {L : Addr} {i c d x y : Addr × Obj} {R : List (Addr × Obj)} (N : News h₀ L h (x :: y :: i :: c :: d :: R)) : News h₀ L h (i :: c :: d :: x :: y :: R) := fun p hp => N p (by
  simp only [List.mem_cons] at hp ⊢
  rcases hp with h | h | h | h | h | h <;> simp only [h, true_or, or_true])
theorem offOut {I C D : Addr} {oI oC oD : Obj} {x y : Addr × Obj} {R : List (Addr × Obj)} (h : LCg.Off3 I C D (x :: y :: R)) (ho : OwnOff R [x.1, y.1]) : (∀ p ∈ (I, oI) :: (C, oC) :: (D, oD) :: R, p.1 ≠ x.1) ∧ ∀ p ∈ (I, oI) :: (C, oC) :: (D, oD) :: R, p.1 ≠ y.1 := by
  obtain ⟨⟨a1, a2, a3⟩, ⟨b1, b2, b3⟩, _⟩ := h
  refine ⟨fun p hp => ?_, fun p hp => ?_⟩ <;>
  · rcases List.mem_cons.mp hp with rfl | hp
    · exact Ne.symm (by assumption)
    rcases List.mem_cons.mp hp with rfl | hp
    · exact Ne.symm (by assumption)
    rcases List.mem_cons.mp hp with rfl | hp
    · exact Ne.symm (by assumption)
    · first | exact ho p hp _ (.head _) | exact ho p hp _ (.tail _ (.head _))
theorem offIn {I C D : Addr} {x y x' y' : Addr × Obj} {R : List (Addr × Obj)} (h : LCg.Off3 I C D ((x.1, x.2) :: (y.1, y.2) :: R)) (e1 : x'.1 = x.1 := by rfl) (e2 : y'.1 = y.1 := by rfl) : LCg.Off3 I C D (x' :: y' :: R) := by
  obtain ⟨a, b, c⟩ := h
  exact ⟨by rw [e1]; exact a, by rw [e2]; exact b, c⟩
theorem strOf_self (y : Str) : strOf y.cps.toList = y := by
  show (⟨y.cps.toList.toArray⟩ : Str) = y
  rw [Array.toArray_toList]
theorem words_code (w : World) (dp un : Nat) (gd : Option (List Code)) (a : Addr) (ccd : Value) (c1 : Addr) (outer : List Env) (A₀ : Around) (base h₀ : Heap) (L : Addr) (m : Str → Option Value) (s : Shared) (p : Program) (loose : List Str) (mean : ExcName → Option Value) (mg mb : Str → Option Value)
    (Rr : Result → Shared → Prop)
    (B : Below A₀ base outer h₀) (F : Fr h₀ L s.heap m) (X : (wPart w.params).In h₀) (T : Top p loose mean mg mb h₀)
    (hcd : CodeHd base 123 119) (hd : dp + 80 < 1000) (hu : un + 900 < 9900)
  {E : Value → Shared → Prop} {Q : Flow → Shared → Prop} (R : List (Addr × Obj)) {lx dx st at_ pb rp : Addr} {o1 : Obj} {text : Str} {Tx : List Nat} {kk kp kr : Nat} {n : Int} {tp tn t1 t2 t3 t4 t5 : Tok} {vsR : List Value} {ys : List Str}
  (N : News h₀ L s.heap ((at_, W.listOf #[.int 0 tp] kk) :: (dx, lexD w n tn st pb t1 t2 t3 t4 t5) :: R)) (LI : LexIn w R lx dx st at_ text) (hpb : (pb, W.listOf #[] kp) ∈ R)
  (ho : OwnOff R [at_, dx]) (hne : @Ne Nat at_ dx) (hlen : text.length ≤ 1000) (hx : text.cps.toList = Tx) (hn : n = 1) (hc1 : (c1, o1) ∈ R) (hc1d : o1.data = .cell (some (.ref lx))) (hrp : (rp, W.listOf vsR.toArray kr) ∈ R) (hm : m "replies" = some (.ref rp)) (hT : TxtsAre vsR ys) (hes : ys.length ≤ 6) (hrd : ReadsT Tx ys)
  (ret : ∀ h' tk' D ws pos tp kk n tn rem, Fr h₀ L h' (fun z => if z = Str.ofString "words" then some (.ref D) else m z) → News h₀ L h' ((D, LCg.lst ws) :: (at_, W.listOf #[.int (pos : Nat) tp] kk) :: (dx, lexD w n tn st pb t1 t2 t3 t4 t5) :: R) → TxtsAre ws ys → Tx.drop pos = rem → Tok3 rem [] [] → (0 ≤ n ∧ n ≤ (pos : Int) + 1) → pos ≤ Tx.length + 10 → LCg.Off1 D ((at_, W.listOf #[.int (pos : Nat) tp] kk) :: (dx, lexD w n tn st pb t1 t2 t3 t4 t5) :: R) → Q .next { s with heap := h', toks := tk' }) :
    wpAny (model P1 w) (ktrTop dp un gd "law" lawS L a ccd [(Str.ofString "lexer", c1)] outer) (exec lawSt5 (envX "law" lawS L a ccd [(Str.ofString "lexer", c1)])) Q E s := by
  dsimp only [lawSt5, lawSt50]
  refine LCg.Assign_ListComp_U F rfl rfl rfl (by decide +kernel) rfl (by decide +kernel) rfl rfl rfl ?_
  refine nameX_L F hm ?_
  have hvl : vsR.length = ys.length := txtsLen hT
  refine LCg.CompSrc.ledger (k := kr) rfl F N (.tail _ (.tail _ hrp)) ?_ fun g => ?_
  · rw [List.size_toArray, hvl]; exact Nat.le_trans hes (Nat.le_of_ble_eq_true rfl)
  have hTl : Tx.length ≤ 1000 := by rw [← hx]; simpa [Str.length] using hlen
  refine compInv vsR.toArray.size (fun i us news => ∃ (pos : Nat) (tp : Tok) (kk : Nat) (n : Int) (tn : Tok) (rem : List Nat), news = (at_, W.listOf #[.int (pos : Nat) tp] kk) :: (dx, lexD w n tn st pb t1 t2 t3 t4 t5) :: R ∧ TxtsAre us (ys.take i) ∧ Tx.drop pos = rem ∧ ReadsT rem (ys.drop i) ∧ 0 ≤ n ∧ n ≤ (pos : Int) + 1 ∧ pos ≤ Tx.length + i) ?fin ?step _ 0 [] _ (by omega) ⟨0, tp, kk, n, tn, Tx, rfl, trivial, rfl, hrd, by omega, by omega, by omega⟩
  case fin =>
    rintro us news ⟨pos, tp, kk, n, tn, rem, rfl, hT2, hdr, hR, hn0, hn1, hpos⟩ D h tk F9 N9 hoff
    rw [List.size_toArray, hvl] at hT2 hR hpos
    rw [List.take_of_length_le (Nat.le_refl _)] at hT2
    rw [List.drop_of_length_le (Nat.le_refl _)] at hR
    cases hR with
    | nil hTk => exact ret _ _ _ _ _ _ _ _ _ _ F9 N9 hT2 hdr hTk ⟨hn0, hn1⟩ (by omega) hoff
  case step =>
    rintro i us news v I oI C oC D m₂ h tk E' hi ⟨pos, tp, kk, n, tn, rem, rfl, hT2, hdr, hR, hn0, hn1, hpos⟩ hP hns hm2 F9 N9 hoff hne3
    have hil : i < ys.length := by rw [List.size_toArray, hvl] at hi; exact hi
    rw [List.drop_eq_getElem_cons hil] at hR
    have i1 : (lx, instObj 59 dx) ∈ R := by obtain ⟨_, _, _, _, _, _, _, _, _, _, _, _, _, _, _, _, _, i1, _⟩ := LI; exact i1
    dsimp only [lawS, lawS0]
    k_steps
    unfold Stop7
    dsimp only [List.append_nil]
    cases hR with
    | cons hTk hR2 =>
    rename_i b
    refine wpAny_call (gettok_code w dp un gd _ _ a ccd _ outer A₀ base h₀ L m _ p loose mean mg mb _ B F9 X T rfl hcd (by omega) (by omega) ((I, oI) :: (C, oC) :: (D, LCg.lst us) :: R) (newsOut N9) (LI.mono fun p hp => .tail _ (.tail _ (.tail _ hp))) (.tail _ (.tail _ (.tail _ hpb)))
      (offOut hoff ho).1 (offOut hoff ho).2 hne (by omega) hx ⟨by omega, by omega⟩ (by omega) hTk hdr ?_)
    intro h' tk' u k' u2 n' tn' pos' q1 q2 q3 q4 F' N'
    refine ⟨_, _, _, rfl, F', newsIn N', offIn hoff, .inr ⟨_, .tail _ (.tail _ hrp), rfl, _, rfl⟩, pos', u, k', n', tn', b, rfl, ?_, q1, hR2, q3, q4, by omega⟩
    rw [List.take_succ, List.getElem?_eq_getElem hil, Option.toList_some, strOf_self]
    exact hT2.snoc
end Mine

namespace Mine
set_option maxHeartbeats 8000000
theorem setBk4 {m1 : Str → Option Value} {x1 x2 x3 x4 : Str} {v1 v2 v3 v4 : Value} (h1 : m1 x1 = some v1) (h2 : m1 x2 = some v2) (h3 : m1 x3 = some v3) (h4 : m1 x4 = some v4) : m1 = fun y => if y = x1 then some v1 else if y = x2 then some v2 else if y = x3 then some v3 else if y = x4 then some v4 else m1 y := by
  funext y
  by_cases e1 : y = x1
  · rw [if_pos e1, e1, h1]
  rw [if_neg e1]
  by_cases e2 : y = x2
  · rw [if_pos e2, e2, h2]
  rw [if_neg e2]
  by_cases e3 : y = x3
  · rw [if_pos e3, e3, h3]
  rw [if_neg e3]
  by_cases e4 : y = x4
  · rw [if_pos e4, e4, h4]
  rw [if_neg e4]
noncomputable def encQ (l : List Nat) : List Nat := l.flatMap fun c => if c = 34 then [34, 34] else [c]
noncomputable def Inv257 (g : Heap) (L : Addr) (news : List (Addr × Obj)) (gw : Str) (gL rest l : List Nat) (h : Heap) (m1 : Str → Option Value) (acc : List Nat) (i : Nat) : Prop :=
  Fr g L h m1 ∧ News g L h news ∧ (∃ t, m1 "resp" = some (.str gw t)) ∧ (∃ t, m1 "dirname" = some (.str (strOf acc) t)) ∧ (∃ t, m1 "i" = some (.int (i : Nat) t)) ∧ (∃ t, m1 "n" = some (.int (gw.length : Nat) t)) ∧
    gw.cps.toList.drop i = encQ l ++ 34 :: 32 :: rest ∧ acc ++ l = gL
theorem loop257 {prog : Program} {w : World} {A : Around} {E : Value → Shared → Prop} {env : Env} {test : PySem.Expr} {body orelse : List Stmt} {Q : Flow → Shared → Prop} {s : Shared} {g : Heap} {L : Addr} {news : List (Addr × Obj)} {gw : Str} {gL rest : List Nat}
    (zero : ∀ h tk m1 acc i, Inv257 g L news gw gL rest [] h m1 acc i → WhlRest prog w A E env test body orelse Q 100 { s with heap := h, toks := tk })
    (succ : ∀ c r h tk m1 acc i, Inv257 g L news gw gL rest (c :: r) h m1 acc i → (∀ h' tk' m1' j, Inv257 g L news gw gL rest r h' m1' (acc ++ [c]) j → WhlRest prog w A E env test body orelse Q 100 { s with heap := h', toks := tk' }) →
      WhlRest prog w A E env test body orelse Q 100 { s with heap := h, toks := tk }) :
    ∀ l h tk m1 acc i, Inv257 g L news gw gL rest l h m1 acc i → WhlRest prog w A E env test body orelse Q 100 { s with heap := h, toks := tk }
  | [], h, tk, m1, acc, i, H => zero h tk m1 acc i H
  | c :: r, h, tk, m1, acc, i, H => succ c r h tk m1 acc i H fun h' tk' m1' j H' => loop257 zero succ r h' tk' m1' _ j H'
theorem encQ_len : ∀ l : List Nat, l.length ≤ (encQ l).length
  | [] => Nat.le_refl _
  | c :: r => by
    have z := encQ_len r
    show _ ≤ ((if c = 34 then [34, 34] else [c]) ++ encQ r).length
    rw [List.length_append, List.length_cons]
    split <;> simp only [List.length_cons, List.length_nil] <;> omega
local macro_rules | `(tactic| walk_at "ite") => `(tactic| first | refine ite_neg (by rw [Bool.not_eq_true]; with_reducible assumption) ?_ | refine ite_pos (by with_reducible assumption) ?_ | refine ite_neg (by omega) ?_ | refine ite_pos (by omega) ?_)
noncomputable def Stop2 (P : Prop) : Prop := P
theorem Stop2.go {P : Prop} (h : Stop2 P) : P := h
local macro_rules | `(tactic| walk_at "exec") => `(tactic| ((with_reducible show wpAny _ _ (exec (PySem.Stmt.While _ _ _ _) _) _ _ _); refine whl_start 100 ?_; refine Stop2.go ?_))
local macro_rules | `(tactic| walk_at "exec While") => `(tactic| ((with_reducible show wpAny _ _ (exec (PySem.Stmt.While _ _ _ _) _) _ _ _); refine whl_start 100 ?_; refine Stop2.go ?_))
local macro_rules | `(tactic| walk_at "exec While Compare") => `(tactic| ((with_reducible show wpAny _ _ (exec (PySem.Stmt.While _ _ _ _) _) _ _ _); refine whl_start 100 ?_; refine Stop2.go ?_))
local macro_rules | `(tactic| walk_at "exec While Compare cons nil") => `(tactic| ((with_reducible show wpAny _ _ (exec (PySem.Stmt.While _ _ _ _) _) _ _ _); refine whl_start 100 ?_; refine Stop2.go ?_))
local macro_rules | `(tactic| walk_at "WhlRest") => `(tactic| refine Stop2.go ?_)
open PySem.StrLaws PySem.Builtin PySem.Builtin.Str in
theorem item_at {x : Str} {i c : Nat} {r : List Nat} (h : x.cps.toList.drop i = c :: r) : Txt.item x (i : Int) = strOf [c] := by
  have e : x.cps[i]? = some c := by
    have z : x.cps.toList[i]? = some c := by
      have := congrArg (fun l : List Nat => l[0]?) h
      simpa using this
    simpa using z
  unfold Txt.item
  have : Txt.charAt x (i : Int) = some c := by
    have hl : i < x.length := by
      have := (Array.getElem?_eq_some_iff.mp e).1
      exact this
    unfold Txt.charAt PySem.seqIndex?
    have h1 : ¬ ((i : Int) < 0) := by omega
    simp [h1, hl, e]
  rw [this]
  rfl
theorem drop_len {l : List Nat} {i : Nat} {k r : List Nat} (h : l.drop i = k ++ r) : i + k.length + r.length ≤ l.length ∨ k ++ r = [] := by
  have := congrArg List.length h
  rw [List.length_drop, List.length_append] at this
  by_cases z : k ++ r = []
  · exact .inr z
  · left
    have : 0 < (k ++ r).length := List.length_pos_iff.mpr z
    rw [List.length_append] at this
    omega
local macro_rules | `(tactic| walk_at "WhlIf") => `(tactic| refine WhlIf.yes (decide_eq_true (by omega)) ?_)
local macro_rules | `(tactic| walk_at "subscriptTail") => `(tactic| (k_here; (with_reducible show wpAny _ _ (subscriptTail _ _ (Value.str _ _) (Value.int _ _)) _ _ _); (refine KXi.item rfl ?k1 ?k2 ?k3 ?_; (case k1 => omega); (case k2 => omega); (case k3 => omega)); intro kxiE))
theorem stE : Str.ofString "\"" = strOf [34] := by decide +kernel
theorem p257_code (w : World) (dp un : Nat) (gd : Option (List Code)) (cn : Str) (cs : Scope) (a : Addr) (ccd : Value) (cl : List (Str × Addr)) (outer : List Env) (A₀ : Around) (base h₀ : Heap) (L : Addr) (m : Str → Option Value) (s : Shared) (p : Program) (loose : List Str) (mean : ExcName → Option Value) (mg mb : Str → Option Value)
    (Rr : Result → Shared → Prop)
    (B : Below A₀ base outer h₀) (F : Fr h₀ L s.heap m) (X : (wPart w.params).In h₀) (T : Top p loose mean mg mb h₀) (hk : cs.kind = .function)
    (hcd : CodeHd base 123 119) (hd : dp + 60 < 1000) (hu : un + 600 < 9900)
  (R : List (Addr × Obj)) {gw : Str} {tg : Tok} (N : News h₀ L s.heap R) (hlen : 6 ≤ gw.length ∧ gw.length ≤ 100) (e2 : (Txt.slice gw none (some 3) != Str.ofString "257") = false) (e3 : (Txt.slice gw (some 3) (some 5) != Str.ofString " \"") = false)
  {gL rest : List Nat} (hg : gw.cps.toList.drop 5 = encQ gL ++ 34 :: 32 :: rest)
  (ret : ∀ h' tk' t, Fr h₀ L h' m → News h₀ L h' R → Rr (.ok (.ret (.str (strOf gL) t))) { s with heap := h', toks := tk' }) :
    codeAny (model P1 w) (ktrTop dp un gd cn cs L a ccd cl outer) (.call (.ref 114) ⟨[.str gw tg], []⟩) Rr s := by
  k_dflt (refine' code_def ?k1 ?k2 ?k3 ?k4 ?k5 ?kA ?kF ?kK ?k6 ?k7 ?k8 ?k9 ?kB ?_ ?c2 ?c3 ?c4 ?c5; (case kA => exact rfl); (case kF => exact rfl); (case kK => assumption); (case k1 => k_asm); (case k2 => k_asm); (case k3 => k_asm); (case k4 => k_asm); (case k5 => k_asm); (case k6 => k_is); (case k7 => k_is); (case k8 => show _ < 1000; dsimp only [ktrTop]; omega); (case k9 => exact BindsTo.of_eq rfl); (case c5 => decide); (case kB => exact locs rfl); (case c2 => exact rfl); (case c3 => exact rfl); (case c4 => exact rfl); k_whole; intro g' L' h' FG' F' N' B' X' T'; (try dsimp only))
  k_steps
  unfold Stop2
  rename Fr _ _ _ _ => kF; rename News _ _ _ _ => kN
  refine loop257 (s := s) (gL := gL) ?z ?s gL _ _ _ [] 5 ⟨kF, kN, ⟨_, rfl⟩, ⟨_, rfl⟩, ⟨_, rfl⟩, ⟨_, rfl⟩, hg, rfl⟩
  case z =>
    clear kF kN
    rintro h9 tk9 m9 acc i ⟨F9, N9, ⟨u1, hm1⟩, ⟨u2, hm2⟩, ⟨u3, hm3⟩, ⟨u4, hm4⟩, hdr, hacc⟩
    rw [setBk4 hm1 hm2 hm3 hm4] at F9
    rw [show encQ [] = [] from rfl, List.nil_append] at hdr
    have hl : i + 1 < gw.length := by
      have z := congrArg List.length hdr
      rw [List.length_drop] at z
      simp only [List.length_cons] at z
      have e : gw.cps.toList.length = gw.length := by simp [Str.length]
      omega
    have q1 : (Txt.item gw (i : Int) == Str.ofString "\"") = true := by rw [item_at hdr, stE]; exact beq_self_eq_true _
    have q2 : (Txt.item gw ((i : Int) + 1) != Str.ofString "\"") = true := by
      rw [show ((i : Int) + 1) = ((i + 1 : Nat) : Int) from rfl, item_at (drop_tail hdr), stE]; decide
    rw [List.append_nil] at hacc
    rw [hacc] at F9
    refine' whl_turn ?hE ?_; (case hE => first | passes_own | with_unfolding_all passes_own)
    k_steps
    rename Fr _ L _ m => kF; rename News _ L _ _ => kN
    exact ret _ _ _ kF kN
  case s =>
    clear kF kN
    rintro c r h9 tk9 m9 acc i ⟨F9, N9, ⟨u1, hm1⟩, ⟨u2, hm2⟩, ⟨u3, hm3⟩, ⟨u4, hm4⟩, hdr, hacc⟩ IH
    rw [setBk4 hm1 hm2 hm3 hm4] at F9
    have hlz := congrArg List.length hdr
    rw [List.length_drop] at hlz
    have e : gw.cps.toList.length = gw.length := by simp [Str.length]
    have ha1 : (strOf acc).length ≤ 100 := by
      have z3 : (strOf acc).length = acc.length := by simp [Str.length]
      have z4 := congrArg List.length hacc
      have z5 := congrArg List.length hg
      have z6 := encQ_len gL
      rw [List.length_append, List.length_cons] at z4
      rw [List.length_drop, List.length_append] at z5
      omega
    by_cases hc : c = 34
    · subst hc
      have hd2 : gw.cps.toList.drop i = 34 :: 34 :: (encQ r ++ 34 :: 32 :: rest) := by rw [hdr]; rfl
      have hl : i + 2 < gw.length := by
        have z := congrArg List.length hd2
        rw [List.length_drop] at z
        simp only [List.length_cons, List.length_append] at z
        omega
      have hit := item_at hd2
      have q1 : (Txt.item gw (i : Int) == Str.ofString "\"") = true := by rw [hit, stE]; exact beq_self_eq_true _
      have q2 : (Txt.item gw ((i : Int) + 1) != Str.ofString "\"") = false := by
        rw [show ((i : Int) + 1) = ((i + 1 : Nat) : Int) from rfl, item_at (drop_tail hd2), stE]; decide
      have hi1 : (Txt.item gw (i : Int)).length = 1 := by rw [hit]; rfl
      refine' whl_turn ?hE ?_; (case hE => first | passes_own | with_unfolding_all passes_own)
      k_steps
      unfold Stop2
      rename Fr _ _ _ _ => kF; rename News _ _ _ _ => kN
      refine IH _ _ _ (i + 2) ⟨kF, kN, ⟨_, rfl⟩, ⟨?tt, ?ee⟩, ⟨_, rfl⟩, ⟨_, rfl⟩, drop_tail (drop_tail hd2), by rw [List.append_assoc]; exact hacc⟩
      case ee =>
       rw [show strOf (acc ++ [34]) = strOf acc ++ Txt.item gw (i : Int) by rw [hit]; exact strOf_app.symm]
       rfl
    · have hd2 : gw.cps.toList.drop i = c :: (encQ r ++ 34 :: 32 :: rest) := by
        rw [hdr]
        show ((if c = 34 then [34, 34] else [c]) ++ encQ r) ++ _ = _
        rw [if_neg hc]; rfl
      have hl : i + 1 < gw.length := by
        have z := congrArg List.length hd2
        rw [List.length_drop] at z
        simp only [List.length_cons, List.length_append] at z
        omega
      have hit := item_at hd2
      have q1 : (Txt.item gw (i : Int) == Str.ofString "\"") = false := by
        rw [hit, stE]
        refine beq_eq_false_iff_ne.mpr fun e => hc ?_
        have z := congrArg (fun x : Str => x.cps.toList) e
        simpa using z
      have hi1 : (Txt.item gw (i : Int)).length = 1 := by rw [hit]; rfl
      refine' whl_turn ?hE ?_; (case hE => first | passes_own | with_unfolding_all passes_own)
      k_steps
      unfold Stop2
      rename Fr _ _ _ _ => kF; rename News _ _ _ _ => kN
      refine IH _ _ _ (i + 1) ⟨kF, kN, ⟨_, rfl⟩, ⟨?tt2, ?ee2⟩, ⟨_, rfl⟩, ⟨_, rfl⟩, drop_tail hd2, by rw [List.append_assoc]; exact hacc⟩
      case ee2 =>
       rw [show strOf (acc ++ [c]) = strOf acc ++ Txt.item gw (i : Int) by rw [hit]; exact strOf_app.symm]
       rfl
end Mine

namespace Mine
set_option maxHeartbeats 2000000
local macro_rules | `(tactic| walk_at "subscriptTail") => `(tactic| (k_here; (with_reducible show wpAny _ _ (subscriptTail _ (PySem.Expr.Slice _ none none _) (Value.ref _) (Value.ref _)) _ _ _); k_dflt (refine' sliceD ?k1 ?k2 ?k3 ?k4 ?_ ?k6; (case k1 => k_asm); (case k2 => k_asm); (case k3 => k_mem); (case k4 => omega); (case k6 => with_unfolding_all rfl); k_whole); intro D' h' F' N' l1; (try k_lt l1)))
local macro_rules | `(tactic| walk_at "subscriptTail Name Slice") => `(tactic| (k_here; (with_reducible show wpAny _ _ (subscriptTail _ (PySem.Expr.Slice _ none none _) (Value.ref _) (Value.ref _)) _ _ _); k_dflt (refine' sliceD ?k1 ?k2 ?k3 ?k4 ?_ ?k6; (case k1 => k_asm); (case k2 => k_asm); (case k3 => k_mem); (case k4 => omega); (case k6 => with_unfolding_all rfl); k_whole); intro D' h' F' N' l1; (try k_lt l1)))
local macro_rules | `(tactic| walk_at "subscriptTail Name Slice ref ref") => `(tactic| (k_here; (with_reducible show wpAny _ _ (subscriptTail _ (PySem.Expr.Slice _ none none _) (Value.ref _) (Value.ref _)) _ _ _); k_dflt (refine' sliceD ?k1 ?k2 ?k3 ?k4 ?_ ?k6; (case k1 => k_asm); (case k2 => k_asm); (case k3 => k_mem); (case k4 => omega); (case k6 => with_unfolding_all rfl); k_whole); intro D' h' F' N' l1; (try k_lt l1)))
noncomputable def StopBr (P : Prop) : Prop := P
theorem StopBr.go {P : Prop} (h : StopBr P) : P := h
local macro_rules | `(tactic| walk_at "UnrEndW") => `(tactic| refine StopBr.go ?_)
noncomputable def StopFr (P : Prop) : Prop := P
theorem StopFr.go {P : Prop} (h : StopFr P) : P := h
local macro_rules | `(tactic| walk_at "exec For") => `(tactic| refine StopFr.go ?_)
local macro_rules | `(tactic| walk_at "exec For Name") => `(tactic| refine StopFr.go ?_)
local macro_rules | `(tactic| walk_at "exec For Name List") => `(tactic| refine StopFr.go ?_)
local macro_rules | `(tactic| walk_at "exec For Name List cons nil") => `(tactic| refine StopFr.go ?_)
local macro_rules | `(tactic| walk_at "exec For Name Subscript") => `(tactic| refine StopFr.go ?_)
local macro_rules | `(tactic| walk_at "exec For Name Name") => `(tactic| refine StopFr.go ?_)
local macro_rules | `(tactic| walk_at "exec For Name Call") => `(tactic| refine StopFr.go ?_)
local macro_rules | `(tactic| walk_at "exec For Name Name cons nil") => `(tactic| refine StopFr.go ?_)
local macro_rules | `(tactic| walk_at "exec For Name Subscript cons nil") => `(tactic| refine StopFr.go ?_)
local macro_rules | `(tactic| walk_at "exec For Name Call cons nil") => `(tactic| refine StopFr.go ?_)
local macro_rules | `(tactic| walk_at "pyIter ref") => `(tactic| refine StopFr.go ?_)
local macro_rules | `(tactic| walk_at "subscriptTail Name Constant str int") => `(tactic| (k_here; (with_reducible show wpAny _ _ (subscriptTail _ _ (Value.str _ _) (Value.int _ _)) _ _ _); (refine KXi.item rfl ?k1 ?k2 ?k3 ?_; (case k1 => omega); (case k2 => omega); (case k3 => omega)); intro kxiE; (with_reducible rename Txt.item _ 5 = _ => zzE); rw [zzE]))
local macro_rules | `(tactic| walk_at "call ref") => `(tactic| (k_here; (try dsimp only [List.append_nil, List.cons_append, List.nil_append]); (with_reducible show wpAny _ _ (call (Value.ref 107) [Value.str _ _, Value.ref _]) _ _ _); (with_reducible rename Good _ _ _ _ _ => ggG); k_dflt (refine' wpAny_call (p229_code _ _ _ _ _ _ _ _ _ _ _ _ _ _ _ _ _ _ _ _ _ _ ?B ?F ?X ?T ?hk ?hcd ?hd ?hu _ ?N ?ip ggG.len.1 ggG.len.2.1 ggG.e1 ggG.e2 ggG.e3 ggG.len.2.2.1 ggG.len.2.2.2 ggG.e4 ggG.e5 ggG.e6 ggG.e7 ggG.e8 ggG.e9 ?_); (case B => k_asm); (case F => k_asm); (case X => k_asm); (case T => k_asm); (case hk => first | rfl | assumption); (case hcd => assumption); (case N => k_asm); (case ip => exact .head _); (case hd => show _ + 40 < 1000; (try dsimp only [ktrTop]); omega); (case hu => show _ + 500 < 9900; (try dsimp only [ktrTop]); omega); k_whole; intro h' tk' o' u1 u2 l1 F' N'; (try simp only [AllLt] at l1); (try dsimp only at N'); (try k_sweep))))
local macro_rules | `(tactic| walk_at "storeName") => `(tactic| (k_here; (try dsimp only); k_dflt (refine' storeX_L ?F ?N ?_ ?a ?b; (case F => k_asm); (case N => k_asm); (case a => rfl); (case b => rfl); k_whole); intro h' F' N'; (try k_sweep)))
local macro_rules | `(tactic| walk_at "eval Dict") => `(tactic| (k_here; k_dflt (refine' kdn_eval (knd := PySem.intKind _ _) ?F ?N ?b ?a ?l ?e ?n ?_; (case F => k_asm); (case N => k_asm); (case b => exact Top.nolimit (by k_asm)); (case a => rfl); (case l => rfl); (case e => exact List.cons_ne_nil _ _); (case n => exact Nat.le_of_ble_eq_true rfl)); intro d' h' o' F' N' l1 lo' hd'; (try k_lt l1)))
theorem newsTell {h₀ h : Heap} {L nb wy : Addr} {a1 a2 a3 i : Addr × Obj} {nv wv : List Value} {v1 v2 : Value} {k1 k2 : Nat} {R : List (Addr × Obj)} (N : News h₀ L h (a1 :: a2 :: a3 :: i :: (nb, W.listOf (nv ++ [v1]).toArray k1) :: (wy, W.listOf (wv.toArray.push v2) k2) :: R)) :
    News h₀ L h ([i] ++ ((nb, W.listOf (nv ++ [v1]).toArray k1) :: (wy, W.listOf (wv ++ [v2]).toArray k2) :: R)) := fun p hp => N p (by
  rw [pushL]
  simp only [List.cons_append, List.nil_append, List.mem_cons] at hp ⊢
  rcases hp with h | h | h | h <;> simp only [h, true_or, or_true])
theorem tell_code (w : World) (dp un : Nat) (gd : Option (List Code)) (a : Addr) (ccd : Value) (cl : List (Str × Addr)) (outer : List Env) (A₀ : Around) (base h₀ : Heap) (L : Addr) (m : Str → Option Value) (s : Shared) (p : Program) (loose : List Str) (mean : ExcName → Option Value) (mg mb : Str → Option Value)
    (Rr : Result → Shared → Prop)
    (B : Below A₀ base outer h₀) (F : Fr h₀ L s.heap m) (X : (wPart w.params).In h₀) (T : Top p loose mean mg mb h₀)
    (hcd : CodeHd base 123 119) (hd : dp + 80 < 1000) (hu : un + 900 < 9900)
  {E : Value → Shared → Prop} {Q : Flow → Shared → Prop} (hE : PassesOwn (model P1 w) (ktrTop dp un gd "law" lawS L a ccd cl outer) (envX "law" lawS L a ccd cl) E) (R : List (Addr × Obj)) {wl nb wy : Addr} {ws : List Value} {y0 : Str} {xs : List Int} {kn kw : Nat} {n0 : Int} {ta tb : Tok}
  (N : News h₀ L s.heap ((nb, W.listOf [Value.int n0 ta].toArray kn) :: (wy, W.listOf [Value.int 1 tb].toArray kw) :: R)) (hwl : (wl, W.listOf ws.toArray ws.length) ∈ R) (hT : TxtsAre ws (y0 :: xs.map rep2E)) (hxl : xs.length ≤ 5) (hoff : OwnOff R [nb, wy]) (hne : @Ne Nat nb wy)
  (hm1 : m "words" = some (.ref wl)) (hm2 : m "numbers" = some (.ref nb)) (hm3 : m "ways" = some (.ref wy))
  (ret : ∀ h' tk' m' nv wv kn kw, Fr h₀ L h' m' → News h₀ L h' ((nb, W.listOf nv.toArray kn) :: (wy, W.listOf wv.toArray kw) :: R) → IntsAre nv (n0 :: xs.map fun x => ((p2 x : Nat) : Int)) → IntsAre wv (1 :: xs.map fun x => wI (q2 x == 0)) → m' "numbers" = some (.ref nb) → m' "ways" = some (.ref wy) → (∀ z, z ≠ Str.ofString "word" → z ≠ Str.ofString "host" → z ≠ Str.ofString "port" → m' z = m z) → Q .next { s with heap := h', toks := tk' }) :
    wpAny (model P1 w) (ktrTop dp un gd "law" lawS L a ccd cl outer) (exec lawW13 (envX "law" lawS L a ccd cl)) Q E s := by
  dsimp only [lawW13, lawW130, lawS, lawS0]
  have hsl : ws.length = xs.length + 1 := by have z := txtsLen hT; rw [List.length_cons, List.length_map] at z; exact z
  refine For_turns (hE := hE) F ?_
  have e1 := setB1 hm1
  rw [e1] at F
  k_steps
  unfold StopFr
  rename Fr h₀ _ _ _ => kF; rename News h₀ _ _ _ => kN; rename (@LT.lt Nat _ nb _ ∧ _) => l1
  rename_i D h5
  rw [← e1] at kF
  obtain ⟨v0, ws1, rfl, hT1⟩ : ∃ v0 ws1, ws = v0 :: ws1 ∧ TxtsAre ws1 (xs.map rep2E) := by
    cases ws with
    | nil => exact hT.elim
    | cons v0 ws1 =>
      cases v0 <;> try exact hT.elim
      exact ⟨_, _, rfl, hT.2⟩
  rw [show List.drop 1 (v0 :: ws1) = ws1 from rfl] at kN
  have kN2 : News h₀ L h5 ((nb, W.listOf [Value.int n0 ta].toArray kn) :: (wy, W.listOf [Value.int 1 tb].toArray kw) :: (D, W.listOf ws1.toArray 0) :: R) := fun p hp => kN p (by
    simp only [List.mem_cons] at hp ⊢
    rcases hp with h | h | h | h <;> simp only [h, true_or, or_true])
  refine iter_listTurns (n := 0) (lo := W.listOf ws1.toArray 0) rfl kF kN2 (.tail _ (.tail _ (.head _))) rfl rfl ?_
  intro I hI
  have hIn : @LT.lt Nat _ nb I := hI _ (.head _)
  have hIw : @LT.lt Nat _ wy I := hI _ (.tail _ (.head _))
  have hIR : ∀ p ∈ (D, W.listOf ws1.toArray 0) :: R, @LT.lt Nat _ p.1 I := fun p hp => hI p (.tail _ (.tail _ hp))
  have hoffD : OwnOff ((D, W.listOf ws1.toArray 0) :: R) [nb, wy] := by
    intro p hp x hx
    rcases List.mem_cons.mp hp with rfl | hp
    · simp only [List.mem_cons, List.not_mem_nil, or_false] at hx
      rcases hx with rfl | rfl
      · exact Nat.ne_of_gt l1.1
      · exact Nat.ne_of_gt l1.2.1
    · exact hoff p hp x hx
  clear kF kN kN2
  refine itemsRest_of2 (fun vs' m1 news => ∃ (es ns' : List Int) (nv wv : List Value) (kn kw : Nat), es ++ ns' = xs ∧ TxtsAre vs' (ns'.map rep2E) ∧ news = (nb, W.listOf nv.toArray kn) :: (wy, W.listOf wv.toArray kw) :: (D, W.listOf ws1.toArray 0) :: R ∧ IntsAre nv (n0 :: es.map fun x => ((p2 x : Nat) : Int)) ∧ IntsAre wv (1 :: es.map fun x => wI (q2 x == 0)) ∧ m1 "numbers" = some (.ref nb) ∧ m1 "ways" = some (.ref wy) ∧ (∀ z, z ≠ Str.ofString "word" → z ≠ Str.ofString "host" → z ≠ Str.ofString "port" → m1 z = m z)) ?z ?s ws1 m _ ⟨[], xs, _, _, kn, kw, rfl, hT1, rfl, .cons _ _ .nil, .cons _ _ .nil, hm2, hm3, fun _ _ _ _ => rfl⟩
  case z =>
    rintro m1 news ⟨es, ns', nv, wv, kn', kw', i1, i2, rfl, i4, i5, n1, n2, em⟩ h tk F9 N9
    cases ns' with
    | cons x ns2 => exact i2.elim
    | nil =>
    rw [List.append_nil] at i1
    subst i1
    exact ret _ _ _ nv wv kn' kw' F9 (fun p hp => N9 p (by
      simp only [List.mem_cons] at hp ⊢
      rcases hp with h | h | h <;> simp only [h, true_or, or_true])) i4 i5 n1 n2 em
  case s =>
    rintro v1 r m1 news ⟨es, ns', nv, wv, kn', kw', i1, i2, rfl, i4, i5, n1, n2, em⟩ IH
    cases ns' with
    | nil => cases v1 <;> exact i2.elim
    | cons x ns2 =>
    cases v1 <;> try exact i2.elim
    rename_i y' ty
    obtain ⟨hyx, i2⟩ := i2
    refine ItemsRest.val (fun h tk F9 => AllObj.cons (fun oI hoI => AllObj.nil (fun N9 => ?_)))
    simp only [List.cons_append, List.nil_append] at N9
    rw [setB2 n1 n2] at F9
    have hel : es.length ≤ 5 := by
      have z := congrArg List.length i1
      rw [List.length_append, List.length_cons] at z; omega
    have hvN : nv.length ≤ 100 := by have z := i4.length; rw [List.length_cons, List.length_map] at z; omega
    have hvW : wv.length ≤ 100 := by have z := i5.length; rw [List.length_cons, List.length_map] at z; omega
    have G := good2 (q2 x) (p2_lt x)
    have hi5 : Txt.item (rep2 (q2 x) (p2 x)) 5 = mkS2 (q2 x) := by
      have hL := rep2_list (q2 x) (p2 x)
      exact item_at (i := 5) (c := mk2 (q2 x)) (r := mk2 (q2 x) :: mk2 (q2 x) :: (digL (p2 x) ++ [mk2 (q2 x), 41])) (by rw [hL]; rfl)
    have hpp : y' = rep2 (q2 x) (p2 x) := hyx
    rw [← hpp] at G hi5
    have hl1 := G.len.1
    have hl2 := G.len.2.1
    clear hpp
    have hq := q2_lt x
    generalize hp9 : p2 x = p9 at *
    have hk : q2 x = 0 ∨ q2 x = 1 := by omega
    have s0 : mkS2 0 = Str.ofString "+" := by decide +kernel
    have s1 : mkS2 1 = Str.ofString "-" := by decide +kernel
    rcases hk with hk | hk
    · rw [hk, s0] at hi5
      k_steps
      unfold StopBr
      rename Fr h₀ _ _ _ => kF; rename News h₀ _ _ _ => kN
      have kN2 := newsTell kN
      refine ⟨_, _, _, _, rfl, kF, kN2, ?_, ⟨.tail _ (.tail _ (.head _)), trivial⟩, IH _ _ ⟨es ++ [x], ns2, _, _, _, _, by rw [← i1, List.append_assoc]; rfl, i2, rfl, ?_, ?_, rfl, rfl, ?_⟩⟩
      · intro p hp z hz
        rw [List.mem_singleton.mp hz]
        rcases List.mem_cons.mp hp with rfl | hp
        · exact Nat.ne_of_lt hIn
        rcases List.mem_cons.mp hp with rfl | hp
        · exact Nat.ne_of_lt hIw
        · exact Nat.ne_of_lt (hIR p hp)
      · rw [List.map_append, List.map_singleton, hp9]
        exact IntsAre.append i4 (.cons _ _ .nil)
      · rw [List.map_append, List.map_singleton, hk]
        exact IntsAre.append i5 (.cons _ _ .nil)
      · intro z z1 z2 z3
        rw [if_neg z3, if_neg z2, if_neg z1]
        exact (congrFun (setB2 n1 n2) z).symm.trans (em z z1 z2 z3)
    · rw [hk, s1] at hi5
      k_steps
      unfold StopBr
      rename Fr h₀ _ _ _ => kF; rename News h₀ _ _ _ => kN
      have kN2 := newsTell kN
      refine ⟨_, _, _, _, rfl, kF, kN2, ?_, ⟨.tail _ (.tail _ (.head _)), trivial⟩, IH _ _ ⟨es ++ [x], ns2, _, _, _, _, by rw [← i1, List.append_assoc]; rfl, i2, rfl, ?_, ?_, rfl, rfl, ?_⟩⟩
      · intro p hp z hz
        rw [List.mem_singleton.mp hz]
        rcases List.mem_cons.mp hp with rfl | hp
        · exact Nat.ne_of_lt hIn
        rcases List.mem_cons.mp hp with rfl | hp
        · exact Nat.ne_of_lt hIw
        · exact Nat.ne_of_lt (hIR p hp)
      · rw [List.map_append, List.map_singleton, hp9]
        exact IntsAre.append i4 (.cons _ _ .nil)
      · rw [List.map_append, List.map_singleton, hk]
        exact IntsAre.append i5 (.cons _ _ .nil)
      · intro z z1 z2 z3
        rw [if_neg z3, if_neg z2, if_neg z1]
        exact (congrFun (setB2 n1 n2) z).symm.trans (em z z1 z2 z3)
end Mine

namespace Mine
set_option maxHeartbeats 4000000
theorem setB4z {m1 : Str → Option Value} {x1 x2 x3 x4 : Str} {v1 v2 v3 v4 : Value} (h1 : m1 x1 = some v1) (h2 : m1 x2 = some v2) (h3 : m1 x3 = some v3) (h4 : m1 x4 = some v4) : m1 = fun y => if y = x1 then some v1 else if y = x2 then some v2 else if y = x3 then some v3 else if y = x4 then some v4 else m1 y := by
  funext y
  by_cases e1 : y = x1
  · rw [if_pos e1, e1, h1]
  rw [if_neg e1]
  by_cases e2 : y = x2
  · rw [if_pos e2, e2, h2]
  rw [if_neg e2]
  by_cases e3 : y = x3
  · rw [if_pos e3, e3, h3]
  rw [if_neg e3]
  by_cases e4 : y = x4
  · rw [if_pos e4, e4, h4]
  rw [if_neg e4]
local macro_rules | `(tactic| k_all) => `(tactic| first | exact OwnOff.ne (by assumption) (by k_memK) | (refine allLt_ne (d := ?d) ?h ?b; (case h => assumption); (case b => (show @LE.le Nat _ _ _); omega)))
noncomputable def Stop9 (P : Prop) : Prop := P
theorem Stop9.go {P : Prop} (h : Stop9 P) : P := h
local macro_rules | `(tactic| walk_at "call ref") => `(tactic| (k_here; (with_reducible show wpAny _ _ (call (Value.ref 124) _) _ _ _); refine Stop9.go ?_))
noncomputable def Stop10 (P : Prop) : Prop := P
theorem Stop10.go {P : Prop} (h : Stop10 P) : P := h
local macro_rules | `(tactic| walk_at "exec Assign") => `(tactic| ((with_reducible show wpAny _ _ (exec (Stmt.Assign _ (PySem.Expr.ListComp _ _ _ _) _) _) _ _ _); refine Stop10.go ?_))
local macro_rules | `(tactic| walk_at "exec Assign Name") => `(tactic| ((with_reducible show wpAny _ _ (exec (Stmt.Assign _ (PySem.Expr.ListComp _ _ _ _) _) _) _ _ _); refine Stop10.go ?_))
local macro_rules | `(tactic| walk_at "exec Assign cons ListComp") => `(tactic| ((with_reducible show wpAny _ _ (exec (Stmt.Assign _ (PySem.Expr.ListComp _ _ _ _) _) _) _ _ _); refine Stop10.go ?_))
noncomputable def Stop11 (P : Prop) : Prop := P
theorem Stop11.go {P : Prop} (h : Stop11 P) : P := h
local macro_rules | `(tactic| walk_at "compareOp NotEq ref ref") => `(tactic| refine Stop11.go ?_)
local macro_rules | `(tactic| walk_at "ite") => `(tactic| first | refine ite_neg (by rw [Bool.not_eq_true]; with_reducible assumption) ?_ | refine ite_pos (by with_reducible assumption) ?_)
noncomputable def Stop7x (P : Prop) : Prop := P
theorem Stop7x.go {P : Prop} (h : Stop7x P) : P := h
local macro_rules | `(tactic| walk_at "call ref") => `(tactic| (k_here; (with_reducible show wpAny _ _ (call (Value.ref 49) _) _ _ _); refine Stop7x.go ?_))
noncomputable def StopC (P : Prop) : Prop := P
theorem StopC.go {P : Prop} (h : StopC P) : P := h
local macro_rules | `(tactic| walk_at "call ref") => `(tactic| (k_here; (with_reducible show wpAny _ _ (call (Value.ref 114) _) _ _ _); refine StopC.go ?_))
local macro_rules | `(tactic| walk_at "call ref") => `(tactic| (k_here; (with_reducible show wpAny _ _ (call (Value.ref 134) _) _ _ _); refine StopC.go ?_))
local macro_rules | `(tactic| walk_at "call ref") => `(tactic| (k_here; (with_reducible show wpAny _ _ (call (Value.ref 141) _) _ _ _); refine StopC.go ?_))
local macro_rules | `(tactic| walk_at "compareOp Eq ref ref") => `(tactic| refine StopC.go ?_)
theorem newsM0 {h₀ h : Heap} {L : Addr} {x1 x2 x3 x0 x4 : Addr × Obj} {X R : List (Addr × Obj)} (N : News h₀ L h (x1 :: x2 :: x3 :: (X ++ (x0 :: x4 :: R)))) : News h₀ L h (x4 :: x1 :: x2 :: x3 :: (X ++ (x0 :: R))) := fun p hp => N p (by
  simp only [List.mem_cons, List.mem_append] at hp ⊢
  rcases hp with h | h | h | h | h | h | h <;> simp only [h, true_or, or_true])
theorem newsM2 {h₀ h : Heap} {L : Addr} {x1 x2 x3 x4 : Addr × Obj} {R : List (Addr × Obj)} (N : News h₀ L h (x4 :: x1 :: x2 :: x3 :: R)) : News h₀ L h (x1 :: x2 :: x4 :: x3 :: R) := fun p hp => N p (by
  simp only [List.mem_cons] at hp ⊢
  rcases hp with h | h | h | h | h <;> simp only [h, true_or, or_true])
theorem newsM3 {h₀ h : Heap} {L : Addr} {x1 x2 x3 : Addr × Obj} {R : List (Addr × Obj)} (N : News h₀ L h (x1 :: x2 :: x3 :: R)) : News h₀ L h (x2 :: x3 :: x1 :: R) := fun p hp => N p (by
  simp only [List.mem_cons] at hp ⊢
  rcases hp with h | h | h | h <;> simp only [h, true_or, or_true])
local macro_rules | `(tactic| walk_at "subscriptTail") => `(tactic| (k_here; (with_reducible show wpAny _ _ (subscriptTail _ _ (Value.ref _) (Value.int _ _)) _ _ _); k_dflt (refine' itemL ?k1 ?k2 ?k3 ?k4 ?k5 ?_; (case k1 => k_asm); (case k2 => k_mem); (case k3 => omega); (case k4 => omega); (case k5 => assumption))))
local macro_rules | `(tactic| walk_at "storeName") => `(tactic| (k_here; (try dsimp only); k_dflt (refine' storeX_L ?F ?N ?_ ?a ?b; (case F => k_asm); (case N => k_asm); (case a => rfl); (case b => rfl); k_whole); intro h' F' N'; (try k_sweep)))
noncomputable def StopFz (P : Prop) : Prop := P
theorem StopFz.go {P : Prop} (h : StopFz P) : P := h
local macro_rules | `(tactic| walk_at "exec For") => `(tactic| refine StopFz.go ?_)
local macro_rules | `(tactic| walk_at "exec For Name") => `(tactic| refine StopFz.go ?_)
local macro_rules | `(tactic| walk_at "exec For Name List") => `(tactic| refine StopFz.go ?_)
local macro_rules | `(tactic| walk_at "exec For Name List cons nil") => `(tactic| refine StopFz.go ?_)
local macro_rules | `(tactic| walk_at "exec For Name Subscript") => `(tactic| refine StopFz.go ?_)
local macro_rules | `(tactic| walk_at "exec For Name Name") => `(tactic| refine StopFz.go ?_)
local macro_rules | `(tactic| walk_at "exec For Name Call") => `(tactic| refine StopFz.go ?_)
local macro_rules | `(tactic| walk_at "exec For Name Name cons nil") => `(tactic| refine StopFz.go ?_)
local macro_rules | `(tactic| walk_at "exec For Name Subscript cons nil") => `(tactic| refine StopFz.go ?_)
local macro_rules | `(tactic| walk_at "exec For Name Call cons nil") => `(tactic| refine StopFz.go ?_)
theorem rest_code (w : World) (dp un : Nat) (gd : Option (List Code)) (a : Addr) (ccd : Value) (c1 : Addr) (outer : List Env) (A₀ : Around) (base h₀ : Heap) (L : Addr) (m : Str → Option Value) (s : Shared) (p : Program) (loose : List Str) (mean : ExcName → Option Value) (mg mb : Str → Option Value)
    (Rr : Result → Shared → Prop)
    (B : Below A₀ base outer h₀) (F : Fr h₀ L s.heap m) (X : (wPart w.params).In h₀) (T : Top p loose mean mg mb h₀)
    (hcd : CodeHd base 123 119) (hd : dp + 200 < 1000) (hu : un + 2000 < 9900)
  {E : Value → Shared → Prop} {Q : Flow → Shared → Prop} (hE : PassesOwn (model P1 w) (ktrTop dp un gd "law" lawS L a ccd [(Str.ofString "lexer", c1)] outer) (envX "law" lawS L a ccd [(Str.ofString "lexer", c1)]) E) (R : List (Addr × Obj)) {rp tm : Addr} {o1 : Obj} {ov1 : Option Value} {vsR vsT : List Value} {kr kt : Nat} {tt tn9 : Tok} {x0 : Int} {xs : List Int}
  (N : News h₀ L s.heap ((119, tabObj #[]) :: (c1, o1) :: R)) (hlt : @LT.lt Nat _ 119 c1) (hR : ∀ p ∈ R, @Ne Nat p.1 c1 ∧ @Ne Nat p.1 119) (ho1 : o1.data = .cell ov1) (hrp : (rp, W.listOf vsR.toArray kr) ∈ R) (htm : (tm, W.listOf vsT.toArray kt) ∈ R)
  (hm1 : m "replies" = some (.ref rp)) (hm2 : m "terms" = some (.ref tm)) (hm3 : m "name" = some (.str (nmS (k2 x0)) tn9)) (hm4 : m "text" = some (.str (strOf (textX (x0 :: xs) (repsE (x0 :: xs)))) tt))
  (hT : TxtsAre vsR (repsE (x0 :: xs))) (hTm : TermIn R vsT (xs.map tE)) (hxl : 2 ≤ xs.length ∧ xs.length ≤ 5)
  (ret : ∀ h' tk' m' ps, Fr h₀ L h' m' → News h₀ L h' [(119, tabObj ps)] → Q (.ret (.bool true)) { s with heap := h', toks := tk' }) :
    wpAny (model P1 w) (ktrTop dp un gd "law" lawS L a ccd [(Str.ofString "lexer", c1)] outer) (execs lawEnd (envX "law" lawS L a ccd [(Str.ofString "lexer", c1)])) Q E s := by
  have hok := repsE_ok (x0 :: xs)
  have hrl := repsE_len (x0 :: xs)
  have htx : (strOf (textX (x0 :: xs) (repsE (x0 :: xs)))).length ≤ 1000 := by
    rw [strOf_len]
    have z := textX_len (x0 :: xs) (repsE (x0 :: xs)) (fun y hy => (hok y hy).1)
    rw [hrl, List.length_cons] at z
    omega
  have hrd := (readsX (x0 :: xs) (repsE (x0 :: xs)) hrl.symm fun y hy => (hok y hy).2.1).1
  have e4 := setB4z hm1 hm2 hm3 hm4
  obtain ⟨tX, htX⟩ : ∃ z, z = strOf (textX (x0 :: xs) (repsE (x0 :: xs))) := ⟨_, rfl⟩
  rw [e4] at F
  rw [← htX] at F htx
  dsimp only [lawEnd, lawEnd0, lawS, lawS0]
  k_steps
  unfold Stop9
  rename Fr h₀ _ _ _ => kF; rename News h₀ _ _ _ => kN
  refine wpAny_call (lexer_code2 w dp un gd _ _ a ccd _ outer A₀ base h₀ L _ _ p loose mean mg mb _ B kF X T rfl hcd (by omega) (by omega) ((c1, o1) :: R) kN ?_ ?_)
  · intro p hp b hb
    rw [List.mem_singleton.mp hb]
    rcases List.mem_cons.mp hp with rfl | hp
    · exact Nat.ne_of_gt hlt
    · exact (hR p hp).2
  intro ps h' tk' X0 D0 lx dx st pb at_ u k n tn t1 t2 t3 t4 t5 kp lD hX0 hD0 LI hoX ne1 ne2 ne3 hn1 F1 N1
  have hRlt := allLt_mem lD
  have d1 : @LT.lt Nat _ c1 D0 := hRlt _ (.head _)
  have hRD0 : ∀ p ∈ R, @LT.lt Nat _ p.1 D0 := fun p hp => hRlt p (.tail _ hp)
  have N2 := newsM0 N1
  obtain ⟨da, db, dc⟩ := hD0
  dsimp only
  refine storeX_C F1 N2 rfl (.head ?_) ho1 ?_
  · intro p hp
    simp only [List.mem_cons, List.mem_append] at hp
    rcases hp with rfl | rfl | rfl | hp | rfl | hp
    · (show @Ne Nat _ _); omega
    · (show @Ne Nat _ _); omega
    · (show @Ne Nat _ _); omega
    · have := hX0 p hp; (show @Ne Nat _ _); omega
    · (show @Ne Nat _ _); omega
    · exact (hR p hp).1
  intro h2 o1' F2 N3 ho1'
  have N4 := newsM2 N3
  obtain ⟨R2, hR2⟩ : ∃ R2, R2 = (c1, o1') :: (pb, W.listOf #[] kp) :: (X0 ++ ((119, tabObj ps) :: R)) := ⟨_, rfl⟩
  rw [← hR2] at N4
  have m119 : (119, tabObj ps) ∈ R2 := by rw [hR2]; exact .tail _ (.tail _ (List.mem_append_right _ (.head _)))
  have mR : ∀ p ∈ R, p ∈ R2 := fun p hp => by rw [hR2]; exact .tail _ (.tail _ (List.mem_append_right _ (.tail _ hp)))
  have mc1 : (c1, o1') ∈ R2 := by rw [hR2]; exact .head _
  have mpb : (pb, W.listOf #[] kp) ∈ R2 := by rw [hR2]; exact .tail _ (.head _)
  have LI2 := LI.mono (R' := R2) fun p hp => by rw [hR2]; exact .tail _ (.tail _ (List.mem_append_left _ hp))
  have hoff2 : OwnOff R2 [at_, dx] := by
    intro p hp b hb
    rw [hR2] at hp
    have hb2 : b = at_ ∨ b = dx := by simpa only [List.mem_cons, List.not_mem_nil, or_false] using hb
    simp only [List.mem_cons, List.mem_append] at hp
    rcases hp with rfl | rfl | hp | rfl | hp
    · rcases hb2 with rfl | rfl <;> ((show @Ne Nat _ _); omega)
    · rcases hb2 with rfl | rfl <;> ((show @Ne Nat _ _); omega)
    · exact hoX p hp b (by rcases hb2 with rfl | rfl; exact .head _; exact .tail _ (.head _))
    · rcases hb2 with rfl | rfl <;> ((show @Ne Nat _ _); omega)
    · have := hRD0 p hp
      rcases hb2 with rfl | rfl <;> ((show @Ne Nat _ _); omega)
  k_steps
  unfold Stop10
  rename Fr h₀ _ _ _ => kF
  have htl9 : tX.cps.toList = textX (x0 :: xs) (repsE (x0 :: xs)) := by rw [htX]
  have i1 : (lx, instObj 59 dx) ∈ R2 := by obtain ⟨_, _, _, _, _, _, _, _, _, _, _, _, _, _, _, _, _, i1, _⟩ := LI2; exact i1
  refine words_code w dp un gd a ccd c1 outer A₀ base h₀ L _ _ p loose mean mg mb Rr B kF X T hcd (by omega) (by omega) R2 N4 LI2 mpb hoff2 ne1 htx htl9 hn1 mc1 ho1' (mR _ hrp) rfl hT (by rw [hrl, List.length_cons]; omega) hrd ?_
  intro h3 tk3 Dw ws pos tp3 kk3 n3 tn3 rem F3 N5 hTw hdr hTok hn3 hpos3 hof3
  dsimp only
  k_steps
  unfold Stop11
  refine neTxts N5 (.head _) (.tail _ (.tail _ (.tail _ (mR _ hrp)))) hTw hT (fun y hy => (hok y hy).2.2) (Nat.lt_of_lt_of_le (show un + 64 < 9900 by omega) (by decide)) ?_
  have e0 : (strOf [] != Str.ofString "") = false := by decide +kernel
  k_steps
  unfold Stop7x
  dsimp only [List.append_nil]
  rename Fr h₀ _ _ _ => kF
  have hTl : (textX (x0 :: xs) (repsE (x0 :: xs))).length ≤ 1000 := by rw [← htl9]; simpa [Str.length] using htx
  refine wpAny_call (gettok_code w dp un gd _ _ a ccd _ outer A₀ base h₀ L _ _ p loose mean mg mb _ B kF X T rfl hcd (by omega) (by omega) ((Dw, LCg.lst ws) :: R2) (newsM3 N5) (LI2.mono fun p hp => .tail _ hp) (.tail _ mpb) ?_ ?_ ne1 (by omega) htl9 hn3 (by omega) hTok hdr ?_)
  · intro p hp
    rcases List.mem_cons.mp hp with rfl | hp
    · exact Ne.symm hof3.1
    · exact hoff2 p hp _ (.head _)
  · intro p hp
    rcases List.mem_cons.mp hp with rfl | hp
    · exact Ne.symm hof3.2.1
    · exact hoff2 p hp _ (.tail _ (.head _))
  intro h4 tk4 u4 k4 u5 n4 tn4 pos4 hdr4 hpos4 hn40 hn41 F4 N6
  obtain ⟨R3, hR3⟩ : ∃ R3, R3 = (Dw, W.listOf ws.toArray ws.length) :: R2 := ⟨_, rfl⟩
  have N7 : News h₀ L h4 R3 := fun p hp => N6 p (by rw [hR3] at hp; exact .tail _ (.tail _ hp))
  have mDw : (Dw, W.listOf ws.toArray ws.length) ∈ R3 := by rw [hR3]; exact .head _
  have mR2 : ∀ p ∈ R2, p ∈ R3 := fun p hp => by rw [hR3]; exact .tail _ hp
  obtain ⟨v0, ws1, t0, rfl, rfl, hT1⟩ : ∃ v0 ws1 t0, ws = v0 :: ws1 ∧ v0 = .str (rep0 (k2 x0)) t0 ∧ TxtsAre ws1 (xs.map rep2E) := by
    cases ws with
    | nil => exact hTw.elim
    | cons v0 ws1 =>
      cases v0 <;> try exact hTw.elim
      exact ⟨_, ws1, _, rfl, by rw [hTw.1], hTw.2⟩
  obtain ⟨hq1, hq2, hq3, hq4, hq5⟩ := p257_facts (k2_lt x0)
  have x1 : (Value.str (rep0 (k2 x0)) t0 :: ws1)[((0 : Int)).toNat]? = some (.str (rep0 (k2 x0)) t0) := rfl
  clear N5 N6 kF
  generalize hr0 : rep0 (k2 x0) = r0 at *
  k_steps
  unfold StopC
  have en : strOf (nmL (k2 x0)) = nmS (k2 x0) := rfl
  have hnl : (nmS (k2 x0)).length = k2 x0 := by rw [← en, strOf_len]; exact hq5
  have hk7 := k2_lt x0
  refine wpAny_call (p257_code (gL := nmL (k2 x0)) w dp un gd _ _ a ccd _ outer A₀ base h₀ L _ _ p loose mean mg mb _ B F4 X T rfl hcd (by omega) (by omega) R3 N7 hq1 hq2 hq3 hq4 ?_)
  intro h5 tk5 t5' F5 N8
  rw [en]
  generalize hnm : nmS (k2 x0) = nm at *
  have e5 : (nm != nm) = false := by simp
  k_steps
  unfold StopC
  refine wpAny_call (p257_code (gL := nmL (k2 x0)) w dp un gd _ _ a ccd _ outer A₀ base h₀ L _ _ p loose mean mg mb _ B F5 X T rfl hcd (by omega) (by omega) R3 N8 hq1 hq2 hq3 hq4 ?_)
  intro h6 tk6 t6' F6 N9
  rw [en]
  have hnl9 : nm.length ≤ 6 := by omega
  clear F4 N7 F5 N8
  k_steps
  unfold StopFz
  rename Fr h₀ _ _ _ => kF; rename News h₀ _ _ _ => kN
  rename_i nb h7 l1 h8 tk8 wy h9 l2 h10
  have kN2 : News h₀ L h10 ((nb, W.listOf [Value.int (nm.length : Nat) _].toArray 0) :: (wy, W.listOf [Value.int 1 _].toArray 0) :: R3) := fun p hp => kN p (by
    simp only [List.mem_cons] at hp ⊢
    rcases hp with h | h | h
    · exact .inr (.inl h)
    · exact .inl h
    · exact .inr (.inr h))
  have hoff5 : OwnOff R3 [nb, wy] := by
    intro p hp x hx
    simp only [List.mem_cons, List.not_mem_nil, or_false] at hx
    rcases hx with rfl | rfl
    · exact Nat.ne_of_lt (l1 p hp)
    · exact Nat.ne_of_lt (allLt_mem l2.2 p hp)
  refine tell_code w dp un gd a ccd _ outer A₀ base h₀ L _ _ p loose mean mg mb Rr B kF X T hcd (by omega) (by omega) hE R3 kN2 mDw (y0 := r0) (xs := xs) ⟨rfl, hT1⟩ hxl.2 hoff5 (Nat.ne_of_lt l2.1) rfl rfl rfl ?_
  intro h11 tk11 m11 nv wv kn kw F11 N11 iN iW g1 g2 em
  have g3 : m11 "terms" = some (.ref tm) := (em "terms" (by decide) (by decide) (by decide)).trans rfl
  have g4 : m11 "name" = some (.str nm tn9) := (em "name" (by decide) (by decide) (by decide)).trans rfl
  dsimp only
  rw [setB4z g1 g2 g3 g4] at F11
  clear kF kN kN2
  k_steps
  unfold StopC
  refine wpAny_call (brackets_code (ns := numF (nm.length : Nat) xs) (wb := wbF xs) (n := xs.length + 1) w dp un gd _ _ a ccd _ outer A₀ base h₀ L _ _ p loose mean mg mb _ B F11 X T rfl hcd (by omega) (by omega) ((nb, W.listOf nv.toArray kn) :: (wy, W.listOf wv.toArray kw) :: R3) N11 (.head _) (.tail _ (.head _)) iN (by simp) (by omega) (by omega) (fun j x hx => numF_at hx) (fun j h1 h2 => ways_at iW h1 h2) ?_)
  intro hB tkB D1 vs1 ns1 cB F12 N12 iB pB sB
  clear F11 N11
  k_steps
  unfold StopC
  refine wpAny_call (count_code (ts := xs.map tE) w dp un gd _ _ a ccd _ outer A₀ base h₀ L _ _ p loose mean mg mb _ B F12 X T rfl hcd (by omega) (by omega) ((D1, W.listOf vs1.toArray cB) :: (nb, W.listOf nv.toArray kn) :: (wy, W.listOf wv.toArray kw) :: R3) N12 (.tail _ (.tail _ (.tail _ (mR2 _ (mR _ htm))))) (hTm.mono fun p hp => .tail _ (.tail _ (.tail _ (mR2 _ (mR _ hp))))) (by rw [List.length_map]; exact hxl.2) ?_)
  intro hC tkC D2 vs2 ns2 cC F13 N13 iC pC sC
  clear F12 N12
  k_steps
  unfold StopC
  have hl1 : hC.IsList D1 vs1.toArray := ⟨_, (N13 _ (.tail _ (.head _))).1, rfl, _, rfl⟩
  have hl2 : hC.IsList D2 vs2.toArray := ⟨_, (N13 _ (.head _)).1, rfl, _, rfl⟩
  refine eq_intsK (ns := ns1) (ms := ns2) hl1 iB hl2 iC (Nat.lt_of_lt_of_le (show un + 64 < 9900 by omega) (by decide)) ?_
  have hfin : ns1 = ns2 := lks_uniq ((pB.trans (law2_final hxl.1 hxl.2)).trans pC.symm) sB sC
  rw [show decide (ns1 = ns2) = true from decide_eq_true hfin]
  exact ret _ _ _ ps F13 (fun p hp => N13 p (by rw [List.mem_singleton.mp hp]; exact .tail _ (.tail _ (.tail _ (.tail _ (mR2 _ m119))))))
end Mine

namespace Mine
set_option maxHeartbeats 20000000
noncomputable def StopFt (P : Prop) : Prop := P
theorem StopFt.go {P : Prop} (h : StopFt P) : P := h
local macro_rules | `(tactic| walk_at "exec For") => `(tactic| refine StopFt.go ?_)
local macro_rules | `(tactic| walk_at "exec For Name") => `(tactic| refine StopFt.go ?_)
local macro_rules | `(tactic| walk_at "exec For Name List") => `(tactic| refine StopFt.go ?_)
local macro_rules | `(tactic| walk_at "exec For Name List cons nil") => `(tactic| refine StopFt.go ?_)
local macro_rules | `(tactic| walk_at "exec For Name Subscript") => `(tactic| refine StopFt.go ?_)
local macro_rules | `(tactic| walk_at "exec For Name Name") => `(tactic| refine StopFt.go ?_)
local macro_rules | `(tactic| walk_at "exec For Name Call") => `(tactic| refine StopFt.go ?_)
local macro_rules | `(tactic| walk_at "exec For Name Name cons nil") => `(tactic| refine StopFt.go ?_)
local macro_rules | `(tactic| walk_at "exec For Name Subscript cons nil") => `(tactic| refine StopFt.go ?_)
local macro_rules | `(tactic| walk_at "exec For Name Call cons nil") => `(tactic| refine StopFt.go ?_)
local macro_rules | `(tactic| walk_at "exec For Tuple") => `(tactic| refine StopFt.go ?_)
local macro_rules | `(tactic| walk_at "exec For Tuple Call") => `(tactic| refine StopFt.go ?_)
local macro_rules | `(tactic| walk_at "exec For Tuple Call cons nil") => `(tactic| refine StopFt.go ?_)
local macro_rules | `(tactic| walk_at "exec For Tuple Call cons cons nil") => `(tactic| refine StopFt.go ?_)
local macro_rules | `(tactic| walk_at "subscriptTail") => `(tactic| (k_here; (with_reducible show wpAny _ _ (subscriptTail _ (PySem.Expr.Slice _ _ none _) (Value.ref _) (Value.ref _)) _ _ _); (refine kba_turn (value' := PySem.Expr.Name (PySem.Str.ofString "_") ⟨0, 0, 0, 0⟩) (fun _ => rfl) ?_); k_dflt (refine' kmk_slice_ints ?yF ?yN ?yl ?yp ?yq ?yi (pickN ?yii 6) ?yc ?_ ?ys ?yt ?yz; (case yF => k_asm); (case yN => k_asm); (case yl => kmk_list); (case yp => kmk_part); (case yq => exact IsPart.int _ _); (case yi => assumption); (case yii => assumption); (case yc => exact rfl); (case ys => with_unfolding_all rfl); (case yt => kmk_pure); (case yz => exact intsLen (by assumption) (by simp only [List.length_append, List.length_cons, List.length_nil]; omega))); intro D' ws' h' F' N' l1 hI' hC' hL'; (try k_lt l1)))
local macro_rules | `(tactic| walk_at "subscriptTail BinOp Slice") => `(tactic| (k_here; (with_reducible show wpAny _ _ (subscriptTail _ (PySem.Expr.Slice _ _ none _) (Value.ref _) (Value.ref _)) _ _ _); (refine kba_turn (value' := PySem.Expr.Name (PySem.Str.ofString "_") ⟨0, 0, 0, 0⟩) (fun _ => rfl) ?_); k_dflt (refine' kmk_slice_ints ?yF ?yN ?yl ?yp ?yq ?yi (pickN ?yii 6) ?yc ?_ ?ys ?yt ?yz; (case yF => k_asm); (case yN => k_asm); (case yl => kmk_list); (case yp => kmk_part); (case yq => exact IsPart.int _ _); (case yi => assumption); (case yii => assumption); (case yc => exact rfl); (case ys => with_unfolding_all rfl); (case yt => kmk_pure); (case yz => exact intsLen (by assumption) (by simp only [List.length_append, List.length_cons, List.length_nil]; omega))); intro D' ws' h' F' N' l1 hI' hC' hL'; (try k_lt l1)))
local macro_rules | `(tactic| walk_at "subscriptTail BinOp Slice ref ref") => `(tactic| (k_here; (with_reducible show wpAny _ _ (subscriptTail _ (PySem.Expr.Slice _ _ none _) (Value.ref _) (Value.ref _)) _ _ _); (refine kba_turn (value' := PySem.Expr.Name (PySem.Str.ofString "_") ⟨0, 0, 0, 0⟩) (fun _ => rfl) ?_); k_dflt (refine' kmk_slice_ints ?yF ?yN ?yl ?yp ?yq ?yi (pickN ?yii 6) ?yc ?_ ?ys ?yt ?yz; (case yF => k_asm); (case yN => k_asm); (case yl => kmk_list); (case yp => kmk_part); (case yq => exact IsPart.int _ _); (case yi => assumption); (case yii => assumption); (case yc => exact rfl); (case ys => with_unfolding_all rfl); (case yt => kmk_pure); (case yz => exact intsLen (by assumption) (by simp only [List.length_append, List.length_cons, List.length_nil]; omega))); intro D' ws' h' F' N' l1 hI' hC' hL'; (try k_lt l1)))
local macro_rules | `(tactic| walk_at "storeName") => `(tactic| (k_here; (try dsimp only); k_dflt (refine' storeX_L ?F ?N ?_ ?a ?b; (case F => k_asm); (case N => k_asm); (case a => rfl); (case b => rfl); k_whole); intro h' F' N'; (try k_sweep)))
noncomputable def StopR (P : Prop) : Prop := P
theorem StopR.go {P : Prop} (h : StopR P) : P := h
local macro_rules | `(tactic| walk_at "call builtin:str.replace") => `(tactic| refine StopR.go ?_)
theorem TermIn.drop {I : Addr} {o : Obj} {R : List (Addr × Obj)} (hN : ∀ p ∈ R, p.1 = I → p.2 = o) (ho : ∀ mk p t1 t2, o ≠ tupSI mk p t1 t2) : ∀ {vs : List Value} {es : List (Nat × Int)}, TermIn R vs es → TermIn (dropA I R) vs es
  | [], [], _ => trivial
  | .ref _ :: _, _ :: _, h => ⟨⟨h.1.choose, h.1.choose_spec.choose, dropA_mem.mpr ⟨h.1.choose_spec.choose_spec, fun e => ho _ _ _ _ (hN _ h.1.choose_spec.choose_spec e).symm⟩⟩, h.2.1, TermIn.drop hN ho h.2.2⟩
theorem newsZ {h₀ h : Heap} {L : Addr} {a1 a2 : Addr} {tm rp d1 d2 d3 : Addr × Obj} {o1 o2 : Obj} {TR : List (Addr × Obj)} (N : News h₀ L h (tm :: rp :: (TR ++ [d1, d2, d3, (a1, o1), (a2, o2)]))) : News h₀ L h ((a2, o2) :: (a1, o1) :: (rp :: tm :: (dropA a1 (dropA a2 TR) ++ [d1, d2, d3]))) := fun p hp => N p (by
  simp only [List.mem_cons, List.mem_append, List.not_mem_nil, or_false] at hp ⊢
  rcases hp with h | h | h | h | h | h | h | h
  · simp only [h, true_or, or_true]
  · simp only [h, true_or, or_true]
  · simp only [h, true_or, or_true]
  · simp only [h, true_or, or_true]
  · exact .inr (.inr (.inl (dropA_mem.mp (dropA_mem.mp h).1).1))
  · simp only [h, true_or, or_true]
  · simp only [h, true_or, or_true]
  · simp only [h, true_or, or_true])
theorem newsFun {h₀ h : Heap} {L : Addr} {R : List (Addr × Obj)} (N : News h₀ L h R) {a : Addr} {o : Obj} (ha : (a, o) ∈ R) : ∀ p ∈ R, p.1 = a → p.2 = o := fun p hp e => by
  have z1 := (N p hp).1
  rw [e, (N _ ha).1] at z1
  exact (Option.some.inj z1).symm
theorem cellNe {o : Obj} {ov : Option Value} (h : o.data = .cell ov) (mk : Str) (p : Int) (t1 t2 : Tok) : o ≠ tupSI mk p t1 t2 := fun e => by
  rw [e] at h
  cases h
noncomputable def law_t.tw17720635698081837556 : Nat := 0
noncomputable def law_t.tw2179279529466427243 : Nat := 0
noncomputable def law_t.tw8853585030243751476 : Nat := 0
noncomputable def law_t.tw15007412088569715430 : Nat := 0
noncomputable def law_t.tw16135993980797673289 : Nat := 0
noncomputable def law_t.tw17462114356085540226 : Nat := 0
noncomputable def law_t.tw1945009955112709486 : Nat := 0
noncomputable def law_t.tw18171832962670101306 : Nat := 0
noncomputable def law_t.tw7133862662877448597 : Nat := 0
noncomputable def law_t.tw2151933453053672970 : Nat := 0
noncomputable def law_t.tw15574727671878121400 : Nat := 0
noncomputable def law_t.tw13526524222112015209 : Nat := 0
noncomputable def law_t.tw13069095484428372553 : Nat := 0
noncomputable def law_t.tw14682113607040963522 : Nat := 0
noncomputable def law_t.tw11167887474720204655 : Nat := 0
noncomputable def law_t.tw13696882801107640914 : Nat := 0
noncomputable def law_t.tw14764924680905089891 : Nat := 0
noncomputable def law_t.tw14474198082392573766 : Nat := 0
noncomputable def law_t.tw11607294841982102486 : Nat := 0
noncomputable def law_t.tw10368205364740412569 : Nat := 0
noncomputable def law_t.tw220753477943597065 : Nat := 0
noncomputable def law_t.tw6650714498644909134 : Nat := 0
noncomputable def law_t.tw4690936873811481699 : Nat := 0
noncomputable def law_t.tw1316596791330431717 : Nat := 0
noncomputable def law_t.tw8041461175306794431 : Nat := 0
noncomputable def law_t.tw5502219189471082207 : Nat := 0
noncomputable def law_t.tw7197011671043536636 : Nat := 0
noncomputable def law_t.tw16562323177137684933 : Nat := 0
noncomputable def law_t.tw2831159780451072108 : Nat := 0
noncomputable def law_t.tw13133265936769768863 : Nat := 0
noncomputable def law_t.tw15738532001378884992 : Nat := 0
noncomputable def law_t.tw5015420583959362374 : Nat := 0
noncomputable def law_t.tw2119037033718901133 : Nat := 0
noncomputable def law_t.tw11109888483624479196 : Nat := 0
noncomputable def law_t.tw7706910059894979119 : Nat := 0
noncomputable def law_t.tw11546280583058921613 : Nat := 0
noncomputable def law_t.tw9700429971812274673 : Nat := 0
noncomputable def law_t.tw15665462056610158921 : Nat := 0
noncomputable def law_t.tw2318274381021021017 : Nat := 0
set_option Elab.async true in
theorem law_t : PySem.Challenge.rw_tr0043_02.Holds := by
  w_on
  o_law
  o_head (kmHook wPart hkAs (fun _ => by kernel_rfl) [119])
  case hw => w_witness2
  w_top off
  k_go0
  all_goals (try k_fold)
  k_steps
  unfold StopR
  rename Fr _ _ _ _ => kF; rename News _ _ _ _ => kN; rename IntsAre _ (List.take _ _) => hIq
  obtain ⟨x0, xs, hx, hx2, hx5⟩ := toldOf hIq
  rw [hx] at hIq kF ⊢
  rw [show (x0 :: xs).getD (Int.toNat 0) 0 = x0 from rfl, slice_nm] at kF ⊢
  have hk7 := k2_lt x0
  have hrl := repl_len hk7
  obtain ⟨hrl1, hrl2⟩ := hrl
  refine replaceT (by (show @Ne Nat _ _); omega) (by (show @Ne Nat _ _); omega) (by (show @Ne Nat _ _); omega) (by decide) (by omega) (by decide) ?_
  intro t8 k8 hk8
  k_steps
  unfold StopFt
  rename Fr _ _ _ _ => F6; rename News _ _ _ _ => N6; rename Below _ _ _ _ => K6
  rename_i rp h3 lr h2 tk9 tm h1 lt hh
  have ht0 : Str.ofString "" = strOf [] := by decide +kernel
  refine draw_code _ _ _ _ _ _ _ [] callerA _ _ _ _ _ _ _ _ _ _ (fun _ _ => True) K6 F6 (by assumption) (by assumption) codeHd ?yhd ?yhu (by passes_own) _ N6 (.head _) hIq hx5 ?yoff ?yne rfl rfl rfl ?yret
  case yhd => decide
  case yhu => decide
  case yne => (show @Ne Nat _ _); omega
  case yoff =>
    intro p hp b hb
    simp only [List.mem_cons, List.not_mem_nil, or_false] at hp hb
    rcases hp with rfl | rfl | rfl | rfl | rfl <;> rcases hb with rfl | rfl <;> ((show @Ne Nat _ _); omega)
  case yret =>
    intro h7 tk7 m7 vsT vsR kt kr TR F7 N7 n1 n2 em iT iR o7
    dsimp only
    have g3 := (em "told" (by decide) (by decide) (by decide)).trans rfl
    have g4 := (em "name" (by decide) (by decide) (by decide)).trans rfl
    rw [setB4 n1 n2 g3 g4] at F7
    k_steps
    unfold StopFt
    rename Fr _ _ _ _ => F8; rename News _ _ _ _ => N8
    refine text_code _ _ _ _ _ _ _ [] callerA _ _ _ _ _ _ _ _ _ _ (fun _ _ => True) K6 F8 (by assumption) (by assumption) codeHd ?zhd ?zhu (by passes_own) _ N8 (.tail _ (.tail _ (List.mem_append_right _ (.head _)))) hIq (.tail _ (.head _)) iR (by rw [List.length_cons]; omega) (repsE_len _).symm (fun y hy => (repsE_ok _ y hy).1) rfl rfl (congrArg (fun x => some (Value.str x _)) ht0) ?zret
    case zhd => decide
    case zhu => decide
    case zret =>
      intro h9 tk9' m9 t9 F9 N9 n3 em9
      dsimp only
      rename (Obj.data _ = Data.cell _) => hcell
      have iT1 := TermIn.drop (I := 119) (fun p hp e => newsFun N9 (.tail _ (.tail _ (List.mem_append_right _ (.tail _ (.tail _ (.tail _ (.tail _ (.head _)))))))) p (.tail _ (.tail _ (List.mem_append_left _ hp))) e) (fun _ _ _ _ e => by cases e) iT
      have iT2 := TermIn.drop (fun p hp e => newsFun N9 (.tail _ (.tail _ (List.mem_append_right _ (.tail _ (.tail _ (.tail _ (.head _))))))) p (.tail _ (.tail _ (List.mem_append_left _ (dropA_mem.mp hp).1))) e) (cellNe hcell) iT1
      have n1' := (em9 "terms" (by decide) (by decide) (by decide)).trans rfl
      have n2' := (em9 "replies" (by decide) (by decide) (by decide)).trans rfl
      have n4' := (em9 "name" (by decide) (by decide) (by decide)).trans rfl
      refine rest_code _ _ _ _ _ _ _ [] callerA _ _ _ _ _ _ _ _ _ _ (fun _ _ => True) K6 F9 (by assumption) (by assumption) codeHd ?whd ?whu (by passes_own) _ (newsZ N9) ?wlt ?wR hcell (.head _) (.tail _ (.head _)) n2' n1' n4' n3 iR (iT2.mono fun p hp => .tail _ (.tail _ (List.mem_append_left _ hp))) ⟨hx2, hx5⟩ ?wret
      case whd => decide
      case whu => decide
      case wlt => (show @LT.lt Nat _ _ _); omega
      case wR =>
        intro p hp
        simp only [List.mem_cons, List.mem_append, List.not_mem_nil, or_false] at hp
        rcases hp with rfl | rfl | hp | rfl | rfl | rfl
        · constructor <;> ((show @Ne Nat _ _); omega)
        · constructor <;> ((show @Ne Nat _ _); omega)
        · exact ⟨(dropA_mem.mp hp).2, (dropA_mem.mp (dropA_mem.mp hp).1).2⟩
        · constructor <;> ((show @Ne Nat _ _); omega)
        · constructor <;> ((show @Ne Nat _ _); omega)
        · constructor <;> ((show @Ne Nat _ _); omega)
      case wret =>
        intro h12 tk12 m12 ps12 F12 N12
        dsimp only
        k_steps
end Mine

theorem PySem.Challenge.cw_tr0043_02_holds : PySem.Challenge.rw_tr0043_02.Holds :=
  Mine.law_t
