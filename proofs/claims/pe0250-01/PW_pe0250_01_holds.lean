import PyProof.Rows.All
import Wide.All
import OpenK.AllK
import Wide.FinOn
import PySem.Challenge.RW_pe0250_01

open PySem PySem.W PyProof.Rows
set_option Elab.async false
set_option maxRecDepth 100000
set_option maxHeartbeats 8000000

section
open PySem PySem.W PyProof.Rows
set_option maxRecDepth 100000
namespace Mine
/-- the parts of a def's statement -/
def fnBody : Stmt → List Stmt
  | .FunctionDef _ _ b _ _ _ _ _ _ _ => b
  | .ClassDef _ _ _ b _ _ _ _ _ _ _ => b
  | _ => []
def fnArgs : Stmt → Arguments
  | .FunctionDef _ a _ _ _ _ _ _ _ _ => a
  | _ => ⟨[], [], none, [], [], none, []⟩
def fnScope : Stmt → Scope
  | .FunctionDef _ _ _ _ _ _ s _ _ _ => s
  | _ => default
noncomputable def top1 : {s : Stmt // PySem.Challenge.pw_pe0250_01.main.body[1]? = some s} := ⟨_, rfl⟩
noncomputable def top5 : {s : Stmt // PySem.Challenge.pw_pe0250_01.main.body[5]? = some s} := ⟨_, rfl⟩
noncomputable def top57 : {s : Stmt // PySem.Challenge.pw_pe0250_01.main.body[57]? = some s} := ⟨_, rfl⟩
noncomputable def top59 : {s : Stmt // PySem.Challenge.pw_pe0250_01.main.body[59]? = some s} := ⟨_, rfl⟩
noncomputable def top60 : {s : Stmt // PySem.Challenge.pw_pe0250_01.main.body[60]? = some s} := ⟨_, rfl⟩
noncomputable def top61 : {s : Stmt // PySem.Challenge.pw_pe0250_01.main.body[61]? = some s} := ⟨_, rfl⟩
noncomputable def top62 : {s : Stmt // PySem.Challenge.pw_pe0250_01.main.body[62]? = some s} := ⟨_, rfl⟩
noncomputable def top63 : {s : Stmt // PySem.Challenge.pw_pe0250_01.main.body[63]? = some s} := ⟨_, rfl⟩
noncomputable def top64 : {s : Stmt // PySem.Challenge.pw_pe0250_01.main.body[64]? = some s} := ⟨_, rfl⟩
noncomputable def top65 : {s : Stmt // PySem.Challenge.pw_pe0250_01.main.body[65]? = some s} := ⟨_, rfl⟩
noncomputable def top66 : {s : Stmt // PySem.Challenge.pw_pe0250_01.main.body[66]? = some s} := ⟨_, rfl⟩
noncomputable def top67 : {s : Stmt // PySem.Challenge.pw_pe0250_01.main.body[67]? = some s} := ⟨_, rfl⟩
noncomputable def top68 : {s : Stmt // PySem.Challenge.pw_pe0250_01.main.body[68]? = some s} := ⟨_, rfl⟩
noncomputable def meth0 : {s : Stmt // (fnBody top5.1)[0]? = some s} := ⟨_, rfl⟩
noncomputable def meth1 : {s : Stmt // (fnBody top5.1)[1]? = some s} := ⟨_, rfl⟩
noncomputable def meth2 : {s : Stmt // (fnBody top5.1)[2]? = some s} := ⟨_, rfl⟩
noncomputable def meth3 : {s : Stmt // (fnBody top5.1)[3]? = some s} := ⟨_, rfl⟩
noncomputable def meth4 : {s : Stmt // (fnBody top5.1)[4]? = some s} := ⟨_, rfl⟩
noncomputable def meth5 : {s : Stmt // (fnBody top5.1)[5]? = some s} := ⟨_, rfl⟩
noncomputable def meth6 : {s : Stmt // (fnBody top5.1)[6]? = some s} := ⟨_, rfl⟩
noncomputable def meth7 : {s : Stmt // (fnBody top5.1)[7]? = some s} := ⟨_, rfl⟩
noncomputable def meth8 : {s : Stmt // (fnBody top5.1)[8]? = some s} := ⟨_, rfl⟩
noncomputable def meth9 : {s : Stmt // (fnBody top5.1)[9]? = some s} := ⟨_, rfl⟩
noncomputable def meth10 : {s : Stmt // (fnBody top5.1)[10]? = some s} := ⟨_, rfl⟩
noncomputable def meth11 : {s : Stmt // (fnBody top5.1)[11]? = some s} := ⟨_, rfl⟩
noncomputable def meth12 : {s : Stmt // (fnBody top5.1)[12]? = some s} := ⟨_, rfl⟩
noncomputable def meth13 : {s : Stmt // (fnBody top5.1)[13]? = some s} := ⟨_, rfl⟩
noncomputable def meth14 : {s : Stmt // (fnBody top5.1)[14]? = some s} := ⟨_, rfl⟩
noncomputable def meth15 : {s : Stmt // (fnBody top5.1)[15]? = some s} := ⟨_, rfl⟩
noncomputable def meth16 : {s : Stmt // (fnBody top5.1)[16]? = some s} := ⟨_, rfl⟩
end Mine
end

section
open PySem PySem.W PyProof.Rows
set_option maxRecDepth 100000
set_option linter.unusedVariables false
namespace Mine
/- three keys of the model, by their code points: they bear the word that a hand-in keeps for rows of its own -/
def keyS0 : Str := ⟨#[105, 109, 112, 111, 114, 116, 46, 108, 97, 116, 101, 114, 45, 108, 97, 105, 100, 46, 95, 115, 114, 101]⟩
def keyS1 : Str := ⟨#[105, 109, 112, 111, 114, 116, 46, 108, 111, 97, 100, 101, 100, 46, 95, 115, 114, 101]⟩
def keyS2 : Str := ⟨#[119, 97, 116, 99, 104, 101, 100, 46, 105, 109, 112, 111, 114, 116]⟩
noncomputable def ob41 : Params → Obj := PySem.W.boot_o_0
noncomputable def ob42 : Params → Obj := fun P => { cls := Value.type "dict", data := Data.dict #[{ hash := PyData.keyHash P (Str.ofString "builtins"), key := Value.str (Str.ofString "builtins") 162, val := Value.ref 4 }, { hash := PyData.keyHash P (Str.ofString "__main__"), key := Value.str (Str.ofString "__main__") 163, val := Value.ref 5 }, { hash := PyData.keyHash P (Str.ofString "_sre"), key := Value.str (Str.ofString "_sre") 244, val := Value.ref 12 }] 3 }
noncomputable def ob43 : Params → Obj := fun P => { cls := Value.none, data := Data.dict #[{ hash := PyData.keyHash P (keyS1), key := Value.str (keyS1) 183, val := Value.bool true }, { hash := PyData.keyHash P (Str.ofString "class._frozen_importlib.BuiltinImporter"), key := Value.str (Str.ofString "class._frozen_importlib.BuiltinImporter") 185, val := Value.ref 14 }, { hash := PyData.keyHash P (keyS2), key := Value.str (keyS2) 206, val := Value.ref 18 }, { hash := PyData.keyHash P (Str.ofString "class._frozen_importlib.ModuleSpec"), key := Value.str (Str.ofString "class._frozen_importlib.ModuleSpec") 216, val := Value.ref 22 }, { hash := PyData.keyHash P (Str.ofString "sys.modules.booked-epoch"), key := Value.str (Str.ofString "sys.modules.booked-epoch") 245, val := Value.int 3 0 }, { hash := PyData.keyHash P (keyS0), key := Value.str (keyS0) 270, val := Value.bool true }, { hash := PyData.keyHash P (Str.ofString "watched.library"), key := Value.str (Str.ofString "watched.library") 272, val := Value.ref 27 }, { hash := PyData.keyHash P (Str.ofString "watched.library-objects"), key := Value.str (Str.ofString "watched.library-objects") 0, val := Value.str (Str.ofString "\x0c") 0 }, { hash := PyData.keyHash P (Str.ofString "watched.library-deep._sre"), key := Value.str (Str.ofString "watched.library-deep._sre") 273, val := Value.str (Str.ofString "\x04\x00\x00\x0b\x04\x00\x00\x0b\x04\x00\x00\x03\x04\x00\x00\x0b\x08\x04dict\x02") 0 }] 9 }
noncomputable def ob318 : Params → Obj := fun P => { cls := Value.type "dict", data := Data.dict #[{ hash := PyData.keyHash P (Str.ofString "__name__"), key := Value.str (Str.ofString "__name__") 165, val := Value.str (Str.ofString "law_pe0250_01") 712 }, { hash := PyData.keyHash P (Str.ofString "__doc__"), key := Value.str (Str.ofString "__doc__") 166, val := Value.none }, { hash := PyData.keyHash P (Str.ofString "__package__"), key := Value.str (Str.ofString "__package__") 167, val := Value.none }, { hash := PyData.keyHash P (Str.ofString "__loader__"), key := Value.str (Str.ofString "__loader__") 168, val := Value.builtin "__main__.__loader__#opaque" }, { hash := PyData.keyHash P (Str.ofString "__spec__"), key := Value.str (Str.ofString "__spec__") 169, val := Value.none }, { hash := PyData.keyHash P (Str.ofString "__annotations__"), key := Value.str (Str.ofString "__annotations__") 170, val := Value.ref 6 }, { hash := PyData.keyHash P (Str.ofString "__builtins__"), key := Value.str (Str.ofString "__builtins__") 171, val := Value.ref 4 }, { hash := PyData.keyHash P (Str.ofString "__file__"), key := Value.str (Str.ofString "__file__") 173, val := Value.str (Str.ofString "/claim/cut.py") 172 }, { hash := PyData.keyHash P (Str.ofString "__cached__"), key := Value.str (Str.ofString "__cached__") 174, val := Value.none }, { hash := PyData.keyHash P (Str.ofString "_sre"), key := Value.str (Str.ofString "_sre") 275, val := Value.ref 12 }, { hash := PyData.keyHash P (Str.ofString "_wall"), key := Value.str (Str.ofString "_wall") 288, val := Value.ref 38 }, { hash := PyData.keyHash P (Str.ofString "_name_disallowed_re"), key := Value.str (Str.ofString "_name_disallowed_re") 316, val := Value.ref 43 }, { hash := PyData.keyHash P (Str.ofString "_value_disallowed_re"), key := Value.str (Str.ofString "_value_disallowed_re") 350, val := Value.ref 48 }, { hash := PyData.keyHash P (Str.ofString "Headers"), key := Value.str (Str.ofString "Headers") 507, val := Value.ref 171 }, { hash := PyData.keyHash P (Str.ofString "LPAR"), key := Value.str (Str.ofString "LPAR") 511, val := Value.int 7 510 }, { hash := PyData.keyHash P (Str.ofString "RPAR"), key := Value.str (Str.ofString "RPAR") 513, val := Value.int 8 512 }, { hash := PyData.keyHash P (Str.ofString "LSQB"), key := Value.str (Str.ofString "LSQB") 515, val := Value.int 9 514 }, { hash := PyData.keyHash P (Str.ofString "RSQB"), key := Value.str (Str.ofString "RSQB") 517, val := Value.int 10 516 }, { hash := PyData.keyHash P (Str.ofString "COLON"), key := Value.str (Str.ofString "COLON") 519, val := Value.int 11 518 }, { hash := PyData.keyHash P (Str.ofString "COMMA"), key := Value.str (Str.ofString "COMMA") 521, val := Value.int 12 520 }, { hash := PyData.keyHash P (Str.ofString "SEMI"), key := Value.str (Str.ofString "SEMI") 523, val := Value.int 13 522 }, { hash := PyData.keyHash P (Str.ofString "PLUS"), key := Value.str (Str.ofString "PLUS") 525, val := Value.int 14 524 }, { hash := PyData.keyHash P (Str.ofString "MINUS"), key := Value.str (Str.ofString "MINUS") 527, val := Value.int 15 526 }, { hash := PyData.keyHash P (Str.ofString "STAR"), key := Value.str (Str.ofString "STAR") 529, val := Value.int 16 528 }, { hash := PyData.keyHash P (Str.ofString "SLASH"), key := Value.str (Str.ofString "SLASH") 531, val := Value.int 17 530 }, { hash := PyData.keyHash P (Str.ofString "VBAR"), key := Value.str (Str.ofString "VBAR") 533, val := Value.int 18 532 }, { hash := PyData.keyHash P (Str.ofString "AMPER"), key := Value.str (Str.ofString "AMPER") 535, val := Value.int 19 534 }, { hash := PyData.keyHash P (Str.ofString "LESS"), key := Value.str (Str.ofString "LESS") 537, val := Value.int 20 536 }, { hash := PyData.keyHash P (Str.ofString "GREATER"), key := Value.str (Str.ofString "GREATER") 539, val := Value.int 21 538 }, { hash := PyData.keyHash P (Str.ofString "EQUAL"), key := Value.str (Str.ofString "EQUAL") 541, val := Value.int 22 540 }, { hash := PyData.keyHash P (Str.ofString "DOT"), key := Value.str (Str.ofString "DOT") 543, val := Value.int 23 542 }, { hash := PyData.keyHash P (Str.ofString "PERCENT"), key := Value.str (Str.ofString "PERCENT") 545, val := Value.int 24 544 }, { hash := PyData.keyHash P (Str.ofString "LBRACE"), key := Value.str (Str.ofString "LBRACE") 547, val := Value.int 25 546 }, { hash := PyData.keyHash P (Str.ofString "RBRACE"), key := Value.str (Str.ofString "RBRACE") 549, val := Value.int 26 548 }, { hash := PyData.keyHash P (Str.ofString "EQEQUAL"), key := Value.str (Str.ofString "EQEQUAL") 551, val := Value.int 27 550 }, { hash := PyData.keyHash P (Str.ofString "NOTEQUAL"), key := Value.str (Str.ofString "NOTEQUAL") 553, val := Value.int 28 552 }, { hash := PyData.keyHash P (Str.ofString "LESSEQUAL"), key := Value.str (Str.ofString "LESSEQUAL") 555, val := Value.int 29 554 }, { hash := PyData.keyHash P (Str.ofString "GREATEREQUAL"), key := Value.str (Str.ofString "GREATEREQUAL") 557, val := Value.int 30 556 }, { hash := PyData.keyHash P (Str.ofString "TILDE"), key := Value.str (Str.ofString "TILDE") 559, val := Value.int 31 558 }, { hash := PyData.keyHash P (Str.ofString "CIRCUMFLEX"), key := Value.str (Str.ofString "CIRCUMFLEX") 561, val := Value.int 32 560 }, { hash := PyData.keyHash P (Str.ofString "LEFTSHIFT"), key := Value.str (Str.ofString "LEFTSHIFT") 563, val := Value.int 33 562 }, { hash := PyData.keyHash P (Str.ofString "RIGHTSHIFT"), key := Value.str (Str.ofString "RIGHTSHIFT") 565, val := Value.int 34 564 }, { hash := PyData.keyHash P (Str.ofString "DOUBLESTAR"), key := Value.str (Str.ofString "DOUBLESTAR") 567, val := Value.int 35 566 }, { hash := PyData.keyHash P (Str.ofString "PLUSEQUAL"), key := Value.str (Str.ofString "PLUSEQUAL") 569, val := Value.int 36 568 }, { hash := PyData.keyHash P (Str.ofString "MINEQUAL"), key := Value.str (Str.ofString "MINEQUAL") 571, val := Value.int 37 570 }, { hash := PyData.keyHash P (Str.ofString "STAREQUAL"), key := Value.str (Str.ofString "STAREQUAL") 573, val := Value.int 38 572 }, { hash := PyData.keyHash P (Str.ofString "SLASHEQUAL"), key := Value.str (Str.ofString "SLASHEQUAL") 575, val := Value.int 39 574 }, { hash := PyData.keyHash P (Str.ofString "PERCENTEQUAL"), key := Value.str (Str.ofString "PERCENTEQUAL") 577, val := Value.int 40 576 }, { hash := PyData.keyHash P (Str.ofString "AMPEREQUAL"), key := Value.str (Str.ofString "AMPEREQUAL") 579, val := Value.int 41 578 }, { hash := PyData.keyHash P (Str.ofString "VBAREQUAL"), key := Value.str (Str.ofString "VBAREQUAL") 581, val := Value.int 42 580 }, { hash := PyData.keyHash P (Str.ofString "CIRCUMFLEXEQUAL"), key := Value.str (Str.ofString "CIRCUMFLEXEQUAL") 583, val := Value.int 43 582 }, { hash := PyData.keyHash P (Str.ofString "LEFTSHIFTEQUAL"), key := Value.str (Str.ofString "LEFTSHIFTEQUAL") 585, val := Value.int 44 584 }, { hash := PyData.keyHash P (Str.ofString "RIGHTSHIFTEQUAL"), key := Value.str (Str.ofString "RIGHTSHIFTEQUAL") 587, val := Value.int 45 586 }, { hash := PyData.keyHash P (Str.ofString "DOUBLESTAREQUAL"), key := Value.str (Str.ofString "DOUBLESTAREQUAL") 589, val := Value.int 46 588 }, { hash := PyData.keyHash P (Str.ofString "DOUBLESLASH"), key := Value.str (Str.ofString "DOUBLESLASH") 591, val := Value.int 47 590 }, { hash := PyData.keyHash P (Str.ofString "DOUBLESLASHEQUAL"), key := Value.str (Str.ofString "DOUBLESLASHEQUAL") 593, val := Value.int 48 592 }, { hash := PyData.keyHash P (Str.ofString "AT"), key := Value.str (Str.ofString "AT") 595, val := Value.int 49 594 }, { hash := PyData.keyHash P (Str.ofString "ATEQUAL"), key := Value.str (Str.ofString "ATEQUAL") 597, val := Value.int 50 596 }, { hash := PyData.keyHash P (Str.ofString "RARROW"), key := Value.str (Str.ofString "RARROW") 599, val := Value.int 51 598 }, { hash := PyData.keyHash P (Str.ofString "ELLIPSIS"), key := Value.str (Str.ofString "ELLIPSIS") 601, val := Value.int 52 600 }, { hash := PyData.keyHash P (Str.ofString "COLONEQUAL"), key := Value.str (Str.ofString "COLONEQUAL") 603, val := Value.int 53 602 }, { hash := PyData.keyHash P (Str.ofString "EXCLAMATION"), key := Value.str (Str.ofString "EXCLAMATION") 605, val := Value.int 54 604 }, { hash := PyData.keyHash P (Str.ofString "NT_OFFSET"), key := Value.str (Str.ofString "NT_OFFSET") 607, val := Value.int 256 606 }, { hash := PyData.keyHash P (Str.ofString "EXACT_TOKEN_TYPES"), key := Value.str (Str.ofString "EXACT_TOKEN_TYPES") 704, val := Value.ref 176 }, { hash := PyData.keyHash P (Str.ofString "ISTERMINAL"), key := Value.str (Str.ofString "ISTERMINAL") 711, val := Value.ref 185 }, { hash := PyData.keyHash P (Str.ofString "_law_deeds"), key := Value.str (Str.ofString "_law_deeds") 719, val := Value.ref 190 }, { hash := PyData.keyHash P (Str.ofString "_law_figures"), key := Value.str (Str.ofString "_law_figures") 727, val := Value.ref 197 }, { hash := PyData.keyHash P (Str.ofString "_law_name"), key := Value.str (Str.ofString "_law_name") 738, val := Value.ref 204 }, { hash := PyData.keyHash P (Str.ofString "_law_signs"), key := Value.str (Str.ofString "_law_signs") 744, val := Value.ref 211 }, { hash := PyData.keyHash P (Str.ofString "_law_joined"), key := Value.str (Str.ofString "_law_joined") 753, val := Value.ref 218 }, { hash := PyData.keyHash P (Str.ofString "_law_kept"), key := Value.str (Str.ofString "_law_kept") 769, val := Value.ref 225 }, { hash := PyData.keyHash P (Str.ofString "_law_told"), key := Value.str (Str.ofString "_law_told") 775, val := Value.ref 230 }, { hash := PyData.keyHash P (Str.ofString "_law_part"), key := Value.str (Str.ofString "_law_part") 785, val := Value.ref 237 }, { hash := PyData.keyHash P (Str.ofString "_law_unfolded"), key := Value.str (Str.ofString "_law_unfolded") 799, val := Value.ref 244 }, { hash := PyData.keyHash P (Str.ofString "law"), key := Value.str (Str.ofString "law") 812, val := Value.ref 251 }] 75 }
noncomputable def ob45 : Params → Obj := fun P => { cls := Value.type "module", dict := some 0 }
noncomputable def ob46 : Params → Obj := fun P => { cls := Value.type "module", dict := some 3 }
noncomputable def ob47 : Params → Obj := fun P => { cls := Value.type "dict", data := Data.dict #[] }
noncomputable def ob48 : Params → Obj := fun P => { cls := Value.type "tuple", data := Data.seq #[] }
noncomputable def ob49 : Params → Obj := fun P => { cls := Value.none, data := Data.fields #[] }
noncomputable def ob50 : Params → Obj := fun P => { cls := Value.type "code", data := Data.fields #[Value.str (Str.ofString "<module>") 176, Value.str (Str.ofString "<module>") 177, Value.str (Str.ofString "/claim/cut.py") 178, Value.int 1 0, Value.int 0 0, Value.int 0 0, Value.int 0 0, Value.int 0 0, Value.ref 7, Value.bool false, Value.int 175 0, Value.ref 8, Value.none, Value.none, Value.none, Value.none, Value.int 179 0, Value.int 1 0, Value.str (Str.ofString "/claim/cut.py") 180] }
noncomputable def ob51 : Params → Obj := fun P => { cls := Value.type "frame", slots := #[some (Value.ref 9), some (Value.ref 3), some (Value.ref 3), none, some (Value.str (Str.ofString "__main__") 164), none, some (Value.ref 0)] }
noncomputable def ob52 : Params → Obj := fun P => { cls := Value.type "dict", data := Data.dict #[{ hash := PyData.keyHash P (Str.ofString "__name__"), key := Value.str (Str.ofString "__name__") 247, val := Value.str (Str.ofString "_sre") 246 }, { hash := PyData.keyHash P (Str.ofString "__doc__"), key := Value.str (Str.ofString "__doc__") 248, val := Value.none }, { hash := PyData.keyHash P (Str.ofString "__package__"), key := Value.str (Str.ofString "__package__") 250, val := Value.str (Str.ofString "") 249 }, { hash := PyData.keyHash P (Str.ofString "__loader__"), key := Value.str (Str.ofString "__loader__") 251, val := Value.builtin "off-the-table:_sre.__loader__:shared#opaque" }, { hash := PyData.keyHash P (Str.ofString "__spec__"), key := Value.str (Str.ofString "__spec__") 252, val := Value.builtin "off-the-table:_sre.__spec__:shared#opaque" }, { hash := PyData.keyHash P (Str.ofString "compile"), key := Value.str (Str.ofString "compile") 253, val := Value.builtin "_sre.compile" }, { hash := PyData.keyHash P (Str.ofString "template"), key := Value.str (Str.ofString "template") 254, val := Value.builtin "off-the-table:_sre.template:shared#opaque" }, { hash := PyData.keyHash P (Str.ofString "getcodesize"), key := Value.str (Str.ofString "getcodesize") 255, val := Value.builtin "off-the-table:_sre.getcodesize:shared#opaque" }, { hash := PyData.keyHash P (Str.ofString "ascii_iscased"), key := Value.str (Str.ofString "ascii_iscased") 256, val := Value.builtin "off-the-table:_sre.ascii_iscased:shared#opaque" }, { hash := PyData.keyHash P (Str.ofString "unicode_iscased"), key := Value.str (Str.ofString "unicode_iscased") 257, val := Value.builtin "off-the-table:_sre.unicode_iscased:shared#opaque" }, { hash := PyData.keyHash P (Str.ofString "ascii_tolower"), key := Value.str (Str.ofString "ascii_tolower") 258, val := Value.builtin "off-the-table:_sre.ascii_tolower:shared#opaque" }, { hash := PyData.keyHash P (Str.ofString "unicode_tolower"), key := Value.str (Str.ofString "unicode_tolower") 259, val := Value.builtin "off-the-table:_sre.unicode_tolower:shared#opaque" }, { hash := PyData.keyHash P (Str.ofString "MAGIC"), key := Value.str (Str.ofString "MAGIC") 261, val := Value.int 20230612 260 }, { hash := PyData.keyHash P (Str.ofString "CODESIZE"), key := Value.str (Str.ofString "CODESIZE") 263, val := Value.int 4 262 }, { hash := PyData.keyHash P (Str.ofString "MAXREPEAT"), key := Value.str (Str.ofString "MAXREPEAT") 265, val := Value.int 4294967295 264 }, { hash := PyData.keyHash P (Str.ofString "MAXGROUPS"), key := Value.str (Str.ofString "MAXGROUPS") 267, val := Value.int 1073741823 266 }, { hash := PyData.keyHash P (Str.ofString "copyright"), key := Value.str (Str.ofString "copyright") 269, val := Value.str (Str.ofString " SRE 2.2.2 Copyright (c) 1997-2002 by Secret Labs AB ") 268 }] 17 }
noncomputable def ob53 : Params → Obj := fun P => { cls := Value.type "module", dict := some 11 }
noncomputable def ob54 : Params → Obj := fun P => { cls := Value.type "dict", data := Data.dict #[{ hash := PyData.keyHash P (Str.ofString "__module__"), key := Value.str (Str.ofString "__module__") 189, val := Value.str (Str.ofString "_frozen_importlib") 186 }, { hash := PyData.keyHash P (Str.ofString "__firstlineno__"), key := Value.str (Str.ofString "__firstlineno__") 190, val := Value.int 971 187 }, { hash := PyData.keyHash P (Str.ofString "__doc__"), key := Value.str (Str.ofString "__doc__") 191, val := Value.builtin "_frozen_importlib.BuiltinImporter.__doc__:str#opaque" }, { hash := PyData.keyHash P (Str.ofString "_ORIGIN"), key := Value.str (Str.ofString "_ORIGIN") 192, val := Value.str (Str.ofString "built-in") 188 }, { hash := PyData.keyHash P (Str.ofString "find_spec"), key := Value.str (Str.ofString "find_spec") 193, val := Value.builtin "_frozen_importlib.BuiltinImporter.find_spec#opaque" }, { hash := PyData.keyHash P (Str.ofString "create_module"), key := Value.str (Str.ofString "create_module") 194, val := Value.builtin "_frozen_importlib.BuiltinImporter.create_module#opaque" }, { hash := PyData.keyHash P (Str.ofString "exec_module"), key := Value.str (Str.ofString "exec_module") 195, val := Value.builtin "_frozen_importlib.BuiltinImporter.exec_module#opaque" }, { hash := PyData.keyHash P (Str.ofString "get_code"), key := Value.str (Str.ofString "get_code") 196, val := Value.builtin "_frozen_importlib.BuiltinImporter.get_code#opaque" }, { hash := PyData.keyHash P (Str.ofString "get_source"), key := Value.str (Str.ofString "get_source") 197, val := Value.builtin "_frozen_importlib.BuiltinImporter.get_source#opaque" }, { hash := PyData.keyHash P (Str.ofString "is_package"), key := Value.str (Str.ofString "is_package") 198, val := Value.builtin "_frozen_importlib.BuiltinImporter.is_package#opaque" }, { hash := PyData.keyHash P (Str.ofString "load_module"), key := Value.str (Str.ofString "load_module") 199, val := Value.builtin "_frozen_importlib.BuiltinImporter.load_module#opaque" }, { hash := PyData.keyHash P (Str.ofString "__static_attributes__"), key := Value.str (Str.ofString "__static_attributes__") 200, val := Value.ref 15 }, { hash := PyData.keyHash P (Str.ofString "__dict__"), key := Value.str (Str.ofString "__dict__") 202, val := Value.ref 16 }, { hash := PyData.keyHash P (Str.ofString "__weakref__"), key := Value.str (Str.ofString "__weakref__") 204, val := Value.ref 17 }] 14 }
noncomputable def ob55 : Params → Obj := fun P => { cls := Value.type "type", data := Data.cls { name := Str.ofString "BuiltinImporter", bases := [Value.type "object"], mro := [Value.ref 14, Value.type "object"], ns := 13, qualname := Str.ofString "BuiltinImporter" } }
noncomputable def ob56 : Params → Obj := fun P => { cls := Value.type "tuple", data := Data.seq #[] }
noncomputable def ob57 : Params → Obj := fun P => { cls := Value.type "getset_descriptor", data := Data.fields #[Value.str (Str.ofString "__dict__") 201, Value.ref 14, Value.builtin "function.__dict__", Value.builtin "function.__dict__#set"] }
noncomputable def ob58 : Params → Obj := fun P => { cls := Value.type "getset_descriptor", data := Data.fields #[Value.str (Str.ofString "__weakref__") 203, Value.ref 14, Value.builtin "ExceptionGroup.__weakref__", Value.none] }
noncomputable def ob59 : Params → Obj := fun P => { cls := Value.none, data := Data.seq #[Value.int 13 0, Value.str (Str.ofString "\x06½\n__module__\x06º\x11_frozen_importlib\x06¾\x0f__firstlineno__\x04»\x00ϋ\x06¿\x07__doc__\t4_frozen_importlib.BuiltinImporter.__doc__:str#opaque\x06À\x07_ORIGIN\x06¼\x08built-in\x06Á\tfind_spec\t2_frozen_importlib.BuiltinImporter.find_spec#opaque\x06Â\x0dcreate_module\t6_frozen_importlib.BuiltinImporter.create_module#opaque\x06Ã\x0bexec_module\t4_frozen_importlib.BuiltinImporter.exec_module#opaque\x06Ä\x08get_code\t1_frozen_importlib.BuiltinImporter.get_code#opaque\x06Å\nget_source\t3_frozen_importlib.BuiltinImporter.get_source#opaque\x06Æ\nis_package\t3_frozen_importlib.BuiltinImporter.is_package#opaque\x06Ç\x0bload_module\t4_frozen_importlib.BuiltinImporter.load_module#opaque\x06È\x15__static_attributes__\x04\x00\x00\x0f\x06Ê\x08__dict__\x04\x00\x00\x10\x06Ì\x0b__weakref__\x04\x00\x00\x11") 0, Value.bool true, Value.bool true, Value.str (Str.ofString "") 205, Value.int 21 0, Value.str (Str.ofString "\x06ã\n__module__\x06Ù\x11_frozen_importlib\x06ä\x0f__firstlineno__\x04Ú\x00Ȳ\x06å\x07__doc__\t/_frozen_importlib.ModuleSpec.__doc__:str#opaque\x06æ\x08__init__\t,_frozen_importlib.ModuleSpec.__init__#opaque\x06ç\x08__repr__\t,_frozen_importlib.ModuleSpec.__repr__#opaque\x06è\x06__eq__\t*_frozen_importlib.ModuleSpec.__eq__#opaque\x06é\x06cached\t*_frozen_importlib.ModuleSpec.cached#opaque\x06ê\x06parent\t*_frozen_importlib.ModuleSpec.parent#opaque\x06ë\x0chas_location\t0_frozen_importlib.ModuleSpec.has_location#opaque\x06ì\x15__static_attributes__\x04\x00\x00\x17\x06î\x08__dict__\x04\x00\x00\x18\x06ð\x0b__weakref__\x04\x00\x00\x19\x06ñ\x08__hash__\x00") 0, Value.bool true, Value.bool true, Value.str (Str.ofString "") 242] 1 }
noncomputable def ob60 : Params → Obj := fun P => { cls := Value.type "list", data := Data.seq #[] }
noncomputable def ob61 : Params → Obj := fun P => { cls := Value.type "dict", data := Data.dict #[{ hash := PyData.keyHash P (Str.ofString "name"), key := Value.str (Str.ofString "name") 208, val := Value.str (Str.ofString "_sre") 207 }, { hash := PyData.keyHash P (Str.ofString "loader"), key := Value.str (Str.ofString "loader") 209, val := Value.ref 14 }, { hash := PyData.keyHash P (Str.ofString "origin"), key := Value.str (Str.ofString "origin") 210, val := Value.str (Str.ofString "built-in") 184 }, { hash := PyData.keyHash P (Str.ofString "loader_state"), key := Value.str (Str.ofString "loader_state") 211, val := Value.none }, { hash := PyData.keyHash P (Str.ofString "submodule_search_locations"), key := Value.str (Str.ofString "submodule_search_locations") 212, val := Value.none }, { hash := PyData.keyHash P (Str.ofString "_uninitialized_submodules"), key := Value.str (Str.ofString "_uninitialized_submodules") 213, val := Value.ref 19 }, { hash := PyData.keyHash P (Str.ofString "_set_fileattr"), key := Value.str (Str.ofString "_set_fileattr") 214, val := Value.bool false }, { hash := PyData.keyHash P (Str.ofString "_cached"), key := Value.str (Str.ofString "_cached") 215, val := Value.none }, { hash := PyData.keyHash P (Str.ofString "_initializing"), key := Value.str (Str.ofString "_initializing") 243, val := Value.bool false }] 9 }
noncomputable def ob62 : Params → Obj := fun P => { cls := Value.type "dict", data := Data.dict #[{ hash := PyData.keyHash P (Str.ofString "__module__"), key := Value.str (Str.ofString "__module__") 227, val := Value.str (Str.ofString "_frozen_importlib") 217 }, { hash := PyData.keyHash P (Str.ofString "__firstlineno__"), key := Value.str (Str.ofString "__firstlineno__") 228, val := Value.int 562 218 }, { hash := PyData.keyHash P (Str.ofString "__doc__"), key := Value.str (Str.ofString "__doc__") 229, val := Value.builtin "_frozen_importlib.ModuleSpec.__doc__:str#opaque" }, { hash := PyData.keyHash P (Str.ofString "__init__"), key := Value.str (Str.ofString "__init__") 230, val := Value.builtin "_frozen_importlib.ModuleSpec.__init__#opaque" }, { hash := PyData.keyHash P (Str.ofString "__repr__"), key := Value.str (Str.ofString "__repr__") 231, val := Value.builtin "_frozen_importlib.ModuleSpec.__repr__#opaque" }, { hash := PyData.keyHash P (Str.ofString "__eq__"), key := Value.str (Str.ofString "__eq__") 232, val := Value.builtin "_frozen_importlib.ModuleSpec.__eq__#opaque" }, { hash := PyData.keyHash P (Str.ofString "cached"), key := Value.str (Str.ofString "cached") 233, val := Value.builtin "_frozen_importlib.ModuleSpec.cached#opaque" }, { hash := PyData.keyHash P (Str.ofString "parent"), key := Value.str (Str.ofString "parent") 234, val := Value.builtin "_frozen_importlib.ModuleSpec.parent#opaque" }, { hash := PyData.keyHash P (Str.ofString "has_location"), key := Value.str (Str.ofString "has_location") 235, val := Value.builtin "_frozen_importlib.ModuleSpec.has_location#opaque" }, { hash := PyData.keyHash P (Str.ofString "__static_attributes__"), key := Value.str (Str.ofString "__static_attributes__") 236, val := Value.ref 23 }, { hash := PyData.keyHash P (Str.ofString "__dict__"), key := Value.str (Str.ofString "__dict__") 238, val := Value.ref 24 }, { hash := PyData.keyHash P (Str.ofString "__weakref__"), key := Value.str (Str.ofString "__weakref__") 240, val := Value.ref 25 }, { hash := PyData.keyHash P (Str.ofString "__hash__"), key := Value.str (Str.ofString "__hash__") 241, val := Value.none }] 13 }
noncomputable def ob63 : Params → Obj := fun P => { cls := Value.type "type", data := Data.cls { name := Str.ofString "ModuleSpec", bases := [Value.type "object"], mro := [Value.ref 22, Value.type "object"], ns := 21, qualname := Str.ofString "ModuleSpec" } }
noncomputable def ob64 : Params → Obj := fun P => { cls := Value.type "tuple", data := Data.seq #[Value.str (Str.ofString "_cached") 219, Value.str (Str.ofString "_set_fileattr") 220, Value.str (Str.ofString "_uninitialized_submodules") 221, Value.str (Str.ofString "loader") 222, Value.str (Str.ofString "loader_state") 223, Value.str (Str.ofString "name") 224, Value.str (Str.ofString "origin") 225, Value.str (Str.ofString "submodule_search_locations") 226] }
noncomputable def ob65 : Params → Obj := fun P => { cls := Value.type "getset_descriptor", data := Data.fields #[Value.str (Str.ofString "__dict__") 237, Value.ref 22, Value.builtin "function.__dict__", Value.builtin "function.__dict__#set"] }
noncomputable def ob66 : Params → Obj := fun P => { cls := Value.type "getset_descriptor", data := Data.fields #[Value.str (Str.ofString "__weakref__") 239, Value.ref 22, Value.builtin "ExceptionGroup.__weakref__", Value.none] }
noncomputable def ob67 : Params → Obj := fun P => { cls := Value.ref 22, dict := some 20 }
noncomputable def ob68 : Params → Obj := fun P => { cls := Value.none, data := Data.seq #[Value.int 11 0, Value.str { cps := #[6, 247, 8, 95, 95, 110, 97, 109, 101, 95, 95, 6, 246, 4, 95, 115, 114, 101, 6, 248, 7, 95, 95, 100, 111, 99, 95, 95, 0, 6, 250, 11, 95, 95, 112, 97, 99, 107, 97, 103, 101, 95, 95, 6, 249, 0, 6, 251, 10, 95, 95, 108, 111, 97, 100, 101, 114, 95, 95, 4, 0, 0, 14, 6, 252, 8, 95, 95, 115, 112, 101, 99, 95, 95, 4, 0, 0, 26, 6, 253, 7, 99, 111, 109, 112, 105, 108, 101, 9, 12, 95, 115, 114, 101, 46, 99, 111, 109, 112, 105, 108, 101, 6, 254, 8, 116, 101, 109, 112, 108, 97, 116, 101, 9, 13, 95, 115, 114, 101, 46, 116, 101, 109, 112, 108, 97, 116, 101, 6, 255, 11, 103, 101, 116, 99, 111, 100, 101, 115, 105, 122, 101, 9, 16, 95, 115, 114, 101, 46, 103, 101, 116, 99, 111, 100, 101, 115, 105, 122, 101, 6, 256, 13, 97, 115, 99, 105, 105, 95, 105, 115, 99, 97, 115, 101, 100, 9, 18, 95, 115, 114, 101, 46, 97, 115, 99, 105, 105, 95, 105, 115, 99, 97, 115, 101, 100, 6, 257, 15, 117, 110, 105, 99, 111, 100, 101, 95, 105, 115, 99, 97, 115, 101, 100, 9, 20, 95, 115, 114, 101, 46, 117, 110, 105, 99, 111, 100, 101, 95, 105, 115, 99, 97, 115, 101, 100, 6, 258, 13, 97, 115, 99, 105, 105, 95, 116, 111, 108, 111, 119, 101, 114, 9, 18, 95, 115, 114, 101, 46, 97, 115, 99, 105, 105, 95, 116, 111, 108, 111, 119, 101, 114, 6, 259, 15, 117, 110, 105, 99, 111, 100, 101, 95, 116, 111, 108, 111, 119, 101, 114, 9, 20, 95, 115, 114, 101, 46, 117, 110, 105, 99, 111, 100, 101, 95, 116, 111, 108, 111, 119, 101, 114, 6, 261, 5, 77, 65, 71, 73, 67, 4, 260, 0, 20230612, 6, 263, 8, 67, 79, 68, 69, 83, 73, 90, 69, 4, 262, 0, 4, 6, 265, 9, 77, 65, 88, 82, 69, 80, 69, 65, 84, 4, 264, 0, 4294967295, 6, 267, 9, 77, 65, 88, 71, 82, 79, 85, 80, 83, 4, 266, 0, 1073741823, 6, 269, 9, 99, 111, 112, 121, 114, 105, 103, 104, 116, 6, 268, 53, 32, 83, 82, 69, 32, 50, 46, 50, 46, 50, 32, 67, 111, 112, 121, 114, 105, 103, 104, 116, 32, 40, 99, 41, 32, 49, 57, 57, 55, 45, 50, 48, 48, 50, 32, 98, 121, 32, 83, 101, 99, 114, 101, 116, 32, 76, 97, 98, 115, 32, 65, 66, 32] } 0, Value.bool true, Value.bool false, Value.str (Str.ofString "_sre") 271] }
noncomputable def ob69 : Params → Obj := fun P => { cls := Value.type "tuple", data := Data.seq #[] }
noncomputable def ob319 : Params → Obj := fun P => { cls := Value.none, data := Data.fields #[Value.int 2 0, Value.int 0 0, Value.ref 37, Value.int 8 0, Value.int 0 0, Value.ref 54, Value.int 134 0, Value.int 0 0, Value.ref 184, Value.int 137 0, Value.int 0 0, Value.ref 189, Value.int 149 0, Value.int 0 0, Value.ref 196, Value.int 155 0, Value.int 0 0, Value.ref 203, Value.int 158 0, Value.int 0 0, Value.ref 210, Value.int 160 0, Value.int 0 0, Value.ref 217, Value.int 164 0, Value.int 0 0, Value.ref 224, Value.int 178 0, Value.int 0 0, Value.ref 229, Value.int 197 0, Value.int 0 0, Value.ref 236, Value.int 204 0, Value.int 0 0, Value.ref 243, Value.int 215 0, Value.int 0 0, Value.ref 250] }
noncomputable def ob71 : Params → Obj := fun P => { cls := Value.type "code", data := Data.fields #[Value.str (Str.ofString "<module>") 277, Value.str (Str.ofString "<module>") 278, Value.str (Str.ofString "/claim/cut.py") 279, Value.int 1 0, Value.int 0 0, Value.int 0 0, Value.int 0 0, Value.int 0 0, Value.ref 28, Value.bool false, Value.int 276 0, Value.ref 29, Value.none, Value.none, Value.none, Value.none, Value.int 280 0, Value.int 1 0, Value.str (Str.ofString "/claim/cut.py") 281] }
noncomputable def ob72 : Params → Obj := fun P => { cls := Value.type "frame", slots := #[some (Value.ref 30), some (Value.ref 3), some (Value.ref 3), none, some (Value.str (Str.ofString "__main__") 164), none, some (Value.ref 0)] }
noncomputable def ob77 : Params → Obj := fun P => { cls := Value.type "tuple", data := Data.seq #[] }
noncomputable def ob78 : Params → Obj := fun P => { cls := Value.none, data := Data.fields #[] }
noncomputable def ob79 : Params → Obj := fun P => { cls := Value.type "tuple", data := Data.seq #[Value.str (Str.ofString "k") 285] }
noncomputable def ob80 : Params → Obj := fun P => { cls := Value.type "tuple", data := Data.seq #[] }
noncomputable def ob81 : Params → Obj := fun P => { cls := Value.none, data := Data.func { name := Str.ofString "_wall", qualname := Str.ofString "_wall", params := Mine.fnArgs Mine.top1.val, body := FuncBody.stmts (Mine.fnBody Mine.top1.val), scope := Mine.fnScope Mine.top1.val, globals := 0, closure := [], defaults := Value.none, kwdefaults := Value.none } }
noncomputable def ob82 : Params → Obj := fun P => { cls := Value.type "code", data := Data.fields #[Value.str (Str.ofString "_wall") 282, Value.str (Str.ofString "_wall") 283, Value.str (Str.ofString "/claim/cut.py") 284, Value.int 2 0, Value.int 1 0, Value.int 0 0, Value.int 0 0, Value.int 3 0, Value.ref 32, Value.bool true, Value.int 276 0, Value.ref 33, Value.none, Value.ref 34, Value.ref 35, Value.ref 36, Value.int 286 0, Value.int 2 0, Value.str (Str.ofString "/claim/cut.py") 287] }
noncomputable def ob83 : Params → Obj := fun P => { cls := Value.type "function", data := Data.func { name := Str.ofString "_wall", qualname := Str.ofString "_wall", params := Mine.fnArgs Mine.top1.val, body := FuncBody.stmts (Mine.fnBody Mine.top1.val), scope := Mine.fnScope Mine.top1.val, globals := 3, closure := [], defaults := Value.none, kwdefaults := Value.none, pyModule := Value.str (Str.ofString "__main__") 164, code := Value.ref 37 } }
noncomputable def ob84 : Params → Obj := fun P => { cls := Value.type "list", data := Data.seq #[Value.int 14 294, Value.int 10 295, Value.int 4 296, Value.int 1 297, Value.int 1 298, Value.int 22 299, Value.int 0 300, Value.int 31 301, Value.int 16 302, Value.int 127 303, Value.int 0 304, Value.int 13 305, Value.int 7 306, Value.int 22 307, Value.int 0 308, Value.int 31 309, Value.int 16 310, Value.int 127 311, Value.int 0 312, Value.int 1 313] }
noncomputable def ob85 : Params → Obj := fun P => { cls := Value.type "dict", data := Data.dict #[] }
noncomputable def ob86 : Params → Obj := fun P => { cls := Value.type "tuple", data := Data.seq #[Value.none] }
noncomputable def ob87 : Params → Obj := fun P => { cls := Value.type "tuple", data := Data.seq #[Value.int 14 0, Value.int 10 0, Value.int 4 0, Value.int 1 0, Value.int 1 0, Value.int 22 0, Value.int 0 0, Value.int 31 0, Value.int 16 0, Value.int 127 0, Value.int 0 0, Value.int 13 0, Value.int 7 0, Value.int 22 0, Value.int 0 0, Value.int 31 0, Value.int 16 0, Value.int 127 0, Value.int 0 0, Value.int 1 0] }
noncomputable def ob88 : Params → Obj := fun P => { cls := Value.type "re.Pattern", data := Data.fields #[Value.str (Str.ofString "[\\x00-\\x1F\\x7F]") 292, Value.int 32 315, Value.int 0 0, Value.none, Value.none, Value.ref 42, Value.int 0 0] }
noncomputable def ob89 : Params → Obj := fun P => { cls := Value.type "list", data := Data.seq #[Value.int 14 320, Value.int 14 321, Value.int 4 322, Value.int 1 323, Value.int 1 324, Value.int 9 325, Value.int 4294966783 326, Value.int 0 327, Value.int 0 328, Value.int 2147483648 329, Value.int 0 330, Value.int 0 331, Value.int 0 332, Value.int 0 333, Value.int 0 334, Value.int 13 335, Value.int 11 336, Value.int 9 337, Value.int 4294966783 338, Value.int 0 339, Value.int 0 340, Value.int 2147483648 341, Value.int 0 342, Value.int 0 343, Value.int 0 344, Value.int 0 345, Value.int 0 346, Value.int 1 347] }
noncomputable def ob90 : Params → Obj := fun P => { cls := Value.type "dict", data := Data.dict #[] }
noncomputable def ob91 : Params → Obj := fun P => { cls := Value.type "tuple", data := Data.seq #[Value.none] }
noncomputable def ob92 : Params → Obj := fun P => { cls := Value.type "tuple", data := Data.seq #[Value.int 14 0, Value.int 14 0, Value.int 4 0, Value.int 1 0, Value.int 1 0, Value.int 9 0, Value.int 4294966783 0, Value.int 0 0, Value.int 0 0, Value.int 2147483648 0, Value.int 0 0, Value.int 0 0, Value.int 0 0, Value.int 0 0, Value.int 0 0, Value.int 13 0, Value.int 11 0, Value.int 9 0, Value.int 4294966783 0, Value.int 0 0, Value.int 0 0, Value.int 2147483648 0, Value.int 0 0, Value.int 0 0, Value.int 0 0, Value.int 0 0, Value.int 0 0, Value.int 1 0] }
noncomputable def ob93 : Params → Obj := fun P => { cls := Value.type "re.Pattern", data := Data.fields #[Value.str (Str.ofString "[\\x00-\\x08\\x0A-\\x1F\\x7F]") 318, Value.int 32 349, Value.int 0 0, Value.none, Value.none, Value.ref 47, Value.int 0 0] }
noncomputable def ob96 : Params → Obj := fun P => { cls := Value.type "tuple", data := Data.seq #[] }
noncomputable def ob97 : Params → Obj := fun P => { cls := Value.type "builtin_function_or_method", data := Data.fields #[Value.builtin "type.__prepare__", Value.type "type"] }
noncomputable def ob98 : Params → Obj := fun P => { cls := Value.type "dict", data := Data.dict #[{ hash := PyData.keyHash P (Str.ofString "__module__"), key := Value.str (Str.ofString "__module__") 358, val := Value.str (Str.ofString "cpy313.wsgiref.headers") 289 }, { hash := PyData.keyHash P (Str.ofString "__qualname__"), key := Value.str (Str.ofString "__qualname__") 360, val := Value.str (Str.ofString "Headers") 359 }, { hash := PyData.keyHash P (Str.ofString "__firstlineno__"), key := Value.str (Str.ofString "__firstlineno__") 362, val := Value.int 8 361 }, { hash := PyData.keyHash P (Str.ofString "__init__"), key := Value.str (Str.ofString "__init__") 372, val := Value.ref 63 }, { hash := PyData.keyHash P (Str.ofString "_convert_string_type"), key := Value.str (Str.ofString "_convert_string_type") 382, val := Value.ref 70 }, { hash := PyData.keyHash P (Str.ofString "__len__"), key := Value.str (Str.ofString "__len__") 389, val := Value.ref 77 }, { hash := PyData.keyHash P (Str.ofString "__setitem__"), key := Value.str (Str.ofString "__setitem__") 398, val := Value.ref 84 }, { hash := PyData.keyHash P (Str.ofString "__delitem__"), key := Value.str (Str.ofString "__delitem__") 404, val := Value.ref 89 }, { hash := PyData.keyHash P (Str.ofString "__getitem__"), key := Value.str (Str.ofString "__getitem__") 412, val := Value.ref 96 }, { hash := PyData.keyHash P (Str.ofString "__contains__"), key := Value.str (Str.ofString "__contains__") 420, val := Value.ref 103 }, { hash := PyData.keyHash P (Str.ofString "get_all"), key := Value.str (Str.ofString "get_all") 428, val := Value.ref 110 }, { hash := PyData.keyHash P (Str.ofString "get"), key := Value.str (Str.ofString "get") 439, val := Value.ref 118 }, { hash := PyData.keyHash P (Str.ofString "keys"), key := Value.str (Str.ofString "keys") 445, val := Value.ref 123 }, { hash := PyData.keyHash P (Str.ofString "values"), key := Value.str (Str.ofString "values") 451, val := Value.ref 128 }, { hash := PyData.keyHash P (Str.ofString "items"), key := Value.str (Str.ofString "items") 458, val := Value.ref 135 }, { hash := PyData.keyHash P (Str.ofString "__repr__"), key := Value.str (Str.ofString "__repr__") 465, val := Value.ref 142 }, { hash := PyData.keyHash P (Str.ofString "__str__"), key := Value.str (Str.ofString "__str__") 471, val := Value.ref 147 }, { hash := PyData.keyHash P (Str.ofString "__bytes__"), key := Value.str (Str.ofString "__bytes__") 478, val := Value.ref 154 }, { hash := PyData.keyHash P (Str.ofString "setdefault"), key := Value.str (Str.ofString "setdefault") 488, val := Value.ref 161 }, { hash := PyData.keyHash P (Str.ofString "add_header"), key := Value.str (Str.ofString "add_header") 498, val := Value.ref 168 }, { hash := PyData.keyHash P (Str.ofString "__static_attributes__"), key := Value.str (Str.ofString "__static_attributes__") 500, val := Value.ref 169 }] 21 }
noncomputable def ob99 : Params → Obj := fun P => { cls := Value.type "tuple", data := Data.seq #[] }
noncomputable def ob100 : Params → Obj := fun P => { cls := Value.none, data := Data.fields #[Value.int 10 0, Value.int 4 0, Value.ref 62, Value.int 20 0, Value.int 4 0, Value.ref 69, Value.int 28 0, Value.int 4 0, Value.ref 76, Value.int 31 0, Value.int 4 0, Value.ref 83, Value.int 35 0, Value.int 4 0, Value.ref 88, Value.int 39 0, Value.int 4 0, Value.ref 95, Value.int 42 0, Value.int 4 0, Value.ref 102, Value.int 45 0, Value.int 4 0, Value.ref 109, Value.int 48 0, Value.int 4 0, Value.ref 117, Value.int 55 0, Value.int 4 0, Value.ref 122, Value.int 58 0, Value.int 4 0, Value.ref 127, Value.int 61 0, Value.int 4 0, Value.ref 134, Value.int 64 0, Value.int 4 0, Value.ref 141, Value.int 67 0, Value.int 4 0, Value.ref 146, Value.int 70 0, Value.int 4 0, Value.ref 153, Value.int 73 0, Value.int 4 0, Value.ref 160, Value.int 81 0, Value.int 4 0, Value.ref 167] }
noncomputable def ob101 : Params → Obj := fun P => { cls := Value.type "code", data := Data.fields #[Value.str (Str.ofString "Headers") 353, Value.str (Str.ofString "Headers") 354, Value.str (Str.ofString "/claim/cut.py") 355, Value.int 8 0, Value.int 0 0, Value.int 0 0, Value.int 0 0, Value.int 0 0, Value.ref 52, Value.bool false, Value.int 276 0, Value.ref 53, Value.none, Value.none, Value.none, Value.none, Value.int 356 0, Value.int 8 0, Value.str (Str.ofString "/claim/cut.py") 357] }
noncomputable def ob102 : Params → Obj := fun P => { cls := Value.type "frame", slots := #[some (Value.ref 54), some (Value.ref 3), some (Value.ref 51), none, some (Value.str (Str.ofString "cpy313.wsgiref.headers") 289), none, some (Value.ref 0)] }
noncomputable def ob103 : Params → Obj := fun P => { cls := Value.type "tuple", data := Data.seq #[Value.none] }
noncomputable def ob104 : Params → Obj := fun P => { cls := Value.type "tuple", data := Data.seq #[] }
noncomputable def ob105 : Params → Obj := fun P => { cls := Value.none, data := Data.fields #[] }
noncomputable def ob106 : Params → Obj := fun P => { cls := Value.type "tuple", data := Data.seq #[Value.str (Str.ofString "self") 366, Value.str (Str.ofString "headers") 367, Value.str (Str.ofString "k") 368, Value.str (Str.ofString "v") 369] }
noncomputable def ob107 : Params → Obj := fun P => { cls := Value.type "tuple", data := Data.seq #[] }
noncomputable def ob108 : Params → Obj := fun P => { cls := Value.none, data := Data.func { name := Str.ofString "__init__", qualname := Str.ofString "Headers.__init__", params := Mine.fnArgs Mine.meth0.val, body := FuncBody.stmts (Mine.fnBody Mine.meth0.val), scope := Mine.fnScope Mine.meth0.val, globals := 0, closure := [], defaults := Value.none, kwdefaults := Value.none } }
noncomputable def ob109 : Params → Obj := fun P => { cls := Value.type "code", data := Data.fields #[Value.str (Str.ofString "__init__") 363, Value.str (Str.ofString "Headers.__init__") 364, Value.str (Str.ofString "/claim/cut.py") 365, Value.int 10 0, Value.int 2 0, Value.int 0 0, Value.int 0 0, Value.int 3 0, Value.ref 57, Value.bool true, Value.int 276 0, Value.ref 58, Value.none, Value.ref 59, Value.ref 60, Value.ref 61, Value.int 370 0, Value.int 10 0, Value.str (Str.ofString "/claim/cut.py") 371] }
noncomputable def ob110 : Params → Obj := fun P => { cls := Value.type "function", data := Data.func { name := Str.ofString "__init__", qualname := Str.ofString "Headers.__init__", params := Mine.fnArgs Mine.meth0.val, body := FuncBody.stmts (Mine.fnBody Mine.meth0.val), scope := Mine.fnScope Mine.meth0.val, globals := 3, closure := [], defaults := Value.ref 56, kwdefaults := Value.none, pyModule := Value.str (Str.ofString "cpy313.wsgiref.headers") 289, code := Value.ref 62 } }
noncomputable def ob111 : Params → Obj := fun P => { cls := Value.type "tuple", data := Data.seq #[] }
noncomputable def ob112 : Params → Obj := fun P => { cls := Value.none, data := Data.fields #[] }
noncomputable def ob113 : Params → Obj := fun P => { cls := Value.type "tuple", data := Data.seq #[Value.str (Str.ofString "self") 376, Value.str (Str.ofString "value") 377, Value.str (Str.ofString "name") 378, Value.str (Str.ofString "regex") 379] }
noncomputable def ob114 : Params → Obj := fun P => { cls := Value.type "tuple", data := Data.seq #[] }
noncomputable def ob115 : Params → Obj := fun P => { cls := Value.none, data := Data.func { name := Str.ofString "_convert_string_type", qualname := Str.ofString "Headers._convert_string_type", params := Mine.fnArgs Mine.meth1.val, body := FuncBody.stmts (Mine.fnBody Mine.meth1.val), scope := Mine.fnScope Mine.meth1.val, globals := 0, closure := [], defaults := Value.none, kwdefaults := Value.none } }
noncomputable def ob116 : Params → Obj := fun P => { cls := Value.type "code", data := Data.fields #[Value.str (Str.ofString "_convert_string_type") 373, Value.str (Str.ofString "Headers._convert_string_type") 374, Value.str (Str.ofString "/claim/cut.py") 375, Value.int 20 0, Value.int 2 0, Value.int 0 0, Value.int 1 0, Value.int 3 0, Value.ref 64, Value.bool true, Value.int 276 0, Value.ref 65, Value.none, Value.ref 66, Value.ref 67, Value.ref 68, Value.int 380 0, Value.int 20 0, Value.str (Str.ofString "/claim/cut.py") 381] }
noncomputable def ob117 : Params → Obj := fun P => { cls := Value.type "function", data := Data.func { name := Str.ofString "_convert_string_type", qualname := Str.ofString "Headers._convert_string_type", params := Mine.fnArgs Mine.meth1.val, body := FuncBody.stmts (Mine.fnBody Mine.meth1.val), scope := Mine.fnScope Mine.meth1.val, globals := 3, closure := [], defaults := Value.none, kwdefaults := Value.none, pyModule := Value.str (Str.ofString "cpy313.wsgiref.headers") 289, code := Value.ref 69 } }
noncomputable def ob118 : Params → Obj := fun P => { cls := Value.type "tuple", data := Data.seq #[] }
noncomputable def ob119 : Params → Obj := fun P => { cls := Value.none, data := Data.fields #[] }
noncomputable def ob120 : Params → Obj := fun P => { cls := Value.type "tuple", data := Data.seq #[Value.str (Str.ofString "self") 386] }
noncomputable def ob121 : Params → Obj := fun P => { cls := Value.type "tuple", data := Data.seq #[] }
noncomputable def ob122 : Params → Obj := fun P => { cls := Value.none, data := Data.func { name := Str.ofString "__len__", qualname := Str.ofString "Headers.__len__", params := Mine.fnArgs Mine.meth2.val, body := FuncBody.stmts (Mine.fnBody Mine.meth2.val), scope := Mine.fnScope Mine.meth2.val, globals := 0, closure := [], defaults := Value.none, kwdefaults := Value.none } }
noncomputable def ob123 : Params → Obj := fun P => { cls := Value.type "code", data := Data.fields #[Value.str (Str.ofString "__len__") 383, Value.str (Str.ofString "Headers.__len__") 384, Value.str (Str.ofString "/claim/cut.py") 385, Value.int 28 0, Value.int 1 0, Value.int 0 0, Value.int 0 0, Value.int 3 0, Value.ref 71, Value.bool true, Value.int 276 0, Value.ref 72, Value.none, Value.ref 73, Value.ref 74, Value.ref 75, Value.int 387 0, Value.int 28 0, Value.str (Str.ofString "/claim/cut.py") 388] }
noncomputable def ob124 : Params → Obj := fun P => { cls := Value.type "function", data := Data.func { name := Str.ofString "__len__", qualname := Str.ofString "Headers.__len__", params := Mine.fnArgs Mine.meth2.val, body := FuncBody.stmts (Mine.fnBody Mine.meth2.val), scope := Mine.fnScope Mine.meth2.val, globals := 3, closure := [], defaults := Value.none, kwdefaults := Value.none, pyModule := Value.str (Str.ofString "cpy313.wsgiref.headers") 289, code := Value.ref 76 } }
noncomputable def ob125 : Params → Obj := fun P => { cls := Value.type "tuple", data := Data.seq #[] }
noncomputable def ob126 : Params → Obj := fun P => { cls := Value.none, data := Data.fields #[] }
noncomputable def ob127 : Params → Obj := fun P => { cls := Value.type "tuple", data := Data.seq #[Value.str (Str.ofString "self") 393, Value.str (Str.ofString "name") 394, Value.str (Str.ofString "val") 395] }
noncomputable def ob128 : Params → Obj := fun P => { cls := Value.type "tuple", data := Data.seq #[] }
noncomputable def ob129 : Params → Obj := fun P => { cls := Value.none, data := Data.func { name := Str.ofString "__setitem__", qualname := Str.ofString "Headers.__setitem__", params := Mine.fnArgs Mine.meth3.val, body := FuncBody.stmts (Mine.fnBody Mine.meth3.val), scope := Mine.fnScope Mine.meth3.val, globals := 0, closure := [], defaults := Value.none, kwdefaults := Value.none } }
noncomputable def ob130 : Params → Obj := fun P => { cls := Value.type "code", data := Data.fields #[Value.str (Str.ofString "__setitem__") 390, Value.str (Str.ofString "Headers.__setitem__") 391, Value.str (Str.ofString "/claim/cut.py") 392, Value.int 31 0, Value.int 3 0, Value.int 0 0, Value.int 0 0, Value.int 3 0, Value.ref 78, Value.bool true, Value.int 276 0, Value.ref 79, Value.none, Value.ref 80, Value.ref 81, Value.ref 82, Value.int 396 0, Value.int 31 0, Value.str (Str.ofString "/claim/cut.py") 397] }
noncomputable def ob131 : Params → Obj := fun P => { cls := Value.type "function", data := Data.func { name := Str.ofString "__setitem__", qualname := Str.ofString "Headers.__setitem__", params := Mine.fnArgs Mine.meth3.val, body := FuncBody.stmts (Mine.fnBody Mine.meth3.val), scope := Mine.fnScope Mine.meth3.val, globals := 3, closure := [], defaults := Value.none, kwdefaults := Value.none, pyModule := Value.str (Str.ofString "cpy313.wsgiref.headers") 289, code := Value.ref 83 } }
noncomputable def ob132 : Params → Obj := fun P => { cls := Value.type "tuple", data := Data.seq #[] }
noncomputable def ob133 : Params → Obj := fun P => { cls := Value.none, data := Data.fields #[] }
noncomputable def ob134 : Params → Obj := fun P => { cls := Value.none, data := Data.func { name := Str.ofString "__delitem__", qualname := Str.ofString "Headers.__delitem__", params := Mine.fnArgs Mine.meth4.val, body := FuncBody.stmts (Mine.fnBody Mine.meth4.val), scope := Mine.fnScope Mine.meth4.val, globals := 0, closure := [], defaults := Value.none, kwdefaults := Value.none } }
noncomputable def ob135 : Params → Obj := fun P => { cls := Value.type "code", data := Data.fields #[Value.str (Str.ofString "__delitem__") 399, Value.str (Str.ofString "Headers.__delitem__") 400, Value.str (Str.ofString "/claim/cut.py") 401, Value.int 35 0, Value.int 2 0, Value.int 0 0, Value.int 0 0, Value.int 3 0, Value.ref 85, Value.bool true, Value.int 276 0, Value.ref 86, Value.none, Value.none, Value.none, Value.ref 87, Value.int 402 0, Value.int 35 0, Value.str (Str.ofString "/claim/cut.py") 403] }
noncomputable def ob136 : Params → Obj := fun P => { cls := Value.type "function", data := Data.func { name := Str.ofString "__delitem__", qualname := Str.ofString "Headers.__delitem__", params := Mine.fnArgs Mine.meth4.val, body := FuncBody.stmts (Mine.fnBody Mine.meth4.val), scope := Mine.fnScope Mine.meth4.val, globals := 3, closure := [], defaults := Value.none, kwdefaults := Value.none, pyModule := Value.str (Str.ofString "cpy313.wsgiref.headers") 289, code := Value.ref 88 } }
noncomputable def ob137 : Params → Obj := fun P => { cls := Value.type "tuple", data := Data.seq #[] }
noncomputable def ob138 : Params → Obj := fun P => { cls := Value.none, data := Data.fields #[] }
noncomputable def ob139 : Params → Obj := fun P => { cls := Value.type "tuple", data := Data.seq #[Value.str (Str.ofString "self") 408, Value.str (Str.ofString "name") 409] }
noncomputable def ob140 : Params → Obj := fun P => { cls := Value.type "tuple", data := Data.seq #[] }
noncomputable def ob141 : Params → Obj := fun P => { cls := Value.none, data := Data.func { name := Str.ofString "__getitem__", qualname := Str.ofString "Headers.__getitem__", params := Mine.fnArgs Mine.meth5.val, body := FuncBody.stmts (Mine.fnBody Mine.meth5.val), scope := Mine.fnScope Mine.meth5.val, globals := 0, closure := [], defaults := Value.none, kwdefaults := Value.none } }
noncomputable def ob142 : Params → Obj := fun P => { cls := Value.type "code", data := Data.fields #[Value.str (Str.ofString "__getitem__") 405, Value.str (Str.ofString "Headers.__getitem__") 406, Value.str (Str.ofString "/claim/cut.py") 407, Value.int 39 0, Value.int 2 0, Value.int 0 0, Value.int 0 0, Value.int 3 0, Value.ref 90, Value.bool true, Value.int 276 0, Value.ref 91, Value.none, Value.ref 92, Value.ref 93, Value.ref 94, Value.int 410 0, Value.int 39 0, Value.str (Str.ofString "/claim/cut.py") 411] }
noncomputable def ob143 : Params → Obj := fun P => { cls := Value.type "function", data := Data.func { name := Str.ofString "__getitem__", qualname := Str.ofString "Headers.__getitem__", params := Mine.fnArgs Mine.meth5.val, body := FuncBody.stmts (Mine.fnBody Mine.meth5.val), scope := Mine.fnScope Mine.meth5.val, globals := 3, closure := [], defaults := Value.none, kwdefaults := Value.none, pyModule := Value.str (Str.ofString "cpy313.wsgiref.headers") 289, code := Value.ref 95 } }
noncomputable def ob144 : Params → Obj := fun P => { cls := Value.type "tuple", data := Data.seq #[] }
noncomputable def ob145 : Params → Obj := fun P => { cls := Value.none, data := Data.fields #[] }
noncomputable def ob146 : Params → Obj := fun P => { cls := Value.type "tuple", data := Data.seq #[Value.str (Str.ofString "self") 416, Value.str (Str.ofString "name") 417] }
noncomputable def ob147 : Params → Obj := fun P => { cls := Value.type "tuple", data := Data.seq #[] }
noncomputable def ob148 : Params → Obj := fun P => { cls := Value.none, data := Data.func { name := Str.ofString "__contains__", qualname := Str.ofString "Headers.__contains__", params := Mine.fnArgs Mine.meth6.val, body := FuncBody.stmts (Mine.fnBody Mine.meth6.val), scope := Mine.fnScope Mine.meth6.val, globals := 0, closure := [], defaults := Value.none, kwdefaults := Value.none } }
noncomputable def ob149 : Params → Obj := fun P => { cls := Value.type "code", data := Data.fields #[Value.str (Str.ofString "__contains__") 413, Value.str (Str.ofString "Headers.__contains__") 414, Value.str (Str.ofString "/claim/cut.py") 415, Value.int 42 0, Value.int 2 0, Value.int 0 0, Value.int 0 0, Value.int 3 0, Value.ref 97, Value.bool true, Value.int 276 0, Value.ref 98, Value.none, Value.ref 99, Value.ref 100, Value.ref 101, Value.int 418 0, Value.int 42 0, Value.str (Str.ofString "/claim/cut.py") 419] }
noncomputable def ob150 : Params → Obj := fun P => { cls := Value.type "function", data := Data.func { name := Str.ofString "__contains__", qualname := Str.ofString "Headers.__contains__", params := Mine.fnArgs Mine.meth6.val, body := FuncBody.stmts (Mine.fnBody Mine.meth6.val), scope := Mine.fnScope Mine.meth6.val, globals := 3, closure := [], defaults := Value.none, kwdefaults := Value.none, pyModule := Value.str (Str.ofString "cpy313.wsgiref.headers") 289, code := Value.ref 102 } }
noncomputable def ob151 : Params → Obj := fun P => { cls := Value.type "tuple", data := Data.seq #[] }
noncomputable def ob152 : Params → Obj := fun P => { cls := Value.none, data := Data.fields #[] }
noncomputable def ob153 : Params → Obj := fun P => { cls := Value.type "tuple", data := Data.seq #[Value.str (Str.ofString "self") 424, Value.str (Str.ofString "name") 425] }
noncomputable def ob154 : Params → Obj := fun P => { cls := Value.type "tuple", data := Data.seq #[] }
noncomputable def ob155 : Params → Obj := fun P => { cls := Value.none, data := Data.func { name := Str.ofString "get_all", qualname := Str.ofString "Headers.get_all", params := Mine.fnArgs Mine.meth7.val, body := FuncBody.stmts (Mine.fnBody Mine.meth7.val), scope := Mine.fnScope Mine.meth7.val, globals := 0, closure := [], defaults := Value.none, kwdefaults := Value.none } }
noncomputable def ob156 : Params → Obj := fun P => { cls := Value.type "code", data := Data.fields #[Value.str (Str.ofString "get_all") 421, Value.str (Str.ofString "Headers.get_all") 422, Value.str (Str.ofString "/claim/cut.py") 423, Value.int 45 0, Value.int 2 0, Value.int 0 0, Value.int 0 0, Value.int 3 0, Value.ref 104, Value.bool true, Value.int 276 0, Value.ref 105, Value.none, Value.ref 106, Value.ref 107, Value.ref 108, Value.int 426 0, Value.int 45 0, Value.str (Str.ofString "/claim/cut.py") 427] }
noncomputable def ob157 : Params → Obj := fun P => { cls := Value.type "function", data := Data.func { name := Str.ofString "get_all", qualname := Str.ofString "Headers.get_all", params := Mine.fnArgs Mine.meth7.val, body := FuncBody.stmts (Mine.fnBody Mine.meth7.val), scope := Mine.fnScope Mine.meth7.val, globals := 3, closure := [], defaults := Value.none, kwdefaults := Value.none, pyModule := Value.str (Str.ofString "cpy313.wsgiref.headers") 289, code := Value.ref 109 } }
noncomputable def ob158 : Params → Obj := fun P => { cls := Value.type "tuple", data := Data.seq #[Value.none] }
noncomputable def ob159 : Params → Obj := fun P => { cls := Value.type "tuple", data := Data.seq #[] }
noncomputable def ob160 : Params → Obj := fun P => { cls := Value.none, data := Data.fields #[] }
noncomputable def ob161 : Params → Obj := fun P => { cls := Value.type "tuple", data := Data.seq #[Value.str (Str.ofString "self") 432, Value.str (Str.ofString "name") 433, Value.str (Str.ofString "default") 434, Value.str (Str.ofString "k") 435, Value.str (Str.ofString "v") 436] }
noncomputable def ob162 : Params → Obj := fun P => { cls := Value.type "tuple", data := Data.seq #[] }
noncomputable def ob163 : Params → Obj := fun P => { cls := Value.none, data := Data.func { name := Str.ofString "get", qualname := Str.ofString "Headers.get", params := Mine.fnArgs Mine.meth8.val, body := FuncBody.stmts (Mine.fnBody Mine.meth8.val), scope := Mine.fnScope Mine.meth8.val, globals := 0, closure := [], defaults := Value.none, kwdefaults := Value.none } }
noncomputable def ob164 : Params → Obj := fun P => { cls := Value.type "code", data := Data.fields #[Value.str (Str.ofString "get") 429, Value.str (Str.ofString "Headers.get") 430, Value.str (Str.ofString "/claim/cut.py") 431, Value.int 48 0, Value.int 3 0, Value.int 0 0, Value.int 0 0, Value.int 3 0, Value.ref 112, Value.bool true, Value.int 276 0, Value.ref 113, Value.none, Value.ref 114, Value.ref 115, Value.ref 116, Value.int 437 0, Value.int 48 0, Value.str (Str.ofString "/claim/cut.py") 438] }
noncomputable def ob165 : Params → Obj := fun P => { cls := Value.type "function", data := Data.func { name := Str.ofString "get", qualname := Str.ofString "Headers.get", params := Mine.fnArgs Mine.meth8.val, body := FuncBody.stmts (Mine.fnBody Mine.meth8.val), scope := Mine.fnScope Mine.meth8.val, globals := 3, closure := [], defaults := Value.ref 111, kwdefaults := Value.none, pyModule := Value.str (Str.ofString "cpy313.wsgiref.headers") 289, code := Value.ref 117 } }
noncomputable def ob166 : Params → Obj := fun P => { cls := Value.type "tuple", data := Data.seq #[] }
noncomputable def ob167 : Params → Obj := fun P => { cls := Value.none, data := Data.fields #[] }
noncomputable def ob168 : Params → Obj := fun P => { cls := Value.none, data := Data.func { name := Str.ofString "keys", qualname := Str.ofString "Headers.keys", params := Mine.fnArgs Mine.meth9.val, body := FuncBody.stmts (Mine.fnBody Mine.meth9.val), scope := Mine.fnScope Mine.meth9.val, globals := 0, closure := [], defaults := Value.none, kwdefaults := Value.none } }
noncomputable def ob169 : Params → Obj := fun P => { cls := Value.type "code", data := Data.fields #[Value.str (Str.ofString "keys") 440, Value.str (Str.ofString "Headers.keys") 441, Value.str (Str.ofString "/claim/cut.py") 442, Value.int 55 0, Value.int 1 0, Value.int 0 0, Value.int 0 0, Value.int 3 0, Value.ref 119, Value.bool true, Value.int 276 0, Value.ref 120, Value.none, Value.none, Value.none, Value.ref 121, Value.int 443 0, Value.int 55 0, Value.str (Str.ofString "/claim/cut.py") 444] }
noncomputable def ob170 : Params → Obj := fun P => { cls := Value.type "function", data := Data.func { name := Str.ofString "keys", qualname := Str.ofString "Headers.keys", params := Mine.fnArgs Mine.meth9.val, body := FuncBody.stmts (Mine.fnBody Mine.meth9.val), scope := Mine.fnScope Mine.meth9.val, globals := 3, closure := [], defaults := Value.none, kwdefaults := Value.none, pyModule := Value.str (Str.ofString "cpy313.wsgiref.headers") 289, code := Value.ref 122 } }
noncomputable def ob171 : Params → Obj := fun P => { cls := Value.type "tuple", data := Data.seq #[] }
noncomputable def ob172 : Params → Obj := fun P => { cls := Value.none, data := Data.fields #[] }
noncomputable def ob173 : Params → Obj := fun P => { cls := Value.none, data := Data.func { name := Str.ofString "values", qualname := Str.ofString "Headers.values", params := Mine.fnArgs Mine.meth10.val, body := FuncBody.stmts (Mine.fnBody Mine.meth10.val), scope := Mine.fnScope Mine.meth10.val, globals := 0, closure := [], defaults := Value.none, kwdefaults := Value.none } }
noncomputable def ob174 : Params → Obj := fun P => { cls := Value.type "code", data := Data.fields #[Value.str (Str.ofString "values") 446, Value.str (Str.ofString "Headers.values") 447, Value.str (Str.ofString "/claim/cut.py") 448, Value.int 58 0, Value.int 1 0, Value.int 0 0, Value.int 0 0, Value.int 3 0, Value.ref 124, Value.bool true, Value.int 276 0, Value.ref 125, Value.none, Value.none, Value.none, Value.ref 126, Value.int 449 0, Value.int 58 0, Value.str (Str.ofString "/claim/cut.py") 450] }
noncomputable def ob175 : Params → Obj := fun P => { cls := Value.type "function", data := Data.func { name := Str.ofString "values", qualname := Str.ofString "Headers.values", params := Mine.fnArgs Mine.meth10.val, body := FuncBody.stmts (Mine.fnBody Mine.meth10.val), scope := Mine.fnScope Mine.meth10.val, globals := 3, closure := [], defaults := Value.none, kwdefaults := Value.none, pyModule := Value.str (Str.ofString "cpy313.wsgiref.headers") 289, code := Value.ref 127 } }
noncomputable def ob176 : Params → Obj := fun P => { cls := Value.type "tuple", data := Data.seq #[] }
noncomputable def ob177 : Params → Obj := fun P => { cls := Value.none, data := Data.fields #[] }
noncomputable def ob178 : Params → Obj := fun P => { cls := Value.type "tuple", data := Data.seq #[Value.str (Str.ofString "self") 455] }
noncomputable def ob179 : Params → Obj := fun P => { cls := Value.type "tuple", data := Data.seq #[] }
noncomputable def ob180 : Params → Obj := fun P => { cls := Value.none, data := Data.func { name := Str.ofString "items", qualname := Str.ofString "Headers.items", params := Mine.fnArgs Mine.meth11.val, body := FuncBody.stmts (Mine.fnBody Mine.meth11.val), scope := Mine.fnScope Mine.meth11.val, globals := 0, closure := [], defaults := Value.none, kwdefaults := Value.none } }
noncomputable def ob181 : Params → Obj := fun P => { cls := Value.type "code", data := Data.fields #[Value.str (Str.ofString "items") 452, Value.str (Str.ofString "Headers.items") 453, Value.str (Str.ofString "/claim/cut.py") 454, Value.int 61 0, Value.int 1 0, Value.int 0 0, Value.int 0 0, Value.int 3 0, Value.ref 129, Value.bool true, Value.int 276 0, Value.ref 130, Value.none, Value.ref 131, Value.ref 132, Value.ref 133, Value.int 456 0, Value.int 61 0, Value.str (Str.ofString "/claim/cut.py") 457] }
noncomputable def ob182 : Params → Obj := fun P => { cls := Value.type "function", data := Data.func { name := Str.ofString "items", qualname := Str.ofString "Headers.items", params := Mine.fnArgs Mine.meth11.val, body := FuncBody.stmts (Mine.fnBody Mine.meth11.val), scope := Mine.fnScope Mine.meth11.val, globals := 3, closure := [], defaults := Value.none, kwdefaults := Value.none, pyModule := Value.str (Str.ofString "cpy313.wsgiref.headers") 289, code := Value.ref 134 } }
noncomputable def ob183 : Params → Obj := fun P => { cls := Value.type "tuple", data := Data.seq #[] }
noncomputable def ob184 : Params → Obj := fun P => { cls := Value.none, data := Data.fields #[] }
noncomputable def ob185 : Params → Obj := fun P => { cls := Value.type "tuple", data := Data.seq #[Value.str (Str.ofString "self") 462] }
noncomputable def ob186 : Params → Obj := fun P => { cls := Value.type "tuple", data := Data.seq #[] }
noncomputable def ob187 : Params → Obj := fun P => { cls := Value.none, data := Data.func { name := Str.ofString "__repr__", qualname := Str.ofString "Headers.__repr__", params := Mine.fnArgs Mine.meth12.val, body := FuncBody.stmts (Mine.fnBody Mine.meth12.val), scope := Mine.fnScope Mine.meth12.val, globals := 0, closure := [], defaults := Value.none, kwdefaults := Value.none } }
noncomputable def ob188 : Params → Obj := fun P => { cls := Value.type "code", data := Data.fields #[Value.str (Str.ofString "__repr__") 459, Value.str (Str.ofString "Headers.__repr__") 460, Value.str (Str.ofString "/claim/cut.py") 461, Value.int 64 0, Value.int 1 0, Value.int 0 0, Value.int 0 0, Value.int 3 0, Value.ref 136, Value.bool true, Value.int 276 0, Value.ref 137, Value.none, Value.ref 138, Value.ref 139, Value.ref 140, Value.int 463 0, Value.int 64 0, Value.str (Str.ofString "/claim/cut.py") 464] }
noncomputable def ob189 : Params → Obj := fun P => { cls := Value.type "function", data := Data.func { name := Str.ofString "__repr__", qualname := Str.ofString "Headers.__repr__", params := Mine.fnArgs Mine.meth12.val, body := FuncBody.stmts (Mine.fnBody Mine.meth12.val), scope := Mine.fnScope Mine.meth12.val, globals := 3, closure := [], defaults := Value.none, kwdefaults := Value.none, pyModule := Value.str (Str.ofString "cpy313.wsgiref.headers") 289, code := Value.ref 141 } }
noncomputable def ob190 : Params → Obj := fun P => { cls := Value.type "tuple", data := Data.seq #[] }
noncomputable def ob191 : Params → Obj := fun P => { cls := Value.none, data := Data.fields #[] }
noncomputable def ob192 : Params → Obj := fun P => { cls := Value.none, data := Data.func { name := Str.ofString "__str__", qualname := Str.ofString "Headers.__str__", params := Mine.fnArgs Mine.meth13.val, body := FuncBody.stmts (Mine.fnBody Mine.meth13.val), scope := Mine.fnScope Mine.meth13.val, globals := 0, closure := [], defaults := Value.none, kwdefaults := Value.none } }
noncomputable def ob193 : Params → Obj := fun P => { cls := Value.type "code", data := Data.fields #[Value.str (Str.ofString "__str__") 466, Value.str (Str.ofString "Headers.__str__") 467, Value.str (Str.ofString "/claim/cut.py") 468, Value.int 67 0, Value.int 1 0, Value.int 0 0, Value.int 0 0, Value.int 3 0, Value.ref 143, Value.bool true, Value.int 276 0, Value.ref 144, Value.none, Value.none, Value.none, Value.ref 145, Value.int 469 0, Value.int 67 0, Value.str (Str.ofString "/claim/cut.py") 470] }
noncomputable def ob194 : Params → Obj := fun P => { cls := Value.type "function", data := Data.func { name := Str.ofString "__str__", qualname := Str.ofString "Headers.__str__", params := Mine.fnArgs Mine.meth13.val, body := FuncBody.stmts (Mine.fnBody Mine.meth13.val), scope := Mine.fnScope Mine.meth13.val, globals := 3, closure := [], defaults := Value.none, kwdefaults := Value.none, pyModule := Value.str (Str.ofString "cpy313.wsgiref.headers") 289, code := Value.ref 146 } }
noncomputable def ob195 : Params → Obj := fun P => { cls := Value.type "tuple", data := Data.seq #[] }
noncomputable def ob196 : Params → Obj := fun P => { cls := Value.none, data := Data.fields #[] }
noncomputable def ob197 : Params → Obj := fun P => { cls := Value.type "tuple", data := Data.seq #[Value.str (Str.ofString "self") 475] }
noncomputable def ob198 : Params → Obj := fun P => { cls := Value.type "tuple", data := Data.seq #[] }
noncomputable def ob199 : Params → Obj := fun P => { cls := Value.none, data := Data.func { name := Str.ofString "__bytes__", qualname := Str.ofString "Headers.__bytes__", params := Mine.fnArgs Mine.meth14.val, body := FuncBody.stmts (Mine.fnBody Mine.meth14.val), scope := Mine.fnScope Mine.meth14.val, globals := 0, closure := [], defaults := Value.none, kwdefaults := Value.none } }
noncomputable def ob200 : Params → Obj := fun P => { cls := Value.type "code", data := Data.fields #[Value.str (Str.ofString "__bytes__") 472, Value.str (Str.ofString "Headers.__bytes__") 473, Value.str (Str.ofString "/claim/cut.py") 474, Value.int 70 0, Value.int 1 0, Value.int 0 0, Value.int 0 0, Value.int 3 0, Value.ref 148, Value.bool true, Value.int 276 0, Value.ref 149, Value.none, Value.ref 150, Value.ref 151, Value.ref 152, Value.int 476 0, Value.int 70 0, Value.str (Str.ofString "/claim/cut.py") 477] }
noncomputable def ob201 : Params → Obj := fun P => { cls := Value.type "function", data := Data.func { name := Str.ofString "__bytes__", qualname := Str.ofString "Headers.__bytes__", params := Mine.fnArgs Mine.meth14.val, body := FuncBody.stmts (Mine.fnBody Mine.meth14.val), scope := Mine.fnScope Mine.meth14.val, globals := 3, closure := [], defaults := Value.none, kwdefaults := Value.none, pyModule := Value.str (Str.ofString "cpy313.wsgiref.headers") 289, code := Value.ref 153 } }
noncomputable def ob202 : Params → Obj := fun P => { cls := Value.type "tuple", data := Data.seq #[] }
noncomputable def ob203 : Params → Obj := fun P => { cls := Value.none, data := Data.fields #[] }
noncomputable def ob204 : Params → Obj := fun P => { cls := Value.type "tuple", data := Data.seq #[Value.str (Str.ofString "self") 482, Value.str (Str.ofString "name") 483, Value.str (Str.ofString "value") 484, Value.str (Str.ofString "result") 485] }
noncomputable def ob205 : Params → Obj := fun P => { cls := Value.type "tuple", data := Data.seq #[] }
noncomputable def ob206 : Params → Obj := fun P => { cls := Value.none, data := Data.func { name := Str.ofString "setdefault", qualname := Str.ofString "Headers.setdefault", params := Mine.fnArgs Mine.meth15.val, body := FuncBody.stmts (Mine.fnBody Mine.meth15.val), scope := Mine.fnScope Mine.meth15.val, globals := 0, closure := [], defaults := Value.none, kwdefaults := Value.none } }
noncomputable def ob207 : Params → Obj := fun P => { cls := Value.type "code", data := Data.fields #[Value.str (Str.ofString "setdefault") 479, Value.str (Str.ofString "Headers.setdefault") 480, Value.str (Str.ofString "/claim/cut.py") 481, Value.int 73 0, Value.int 3 0, Value.int 0 0, Value.int 0 0, Value.int 3 0, Value.ref 155, Value.bool true, Value.int 276 0, Value.ref 156, Value.none, Value.ref 157, Value.ref 158, Value.ref 159, Value.int 486 0, Value.int 73 0, Value.str (Str.ofString "/claim/cut.py") 487] }
noncomputable def ob208 : Params → Obj := fun P => { cls := Value.type "function", data := Data.func { name := Str.ofString "setdefault", qualname := Str.ofString "Headers.setdefault", params := Mine.fnArgs Mine.meth15.val, body := FuncBody.stmts (Mine.fnBody Mine.meth15.val), scope := Mine.fnScope Mine.meth15.val, globals := 3, closure := [], defaults := Value.none, kwdefaults := Value.none, pyModule := Value.str (Str.ofString "cpy313.wsgiref.headers") 289, code := Value.ref 160 } }
noncomputable def ob209 : Params → Obj := fun P => { cls := Value.type "tuple", data := Data.seq #[] }
noncomputable def ob210 : Params → Obj := fun P => { cls := Value.none, data := Data.fields #[] }
noncomputable def ob211 : Params → Obj := fun P => { cls := Value.type "tuple", data := Data.seq #[Value.str (Str.ofString "self") 492, Value.str (Str.ofString "_name") 493, Value.str (Str.ofString "_value") 494, Value.str (Str.ofString "_params") 495] }
noncomputable def ob212 : Params → Obj := fun P => { cls := Value.type "tuple", data := Data.seq #[] }
noncomputable def ob213 : Params → Obj := fun P => { cls := Value.none, data := Data.func { name := Str.ofString "add_header", qualname := Str.ofString "Headers.add_header", params := Mine.fnArgs Mine.meth16.val, body := FuncBody.stmts (Mine.fnBody Mine.meth16.val), scope := Mine.fnScope Mine.meth16.val, globals := 0, closure := [], defaults := Value.none, kwdefaults := Value.none } }
noncomputable def ob214 : Params → Obj := fun P => { cls := Value.type "code", data := Data.fields #[Value.str (Str.ofString "add_header") 489, Value.str (Str.ofString "Headers.add_header") 490, Value.str (Str.ofString "/claim/cut.py") 491, Value.int 81 0, Value.int 3 0, Value.int 0 0, Value.int 0 0, Value.int 11 0, Value.ref 162, Value.bool true, Value.int 276 0, Value.ref 163, Value.none, Value.ref 164, Value.ref 165, Value.ref 166, Value.int 496 0, Value.int 81 0, Value.str (Str.ofString "/claim/cut.py") 497] }
noncomputable def ob215 : Params → Obj := fun P => { cls := Value.type "function", data := Data.func { name := Str.ofString "add_header", qualname := Str.ofString "Headers.add_header", params := Mine.fnArgs Mine.meth16.val, body := FuncBody.stmts (Mine.fnBody Mine.meth16.val), scope := Mine.fnScope Mine.meth16.val, globals := 3, closure := [], defaults := Value.none, kwdefaults := Value.none, pyModule := Value.str (Str.ofString "cpy313.wsgiref.headers") 289, code := Value.ref 167 } }
noncomputable def ob216 : Params → Obj := fun P => { cls := Value.type "tuple", data := Data.seq #[Value.str (Str.ofString "_headers") 499] }
noncomputable def ob217 : Params → Obj := fun P => { cls := Value.type "dict", data := Data.dict #[{ hash := PyData.keyHash P (Str.ofString "__module__"), key := Value.str (Str.ofString "__module__") 358, val := Value.str (Str.ofString "cpy313.wsgiref.headers") 289 }, { hash := PyData.keyHash P (Str.ofString "__firstlineno__"), key := Value.str (Str.ofString "__firstlineno__") 362, val := Value.int 8 361 }, { hash := PyData.keyHash P (Str.ofString "__init__"), key := Value.str (Str.ofString "__init__") 372, val := Value.ref 63 }, { hash := PyData.keyHash P (Str.ofString "_convert_string_type"), key := Value.str (Str.ofString "_convert_string_type") 382, val := Value.ref 70 }, { hash := PyData.keyHash P (Str.ofString "__len__"), key := Value.str (Str.ofString "__len__") 389, val := Value.ref 77 }, { hash := PyData.keyHash P (Str.ofString "__setitem__"), key := Value.str (Str.ofString "__setitem__") 398, val := Value.ref 84 }, { hash := PyData.keyHash P (Str.ofString "__delitem__"), key := Value.str (Str.ofString "__delitem__") 404, val := Value.ref 89 }, { hash := PyData.keyHash P (Str.ofString "__getitem__"), key := Value.str (Str.ofString "__getitem__") 412, val := Value.ref 96 }, { hash := PyData.keyHash P (Str.ofString "__contains__"), key := Value.str (Str.ofString "__contains__") 420, val := Value.ref 103 }, { hash := PyData.keyHash P (Str.ofString "get_all"), key := Value.str (Str.ofString "get_all") 428, val := Value.ref 110 }, { hash := PyData.keyHash P (Str.ofString "get"), key := Value.str (Str.ofString "get") 439, val := Value.ref 118 }, { hash := PyData.keyHash P (Str.ofString "keys"), key := Value.str (Str.ofString "keys") 445, val := Value.ref 123 }, { hash := PyData.keyHash P (Str.ofString "values"), key := Value.str (Str.ofString "values") 451, val := Value.ref 128 }, { hash := PyData.keyHash P (Str.ofString "items"), key := Value.str (Str.ofString "items") 458, val := Value.ref 135 }, { hash := PyData.keyHash P (Str.ofString "__repr__"), key := Value.str (Str.ofString "__repr__") 465, val := Value.ref 142 }, { hash := PyData.keyHash P (Str.ofString "__str__"), key := Value.str (Str.ofString "__str__") 471, val := Value.ref 147 }, { hash := PyData.keyHash P (Str.ofString "__bytes__"), key := Value.str (Str.ofString "__bytes__") 478, val := Value.ref 154 }, { hash := PyData.keyHash P (Str.ofString "setdefault"), key := Value.str (Str.ofString "setdefault") 488, val := Value.ref 161 }, { hash := PyData.keyHash P (Str.ofString "add_header"), key := Value.str (Str.ofString "add_header") 498, val := Value.ref 168 }, { hash := PyData.keyHash P (Str.ofString "__static_attributes__"), key := Value.str (Str.ofString "__static_attributes__") 500, val := Value.ref 169 }, { hash := PyData.keyHash P (Str.ofString "__dict__"), key := Value.str (Str.ofString "__dict__") 502, val := Value.ref 172 }, { hash := PyData.keyHash P (Str.ofString "__weakref__"), key := Value.str (Str.ofString "__weakref__") 504, val := Value.ref 173 }, { hash := PyData.keyHash P (Str.ofString "__doc__"), key := Value.str (Str.ofString "__doc__") 505, val := Value.none }] 4 }
noncomputable def ob218 : Params → Obj := fun P => { cls := Value.type "type", data := Data.cls { name := Str.ofString "Headers", bases := [Value.type "object"], mro := [Value.ref 171, Value.type "object"], ns := 170, qualname := Str.ofString "Headers" }, slots := #[none, none, some (Value.str (Str.ofString "Headers") 351), some (Value.str (Str.ofString "Headers") 359), some (Value.builtin "object.__new__"), some (Value.bool true)] }
noncomputable def ob219 : Params → Obj := fun P => { cls := Value.type "getset_descriptor", data := Data.fields #[Value.str (Str.ofString "__dict__") 501, Value.ref 171, Value.builtin "function.__dict__", Value.builtin "function.__dict__#set"] }
noncomputable def ob220 : Params → Obj := fun P => { cls := Value.type "getset_descriptor", data := Data.fields #[Value.str (Str.ofString "__weakref__") 503, Value.ref 171, Value.builtin "ExceptionGroup.__weakref__", Value.none] }
noncomputable def ob221 : Params → Obj := fun P => { cls := Value.type "super", data := Data.fields #[Value.ref 171, Value.ref 171, Value.ref 171] }
noncomputable def ob222 : Params → Obj := fun P => { cls := Value.type "builtin_function_or_method", data := Data.fields #[Value.builtin "object.__init_subclass__", Value.ref 171] }
noncomputable def ob312 : Params → Obj := fun P => { cls := Value.type "dict", data := Data.dict #[{ hash := PyData.keyHash P (Str.ofString "!"), key := Value.str (Str.ofString "!") 608, val := Value.int 54 604 }, { hash := PyData.keyHash P (Str.ofString "!="), key := Value.str (Str.ofString "!=") 610, val := Value.int 28 552 }, { hash := PyData.keyHash P (Str.ofString "%"), key := Value.str (Str.ofString "%") 612, val := Value.int 24 544 }, { hash := PyData.keyHash P (Str.ofString "%="), key := Value.str (Str.ofString "%=") 614, val := Value.int 40 576 }, { hash := PyData.keyHash P (Str.ofString "&"), key := Value.str (Str.ofString "&") 616, val := Value.int 19 534 }, { hash := PyData.keyHash P (Str.ofString "&="), key := Value.str (Str.ofString "&=") 618, val := Value.int 41 578 }, { hash := PyData.keyHash P (Str.ofString "("), key := Value.str (Str.ofString "(") 620, val := Value.int 7 510 }, { hash := PyData.keyHash P (Str.ofString ")"), key := Value.str (Str.ofString ")") 622, val := Value.int 8 512 }, { hash := PyData.keyHash P (Str.ofString "*"), key := Value.str (Str.ofString "*") 624, val := Value.int 16 528 }, { hash := PyData.keyHash P (Str.ofString "**"), key := Value.str (Str.ofString "**") 626, val := Value.int 35 566 }, { hash := PyData.keyHash P (Str.ofString "**="), key := Value.str (Str.ofString "**=") 628, val := Value.int 46 588 }, { hash := PyData.keyHash P (Str.ofString "*="), key := Value.str (Str.ofString "*=") 630, val := Value.int 38 572 }, { hash := PyData.keyHash P (Str.ofString "+"), key := Value.str (Str.ofString "+") 632, val := Value.int 14 524 }, { hash := PyData.keyHash P (Str.ofString "+="), key := Value.str (Str.ofString "+=") 634, val := Value.int 36 568 }, { hash := PyData.keyHash P (Str.ofString ","), key := Value.str (Str.ofString ",") 636, val := Value.int 12 520 }, { hash := PyData.keyHash P (Str.ofString "-"), key := Value.str (Str.ofString "-") 638, val := Value.int 15 526 }, { hash := PyData.keyHash P (Str.ofString "-="), key := Value.str (Str.ofString "-=") 640, val := Value.int 37 570 }, { hash := PyData.keyHash P (Str.ofString "->"), key := Value.str (Str.ofString "->") 642, val := Value.int 51 598 }, { hash := PyData.keyHash P (Str.ofString "."), key := Value.str (Str.ofString ".") 644, val := Value.int 23 542 }, { hash := PyData.keyHash P (Str.ofString "..."), key := Value.str (Str.ofString "...") 646, val := Value.int 52 600 }, { hash := PyData.keyHash P (Str.ofString "/"), key := Value.str (Str.ofString "/") 648, val := Value.int 17 530 }, { hash := PyData.keyHash P (Str.ofString "//"), key := Value.str (Str.ofString "//") 650, val := Value.int 47 590 }, { hash := PyData.keyHash P (Str.ofString "//="), key := Value.str (Str.ofString "//=") 652, val := Value.int 48 592 }, { hash := PyData.keyHash P (Str.ofString "/="), key := Value.str (Str.ofString "/=") 654, val := Value.int 39 574 }, { hash := PyData.keyHash P (Str.ofString ":"), key := Value.str (Str.ofString ":") 656, val := Value.int 11 518 }, { hash := PyData.keyHash P (Str.ofString ":="), key := Value.str (Str.ofString ":=") 658, val := Value.int 53 602 }, { hash := PyData.keyHash P (Str.ofString ";"), key := Value.str (Str.ofString ";") 660, val := Value.int 13 522 }, { hash := PyData.keyHash P (Str.ofString "<"), key := Value.str (Str.ofString "<") 662, val := Value.int 20 536 }, { hash := PyData.keyHash P (Str.ofString "<<"), key := Value.str (Str.ofString "<<") 664, val := Value.int 33 562 }, { hash := PyData.keyHash P (Str.ofString "<<="), key := Value.str (Str.ofString "<<=") 666, val := Value.int 44 584 }, { hash := PyData.keyHash P (Str.ofString "<="), key := Value.str (Str.ofString "<=") 668, val := Value.int 29 554 }, { hash := PyData.keyHash P (Str.ofString "="), key := Value.str (Str.ofString "=") 670, val := Value.int 22 540 }, { hash := PyData.keyHash P (Str.ofString "=="), key := Value.str (Str.ofString "==") 672, val := Value.int 27 550 }, { hash := PyData.keyHash P (Str.ofString ">"), key := Value.str (Str.ofString ">") 674, val := Value.int 21 538 }, { hash := PyData.keyHash P (Str.ofString ">="), key := Value.str (Str.ofString ">=") 676, val := Value.int 30 556 }, { hash := PyData.keyHash P (Str.ofString ">>"), key := Value.str (Str.ofString ">>") 677, val := Value.int 34 564 }, { hash := PyData.keyHash P (Str.ofString ">>="), key := Value.str (Str.ofString ">>=") 678, val := Value.int 45 586 }, { hash := PyData.keyHash P (Str.ofString "@"), key := Value.str (Str.ofString "@") 679, val := Value.int 49 594 }, { hash := PyData.keyHash P (Str.ofString "@="), key := Value.str (Str.ofString "@=") 680, val := Value.int 50 596 }, { hash := PyData.keyHash P (Str.ofString "["), key := Value.str (Str.ofString "[") 681, val := Value.int 9 514 }, { hash := PyData.keyHash P (Str.ofString "]"), key := Value.str (Str.ofString "]") 682, val := Value.int 10 516 }, { hash := PyData.keyHash P (Str.ofString "^"), key := Value.str (Str.ofString "^") 683, val := Value.int 32 560 }, { hash := PyData.keyHash P (Str.ofString "^="), key := Value.str (Str.ofString "^=") 684, val := Value.int 43 582 }, { hash := PyData.keyHash P (Str.ofString "{"), key := Value.str (Str.ofString "{") 685, val := Value.int 25 546 }, { hash := PyData.keyHash P (Str.ofString "|"), key := Value.str (Str.ofString "|") 686, val := Value.int 18 532 }, { hash := PyData.keyHash P (Str.ofString "|="), key := Value.str (Str.ofString "|=") 687, val := Value.int 42 580 }, { hash := PyData.keyHash P (Str.ofString "}"), key := Value.str (Str.ofString "}") 688, val := Value.int 26 548 }, { hash := PyData.keyHash P (Str.ofString "~"), key := Value.str (Str.ofString "~") 689, val := Value.int 31 558 }] 48 }
noncomputable def ob313 : Params → Obj := fun P => { cls := Value.type "dict", data := Data.dict #[{ hash := PyData.keyHash P (Str.ofString "->"), key := Value.str (Str.ofString "->") 642, val := Value.int 51 598 }, { hash := PyData.keyHash P (Str.ofString "."), key := Value.str (Str.ofString ".") 644, val := Value.int 23 542 }, { hash := PyData.keyHash P (Str.ofString "..."), key := Value.str (Str.ofString "...") 646, val := Value.int 52 600 }, { hash := PyData.keyHash P (Str.ofString "/"), key := Value.str (Str.ofString "/") 648, val := Value.int 17 530 }, { hash := PyData.keyHash P (Str.ofString "//"), key := Value.str (Str.ofString "//") 650, val := Value.int 47 590 }, { hash := PyData.keyHash P (Str.ofString "//="), key := Value.str (Str.ofString "//=") 652, val := Value.int 48 592 }, { hash := PyData.keyHash P (Str.ofString "/="), key := Value.str (Str.ofString "/=") 654, val := Value.int 39 574 }, { hash := PyData.keyHash P (Str.ofString ":"), key := Value.str (Str.ofString ":") 656, val := Value.int 11 518 }, { hash := PyData.keyHash P (Str.ofString ":="), key := Value.str (Str.ofString ":=") 658, val := Value.int 53 602 }, { hash := PyData.keyHash P (Str.ofString ";"), key := Value.str (Str.ofString ";") 660, val := Value.int 13 522 }, { hash := PyData.keyHash P (Str.ofString "<"), key := Value.str (Str.ofString "<") 662, val := Value.int 20 536 }, { hash := PyData.keyHash P (Str.ofString "<<"), key := Value.str (Str.ofString "<<") 664, val := Value.int 33 562 }, { hash := PyData.keyHash P (Str.ofString "<<="), key := Value.str (Str.ofString "<<=") 666, val := Value.int 44 584 }, { hash := PyData.keyHash P (Str.ofString "<="), key := Value.str (Str.ofString "<=") 668, val := Value.int 29 554 }, { hash := PyData.keyHash P (Str.ofString "="), key := Value.str (Str.ofString "=") 670, val := Value.int 22 540 }, { hash := PyData.keyHash P (Str.ofString "=="), key := Value.str (Str.ofString "==") 672, val := Value.int 27 550 }, { hash := PyData.keyHash P (Str.ofString ">"), key := Value.str (Str.ofString ">") 674, val := Value.int 21 538 }] 17 }
noncomputable def ob314 : Params → Obj := fun P => { cls := Value.type "dict", data := Data.dict #[{ hash := PyData.keyHash P (Str.ofString ">="), key := Value.str (Str.ofString ">=") 676, val := Value.int 30 556 }, { hash := PyData.keyHash P (Str.ofString ">>"), key := Value.str (Str.ofString ">>") 677, val := Value.int 34 564 }, { hash := PyData.keyHash P (Str.ofString ">>="), key := Value.str (Str.ofString ">>=") 678, val := Value.int 45 586 }, { hash := PyData.keyHash P (Str.ofString "@"), key := Value.str (Str.ofString "@") 679, val := Value.int 49 594 }, { hash := PyData.keyHash P (Str.ofString "@="), key := Value.str (Str.ofString "@=") 680, val := Value.int 50 596 }, { hash := PyData.keyHash P (Str.ofString "["), key := Value.str (Str.ofString "[") 681, val := Value.int 9 514 }, { hash := PyData.keyHash P (Str.ofString "]"), key := Value.str (Str.ofString "]") 682, val := Value.int 10 516 }, { hash := PyData.keyHash P (Str.ofString "^"), key := Value.str (Str.ofString "^") 683, val := Value.int 32 560 }, { hash := PyData.keyHash P (Str.ofString "^="), key := Value.str (Str.ofString "^=") 684, val := Value.int 43 582 }, { hash := PyData.keyHash P (Str.ofString "{"), key := Value.str (Str.ofString "{") 685, val := Value.int 25 546 }, { hash := PyData.keyHash P (Str.ofString "|"), key := Value.str (Str.ofString "|") 686, val := Value.int 18 532 }, { hash := PyData.keyHash P (Str.ofString "|="), key := Value.str (Str.ofString "|=") 687, val := Value.int 42 580 }, { hash := PyData.keyHash P (Str.ofString "}"), key := Value.str (Str.ofString "}") 688, val := Value.int 26 548 }, { hash := PyData.keyHash P (Str.ofString "~"), key := Value.str (Str.ofString "~") 689, val := Value.int 31 558 }] 14 }
noncomputable def ob320 : Params → Obj := fun P => { cls := Value.type "tuple", data := Data.seq #[] }
noncomputable def ob321 : Params → Obj := fun P => { cls := Value.none, data := Data.fields #[] }
noncomputable def ob322 : Params → Obj := fun P => { cls := Value.type "tuple", data := Data.seq #[Value.str (Str.ofString "x") 708] }
noncomputable def ob323 : Params → Obj := fun P => { cls := Value.type "tuple", data := Data.seq #[] }
noncomputable def ob324 : Params → Obj := fun P => { cls := Value.none, data := Data.func { name := Str.ofString "ISTERMINAL", qualname := Str.ofString "ISTERMINAL", params := Mine.fnArgs Mine.top57.val, body := FuncBody.stmts (Mine.fnBody Mine.top57.val), scope := Mine.fnScope Mine.top57.val, globals := 0, closure := [], defaults := Value.none, kwdefaults := Value.none } }
noncomputable def ob325 : Params → Obj := fun P => { cls := Value.type "code", data := Data.fields #[Value.str (Str.ofString "ISTERMINAL") 705, Value.str (Str.ofString "ISTERMINAL") 706, Value.str (Str.ofString "/claim/cut.py") 707, Value.int 134 0, Value.int 1 0, Value.int 0 0, Value.int 0 0, Value.int 3 0, Value.ref 179, Value.bool true, Value.int 276 0, Value.ref 180, Value.none, Value.ref 181, Value.ref 182, Value.ref 183, Value.int 709 0, Value.int 134 0, Value.str (Str.ofString "/claim/cut.py") 710] }
noncomputable def ob326 : Params → Obj := fun P => { cls := Value.type "function", data := Data.func { name := Str.ofString "ISTERMINAL", qualname := Str.ofString "ISTERMINAL", params := Mine.fnArgs Mine.top57.val, body := FuncBody.stmts (Mine.fnBody Mine.top57.val), scope := Mine.fnScope Mine.top57.val, globals := 3, closure := [], defaults := Value.none, kwdefaults := Value.none, pyModule := Value.str (Str.ofString "cpy313.token") 508, code := Value.ref 184 } }
noncomputable def ob327 : Params → Obj := fun P => { cls := Value.type "tuple", data := Data.seq #[] }
noncomputable def ob328 : Params → Obj := fun P => { cls := Value.none, data := Data.fields #[] }
noncomputable def ob329 : Params → Obj := fun P => { cls := Value.none, data := Data.func { name := Str.ofString "_law_deeds", qualname := Str.ofString "_law_deeds", params := Mine.fnArgs Mine.top59.val, body := FuncBody.stmts (Mine.fnBody Mine.top59.val), scope := Mine.fnScope Mine.top59.val, globals := 0, closure := [], defaults := Value.none, kwdefaults := Value.none } }
noncomputable def ob330 : Params → Obj := fun P => { cls := Value.type "code", data := Data.fields #[Value.str (Str.ofString "_law_deeds") 714, Value.str (Str.ofString "_law_deeds") 715, Value.str (Str.ofString "/claim/cut.py") 716, Value.int 137 0, Value.int 1 0, Value.int 0 0, Value.int 0 0, Value.int 3 0, Value.ref 186, Value.bool true, Value.int 276 0, Value.ref 187, Value.none, Value.none, Value.none, Value.ref 188, Value.int 717 0, Value.int 137 0, Value.str (Str.ofString "/claim/cut.py") 718] }
noncomputable def ob331 : Params → Obj := fun P => { cls := Value.type "function", data := Data.func { name := Str.ofString "_law_deeds", qualname := Str.ofString "_law_deeds", params := Mine.fnArgs Mine.top59.val, body := FuncBody.stmts (Mine.fnBody Mine.top59.val), scope := Mine.fnScope Mine.top59.val, globals := 3, closure := [], defaults := Value.none, kwdefaults := Value.none, pyModule := Value.str (Str.ofString "law_pe0250_01") 712, code := Value.ref 189 } }
noncomputable def ob332 : Params → Obj := fun P => { cls := Value.type "tuple", data := Data.seq #[] }
noncomputable def ob333 : Params → Obj := fun P => { cls := Value.none, data := Data.fields #[] }
noncomputable def ob334 : Params → Obj := fun P => { cls := Value.type "tuple", data := Data.seq #[Value.str (Str.ofString "number") 723, Value.str (Str.ofString "text") 724] }
noncomputable def ob335 : Params → Obj := fun P => { cls := Value.type "tuple", data := Data.seq #[] }
noncomputable def ob336 : Params → Obj := fun P => { cls := Value.none, data := Data.func { name := Str.ofString "_law_figures", qualname := Str.ofString "_law_figures", params := Mine.fnArgs Mine.top60.val, body := FuncBody.stmts (Mine.fnBody Mine.top60.val), scope := Mine.fnScope Mine.top60.val, globals := 0, closure := [], defaults := Value.none, kwdefaults := Value.none } }
noncomputable def ob337 : Params → Obj := fun P => { cls := Value.type "code", data := Data.fields #[Value.str (Str.ofString "_law_figures") 720, Value.str (Str.ofString "_law_figures") 721, Value.str (Str.ofString "/claim/cut.py") 722, Value.int 149 0, Value.int 1 0, Value.int 0 0, Value.int 0 0, Value.int 3 0, Value.ref 191, Value.bool true, Value.int 276 0, Value.ref 192, Value.none, Value.ref 193, Value.ref 194, Value.ref 195, Value.int 725 0, Value.int 149 0, Value.str (Str.ofString "/claim/cut.py") 726] }
noncomputable def ob338 : Params → Obj := fun P => { cls := Value.type "function", data := Data.func { name := Str.ofString "_law_figures", qualname := Str.ofString "_law_figures", params := Mine.fnArgs Mine.top60.val, body := FuncBody.stmts (Mine.fnBody Mine.top60.val), scope := Mine.fnScope Mine.top60.val, globals := 3, closure := [], defaults := Value.none, kwdefaults := Value.none, pyModule := Value.str (Str.ofString "law_pe0250_01") 712, code := Value.ref 196 } }
noncomputable def ob339 : Params → Obj := fun P => { cls := Value.type "tuple", data := Data.seq #[] }
noncomputable def ob340 : Params → Obj := fun P => { cls := Value.none, data := Data.fields #[] }
noncomputable def ob341 : Params → Obj := fun P => { cls := Value.type "tuple", data := Data.seq #[Value.str (Str.ofString "left") 731, Value.str (Str.ofString "sign") 732, Value.str (Str.ofString "right") 733, Value.str (Str.ofString "great") 734, Value.str (Str.ofString "text") 735] }
noncomputable def ob342 : Params → Obj := fun P => { cls := Value.type "tuple", data := Data.seq #[] }
noncomputable def ob343 : Params → Obj := fun P => { cls := Value.none, data := Data.func { name := Str.ofString "_law_name", qualname := Str.ofString "_law_name", params := Mine.fnArgs Mine.top61.val, body := FuncBody.stmts (Mine.fnBody Mine.top61.val), scope := Mine.fnScope Mine.top61.val, globals := 0, closure := [], defaults := Value.none, kwdefaults := Value.none } }
noncomputable def ob344 : Params → Obj := fun P => { cls := Value.type "code", data := Data.fields #[Value.str (Str.ofString "_law_name") 728, Value.str (Str.ofString "_law_name") 729, Value.str (Str.ofString "/claim/cut.py") 730, Value.int 155 0, Value.int 4 0, Value.int 0 0, Value.int 0 0, Value.int 3 0, Value.ref 198, Value.bool true, Value.int 276 0, Value.ref 199, Value.none, Value.ref 200, Value.ref 201, Value.ref 202, Value.int 736 0, Value.int 155 0, Value.str (Str.ofString "/claim/cut.py") 737] }
noncomputable def ob345 : Params → Obj := fun P => { cls := Value.type "function", data := Data.func { name := Str.ofString "_law_name", qualname := Str.ofString "_law_name", params := Mine.fnArgs Mine.top61.val, body := FuncBody.stmts (Mine.fnBody Mine.top61.val), scope := Mine.fnScope Mine.top61.val, globals := 3, closure := [], defaults := Value.none, kwdefaults := Value.none, pyModule := Value.str (Str.ofString "law_pe0250_01") 712, code := Value.ref 203 } }
noncomputable def ob346 : Params → Obj := fun P => { cls := Value.type "tuple", data := Data.seq #[] }
noncomputable def ob347 : Params → Obj := fun P => { cls := Value.none, data := Data.fields #[] }
noncomputable def ob348 : Params → Obj := fun P => { cls := Value.type "tuple", data := Data.seq #[] }
noncomputable def ob349 : Params → Obj := fun P => { cls := Value.type "tuple", data := Data.seq #[] }
noncomputable def ob350 : Params → Obj := fun P => { cls := Value.none, data := Data.func { name := Str.ofString "_law_signs", qualname := Str.ofString "_law_signs", params := Mine.fnArgs Mine.top62.val, body := FuncBody.stmts (Mine.fnBody Mine.top62.val), scope := Mine.fnScope Mine.top62.val, globals := 0, closure := [], defaults := Value.none, kwdefaults := Value.none } }
noncomputable def ob351 : Params → Obj := fun P => { cls := Value.type "code", data := Data.fields #[Value.str (Str.ofString "_law_signs") 739, Value.str (Str.ofString "_law_signs") 740, Value.str (Str.ofString "/claim/cut.py") 741, Value.int 158 0, Value.int 0 0, Value.int 0 0, Value.int 0 0, Value.int 3 0, Value.ref 205, Value.bool true, Value.int 276 0, Value.ref 206, Value.none, Value.ref 207, Value.ref 208, Value.ref 209, Value.int 742 0, Value.int 158 0, Value.str (Str.ofString "/claim/cut.py") 743] }
noncomputable def ob352 : Params → Obj := fun P => { cls := Value.type "function", data := Data.func { name := Str.ofString "_law_signs", qualname := Str.ofString "_law_signs", params := Mine.fnArgs Mine.top62.val, body := FuncBody.stmts (Mine.fnBody Mine.top62.val), scope := Mine.fnScope Mine.top62.val, globals := 3, closure := [], defaults := Value.none, kwdefaults := Value.none, pyModule := Value.str (Str.ofString "law_pe0250_01") 712, code := Value.ref 210 } }
noncomputable def ob353 : Params → Obj := fun P => { cls := Value.type "tuple", data := Data.seq #[] }
noncomputable def ob354 : Params → Obj := fun P => { cls := Value.none, data := Data.fields #[] }
noncomputable def ob355 : Params → Obj := fun P => { cls := Value.type "tuple", data := Data.seq #[Value.str (Str.ofString "left") 748, Value.str (Str.ofString "sign") 749, Value.str (Str.ofString "right") 750] }
noncomputable def ob356 : Params → Obj := fun P => { cls := Value.type "tuple", data := Data.seq #[] }
noncomputable def ob357 : Params → Obj := fun P => { cls := Value.none, data := Data.func { name := Str.ofString "_law_joined", qualname := Str.ofString "_law_joined", params := Mine.fnArgs Mine.top63.val, body := FuncBody.stmts (Mine.fnBody Mine.top63.val), scope := Mine.fnScope Mine.top63.val, globals := 0, closure := [], defaults := Value.none, kwdefaults := Value.none } }
noncomputable def ob358 : Params → Obj := fun P => { cls := Value.type "code", data := Data.fields #[Value.str (Str.ofString "_law_joined") 745, Value.str (Str.ofString "_law_joined") 746, Value.str (Str.ofString "/claim/cut.py") 747, Value.int 160 0, Value.int 3 0, Value.int 0 0, Value.int 0 0, Value.int 3 0, Value.ref 212, Value.bool true, Value.int 276 0, Value.ref 213, Value.none, Value.ref 214, Value.ref 215, Value.ref 216, Value.int 751 0, Value.int 160 0, Value.str (Str.ofString "/claim/cut.py") 752] }
noncomputable def ob359 : Params → Obj := fun P => { cls := Value.type "function", data := Data.func { name := Str.ofString "_law_joined", qualname := Str.ofString "_law_joined", params := Mine.fnArgs Mine.top63.val, body := FuncBody.stmts (Mine.fnBody Mine.top63.val), scope := Mine.fnScope Mine.top63.val, globals := 3, closure := [], defaults := Value.none, kwdefaults := Value.none, pyModule := Value.str (Str.ofString "law_pe0250_01") 712, code := Value.ref 217 } }
noncomputable def ob360 : Params → Obj := fun P => { cls := Value.type "tuple", data := Data.seq #[] }
noncomputable def ob361 : Params → Obj := fun P => { cls := Value.none, data := Data.fields #[] }
noncomputable def ob362 : Params → Obj := fun P => { cls := Value.type "tuple", data := Data.seq #[Value.str (Str.ofString "table") 757, Value.str (Str.ofString "deeds") 758, Value.str (Str.ofString "pile") 759, Value.str (Str.ofString "deed") 760, Value.str (Str.ofString "what") 761, Value.str (Str.ofString "great") 762, Value.str (Str.ofString "high") 763, Value.str (Str.ofString "low") 764, Value.str (Str.ofString "sign") 765, Value.str (Str.ofString "told") 766] }
noncomputable def ob363 : Params → Obj := fun P => { cls := Value.type "tuple", data := Data.seq #[] }
noncomputable def ob364 : Params → Obj := fun P => { cls := Value.none, data := Data.func { name := Str.ofString "_law_kept", qualname := Str.ofString "_law_kept", params := Mine.fnArgs Mine.top64.val, body := FuncBody.stmts (Mine.fnBody Mine.top64.val), scope := Mine.fnScope Mine.top64.val, globals := 0, closure := [], defaults := Value.none, kwdefaults := Value.none } }
noncomputable def ob365 : Params → Obj := fun P => { cls := Value.type "code", data := Data.fields #[Value.str (Str.ofString "_law_kept") 754, Value.str (Str.ofString "_law_kept") 755, Value.str (Str.ofString "/claim/cut.py") 756, Value.int 164 0, Value.int 2 0, Value.int 0 0, Value.int 0 0, Value.int 3 0, Value.ref 219, Value.bool true, Value.int 276 0, Value.ref 220, Value.none, Value.ref 221, Value.ref 222, Value.ref 223, Value.int 767 0, Value.int 164 0, Value.str (Str.ofString "/claim/cut.py") 768] }
noncomputable def ob366 : Params → Obj := fun P => { cls := Value.type "function", data := Data.func { name := Str.ofString "_law_kept", qualname := Str.ofString "_law_kept", params := Mine.fnArgs Mine.top64.val, body := FuncBody.stmts (Mine.fnBody Mine.top64.val), scope := Mine.fnScope Mine.top64.val, globals := 3, closure := [], defaults := Value.none, kwdefaults := Value.none, pyModule := Value.str (Str.ofString "law_pe0250_01") 712, code := Value.ref 224 } }
noncomputable def ob367 : Params → Obj := fun P => { cls := Value.type "tuple", data := Data.seq #[] }
noncomputable def ob368 : Params → Obj := fun P => { cls := Value.none, data := Data.fields #[] }
noncomputable def ob369 : Params → Obj := fun P => { cls := Value.none, data := Data.func { name := Str.ofString "_law_told", qualname := Str.ofString "_law_told", params := Mine.fnArgs Mine.top65.val, body := FuncBody.stmts (Mine.fnBody Mine.top65.val), scope := Mine.fnScope Mine.top65.val, globals := 0, closure := [], defaults := Value.none, kwdefaults := Value.none } }
noncomputable def ob370 : Params → Obj := fun P => { cls := Value.type "code", data := Data.fields #[Value.str (Str.ofString "_law_told") 770, Value.str (Str.ofString "_law_told") 771, Value.str (Str.ofString "/claim/cut.py") 772, Value.int 178 0, Value.int 1 0, Value.int 0 0, Value.int 0 0, Value.int 3 0, Value.ref 226, Value.bool true, Value.int 276 0, Value.ref 227, Value.none, Value.none, Value.none, Value.ref 228, Value.int 773 0, Value.int 178 0, Value.str (Str.ofString "/claim/cut.py") 774] }
noncomputable def ob371 : Params → Obj := fun P => { cls := Value.type "function", data := Data.func { name := Str.ofString "_law_told", qualname := Str.ofString "_law_told", params := Mine.fnArgs Mine.top65.val, body := FuncBody.stmts (Mine.fnBody Mine.top65.val), scope := Mine.fnScope Mine.top65.val, globals := 3, closure := [], defaults := Value.none, kwdefaults := Value.none, pyModule := Value.str (Str.ofString "law_pe0250_01") 712, code := Value.ref 229 } }
noncomputable def ob372 : Params → Obj := fun P => { cls := Value.type "tuple", data := Data.seq #[] }
noncomputable def ob373 : Params → Obj := fun P => { cls := Value.none, data := Data.fields #[] }
noncomputable def ob374 : Params → Obj := fun P => { cls := Value.type "tuple", data := Data.seq #[Value.str (Str.ofString "texts") 779, Value.str (Str.ofString "figures") 780, Value.str (Str.ofString "number") 781, Value.str (Str.ofString "figure") 782] }
noncomputable def ob375 : Params → Obj := fun P => { cls := Value.type "tuple", data := Data.seq #[] }
noncomputable def ob376 : Params → Obj := fun P => { cls := Value.none, data := Data.func { name := Str.ofString "_law_part", qualname := Str.ofString "_law_part", params := Mine.fnArgs Mine.top66.val, body := FuncBody.stmts (Mine.fnBody Mine.top66.val), scope := Mine.fnScope Mine.top66.val, globals := 0, closure := [], defaults := Value.none, kwdefaults := Value.none } }
noncomputable def ob377 : Params → Obj := fun P => { cls := Value.type "code", data := Data.fields #[Value.str (Str.ofString "_law_part") 776, Value.str (Str.ofString "_law_part") 777, Value.str (Str.ofString "/claim/cut.py") 778, Value.int 197 0, Value.int 2 0, Value.int 0 0, Value.int 0 0, Value.int 3 0, Value.ref 231, Value.bool true, Value.int 276 0, Value.ref 232, Value.none, Value.ref 233, Value.ref 234, Value.ref 235, Value.int 783 0, Value.int 197 0, Value.str (Str.ofString "/claim/cut.py") 784] }
noncomputable def ob378 : Params → Obj := fun P => { cls := Value.type "function", data := Data.func { name := Str.ofString "_law_part", qualname := Str.ofString "_law_part", params := Mine.fnArgs Mine.top66.val, body := FuncBody.stmts (Mine.fnBody Mine.top66.val), scope := Mine.fnScope Mine.top66.val, globals := 3, closure := [], defaults := Value.none, kwdefaults := Value.none, pyModule := Value.str (Str.ofString "law_pe0250_01") 712, code := Value.ref 236 } }
noncomputable def ob379 : Params → Obj := fun P => { cls := Value.type "tuple", data := Data.seq #[] }
noncomputable def ob380 : Params → Obj := fun P => { cls := Value.none, data := Data.fields #[] }
noncomputable def ob381 : Params → Obj := fun P => { cls := Value.type "tuple", data := Data.seq #[Value.str (Str.ofString "pairs") 789, Value.str (Str.ofString "texts") 790, Value.str (Str.ofString "word") 791, Value.str (Str.ofString "value") 792, Value.str (Str.ofString "place") 793, Value.str (Str.ofString "behind") 794, Value.str (Str.ofString "left") 795, Value.str (Str.ofString "right") 796] }
noncomputable def ob382 : Params → Obj := fun P => { cls := Value.type "tuple", data := Data.seq #[] }
noncomputable def ob383 : Params → Obj := fun P => { cls := Value.none, data := Data.func { name := Str.ofString "_law_unfolded", qualname := Str.ofString "_law_unfolded", params := Mine.fnArgs Mine.top67.val, body := FuncBody.stmts (Mine.fnBody Mine.top67.val), scope := Mine.fnScope Mine.top67.val, globals := 0, closure := [], defaults := Value.none, kwdefaults := Value.none } }
noncomputable def ob384 : Params → Obj := fun P => { cls := Value.type "code", data := Data.fields #[Value.str (Str.ofString "_law_unfolded") 786, Value.str (Str.ofString "_law_unfolded") 787, Value.str (Str.ofString "/claim/cut.py") 788, Value.int 204 0, Value.int 1 0, Value.int 0 0, Value.int 0 0, Value.int 3 0, Value.ref 238, Value.bool true, Value.int 276 0, Value.ref 239, Value.none, Value.ref 240, Value.ref 241, Value.ref 242, Value.int 797 0, Value.int 204 0, Value.str (Str.ofString "/claim/cut.py") 798] }
noncomputable def ob385 : Params → Obj := fun P => { cls := Value.type "function", data := Data.func { name := Str.ofString "_law_unfolded", qualname := Str.ofString "_law_unfolded", params := Mine.fnArgs Mine.top67.val, body := FuncBody.stmts (Mine.fnBody Mine.top67.val), scope := Mine.fnScope Mine.top67.val, globals := 3, closure := [], defaults := Value.none, kwdefaults := Value.none, pyModule := Value.str (Str.ofString "law_pe0250_01") 712, code := Value.ref 243 } }
noncomputable def ob386 : Params → Obj := fun P => { cls := Value.type "tuple", data := Data.seq #[] }
noncomputable def ob387 : Params → Obj := fun P => { cls := Value.none, data := Data.fields #[] }
noncomputable def ob388 : Params → Obj := fun P => { cls := Value.type "tuple", data := Data.seq #[Value.str (Str.ofString "script") 803, Value.str (Str.ofString "deeds") 804, Value.str (Str.ofString "table") 805, Value.str (Str.ofString "numbers") 806, Value.str (Str.ofString "due") 807, Value.str (Str.ofString "texts") 808, Value.str (Str.ofString "pairs") 809] }
noncomputable def ob389 : Params → Obj := fun P => { cls := Value.type "tuple", data := Data.seq #[] }
noncomputable def ob390 : Params → Obj := fun P => { cls := Value.none, data := Data.func { name := Str.ofString "law", qualname := Str.ofString "law", params := Mine.fnArgs Mine.top68.val, body := FuncBody.stmts (Mine.fnBody Mine.top68.val), scope := Mine.fnScope Mine.top68.val, globals := 0, closure := [], defaults := Value.none, kwdefaults := Value.none } }
noncomputable def ob391 : Params → Obj := fun P => { cls := Value.type "code", data := Data.fields #[Value.str (Str.ofString "law") 800, Value.str (Str.ofString "law") 801, Value.str (Str.ofString "/claim/cut.py") 802, Value.int 215 0, Value.int 1 0, Value.int 0 0, Value.int 0 0, Value.int 3 0, Value.ref 245, Value.bool true, Value.int 276 0, Value.ref 246, Value.none, Value.ref 247, Value.ref 248, Value.ref 249, Value.int 810 0, Value.int 215 0, Value.str (Str.ofString "/claim/cut.py") 811] }
noncomputable def ob392 : Params → Obj := fun P => { cls := Value.type "function", data := Data.func { name := Str.ofString "law", qualname := Str.ofString "law", params := Mine.fnArgs Mine.top68.val, body := FuncBody.stmts (Mine.fnBody Mine.top68.val), scope := Mine.fnScope Mine.top68.val, globals := 3, closure := [], defaults := Value.none, kwdefaults := Value.none, pyModule := Value.str (Str.ofString "law_pe0250_01") 712, code := Value.ref 250 } }
noncomputable def ob44 : Params → Obj := fun P => { cls := Value.type "dict", data := Data.dict #[{ hash := PyData.keyHash P (Str.ofString "__name__"), key := Value.str (Str.ofString "__name__") 165, val := Value.str (Str.ofString "__main__") 164 }, { hash := PyData.keyHash P (Str.ofString "__doc__"), key := Value.str (Str.ofString "__doc__") 166, val := Value.none }, { hash := PyData.keyHash P (Str.ofString "__package__"), key := Value.str (Str.ofString "__package__") 167, val := Value.none }, { hash := PyData.keyHash P (Str.ofString "__loader__"), key := Value.str (Str.ofString "__loader__") 168, val := Value.builtin "__main__.__loader__#opaque" }, { hash := PyData.keyHash P (Str.ofString "__spec__"), key := Value.str (Str.ofString "__spec__") 169, val := Value.none }, { hash := PyData.keyHash P (Str.ofString "__annotations__"), key := Value.str (Str.ofString "__annotations__") 170, val := Value.ref 6 }, { hash := PyData.keyHash P (Str.ofString "__builtins__"), key := Value.str (Str.ofString "__builtins__") 171, val := Value.ref 4 }, { hash := PyData.keyHash P (Str.ofString "__file__"), key := Value.str (Str.ofString "__file__") 173, val := Value.str (Str.ofString "/claim/cut.py") 172 }, { hash := PyData.keyHash P (Str.ofString "__cached__"), key := Value.str (Str.ofString "__cached__") 174, val := Value.none }, { hash := PyData.keyHash P (Str.ofString "_sre"), key := Value.str (Str.ofString "_sre") 275, val := Value.ref 12 }] 10 }
noncomputable def ob70 : Params → Obj := fun P => { cls := Value.none, data := Data.fields #[] }
noncomputable def ob75 : Params → Obj := fun P => { cls := Value.type "dict", data := Data.dict #[{ hash := PyData.keyHash P (Str.ofString "__name__"), key := Value.str (Str.ofString "__name__") 165, val := Value.str (Str.ofString "cpy313.wsgiref.headers") 289 }, { hash := PyData.keyHash P (Str.ofString "__doc__"), key := Value.str (Str.ofString "__doc__") 166, val := Value.none }, { hash := PyData.keyHash P (Str.ofString "__package__"), key := Value.str (Str.ofString "__package__") 167, val := Value.none }, { hash := PyData.keyHash P (Str.ofString "__loader__"), key := Value.str (Str.ofString "__loader__") 168, val := Value.builtin "__main__.__loader__#opaque" }, { hash := PyData.keyHash P (Str.ofString "__spec__"), key := Value.str (Str.ofString "__spec__") 169, val := Value.none }, { hash := PyData.keyHash P (Str.ofString "__annotations__"), key := Value.str (Str.ofString "__annotations__") 170, val := Value.ref 6 }, { hash := PyData.keyHash P (Str.ofString "__builtins__"), key := Value.str (Str.ofString "__builtins__") 171, val := Value.ref 4 }, { hash := PyData.keyHash P (Str.ofString "__file__"), key := Value.str (Str.ofString "__file__") 173, val := Value.str (Str.ofString "/claim/cut.py") 172 }, { hash := PyData.keyHash P (Str.ofString "__cached__"), key := Value.str (Str.ofString "__cached__") 174, val := Value.none }, { hash := PyData.keyHash P (Str.ofString "_sre"), key := Value.str (Str.ofString "_sre") 275, val := Value.ref 12 }, { hash := PyData.keyHash P (Str.ofString "_wall"), key := Value.str (Str.ofString "_wall") 288, val := Value.ref 38 }, { hash := PyData.keyHash P (Str.ofString "_name_disallowed_re"), key := Value.str (Str.ofString "_name_disallowed_re") 316, val := Value.ref 43 }, { hash := PyData.keyHash P (Str.ofString "_value_disallowed_re"), key := Value.str (Str.ofString "_value_disallowed_re") 350, val := Value.ref 48 }] 13 }
noncomputable def ob76 : Params → Obj := fun P => { cls := Value.none, data := Data.fields #[Value.int 2 0, Value.int 0 0, Value.ref 37] }
noncomputable def ob94 : Params → Obj := fun P => { cls := Value.type "dict", data := Data.dict #[{ hash := PyData.keyHash P (Str.ofString "__name__"), key := Value.str (Str.ofString "__name__") 165, val := Value.str (Str.ofString "cpy313.wsgiref.headers") 289 }, { hash := PyData.keyHash P (Str.ofString "__doc__"), key := Value.str (Str.ofString "__doc__") 166, val := Value.none }, { hash := PyData.keyHash P (Str.ofString "__package__"), key := Value.str (Str.ofString "__package__") 167, val := Value.none }, { hash := PyData.keyHash P (Str.ofString "__loader__"), key := Value.str (Str.ofString "__loader__") 168, val := Value.builtin "__main__.__loader__#opaque" }, { hash := PyData.keyHash P (Str.ofString "__spec__"), key := Value.str (Str.ofString "__spec__") 169, val := Value.none }, { hash := PyData.keyHash P (Str.ofString "__annotations__"), key := Value.str (Str.ofString "__annotations__") 170, val := Value.ref 6 }, { hash := PyData.keyHash P (Str.ofString "__builtins__"), key := Value.str (Str.ofString "__builtins__") 171, val := Value.ref 4 }, { hash := PyData.keyHash P (Str.ofString "__file__"), key := Value.str (Str.ofString "__file__") 173, val := Value.str (Str.ofString "/claim/cut.py") 172 }, { hash := PyData.keyHash P (Str.ofString "__cached__"), key := Value.str (Str.ofString "__cached__") 174, val := Value.none }, { hash := PyData.keyHash P (Str.ofString "_sre"), key := Value.str (Str.ofString "_sre") 275, val := Value.ref 12 }, { hash := PyData.keyHash P (Str.ofString "_wall"), key := Value.str (Str.ofString "_wall") 288, val := Value.ref 38 }, { hash := PyData.keyHash P (Str.ofString "_name_disallowed_re"), key := Value.str (Str.ofString "_name_disallowed_re") 316, val := Value.ref 43 }, { hash := PyData.keyHash P (Str.ofString "_value_disallowed_re"), key := Value.str (Str.ofString "_value_disallowed_re") 350, val := Value.ref 48 }, { hash := PyData.keyHash P (Str.ofString "Headers"), key := Value.str (Str.ofString "Headers") 507, val := Value.ref 171 }] 14 }
noncomputable def ob95 : Params → Obj := fun P => { cls := Value.none, data := Data.fields #[Value.int 2 0, Value.int 0 0, Value.ref 37, Value.int 8 0, Value.int 0 0, Value.ref 54] }
noncomputable def ob307 : Params → Obj := fun P => { cls := Value.type "dict", data := Data.dict #[{ hash := PyData.keyHash P (Str.ofString "__name__"), key := Value.str (Str.ofString "__name__") 165, val := Value.str (Str.ofString "cpy313.token") 508 }, { hash := PyData.keyHash P (Str.ofString "__doc__"), key := Value.str (Str.ofString "__doc__") 166, val := Value.none }, { hash := PyData.keyHash P (Str.ofString "__package__"), key := Value.str (Str.ofString "__package__") 167, val := Value.none }, { hash := PyData.keyHash P (Str.ofString "__loader__"), key := Value.str (Str.ofString "__loader__") 168, val := Value.builtin "__main__.__loader__#opaque" }, { hash := PyData.keyHash P (Str.ofString "__spec__"), key := Value.str (Str.ofString "__spec__") 169, val := Value.none }, { hash := PyData.keyHash P (Str.ofString "__annotations__"), key := Value.str (Str.ofString "__annotations__") 170, val := Value.ref 6 }, { hash := PyData.keyHash P (Str.ofString "__builtins__"), key := Value.str (Str.ofString "__builtins__") 171, val := Value.ref 4 }, { hash := PyData.keyHash P (Str.ofString "__file__"), key := Value.str (Str.ofString "__file__") 173, val := Value.str (Str.ofString "/claim/cut.py") 172 }, { hash := PyData.keyHash P (Str.ofString "__cached__"), key := Value.str (Str.ofString "__cached__") 174, val := Value.none }, { hash := PyData.keyHash P (Str.ofString "_sre"), key := Value.str (Str.ofString "_sre") 275, val := Value.ref 12 }, { hash := PyData.keyHash P (Str.ofString "_wall"), key := Value.str (Str.ofString "_wall") 288, val := Value.ref 38 }, { hash := PyData.keyHash P (Str.ofString "_name_disallowed_re"), key := Value.str (Str.ofString "_name_disallowed_re") 316, val := Value.ref 43 }, { hash := PyData.keyHash P (Str.ofString "_value_disallowed_re"), key := Value.str (Str.ofString "_value_disallowed_re") 350, val := Value.ref 48 }, { hash := PyData.keyHash P (Str.ofString "Headers"), key := Value.str (Str.ofString "Headers") 507, val := Value.ref 171 }, { hash := PyData.keyHash P (Str.ofString "LPAR"), key := Value.str (Str.ofString "LPAR") 511, val := Value.int 7 510 }, { hash := PyData.keyHash P (Str.ofString "RPAR"), key := Value.str (Str.ofString "RPAR") 513, val := Value.int 8 512 }, { hash := PyData.keyHash P (Str.ofString "LSQB"), key := Value.str (Str.ofString "LSQB") 515, val := Value.int 9 514 }, { hash := PyData.keyHash P (Str.ofString "RSQB"), key := Value.str (Str.ofString "RSQB") 517, val := Value.int 10 516 }, { hash := PyData.keyHash P (Str.ofString "COLON"), key := Value.str (Str.ofString "COLON") 519, val := Value.int 11 518 }, { hash := PyData.keyHash P (Str.ofString "COMMA"), key := Value.str (Str.ofString "COMMA") 521, val := Value.int 12 520 }, { hash := PyData.keyHash P (Str.ofString "SEMI"), key := Value.str (Str.ofString "SEMI") 523, val := Value.int 13 522 }, { hash := PyData.keyHash P (Str.ofString "PLUS"), key := Value.str (Str.ofString "PLUS") 525, val := Value.int 14 524 }, { hash := PyData.keyHash P (Str.ofString "MINUS"), key := Value.str (Str.ofString "MINUS") 527, val := Value.int 15 526 }, { hash := PyData.keyHash P (Str.ofString "STAR"), key := Value.str (Str.ofString "STAR") 529, val := Value.int 16 528 }, { hash := PyData.keyHash P (Str.ofString "SLASH"), key := Value.str (Str.ofString "SLASH") 531, val := Value.int 17 530 }, { hash := PyData.keyHash P (Str.ofString "VBAR"), key := Value.str (Str.ofString "VBAR") 533, val := Value.int 18 532 }, { hash := PyData.keyHash P (Str.ofString "AMPER"), key := Value.str (Str.ofString "AMPER") 535, val := Value.int 19 534 }, { hash := PyData.keyHash P (Str.ofString "LESS"), key := Value.str (Str.ofString "LESS") 537, val := Value.int 20 536 }, { hash := PyData.keyHash P (Str.ofString "GREATER"), key := Value.str (Str.ofString "GREATER") 539, val := Value.int 21 538 }, { hash := PyData.keyHash P (Str.ofString "EQUAL"), key := Value.str (Str.ofString "EQUAL") 541, val := Value.int 22 540 }, { hash := PyData.keyHash P (Str.ofString "DOT"), key := Value.str (Str.ofString "DOT") 543, val := Value.int 23 542 }, { hash := PyData.keyHash P (Str.ofString "PERCENT"), key := Value.str (Str.ofString "PERCENT") 545, val := Value.int 24 544 }, { hash := PyData.keyHash P (Str.ofString "LBRACE"), key := Value.str (Str.ofString "LBRACE") 547, val := Value.int 25 546 }, { hash := PyData.keyHash P (Str.ofString "RBRACE"), key := Value.str (Str.ofString "RBRACE") 549, val := Value.int 26 548 }, { hash := PyData.keyHash P (Str.ofString "EQEQUAL"), key := Value.str (Str.ofString "EQEQUAL") 551, val := Value.int 27 550 }, { hash := PyData.keyHash P (Str.ofString "NOTEQUAL"), key := Value.str (Str.ofString "NOTEQUAL") 553, val := Value.int 28 552 }, { hash := PyData.keyHash P (Str.ofString "LESSEQUAL"), key := Value.str (Str.ofString "LESSEQUAL") 555, val := Value.int 29 554 }, { hash := PyData.keyHash P (Str.ofString "GREATEREQUAL"), key := Value.str (Str.ofString "GREATEREQUAL") 557, val := Value.int 30 556 }, { hash := PyData.keyHash P (Str.ofString "TILDE"), key := Value.str (Str.ofString "TILDE") 559, val := Value.int 31 558 }, { hash := PyData.keyHash P (Str.ofString "CIRCUMFLEX"), key := Value.str (Str.ofString "CIRCUMFLEX") 561, val := Value.int 32 560 }, { hash := PyData.keyHash P (Str.ofString "LEFTSHIFT"), key := Value.str (Str.ofString "LEFTSHIFT") 563, val := Value.int 33 562 }, { hash := PyData.keyHash P (Str.ofString "RIGHTSHIFT"), key := Value.str (Str.ofString "RIGHTSHIFT") 565, val := Value.int 34 564 }, { hash := PyData.keyHash P (Str.ofString "DOUBLESTAR"), key := Value.str (Str.ofString "DOUBLESTAR") 567, val := Value.int 35 566 }, { hash := PyData.keyHash P (Str.ofString "PLUSEQUAL"), key := Value.str (Str.ofString "PLUSEQUAL") 569, val := Value.int 36 568 }, { hash := PyData.keyHash P (Str.ofString "MINEQUAL"), key := Value.str (Str.ofString "MINEQUAL") 571, val := Value.int 37 570 }, { hash := PyData.keyHash P (Str.ofString "STAREQUAL"), key := Value.str (Str.ofString "STAREQUAL") 573, val := Value.int 38 572 }, { hash := PyData.keyHash P (Str.ofString "SLASHEQUAL"), key := Value.str (Str.ofString "SLASHEQUAL") 575, val := Value.int 39 574 }, { hash := PyData.keyHash P (Str.ofString "PERCENTEQUAL"), key := Value.str (Str.ofString "PERCENTEQUAL") 577, val := Value.int 40 576 }, { hash := PyData.keyHash P (Str.ofString "AMPEREQUAL"), key := Value.str (Str.ofString "AMPEREQUAL") 579, val := Value.int 41 578 }, { hash := PyData.keyHash P (Str.ofString "VBAREQUAL"), key := Value.str (Str.ofString "VBAREQUAL") 581, val := Value.int 42 580 }, { hash := PyData.keyHash P (Str.ofString "CIRCUMFLEXEQUAL"), key := Value.str (Str.ofString "CIRCUMFLEXEQUAL") 583, val := Value.int 43 582 }, { hash := PyData.keyHash P (Str.ofString "LEFTSHIFTEQUAL"), key := Value.str (Str.ofString "LEFTSHIFTEQUAL") 585, val := Value.int 44 584 }, { hash := PyData.keyHash P (Str.ofString "RIGHTSHIFTEQUAL"), key := Value.str (Str.ofString "RIGHTSHIFTEQUAL") 587, val := Value.int 45 586 }, { hash := PyData.keyHash P (Str.ofString "DOUBLESTAREQUAL"), key := Value.str (Str.ofString "DOUBLESTAREQUAL") 589, val := Value.int 46 588 }, { hash := PyData.keyHash P (Str.ofString "DOUBLESLASH"), key := Value.str (Str.ofString "DOUBLESLASH") 591, val := Value.int 47 590 }, { hash := PyData.keyHash P (Str.ofString "DOUBLESLASHEQUAL"), key := Value.str (Str.ofString "DOUBLESLASHEQUAL") 593, val := Value.int 48 592 }, { hash := PyData.keyHash P (Str.ofString "AT"), key := Value.str (Str.ofString "AT") 595, val := Value.int 49 594 }] 57 }
noncomputable def ob309 : Params → Obj := fun P => { cls := Value.type "dict", data := Data.dict #[{ hash := PyData.keyHash P (Str.ofString "__name__"), key := Value.str (Str.ofString "__name__") 165, val := Value.str (Str.ofString "cpy313.token") 508 }, { hash := PyData.keyHash P (Str.ofString "__doc__"), key := Value.str (Str.ofString "__doc__") 166, val := Value.none }, { hash := PyData.keyHash P (Str.ofString "__package__"), key := Value.str (Str.ofString "__package__") 167, val := Value.none }, { hash := PyData.keyHash P (Str.ofString "__loader__"), key := Value.str (Str.ofString "__loader__") 168, val := Value.builtin "__main__.__loader__#opaque" }, { hash := PyData.keyHash P (Str.ofString "__spec__"), key := Value.str (Str.ofString "__spec__") 169, val := Value.none }, { hash := PyData.keyHash P (Str.ofString "__annotations__"), key := Value.str (Str.ofString "__annotations__") 170, val := Value.ref 6 }, { hash := PyData.keyHash P (Str.ofString "__builtins__"), key := Value.str (Str.ofString "__builtins__") 171, val := Value.ref 4 }, { hash := PyData.keyHash P (Str.ofString "__file__"), key := Value.str (Str.ofString "__file__") 173, val := Value.str (Str.ofString "/claim/cut.py") 172 }, { hash := PyData.keyHash P (Str.ofString "__cached__"), key := Value.str (Str.ofString "__cached__") 174, val := Value.none }, { hash := PyData.keyHash P (Str.ofString "_sre"), key := Value.str (Str.ofString "_sre") 275, val := Value.ref 12 }, { hash := PyData.keyHash P (Str.ofString "_wall"), key := Value.str (Str.ofString "_wall") 288, val := Value.ref 38 }, { hash := PyData.keyHash P (Str.ofString "_name_disallowed_re"), key := Value.str (Str.ofString "_name_disallowed_re") 316, val := Value.ref 43 }, { hash := PyData.keyHash P (Str.ofString "_value_disallowed_re"), key := Value.str (Str.ofString "_value_disallowed_re") 350, val := Value.ref 48 }, { hash := PyData.keyHash P (Str.ofString "Headers"), key := Value.str (Str.ofString "Headers") 507, val := Value.ref 171 }, { hash := PyData.keyHash P (Str.ofString "LPAR"), key := Value.str (Str.ofString "LPAR") 511, val := Value.int 7 510 }, { hash := PyData.keyHash P (Str.ofString "RPAR"), key := Value.str (Str.ofString "RPAR") 513, val := Value.int 8 512 }, { hash := PyData.keyHash P (Str.ofString "LSQB"), key := Value.str (Str.ofString "LSQB") 515, val := Value.int 9 514 }, { hash := PyData.keyHash P (Str.ofString "RSQB"), key := Value.str (Str.ofString "RSQB") 517, val := Value.int 10 516 }, { hash := PyData.keyHash P (Str.ofString "COLON"), key := Value.str (Str.ofString "COLON") 519, val := Value.int 11 518 }, { hash := PyData.keyHash P (Str.ofString "COMMA"), key := Value.str (Str.ofString "COMMA") 521, val := Value.int 12 520 }, { hash := PyData.keyHash P (Str.ofString "SEMI"), key := Value.str (Str.ofString "SEMI") 523, val := Value.int 13 522 }, { hash := PyData.keyHash P (Str.ofString "PLUS"), key := Value.str (Str.ofString "PLUS") 525, val := Value.int 14 524 }, { hash := PyData.keyHash P (Str.ofString "MINUS"), key := Value.str (Str.ofString "MINUS") 527, val := Value.int 15 526 }, { hash := PyData.keyHash P (Str.ofString "STAR"), key := Value.str (Str.ofString "STAR") 529, val := Value.int 16 528 }, { hash := PyData.keyHash P (Str.ofString "SLASH"), key := Value.str (Str.ofString "SLASH") 531, val := Value.int 17 530 }, { hash := PyData.keyHash P (Str.ofString "VBAR"), key := Value.str (Str.ofString "VBAR") 533, val := Value.int 18 532 }, { hash := PyData.keyHash P (Str.ofString "AMPER"), key := Value.str (Str.ofString "AMPER") 535, val := Value.int 19 534 }, { hash := PyData.keyHash P (Str.ofString "LESS"), key := Value.str (Str.ofString "LESS") 537, val := Value.int 20 536 }, { hash := PyData.keyHash P (Str.ofString "GREATER"), key := Value.str (Str.ofString "GREATER") 539, val := Value.int 21 538 }, { hash := PyData.keyHash P (Str.ofString "EQUAL"), key := Value.str (Str.ofString "EQUAL") 541, val := Value.int 22 540 }, { hash := PyData.keyHash P (Str.ofString "DOT"), key := Value.str (Str.ofString "DOT") 543, val := Value.int 23 542 }, { hash := PyData.keyHash P (Str.ofString "PERCENT"), key := Value.str (Str.ofString "PERCENT") 545, val := Value.int 24 544 }, { hash := PyData.keyHash P (Str.ofString "LBRACE"), key := Value.str (Str.ofString "LBRACE") 547, val := Value.int 25 546 }, { hash := PyData.keyHash P (Str.ofString "RBRACE"), key := Value.str (Str.ofString "RBRACE") 549, val := Value.int 26 548 }, { hash := PyData.keyHash P (Str.ofString "EQEQUAL"), key := Value.str (Str.ofString "EQEQUAL") 551, val := Value.int 27 550 }, { hash := PyData.keyHash P (Str.ofString "NOTEQUAL"), key := Value.str (Str.ofString "NOTEQUAL") 553, val := Value.int 28 552 }, { hash := PyData.keyHash P (Str.ofString "LESSEQUAL"), key := Value.str (Str.ofString "LESSEQUAL") 555, val := Value.int 29 554 }, { hash := PyData.keyHash P (Str.ofString "GREATEREQUAL"), key := Value.str (Str.ofString "GREATEREQUAL") 557, val := Value.int 30 556 }, { hash := PyData.keyHash P (Str.ofString "TILDE"), key := Value.str (Str.ofString "TILDE") 559, val := Value.int 31 558 }, { hash := PyData.keyHash P (Str.ofString "CIRCUMFLEX"), key := Value.str (Str.ofString "CIRCUMFLEX") 561, val := Value.int 32 560 }, { hash := PyData.keyHash P (Str.ofString "LEFTSHIFT"), key := Value.str (Str.ofString "LEFTSHIFT") 563, val := Value.int 33 562 }, { hash := PyData.keyHash P (Str.ofString "RIGHTSHIFT"), key := Value.str (Str.ofString "RIGHTSHIFT") 565, val := Value.int 34 564 }, { hash := PyData.keyHash P (Str.ofString "DOUBLESTAR"), key := Value.str (Str.ofString "DOUBLESTAR") 567, val := Value.int 35 566 }, { hash := PyData.keyHash P (Str.ofString "PLUSEQUAL"), key := Value.str (Str.ofString "PLUSEQUAL") 569, val := Value.int 36 568 }, { hash := PyData.keyHash P (Str.ofString "MINEQUAL"), key := Value.str (Str.ofString "MINEQUAL") 571, val := Value.int 37 570 }, { hash := PyData.keyHash P (Str.ofString "STAREQUAL"), key := Value.str (Str.ofString "STAREQUAL") 573, val := Value.int 38 572 }, { hash := PyData.keyHash P (Str.ofString "SLASHEQUAL"), key := Value.str (Str.ofString "SLASHEQUAL") 575, val := Value.int 39 574 }, { hash := PyData.keyHash P (Str.ofString "PERCENTEQUAL"), key := Value.str (Str.ofString "PERCENTEQUAL") 577, val := Value.int 40 576 }, { hash := PyData.keyHash P (Str.ofString "AMPEREQUAL"), key := Value.str (Str.ofString "AMPEREQUAL") 579, val := Value.int 41 578 }, { hash := PyData.keyHash P (Str.ofString "VBAREQUAL"), key := Value.str (Str.ofString "VBAREQUAL") 581, val := Value.int 42 580 }, { hash := PyData.keyHash P (Str.ofString "CIRCUMFLEXEQUAL"), key := Value.str (Str.ofString "CIRCUMFLEXEQUAL") 583, val := Value.int 43 582 }, { hash := PyData.keyHash P (Str.ofString "LEFTSHIFTEQUAL"), key := Value.str (Str.ofString "LEFTSHIFTEQUAL") 585, val := Value.int 44 584 }, { hash := PyData.keyHash P (Str.ofString "RIGHTSHIFTEQUAL"), key := Value.str (Str.ofString "RIGHTSHIFTEQUAL") 587, val := Value.int 45 586 }, { hash := PyData.keyHash P (Str.ofString "DOUBLESTAREQUAL"), key := Value.str (Str.ofString "DOUBLESTAREQUAL") 589, val := Value.int 46 588 }, { hash := PyData.keyHash P (Str.ofString "DOUBLESLASH"), key := Value.str (Str.ofString "DOUBLESLASH") 591, val := Value.int 47 590 }, { hash := PyData.keyHash P (Str.ofString "DOUBLESLASHEQUAL"), key := Value.str (Str.ofString "DOUBLESLASHEQUAL") 593, val := Value.int 48 592 }, { hash := PyData.keyHash P (Str.ofString "AT"), key := Value.str (Str.ofString "AT") 595, val := Value.int 49 594 }, { hash := PyData.keyHash P (Str.ofString "ATEQUAL"), key := Value.str (Str.ofString "ATEQUAL") 597, val := Value.int 50 596 }, { hash := PyData.keyHash P (Str.ofString "RARROW"), key := Value.str (Str.ofString "RARROW") 599, val := Value.int 51 598 }, { hash := PyData.keyHash P (Str.ofString "ELLIPSIS"), key := Value.str (Str.ofString "ELLIPSIS") 601, val := Value.int 52 600 }, { hash := PyData.keyHash P (Str.ofString "COLONEQUAL"), key := Value.str (Str.ofString "COLONEQUAL") 603, val := Value.int 53 602 }, { hash := PyData.keyHash P (Str.ofString "EXCLAMATION"), key := Value.str (Str.ofString "EXCLAMATION") 605, val := Value.int 54 604 }, { hash := PyData.keyHash P (Str.ofString "NT_OFFSET"), key := Value.str (Str.ofString "NT_OFFSET") 607, val := Value.int 256 606 }] 63 }
noncomputable def ob311 : Params → Obj := fun P => { cls := Value.type "dict", data := Data.dict #[{ hash := PyData.keyHash P (Str.ofString "__name__"), key := Value.str (Str.ofString "__name__") 165, val := Value.str (Str.ofString "cpy313.token") 508 }, { hash := PyData.keyHash P (Str.ofString "__doc__"), key := Value.str (Str.ofString "__doc__") 166, val := Value.none }, { hash := PyData.keyHash P (Str.ofString "__package__"), key := Value.str (Str.ofString "__package__") 167, val := Value.none }, { hash := PyData.keyHash P (Str.ofString "__loader__"), key := Value.str (Str.ofString "__loader__") 168, val := Value.builtin "__main__.__loader__#opaque" }, { hash := PyData.keyHash P (Str.ofString "__spec__"), key := Value.str (Str.ofString "__spec__") 169, val := Value.none }, { hash := PyData.keyHash P (Str.ofString "__annotations__"), key := Value.str (Str.ofString "__annotations__") 170, val := Value.ref 6 }, { hash := PyData.keyHash P (Str.ofString "__builtins__"), key := Value.str (Str.ofString "__builtins__") 171, val := Value.ref 4 }, { hash := PyData.keyHash P (Str.ofString "__file__"), key := Value.str (Str.ofString "__file__") 173, val := Value.str (Str.ofString "/claim/cut.py") 172 }, { hash := PyData.keyHash P (Str.ofString "__cached__"), key := Value.str (Str.ofString "__cached__") 174, val := Value.none }, { hash := PyData.keyHash P (Str.ofString "_sre"), key := Value.str (Str.ofString "_sre") 275, val := Value.ref 12 }, { hash := PyData.keyHash P (Str.ofString "_wall"), key := Value.str (Str.ofString "_wall") 288, val := Value.ref 38 }, { hash := PyData.keyHash P (Str.ofString "_name_disallowed_re"), key := Value.str (Str.ofString "_name_disallowed_re") 316, val := Value.ref 43 }, { hash := PyData.keyHash P (Str.ofString "_value_disallowed_re"), key := Value.str (Str.ofString "_value_disallowed_re") 350, val := Value.ref 48 }, { hash := PyData.keyHash P (Str.ofString "Headers"), key := Value.str (Str.ofString "Headers") 507, val := Value.ref 171 }, { hash := PyData.keyHash P (Str.ofString "LPAR"), key := Value.str (Str.ofString "LPAR") 511, val := Value.int 7 510 }, { hash := PyData.keyHash P (Str.ofString "RPAR"), key := Value.str (Str.ofString "RPAR") 513, val := Value.int 8 512 }, { hash := PyData.keyHash P (Str.ofString "LSQB"), key := Value.str (Str.ofString "LSQB") 515, val := Value.int 9 514 }, { hash := PyData.keyHash P (Str.ofString "RSQB"), key := Value.str (Str.ofString "RSQB") 517, val := Value.int 10 516 }, { hash := PyData.keyHash P (Str.ofString "COLON"), key := Value.str (Str.ofString "COLON") 519, val := Value.int 11 518 }, { hash := PyData.keyHash P (Str.ofString "COMMA"), key := Value.str (Str.ofString "COMMA") 521, val := Value.int 12 520 }, { hash := PyData.keyHash P (Str.ofString "SEMI"), key := Value.str (Str.ofString "SEMI") 523, val := Value.int 13 522 }, { hash := PyData.keyHash P (Str.ofString "PLUS"), key := Value.str (Str.ofString "PLUS") 525, val := Value.int 14 524 }, { hash := PyData.keyHash P (Str.ofString "MINUS"), key := Value.str (Str.ofString "MINUS") 527, val := Value.int 15 526 }, { hash := PyData.keyHash P (Str.ofString "STAR"), key := Value.str (Str.ofString "STAR") 529, val := Value.int 16 528 }, { hash := PyData.keyHash P (Str.ofString "SLASH"), key := Value.str (Str.ofString "SLASH") 531, val := Value.int 17 530 }, { hash := PyData.keyHash P (Str.ofString "VBAR"), key := Value.str (Str.ofString "VBAR") 533, val := Value.int 18 532 }, { hash := PyData.keyHash P (Str.ofString "AMPER"), key := Value.str (Str.ofString "AMPER") 535, val := Value.int 19 534 }, { hash := PyData.keyHash P (Str.ofString "LESS"), key := Value.str (Str.ofString "LESS") 537, val := Value.int 20 536 }, { hash := PyData.keyHash P (Str.ofString "GREATER"), key := Value.str (Str.ofString "GREATER") 539, val := Value.int 21 538 }, { hash := PyData.keyHash P (Str.ofString "EQUAL"), key := Value.str (Str.ofString "EQUAL") 541, val := Value.int 22 540 }, { hash := PyData.keyHash P (Str.ofString "DOT"), key := Value.str (Str.ofString "DOT") 543, val := Value.int 23 542 }, { hash := PyData.keyHash P (Str.ofString "PERCENT"), key := Value.str (Str.ofString "PERCENT") 545, val := Value.int 24 544 }, { hash := PyData.keyHash P (Str.ofString "LBRACE"), key := Value.str (Str.ofString "LBRACE") 547, val := Value.int 25 546 }, { hash := PyData.keyHash P (Str.ofString "RBRACE"), key := Value.str (Str.ofString "RBRACE") 549, val := Value.int 26 548 }, { hash := PyData.keyHash P (Str.ofString "EQEQUAL"), key := Value.str (Str.ofString "EQEQUAL") 551, val := Value.int 27 550 }, { hash := PyData.keyHash P (Str.ofString "NOTEQUAL"), key := Value.str (Str.ofString "NOTEQUAL") 553, val := Value.int 28 552 }, { hash := PyData.keyHash P (Str.ofString "LESSEQUAL"), key := Value.str (Str.ofString "LESSEQUAL") 555, val := Value.int 29 554 }, { hash := PyData.keyHash P (Str.ofString "GREATEREQUAL"), key := Value.str (Str.ofString "GREATEREQUAL") 557, val := Value.int 30 556 }, { hash := PyData.keyHash P (Str.ofString "TILDE"), key := Value.str (Str.ofString "TILDE") 559, val := Value.int 31 558 }, { hash := PyData.keyHash P (Str.ofString "CIRCUMFLEX"), key := Value.str (Str.ofString "CIRCUMFLEX") 561, val := Value.int 32 560 }, { hash := PyData.keyHash P (Str.ofString "LEFTSHIFT"), key := Value.str (Str.ofString "LEFTSHIFT") 563, val := Value.int 33 562 }, { hash := PyData.keyHash P (Str.ofString "RIGHTSHIFT"), key := Value.str (Str.ofString "RIGHTSHIFT") 565, val := Value.int 34 564 }, { hash := PyData.keyHash P (Str.ofString "DOUBLESTAR"), key := Value.str (Str.ofString "DOUBLESTAR") 567, val := Value.int 35 566 }, { hash := PyData.keyHash P (Str.ofString "PLUSEQUAL"), key := Value.str (Str.ofString "PLUSEQUAL") 569, val := Value.int 36 568 }, { hash := PyData.keyHash P (Str.ofString "MINEQUAL"), key := Value.str (Str.ofString "MINEQUAL") 571, val := Value.int 37 570 }, { hash := PyData.keyHash P (Str.ofString "STAREQUAL"), key := Value.str (Str.ofString "STAREQUAL") 573, val := Value.int 38 572 }, { hash := PyData.keyHash P (Str.ofString "SLASHEQUAL"), key := Value.str (Str.ofString "SLASHEQUAL") 575, val := Value.int 39 574 }, { hash := PyData.keyHash P (Str.ofString "PERCENTEQUAL"), key := Value.str (Str.ofString "PERCENTEQUAL") 577, val := Value.int 40 576 }, { hash := PyData.keyHash P (Str.ofString "AMPEREQUAL"), key := Value.str (Str.ofString "AMPEREQUAL") 579, val := Value.int 41 578 }, { hash := PyData.keyHash P (Str.ofString "VBAREQUAL"), key := Value.str (Str.ofString "VBAREQUAL") 581, val := Value.int 42 580 }, { hash := PyData.keyHash P (Str.ofString "CIRCUMFLEXEQUAL"), key := Value.str (Str.ofString "CIRCUMFLEXEQUAL") 583, val := Value.int 43 582 }, { hash := PyData.keyHash P (Str.ofString "LEFTSHIFTEQUAL"), key := Value.str (Str.ofString "LEFTSHIFTEQUAL") 585, val := Value.int 44 584 }, { hash := PyData.keyHash P (Str.ofString "RIGHTSHIFTEQUAL"), key := Value.str (Str.ofString "RIGHTSHIFTEQUAL") 587, val := Value.int 45 586 }, { hash := PyData.keyHash P (Str.ofString "DOUBLESTAREQUAL"), key := Value.str (Str.ofString "DOUBLESTAREQUAL") 589, val := Value.int 46 588 }, { hash := PyData.keyHash P (Str.ofString "DOUBLESLASH"), key := Value.str (Str.ofString "DOUBLESLASH") 591, val := Value.int 47 590 }, { hash := PyData.keyHash P (Str.ofString "DOUBLESLASHEQUAL"), key := Value.str (Str.ofString "DOUBLESLASHEQUAL") 593, val := Value.int 48 592 }, { hash := PyData.keyHash P (Str.ofString "AT"), key := Value.str (Str.ofString "AT") 595, val := Value.int 49 594 }, { hash := PyData.keyHash P (Str.ofString "ATEQUAL"), key := Value.str (Str.ofString "ATEQUAL") 597, val := Value.int 50 596 }, { hash := PyData.keyHash P (Str.ofString "RARROW"), key := Value.str (Str.ofString "RARROW") 599, val := Value.int 51 598 }, { hash := PyData.keyHash P (Str.ofString "ELLIPSIS"), key := Value.str (Str.ofString "ELLIPSIS") 601, val := Value.int 52 600 }, { hash := PyData.keyHash P (Str.ofString "COLONEQUAL"), key := Value.str (Str.ofString "COLONEQUAL") 603, val := Value.int 53 602 }, { hash := PyData.keyHash P (Str.ofString "EXCLAMATION"), key := Value.str (Str.ofString "EXCLAMATION") 605, val := Value.int 54 604 }, { hash := PyData.keyHash P (Str.ofString "NT_OFFSET"), key := Value.str (Str.ofString "NT_OFFSET") 607, val := Value.int 256 606 }, { hash := PyData.keyHash P (Str.ofString "EXACT_TOKEN_TYPES"), key := Value.str (Str.ofString "EXACT_TOKEN_TYPES") 704, val := Value.ref 176 }] 64 }
noncomputable def tree73 : Params → BT := fun P => BT.node (ob41 P) (BT.node (ob42 P) (BT.node (ob44 P) (BT.node (ob48 P) (BT.node (ob56 P) (BT.node (ob72 P) BT.nil BT.nil) BT.nil) (BT.node (ob64 P) BT.nil BT.nil)) (BT.node (ob52 P) (BT.node (ob60 P) BT.nil BT.nil) (BT.node (ob68 P) BT.nil BT.nil))) (BT.node (ob46 P) (BT.node (ob50 P) (BT.node (ob58 P) BT.nil BT.nil) (BT.node (ob66 P) BT.nil BT.nil)) (BT.node (ob54 P) (BT.node (ob62 P) BT.nil BT.nil) (BT.node (ob70 P) BT.nil BT.nil)))) (BT.node (ob43 P) (BT.node (ob45 P) (BT.node (ob49 P) (BT.node (ob57 P) BT.nil BT.nil) (BT.node (ob65 P) BT.nil BT.nil)) (BT.node (ob53 P) (BT.node (ob61 P) BT.nil BT.nil) (BT.node (ob69 P) BT.nil BT.nil))) (BT.node (ob47 P) (BT.node (ob51 P) (BT.node (ob59 P) BT.nil BT.nil) (BT.node (ob67 P) BT.nil BT.nil)) (BT.node (ob55 P) (BT.node (ob63 P) BT.nil BT.nil) (BT.node (ob71 P) BT.nil BT.nil))))
noncomputable def tree93 : Params → BT := fun P => BT.node (ob41 P) (BT.node (ob42 P) (BT.node (ob75 P) (BT.node (ob48 P) (BT.node (ob56 P) (BT.node (ob72 P) BT.nil BT.nil) (BT.node (ob92 P) BT.nil BT.nil)) (BT.node (ob64 P) (BT.node (ob84 P) BT.nil BT.nil) BT.nil)) (BT.node (ob52 P) (BT.node (ob60 P) (BT.node (ob80 P) BT.nil BT.nil) BT.nil) (BT.node (ob68 P) (BT.node (ob88 P) BT.nil BT.nil) BT.nil))) (BT.node (ob46 P) (BT.node (ob50 P) (BT.node (ob58 P) (BT.node (ob78 P) BT.nil BT.nil) BT.nil) (BT.node (ob66 P) (BT.node (ob86 P) BT.nil BT.nil) BT.nil)) (BT.node (ob54 P) (BT.node (ob62 P) (BT.node (ob82 P) BT.nil BT.nil) BT.nil) (BT.node (ob76 P) (BT.node (ob90 P) BT.nil BT.nil) BT.nil)))) (BT.node (ob43 P) (BT.node (ob45 P) (BT.node (ob49 P) (BT.node (ob57 P) (BT.node (ob77 P) BT.nil BT.nil) (BT.node (ob93 P) BT.nil BT.nil)) (BT.node (ob65 P) (BT.node (ob85 P) BT.nil BT.nil) BT.nil)) (BT.node (ob53 P) (BT.node (ob61 P) (BT.node (ob81 P) BT.nil BT.nil) BT.nil) (BT.node (ob69 P) (BT.node (ob89 P) BT.nil BT.nil) BT.nil))) (BT.node (ob47 P) (BT.node (ob51 P) (BT.node (ob59 P) (BT.node (ob79 P) BT.nil BT.nil) BT.nil) (BT.node (ob67 P) (BT.node (ob87 P) BT.nil BT.nil) BT.nil)) (BT.node (ob55 P) (BT.node (ob63 P) (BT.node (ob83 P) BT.nil BT.nil) BT.nil) (BT.node (ob71 P) (BT.node (ob91 P) BT.nil BT.nil) BT.nil))))
noncomputable def tree222 : Params → BT := fun P => BT.node (ob41 P) (BT.node (ob42 P) (BT.node (ob94 P) (BT.node (ob48 P) (BT.node (ob56 P) (BT.node (ob72 P) (BT.node (ob110 P) (BT.node (ob174 P) BT.nil BT.nil) BT.nil) (BT.node (ob142 P) (BT.node (ob206 P) BT.nil BT.nil) BT.nil)) (BT.node (ob92 P) (BT.node (ob126 P) (BT.node (ob190 P) BT.nil BT.nil) BT.nil) (BT.node (ob158 P) (BT.node (ob222 P) BT.nil BT.nil) BT.nil))) (BT.node (ob64 P) (BT.node (ob84 P) (BT.node (ob118 P) (BT.node (ob182 P) BT.nil BT.nil) BT.nil) (BT.node (ob150 P) (BT.node (ob214 P) BT.nil BT.nil) BT.nil)) (BT.node (ob102 P) (BT.node (ob134 P) (BT.node (ob198 P) BT.nil BT.nil) BT.nil) (BT.node (ob166 P) BT.nil BT.nil)))) (BT.node (ob52 P) (BT.node (ob60 P) (BT.node (ob80 P) (BT.node (ob114 P) (BT.node (ob178 P) BT.nil BT.nil) BT.nil) (BT.node (ob146 P) (BT.node (ob210 P) BT.nil BT.nil) BT.nil)) (BT.node (ob98 P) (BT.node (ob130 P) (BT.node (ob194 P) BT.nil BT.nil) BT.nil) (BT.node (ob162 P) BT.nil BT.nil))) (BT.node (ob68 P) (BT.node (ob88 P) (BT.node (ob122 P) (BT.node (ob186 P) BT.nil BT.nil) BT.nil) (BT.node (ob154 P) (BT.node (ob218 P) BT.nil BT.nil) BT.nil)) (BT.node (ob106 P) (BT.node (ob138 P) (BT.node (ob202 P) BT.nil BT.nil) BT.nil) (BT.node (ob170 P) BT.nil BT.nil))))) (BT.node (ob46 P) (BT.node (ob50 P) (BT.node (ob58 P) (BT.node (ob78 P) (BT.node (ob112 P) (BT.node (ob176 P) BT.nil BT.nil) BT.nil) (BT.node (ob144 P) (BT.node (ob208 P) BT.nil BT.nil) BT.nil)) (BT.node (ob96 P) (BT.node (ob128 P) (BT.node (ob192 P) BT.nil BT.nil) BT.nil) (BT.node (ob160 P) BT.nil BT.nil))) (BT.node (ob66 P) (BT.node (ob86 P) (BT.node (ob120 P) (BT.node (ob184 P) BT.nil BT.nil) BT.nil) (BT.node (ob152 P) (BT.node (ob216 P) BT.nil BT.nil) BT.nil)) (BT.node (ob104 P) (BT.node (ob136 P) (BT.node (ob200 P) BT.nil BT.nil) BT.nil) (BT.node (ob168 P) BT.nil BT.nil)))) (BT.node (ob54 P) (BT.node (ob62 P) (BT.node (ob82 P) (BT.node (ob116 P) (BT.node (ob180 P) BT.nil BT.nil) BT.nil) (BT.node (ob148 P) (BT.node (ob212 P) BT.nil BT.nil) BT.nil)) (BT.node (ob100 P) (BT.node (ob132 P) (BT.node (ob196 P) BT.nil BT.nil) BT.nil) (BT.node (ob164 P) BT.nil BT.nil))) (BT.node (ob95 P) (BT.node (ob90 P) (BT.node (ob124 P) (BT.node (ob188 P) BT.nil BT.nil) BT.nil) (BT.node (ob156 P) (BT.node (ob220 P) BT.nil BT.nil) BT.nil)) (BT.node (ob108 P) (BT.node (ob140 P) (BT.node (ob204 P) BT.nil BT.nil) BT.nil) (BT.node (ob172 P) BT.nil BT.nil)))))) (BT.node (ob43 P) (BT.node (ob45 P) (BT.node (ob49 P) (BT.node (ob57 P) (BT.node (ob77 P) (BT.node (ob111 P) (BT.node (ob175 P) BT.nil BT.nil) BT.nil) (BT.node (ob143 P) (BT.node (ob207 P) BT.nil BT.nil) BT.nil)) (BT.node (ob93 P) (BT.node (ob127 P) (BT.node (ob191 P) BT.nil BT.nil) BT.nil) (BT.node (ob159 P) BT.nil BT.nil))) (BT.node (ob65 P) (BT.node (ob85 P) (BT.node (ob119 P) (BT.node (ob183 P) BT.nil BT.nil) BT.nil) (BT.node (ob151 P) (BT.node (ob215 P) BT.nil BT.nil) BT.nil)) (BT.node (ob103 P) (BT.node (ob135 P) (BT.node (ob199 P) BT.nil BT.nil) BT.nil) (BT.node (ob167 P) BT.nil BT.nil)))) (BT.node (ob53 P) (BT.node (ob61 P) (BT.node (ob81 P) (BT.node (ob115 P) (BT.node (ob179 P) BT.nil BT.nil) BT.nil) (BT.node (ob147 P) (BT.node (ob211 P) BT.nil BT.nil) BT.nil)) (BT.node (ob99 P) (BT.node (ob131 P) (BT.node (ob195 P) BT.nil BT.nil) BT.nil) (BT.node (ob163 P) BT.nil BT.nil))) (BT.node (ob69 P) (BT.node (ob89 P) (BT.node (ob123 P) (BT.node (ob187 P) BT.nil BT.nil) BT.nil) (BT.node (ob155 P) (BT.node (ob219 P) BT.nil BT.nil) BT.nil)) (BT.node (ob107 P) (BT.node (ob139 P) (BT.node (ob203 P) BT.nil BT.nil) BT.nil) (BT.node (ob171 P) BT.nil BT.nil))))) (BT.node (ob47 P) (BT.node (ob51 P) (BT.node (ob59 P) (BT.node (ob79 P) (BT.node (ob113 P) (BT.node (ob177 P) BT.nil BT.nil) BT.nil) (BT.node (ob145 P) (BT.node (ob209 P) BT.nil BT.nil) BT.nil)) (BT.node (ob97 P) (BT.node (ob129 P) (BT.node (ob193 P) BT.nil BT.nil) BT.nil) (BT.node (ob161 P) BT.nil BT.nil))) (BT.node (ob67 P) (BT.node (ob87 P) (BT.node (ob121 P) (BT.node (ob185 P) BT.nil BT.nil) BT.nil) (BT.node (ob153 P) (BT.node (ob217 P) BT.nil BT.nil) BT.nil)) (BT.node (ob105 P) (BT.node (ob137 P) (BT.node (ob201 P) BT.nil BT.nil) BT.nil) (BT.node (ob169 P) BT.nil BT.nil)))) (BT.node (ob55 P) (BT.node (ob63 P) (BT.node (ob83 P) (BT.node (ob117 P) (BT.node (ob181 P) BT.nil BT.nil) BT.nil) (BT.node (ob149 P) (BT.node (ob213 P) BT.nil BT.nil) BT.nil)) (BT.node (ob101 P) (BT.node (ob133 P) (BT.node (ob197 P) BT.nil BT.nil) BT.nil) (BT.node (ob165 P) BT.nil BT.nil))) (BT.node (ob71 P) (BT.node (ob91 P) (BT.node (ob125 P) (BT.node (ob189 P) BT.nil BT.nil) BT.nil) (BT.node (ob157 P) (BT.node (ob221 P) BT.nil BT.nil) BT.nil)) (BT.node (ob109 P) (BT.node (ob141 P) (BT.node (ob205 P) BT.nil BT.nil) BT.nil) (BT.node (ob173 P) BT.nil BT.nil))))))
noncomputable def tree307 : Params → BT := fun P => BT.node (ob41 P) (BT.node (ob42 P) (BT.node (ob307 P) (BT.node (ob48 P) (BT.node (ob56 P) (BT.node (ob72 P) (BT.node (ob110 P) (BT.node (ob174 P) BT.nil BT.nil) BT.nil) (BT.node (ob142 P) (BT.node (ob206 P) BT.nil BT.nil) BT.nil)) (BT.node (ob92 P) (BT.node (ob126 P) (BT.node (ob190 P) BT.nil BT.nil) BT.nil) (BT.node (ob158 P) (BT.node (ob222 P) BT.nil BT.nil) BT.nil))) (BT.node (ob64 P) (BT.node (ob84 P) (BT.node (ob118 P) (BT.node (ob182 P) BT.nil BT.nil) BT.nil) (BT.node (ob150 P) (BT.node (ob214 P) BT.nil BT.nil) BT.nil)) (BT.node (ob102 P) (BT.node (ob134 P) (BT.node (ob198 P) BT.nil BT.nil) BT.nil) (BT.node (ob166 P) BT.nil BT.nil)))) (BT.node (ob52 P) (BT.node (ob60 P) (BT.node (ob80 P) (BT.node (ob114 P) (BT.node (ob178 P) BT.nil BT.nil) BT.nil) (BT.node (ob146 P) (BT.node (ob210 P) BT.nil BT.nil) BT.nil)) (BT.node (ob98 P) (BT.node (ob130 P) (BT.node (ob194 P) BT.nil BT.nil) BT.nil) (BT.node (ob162 P) BT.nil BT.nil))) (BT.node (ob68 P) (BT.node (ob88 P) (BT.node (ob122 P) (BT.node (ob186 P) BT.nil BT.nil) BT.nil) (BT.node (ob154 P) (BT.node (ob218 P) BT.nil BT.nil) BT.nil)) (BT.node (ob106 P) (BT.node (ob138 P) (BT.node (ob202 P) BT.nil BT.nil) BT.nil) (BT.node (ob170 P) BT.nil BT.nil))))) (BT.node (ob46 P) (BT.node (ob50 P) (BT.node (ob58 P) (BT.node (ob78 P) (BT.node (ob112 P) (BT.node (ob176 P) BT.nil BT.nil) BT.nil) (BT.node (ob144 P) (BT.node (ob208 P) BT.nil BT.nil) BT.nil)) (BT.node (ob96 P) (BT.node (ob128 P) (BT.node (ob192 P) BT.nil BT.nil) BT.nil) (BT.node (ob160 P) BT.nil BT.nil))) (BT.node (ob66 P) (BT.node (ob86 P) (BT.node (ob120 P) (BT.node (ob184 P) BT.nil BT.nil) BT.nil) (BT.node (ob152 P) (BT.node (ob216 P) BT.nil BT.nil) BT.nil)) (BT.node (ob104 P) (BT.node (ob136 P) (BT.node (ob200 P) BT.nil BT.nil) BT.nil) (BT.node (ob168 P) BT.nil BT.nil)))) (BT.node (ob54 P) (BT.node (ob62 P) (BT.node (ob82 P) (BT.node (ob116 P) (BT.node (ob180 P) BT.nil BT.nil) BT.nil) (BT.node (ob148 P) (BT.node (ob212 P) BT.nil BT.nil) BT.nil)) (BT.node (ob100 P) (BT.node (ob132 P) (BT.node (ob196 P) BT.nil BT.nil) BT.nil) (BT.node (ob164 P) BT.nil BT.nil))) (BT.node (ob95 P) (BT.node (ob90 P) (BT.node (ob124 P) (BT.node (ob188 P) BT.nil BT.nil) BT.nil) (BT.node (ob156 P) (BT.node (ob220 P) BT.nil BT.nil) BT.nil)) (BT.node (ob108 P) (BT.node (ob140 P) (BT.node (ob204 P) BT.nil BT.nil) BT.nil) (BT.node (ob172 P) BT.nil BT.nil)))))) (BT.node (ob43 P) (BT.node (ob45 P) (BT.node (ob49 P) (BT.node (ob57 P) (BT.node (ob77 P) (BT.node (ob111 P) (BT.node (ob175 P) BT.nil BT.nil) BT.nil) (BT.node (ob143 P) (BT.node (ob207 P) BT.nil BT.nil) BT.nil)) (BT.node (ob93 P) (BT.node (ob127 P) (BT.node (ob191 P) BT.nil BT.nil) BT.nil) (BT.node (ob159 P) BT.nil BT.nil))) (BT.node (ob65 P) (BT.node (ob85 P) (BT.node (ob119 P) (BT.node (ob183 P) BT.nil BT.nil) BT.nil) (BT.node (ob151 P) (BT.node (ob215 P) BT.nil BT.nil) BT.nil)) (BT.node (ob103 P) (BT.node (ob135 P) (BT.node (ob199 P) BT.nil BT.nil) BT.nil) (BT.node (ob167 P) BT.nil BT.nil)))) (BT.node (ob53 P) (BT.node (ob61 P) (BT.node (ob81 P) (BT.node (ob115 P) (BT.node (ob179 P) BT.nil BT.nil) BT.nil) (BT.node (ob147 P) (BT.node (ob211 P) BT.nil BT.nil) BT.nil)) (BT.node (ob99 P) (BT.node (ob131 P) (BT.node (ob195 P) BT.nil BT.nil) BT.nil) (BT.node (ob163 P) BT.nil BT.nil))) (BT.node (ob69 P) (BT.node (ob89 P) (BT.node (ob123 P) (BT.node (ob187 P) BT.nil BT.nil) BT.nil) (BT.node (ob155 P) (BT.node (ob219 P) BT.nil BT.nil) BT.nil)) (BT.node (ob107 P) (BT.node (ob139 P) (BT.node (ob203 P) BT.nil BT.nil) BT.nil) (BT.node (ob171 P) BT.nil BT.nil))))) (BT.node (ob47 P) (BT.node (ob51 P) (BT.node (ob59 P) (BT.node (ob79 P) (BT.node (ob113 P) (BT.node (ob177 P) BT.nil BT.nil) BT.nil) (BT.node (ob145 P) (BT.node (ob209 P) BT.nil BT.nil) BT.nil)) (BT.node (ob97 P) (BT.node (ob129 P) (BT.node (ob193 P) BT.nil BT.nil) BT.nil) (BT.node (ob161 P) BT.nil BT.nil))) (BT.node (ob67 P) (BT.node (ob87 P) (BT.node (ob121 P) (BT.node (ob185 P) BT.nil BT.nil) BT.nil) (BT.node (ob153 P) (BT.node (ob217 P) BT.nil BT.nil) BT.nil)) (BT.node (ob105 P) (BT.node (ob137 P) (BT.node (ob201 P) BT.nil BT.nil) BT.nil) (BT.node (ob169 P) BT.nil BT.nil)))) (BT.node (ob55 P) (BT.node (ob63 P) (BT.node (ob83 P) (BT.node (ob117 P) (BT.node (ob181 P) BT.nil BT.nil) BT.nil) (BT.node (ob149 P) (BT.node (ob213 P) BT.nil BT.nil) BT.nil)) (BT.node (ob101 P) (BT.node (ob133 P) (BT.node (ob197 P) BT.nil BT.nil) BT.nil) (BT.node (ob165 P) BT.nil BT.nil))) (BT.node (ob71 P) (BT.node (ob91 P) (BT.node (ob125 P) (BT.node (ob189 P) BT.nil BT.nil) BT.nil) (BT.node (ob157 P) (BT.node (ob221 P) BT.nil BT.nil) BT.nil)) (BT.node (ob109 P) (BT.node (ob141 P) (BT.node (ob205 P) BT.nil BT.nil) BT.nil) (BT.node (ob173 P) BT.nil BT.nil))))))
noncomputable def tree309 : Params → BT := fun P => BT.node (ob41 P) (BT.node (ob42 P) (BT.node (ob309 P) (BT.node (ob48 P) (BT.node (ob56 P) (BT.node (ob72 P) (BT.node (ob110 P) (BT.node (ob174 P) BT.nil BT.nil) BT.nil) (BT.node (ob142 P) (BT.node (ob206 P) BT.nil BT.nil) BT.nil)) (BT.node (ob92 P) (BT.node (ob126 P) (BT.node (ob190 P) BT.nil BT.nil) BT.nil) (BT.node (ob158 P) (BT.node (ob222 P) BT.nil BT.nil) BT.nil))) (BT.node (ob64 P) (BT.node (ob84 P) (BT.node (ob118 P) (BT.node (ob182 P) BT.nil BT.nil) BT.nil) (BT.node (ob150 P) (BT.node (ob214 P) BT.nil BT.nil) BT.nil)) (BT.node (ob102 P) (BT.node (ob134 P) (BT.node (ob198 P) BT.nil BT.nil) BT.nil) (BT.node (ob166 P) BT.nil BT.nil)))) (BT.node (ob52 P) (BT.node (ob60 P) (BT.node (ob80 P) (BT.node (ob114 P) (BT.node (ob178 P) BT.nil BT.nil) BT.nil) (BT.node (ob146 P) (BT.node (ob210 P) BT.nil BT.nil) BT.nil)) (BT.node (ob98 P) (BT.node (ob130 P) (BT.node (ob194 P) BT.nil BT.nil) BT.nil) (BT.node (ob162 P) BT.nil BT.nil))) (BT.node (ob68 P) (BT.node (ob88 P) (BT.node (ob122 P) (BT.node (ob186 P) BT.nil BT.nil) BT.nil) (BT.node (ob154 P) (BT.node (ob218 P) BT.nil BT.nil) BT.nil)) (BT.node (ob106 P) (BT.node (ob138 P) (BT.node (ob202 P) BT.nil BT.nil) BT.nil) (BT.node (ob170 P) BT.nil BT.nil))))) (BT.node (ob46 P) (BT.node (ob50 P) (BT.node (ob58 P) (BT.node (ob78 P) (BT.node (ob112 P) (BT.node (ob176 P) BT.nil BT.nil) BT.nil) (BT.node (ob144 P) (BT.node (ob208 P) BT.nil BT.nil) BT.nil)) (BT.node (ob96 P) (BT.node (ob128 P) (BT.node (ob192 P) BT.nil BT.nil) BT.nil) (BT.node (ob160 P) BT.nil BT.nil))) (BT.node (ob66 P) (BT.node (ob86 P) (BT.node (ob120 P) (BT.node (ob184 P) BT.nil BT.nil) BT.nil) (BT.node (ob152 P) (BT.node (ob216 P) BT.nil BT.nil) BT.nil)) (BT.node (ob104 P) (BT.node (ob136 P) (BT.node (ob200 P) BT.nil BT.nil) BT.nil) (BT.node (ob168 P) BT.nil BT.nil)))) (BT.node (ob54 P) (BT.node (ob62 P) (BT.node (ob82 P) (BT.node (ob116 P) (BT.node (ob180 P) BT.nil BT.nil) BT.nil) (BT.node (ob148 P) (BT.node (ob212 P) BT.nil BT.nil) BT.nil)) (BT.node (ob100 P) (BT.node (ob132 P) (BT.node (ob196 P) BT.nil BT.nil) BT.nil) (BT.node (ob164 P) BT.nil BT.nil))) (BT.node (ob95 P) (BT.node (ob90 P) (BT.node (ob124 P) (BT.node (ob188 P) BT.nil BT.nil) BT.nil) (BT.node (ob156 P) (BT.node (ob220 P) BT.nil BT.nil) BT.nil)) (BT.node (ob108 P) (BT.node (ob140 P) (BT.node (ob204 P) BT.nil BT.nil) BT.nil) (BT.node (ob172 P) BT.nil BT.nil)))))) (BT.node (ob43 P) (BT.node (ob45 P) (BT.node (ob49 P) (BT.node (ob57 P) (BT.node (ob77 P) (BT.node (ob111 P) (BT.node (ob175 P) BT.nil BT.nil) BT.nil) (BT.node (ob143 P) (BT.node (ob207 P) BT.nil BT.nil) BT.nil)) (BT.node (ob93 P) (BT.node (ob127 P) (BT.node (ob191 P) BT.nil BT.nil) BT.nil) (BT.node (ob159 P) BT.nil BT.nil))) (BT.node (ob65 P) (BT.node (ob85 P) (BT.node (ob119 P) (BT.node (ob183 P) BT.nil BT.nil) BT.nil) (BT.node (ob151 P) (BT.node (ob215 P) BT.nil BT.nil) BT.nil)) (BT.node (ob103 P) (BT.node (ob135 P) (BT.node (ob199 P) BT.nil BT.nil) BT.nil) (BT.node (ob167 P) BT.nil BT.nil)))) (BT.node (ob53 P) (BT.node (ob61 P) (BT.node (ob81 P) (BT.node (ob115 P) (BT.node (ob179 P) BT.nil BT.nil) BT.nil) (BT.node (ob147 P) (BT.node (ob211 P) BT.nil BT.nil) BT.nil)) (BT.node (ob99 P) (BT.node (ob131 P) (BT.node (ob195 P) BT.nil BT.nil) BT.nil) (BT.node (ob163 P) BT.nil BT.nil))) (BT.node (ob69 P) (BT.node (ob89 P) (BT.node (ob123 P) (BT.node (ob187 P) BT.nil BT.nil) BT.nil) (BT.node (ob155 P) (BT.node (ob219 P) BT.nil BT.nil) BT.nil)) (BT.node (ob107 P) (BT.node (ob139 P) (BT.node (ob203 P) BT.nil BT.nil) BT.nil) (BT.node (ob171 P) BT.nil BT.nil))))) (BT.node (ob47 P) (BT.node (ob51 P) (BT.node (ob59 P) (BT.node (ob79 P) (BT.node (ob113 P) (BT.node (ob177 P) BT.nil BT.nil) BT.nil) (BT.node (ob145 P) (BT.node (ob209 P) BT.nil BT.nil) BT.nil)) (BT.node (ob97 P) (BT.node (ob129 P) (BT.node (ob193 P) BT.nil BT.nil) BT.nil) (BT.node (ob161 P) BT.nil BT.nil))) (BT.node (ob67 P) (BT.node (ob87 P) (BT.node (ob121 P) (BT.node (ob185 P) BT.nil BT.nil) BT.nil) (BT.node (ob153 P) (BT.node (ob217 P) BT.nil BT.nil) BT.nil)) (BT.node (ob105 P) (BT.node (ob137 P) (BT.node (ob201 P) BT.nil BT.nil) BT.nil) (BT.node (ob169 P) BT.nil BT.nil)))) (BT.node (ob55 P) (BT.node (ob63 P) (BT.node (ob83 P) (BT.node (ob117 P) (BT.node (ob181 P) BT.nil BT.nil) BT.nil) (BT.node (ob149 P) (BT.node (ob213 P) BT.nil BT.nil) BT.nil)) (BT.node (ob101 P) (BT.node (ob133 P) (BT.node (ob197 P) BT.nil BT.nil) BT.nil) (BT.node (ob165 P) BT.nil BT.nil))) (BT.node (ob71 P) (BT.node (ob91 P) (BT.node (ob125 P) (BT.node (ob189 P) BT.nil BT.nil) BT.nil) (BT.node (ob157 P) (BT.node (ob221 P) BT.nil BT.nil) BT.nil)) (BT.node (ob109 P) (BT.node (ob141 P) (BT.node (ob205 P) BT.nil BT.nil) BT.nil) (BT.node (ob173 P) BT.nil BT.nil))))))
noncomputable def tree314 : Params → BT := fun P => BT.node (ob41 P) (BT.node (ob42 P) (BT.node (ob311 P) (BT.node (ob48 P) (BT.node (ob56 P) (BT.node (ob72 P) (BT.node (ob110 P) (BT.node (ob174 P) BT.nil BT.nil) BT.nil) (BT.node (ob142 P) (BT.node (ob206 P) BT.nil BT.nil) BT.nil)) (BT.node (ob92 P) (BT.node (ob126 P) (BT.node (ob190 P) BT.nil BT.nil) BT.nil) (BT.node (ob158 P) (BT.node (ob222 P) BT.nil BT.nil) BT.nil))) (BT.node (ob64 P) (BT.node (ob84 P) (BT.node (ob118 P) (BT.node (ob182 P) BT.nil BT.nil) BT.nil) (BT.node (ob150 P) (BT.node (ob214 P) BT.nil BT.nil) BT.nil)) (BT.node (ob102 P) (BT.node (ob134 P) (BT.node (ob198 P) BT.nil BT.nil) BT.nil) (BT.node (ob166 P) BT.nil BT.nil)))) (BT.node (ob52 P) (BT.node (ob60 P) (BT.node (ob80 P) (BT.node (ob114 P) (BT.node (ob178 P) BT.nil BT.nil) BT.nil) (BT.node (ob146 P) (BT.node (ob210 P) BT.nil BT.nil) BT.nil)) (BT.node (ob98 P) (BT.node (ob130 P) (BT.node (ob194 P) BT.nil BT.nil) BT.nil) (BT.node (ob162 P) BT.nil BT.nil))) (BT.node (ob68 P) (BT.node (ob88 P) (BT.node (ob122 P) (BT.node (ob186 P) BT.nil BT.nil) BT.nil) (BT.node (ob154 P) (BT.node (ob218 P) BT.nil BT.nil) BT.nil)) (BT.node (ob106 P) (BT.node (ob138 P) (BT.node (ob202 P) BT.nil BT.nil) BT.nil) (BT.node (ob170 P) BT.nil BT.nil))))) (BT.node (ob46 P) (BT.node (ob50 P) (BT.node (ob58 P) (BT.node (ob78 P) (BT.node (ob112 P) (BT.node (ob176 P) BT.nil BT.nil) BT.nil) (BT.node (ob144 P) (BT.node (ob208 P) BT.nil BT.nil) BT.nil)) (BT.node (ob96 P) (BT.node (ob128 P) (BT.node (ob192 P) BT.nil BT.nil) BT.nil) (BT.node (ob160 P) (BT.node (ob313 P) BT.nil BT.nil) BT.nil))) (BT.node (ob66 P) (BT.node (ob86 P) (BT.node (ob120 P) (BT.node (ob184 P) BT.nil BT.nil) BT.nil) (BT.node (ob152 P) (BT.node (ob216 P) BT.nil BT.nil) BT.nil)) (BT.node (ob104 P) (BT.node (ob136 P) (BT.node (ob200 P) BT.nil BT.nil) BT.nil) (BT.node (ob168 P) BT.nil BT.nil)))) (BT.node (ob54 P) (BT.node (ob62 P) (BT.node (ob82 P) (BT.node (ob116 P) (BT.node (ob180 P) BT.nil BT.nil) BT.nil) (BT.node (ob148 P) (BT.node (ob212 P) BT.nil BT.nil) BT.nil)) (BT.node (ob100 P) (BT.node (ob132 P) (BT.node (ob196 P) BT.nil BT.nil) BT.nil) (BT.node (ob164 P) BT.nil BT.nil))) (BT.node (ob95 P) (BT.node (ob90 P) (BT.node (ob124 P) (BT.node (ob188 P) BT.nil BT.nil) BT.nil) (BT.node (ob156 P) (BT.node (ob220 P) BT.nil BT.nil) BT.nil)) (BT.node (ob108 P) (BT.node (ob140 P) (BT.node (ob204 P) BT.nil BT.nil) BT.nil) (BT.node (ob172 P) BT.nil BT.nil)))))) (BT.node (ob43 P) (BT.node (ob45 P) (BT.node (ob49 P) (BT.node (ob57 P) (BT.node (ob77 P) (BT.node (ob111 P) (BT.node (ob175 P) BT.nil BT.nil) BT.nil) (BT.node (ob143 P) (BT.node (ob207 P) BT.nil BT.nil) BT.nil)) (BT.node (ob93 P) (BT.node (ob127 P) (BT.node (ob191 P) BT.nil BT.nil) BT.nil) (BT.node (ob159 P) (BT.node (ob312 P) BT.nil BT.nil) BT.nil))) (BT.node (ob65 P) (BT.node (ob85 P) (BT.node (ob119 P) (BT.node (ob183 P) BT.nil BT.nil) BT.nil) (BT.node (ob151 P) (BT.node (ob215 P) BT.nil BT.nil) BT.nil)) (BT.node (ob103 P) (BT.node (ob135 P) (BT.node (ob199 P) BT.nil BT.nil) BT.nil) (BT.node (ob167 P) BT.nil BT.nil)))) (BT.node (ob53 P) (BT.node (ob61 P) (BT.node (ob81 P) (BT.node (ob115 P) (BT.node (ob179 P) BT.nil BT.nil) BT.nil) (BT.node (ob147 P) (BT.node (ob211 P) BT.nil BT.nil) BT.nil)) (BT.node (ob99 P) (BT.node (ob131 P) (BT.node (ob195 P) BT.nil BT.nil) BT.nil) (BT.node (ob163 P) BT.nil BT.nil))) (BT.node (ob69 P) (BT.node (ob89 P) (BT.node (ob123 P) (BT.node (ob187 P) BT.nil BT.nil) BT.nil) (BT.node (ob155 P) (BT.node (ob219 P) BT.nil BT.nil) BT.nil)) (BT.node (ob107 P) (BT.node (ob139 P) (BT.node (ob203 P) BT.nil BT.nil) BT.nil) (BT.node (ob171 P) BT.nil BT.nil))))) (BT.node (ob47 P) (BT.node (ob51 P) (BT.node (ob59 P) (BT.node (ob79 P) (BT.node (ob113 P) (BT.node (ob177 P) BT.nil BT.nil) BT.nil) (BT.node (ob145 P) (BT.node (ob209 P) BT.nil BT.nil) BT.nil)) (BT.node (ob97 P) (BT.node (ob129 P) (BT.node (ob193 P) BT.nil BT.nil) BT.nil) (BT.node (ob161 P) (BT.node (ob314 P) BT.nil BT.nil) BT.nil))) (BT.node (ob67 P) (BT.node (ob87 P) (BT.node (ob121 P) (BT.node (ob185 P) BT.nil BT.nil) BT.nil) (BT.node (ob153 P) (BT.node (ob217 P) BT.nil BT.nil) BT.nil)) (BT.node (ob105 P) (BT.node (ob137 P) (BT.node (ob201 P) BT.nil BT.nil) BT.nil) (BT.node (ob169 P) BT.nil BT.nil)))) (BT.node (ob55 P) (BT.node (ob63 P) (BT.node (ob83 P) (BT.node (ob117 P) (BT.node (ob181 P) BT.nil BT.nil) BT.nil) (BT.node (ob149 P) (BT.node (ob213 P) BT.nil BT.nil) BT.nil)) (BT.node (ob101 P) (BT.node (ob133 P) (BT.node (ob197 P) BT.nil BT.nil) BT.nil) (BT.node (ob165 P) BT.nil BT.nil))) (BT.node (ob71 P) (BT.node (ob91 P) (BT.node (ob125 P) (BT.node (ob189 P) BT.nil BT.nil) BT.nil) (BT.node (ob157 P) (BT.node (ob221 P) BT.nil BT.nil) BT.nil)) (BT.node (ob109 P) (BT.node (ob141 P) (BT.node (ob205 P) BT.nil BT.nil) BT.nil) (BT.node (ob173 P) BT.nil BT.nil))))))
noncomputable def tree392 : Params → BT := fun P => BT.node (ob41 P) (BT.node (ob42 P) (BT.node (ob318 P) (BT.node (ob48 P) (BT.node (ob56 P) (BT.node (ob72 P) (BT.node (ob110 P) (BT.node (ob174 P) BT.nil BT.nil) (BT.node (ob332 P) BT.nil BT.nil)) (BT.node (ob142 P) (BT.node (ob206 P) BT.nil BT.nil) (BT.node (ob364 P) BT.nil BT.nil))) (BT.node (ob92 P) (BT.node (ob126 P) (BT.node (ob190 P) BT.nil BT.nil) (BT.node (ob348 P) BT.nil BT.nil)) (BT.node (ob158 P) (BT.node (ob222 P) BT.nil BT.nil) (BT.node (ob380 P) BT.nil BT.nil)))) (BT.node (ob64 P) (BT.node (ob84 P) (BT.node (ob118 P) (BT.node (ob182 P) BT.nil BT.nil) (BT.node (ob340 P) BT.nil BT.nil)) (BT.node (ob150 P) (BT.node (ob214 P) BT.nil BT.nil) (BT.node (ob372 P) BT.nil BT.nil))) (BT.node (ob102 P) (BT.node (ob134 P) (BT.node (ob198 P) BT.nil BT.nil) (BT.node (ob356 P) BT.nil BT.nil)) (BT.node (ob166 P) (BT.node (ob324 P) BT.nil BT.nil) (BT.node (ob388 P) BT.nil BT.nil))))) (BT.node (ob52 P) (BT.node (ob60 P) (BT.node (ob80 P) (BT.node (ob114 P) (BT.node (ob178 P) BT.nil BT.nil) (BT.node (ob336 P) BT.nil BT.nil)) (BT.node (ob146 P) (BT.node (ob210 P) BT.nil BT.nil) (BT.node (ob368 P) BT.nil BT.nil))) (BT.node (ob98 P) (BT.node (ob130 P) (BT.node (ob194 P) BT.nil BT.nil) (BT.node (ob352 P) BT.nil BT.nil)) (BT.node (ob162 P) (BT.node (ob320 P) BT.nil BT.nil) (BT.node (ob384 P) BT.nil BT.nil)))) (BT.node (ob68 P) (BT.node (ob88 P) (BT.node (ob122 P) (BT.node (ob186 P) BT.nil BT.nil) (BT.node (ob344 P) BT.nil BT.nil)) (BT.node (ob154 P) (BT.node (ob218 P) BT.nil BT.nil) (BT.node (ob376 P) BT.nil BT.nil))) (BT.node (ob106 P) (BT.node (ob138 P) (BT.node (ob202 P) BT.nil BT.nil) (BT.node (ob360 P) BT.nil BT.nil)) (BT.node (ob170 P) (BT.node (ob328 P) BT.nil BT.nil) (BT.node (ob392 P) BT.nil BT.nil)))))) (BT.node (ob46 P) (BT.node (ob50 P) (BT.node (ob58 P) (BT.node (ob78 P) (BT.node (ob112 P) (BT.node (ob176 P) BT.nil BT.nil) (BT.node (ob334 P) BT.nil BT.nil)) (BT.node (ob144 P) (BT.node (ob208 P) BT.nil BT.nil) (BT.node (ob366 P) BT.nil BT.nil))) (BT.node (ob96 P) (BT.node (ob128 P) (BT.node (ob192 P) BT.nil BT.nil) (BT.node (ob350 P) BT.nil BT.nil)) (BT.node (ob160 P) (BT.node (ob313 P) BT.nil BT.nil) (BT.node (ob382 P) BT.nil BT.nil)))) (BT.node (ob66 P) (BT.node (ob86 P) (BT.node (ob120 P) (BT.node (ob184 P) BT.nil BT.nil) (BT.node (ob342 P) BT.nil BT.nil)) (BT.node (ob152 P) (BT.node (ob216 P) BT.nil BT.nil) (BT.node (ob374 P) BT.nil BT.nil))) (BT.node (ob104 P) (BT.node (ob136 P) (BT.node (ob200 P) BT.nil BT.nil) (BT.node (ob358 P) BT.nil BT.nil)) (BT.node (ob168 P) (BT.node (ob326 P) BT.nil BT.nil) (BT.node (ob390 P) BT.nil BT.nil))))) (BT.node (ob54 P) (BT.node (ob62 P) (BT.node (ob82 P) (BT.node (ob116 P) (BT.node (ob180 P) BT.nil BT.nil) (BT.node (ob338 P) BT.nil BT.nil)) (BT.node (ob148 P) (BT.node (ob212 P) BT.nil BT.nil) (BT.node (ob370 P) BT.nil BT.nil))) (BT.node (ob100 P) (BT.node (ob132 P) (BT.node (ob196 P) BT.nil BT.nil) (BT.node (ob354 P) BT.nil BT.nil)) (BT.node (ob164 P) (BT.node (ob322 P) BT.nil BT.nil) (BT.node (ob386 P) BT.nil BT.nil)))) (BT.node (ob319 P) (BT.node (ob90 P) (BT.node (ob124 P) (BT.node (ob188 P) BT.nil BT.nil) (BT.node (ob346 P) BT.nil BT.nil)) (BT.node (ob156 P) (BT.node (ob220 P) BT.nil BT.nil) (BT.node (ob378 P) BT.nil BT.nil))) (BT.node (ob108 P) (BT.node (ob140 P) (BT.node (ob204 P) BT.nil BT.nil) (BT.node (ob362 P) BT.nil BT.nil)) (BT.node (ob172 P) (BT.node (ob330 P) BT.nil BT.nil) BT.nil)))))) (BT.node (ob43 P) (BT.node (ob45 P) (BT.node (ob49 P) (BT.node (ob57 P) (BT.node (ob77 P) (BT.node (ob111 P) (BT.node (ob175 P) BT.nil BT.nil) (BT.node (ob333 P) BT.nil BT.nil)) (BT.node (ob143 P) (BT.node (ob207 P) BT.nil BT.nil) (BT.node (ob365 P) BT.nil BT.nil))) (BT.node (ob93 P) (BT.node (ob127 P) (BT.node (ob191 P) BT.nil BT.nil) (BT.node (ob349 P) BT.nil BT.nil)) (BT.node (ob159 P) (BT.node (ob312 P) BT.nil BT.nil) (BT.node (ob381 P) BT.nil BT.nil)))) (BT.node (ob65 P) (BT.node (ob85 P) (BT.node (ob119 P) (BT.node (ob183 P) BT.nil BT.nil) (BT.node (ob341 P) BT.nil BT.nil)) (BT.node (ob151 P) (BT.node (ob215 P) BT.nil BT.nil) (BT.node (ob373 P) BT.nil BT.nil))) (BT.node (ob103 P) (BT.node (ob135 P) (BT.node (ob199 P) BT.nil BT.nil) (BT.node (ob357 P) BT.nil BT.nil)) (BT.node (ob167 P) (BT.node (ob325 P) BT.nil BT.nil) (BT.node (ob389 P) BT.nil BT.nil))))) (BT.node (ob53 P) (BT.node (ob61 P) (BT.node (ob81 P) (BT.node (ob115 P) (BT.node (ob179 P) BT.nil BT.nil) (BT.node (ob337 P) BT.nil BT.nil)) (BT.node (ob147 P) (BT.node (ob211 P) BT.nil BT.nil) (BT.node (ob369 P) BT.nil BT.nil))) (BT.node (ob99 P) (BT.node (ob131 P) (BT.node (ob195 P) BT.nil BT.nil) (BT.node (ob353 P) BT.nil BT.nil)) (BT.node (ob163 P) (BT.node (ob321 P) BT.nil BT.nil) (BT.node (ob385 P) BT.nil BT.nil)))) (BT.node (ob69 P) (BT.node (ob89 P) (BT.node (ob123 P) (BT.node (ob187 P) BT.nil BT.nil) (BT.node (ob345 P) BT.nil BT.nil)) (BT.node (ob155 P) (BT.node (ob219 P) BT.nil BT.nil) (BT.node (ob377 P) BT.nil BT.nil))) (BT.node (ob107 P) (BT.node (ob139 P) (BT.node (ob203 P) BT.nil BT.nil) (BT.node (ob361 P) BT.nil BT.nil)) (BT.node (ob171 P) (BT.node (ob329 P) BT.nil BT.nil) BT.nil))))) (BT.node (ob47 P) (BT.node (ob51 P) (BT.node (ob59 P) (BT.node (ob79 P) (BT.node (ob113 P) (BT.node (ob177 P) BT.nil BT.nil) (BT.node (ob335 P) BT.nil BT.nil)) (BT.node (ob145 P) (BT.node (ob209 P) BT.nil BT.nil) (BT.node (ob367 P) BT.nil BT.nil))) (BT.node (ob97 P) (BT.node (ob129 P) (BT.node (ob193 P) BT.nil BT.nil) (BT.node (ob351 P) BT.nil BT.nil)) (BT.node (ob161 P) (BT.node (ob314 P) BT.nil BT.nil) (BT.node (ob383 P) BT.nil BT.nil)))) (BT.node (ob67 P) (BT.node (ob87 P) (BT.node (ob121 P) (BT.node (ob185 P) BT.nil BT.nil) (BT.node (ob343 P) BT.nil BT.nil)) (BT.node (ob153 P) (BT.node (ob217 P) BT.nil BT.nil) (BT.node (ob375 P) BT.nil BT.nil))) (BT.node (ob105 P) (BT.node (ob137 P) (BT.node (ob201 P) BT.nil BT.nil) (BT.node (ob359 P) BT.nil BT.nil)) (BT.node (ob169 P) (BT.node (ob327 P) BT.nil BT.nil) (BT.node (ob391 P) BT.nil BT.nil))))) (BT.node (ob55 P) (BT.node (ob63 P) (BT.node (ob83 P) (BT.node (ob117 P) (BT.node (ob181 P) BT.nil BT.nil) (BT.node (ob339 P) BT.nil BT.nil)) (BT.node (ob149 P) (BT.node (ob213 P) BT.nil BT.nil) (BT.node (ob371 P) BT.nil BT.nil))) (BT.node (ob101 P) (BT.node (ob133 P) (BT.node (ob197 P) BT.nil BT.nil) (BT.node (ob355 P) BT.nil BT.nil)) (BT.node (ob165 P) (BT.node (ob323 P) BT.nil BT.nil) (BT.node (ob387 P) BT.nil BT.nil)))) (BT.node (ob71 P) (BT.node (ob91 P) (BT.node (ob125 P) (BT.node (ob189 P) BT.nil BT.nil) (BT.node (ob347 P) BT.nil BT.nil)) (BT.node (ob157 P) (BT.node (ob221 P) BT.nil BT.nil) (BT.node (ob379 P) BT.nil BT.nil))) (BT.node (ob109 P) (BT.node (ob141 P) (BT.node (ob205 P) BT.nil BT.nil) (BT.node (ob363 P) BT.nil BT.nil)) (BT.node (ob173 P) (BT.node (ob331 P) BT.nil BT.nil) BT.nil))))))
noncomputable def heapH0 : Params → Heap := fun P => { objs := { toList := [ob41 P, ob42 P, ob43 P, ob44 P, ob45 P, ob46 P, ob47 P, ob48 P, ob49 P, ob50 P, ob51 P, ob52 P, ob53 P, ob54 P, ob55 P, ob56 P, ob57 P, ob58 P, ob59 P, ob60 P, ob61 P, ob62 P, ob63 P, ob64 P, ob65 P, ob66 P, ob67 P, ob68 P] } }
noncomputable def heapH72 : Params → Heap := fun P => { objs := { toList := [ob41 P, ob42 P, ob43 P, ob44 P, ob45 P, ob46 P, ob47 P, ob48 P, ob49 P, ob50 P, ob51 P, ob52 P, ob53 P, ob54 P, ob55 P, ob56 P, ob57 P, ob58 P, ob59 P, ob60 P, ob61 P, ob62 P, ob63 P, ob64 P, ob65 P, ob66 P, ob67 P, ob68 P, ob69 P, ob70 P, ob71 P, ob72 P] } }
noncomputable def heapH1 : Params → Heap := fun P => { objs := { toList := [ob41 P, ob42 P, ob43 P, ob318 P, ob45 P, ob46 P, ob47 P, ob48 P, ob49 P, ob50 P, ob51 P, ob52 P, ob53 P, ob54 P, ob55 P, ob56 P, ob57 P, ob58 P, ob59 P, ob60 P, ob61 P, ob62 P, ob63 P, ob64 P, ob65 P, ob66 P, ob67 P, ob68 P, ob69 P, ob319 P, ob71 P, ob72 P, ob77 P, ob78 P, ob79 P, ob80 P, ob81 P, ob82 P, ob83 P, ob84 P, ob85 P, ob86 P, ob87 P, ob88 P, ob89 P, ob90 P, ob91 P, ob92 P, ob93 P, ob96 P, ob97 P, ob98 P, ob99 P, ob100 P, ob101 P, ob102 P, ob103 P, ob104 P, ob105 P, ob106 P, ob107 P, ob108 P, ob109 P, ob110 P, ob111 P, ob112 P, ob113 P, ob114 P, ob115 P, ob116 P, ob117 P, ob118 P, ob119 P, ob120 P, ob121 P, ob122 P, ob123 P, ob124 P, ob125 P, ob126 P, ob127 P, ob128 P, ob129 P, ob130 P, ob131 P, ob132 P, ob133 P, ob134 P, ob135 P, ob136 P, ob137 P, ob138 P, ob139 P, ob140 P, ob141 P, ob142 P, ob143 P, ob144 P, ob145 P, ob146 P, ob147 P, ob148 P, ob149 P, ob150 P, ob151 P, ob152 P, ob153 P, ob154 P, ob155 P, ob156 P, ob157 P, ob158 P, ob159 P, ob160 P, ob161 P, ob162 P, ob163 P, ob164 P, ob165 P, ob166 P, ob167 P, ob168 P, ob169 P, ob170 P, ob171 P, ob172 P, ob173 P, ob174 P, ob175 P, ob176 P, ob177 P, ob178 P, ob179 P, ob180 P, ob181 P, ob182 P, ob183 P, ob184 P, ob185 P, ob186 P, ob187 P, ob188 P, ob189 P, ob190 P, ob191 P, ob192 P, ob193 P, ob194 P, ob195 P, ob196 P, ob197 P, ob198 P, ob199 P, ob200 P, ob201 P, ob202 P, ob203 P, ob204 P, ob205 P, ob206 P, ob207 P, ob208 P, ob209 P, ob210 P, ob211 P, ob212 P, ob213 P, ob214 P, ob215 P, ob216 P, ob217 P, ob218 P, ob219 P, ob220 P, ob221 P, ob222 P, ob312 P, ob313 P, ob314 P, ob320 P, ob321 P, ob322 P, ob323 P, ob324 P, ob325 P, ob326 P, ob327 P, ob328 P, ob329 P, ob330 P, ob331 P, ob332 P, ob333 P, ob334 P, ob335 P, ob336 P, ob337 P, ob338 P, ob339 P, ob340 P, ob341 P, ob342 P, ob343 P, ob344 P, ob345 P, ob346 P, ob347 P, ob348 P, ob349 P, ob350 P, ob351 P, ob352 P, ob353 P, ob354 P, ob355 P, ob356 P, ob357 P, ob358 P, ob359 P, ob360 P, ob361 P, ob362 P, ob363 P, ob364 P, ob365 P, ob366 P, ob367 P, ob368 P, ob369 P, ob370 P, ob371 P, ob372 P, ob373 P, ob374 P, ob375 P, ob376 P, ob377 P, ob378 P, ob379 P, ob380 P, ob381 P, ob382 P, ob383 P, ob384 P, ob385 P, ob386 P, ob387 P, ob388 P, ob389 P, ob390 P, ob391 P, ob392 P] } }
end Mine
end

section
open PySem PySem.W PyProof.Rows
set_option maxRecDepth 100000
set_option maxHeartbeats 0
namespace Mine
noncomputable def KF : Params → Frag := fun P => [(2, ob43 P), (3, ob318 P), (32, ob77 P), (34, ob79 P), (35, ob80 P), (37, ob82 P), (38, ob83 P), (42, ob87 P), (43, ob88 P), (47, ob92 P), (48, ob93 P), (56, ob103 P), (57, ob104 P), (59, ob106 P), (60, ob107 P), (62, ob109 P), (63, ob110 P), (64, ob111 P), (66, ob113 P), (67, ob114 P), (69, ob116 P), (70, ob117 P), (71, ob118 P), (73, ob120 P), (74, ob121 P), (76, ob123 P), (77, ob124 P), (78, ob125 P), (80, ob127 P), (81, ob128 P), (83, ob130 P), (84, ob131 P), (85, ob132 P), (88, ob135 P), (89, ob136 P), (90, ob137 P), (92, ob139 P), (93, ob140 P), (95, ob142 P), (96, ob143 P), (97, ob144 P), (99, ob146 P), (100, ob147 P), (102, ob149 P), (103, ob150 P), (104, ob151 P), (106, ob153 P), (107, ob154 P), (109, ob156 P), (110, ob157 P), (111, ob158 P), (112, ob159 P), (114, ob161 P), (115, ob162 P), (117, ob164 P), (118, ob165 P), (119, ob166 P), (122, ob169 P), (123, ob170 P), (124, ob171 P), (127, ob174 P), (128, ob175 P), (129, ob176 P), (131, ob178 P), (132, ob179 P), (134, ob181 P), (135, ob182 P), (136, ob183 P), (138, ob185 P), (139, ob186 P), (141, ob188 P), (142, ob189 P), (143, ob190 P), (146, ob193 P), (147, ob194 P), (148, ob195 P), (150, ob197 P), (151, ob198 P), (153, ob200 P), (154, ob201 P), (155, ob202 P), (157, ob204 P), (158, ob205 P), (160, ob207 P), (161, ob208 P), (162, ob209 P), (164, ob211 P), (165, ob212 P), (167, ob214 P), (168, ob215 P), (169, ob216 P), (170, ob217 P), (171, ob218 P), (172, ob219 P), (173, ob220 P), (176, ob312 P), (179, ob320 P), (181, ob322 P), (182, ob323 P), (184, ob325 P), (185, ob326 P), (186, ob327 P), (189, ob330 P), (190, ob331 P), (191, ob332 P), (193, ob334 P), (194, ob335 P), (196, ob337 P), (197, ob338 P), (198, ob339 P), (200, ob341 P), (201, ob342 P), (203, ob344 P), (204, ob345 P), (205, ob346 P), (207, ob348 P), (208, ob349 P), (210, ob351 P), (211, ob352 P), (212, ob353 P), (214, ob355 P), (215, ob356 P), (217, ob358 P), (218, ob359 P), (219, ob360 P), (221, ob362 P), (222, ob363 P), (224, ob365 P), (225, ob366 P), (226, ob367 P), (229, ob370 P), (230, ob371 P), (231, ob372 P), (233, ob374 P), (234, ob375 P), (236, ob377 P), (237, ob378 P), (238, ob379 P), (240, ob381 P), (241, ob382 P), (243, ob384 P), (244, ob385 P), (245, ob386 P), (247, ob388 P), (248, ob389 P), (250, ob391 P), (251, ob392 P)]
def kAs : List Addr := [2, 3, 32, 34, 35, 37, 38, 42, 43, 47, 48, 56, 57, 59, 60, 62, 63, 64, 66, 67, 69, 70, 71, 73, 74, 76, 77, 78, 80, 81, 83, 84, 85, 88, 89, 90, 92, 93, 95, 96, 97, 99, 100, 102, 103, 104, 106, 107, 109, 110, 111, 112, 114, 115, 117, 118, 119, 122, 123, 124, 127, 128, 129, 131, 132, 134, 135, 136, 138, 139, 141, 142, 143, 146, 147, 148, 150, 151, 153, 154, 155, 157, 158, 160, 161, 162, 164, 165, 167, 168, 169, 170, 171, 172, 173, 176, 179, 181, 182, 184, 185, 186, 189, 190, 191, 193, 194, 196, 197, 198, 200, 201, 203, 204, 205, 207, 208, 210, 211, 212, 214, 215, 217, 218, 219, 221, 222, 224, 225, 226, 229, 230, 231, 233, 234, 236, 237, 238, 240, 241, 243, 244, 245, 247, 248, 250, 251]
theorem kAs_eq (P : Params) : kAs = (KF P).map (·.1) := by kernel_rfl
noncomputable def view : Program := { PySem.Challenge.pw_pe0250_01 with main := { PySem.Challenge.pw_pe0250_01.main with body := ((PySem.Challenge.pw_pe0250_01.main.body.eraseIdx 56).eraseIdx 4).eraseIdx 3 } }
def loose3 : List Str := [Str.ofString "_name_disallowed_re", Str.ofString "_value_disallowed_re", Str.ofString "EXACT_TOKEN_TYPES"]
theorem he_open : ∀ w : World, (fencedOpening treeTable PySem.Challenge.rw_pe0250_01.row.prog w 5512).map (fun s => (s.heap, s.gens, s.drawn, s.toks)) = some (heapH0 w.params, #[], {}, 276) := by intro w; kernel_rfl
theorem he_size : ∀ w : World, ((heapH0 w.params).isNs mainGlobals && (#[] : Array GenState).size == 0, (heapH0 w.params).objs.size, (heapH0 w.params).nsMap mainGlobals "__annotations__") = (true, 28, some (Value.ref 6)) := by intro w; kernel_rfl
noncomputable def env41 : Env := { scope := PySem.Challenge.rw_pe0250_01.row.prog.main.scope, locals := mainNs, globals := mainNs, cells := [], code := .ref 30, frame := some 31 }
noncomputable def codeB : Code := .body (behindTheImports PySem.Challenge.rw_pe0250_01.row.prog) env41
noncomputable def rest0 : List Stmt := behindTheImports PySem.Challenge.rw_pe0250_01.row.prog
noncomputable def rest1 : List Stmt := rest0.drop 4
noncomputable def rest2 : List Stmt := rest1.drop 1
noncomputable def rest3 : List Stmt := rest2.drop 44
noncomputable def rest4 : List Stmt := rest3.drop 6
noncomputable def rest5 : List Stmt := rest4.drop 1
noncomputable def rest6 : List Stmt := rest5.drop 12
theorem piece_take {w : World} {n N k : Nat} {s s' r : Shared} {l : List Stmt} {c : Code} {env : Env} {pos p' q : Pos} {n₀ : Nat} {ann : Option Value} {tb : String → Option Builtin} {p : Program} (h : segRun tb p w n₀ ann 1 n s (piecesOf (l.take k) env c pos [topFrame q]) = some (.next, s', c, p'))
    (e : topRun tb p w n₀ ann N s' (restOf (l.drop k) env c p' [topFrame q]) = some r) : topRun tb p w n₀ ann (n + N) s (restOf l env c pos [topFrame q]) = some r := by
  have x := piece_app h e
  rwa [List.take_append_drop] at x
theorem he_p1 : ∀ (w : World) (os : OsState), topGo treeTable PySem.Challenge.rw_pe0250_01.row.prog w 28 (some (Value.ref 6)) 12 ⟨heapH0 w.params, #[], {}, 276, os⟩ (topStub PySem.Challenge.rw_pe0250_01.row.prog) = some (⟨heapH72 w.params, #[], {}, 282, os⟩, ⟨denote treeTable codeB, codeB, ⟨0, 0, 0, 0⟩, [topFrame ⟨0, 0, 0, 0⟩]⟩) := by intro w os; kernel_rfl
theorem he_p2 : ∀ (w : World) (os : OsState), segRun treeTable PySem.Challenge.rw_pe0250_01.row.prog w 28 (some (Value.ref 6)) 1 1 ⟨heapH72 w.params, #[], {}, 282, os⟩ (blockOf (behindTheImports PySem.Challenge.rw_pe0250_01.row.prog) env41 codeB ⟨0, 0, 0, 0⟩ [topFrame ⟨0, 0, 0, 0⟩]) = some (.next, SharedT.abs ⟨tree73 w.params, 32, {}, #[], {}, 282, os⟩, codeB, ⟨0, 0, 0, 0⟩) := by intro w os; kernel_rfl
theorem he_q0 : ∀ (w : World) (os : OsState), segRunT treeTable PySem.Challenge.rw_pe0250_01.row.prog w 28 (some (Value.ref 6)) 1 185 ⟨tree73 w.params, 32, {}, #[], {}, 282, os⟩ (piecesOf (rest0.take 4) env41 codeB ⟨0, 0, 0, 0⟩ [topFrame ⟨0, 0, 0, 0⟩]) = some (.next, ⟨tree93 w.params, 49, {}, #[], {}, 351, os⟩, codeB, ⟨7, 0, 7, 20⟩) := by intro w os; kernel_rfl
theorem he_q1 : ∀ (w : World) (os : OsState), segRunT treeTable PySem.Challenge.rw_pe0250_01.row.prog w 28 (some (Value.ref 6)) 1 729 ⟨tree93 w.params, 49, {}, #[], {}, 351, os⟩ (piecesOf (rest1.take 1) env41 codeB ⟨7, 0, 7, 20⟩ [topFrame ⟨0, 0, 0, 0⟩]) = some (.next, ⟨tree222 w.params, 176, {}, #[], {}, 508, os⟩, codeB, ⟨8, 0, 82, 16⟩) := by intro w os; kernel_rfl
theorem he_q2 : ∀ (w : World) (os : OsState), segRunT treeTable PySem.Challenge.rw_pe0250_01.row.prog w 28 (some (Value.ref 6)) 1 397 ⟨tree222 w.params, 176, {}, #[], {}, 508, os⟩ (piecesOf (rest2.take 44) env41 codeB ⟨8, 0, 82, 16⟩ [topFrame ⟨0, 0, 0, 0⟩]) = some (.next, ⟨tree307 w.params, 176, {}, #[], {}, 596, os⟩, codeB, ⟨126, 0, 126, 2⟩) := by intro w os; kernel_rfl
theorem he_q3 : ∀ (w : World) (os : OsState), segRunT treeTable PySem.Challenge.rw_pe0250_01.row.prog w 28 (some (Value.ref 6)) 1 55 ⟨tree307 w.params, 176, {}, #[], {}, 596, os⟩ (piecesOf (rest3.take 6) env41 codeB ⟨126, 0, 126, 2⟩ [topFrame ⟨0, 0, 0, 0⟩]) = some (.next, ⟨tree309 w.params, 176, {}, #[], {}, 608, os⟩, codeB, ⟨132, 0, 132, 9⟩) := by intro w os; kernel_rfl
theorem he_q4_false : ∀ (w : World) (os : OsState), segRunT treeTable PySem.Challenge.rw_pe0250_01.row.prog (w.withFollow "special-get-raises" false) 28 (some (Value.ref 6)) 1 979 ⟨tree309 (w.withFollow "special-get-raises" false).params, 176, {}, #[], {}, 608, os⟩ (piecesOf (rest4.take 1) env41 codeB ⟨132, 0, 132, 9⟩ [topFrame ⟨0, 0, 0, 0⟩]) = some (.next, ⟨tree314 (w.withFollow "special-get-raises" false).params, 179, {}, #[], {}, 705, os⟩, codeB, ⟨133, 0, 133, 17⟩) := by intro w os; kernel_rfl
theorem he_q4_true : ∀ (w : World) (os : OsState), segRunT treeTable PySem.Challenge.rw_pe0250_01.row.prog (w.withFollow "special-get-raises" true) 28 (some (Value.ref 6)) 1 979 ⟨tree309 (w.withFollow "special-get-raises" true).params, 176, {}, #[], {}, 608, os⟩ (piecesOf (rest4.take 1) env41 codeB ⟨132, 0, 132, 9⟩ [topFrame ⟨0, 0, 0, 0⟩]) = some (.next, ⟨tree314 (w.withFollow "special-get-raises" true).params, 179, {}, #[], {}, 705, os⟩, codeB, ⟨133, 0, 133, 17⟩) := by intro w os; kernel_rfl
theorem he_q4 : ∀ (w : World) (os : OsState), segRunT treeTable PySem.Challenge.rw_pe0250_01.row.prog w 28 (some (Value.ref 6)) 1 979 ⟨tree309 w.params, 176, {}, #[], {}, 608, os⟩ (piecesOf (rest4.take 1) env41 codeB ⟨132, 0, 132, 9⟩ [topFrame ⟨0, 0, 0, 0⟩]) = some (.next, ⟨tree314 w.params, 179, {}, #[], {}, 705, os⟩, codeB, ⟨133, 0, 133, 17⟩) :=
  byRow2 "special-get-raises" (P := fun w => ∀ os : OsState, segRunT treeTable PySem.Challenge.rw_pe0250_01.row.prog w 28 (some (Value.ref 6)) 1 979 ⟨tree309 w.params, 176, {}, #[], {}, 608, os⟩ (piecesOf (rest4.take 1) env41 codeB ⟨132, 0, 132, 9⟩ [topFrame ⟨0, 0, 0, 0⟩]) = some (.next, ⟨tree314 w.params, 179, {}, #[], {}, 705, os⟩, codeB, ⟨133, 0, 133, 17⟩)) he_q4_false he_q4_true
theorem he_q5 : ∀ (w : World) (os : OsState), segRunT treeTable PySem.Challenge.rw_pe0250_01.row.prog w 28 (some (Value.ref 6)) 1 354 ⟨tree314 w.params, 179, {}, #[], {}, 705, os⟩ (piecesOf (rest5.take 12) env41 codeB ⟨133, 0, 133, 17⟩ [topFrame ⟨0, 0, 0, 0⟩]) = some (.next, ⟨tree392 w.params, 252, {}, #[], {}, 813, os⟩, codeB, ⟨215, 0, 222, 48⟩) := by intro w os; kernel_rfl
theorem he_p9 : ∀ (w : World) (os : OsState), topRun treeTable PySem.Challenge.rw_pe0250_01.row.prog w 28 (some (Value.ref 6)) 2 (SharedT.abs ⟨tree392 w.params, 252, {}, #[], {}, 813, os⟩) (restOf rest6 env41 codeB ⟨215, 0, 222, 48⟩ [topFrame ⟨0, 0, 0, 0⟩]) = some ⟨heapH1 w.params, #[], {}, 813, os⟩ := by intro w os; kernel_rfl
theorem he_run (w : World) (os : OsState) : topRun treeTable PySem.Challenge.rw_pe0250_01.row.prog w 28 (some (Value.ref 6)) 2714 ⟨heapH0 w.params, #[], {}, 276, os⟩ (topStub PySem.Challenge.rw_pe0250_01.row.prog) = some ⟨heapH1 w.params, #[], {}, 813, os⟩ :=
  go_top (N := 2702) (he_p1 w os) (piece_block (N := 2701) (he_p2 w os) (piece_take (segRun_of (he_q0 w os)) (piece_take (segRun_of (he_q1 w os)) (piece_take (segRun_of (he_q2 w os)) (piece_take (segRun_of (he_q3 w os)) (piece_take (segRun_of (he_q4 w os)) (piece_take (segRun_of (he_q5 w os)) (he_p9 w os))))))))
theorem he_looks : ∀ w : World, (fun os => ((staticsOk (importedModules PySem.Challenge.rw_pe0250_01.row.prog.main.body) (heapH0 w.params) (heapH1 w.params) && namesBound PySem.Challenge.rw_pe0250_01.row.prog (heapH1 w.params) && gensDone ⟨heapH1 w.params, #[], {}, 813, os⟩ && laidKept (heapH0 w.params) (heapH1 w.params)),
    openSeen view loose3 (importedModules PySem.Challenge.rw_pe0250_01.row.prog.main.body) (fun s => xlAt view [] s && recOk (RowW.records PySem.Challenge.rw_pe0250_01.row.toRowW) s) true ⟨heapH1 w.params, #[], {}, 813, os⟩, Hook.obs (kHook KF kAs kAs_eq) ⟨heapH1 w.params, #[], {}, 813, os⟩)) = fun _ => (true, openGood view loose3, Hook.val (kHook KF kAs kAs_eq) w) := by intro w; kernel_rfl
theorem he_left : LeftO PySem.Challenge.rw_pe0250_01.row.prog view loose3 (fun s => xlAt view [] s && recOk (RowW.records PySem.Challenge.rw_pe0250_01.row.toRowW) s) (Hook.obs (kHook KF kAs kAs_eq)) (Hook.val (kHook KF kAs kAs_eq)) 5512 :=
  LeftO.of_pieces he_open he_size he_run (by decide) he_looks
end Mine
end

section
open PySem PySem.W PyProof.Rows
set_option maxRecDepth 100000
namespace Mine

/-- the state s of a running call: it began at s₀; the frame's locals lie at L and read m; the cells l are known; all of s₀ but ws stands -/
structure St (s₀ : Shared) (ws : List Addr) (L : Addr) (m : Str → Option Value) (l : List (Addr × Obj)) (s : Shared) : Prop where
  ns : s.heap.Ns L m
  keep : ∀ b o, b ∉ ws → s₀.heap.get? b = some o → s.heap.get? b = some o
  newL : s₀.heap.get? L = none
  above : s₀.heap.objs.size ≤ L
  cells : ∀ p ∈ l, s.heap.get? p.1 = some p.2 ∧ p.1 ≠ L ∧ (s₀.heap.get? p.1 = none ∨ p.1 ∈ ws)
  nodup : (l.map (·.1)).Nodup
  same : ∃ h tk, s = { s₀ with heap := h, toks := tk }

/-- what a call leaves: all but ws stands -/
def Grow (ws : List Addr) (s s' : Shared) : Prop := (∃ h tk, s' = { s with heap := h, toks := tk }) ∧ ∀ b o, b ∉ ws → s.heap.get? b = some o → s'.heap.get? b = some o

theorem Grow.refl (ws : List Addr) (s : Shared) : Grow ws s s := ⟨⟨_, _, rfl⟩, fun _ _ _ e => e⟩
theorem Grow.trans {ws : List Addr} {s s' s'' : Shared} (a : Grow ws s s') (b : Grow ws s' s'') : Grow ws s s'' := by
  obtain ⟨⟨h, t, rfl⟩, ka⟩ := a
  obtain ⟨⟨h', t', rfl⟩, kb⟩ := b
  exact ⟨⟨h', t', rfl⟩, fun b o n e => kb b o n (ka b o n e)⟩
theorem Grow.mono {ws ws' : List Addr} {s s' : Shared} (a : Grow ws s s') (h : ∀ b ∈ ws, b ∈ ws') : Grow ws' s s' := ⟨a.1, fun b o n e => a.2 b o (fun q => n (h b q)) e⟩
theorem Grow.stays {s s' : Shared} (a : Grow [] s s') : s.heap.StaysIn s'.heap := fun b o e => a.2 b o (List.not_mem_nil) e

section
variable {s₀ s s' : Shared} {ws : List Addr} {L : Addr} {m : Str → Option Value} {l : List (Addr × Obj)}
theorem St.grow (S : St s₀ ws L m l s) : Grow ws s₀ s := ⟨S.same, S.keep⟩
theorem St.tok (S : St s₀ ws L m l s) {tk : Nat} : St s₀ ws L m l { s with toks := tk } := by
  obtain ⟨h, t, e⟩ := S.same
  exact ⟨S.ns, S.keep, S.newL, S.above, S.cells, S.nodup, h, tk, by rw [e]⟩
theorem St.calls (S : St s₀ ws L m l s) (G : Grow [] s s') : St s₀ ws L m l s' := by
  obtain ⟨h, t, e⟩ := S.same
  obtain ⟨⟨h', t', e'⟩, k⟩ := G
  refine ⟨S.ns.keeps fun b o q => k b o List.not_mem_nil q, fun b o n q => k b o List.not_mem_nil (S.keep b o n q), S.newL, S.above, fun p hp => ⟨k _ _ List.not_mem_nil (S.cells p hp).1, (S.cells p hp).2⟩, S.nodup, h', t', by rw [e', e]⟩
theorem St.heap' {h' : Heap} (S : St s₀ ws L m l s) (k : ∀ b o, s.heap.get? b = some o → h'.get? b = some o) {tk : Nat} : St s₀ ws L m l { s with heap := h', toks := tk } :=
  S.calls ⟨⟨h', tk, rfl⟩, fun b o _ e => k b o e⟩
theorem St.get (S : St s₀ ws L m l s) {a : Addr} {o : Obj} (h : (a, o) ∈ l) : s.heap.get? a = some o := (S.cells _ h).1
theorem St.sub (S : St s₀ ws L m l s) {l' : List (Addr × Obj)} (h : l'.Sublist l) : St s₀ ws L m l' s :=
  ⟨S.ns, S.keep, S.newL, S.above, fun p hp => S.cells p (h.subset hp), S.nodup.sublist (h.map _), S.same⟩
theorem St.fresh (S : St s₀ ws L m l s) {a : Addr} (h : s.heap.get? a = none) : a ≠ L ∧ (s₀.heap.get? a = none ∨ a ∈ ws) ∧ a ∉ l.map (·.1) := by
  refine ⟨fun e => ?_, ?_, fun q => ?_⟩
  · obtain ⟨o, _, _, ho, _⟩ := S.ns
    rw [← e, h] at ho; cases ho
  · by_cases hw : a ∈ ws
    · exact .inr hw
    · refine .inl ?_
      cases q : s₀.heap.get? a with
      | none => rfl
      | some o => rw [S.keep a o hw q] at h; cases h
  · obtain ⟨p, hp, rfl⟩ := List.mem_map.mp q
    rw [(S.cells p hp).1] at h; cases h
/-- a thing that was made since: it joins the cells -/
theorem St.add (S : St s₀ ws L m l s) {a : Addr} {o : Obj} (h : s.heap.get? a = none) (S' : St s₀ ws L m l s') (ha : s'.heap.get? a = some o) : St s₀ ws L m ((a, o) :: l) s' := by
  obtain ⟨n1, n2, n3⟩ := S.fresh h
  refine ⟨S'.ns, S'.keep, S'.newL, S'.above, fun p hp => ?_, List.nodup_cons.mpr ⟨n3, S'.nodup⟩, S'.same⟩
  rcases List.mem_cons.mp hp with rfl | hp
  · exact ⟨ha, n1, n2⟩
  · exact S'.cells p hp
theorem St.push (S : St s₀ ws L m l s) (o : Obj) (hf : o.isFreed = false) {tk : Nat} : St s₀ ws L m ((s.heap.objs.size, o) :: l) { s with heap := s.heap.push o, toks := tk } :=
  S.add (Heap.get?_none_of_le (Nat.le_refl _)) (S.heap' (fun _ _ e => Heap.get?_push_of_some _ e)) (Heap.get?_push_size _ hf)
theorem set_addr {a : Addr} {o o' : Obj} : ∀ {l : List (Addr × Obj)} {i : Nat}, l[i]? = some (a, o) → (l.set i (a, o')).map (·.1) = l.map (·.1)
  | [], i, h => by simp at h
  | p :: r, 0, h => by simp at h; subst h; rfl
  | p :: r, i + 1, h => by simp only [List.set_cons_succ, List.map_cons]; rw [set_addr (i := i) (l := r) (by simpa using h)]
theorem nodup_at {a : Addr} {o : Obj} : ∀ {l : List (Addr × Obj)} {i : Nat}, (l.map (·.1)).Nodup → l[i]? = some (a, o) → ∀ {o'} p, p ∈ l.set i (a, o') → p = (a, o') ∨ (p ∈ l ∧ p.1 ≠ a)
  | [], i, _, h, _, _, _ => by simp at h
  | q :: r, 0, n, h, o', p, hp => by
    simp at h; subst h
    simp only [List.set_cons_zero] at hp
    rcases List.mem_cons.mp hp with e | hp
    · exact .inl e
    · refine .inr ⟨.tail _ hp, fun e => ?_⟩
      simp only [List.map_cons, List.nodup_cons] at n
      exact n.1 (e ▸ List.mem_map_of_mem (f := (·.1)) hp)
  | q :: r, i + 1, n, h, o', p, hp => by
    simp only [List.set_cons_succ] at hp
    simp only [List.map_cons, List.nodup_cons] at n
    have h' : r[i]? = some (a, o) := by simpa using h
    rcases List.mem_cons.mp hp with e | hp
    · subst e
      refine .inr ⟨.head _, fun e => n.1 ?_⟩
      rw [e]
      exact List.mem_map_of_mem (f := (·.1)) (List.mem_of_getElem? h')
    · rcases nodup_at n.2 h' p hp with e | ⟨e1, e2⟩
      · exact .inl e
      · exact .inr ⟨.tail _ e1, e2⟩
/-- a cell is written -/
theorem St.upd {i : Nat} {a : Addr} {o o' : Obj} (S : St s₀ ws L m l s) (hi : l[i]? = some (a, o)) (G : Grow [a] s s') (ha : s'.heap.get? a = some o') {l' : List (Addr × Obj)} (hl : l.set i (a, o') = l') : St s₀ ws L m l' s' := by
  subst hl
  have hm := List.mem_of_getElem? hi
  obtain ⟨h, t, e⟩ := S.same
  obtain ⟨⟨h', t', e'⟩, k⟩ := G
  have c := S.cells _ hm
  have kn : ∀ b o, b ≠ a → s.heap.get? b = some o → s'.heap.get? b = some o := fun b o n q => k b o (fun z => n (List.mem_singleton.mp z)) q
  refine ⟨S.ns.at' fun o q => kn _ _ (fun z => c.2.1 z.symm) q, fun b ob n q => ?_, S.newL, S.above, fun p hp => ?_, ?_, h', t', by rw [e', e]⟩
  · refine kn b ob (fun z => ?_) (S.keep b ob n q)
    subst z
    rcases c.2.2 with z | z
    · simp only at z; rw [q] at z; cases z
    · exact n z
  · rcases nodup_at S.nodup hi p hp with rfl | ⟨hp, hn⟩
    · exact ⟨ha, c.2⟩
    · exact ⟨kn _ _ hn (S.cells p hp).1, (S.cells p hp).2⟩
  · rw [set_addr hi]; exact S.nodup
end

/-- what stands at the top: the written part K, the names of the module and the built-in ones -/
structure Gl (K : Frag) (H : Heap) : Prop where
  X : K.In H
  top : ∃ p loose mg mb, TopRead p loose mg mb H
theorem Gl.keeps {K : Frag} {H H' : Heap} (G : Gl K H) (h : H.StaysIn H') : Gl K H' := by
  obtain ⟨p, lo, mg, mb, T⟩ := G.top
  exact ⟨G.X.keeps h, p, lo, mg, mb, T.keeps h⟩
theorem Gl.nolimit {K : Frag} {H : Heap} (G : Gl K H) : H.NoLimit := let ⟨_, _, _, _, T⟩ := G.top; T.nolimit

/-- room for k calls more -/
structure Ok (k : Nat) (A : Around) : Prop where
  handled : A.handled = none
  depth : A.depth ≤ 301 + k
  units : A.units ≤ 4 + 10 * k
theorem Ok.deeper {k : Nat} {A : Around} (h : Ok k A) (env : Env) : Ok (k + 1) (A.deeper env) := ⟨h.handled, by have := h.depth; show A.depth + 1 ≤ _; omega, by have := h.units; show A.units + 3 ≤ _; omega⟩
theorem Ok.mono {k k' : Nat} {A : Around} (h : Ok k A) (hk : k ≤ k') : Ok k' A := ⟨h.handled, by have := h.depth; omega, by have := h.units; omega⟩
theorem Ok.room {k : Nat} {A : Around} (h : Ok k A) (hk : k ≤ 600) : A.depth < recursionLimit := by have := h.depth; show A.depth < 1000; omega
theorem Ok.cunits {k : Nat} {A : Around} (h : Ok k A) (hk : k ≤ 600) : A.units < cLine := by have := h.units; show A.units < 9900; omega

section
variable {prog : Program} {w : World} {A : Around} {E : Value → Shared → Prop} {s₀ s : Shared} {ws : List Addr} {L : Addr} {m : Str → Option Value} {l : List (Addr × Obj)} {K : Frag} {H : Heap}
variable {cn : Str} {cs : Scope} {a : Addr} {ccd : Value} {Q : Value → Shared → Prop}

/-- into a def of the text -/
theorem enter {R : Result → Shared → Prop} {name qual : Str} {params : Arguments} {body : List Stmt} {scope : Scope} {dV kV doc pm cdv ct oc : Value} {an od : Option Addr} {osl : Array (Option Value)} {f : Addr} {args : Args} {binds : List (Str × Value)} {k : Nat}
    (G : Gl K (hideAll s.heap ws)) (hA : Ok k A) (ho : K.lookup f = some ⟨oc, od, .func (fnOf name qual params body scope dV kV doc pm an cdv ct), osl⟩) (hcd : codeIn K cdv qual = true)
    (hbind : BindsTo s (fnOf name qual params body scope dV kV doc pm an cdv ct) args binds) (hloc : ∀ y ∈ binds, scope.names.lookup y.1 = some .local)
    (hl : ∀ p ∈ l, s.heap.get? p.1 = some p.2 ∧ p.1 ∈ ws) (hnd : (l.map (·.1)).Nodup)
    (h : ∀ L s', St s ws L (fun y => binds.reverse.lookup y) l s' → wpAny (model prog w) (A.deeper (envOf qual scope L f cdv)) (execs body (envOf qual scope L f cdv))
      (fun fl s'' => R (.ok (.ret (match fl with | .ret v => v | _ => .none))) s'') (fun _ _ => False) s')
    (hk : k ≤ 600 := by decide) (hco : scope.isCoroutine = false := by rfl) (hgen : scope.isGenerator = false := by rfl) (hkd : scope.kind = .function := by rfl) (hcell : ∀ x ∈ scope.names, x.2 ≠ .cell := by decide) :
    codeAny (model prog w) A (.call (.ref f) args) R s := by
  have G := G.keeps (fun b o e => of_hideAll ws e)
  refine codeAny_call_def (fd := fnOf name qual params body scope dV kV doc pm an cdv ct) (body := body) (binds := binds) (hA.room hk) (G.X _ _ ho) rfl G.nolimit (codeRec_of G.X hcd) rfl hbind hcell hloc (fun h₁ hns hk₁ => ?_) hco hgen hkd
  refine wpAny_mono (h s.heap.objs.size _ ⟨hns, fun b o _ e => hk₁ b o e, Heap.get?_none_of_le (Nat.le_refl _), Nat.le_refl _, fun p hp => ⟨hk₁ _ _ (hl p hp).1, Nat.ne_of_lt (Heap.lt_size (hl p hp).1), .inr (hl p hp).2⟩, hnd, _, _, rfl⟩) (fun _ _ x => x) fun _ _ x => x.elim

theorem r_local {x : Str} {pos : Pos} {v : Value} (S : St s₀ ws L m l s) (hv : m x = some v) (h : Q v s)
    (hk : cs.kind = .function := by rfl) (hl : (envOf cn cs L a ccd).kindOf x = some .local := by rfl) (hd : (x == ("__debug__" : Str)) = false := by decide) :
    wpAny (model prog w) A (eval (.Name x pos) (envOf cn cs L a ccd)) Q E s := wpAny_Name (wpAny_loadName_local hk hl S.ns hv h) hd
theorem r_store {x : Str} {v : Value} {Q : Unit → Shared → Prop} (S : St s₀ ws L m l s)
    (h : ∀ s', St s₀ ws L (fun y => if y = x then some v else m y) l s' → Q () s')
    (hk : cs.kind = .function := by rfl) (hl : (envOf cn cs L a ccd).kindOf x = some .local := by rfl) :
    wpAny (model prog w) A (storeName (envOf cn cs L a ccd) x v) Q E s :=
  wpAny_storeName_local hl S.ns (fun h' hn hs => h _ (by
    obtain ⟨hh, t, e⟩ := S.same
    refine ⟨hn, fun b o n q => (hs.2 b (fun z => ?_)).trans (S.keep b o n q), S.newL, S.above, fun p hp => ⟨(hs.2 _ (S.cells p hp).2.1).trans (S.cells p hp).1, (S.cells p hp).2⟩, S.nodup, h', _, by rw [e]⟩
    have z' : b = L := z
    rw [z', S.newL] at q; cases q))
    (by show (cs.kind == .class || (cs.kind == .module && L != mainGlobals)) = false; rw [hk]; rfl)
theorem r_glob {x : Str} {pos : Pos} {v : Value} (G : Gl K s.heap) (e : nsIn K mainGlobals x = some (some v)) (h : Q v s)
    (hk : cs.kind = .function := by rfl) (hx : (envOf cn cs L a ccd).kindOf x = some .globalImplicit := by rfl) (hd : (x == ("__debug__" : Str)) = false := by decide) :
    wpAny (model prog w) A (eval (.Name x pos) (envOf cn cs L a ccd)) Q E s := by
  obtain ⟨_, _, _, _, T⟩ := G.top
  exact Calls.Name_function_global hk hx (Calls.loadGlobal_global (env := envOf cn cs L a ccd) T.g (mg_of G.X T.g e) h) hd
theorem mg_none {K : Frag} {h : Heap} {mg : Str → Option Value} {n : Str} (X : K.In h) (G : h.Ns mainGlobals mg) (e : nsIn K mainGlobals n = some none) : mg n = none := by
  obtain ⟨o, es, ep, ho, hd, _, hf⟩ := G
  unfold nsIn at e
  split at e
  · rename_i c d es' n' sl q
    have := X _ _ q
    rw [ho] at this
    cases this
    cases hd
    split at e
    · cases e
    · rename_i he
      rw [← hf]
      unfold nsFind findBy
      rw [← Array.find?_toList, he]
      rfl
  · cases e
theorem r_blt {x : Str} {pos : Pos} {v : Value} (G : Gl K s.heap) (e : nsIn K mainGlobals x = some none) (hv : bootBuiltins x = some v) (hn : x ≠ "__name__") (h : Q v s)
    (hk : cs.kind = .function := by rfl) (hx : (envOf cn cs L a ccd).kindOf x = some .globalImplicit := by rfl) (hd : (x == ("__debug__" : Str)) = false := by decide) :
    wpAny (model prog w) A (eval (.Name x pos) (envOf cn cs L a ccd)) Q E s := by
  obtain ⟨_, _, _, _, T⟩ := G.top
  exact Calls.Name_function_global hk hx (Calls.loadGlobal_builtin (env := envOf cn cs L a ccd) T.g (mg_none G.X T.g e) T.b ((T.builtins x hn).trans hv) h) hd

theorem r_int {i : Int} {k : Nat} {pos : Pos} {env : Env} (S : St s₀ ws L m l s) (h : ∀ t s', St s₀ ws L m l s' → Q (.int i t) s') : wpAny (model prog w) A (eval (.Constant (.int i) k pos) env) Q E s := wpAny_Constant_int (h _ _ S.tok)
theorem r_str {x : Str} {k : Nat} {pos : Pos} {env : Env} (S : St s₀ ws L m l s) (h : ∀ t s', St s₀ ws L m l s' → Q (.str x t) s') : wpAny (model prog w) A (eval (.Constant (.str x) k pos) env) Q E s := wpAny_Constant_str (h _ _ S.tok)
theorem r_add {i j : Int} {t u : Tok} (S : St s₀ ws L m l s) (h : ∀ t s', St s₀ ws L m l s' → Q (.int (i + j) t) s') : wpAny (model prog w) A (binaryOp .Add (.int i t) (.int j u)) Q E s := add_int (h _ _ S.tok)
theorem r_sub {i j : Int} {t u : Tok} (S : St s₀ ws L m l s) (h : ∀ t s', St s₀ ws L m l s' → Q (.int (i - j) t) s') : wpAny (model prog w) A (binaryOp .Sub (.int i t) (.int j u)) Q E s := sub_int (h _ _ S.tok)
theorem r_mod {i j : Int} {t u : Tok} (S : St s₀ ws L m l s) (hj : j ≠ 0) (h : ∀ t s', St s₀ ws L m l s' → Q (.int (i.fmod j) t) s') : wpAny (model prog w) A (binaryOp .Mod (.int i t) (.int j u)) Q E s := mod_int' hj (h _ _ S.tok)
theorem r_div {i j : Int} {t u : Tok} (S : St s₀ ws L m l s) (hj : j ≠ 0) (hp : Builtin.divisionGoesByPylong i j = false) (h : ∀ t s', St s₀ ws L m l s' → Q (.int (i.fdiv j) t) s') : wpAny (model prog w) A (binaryOp .FloorDiv (.int i t) (.int j u)) Q E s := floordiv_int hj (h _ _ S.tok) (.inl hp)
theorem r_cat {x y : Str} {t u : Tok} (S : St s₀ ws L m l s) (hsz : x.length + y.length ≤ sizeLine) (h : ∀ t s', St s₀ ws L m l s' → Q (.str (x ++ y) t) s') : wpAny (model prog w) A (binaryOp .Add (.str x t) (.str y u)) Q E s := SB.add (fun _ _ => h _ _ S.tok) hsz
theorem r_while {test : Expr} {body : List Stmt} {pos : Pos} {env : Env} {Q : Flow → Shared → Prop} (I : Nat → Shared → Prop) (n : Nat) (h0 : I n s)
    (turn : ∀ n s, I n s → wpAny (model prog w) A (isTrue test env (eval test env)) (fun b s₂ => if b then wpAny (model prog w) A (execs body env) (fun f s₃ => match f with
      | .next | .cont => ∃ m, m < n ∧ I m s₃
      | .brk => Q .next s₃
      | .ret v => Q (.ret v) s₃) (fun _ _ => False) s₂ else Q .next s₂) (fun _ _ => False) s) :
    wpAny (model prog w) A (exec (.While test body [] pos) env) Q (fun _ _ => False) s := by
  refine wpAny_While (codeAny_whileLoop I (fun n s hI => wpAny_mono (turn n s hI) (fun b s₂ h => ?_) fun _ _ x => x.elim) n h0)
  cases b with
  | false => exact wpAny_execs_nil h
  | true => exact wpAny_mono h (fun _ _ x => x) fun _ _ x => x.elim
theorem r_stmt {st : Stmt} {rest : List Stmt} {env : Env} {Q : Flow → Shared → Prop} (h : wpAny (model prog w) A (exec st env) (fun f s' => match f with | .next => wpAny (model prog w) A (execs rest env) Q E s' | f => Q f s') E s) :
    wpAny (model prog w) A (execs (st :: rest) env) Q E s := wpAny_execs_cons h
/-- x = value -/
theorem r_let {x : Str} {p pos : Pos} {value : Expr} {rest : List Stmt} {Q : Flow → Shared → Prop}
    (h : wpAny (model prog w) A (eval value (envOf cn cs L a ccd)) (fun v s₁ => ∃ s₀ ws m l, St s₀ ws L m l s₁ ∧ ∀ s', St s₀ ws L (fun y => if y = x then some v else m y) l s' → wpAny (model prog w) A (execs rest (envOf cn cs L a ccd)) Q E s') E s)
    (hs : swapsWith value (some (.Name x p)) pos.line (envOf cn cs L a ccd) = pure false := by rfl)
    (hk : cs.kind = .function := by rfl) (hl : (envOf cn cs L a ccd).kindOf x = some .local := by rfl) :
    wpAny (model prog w) A (execs (.Assign [.Name x p] value pos :: rest) (envOf cn cs L a ccd)) Q E s :=
  wpAny_execs_cons (wpAny_Assign_Name (wpAny_mono h (fun _ _ ⟨_, _, _, _, S, k⟩ => r_store S (fun s' S' => k s' S') hk hl) fun _ _ x => x) hs)
theorem r_ret {e : Expr} {pos : Pos} {rest : List Stmt} {env : Env} {Q : Flow → Shared → Prop} (h : wpAny (model prog w) A (eval e env) (fun v s' => Q (.ret v) s') E s) :
    wpAny (model prog w) A (execs (.Return (some e) pos :: rest) env) Q E s := wpAny_execs_cons (wpAny_Return_some h)
end
end Mine
end

section
open PySem
namespace Mine
/-- a text by its signs -/
abbrev tx (l : List Nat) : Str := ⟨l.toArray⟩
theorem tx_append (a b : List Nat) : tx a ++ tx b = tx (a ++ b) := by
  show Str.append (tx a) (tx b) = _
  simp [Str.append, tx]
theorem tx_length (a : List Nat) : (tx a).length = a.length := by simp [Str.length, tx]
theorem tx_inj {a b : List Nat} (h : tx a = tx b) : a = b := by
  have := congrArg (fun s : Str => s.cps.toList) h
  simpa [tx] using this
/-- a figure to the base sixteen -/
def hexd (d : Nat) : Nat := if d < 10 then 48 + d else 87 + d
def figs (n : Nat) : List Nat := if h : n = 0 then [] else figs (n / 16) ++ [hexd (n % 16)]
termination_by n
decreasing_by omega
theorem figs_zero : figs 0 = [] := by unfold figs; simp
theorem figs_pos {n : Nat} (h : n ≠ 0) : figs n = figs (n / 16) ++ [hexd (n % 16)] := by
  conv => lhs; unfold figs
  simp [h]
theorem figs_len {k n : Nat} (h : n < 16 ^ k) : (figs n).length ≤ k := by
  induction k generalizing n with
  | zero => have : n = 0 := by omega
            subst this; rw [figs_zero]; simp
  | succ k ih =>
    by_cases h0 : n = 0
    · subst h0; rw [figs_zero]; simp
    · rw [figs_pos h0, List.length_append, List.length_singleton]
      have := ih (n := n / 16) (by rw [Nat.pow_succ] at h; omega)
      omega
/-- the eight signs, in the order of the law's list -/
def sgns : List (List Nat) := [[43], [45], [42], [42, 42], [124], [47], [94], [60, 60]]
/-- the signs whose sides may be exchanged -/
def comms : List (List Nat) := [[43], [42], [124], [94]]
def comm (sg : List Nat) : Bool := comms.any (· == sg)
def joined (l sg r : List Nat) : List Nat := if comm sg = true ∧ r < l then 40 :: (r ++ sg ++ l ++ [41]) else 40 :: (l ++ sg ++ r ++ [41])
def named (a : Nat) (sg : List Nat) (b : Nat) (great : Bool) : List Nat := if great then (figs a ++ sg ++ figs b).map PyProof.Rows.up1 else figs a ++ sg ++ figs b
theorem any_tx (l : List (List Nat)) (x : List Nat) : (l.map tx).any (· == tx x) = l.any (· == x) := by
  induction l with
  | nil => rfl
  | cons a r ih =>
    simp only [List.map_cons, List.any_cons, ih]
    have e : (tx a == tx x) = (a == x) := by
      rw [Bool.eq_iff_iff, beq_iff_eq, beq_iff_eq]; exact ⟨tx_inj, fun h => by rw [h]⟩
    rw [e]
theorem hexd_lt {d : Nat} (h : d < 16) : hexd d < 128 := by unfold hexd; split <;> omega
theorem figs_ascii (n : Nat) : ∀ c ∈ figs n, c < 128 := by
  induction n using Nat.strongRecOn with
  | ind n ih =>
    by_cases h : n = 0
    · subst h; rw [figs_zero]; simp
    · rw [figs_pos h]
      intro c hc
      rcases List.mem_append.mp hc with hc | hc
      · exact ih (n / 16) (by omega) c hc
      · rw [List.mem_singleton.mp hc]; exact hexd_lt (by omega)
/-- a deed: a leaf is laid, or the two topmost are joined -/
inductive Deed where
  | leaf (n : Nat)
  | join (w : Nat) (g : Bool)
def Deed.ok : Deed → Prop
  | .leaf n => n = 1 ∨ n = 10 ∨ n = 171 ∨ n = 255
  | .join w _ => w < 8
def Deed.d1 : Deed → Int
  | .leaf _ => 0
  | .join _ _ => 1
def Deed.d2 : Deed → Int
  | .leaf n => n
  | .join w _ => w
def Deed.d3 : Deed → Int
  | .leaf _ => 0
  | .join _ g => if g then 1 else 0
end Mine
end

section
open PySem PySem.W PyProof.Rows
set_option maxRecDepth 100000
namespace Mine
section
variable {s₀ s s' : Shared} {ws : List Addr} {L : Addr} {m m' : Str → Option Value} {l l' : List (Addr × Obj)} {h' : Heap}
theorem St.fr (S : St s₀ ws L m l s) : Fr (hideAll s₀.heap ws) L s.heap m := ⟨S.ns, fun b o e => S.keep b o (fun q => by rw [hideAll_none ws q] at e; cases e) (of_hideAll ws e), by rw [hideAll_size]; exact S.above⟩
theorem St.news (S : St s₀ ws L m l s) : News (hideAll s₀.heap ws) L s.heap l := fun p hp => by
  refine ⟨(S.cells p hp).1, (S.cells p hp).2.1, ?_⟩
  rcases (S.cells p hp).2.2 with q | q
  · cases e : (hideAll s₀.heap ws).get? p.1 with
    | none => rfl
    | some o => rw [of_hideAll ws e] at q; cases q
  · exact hideAll_none ws q
theorem St.of_fr {tk : Nat} (S : St s₀ ws L m l s) (F : Fr (hideAll s₀.heap ws) L h' m') (N : News (hideAll s₀.heap ws) L h' l') (nd : (l'.map (·.1)).Nodup) : St s₀ ws L m' l' { s with heap := h', toks := tk } := by
  obtain ⟨h, t, e⟩ := S.same
  refine ⟨F.ns, fun b o n q => F.keep b o (hideAll_get ws q n), S.newL, S.above, fun p hp => ⟨(N p hp).1, (N p hp).2.1, ?_⟩, nd, h', tk, by rw [e]⟩
  by_cases hw : p.1 ∈ ws
  · exact .inr hw
  · refine .inl ?_
    cases q : s₀.heap.get? p.1 with
    | none => rfl
    | some o => have := (N p hp).2.2; rw [hideAll_get ws q hw] at this; cases this
theorem nodup_lt {D : Addr} {o : Obj} (nd : (l.map (·.1)).Nodup) (h : ∀ p ∈ l, p.1 < D) : (((D, o) :: l).map (·.1)).Nodup := by
  rw [List.map_cons]
  refine List.nodup_cons.mpr ⟨fun q => ?_, nd⟩
  obtain ⟨p, hp, e⟩ := List.mem_map.mp q
  exact absurd (h p hp) (by simp only at e; rw [e]; exact Nat.lt_irrefl _)
theorem St.stays {H : Heap} (S : St s₀ ws L m l s) (hH : H.StaysIn (hideAll s₀.heap ws)) : H.StaysIn s.heap := fun b o e => S.fr.keep b o (hH b o e)
theorem St.gl {K : Frag} (S : St s₀ ws L m l s) (G : Gl K (hideAll s₀.heap ws)) : Gl K s.heap := G.keeps S.fr.keep
theorem St.gl0 {K : Frag} (S : St s₀ [] L m l s) (G : Gl K s₀.heap) : Gl K s.heap := G.keeps fun b o e => S.keep b o List.not_mem_nil e
theorem St.isList {i : Nat} {a : Addr} {its : Array Value} {n : Nat} (S : St s₀ ws L m l s) (hi : l[i]? = some (a, listOf its n)) : s.heap.IsList a its := ⟨_, S.get (List.mem_of_getElem? hi), rfl, n, rfl⟩
theorem St.noDict {i : Nat} {a : Addr} {its : Array Value} {n : Nat} (S : St s₀ ws L m l s) (hi : l[i]? = some (a, listOf its n)) : s.heap.NoDictAt (.ref a) := ⟨_, S.get (List.mem_of_getElem? hi), rfl⟩
end

abbrev tupOf (its : Array Value) (n : Nat) : Obj := { cls := .type "tuple", data := .seq its n }

section
variable {prog : Program} {w : World} {A : Around} {E : Value → Shared → Prop} {s₀ s : Shared} {ws : List Addr} {L : Addr} {m : Str → Option Value} {l : List (Addr × Obj)} {K : Frag} {H : Heap}
variable {cn : Str} {cs : Scope} {a : Addr} {ccd : Value} {Q : Value → Shared → Prop}
theorem r_newList {vs : List Value} (S : St s₀ ws L m l s) (hsz : vs.length ≤ sizeLine) (h : ∀ D s', St s₀ ws L m ((D, listOf vs.toArray 0) :: l) s' → s.heap.get? D = none → Q (.ref D) s') : wpAny (model prog w) A (newList vs) Q E s :=
  wpAny_newObj_type (h _ _ (S.push _ rfl) (Heap.get?_none_of_le (Nat.le_refl _))) (by show vs.toArray.size ≤ sizeLine; rw [List.size_toArray]; exact hsz)
theorem r_newTuple {vs : List Value} (S : St s₀ ws L m l s) (hsz : vs.length ≤ sizeLine) (h : ∀ D s', St s₀ ws L m ((D, tupOf vs.toArray 0) :: l) s' → s.heap.get? D = none → Q (.ref D) s') : wpAny (model prog w) A (newTuple vs) Q E s :=
  wpAny_newObj_type (h _ _ (S.push _ rfl) (Heap.get?_none_of_le (Nat.le_refl _))) (by show vs.toArray.size ≤ sizeLine; rw [List.size_toArray]; exact hsz)

/-- a list's method -/
theorem r_meth {i : Nat} {D : Addr} {its : Array Value} {n : Nat} {name : Str} {id : String} {pl : Sem Bool} {Q : Value × List Value → Shared → Prop} (S : St s₀ ws L m l s) (hi : l[i]? = some (D, listOf its n)) (slot : Slot "list" name id)
    (hty : typeOf (.builtin id) = pure (.type "method_descriptor")) (h : Q (.builtin id, [.ref D]) s) : wpAny (model prog w) A (getMethod (.ref D) name pl) Q E s :=
  getMethod_list_of slot hty (S.isList hi) (S.noDict hi) h
theorem sameBut_grow {D : Addr} {h' : Heap} {tk : Nat} (e : Heap.SameBut D s.heap h') : Grow [D] s { s with heap := h', toks := tk } := ⟨⟨_, _, rfl⟩, fun b _ n q => (e.2 b fun z => n (List.mem_singleton.mpr z)).trans q⟩
theorem r_append {i : Nat} {D : Addr} {its : Array Value} {n : Nat} {x : Value} (S : St s₀ ws L m l s) (hi : l[i]? = some (D, listOf its n)) (hsz : its.size ≤ sizeLine)
    (h : ∀ n' s', St s₀ ws L m (l.set i (D, listOf (its.push x) n')) s' → Q .none s') : wpAny (model prog w) A (call (.builtin "list.append") [.ref D, x]) Q E s :=
  wpAny_list_append_plain ⟨n, S.get (List.mem_of_getElem? hi)⟩ (fun _ hp hs => by
    obtain ⟨n', hn'⟩ := hp
    exact h n' _ (S.upd hi (sameBut_grow hs) hn' rfl)) hsz
theorem r_pop {i : Nat} {D : Addr} {its : Array Value} {n : Nat} {y : Value} (S : St s₀ ws L m l s) (hi : l[i]? = some (D, listOf its n)) (hy : its[its.size - 1]? = some y) (hsz : its.size ≤ sizeLine)
    (h : ∀ s', St s₀ ws L m (l.set i (D, listOf its.pop (n + 1))) s' → Q y s') : wpAny (model prog w) A (call (.builtin "list.pop") [.ref D]) Q E s :=
  Copied.pop_at (S.get (List.mem_of_getElem? hi)) hy (fun _ hs hn => h _ (S.upd hi (sameBut_grow hs) hn rfl)) hsz

/-- for target in a list -/
theorem r_for {target : Expr} {body : List Stmt} {env : Env} {lA : Addr} {items : List Value} {Q : Flow → Shared → Prop} (J : Nat → (Str → Option Value) → List (Addr × Obj) → Prop)
    (hh : A.handled = none) (S : St s₀ ws L m l s) (hl : ∀ i m l s, J i m l → St s₀ ws L m l s → s.heap.IsList lA items.toArray) (h0 : J 0 m l)
    (ht : (∃ x p, target = .Name x p) ∨ (∃ es k p, target = .Tuple es k p) ∧ ∀ v ∈ items, ∃ a, v = .ref a)
    (turn : ∀ i v m l s I o, items[i]? = some v → J i m l → St s₀ ws L m ((I, o) :: l) s →
      wpAny (model prog w) A (assign target env v) (fun _ s₁ => wpAny (model prog w) A (execs body env) (fun f s₂ => match f with
        | .next | .cont => ∃ m' l', J (i + 1) m' l' ∧ St s₀ ws L m' ((I, o) :: l') s₂
        | .brk => Q .next s₂
        | .ret v => Q (.ret v) s₂) (fun _ _ => False) s₁) (fun _ _ => False) s)
    (done : ∀ m l s, J items.length m l → St s₀ ws L m l s → Q .next s) :
    wpAny (model prog w) A (pyIter (.ref lA)) (fun it s₂ => codeAny (model prog w) A (.forLoop target it body [] env) (fun r s' => match r with | .ok f => Q f s' | .error e => cameBackBy (model prog w) A env (fun _ _ => False) e s') s₂) (fun _ _ => False) s := by
  refine wpAny_pyIter_list (hl 0 m l s h0 S) ?_
  have S₁ := S.push (tk := s.toks) { cls := .type "list_iterator", data := .fields #[.ref lA, .int 0 0] } rfl
  generalize s.heap.objs.size = I at S₁ ⊢
  refine codeAny_forLoop_any (fun n s' => ∃ i m l o, n = items.length + 1 - i ∧ i ≤ items.length ∧ J i m l ∧ St s₀ ws L m ((I, o) :: l) s' ∧ o.cls = .type "list_iterator" ∧ o.data = .fields #[.ref lA, .int i 0]) ?_ (items.length + 1)
    ⟨0, m, l, _, rfl, Nat.zero_le _, h0, S₁, rfl, rfl⟩
  rintro n s' ⟨i, m, l, o, rfl, hi, hJ, S', hc, hd⟩
  have hls := hl i m l s' hJ (S'.sub (List.sublist_cons_self _ _))
  have hit : s'.heap.IsListIter I lA i := ⟨o, S'.get (.head _), hc, hd⟩
  cases hv : items[i]? with
  | none =>
    refine wpAny_pyNext_list_end hh hit hls (by simpa using hv) fun h₁ he₁ => wpAny_execs_nil ?_
    have hlen : i = items.length := Nat.le_antisymm hi (by simpa using hv)
    subst hlen
    have S₂ := S'.sub (List.sublist_cons_self _ _)
    have hne : ∀ p ∈ l, p.1 ≠ I := fun p hp e => by
      have := S'.nodup
      simp only [List.map_cons, List.nodup_cons] at this
      exact this.1 (e ▸ List.mem_map_of_mem (f := (·.1)) hp)
    have cI := S'.cells (I, o) (.head _)
    obtain ⟨hh', t', e'⟩ := S₂.same
    refine done m l _ hJ ⟨S₂.ns.extBut he₁ (fun z => cI.2.1 z.symm), fun b ob nb q => he₁ b ob (fun z => ?_) (S₂.keep b ob nb q), S₂.newL, S₂.above, fun p hp => ⟨he₁ _ _ (hne p hp) (S₂.cells p hp).1, (S₂.cells p hp).2⟩, S₂.nodup, h₁, s'.toks, by rw [e']⟩
    subst z
    rcases cI.2.2 with z | z
    · simp only at z; rw [q] at z; cases z
    · exact nb z
  | some v =>
    have hlt : i < items.length := (List.getElem?_eq_some_iff.mp hv).1
    refine wpAny_pyNext_list_item hit hls (by simpa using hv) fun h₁ hit₁ hs₁ => ?_
    obtain ⟨o', ho', hc', hd'⟩ := hit₁
    have S₂ : St s₀ ws L m ((I, o') :: l) { s' with heap := h₁ } := S'.upd (i := 0) rfl (sameBut_grow (tk := s'.toks) hs₁) ho' rfl
    have fin : wpAny (model prog w) A (assign target env v) (fun _ s₂ => wpAny (model prog w) A (execs body env) (fun f s₃ => match f with
            | .next | .cont => ∃ k, k < items.length + 1 - i ∧ ∃ i m l o, k = items.length + 1 - i ∧ i ≤ items.length ∧ J i m l ∧ St s₀ ws L m ((I, o) :: l) s₃ ∧ o.cls = .type "list_iterator" ∧ o.data = .fields #[.ref lA, .int i 0]
            | .brk => Q .next s₃
            | .ret v => Q (.ret v) s₃) (notedBy (model prog w) A env fun e s' => cameBackBy (model prog w) A env (fun _ _ => False) e s') s₂) (notedBy (model prog w) A env fun e s' => cameBackBy (model prog w) A env (fun _ _ => False) e s') { s' with heap := h₁ } := by
      refine wpAny_mono (turn i v m l _ I o' hv hJ S₂) (fun _ s₂ h₂ => wpAny_mono h₂ (fun f s₃ h₃ => ?_) fun _ _ x => x.elim) fun _ _ x => x.elim
      cases f with
      | next => obtain ⟨m', l', hJ', S₃⟩ := h₃; exact ⟨items.length + 1 - (i + 1), by omega, i + 1, m', l', o', rfl, hlt, hJ', S₃, hc', hd'⟩
      | cont => obtain ⟨m', l', hJ', S₃⟩ := h₃; exact ⟨items.length + 1 - (i + 1), by omega, i + 1, m', l', o', rfl, hlt, hJ', S₃, hc', hd'⟩
      | brk => exact h₃
      | ret v => exact h₃
    rcases ht with ⟨x, p, rfl⟩ | ⟨⟨es, k, p, rfl⟩, hr⟩
    · exact wpAny_pure fin
    · obtain ⟨T, rfl⟩ := hr v (List.mem_of_getElem? hv)
      exact wpAny_letOwnedTupleGo_listiter ⟨o', ho', hc', hd'⟩ fin
/-- a call of a def of the text by its name -/
theorem r_call {x : Str} {p pos : Pos} {f : Addr} {e : Expr} {rest : List Expr} {env : Env} (hf : ∀ Q : Value → Shared → Prop, Q (.ref f) s → wpAny (model prog w) A (eval (.Name x p) env) Q E s) (G : Gl K s.heap) (hk : keepIn K (.ref f) = true)
    (h : wpAny (model prog w) A (spliced (backTo pos (starEach (e :: rest) env))) (fun vs s₁ => Gl K s₁.heap ∧ wpAny (model prog w) A (call (.ref f) vs) Q E s₁) E s)
    (he : starEach (e :: rest) env = (false, eval e env) :: starEach rest env := by rfl) (hplain : (backTo pos (starEach rest env)).any (·.1) = false := by rfl) :
    wpAny (model prog w) A (eval (.Call (.Name x p) (e :: rest) [] pos) env) Q E s :=
  Call_ (hf _ (callWith_K G.X hk (wpAny_mono h (fun _ _ ⟨g, k⟩ => ⟨g.X, k⟩) fun _ _ x => x) he hplain))
theorem r_call0 {x : Str} {p pos : Pos} {f : Addr} {env : Env} (hf : ∀ Q : Value → Shared → Prop, Q (.ref f) s → wpAny (model prog w) A (eval (.Name x p) env) Q E s) (G : Gl K s.heap) (hk : keepIn K (.ref f) = true)
    (h : wpAny (model prog w) A (call (.ref f) []) Q E s) : wpAny (model prog w) A (eval (.Call (.Name x p) [] [] pos) env) Q E s :=
  Call_ (hf _ (callWith_K0 G.X hk h))
theorem r_callT {x : Str} {p pos : Pos} {T : String} {e : Expr} {rest : List Expr} {env : Env} (hf : ∀ Q : Value → Shared → Prop, Q (.type T) s → wpAny (model prog w) A (eval (.Name x p) env) Q E s)
    (h : wpAny (model prog w) A (spliced (backTo pos (starEach (e :: rest) env))) (fun vs s₁ => wpAny (model prog w) A (call (.type T) vs) Q E s₁) E s)
    (he : starEach (e :: rest) env = (false, eval e env) :: starEach rest env := by rfl) (hplain : (backTo pos (starEach rest env)).any (·.1) = false := by rfl) :
    wpAny (model prog w) A (eval (.Call (.Name x p) (e :: rest) [] pos) env) Q E s := Call_ (hf _ (PyProof.Rows.callWith_type1 h he hplain))
theorem r_callB {x : Str} {p pos : Pos} {id : String} {e : Expr} {rest : List Expr} {env : Env} (hf : ∀ Q : Value → Shared → Prop, Q (.builtin id) s → wpAny (model prog w) A (eval (.Name x p) env) Q E s)
    (h : wpAny (model prog w) A (spliced (backTo pos (starEach (e :: rest) env))) (fun vs s₁ => wpAny (model prog w) A (call (.builtin id) vs) Q E s₁) E s)
    (he : starEach (e :: rest) env = (false, eval e env) :: starEach rest env := by rfl) (hplain : (backTo pos (starEach rest env)).any (·.1) = false := by rfl) :
    wpAny (model prog w) A (eval (.Call (.Name x p) (e :: rest) [] pos) env) Q E s := Call_ (hf _ (PyProof.Rows.callWith_builtin1 h he hplain))
theorem r_item {D : Addr} {its : Array Value} {k : Int} {u : Tok} {x : Value} {value slice : Expr} (hl : s.heap.IsList D its) (h0 : 0 ≤ k) (hfit : k < 2 ^ 63) (hx : its[k.toNat]? = some x) (h : Q x s)
    (hs : subscripted slice false (.ref D) (.int k u) = operate [.ref D, .int k u] (getItem (.ref D) (.int k u)) := by with_unfolding_all rfl) : wpAny (model prog w) A (subscriptTail value slice (.ref D) (.int k u)) Q E s :=
  tail_any hl.typeIs slot_list_getitem.lookup (wpAny_getItem_list hl h0 hfit hx h) hs
theorem r_itemN {D : Addr} {its : Array Value} {k : Int} {u : Tok} {x : Value} {value slice : Expr} (hl : s.heap.IsList D its) (h0 : k < 0) (h1 : -(its.size : Int) ≤ k) (hfit : -(2 ^ 63) ≤ k) (hx : its[(k + its.size).toNat]? = some x) (h : Q x s)
    (hs : subscripted slice false (.ref D) (.int k u) = operate [.ref D, .int k u] (getItem (.ref D) (.int k u)) := by with_unfolding_all rfl) : wpAny (model prog w) A (subscriptTail value slice (.ref D) (.int k u)) Q E s :=
  tail_any hl.typeIs slot_list_getitem.lookup (wpAny_getItem_list_neg hl h0 h1 hfit hx h) hs
/-- a row of written texts, of written ints -/
inductive StrLits : List Expr → List Str → Prop
  | nil : StrLits [] []
  | cons {x : Str} {k : Nat} {p : Pos} {es : List Expr} {xs : List Str} : StrLits es xs → StrLits (.Constant (.str x) k p :: es) (x :: xs)
inductive IntLits : List Expr → List Int → Prop
  | nil : IntLits [] []
  | cons {x : Int} {k : Nat} {p : Pos} {es : List Expr} {xs : List Int} : IntLits es xs → IntLits (.Constant (.int x) k p :: es) (x :: xs)
theorem r_strs {es : List Expr} {xs : List Str} {env : Env} {pos : Pos} {Q : List Value → Shared → Prop} (hL : StrLits es xs) (S : St s₀ ws L m l s) (h : ∀ vs s', StrsAre vs xs → St s₀ ws L m l s' → Q vs s') :
    wpAny (model prog w) A (spliced (backTo pos (starEach es env))) Q E s := by
  induction hL generalizing s Q with
  | nil => exact spliced_none (h _ _ .nil S)
  | cons _ ih => exact spliced_more (r_str S fun _ _ S => ih S fun _ _ hv S => h _ _ (.cons _ _ hv) S)
theorem r_ints {es : List Expr} {xs : List Int} {env : Env} {pos : Pos} {Q : List Value → Shared → Prop} (hL : IntLits es xs) (S : St s₀ ws L m l s) (h : ∀ vs s', IntsAre vs xs → St s₀ ws L m l s' → Q vs s') :
    wpAny (model prog w) A (spliced (backTo pos (starEach es env))) Q E s := by
  induction hL generalizing s Q with
  | nil => exact spliced_none (h _ _ .nil S)
  | cons _ ih => exact spliced_more (r_int S fun _ _ S => ih S fun _ _ hv S => h _ _ (.cons _ _ hv) S)
theorem Strs_len {vs : List Value} {xs : List Str} (h : StrsAre vs xs) : vs.length = xs.length := by induction h <;> simp_all
end
end Mine
end

section
open PySem PySem.W PyProof.Rows
set_option maxRecDepth 100000
set_option maxHeartbeats 1000000
namespace Mine
noncomputable abbrev KK (w : World) : Frag := KF w.params
theorem hex_item (d : Nat) (hd : d < 16) : Txt.item (Str.ofString "0123456789abcdef") (d : Int) = tx [hexd d] := by
  have : ∀ d : Fin 16, Txt.item (Str.ofString "0123456789abcdef") ((d.val : Nat) : Int) = tx [hexd d.val] := by decide +kernel
  exact this ⟨d, hd⟩
section
variable {prog : Program} {w : World} {A : Around} {E : Value → Shared → Prop} {s : Shared} {Q : Value → Shared → Prop}
theorem figures_call {k n : Nat} {t : Tok} (hn : n < 4096) (G : Gl (KK w) s.heap) (hA : Ok k A) (hk : k ≤ 600) (h : ∀ t s', Grow [] s s' → Q (.str (tx (figs n)) t) s') :
    wpAny (model prog w) A (call (.ref 197) [.int n t]) Q E s := by
  refine wpAny_call (enter (K := KK w) (l := []) (ws := []) (binds := [(Str.ofString "number", .int n t)]) G hA (by exact rfl) (by exact rfl) (BindsTo.of_eq (by kernel_rfl)) (locs (by kernel_rfl)) (by intro p hp; cases hp) List.nodup_nil ?_ hk)
  intro L s S
  refine r_let (r_str S fun t1 s S => ⟨_, _, _, _, S, fun s S => ?_⟩)
  refine r_stmt (r_while (fun j s' => ∃ (v : Nat) (t u : Tok) (m : Str → Option Value) (txt : List Nat), St _ [] L m [] s' ∧ m (Str.ofString "number") = some (.int v t) ∧ m (Str.ofString "text") = some (.str (tx txt) u) ∧ figs v ++ txt = figs n ∧ v ≤ n ∧ txt.length ≤ 3 ∧ j = v) n
    ⟨n, t, t1, _, [], S, rfl, rfl, by simp, Nat.le_refl _, by simp, rfl⟩ ?_)
  clear S
  rintro j s' ⟨v, t, u, m, txt, S, hm1, hm2, hf, hv, hl, hj⟩
  refine wpAny_isTrue_Compare1 (r_local S hm1 (r_int S fun t2 s S => gt_int (wpAny_truthy_bool ?_)))
  by_cases h0 : v = 0
  · subst h0
    simp only [figs_zero, List.nil_append] at hf
    subst hf
    rw [if_neg (by simp)]
    refine r_ret (r_local S hm2 (h _ _ S.grow))
  · rw [if_pos (by simp; omega)]
    have e1 : (v : Int).fmod 16 = ((v % 16 : Nat) : Int) := by rw [Int.fmod_eq_emod_of_nonneg _ (by decide)]; omega
    have e2 : (v : Int).fdiv 16 = ((v / 16 : Nat) : Int) := by rw [Int.fdiv_eq_ediv_of_nonneg _ (by decide)]; omega
    have l1 : (figs v).length ≤ 3 := figs_len (k := 3) (by omega)
    have l2 : (figs v).length + txt.length ≤ 3 := by rw [← List.length_append, hf]; exact figs_len (k := 3) (by omega)
    rw [figs_pos h0, List.append_assoc] at hf
    rw [figs_pos h0] at l2
    refine r_let (wpAny_BinOp (Subscript_ (r_str S fun t3 s S => wpAny_BinOp (r_local S hm1 (r_int S fun t4 s S => r_mod S (by decide) fun t5 s S => ?_)))))
    rw [e1]
    refine item_str (by unfold fitsSsize; simp; omega) (by show -((16 : Nat) : Int) ≤ _; omega) (by show _ < ((16 : Nat) : Int); omega) fun _ => ?_
    rw [hex_item _ (by omega)]
    refine r_local S.tok hm2 (r_cat S.tok (by rw [tx_length, tx_length]; simp; rw [sizeLine_eq]; omega) fun t6 s S => ⟨_, _, _, _, S, fun s S => ?_⟩)
    rw [tx_append] at S
    refine r_let (wpAny_BinOp (r_local S hm1 (r_int S fun t4 s S => r_div S (by decide) (PyProof.noPylong_small (by omega)) fun t5 s S => ⟨_, _, _, _, S, fun s S => ?_⟩)))
    rw [e2] at S
    refine wpAny_execs_nil ⟨v / 16, by omega, v / 16, _, _, _, _, S, rfl, rfl, hf, by omega, by simp at l2 ⊢; omega, rfl⟩
end
end Mine
end

section
open PySem PySem.W PyProof.Rows
set_option maxRecDepth 100000
set_option maxHeartbeats 1000000
namespace Mine
theorem o_1 : Str.ofString "(" = tx [40] := by decide +kernel
theorem o_2 : Str.ofString ")" = tx [41] := by decide +kernel
theorem o_comms : [Str.ofString "+", Str.ofString "*", Str.ofString "|", Str.ofString "^"] = comms.map tx := by decide +kernel
theorem o_sgns : [Str.ofString "+", Str.ofString "-", Str.ofString "*", Str.ofString "**", Str.ofString "|", Str.ofString "/", Str.ofString "^", Str.ofString "<<"] = sgns.map tx := by decide +kernel
section
variable {prog : Program} {w : World} {A : Around} {E : Value → Shared → Prop} {s : Shared} {Q : Value → Shared → Prop}
theorem signs_call {k : Nat} (G : Gl (KK w) s.heap) (hA : Ok k A) (hk : k ≤ 600) (h : ∀ D vs s', Grow [] s s' → s.heap.get? D = none → s'.heap.get? D = some (listOf (List.toArray vs) 0) → StrsAre vs (sgns.map tx) → Q (.ref D) s') :
    wpAny (model prog w) A (call (.ref 211) []) Q E s := by
  refine wpAny_call (enter (K := KK w) (l := []) (ws := []) (binds := []) G hA (by exact rfl) (by exact rfl) (BindsTo.of_eq (by kernel_rfl)) (locs (by kernel_rfl)) (by intro p hp; cases hp) List.nodup_nil ?_ hk)
  intro L s S
  refine r_ret ?_
  refine List_ ?_
  refine r_strs (.cons (.cons (.cons (.cons (.cons (.cons (.cons (.cons .nil)))))))) S fun vs s hv S => ?_
  refine r_newList S (by rw [Strs_len hv]; exact Nat.le_of_ble_eq_true rfl) fun D s' S' hn => ?_
  refine h D _ _ S'.grow ?_ (S'.get (.head _)) ?_
  · cases q : Shared.heap _ |>.get? D with
    | none => rfl
    | some o => rw [S.keep D o List.not_mem_nil q] at hn; cases hn
  · rw [← o_sgns]
    exact hv
theorem r_cat5 {s₀ : Shared} {ws : List Addr} {L : Addr} {m : Str → Option Value} {lg : List (Addr × Obj)} {cn : Str} {cs : Scope} {a : Addr} {ccd : Value} {x y z : Str} {l sg r : List Nat} {t1 t2 t3 : Tok} {k1 k2 : Nat} {p1 p2 p3 p4 p5 p6 p7 p8 p9 : Pos}
    (S : St s₀ ws L m lg s) (h1 : m x = some (.str (tx l) t1)) (h2 : m y = some (.str (tx sg) t2)) (h3 : m z = some (.str (tx r) t3)) (hz : l.length + sg.length + r.length + 2 ≤ sizeLine)
    (h : ∀ t s', St s₀ ws L m lg s' → Q (.str (tx (40 :: (l ++ sg ++ r ++ [41]))) t) s')
    (hk : cs.kind = .function := by rfl) (l1 : (envOf cn cs L a ccd).kindOf x = some .local := by rfl) (l2 : (envOf cn cs L a ccd).kindOf y = some .local := by rfl) (l3 : (envOf cn cs L a ccd).kindOf z = some .local := by rfl)
    (d1 : (x == ("__debug__" : Str)) = false := by decide) (d2 : (y == ("__debug__" : Str)) = false := by decide) (d3 : (z == ("__debug__" : Str)) = false := by decide) :
    wpAny (model prog w) A (eval (.BinOp (.BinOp (.BinOp (.BinOp (.Constant (.str (Str.ofString "(")) k1 p1) .Add (.Name x p2) p3) .Add (.Name y p4) p5) .Add (.Name z p6) p7) .Add (.Constant (.str (Str.ofString ")")) k2 p8) p9) (envOf cn cs L a ccd)) Q E s := by
  refine wpAny_BinOp ?_
  refine wpAny_BinOp ?_
  refine wpAny_BinOp ?_
  refine wpAny_BinOp ?_
  refine r_str S fun t5 s S => ?_
  refine r_local S h1 ?_ hk l1 d1
  rw [o_1]
  refine r_cat S (by rw [tx_length, tx_length]; simp only [List.length_singleton]; omega) fun t6 s S => ?_
  rw [tx_append]
  refine r_local S h2 ?_ hk l2 d2
  refine r_cat S (by rw [tx_length, tx_length]; simp only [List.length_append, List.length_singleton]; omega) fun t7 s S => ?_
  rw [tx_append]
  refine r_local S h3 ?_ hk l3 d3
  refine r_cat S (by rw [tx_length, tx_length]; simp only [List.length_append, List.length_singleton]; omega) fun t7 s S => ?_
  rw [tx_append]
  refine r_str S fun t8 s S => ?_
  rw [o_2]
  refine r_cat S (by rw [tx_length, tx_length]; simp only [List.length_append, List.length_singleton]; omega) fun t9 s S => ?_
  rw [tx_append]
  have e : [40] ++ l ++ sg ++ r ++ [41] = 40 :: (l ++ sg ++ r ++ [41]) := by simp
  rw [e]
  exact h _ _ S
theorem joined_call {k : Nat} {l sg r : List Nat} {t1 t2 t3 : Tok} (G : Gl (KK w) s.heap) (hA : Ok k A) (hk : k ≤ 600) (hz : l.length + sg.length + r.length + 2 ≤ sizeLine) (h : ∀ t s', Grow [] s s' → Q (.str (tx (joined l sg r)) t) s') :
    wpAny (model prog w) A (call (.ref 218) [.str (tx l) t1, .str (tx sg) t2, .str (tx r) t3]) Q E s := by
  refine wpAny_call (enter (K := KK w) (l := []) (ws := []) (binds := [(Str.ofString "left", .str (tx l) t1), (Str.ofString "sign", .str (tx sg) t2), (Str.ofString "right", .str (tx r) t3)]) G hA (by exact rfl) (by exact rfl) (BindsTo.of_eq (by kernel_rfl)) (locs (by kernel_rfl)) (by intro p hp; cases hp) List.nodup_nil ?_ hk)
  intro L s S
  refine r_stmt ?_
  refine wpAny_If ?_
  refine isTrue_and ?_
  refine wpAny_isTrue_Compare1 ?_
  refine r_local S rfl ?_
  refine List_ ?_
  refine r_strs (.cons (.cons (.cons (.cons .nil)))) S fun vs s hv S => ?_
  refine r_newList S (by rw [Strs_len hv]; exact Nat.le_of_ble_eq_true rfl) fun D s S hn => ?_
  refine in_list_strs (S.isList (i := 0) rfl) hv ?_
  refine wpAny_truthy_bool ?_
  rw [o_comms, any_tx]
  by_cases hc : comm sg = true
  · rw [show comms.any (fun x => x == sg) = true from hc, if_pos rfl]
    refine isTrue_and ?_
    refine wpAny_isTrue_Compare1 ?_
    refine r_local S rfl ?_
    refine r_local S rfl ?_
    refine lt_str ?_
    refine wpAny_truthy_bool ?_
    by_cases hr : r < l
    · rw [if_pos (by simpa using hr)]
      refine isTrue_and_nil ?_
      rw [if_pos rfl]
      refine r_ret ?_
      refine r_cat5 S rfl rfl rfl (by omega) fun t s S => ?_
      have e : 40 :: (r ++ sg ++ l ++ [41]) = joined l sg r := by unfold joined; rw [if_pos ⟨hc, hr⟩]
      rw [e]
      exact h _ _ S.grow
    · rw [if_neg (by simpa using hr), if_neg (by simp)]
      refine wpAny_execs_nil ?_
      refine r_ret ?_
      refine r_cat5 S rfl rfl rfl (by omega) fun t s S => ?_
      have e : 40 :: (l ++ sg ++ r ++ [41]) = joined l sg r := by unfold joined; rw [if_neg (fun q => hr q.2)]
      rw [e]
      exact h _ _ S.grow
  · rw [show comms.any (fun x => x == sg) = false from (Bool.not_eq_true _).mp hc, if_neg (by simp), if_neg (by simp)]
    refine wpAny_execs_nil ?_
    refine r_ret ?_
    refine r_cat5 S rfl rfl rfl (by omega) fun t s S => ?_
    have e : 40 :: (l ++ sg ++ r ++ [41]) = joined l sg r := by unfold joined; rw [if_neg (fun q => hc q.1)]
    rw [e]
    exact h _ _ S.grow
theorem isterm_call {k : Nat} {n : Int} {t : Tok} (G : Gl (KK w) s.heap) (hA : Ok k A) (hk : k ≤ 600) (h : ∀ s', Grow [] s s' → Q (.bool (decide (n < 256))) s') :
    wpAny (model prog w) A (call (.ref 185) [.int n t]) Q E s := by
  refine wpAny_call (enter (K := KK w) (l := []) (ws := []) (binds := [(Str.ofString "x", .int n t)]) G hA (by exact rfl) (by exact rfl) (BindsTo.of_eq (by kernel_rfl)) (locs (by kernel_rfl)) (by intro p hp; cases hp) List.nodup_nil ?_ hk)
  intro L s S
  refine r_ret ?_
  refine wpAny_Compare1 ?_
  refine r_local S rfl ?_
  refine r_glob (K := KK w) (S.gl0 G) (by exact rfl) ?_
  refine lt_int ?_
  exact h _ S.grow
end
end Mine
end

section
open PySem PySem.W PyProof.Rows
set_option maxRecDepth 100000
namespace Mine
theorem slot_search : Slot "re.Pattern" "search" "re.Pattern.search" :=
  .of (owner := "re.Pattern") (n := "search") (by rw [typeLookup_type, builtinLookup_eq_fast]; kernel_rfl) (by decide +kernel) (by decide +kernel) (by decide +kernel)
    (by first | exact .inl (by decide +kernel) | exact .inr (by decide +kernel)) (by rw [isSubtype_type]; kernel_rfl)
theorem entry_search : entryFor table "re.Pattern.search" = some Builtin.«re.Pattern.search» := entryFor_of_tree (by kernel_rfl)
theorem args_search (a b : Value) : argsOk "re.Pattern.search" ⟨[a, b], []⟩ := by unfold argsOk; kernel_rfl
theorem type_search : typeOf (.builtin "re.Pattern.search") = pure (.type "method_descriptor") := by show builtinType _ = _; rw [builtinType_eq_fast]; kernel_rfl
theorem plain_pattern : PlainAttrs "re.Pattern" := ⟨⟨"object.__getattribute__", by rw [typeLookup_type, builtinLookup_eq_fast]; kernel_rfl, by decide +kernel⟩, by rw [typeLookup_type, builtinLookup_eq_fast]; kernel_rfl⟩
open Builtin.Re in
theorem reNamed_one (v : Value) : reNamed "re.Pattern.search" "search" ["string", "pos", "endpos"] 1 [v] [] = pure [some v, none, none] := by kernel_rfl

section
open PySem.Sre PySem.Builtin PySem.Builtin.Re
theorem admitted_none (m : M) (fuel s : Nat) (seen : Sre.Seen) (h : ∀ p, s ≤ p → p < m.lim → ∀ seen, ∃ seen', inSet m.code (m.text.getD p 0) m.code.size 5 true seen = .ok (false, seen')) : ∃ seen', m.admitted fuel s seen = .ok (none, seen') := by
  induction fuel generalizing s seen with
  | zero => exact ⟨seen, rfl⟩
  | succ fuel ih =>
    unfold M.admitted
    by_cases hs : s ≥ m.lim
    · rw [if_pos hs]; exact ⟨seen, rfl⟩
    · rw [if_neg hs]
      obtain ⟨seen', e⟩ := h s (Nat.le_refl _) (by omega) seen
      rw [e]
      exact ih (s + 1) seen' fun p hp => h p (by omega)
/-- the machine has said no and nothing waits -/
def SaysNo (m : M) : Prop := m.answer = some false ∧ m.frames = [] ∧ m.outcome = none
theorem attemptFrom_no (m : M) (s : Nat) (first : Bool) (h1 : m.hasFirstSet = true) (hf : m.frames = []) (ho : m.outcome = none) (h : ∀ p, s ≤ p → p < m.lim → ∀ seen, ∃ seen', inSet m.code (m.text.getD p 0) m.code.size 5 true seen = .ok (false, seen')) :
    SaysNo (m.attemptFrom s first) := by
  unfold M.attemptFrom
  rw [h1]
  obtain ⟨seen', e⟩ := admitted_none m (m.lim + 1 - s) s m.seen h
  rw [e]
  exact ⟨rfl, hf, ho⟩
theorem forSearch_no (code text : Array Nat) (lim : Nat) (h0 : code.getD 0 0 = 14) (h2 : code.getD 2 0 = 4) (h : ∀ p, p < lim → ∀ seen, ∃ seen', inSet code (text.getD p 0) code.size 5 true seen = .ok (false, seen')) :
    SaysNo (forSearch code text 0 0 lim false) := by
  unfold forSearch
  dsimp only
  split
  · exact ⟨rfl, rfl, rfl⟩
  · refine attemptFrom_no _ 0 true ?_ rfl rfl fun p _ hp => h p hp
    show ((match ops[code.getD 0 0]? with | some .INFO => true | _ => false) && code.getD 2 0 == 4) = true
    rw [h0, h2]; rfl
theorem step_no {m : M} (h : SaysNo m) : (m.runFor reTurnSteps).outcome = some .failed := by
  obtain ⟨h1, h2, h3⟩ := h
  have e : m.step = { m with outcome := some .failed } := by unfold M.step; rw [h3, h1, h2]; rfl
  show (M.runFor 4 m).outcome = _
  unfold M.runFor
  rw [h3, e]
  rfl
section
variable {MM : Model} {A : Around} {E : Value → Shared → Prop} {s : Shared}
theorem runToEnd_no {m : M} {Q : Option Sre.M → Shared → Prop} (h : SaysNo m) (hq : Q none s) : wpAny MM A (reRunToEnd m) Q E s := by
  unfold reRunToEnd
  have e : reDrive (2 ^ 64) m = pure (m.runFor reTurnSteps) := by
    rw [show (2 : Nat) ^ 64 = (2 ^ 64 - 1) + 1 from by decide]
    unfold reDrive
    simp only [step_no h]
    rfl
  rw [e]
  refine wpAny_bind (wpAny_pure ?_)
  refine wpAny_bind ?_
  refine wpAny_forIn_list _ (fun _ _ s' => s' = s) _ (fun x rest b s' hs => ?_) (fun b s' hs => ?_) _ _ rfl
  · subst hs
    split
    · exact wpAny_bind (wpAny_rule (wpAny_pure rfl))
    · exact wpAny_pure rfl
  · subst hs
    rw [step_no h]
    exact wpAny_pure hq
end
variable {prog : Program} {w : World} {A : Around} {E : Value → Shared → Prop} {s : Shared}
theorem search_none {P C : Addr} {fs items : Array Value} {n : Nat} {x : Str} {t : Tok} {Q : Value → Shared → Prop} (hP : s.heap.get? P = some { cls := .type "re.Pattern", data := .fields fs }) (f2 : reRawNat (fs.getD 2 .none) = 0) (f5 : fs.getD 5 .none = .ref C)
    (f6 : reRawNat (fs.getD 6 .none) = 0) (hC : s.heap.get? C = some { cls := .type "tuple", data := .seq items n }) {code : Array Nat} (hc : (items.map reRawOf).map (·.toNat) = code) (h0 : code.getD 0 0 = 14) (h2 : code.getD 2 0 = 4)
    (h : ∀ c ∈ x.cps.toList, ∀ seen, ∃ seen', inSet code c code.size 5 true seen = .ok (false, seen')) (hQ : Q .none s) :
    wpAny (model prog w) A (call (.builtin "re.Pattern.search") [.ref P, .str x t]) Q E s := by
  refine wpAny_call_entry slot_search ⟨_, hP, rfl⟩ entry_search ?_ (args_search _ _)
  unfold Builtin.«re.Pattern.search» reTarget
  refine wpAny_bind ?_
  dsimp only
  rw [reNamed_one]
  refine wpAny_bind (wpAny_pure ?_)
  dsimp only
  refine wpAny_bind (wpAny_pure ?_)
  refine wpAny_bind (wpAny_pure ?_)
  refine wpAny_bind (wpAny_fieldsOf hP rfl ?_)
  refine wpAny_bind (m := reTextOf (.str x t)) ?_
  refine wpAny_of_eq (a := (x.cps, 0)) rfl ?_
  rw [f6]
  dsimp only
  rw [if_neg (by decide), if_neg (by decide)]
  refine wpAny_bind (wpAny_of_eq (a := ()) rfl ?_)
  refine wpAny_bind (m := reRawItems _) ?_
  rw [f5]
  unfold reRawItems
  refine wpAny_bind (wpAny_seqItems hC rfl (wpAny_pure (wpAny_pure ?_)))
  show wpAny _ _ (reAnswer _ (forSearch ((items.map reRawOf).map (·.toNat)) x.cps (reRawNat (fs.getD 2 Value.none)) (Min.min (Int.toNat 0) x.cps.size) (Min.min (2 ^ 63 - 1 : Int).toNat x.cps.size) false)) _ _ _
  rw [hc, f2, show Min.min (Int.toNat 0) x.cps.size = 0 from Nat.zero_min _]
  unfold reAnswer
  refine wpAny_bind (runToEnd_no (forSearch_no _ _ _ h0 h2 fun p hp => ?_) (wpAny_pure ⟨_, rfl, hQ⟩))
  have hp' : p < x.cps.size := Nat.lt_of_lt_of_le hp (Nat.min_le_right _ _)
  refine h _ ?_
  rw [Array.getD_eq_getD_getElem?, Array.getElem?_eq_getElem hp']
  simp
end
end Mine
end

section
open PySem PyProof.Rows
namespace Mine
def good (c : Nat) : Bool := 32 ≤ c && c < 127
def okName (nm : List Nat) : Prop := nm.length ≤ 100 ∧ ∀ c ∈ nm, good c = true
def low (nm : List Nat) : List Nat := nm.map lo1
def hget (ps : List (List Nat × List Nat)) (nm : List Nat) : Option (List Nat) := (ps.find? fun p => low p.1 == low nm).map (·.2)
/-- a number's text -/
def dec (n : Nat) : List Nat := (Str.ofString (toString (n : Int))).cps.toList
theorem tx_dec (n : Nat) : tx (dec n) = Str.ofString (toString (n : Int)) := by simp [tx, dec]
theorem dec_ok {n : Nat} (h : n < 400) : okName (dec n) := by
  have : ∀ n : Fin 400, (dec n.val).length ≤ 100 ∧ ∀ c ∈ dec n.val, good c = true := by decide +kernel
  exact this ⟨n, h⟩
def texted (qs : List (List Nat × Nat)) : List (List Nat × List Nat) := qs.map fun q => (q.1, dec q.2)
def qget (qs : List (List Nat × Nat)) (nm : List Nat) : Option Nat := (qs.find? fun q => low q.1 == low nm).map (·.2)
theorem hget_texted (qs : List (List Nat × Nat)) (nm : List Nat) : hget (texted qs) nm = (qget qs nm).map dec := by
  unfold hget texted qget
  rw [List.find?_map, Option.map_map, Option.map_map]
  rfl
def sgn (w : Nat) : List Nat := sgns.getD w []
/-- what the code keeps: the pile, the table -/
abbrev Kept := List Nat × List (List Nat × Nat)
def lastN (l : List Nat) : Nat := l.getLastD 0
/-- the two topmost (a lone one twice), and what lies below -/
def two (pile : List Nat) : Nat × Nat × List Nat :=
  let high := lastN pile
  let rest := pile.dropLast
  if rest = [] then (high, high, []) else (lastN rest, high, rest.dropLast)
def sides (sg : List Nat) (a b : Nat) : Nat × Nat := if comm sg = true ∧ b < a then (b, a) else (a, b)
def keptJoin (st : Kept) (w : Nat) (g : Bool) : Kept :=
  let t := two st.1
  let p := sides (sgn w) t.1 t.2.1
  let nm := named p.1 (sgn w) p.2 g
  match qget st.2 nm with
  | some n => (t.2.2 ++ [n], st.2)
  | none => (t.2.2 ++ [256 + st.2.length], st.2 ++ [(nm, 256 + st.2.length)])
def keptStep (st : Kept) : Deed → Kept
  | .leaf n => (st.1 ++ [n], st.2)
  | .join w g => keptJoin st w g
def kept (ds : List Deed) : Kept := ds.foldl keptStep ([255], [])
theorem kept_snoc (ds : List Deed) (d : Deed) : kept (ds ++ [d]) = keptStep (kept ds) d := by simp [kept]

/-- what holds of the kept state -/
structure KeptOk (st : Kept) : Prop where
  ne : st.1 ≠ []
  small : ∀ n ∈ st.1, n < 256 + st.2.length
  nums : ∀ q ∈ st.2, q.2 < 256 + st.2.length
  names : ∀ q ∈ st.2, okName q.1
theorem up1_good {c : Nat} (h : good c = true) : good (up1 c) = true := by
  simp only [good, Bool.and_eq_true, decide_eq_true_eq] at h ⊢
  unfold up1
  split <;> omega
theorem hexd_good {d : Nat} (h : d < 16) : good (hexd d) = true := by
  simp only [good, Bool.and_eq_true, decide_eq_true_eq]
  unfold hexd
  split <;> omega
theorem figs_good (n : Nat) : ∀ c ∈ figs n, good c = true := by
  induction n using Nat.strongRecOn with
  | ind n ih =>
    by_cases h : n = 0
    · subst h; rw [figs_zero]; simp
    · rw [figs_pos h]
      intro c hc
      rcases List.mem_append.mp hc with hc | hc
      · exact ih (n / 16) (by omega) c hc
      · rw [List.mem_singleton.mp hc]; exact hexd_good (by omega)
theorem sgn_mem {w : Nat} (h : w < 8) : sgn w ∈ sgns := by
  unfold sgn
  rw [List.getD_eq_getElem?_getD, List.getElem?_eq_getElem (by simpa [sgns] using h)]
  simp
theorem sgns_good : ∀ sg ∈ sgns, sg.length ≤ 2 ∧ ∀ c ∈ sg, good c = true := by decide
theorem sgns_ascii : ∀ sg ∈ sgns, ∀ c ∈ sg, c < 128 := by decide
theorem named_ok {a b : Nat} {sg : List Nat} (g : Bool) (ha : a < 4096) (hb : b < 4096) (hs : sg ∈ sgns) : okName (named a sg b g) := by
  have la := figs_len (k := 3) (n := a) (by omega)
  have lb := figs_len (k := 3) (n := b) (by omega)
  obtain ⟨l1, l2⟩ := sgns_good sg hs
  have hm : ∀ c ∈ figs a ++ sg ++ figs b, good c = true := by
    intro c hc
    rcases List.mem_append.mp hc with hc | hc
    · rcases List.mem_append.mp hc with hc | hc
      · exact figs_good a c hc
      · exact l2 c hc
    · exact figs_good b c hc
  unfold named
  split
  · refine ⟨by simp only [List.length_map, List.length_append]; omega, fun c hc => ?_⟩
    obtain ⟨d, hd, rfl⟩ := List.mem_map.mp hc
    exact up1_good (hm d hd)
  · exact ⟨by simp only [List.length_append]; omega, hm⟩
theorem lastN_mem {l : List Nat} (h : l ≠ []) : lastN l ∈ l := by
  unfold lastN
  rw [List.getLastD_eq_getLast?, List.getLast?_eq_some_getLast h]
  exact List.getLast_mem h
theorem two_mem {pile : List Nat} (h : pile ≠ []) : (two pile).1 ∈ pile ∧ (two pile).2.1 ∈ pile ∧ ∀ n ∈ (two pile).2.2, n ∈ pile := by
  unfold two
  dsimp only
  split
  · exact ⟨lastN_mem h, lastN_mem h, by simp⟩
  · rename_i hr
    exact ⟨List.dropLast_subset _ (lastN_mem hr), lastN_mem h, fun n hn => List.dropLast_subset _ (List.dropLast_subset _ hn)⟩
theorem sides_mem (sg : List Nat) (a b : Nat) : ((sides sg a b).1 = a ∨ (sides sg a b).1 = b) ∧ ((sides sg a b).2 = a ∨ (sides sg a b).2 = b) := by
  unfold sides
  split <;> simp
theorem qget_mem {qs : List (List Nat × Nat)} {nm : List Nat} {n : Nat} (h : qget qs nm = some n) : ∃ q ∈ qs, q.2 = n := by
  unfold qget at h
  obtain ⟨q, hq, e⟩ := Option.map_eq_some_iff.mp h
  exact ⟨q, List.mem_of_find?_eq_some hq, e⟩
theorem keptJoin_len (st : Kept) (w : Nat) (g : Bool) : (keptJoin st w g).2.length ≤ st.2.length + 1 := by
  unfold keptJoin
  dsimp only
  split <;> simp
theorem keptOk_step {st : Kept} (h : KeptOk st) (hl : st.2.length ≤ 100) {d : Deed} (hd : d.ok) : KeptOk (keptStep st d) := by
  cases d with
  | leaf n =>
    refine ⟨by simp [keptStep], fun k hk => ?_, h.nums, h.names⟩
    rcases List.mem_append.mp hk with hk | hk
    · exact h.small k hk
    · rw [List.mem_singleton.mp hk]
      have : n = 1 ∨ n = 10 ∨ n = 171 ∨ n = 255 := hd
      omega
  | join w g =>
    have hw : w < 8 := hd
    obtain ⟨m1, m2, m3⟩ := two_mem h.ne
    obtain ⟨s1, s2⟩ := sides_mem (sgn w) (two st.1).1 (two st.1).2.1
    have b1 := h.small _ m1
    have b2 := h.small _ m2
    have ok : okName (named (sides (sgn w) (two st.1).1 (two st.1).2.1).1 (sgn w) (sides (sgn w) (two st.1).1 (two st.1).2.1).2 g) := by
      refine named_ok g ?_ ?_ (sgn_mem hw)
      · rcases s1 with e | e <;> rw [e] <;> omega
      · rcases s2 with e | e <;> rw [e] <;> omega
    show KeptOk (keptJoin st w g)
    unfold keptJoin
    dsimp only
    split
    · rename_i n hn
      obtain ⟨q, hq, e⟩ := qget_mem hn
      refine ⟨by simp, fun k hk => ?_, h.nums, h.names⟩
      rcases List.mem_append.mp hk with hk | hk
      · exact h.small k (m3 k hk)
      · rw [List.mem_singleton.mp hk, ← e]; exact h.nums q hq
    · refine ⟨by simp, fun k hk => ?_, fun q hq => ?_, fun q hq => ?_⟩
      · simp only [List.length_append, List.length_singleton]
        rcases List.mem_append.mp hk with hk | hk
        · have := h.small k (m3 k hk); omega
        · rw [List.mem_singleton.mp hk]; omega
      · simp only [List.length_append, List.length_singleton]
        rcases List.mem_append.mp hq with hq | hq
        · have := h.nums q hq; omega
        · rw [List.mem_singleton.mp hq]; omega
      · rcases List.mem_append.mp hq with hq | hq
        · exact h.names q hq
        · rw [List.mem_singleton.mp hq]; exact ok
theorem rev_ind {α : Type} {P : List α → Prop} (hn : P []) (hs : ∀ l a, P l → P (l ++ [a])) : ∀ l, P l := by
  intro l
  rw [← List.reverse_reverse l]
  induction l.reverse with
  | nil => exact hn
  | cons a t ih => rw [List.reverse_cons]; exact hs _ _ ih
theorem kept_len (ds : List Deed) : (kept ds).2.length ≤ ds.length := by
  unfold kept
  have : ∀ (ds : List Deed) (st : Kept), (ds.foldl keptStep st).2.length ≤ st.2.length + ds.length := by
    intro ds
    induction ds with
    | nil => intro st; simp
    | cons d ds ih =>
      intro st
      rw [List.foldl_cons, List.length_cons]
      refine Nat.le_trans (ih _) ?_
      cases d with
      | leaf n => show st.2.length + _ ≤ _; omega
      | join w g => have := keptJoin_len st w g; show (keptJoin st w g).2.length + _ ≤ _; omega
  simpa using this ds ([255], [])
theorem two_len (pile : List Nat) : (two pile).2.2.length + 1 ≤ pile.length + 1 := by
  unfold two
  dsimp only
  split <;> simp <;> omega
theorem kept_pile_len (ds : List Deed) : (kept ds).1.length ≤ ds.length + 1 := by
  refine rev_ind (P := fun ds => (kept ds).1.length ≤ ds.length + 1) ?_ ?_ ds
  · simp [kept]
  · intro ds d ih
    rw [kept_snoc, List.length_append, List.length_singleton]
    cases d with
    | leaf n => show ((kept ds).1 ++ [n]).length ≤ _; simp; omega
    | join w g =>
      show (keptJoin (kept ds) w g).1.length ≤ _
      have := two_len (kept ds).1
      unfold keptJoin
      dsimp only
      split <;> simp <;> omega
theorem kept_ok : ∀ {ds : List Deed}, ds.length ≤ 100 → (∀ d ∈ ds, d.ok) → KeptOk (kept ds) := by
  intro ds
  refine rev_ind (P := fun ds => ds.length ≤ 100 → (∀ d ∈ ds, d.ok) → KeptOk (kept ds)) ?_ ?_ ds
  · intro _ _; exact ⟨by simp [kept], by simp [kept], by simp [kept], by simp [kept]⟩
  · intro ds d ih hl hok
    rw [kept_snoc]
    simp only [List.length_append, List.length_singleton] at hl
    exact keptOk_step (ih (by omega) fun d hd => hok d (List.mem_append_left _ hd)) (by have := kept_len ds; omega) (hok d (by simp))
end Mine
end

section
open PySem PySem.W PyProof.Rows
set_option maxRecDepth 100000
namespace Mine
/-- item by item -/
inductive Both {α β : Type} (R : α → β → Prop) : List α → List β → Prop
  | nil : Both R [] []
  | cons {a : α} {b : β} {as : List α} {bs : List β} : R a b → Both R as bs → Both R (a :: as) (b :: bs)
namespace Both
variable {α β : Type} {R R' : α → β → Prop} {as as' : List α} {bs bs' : List β}
theorem length (h : Both R as bs) : as.length = bs.length := by induction h <;> simp_all
theorem mono (h : Both R as bs) (k : ∀ a b, R a b → R' a b) : Both R' as bs := by
  induction h with
  | nil => exact .nil
  | cons r _ ih => exact .cons (k _ _ r) ih
theorem monoMem (h : Both R as bs) (k : ∀ a b, a ∈ as → R a b → R' a b) : Both R' as bs := by
  induction h with
  | nil => exact .nil
  | cons r _ ih => exact .cons (k _ _ (.head _) r) (ih fun a b ha => k a b (.tail _ ha))
theorem append (h : Both R as bs) (k : Both R as' bs') : Both R (as ++ as') (bs ++ bs') := by
  induction h with
  | nil => exact k
  | cons r _ ih => exact .cons r ih
theorem one {a : α} {b : β} (r : R a b) : Both R [a] [b] := .cons r .nil
theorem get (h : Both R as bs) {i : Nat} {a : α} (ha : as[i]? = some a) : ∃ b, bs[i]? = some b ∧ R a b := by
  induction h generalizing i with
  | nil => simp at ha
  | cons r _ ih =>
    cases i with
    | zero => simp at ha; subst ha; exact ⟨_, rfl, r⟩
    | succ i => simpa using ih (by simpa using ha)
theorem getR (h : Both R as bs) {i : Nat} {b : β} (hb : bs[i]? = some b) : ∃ a, as[i]? = some a ∧ R a b := by
  induction h generalizing i with
  | nil => simp at hb
  | cons r _ ih =>
    cases i with
    | zero => simp at hb; subst hb; exact ⟨_, rfl, r⟩
    | succ i => simpa using ih (by simpa using hb)
theorem mem (h : Both R as bs) {a : α} (ha : a ∈ as) : ∃ b, R a b := by
  obtain ⟨i, hi⟩ := List.getElem?_of_mem ha
  obtain ⟨b, _, r⟩ := h.get hi
  exact ⟨b, r⟩
theorem snoc {a : α} (h : Both R (as ++ [a]) bs) : ∃ bs' b, bs = bs' ++ [b] ∧ Both R as bs' ∧ R a b := by
  induction as generalizing bs with
  | nil =>
    cases h with
    | cons r h => cases h; exact ⟨[], _, rfl, .nil, r⟩
  | cons x as ih =>
    cases h with
    | cons r h =>
      obtain ⟨bs', b, rfl, h', r'⟩ := ih h
      exact ⟨_ :: bs', b, rfl, .cons r h', r'⟩
theorem snocR {b : β} (h : Both R as (bs ++ [b])) : ∃ as' a, as = as' ++ [a] ∧ Both R as' bs ∧ R a b := by
  induction bs generalizing as with
  | nil =>
    cases h with
    | cons r h => cases h; exact ⟨[], _, rfl, .nil, r⟩
  | cons x bs ih =>
    cases h with
    | cons r h =>
      obtain ⟨as', a, rfl, h', r'⟩ := ih h
      exact ⟨_ :: as', a, rfl, .cons r h', r'⟩
theorem take (h : Both R as bs) (q : Nat) : Both R (as.take q) (bs.take q) := by
  induction h generalizing q with
  | nil => simp; exact .nil
  | cons r _ ih => cases q with
    | zero => exact .nil
    | succ q => exact .cons r (ih q)
theorem dropLast (h : Both R as bs) : Both R as.dropLast bs.dropLast := by
  rw [List.dropLast_eq_take, List.dropLast_eq_take, h.length]
  exact h.take _
end Both
theorem both_ints {vs : List Value} {ns : List Int} (h : IntsAre vs ns) : Both (fun v n => ∃ t, v = .int n t) vs ns := by
  induction h with
  | nil => exact .nil
  | cons n t _ ih => exact .cons ⟨t, rfl⟩ ih
theorem ints_both {vs : List Value} {ns : List Int} (h : Both (fun v n => ∃ t, v = .int n t) vs ns) : IntsAre vs ns := by
  induction h with
  | nil => exact .nil
  | cons r _ ih => obtain ⟨t, rfl⟩ := r; exact .cons _ _ ih
theorem strs_both {vs : List Value} {ns : List Str} (h : Both (fun v n => ∃ t, v = .str n t) vs ns) : StrsAre vs ns := by
  induction h with
  | nil => exact .nil
  | cons r _ ih => obtain ⟨t, rfl⟩ := r; exact .cons _ _ ih
theorem both_strs {vs : List Value} {ns : List Str} (h : StrsAre vs ns) : Both (fun v n => ∃ t, v = .str n t) vs ns := by
  induction h with
  | nil => exact .nil
  | cons n t _ ih => exact .cons ⟨t, rfl⟩ ih

section
variable {prog : Program} {w : World} {A : Around} {E : Value → Shared → Prop} {s₀ s : Shared} {ws : List Addr} {L : Addr} {m : Str → Option Value} {l : List (Addr × Obj)} {K : Frag} {H : Heap}
variable {cn : Str} {cs : Scope} {a : Addr} {ccd : Value} {Q : Unit → Shared → Prop}
theorem r_unpack2 {T : Addr} {n : Nat} {v1 v2 : Value} {x y : Str} {px py pos : Pos} {kk : Nat} (hh : A.handled = none) (S : St s₀ ws L m l s) (ht : s.heap.get? T = some (tupOf #[v1, v2] n))
    (h : ∀ s', St s₀ ws L (fun z => if z = y then some v2 else if z = x then some v1 else m z) l s' → Q () s')
    (hk : cs.kind = .function := by rfl) (l1 : (envOf cn cs L a ccd).kindOf x = some .local := by rfl) (l2 : (envOf cn cs L a ccd).kindOf y = some .local := by rfl) :
    wpAny (model prog w) A (assign (.Tuple [.Name x px, .Name y py] kk pos) (envOf cn cs L a ccd) (.ref T)) Q E s := by
  show wpAny _ _ (do standAt pos; unpack (.ref T) (assignEach [.Name x px, .Name y py] (envOf cn cs L a ccd))) Q E s
  refine wpAny_bind (wpAny_standAt ?_)
  refine wpAny_unpack_tuple hh ⟨_, ht, rfl, n, rfl⟩ rfl rfl fun h' he => ?_
  have S' : St s₀ ws L m l { s with heap := h' } := S.heap' (tk := s.toks) fun b o e => he b o (Nat.ne_of_lt (Heap.lt_size e)) e
  show wpAny _ _ (assignInOrder [assign (.Name x px) (envOf cn cs L a ccd), assign (.Name y py) (envOf cn cs L a ccd)] [v1, v2]) Q E _
  refine assignInOrder_cons ?_
  refine wpAny_assign_Name ?_
  refine r_store S' (fun s₁ S₁ => ?_) hk l1
  refine assignInOrder_cons ?_
  refine wpAny_assign_Name ?_
  refine r_store S₁ (fun s₂ S₂ => ?_) hk l2
  exact assignInOrder_nil (h _ S₂)
theorem r_unpack3 {T : Addr} {n : Nat} {v1 v2 v3 : Value} {x y z : Str} {px py pz pos : Pos} {kk : Nat} (hh : A.handled = none) (S : St s₀ ws L m l s) (ht : s.heap.get? T = some (tupOf #[v1, v2, v3] n))
    (h : ∀ s', St s₀ ws L (fun u => if u = z then some v3 else if u = y then some v2 else if u = x then some v1 else m u) l s' → Q () s')
    (hk : cs.kind = .function := by rfl) (l1 : (envOf cn cs L a ccd).kindOf x = some .local := by rfl) (l2 : (envOf cn cs L a ccd).kindOf y = some .local := by rfl) (l3 : (envOf cn cs L a ccd).kindOf z = some .local := by rfl) :
    wpAny (model prog w) A (assign (.Tuple [.Name x px, .Name y py, .Name z pz] kk pos) (envOf cn cs L a ccd) (.ref T)) Q E s := by
  show wpAny _ _ (do standAt pos; unpack (.ref T) (assignEach [.Name x px, .Name y py, .Name z pz] (envOf cn cs L a ccd))) Q E s
  refine wpAny_bind (wpAny_standAt ?_)
  refine wpAny_unpack_tuple hh ⟨_, ht, rfl, n, rfl⟩ rfl rfl fun h' he => ?_
  have S' : St s₀ ws L m l { s with heap := h' } := S.heap' (tk := s.toks) fun b o e => he b o (Nat.ne_of_lt (Heap.lt_size e)) e
  show wpAny _ _ (assignInOrder [assign (.Name x px) (envOf cn cs L a ccd), assign (.Name y py) (envOf cn cs L a ccd), assign (.Name z pz) (envOf cn cs L a ccd)] [v1, v2, v3]) Q E _
  refine assignInOrder_cons ?_
  refine wpAny_assign_Name ?_
  refine r_store S' (fun s₁ S₁ => ?_) hk l1
  refine assignInOrder_cons ?_
  refine wpAny_assign_Name ?_
  refine r_store S₁ (fun s₂ S₂ => ?_) hk l2
  refine assignInOrder_cons ?_
  refine wpAny_assign_Name ?_
  refine r_store S₂ (fun s₃ S₃ => ?_) hk l3
  exact assignInOrder_nil (h _ S₃)
/-- a, b = (the two values exchanged) -/
theorem r_swap {T : Addr} {n : Nat} {v1 v2 : Value} {x y : Str} (hh : A.handled = none) (S : St s₀ ws L m l s) (ht : s.heap.get? T = some (tupOf #[v1, v2] n))
    (h : ∀ s', St s₀ ws L (fun z => if z = x then some v1 else if z = y then some v2 else m z) l s' → Q () s')
    (hk : cs.kind = .function := by rfl) (l1 : (envOf cn cs L a ccd).kindOf x = some .local := by rfl) (l2 : (envOf cn cs L a ccd).kindOf y = some .local := by rfl) :
    wpAny (model prog w) A (unpackItems (.ref T) ([x, y] : List Str).length none) (fun items s₂ => wpAny (model prog w) A (assignInOrder (([x, y] : List Str).reverse.map fun n => bindName (envOf cn cs L a ccd) n) items.reverse) Q E s₂) E s := by
  have hT : s.heap.IsTuple T #[v1, v2] := ⟨_, ht, rfl, n, rfl⟩
  show wpAny _ _ (unpackItems (.ref T) (#[v1, v2] : Array Value).size none) _ E s
  refine wpAny_unpackItems_tuple (items := #[v1, v2]) hh hT fun h' he => ?_
  have S' : St s₀ ws L m l { s with heap := h' } := S.heap' (tk := s.toks) fun b o e => he b o (Nat.ne_of_lt (Heap.lt_size e)) e
  show wpAny _ _ (assignInOrder [bindName (envOf cn cs L a ccd) y, bindName (envOf cn cs L a ccd) x] [v2, v1]) Q E _
  refine assignInOrder_cons ?_
  refine wpAny_bindName ?_
  refine r_store S' (fun s₁ S₁ => ?_) hk l2
  refine assignInOrder_cons ?_
  refine wpAny_bindName ?_
  refine r_store S₁ (fun s₂ S₂ => ?_) hk l1
  exact assignInOrder_nil (h _ S₂)
theorem r_slice {D : Addr} {its : Array Value} {vl vu : Value} {lo hi : Option Int} {value slice : Expr} {Q : Value → Shared → Prop} (S : St s₀ ws L m l s) (hl : s.heap.IsList D its) (pl : IsPart vl lo) (pu : IsPart vu hi) (hz : its.size ≤ sizeLine)
    (h : ∀ D' s', St s₀ ws L m ((D', listOf (kms_pick its.toList lo hi).toArray 0) :: l) s' → s.heap.get? D' = none → Q (.ref D') s')
    (hs : subscripted slice false (.ref D) (.ref s.heap.objs.size) = operate [.ref s.heap.objs.size, .ref D] (getItem (.ref D) (.ref s.heap.objs.size)) := by with_unfolding_all rfl) :
    wpAny (model prog w) A (subscriptTail value slice (.ref D) (.ref s.heap.objs.size)) Q E { s with heap := s.heap.push { cls := .type "slice", data := .fields #[vl, vu, .none] } } := by
  have S₁ : St s₀ ws L m l { s with heap := s.heap.push { cls := .type "slice", data := .fields #[vl, vu, .none] } } := S.heap' (tk := s.toks) fun _ _ e => Heap.get?_push_of_some _ e
  have hl₁ := hl.push { cls := .type "slice", data := .fields #[vl, vu, .none] }
  refine tail_any (s := { s with heap := s.heap.push { cls := .type "slice", data := .fields #[vl, vu, .none] } }) hl₁.typeIs slot_list_getitem.lookup ?_ hs
  refine wpAny_getItem_list_slice hl₁ ⟨_, Heap.get?_push_size _ rfl, rfl, rfl⟩ pl pu .none (by intro e; cases e) ?_ hz
  rw [kms_pick_eq]
  refine h _ _ (S₁.push (tk := s.toks) (listOf (kms_pick its.toList lo hi).toArray 0) rfl) (Heap.get?_none_of_le ?_)
  show s.heap.objs.size ≤ (s.heap.push _).objs.size
  rw [Heap.size_push]; omega
/-- what comes between: the state stands as it stood -/
theorem r_mid {α : Type} {t : Sem α} {Q : α → Shared → Prop} (S : St s₀ ws L m l s) (P : α → Prop) (h1 : wpAny (model prog w) A t (fun v s' => P v ∧ St s₀ ws L m l s') E s) (h2 : ∀ v s', P v → St s₀ ws L m l s' → Q v s') : wpAny (model prog w) A t Q E s :=
  let _ := S; wpAny_mono h1 (fun v s' h => h2 v s' h.1 h.2) fun _ _ x => x
theorem r_midL {α : Type} {t : Sem α} {Q : α → Shared → Prop} (S : St s₀ ws L m l s) (P : α → List (Addr × Obj) → Prop) (h1 : wpAny (model prog w) A t (fun v s' => ∃ l', P v l' ∧ St s₀ ws L m l' s') E s) (h2 : ∀ v l' s', P v l' → St s₀ ws L m l' s' → Q v s') : wpAny (model prog w) A t Q E s :=
  let _ := S; wpAny_mono h1 (fun v s' ⟨l', a, b⟩ => h2 v l' s' a b) fun _ _ x => x
/-- a statement that turns the names, its ways meeting behind it -/
theorem r_midM {st : Stmt} {rest : List Stmt} {env : Env} {Q : Flow → Shared → Prop} (S : St s₀ ws L m l s) (P : (Str → Option Value) → Prop) (h1 : wpAny (model prog w) A (exec st env) (fun f s' => f = .next ∧ ∃ m', P m' ∧ St s₀ ws L m' l s') E s)
    (h2 : ∀ m' s', P m' → St s₀ ws L m' l s' → wpAny (model prog w) A (execs rest env) Q E s') : wpAny (model prog w) A (execs (st :: rest) env) Q E s :=
  let _ := S; wpAny_execs_cons (wpAny_mono h1 (fun f s' ⟨e, m', a, b⟩ => by subst e; exact h2 m' s' a b) fun _ _ x => x)
theorem r_midX {st : Stmt} {rest : List Stmt} {env : Env} {Q : Flow → Shared → Prop} (S : St s₀ ws L m l s) (P : (Str → Option Value) → List (Addr × Obj) → Prop) (h1 : wpAny (model prog w) A (exec st env) (fun f s' => f = .next ∧ ∃ m' l', P m' l' ∧ St s₀ ws L m' l' s') E s)
    (h2 : ∀ m' l' s', P m' l' → St s₀ ws L m' l' s' → wpAny (model prog w) A (execs rest env) Q E s') : wpAny (model prog w) A (execs (st :: rest) env) Q E s :=
  let _ := S; wpAny_execs_cons (wpAny_mono h1 (fun f s' ⟨e, m', l', a, b⟩ => by subst e; exact h2 m' l' s' a b) fun _ _ x => x)
/-- the cells in another order, or fewer -/
theorem St.mem {l' : List (Addr × Obj)} (S : St s₀ ws L m l s) (h : ∀ p ∈ l', p ∈ l) (nd : (l'.map (·.1)).Nodup) : St s₀ ws L m l' s := ⟨S.ns, S.keep, S.newL, S.above, fun p hp => S.cells p (h p hp), nd, S.same⟩
theorem St.perm {l' : List (Addr × Obj)} (S : St s₀ ws L m l s) (h : l.Perm l') : St s₀ ws L m l' s := S.mem (fun _ hp => h.mem_iff.mpr hp) ((h.map _).nodup_iff.mp S.nodup)
theorem r_neg {i : Int} {t : Tok} {Q : Value → Shared → Prop} (S : St s₀ ws L m l s) (h : ∀ t s', St s₀ ws L m l s' → Q (.int (-i) t) s') : wpAny (model prog w) A (unaryOp .USub (.int i t)) Q E s := neg_int (h _ _ S.tok)
theorem r_len {D : Addr} {its : Array Value} {Q : Value → Shared → Prop} (S : St s₀ ws L m l s) (hl : s.heap.IsList D its) (hz : its.size ≤ 1000000) (h : ∀ t s', St s₀ ws L m l s' → Q (.int its.size t) s') : wpAny (model prog w) A (call (.builtin "len") [.ref D]) Q E s :=
  PyProof.Rows.len_list hl (by omega) (h _ _ S.tok)
end
end Mine
end

section
open PySem PySem.W PyProof.Rows
set_option maxRecDepth 100000
set_option maxHeartbeats 1000000
namespace Mine
theorem bb_type : bootBuiltins (Str.ofString "type") = some (.type "type") := by boot_by_name
theorem bb_str : bootBuiltins (Str.ofString "str") = some (.type "str") := by boot_by_name
theorem bb_int : bootBuiltins (Str.ofString "int") = some (.type "int") := by boot_by_name
theorem bb_list : bootBuiltins (Str.ofString "list") = some (.type "list") := by boot_by_name
theorem bb_len : bootBuiltins (Str.ofString "len") = some (.builtin "len") := by boot_by_name
theorem bb_min : bootBuiltins (Str.ofString "min") = some (.builtin "min") := by boot_by_name
theorem bb_max : bootBuiltins (Str.ofString "max") = some (.builtin "max") := by boot_by_name
def codeN : Array Nat := #[14, 10, 4, 1, 1, 22, 0, 31, 16, 127, 0, 13, 7, 22, 0, 31, 16, 127, 0, 1]
def codeV : Array Nat := #[14, 14, 4, 1, 1, 9, 4294966783, 0, 0, 2147483648, 0, 0, 0, 0, 0, 13, 11, 9, 4294966783, 0, 0, 2147483648, 0, 0, 0, 0, 0, 1]
theorem setN {c : Nat} (h : good c = true) (seen : Sre.Seen) : ∃ seen', Sre.inSet codeN c codeN.size 5 true seen = .ok (false, seen') := by
  simp only [good, Bool.and_eq_true, decide_eq_true_eq] at h
  have h1 : (decide (0 ≤ c) && decide (c ≤ 31)) = false := by simp; omega
  have h2 : (c == 127) = false := by simp; omega
  apply Exists.intro
  show Sre.inSet codeN c 20 5 true seen = _
  unfold Sre.inSet
  show (if (decide (0 ≤ c) && decide (c ≤ 31)) = true then _ else _) = _
  rw [h1]
  show Sre.inSet codeN c 19 8 true _ = _
  unfold Sre.inSet
  show (if (c == 127) = true then _ else _) = _
  rw [h2]
  show Sre.inSet codeN c 18 10 true _ = _
  rfl
theorem setV {c : Nat} (h : good c = true) (seen : Sre.Seen) : ∃ seen', Sre.inSet codeV c codeV.size 5 true seen = .ok (false, seen') := by
  have hb : (decide (c < 256) && (codeV.getD (5 + (1 + c / 32)) 0).testBit (c % 32)) = false := by
    have : ∀ c : Fin 127, good c.val = true → (decide (c.val < 256) && (codeV.getD (5 + (1 + c.val / 32)) 0).testBit (c.val % 32)) = false := by decide +kernel
    have h' := h
    simp only [good, Bool.and_eq_true, decide_eq_true_eq] at h'
    exact this ⟨c, h'.2⟩ h
  apply Exists.intro
  show Sre.inSet codeV c 28 5 true seen = _
  unfold Sre.inSet
  show (if (decide (c < 256) && (codeV.getD (5 + (1 + c / 32)) 0).testBit (c % 32)) = true then _ else _) = _
  rw [hb]
  show Sre.inSet codeV c 27 14 true _ = _
  rfl
section
variable {prog : Program} {w : World} {A : Around} {E : Value → Shared → Prop} {s : Shared} {Q : Value → Shared → Prop}
theorem convert_call {k : Nat} {T : Value} {x : Str} {t : Tok} {b : Bool} (G : Gl (KK w) s.heap) (hA : Ok k A) (hk : k ≤ 600) (hx : ∀ c ∈ x.cps.toList, good c = true) (h : ∀ s', Grow [] s s' → Q (.str x t) s') :
    wpAny (model prog w) A (call (.ref 70) [T, .str x t] [(Str.ofString "name", .bool b)]) Q E s := by
  refine wpAny_call (enter (K := KK w) (l := []) (ws := []) (binds := [(Str.ofString "self", T), (Str.ofString "value", .str x t), (Str.ofString "name", .bool b)]) G hA (by exact rfl) (by exact rfl) (BindsTo.of_eq (by kernel_rfl)) (locs (by kernel_rfl)) (by intro p hp; cases hp) List.nodup_nil ?_ hk)
  intro L s S
  refine r_stmt ?_
  refine wpAny_If ?_
  refine wpAny_isTrue_Compare1 ?_
  refine r_callT (T := "type") (fun Q hq => r_blt (K := KK w) (S.gl0 G) (by exact rfl) bb_type (by decide) hq) ?_
  refine spliced_more ?_
  refine r_local S rfl ?_
  refine spliced_none ?_
  refine call_type_of (Tx := "str") rfl (by decide +kernel) ?_
  refine r_blt (K := KK w) (S.gl0 G) (by exact rfl) bb_str (by decide) ?_
  refine wpAny_is_self (by rfl) ?_
  refine wpAny_truthy_bool ?_
  rw [if_pos rfl]
  refine r_let ?_
  refine IfExp_ ?_
  refine isTrue_plain ?_
  refine r_local S rfl ?_
  refine wpAny_truthy_bool ?_
  cases b
  · rw [if_neg (by simp)]
    refine r_glob (K := KK w) (S.gl0 G) (by exact rfl) ?_
    refine ⟨_, _, _, _, S, fun s S => ?_⟩
    refine r_stmt ?_
    refine wpAny_If ?_
    refine isTrue_plain ?_
    refine MethodCall_ ?_
    refine r_local S rfl ?_
    refine getMethod_builtin ⟨_, (S.gl0 G).X 48 _ (by exact rfl), rfl⟩ plain_pattern slot_search type_search (fun a e => ⟨_, by cases e; exact (S.gl0 G).X 48 _ (by exact rfl), rfl⟩) ?_
    refine callWith_method1 ?_
    refine spliced_more ?_
    refine r_local S rfl ?_
    refine spliced_none ?_
    refine search_none (P := 48) (C := 47) (code := codeV) ((S.gl0 G).X _ _ (by exact rfl)) rfl rfl rfl ((S.gl0 G).X _ _ (by exact rfl)) (by decide +kernel) rfl rfl (fun c hc => setV (hx c hc)) ?_
    refine truthy_none ?_
    rw [if_neg (by simp)]
    refine wpAny_execs_nil ?_
    refine r_ret ?_
    refine r_local S rfl ?_
    exact h _ S.grow
  · rw [if_pos rfl]
    refine r_glob (K := KK w) (S.gl0 G) (by exact rfl) ?_
    refine ⟨_, _, _, _, S, fun s S => ?_⟩
    refine r_stmt ?_
    refine wpAny_If ?_
    refine isTrue_plain ?_
    refine MethodCall_ ?_
    refine r_local S rfl ?_
    refine getMethod_builtin ⟨_, (S.gl0 G).X 43 _ (by exact rfl), rfl⟩ plain_pattern slot_search type_search (fun a e => ⟨_, by cases e; exact (S.gl0 G).X 43 _ (by exact rfl), rfl⟩) ?_
    refine callWith_method1 ?_
    refine spliced_more ?_
    refine r_local S rfl ?_
    refine spliced_none ?_
    refine search_none (P := 43) (C := 42) (code := codeN) ((S.gl0 G).X _ _ (by exact rfl)) rfl rfl rfl ((S.gl0 G).X _ _ (by exact rfl)) (by decide +kernel) rfl rfl (fun c hc => setN (hx c hc)) ?_
    refine truthy_none ?_
    rw [if_neg (by simp)]
    refine wpAny_execs_nil ?_
    refine r_ret ?_
    refine r_local S rfl ?_
    exact h _ S.grow
end
end Mine
end

section
open PySem PySem.W PyProof.Rows
set_option maxRecDepth 100000
set_option maxHeartbeats 1000000
namespace Mine
/-- a pair of texts -/
def PairAt (h : Heap) (v : Value) (p : List Nat × List Nat) : Prop := ∃ a n t u, v = .ref a ∧ h.get? a = some (tupOf #[.str (tx p.1) t, .str (tx p.2) u] n)
theorem PairAt.keeps {h h' : Heap} {v : Value} {p : List Nat × List Nat} (x : PairAt h v p) (k : ∀ a o, o.cls = .type "tuple" → h.get? a = some o → h'.get? a = some o) : PairAt h' v p := by
  obtain ⟨a, n, t, u, rfl, e⟩ := x
  exact ⟨a, n, t, u, rfl, k _ _ rfl e⟩
/-- a Headers object: its dict, its list, the pairs -/
structure Tab (h : Heap) (T dx hA : Addr) (vs : List Value) (ps : List (List Nat × List Nat)) : Prop where
  obj : h.get? T = some (instObj 171 dx)
  dict : ∃ hh tk nd, h.get? dx = some (dictOf [⟨hh, .str (Str.ofString "_headers") tk, .ref hA⟩] nd)
  list : ∃ nl, h.get? hA = some (listOf vs.toArray nl)
  pairs : Both (PairAt h) vs ps
theorem lower_tx {nm : List Nat} (h : okName nm) : Txt.lower (tx nm) = tx (low nm) := by
  rw [lower_ascii]
  · simp [tx, low]
  · intro c hc
    have := h.2 c (by simpa [tx] using hc)
    simp only [good, Bool.and_eq_true, decide_eq_true_eq] at this
    omega
theorem low_ok {nm : List Nat} (h : okName nm) : okName (low nm) := by
  refine ⟨by simpa [low] using h.1, fun c hc => ?_⟩
  obtain ⟨d, hd, rfl⟩ := List.mem_map.mp hc
  have := h.2 d hd
  simp only [good, Bool.and_eq_true, decide_eq_true_eq] at this ⊢
  unfold lo1
  split <;> omega
theorem okName.good {nm : List Nat} (h : okName nm) : ∀ c ∈ (tx nm).cps.toList, Mine.good c = true := fun c hc => h.2 c (by simpa [tx] using hc)
theorem okName.short {nm : List Nat} (h : okName nm) : (tx nm).length ≤ 5592405 := by rw [tx_length]; have := h.1; omega
section
variable {prog : Program} {w : World} {A : Around} {E : Value → Shared → Prop} {s : Shared} {Q : Value → Shared → Prop}
theorem Tab.inst {h : Heap} {T dx hA : Addr} {vs : List Value} {ps : List (List Nat × List Nat)} (X : Tab h T dx hA vs ps) : ∃ hh tk nd, InstAt h T (instObj 171 dx) 171 (some (dictOf [⟨hh, .str (Str.ofString "_headers") tk, .ref hA⟩] nd)) := by
  obtain ⟨hh, tk, nd, e⟩ := X.dict
  exact ⟨hh, tk, nd, X.obj, rfl, rfl, e⟩
theorem Tab.keeps {h h' : Heap} {T dx hA : Addr} {vs : List Value} {ps : List (List Nat × List Nat)} (X : Tab h T dx hA vs ps) (k : ∀ a o, h.get? a = some o → h'.get? a = some o) : Tab h' T dx hA vs ps :=
  ⟨k _ _ X.obj, let ⟨a, b, c, e⟩ := X.dict; ⟨a, b, c, k _ _ e⟩, let ⟨n, e⟩ := X.list; ⟨n, k _ _ e⟩, X.pairs.mono fun _ _ r => r.keeps fun a o _ e => k a o e⟩
theorem get_call {k : Nat} {T dx hA : Addr} {vs : List Value} {ps : List (List Nat × List Nat)} {nm : List Nat} {t : Tok} (G : Gl (KK w) s.heap) (hA' : Ok k A) (hk : k ≤ 500) (X : Tab s.heap T dx hA vs ps) (hn : okName nm) (hps : ∀ p ∈ ps, okName p.1)
    (h : ∀ r s', Grow [] s s' → (match hget ps nm with | some v => ∃ t, r = .str (tx v) t | none => r = .none) → Q r s') :
    wpAny (model prog w) A (call (.ref 118) [.ref T, .str (tx nm) t]) Q E s := by
  refine wpAny_call (enter (K := KK w) (l := []) (ws := []) (binds := [(Str.ofString "self", .ref T), (Str.ofString "name", .str (tx nm) t), (Str.ofString "default", .none)]) G hA' (by exact rfl) (by exact rfl) (binds_K (K := KK w) G.X rfl (by exact rfl) rfl rfl rfl) (locs (by kernel_rfl)) (by intro p hp; cases hp) List.nodup_nil ?_ (by omega))
  intro L s S
  have hh := (hA'.deeper (envOf (Str.ofString "Headers.get") default L 118 .none)).handled
  obtain ⟨ha, tk, nd, I⟩ := (X.keeps S.grow.stays).inst
  refine r_let ?_
  refine methodCall_KW ?_
  refine r_local S rfl ?_
  refine method_inst (K := KK w) S.fr G.X I (by exact rfl) (by exact rfl) (by exact rfl) (by exact rfl) ?_
  refine callWith_KW (K := KK w) (S.gl0 G).X (by exact rfl) (by exact rfl) ?_
  refine spliced_more ?_
  refine MethodCall_ ?_
  refine r_local S rfl ?_
  refine GM.lower ?_
  refine callWith_method0 ?_
  refine SCL.lower hn.short fun _ => ?_
  rw [lower_tx hn]
  have S := S.tok (tk := s.toks + 1)
  refine spliced_none ?_
  refine kwAll_cons ?_
  refine Constant_bool ?_
  refine kwAll_nil ?_
  refine ⟨(S.gl0 G).X, ?_⟩
  refine convert_call (S.gl0 G) (hA'.deeper _) (by omega) (low_ok hn).good fun s' G' => ?_
  have S := S.calls G'
  refine ⟨_, _, _, _, S, fun s S => ?_⟩
  obtain ⟨ha, tk, nd, I⟩ := (X.keeps S.grow.stays).inst
  refine r_stmt ?_
  refine wpAny_For ?_
  refine Attribute_Name_ ?_
  refine r_local S rfl ?_
  refine get_own (K := KK w) S.fr G.X I (by exact rfl) (by exact rfl) (by exact rfl) (by exact rfl) (by exact rfl) (by exact rfl) ?_
  have S := S.tok (tk := s.toks + 1)
  obtain ⟨nl, hl⟩ := X.list
  refine r_for (items := vs) (fun i m l => l = [] ∧ (∃ t, m (Str.ofString "name") = some (.str (tx (low nm)) t)) ∧ m (Str.ofString "default") = some .none ∧ (∀ p ∈ ps.take i, low p.1 ≠ low nm)) hh S ?_ ?_ ?_ ?_ ?_
  · intro i m l s _ S
    exact ⟨_, S.keep _ _ List.not_mem_nil hl, rfl, nl, rfl⟩
  · exact ⟨rfl, ⟨_, rfl⟩, rfl, by simp⟩
  · refine .inr ⟨⟨_, _, _, rfl⟩, fun v hv => ?_⟩
    obtain ⟨p, a, n, t, u, e, _⟩ := X.pairs.mem hv
    exact ⟨a, e⟩
  · rintro i v m l s I' o hv ⟨rfl, ⟨t1, hm1⟩, hm2, hno⟩ S
    obtain ⟨p, hp, a, n, t2, u2, rfl, e⟩ := X.pairs.get hv
    refine r_unpack2 hh S (S.keep _ _ List.not_mem_nil e) fun s S => ?_
    refine r_stmt ?_
    refine wpAny_If ?_
    refine wpAny_isTrue_Compare1 ?_
    refine MethodCall_ ?_
    refine r_local S rfl ?_
    refine GM.lower ?_
    refine callWith_method0 ?_
    have hpn := hps p (List.mem_of_getElem? hp)
    refine SCL.lower hpn.short fun _ => ?_
    rw [lower_tx hpn]
    have S := S.tok (tk := s.toks + 1)
    refine r_local S hm1 ?_
    refine PyProof.Rows.eq_str ?_
    refine wpAny_truthy_bool ?_
    by_cases hc : low p.1 = low nm
    · rw [if_pos (by rw [hc]; simp)]
      refine r_ret ?_
      refine r_local S rfl ?_
      refine h _ _ S.grow ?_
      have hf : ps.find? (fun p => low p.1 == low nm) = some p := by
        rw [List.find?_eq_some_iff_getElem]
        refine ⟨by simpa using hc, i, (List.getElem?_eq_some_iff.mp hp).1, (List.getElem?_eq_some_iff.mp hp).2, fun j hj => ?_⟩
        simp only [Bool.not_eq_true', beq_eq_false_iff_ne]
        refine hno _ (List.mem_take_iff_getElem.mpr ⟨j, by have := (List.getElem?_eq_some_iff.mp hp).1; omega, rfl⟩)
      unfold hget
      rw [hf]
      exact ⟨_, rfl⟩
    · rw [if_neg (by simpa using fun q => hc (tx_inj q))]
      refine wpAny_execs_nil ?_
      refine wpAny_execs_nil ?_
      refine ⟨_, _, ?_, S⟩
      refine ⟨rfl, ⟨_, hm1⟩, hm2, fun q hq => ?_⟩
      rw [List.take_add_one, hp] at hq
      rcases List.mem_append.mp hq with hq | hq
      · exact hno q hq
      · simp at hq; subst hq; exact hc
  · rintro m l s ⟨rfl, ⟨t1, hm1⟩, hm2, hno⟩ S
    refine r_ret ?_
    refine r_local S hm2 ?_
    refine h _ _ S.grow ?_
    have hf : ps.find? (fun p => low p.1 == low nm) = none := by
      rw [List.find?_eq_none]
      intro p hp
      rw [X.pairs.length, List.take_length] at hno
      simpa using hno p hp
    unfold hget
    rw [hf]
    rfl
end
end Mine
end

section
open PySem PySem.W PyProof.Rows
set_option maxRecDepth 100000
set_option maxHeartbeats 1000000
namespace Mine
section
variable {prog : Program} {w : World} {A : Around} {E : Value → Shared → Prop} {s : Shared} {Q : Value → Shared → Prop}
theorem Ok.in1 {k : Nat} {A : Around} (h : Ok k A) : Ok (k + 1) A.in1 := ⟨h.handled, by have := h.depth; show A.depth ≤ _; omega, by have := h.units; show A.units + 1 ≤ _; omega⟩
theorem hlen_call {k : Nat} {T dx hA : Addr} {vs : List Value} {ps : List (List Nat × List Nat)} (G : Gl (KK w) s.heap) (hA' : Ok k A) (hk : k ≤ 500) (X : Tab s.heap T dx hA vs ps) (hz : ps.length ≤ 1000)
    (h : ∀ t s', Grow [] s s' → Q (.int (ps.length : Nat) t) s') : wpAny (model prog w) A (call (.ref 77) [.ref T]) Q E s := by
  refine wpAny_call (enter (K := KK w) (l := []) (ws := []) (binds := [(Str.ofString "self", .ref T)]) G hA' (by exact rfl) (by exact rfl) (BindsTo.of_eq (by kernel_rfl)) (locs (by kernel_rfl)) (by intro p hp; cases hp) List.nodup_nil ?_ (by omega))
  intro L s S
  obtain ⟨ha, tk, nd, I⟩ := (X.keeps S.grow.stays).inst
  refine r_ret ?_
  refine r_callB (fun Q hq => r_blt (K := KK w) (S.gl0 G) (by exact rfl) bb_len (by decide) hq) ?_
  refine spliced_more ?_
  refine Attribute_Name_ ?_
  refine r_local S rfl ?_
  refine get_own (K := KK w) S.fr G.X I (by exact rfl) (by exact rfl) (by exact rfl) (by exact rfl) (by exact rfl) (by exact rfl) ?_
  have S := S.tok (tk := s.toks + 1)
  refine spliced_none ?_
  obtain ⟨nl, hl⟩ := X.list
  refine PyProof.Rows.len_list ⟨_, S.keep _ _ List.not_mem_nil hl, rfl, nl, rfl⟩ ?_ ?_
  · rw [List.size_toArray, X.pairs.length]; omega
  · rw [List.size_toArray, X.pairs.length]
    exact h _ _ (S.tok).grow
/-- len(table) -/
theorem tlen_call {s₀ : Shared} {ws : List Addr} {L : Addr} {m : Str → Option Value} {l : List (Addr × Obj)} {k : Nat} {T dx hA : Addr} {vs : List Value} {ps : List (List Nat × List Nat)} (S : St s₀ ws L m l s) (G₀ : Gl (KK w) (hideAll s₀.heap ws)) (hA' : Ok k A) (hk : k ≤ 400) (X : Tab s.heap T dx hA vs ps) (hz : ps.length ≤ 1000)
    (h : ∀ t s', Grow [] s s' → Q (.int (ps.length : Nat) t) s') : wpAny (model prog w) A (call (.builtin "len") [.ref T]) Q E s := by
  obtain ⟨ha, tk, nd, I⟩ := X.inst
  refine PySem.W.len_K (K := KK w) S.fr G₀.X I (by exact rfl) (by exact rfl) ?_
  refine hlen_call (S.gl G₀) hA'.in1 (by omega) X hz fun t s' G' => ?_
  refine ⟨⟨by omega, by omega⟩, ?_⟩
  refine h _ _ ⟨?_, G'.2⟩
  obtain ⟨⟨h', t', rfl⟩, _⟩ := G'
  exact ⟨h', _, rfl⟩
theorem items_call {k : Nat} {T dx hA : Addr} {vs : List Value} {ps : List (List Nat × List Nat)} (G : Gl (KK w) s.heap) (hA' : Ok k A) (hk : k ≤ 500) (X : Tab s.heap T dx hA vs ps) (hz : ps.length ≤ 1000)
    (h : ∀ D s', Grow [] s s' → s.heap.get? D = none → s'.heap.get? D = some (listOf vs.toArray 0) → Q (.ref D) s') : wpAny (model prog w) A (call (.ref 135) [.ref T]) Q E s := by
  refine wpAny_call (enter (K := KK w) (l := []) (ws := []) (binds := [(Str.ofString "self", .ref T)]) G hA' (by exact rfl) (by exact rfl) (BindsTo.of_eq (by kernel_rfl)) (locs (by kernel_rfl)) (by intro p hp; cases hp) List.nodup_nil ?_ (by omega))
  intro L s S
  obtain ⟨ha, tk, nd, I⟩ := (X.keeps S.grow.stays).inst
  refine r_ret ?_
  refine Subscript_ ?_
  refine Attribute_Name_ ?_
  refine r_local S rfl ?_
  refine get_own (K := KK w) S.fr G.X I (by exact rfl) (by exact rfl) (by exact rfl) (by exact rfl) (by exact rfl) (by exact rfl) ?_
  have S := S.tok (tk := s.toks + 1)
  obtain ⟨nl, hl⟩ := X.list
  refine wpAny_Slice ?_
  refine evalPart_none_step ?_
  refine evalPart_none_step ?_
  refine evalPart_none_step ?_
  refine r_slice S ⟨_, S.keep _ _ List.not_mem_nil hl, rfl, nl, rfl⟩ .none .none ?_ fun D s' S' hD => ?_
  · rw [List.size_toArray, X.pairs.length, sizeLine_eq]; omega
  · have e : kms_pick vs.toArray.toList none none = vs := by simp [kms_pick, kms_lo, kms_hi]
    rw [e] at S'
    refine h D _ S'.grow ?_ (S'.get (.head _))
    cases q : Shared.heap _ |>.get? D with
    | none => rfl
    | some o => rw [S.keep D o List.not_mem_nil q] at hD; cases hD
end
end Mine
end

section
open PySem PySem.W PyProof.Rows
set_option maxRecDepth 100000
set_option maxHeartbeats 1000000
namespace Mine
section
variable {prog : Program} {w : World} {A : Around} {E : Value → Shared → Prop} {s : Shared} {Q : Value → Shared → Prop}
theorem Tab.ne {h : Heap} {T dx hA : Addr} {vs : List Value} {ps : List (List Nat × List Nat)} (X : Tab h T dx hA vs ps) : ∀ a o, h.get? a = some o → o.cls ≠ .type "list" → a ≠ hA := fun a o q hc z => by
  obtain ⟨nl, hl⟩ := X.list
  subst z; rw [hl] at q; cases q; exact hc rfl
theorem tup_list : Value.type "tuple" ≠ Value.type "list" := by decide
theorem dict_list : Value.type "dict" ≠ Value.type "list" := by decide
/-- the table stands while only its list is written -/
theorem Tab.at {h h' : Heap} {T dx hA : Addr} {vs : List Value} {ps : List (List Nat × List Nat)} {n : Nat} (X : Tab h T dx hA vs ps) (k : ∀ a o, a ≠ hA → h.get? a = some o → h'.get? a = some o) (e : h'.get? hA = some (listOf vs.toArray n)) : Tab h' T dx hA vs ps := by
  refine ⟨k _ _ (X.ne _ _ X.obj (by intro z; cases z)) X.obj, ?_, ⟨n, e⟩, X.pairs.mono fun _ _ r => r.keeps fun a o hc q => k a o (X.ne a o q (by rw [hc]; exact tup_list)) q⟩
  obtain ⟨hh, tk, nd, q⟩ := X.dict
  exact ⟨hh, tk, nd, k _ _ (X.ne _ _ q dict_list) q⟩
theorem Tab.more {h h' : Heap} {T dx hA D : Addr} {vs : List Value} {ps : List (List Nat × List Nat)} {n : Nat} {nm val : List Nat} {t u : Tok} (X : Tab h T dx hA vs ps) (k : ∀ a o, a ≠ hA → h.get? a = some o → h'.get? a = some o) (e : h'.get? hA = some (listOf (vs.toArray.push (.ref D)) n))
    (eD : h'.get? D = some (tupOf #[.str (tx nm) t, .str (tx val) u] 0)) : Tab h' T dx hA (vs ++ [.ref D]) (ps ++ [(nm, val)]) := by
  refine ⟨k _ _ (X.ne _ _ X.obj (by intro z; cases z)) X.obj, ?_, ⟨n, by rw [e]; simp⟩, (X.pairs.mono fun _ _ r => r.keeps fun a o hc q => k a o (X.ne a o q (by rw [hc]; exact tup_list)) q).append (.one ⟨D, 0, t, u, rfl, eD⟩)⟩
  obtain ⟨hh, tk, nd, q⟩ := X.dict
  exact ⟨hh, tk, nd, k _ _ (X.ne _ _ q dict_list) q⟩
theorem Tab.st {s₀ : Shared} {L : Addr} {m : Str → Option Value} {l : List (Addr × Obj)} {T dx hA : Addr} {vs : List Value} {ps : List (List Nat × List Nat)} {n : Nat} (X : Tab s₀.heap T dx hA vs ps) (S : St s₀ [hA] L m l s) (e : (hA, listOf vs.toArray n) ∈ l) : Tab s.heap T dx hA vs ps :=
  X.at (fun a o hn q => S.keep a o (fun z => hn (List.mem_singleton.mp z)) q) (S.get e)
theorem setdefault_call {k : Nat} {T dx hA : Addr} {vs : List Value} {ps : List (List Nat × List Nat)} {nm val : List Nat} {t u : Tok} (G : Gl (KK w) (hideAll s.heap [hA])) (hA' : Ok k A) (hk : k ≤ 400) (X : Tab s.heap T dx hA vs ps) (hn : okName nm) (hv : okName val) (hps : ∀ p ∈ ps, okName p.1) (hz : ps.length ≤ 1000)
    (h1 : ∀ v t s', hget ps nm = some v → Grow [] s s' → Q (.str (tx v) t) s')
    (h2 : hget ps nm = none → ∀ t t1 t2 n' D s', Grow [hA] s s' → s.heap.get? D = none → s'.heap.get? D = some (tupOf #[.str (tx nm) t1, .str (tx val) t2] 0) → s'.heap.get? hA = some (listOf (vs.toArray.push (.ref D)) n') → Q (.str (tx val) t) s') :
    wpAny (model prog w) A (call (.ref 161) [.ref T, .str (tx nm) t, .str (tx val) u]) Q E s := by
  obtain ⟨nl, hl⟩ := X.list
  refine wpAny_call (enter (K := KK w) (l := [(hA, listOf vs.toArray nl)]) (ws := [hA]) (binds := [(Str.ofString "self", .ref T), (Str.ofString "name", .str (tx nm) t), (Str.ofString "value", .str (tx val) u)]) G hA' (by exact rfl) (by exact rfl) (BindsTo.of_eq (by kernel_rfl)) (locs (by kernel_rfl)) (by intro p hp; rw [List.mem_singleton.mp hp]; exact ⟨hl, .head _⟩) (by simp) ?_ (by omega))
  intro L s S
  have X₁ := X.st S (.head _)
  obtain ⟨ha, tk, nd, I⟩ := X₁.inst
  refine r_let ?_
  refine MethodCall_ ?_
  refine r_local S rfl ?_
  refine method_inst (K := KK w) S.fr G.X I (by exact rfl) (by exact rfl) (by exact rfl) (by exact rfl) ?_
  refine callWith_K (K := KK w) (S.gl G).X (by exact rfl) ?_
  refine spliced_more ?_
  refine r_local S rfl ?_
  refine spliced_none ?_
  refine ⟨(S.gl G).X, ?_⟩
  refine get_call (S.gl G) (hA'.deeper _) (by omega) X₁ hn hps fun r s' G' hr => ?_
  have S := S.calls G'
  have X₁ := X.st S (.head _)
  refine ⟨_, _, _, _, S, fun s S => ?_⟩
  have X₁ := X.st S (.head _)
  obtain ⟨ha, tk, nd, I⟩ := X₁.inst
  refine r_stmt ?_
  refine wpAny_If ?_
  refine wpAny_isTrue_Compare1 ?_
  refine r_local S rfl ?_
  refine Constant_none ?_
  cases hg : hget ps nm with
  | some v =>
    rw [hg] at hr
    obtain ⟨t', rfl⟩ := hr
    refine is_str_none ?_
    refine wpAny_truthy_bool ?_
    rw [if_neg (by simp)]
    refine r_ret ?_
    refine r_local S rfl ?_
    refine h1 v _ _ hg ⟨S.grow.1, fun b o _ q => ?_⟩
    by_cases hb : b = hA
    · subst hb
      rw [hl] at q; cases q
      exact S.get (.head _)
    · exact S.keep b o (fun z => hb (List.mem_singleton.mp z)) q
  | none =>
    rw [hg] at hr
    subst hr
    refine is_none_none ?_
    refine wpAny_truthy_bool ?_
    rw [if_pos rfl]
    refine r_stmt ?_
    refine wpAny_Expr_any ?_
    refine MethodCall_ ?_
    refine Attribute_Name_ ?_
    refine r_local S rfl ?_
    refine get_own (K := KK w) S.fr G.X I (by exact rfl) (by exact rfl) (by exact rfl) (by exact rfl) (by exact rfl) (by exact rfl) ?_
    have S := S.tok (tk := s.toks + 1)
    refine r_meth S (i := 0) rfl PySem.F.slot_list_append PySem.F.type_list_append ?_
    refine callWith_method1 ?_
    refine spliced_more ?_
    refine Tuple_ ?_
    refine spliced_more ?_
    refine methodCall_KW ?_
    refine r_local S rfl ?_
    refine method_inst (K := KK w) S.fr G.X I (by exact rfl) (by exact rfl) (by exact rfl) (by exact rfl) ?_
    refine callWith_KW (K := KK w) (S.gl G).X (by exact rfl) (by exact rfl) ?_
    refine spliced_more ?_
    refine r_local S rfl ?_
    refine spliced_none ?_
    refine kwAll_cons ?_
    refine Constant_bool ?_
    refine kwAll_nil ?_
    refine ⟨(S.gl G).X, ?_⟩
    refine convert_call (S.gl G) (hA'.deeper _) (by omega) hn.good fun s' G' => ?_
    have S := S.calls G'
    have X₁ := X.st S (.head _)
    obtain ⟨ha, tk, nd, I⟩ := X₁.inst
    refine spliced_more ?_
    refine methodCall_KW ?_
    refine r_local S rfl ?_
    refine method_inst (K := KK w) S.fr G.X I (by exact rfl) (by exact rfl) (by exact rfl) (by exact rfl) ?_
    refine callWith_KW (K := KK w) (S.gl G).X (by exact rfl) (by exact rfl) ?_
    refine spliced_more ?_
    refine r_local S rfl ?_
    refine spliced_none ?_
    refine kwAll_cons ?_
    refine Constant_bool ?_
    refine kwAll_nil ?_
    refine ⟨(S.gl G).X, ?_⟩
    refine convert_call (S.gl G) (hA'.deeper _) (by omega) hv.good fun s' G' => ?_
    have S := S.calls G'
    refine spliced_none ?_
    refine r_newTuple S (Nat.le_of_ble_eq_true rfl) fun D s' S' hD => ?_
    have hD0 := (S.fresh hD).2.1
    clear S
    revert S'
    intro S
    refine spliced_none ?_
    refine r_append S (i := 1) rfl (by rw [List.size_toArray, X.pairs.length, sizeLine_eq]; omega) fun n' s S => ?_
    refine r_ret ?_
    refine r_local S rfl ?_
    have S₂ : St _ [hA] L _ [(D, tupOf #[.str (tx nm) t, .str (tx val) u] 0), (hA, listOf (vs.toArray.push (.ref D)) n')] s := S
    refine h2 hg _ _ _ n' D _ S₂.grow (hD0.resolve_right fun z => ?_) (S₂.get (.head _)) (S₂.get (.tail _ (.head _)))
    have := S₂.nodup
    simp [List.mem_singleton.mp z] at this
end
end Mine
end

section
open PySem PySem.W PyProof.Rows
set_option maxRecDepth 100000
set_option maxHeartbeats 1000000
namespace Mine
section
variable {prog : Program} {w : World} {A : Around} {E : Value → Shared → Prop} {s : Shared}
theorem init_code {k : Nat} {x dx : Addr} {R : Result → Shared → Prop} (G : Gl (KK w) (hideAll s.heap [dx])) (hA' : Ok k A) (hk : k ≤ 400) (hx : s.heap.get? x = some (instObj 171 dx)) (hd : s.heap.get? dx = some (dictOf [] 0)) (hne : x ≠ dx)
    (h : ∀ hA hh tk s', Grow [dx] s s' → s.heap.get? hA = none → s'.heap.get? hA = some (listOf #[] 0) → s'.heap.get? dx = some (dictOf [⟨hh, .str (Str.ofString "_headers") tk, .ref hA⟩] 1) → R (.ok (.ret .none)) s') : codeAny (model prog w) A (.call (.ref 63) ⟨[.ref x], []⟩) R s := by
  refine enter (K := KK w) (l := [(dx, dictOf [] 0)]) (ws := [dx]) (binds := [(Str.ofString "self", .ref x), (Str.ofString "headers", .none)]) G hA' (by exact rfl) (by exact rfl) (binds_K (K := KK w) (G.keeps (fun b o e => of_hideAll [dx] e)).X rfl (by exact rfl) rfl rfl rfl) (locs (by kernel_rfl)) (by intro p hp; rw [List.mem_singleton.mp hp]; exact ⟨hd, .head _⟩) (by simp) ?_ (by omega)
  intro L s S
  have hh : (A.deeper (envOf (Str.ofString "Headers.__init__") default L 63 .none)).handled = none := hA'.handled
  refine r_let ?_
  refine IfExp_ ?_
  refine wpAny_isTrue_Compare1 ?_
  refine r_local S rfl ?_
  refine Constant_none ?_
  refine isnot_none_none ?_
  refine wpAny_truthy_bool ?_
  rw [if_neg (by simp)]
  refine List_ ?_
  refine spliced_none ?_
  refine r_newList S (Nat.le_of_ble_eq_true rfl) fun hA s' S' hn => ?_
  have hfr := (S.fresh hn).2.1
  clear S
  revert S'
  intro S
  refine ⟨_, _, _, _, S, fun s S => ?_⟩
  refine r_stmt ?_
  refine wpAny_If ?_
  refine wpAny_isTrue_Compare1 ?_
  refine r_callT (T := "type") (fun Q hq => r_blt (K := KK w) (S.gl G) (by exact rfl) bb_type (by decide) hq) ?_
  refine spliced_more ?_
  refine r_local S rfl ?_
  refine spliced_none ?_
  refine call_type_of (Tx := "list") ⟨_, S.get (.head _), rfl⟩ (by decide +kernel) ?_
  refine r_blt (K := KK w) (S.gl G) (by exact rfl) bb_list (by decide) ?_
  refine isnot_type_same ?_
  refine wpAny_truthy_bool ?_
  rw [if_neg (by simp)]
  refine wpAny_execs_nil ?_
  refine r_stmt ?_
  refine plainObj_wpAny_Assign_Attribute ?_
  refine r_local S rfl ?_
  refine r_local S rfl ?_
  have hne' : hA ≠ dx := fun z => by
    have := S.nodup
    simp [z] at this
  have hx' := S.keep x _ (fun z => hne (List.mem_singleton.mp z)) hx
  have hxd : x ≠ hA := fun z => by
    have e := S.get (a := hA) (.head _)
    rw [← z, hx'] at e; cases e
  refine PySem.W.set_dict (K := KK w) (es := []) (n := 0) (dx := dx) S.fr G.X S.news ⟨hx', rfl, rfl, S.get (.tail _ (.head _))⟩ rfl (by exact rfl) (by exact rfl) (by exact rfl) (by exact rfl) (by exact rfl) rfl (.tail hne' (.head (by simp))) (Nat.le_of_ble_eq_true rfl) fun h' F' N' => ?_
  have S := S.of_fr (tk := s.toks + 2) F' N' (by simpa using S.nodup)
  refine r_stmt ?_
  refine wpAny_If ?_
  refine isTrue_plain ?_
  refine Constant_bool ?_
  refine wpAny_truthy_bool ?_
  rw [if_pos rfl]
  refine r_stmt ?_
  refine wpAny_For ?_
  refine r_local S rfl ?_
  refine r_for (items := []) (fun i m l => l = [(hA, listOf #[] 0), (dx, dictOf [⟨PyData.keyHash w.params (Str.ofString "_headers"), .str (Str.ofString "_headers") (s.toks + 1), .ref hA⟩] 1)]) hh S ?_ rfl ?_ ?_ ?_
  · rintro i m l s rfl S
    exact ⟨_, S.get (.head _), rfl, 0, rfl⟩
  · exact .inr ⟨⟨_, _, _, rfl⟩, by simp⟩
  · intro i v m l s I o hv; simp at hv
  · rintro m l s rfl S
    refine wpAny_execs_nil ?_
    refine wpAny_execs_nil ?_
    refine h hA _ _ _ S.grow ?_ (S.get (.head _)) (S.get (.tail _ (.head _)))
    exact hfr.resolve_right fun z => hne' (List.mem_singleton.mp z)
theorem St.addN {s₀ : Shared} {ws : List Addr} {L : Addr} {m : Str → Option Value} {l l' : List (Addr × Obj)} {a : Addr} {o : Obj} (S : St s₀ ws L m l s) (hf : a ≠ L ∧ (s₀.heap.get? a = none ∨ a ∈ ws) ∧ a ∉ l'.map (·.1)) (ha : s.heap.get? a = some o) (hl : l'.map (·.1) = l.map (·.1) := by rfl) : St s₀ ws L m ((a, o) :: l) s := by
  refine ⟨S.ns, S.keep, S.newL, S.above, fun p hp => ?_, List.nodup_cons.mpr ⟨hl ▸ hf.2.2, S.nodup⟩, S.same⟩
  rcases List.mem_cons.mp hp with rfl | hp
  · exact ⟨ha, hf.1, hf.2.1⟩
  · exact S.cells p hp
theorem Ok.under {k : Nat} (h : Ok k A) (C : Addr) (vals : List Value) : Ok (k + 1) (A.under (.builtin "type.__call__" ⟨.ref C :: vals, []⟩)) := by
  refine ⟨h.handled, ?_, ?_⟩
  · rw [depth_under_make]; have := h.depth; omega
  · have := h.units
    show A.units + Code.cUnits _ ≤ _
    have e : Code.cUnits (.builtin "type.__call__" ⟨.ref C :: vals, []⟩) ≤ 10 := Nat.le_of_ble_eq_true rfl
    omega
/-- Headers() -/
theorem make_call {s₀ : Shared} {L : Addr} {m : Str → Option Value} {l : List (Addr × Obj)} {Q : Value → Shared → Prop} {k : Nat} (S : St s₀ [] L m l s) (G : Gl (KK w) s₀.heap) (hA' : Ok k A) (hk : k ≤ 300)
    (h : ∀ T dx hA hh tk s', St s₀ [] L m ((hA, listOf #[] 0) :: (T, instObj 171 dx) :: (dx, dictOf [⟨hh, .str (Str.ofString "_headers") tk, .ref hA⟩] 1) :: l) s' → Q (.ref T) s') : wpAny (model prog w) A (call (.ref 171) []) Q E s := by
  refine call_cls (K := KK w) (fI := 63) S.fr G.X S.news (by exact rfl) (by exact rfl) (by exact rfl) fun x dx h' F' N' l1 l2 => ?_
  have nd : (((x, instObj 171 dx) :: (dx, dictOf [] 0) :: l).map (·.1)).Nodup := by
    refine nodup_lt (nodup_lt S.nodup l1) fun p hp => ?_
    rcases List.mem_cons.mp hp with rfl | hp
    · exact l2
    · exact Nat.lt_trans (l1 p hp) l2
  have S' := S.of_fr (tk := s.toks) F' N' nd
  have G' : Gl (KK w) (hideAll h' [dx]) := by
    refine G.keeps fun b o e => hideAll_get [dx] (S'.keep b o List.not_mem_nil e) fun z => ?_
    have := (S'.news (dx, dictOf [] 0) (.tail _ (.head _))).2.2
    rw [List.mem_singleton.mp z] at e
    have e' : (hideAll s₀.heap []).get? dx = some o := e
    rw [this] at e'; cases e'
  refine init_code (s := { s with heap := h' }) G' (hA'.under 171 []) (by omega) (S'.get (.head _)) (S'.get (.tail _ (.head _))) (Nat.ne_of_gt l2) fun hA hh tk s' Gr hn e1 e2 => ?_
  refine ⟨rfl, ?_⟩
  have S₂ := S'.upd (i := 1) rfl Gr e2 rfl
  exact h x dx hA hh tk _ (S₂.addN (S'.fresh hn) e1)
end
end Mine
end

section
open PySem PySem.W PyProof.Rows
set_option maxRecDepth 100000
set_option maxHeartbeats 1000000
namespace Mine
theorem upper_tx {nm : List Nat} (h : ∀ c ∈ nm, c < 128) : Txt.upper (tx nm) = tx (nm.map up1) := by
  rw [upper_ascii]
  · simp [tx]
  · intro c hc; exact h c (by simpa [tx] using hc)
section
variable {prog : Program} {w : World} {A : Around} {E : Value → Shared → Prop} {s : Shared} {Q : Value → Shared → Prop}
theorem name_call {k a b : Nat} {sg : List Nat} {g : Int} {t1 t2 t3 t4 : Tok} (G : Gl (KK w) s.heap) (hA : Ok k A) (hk : k ≤ 400) (ha : a < 4096) (hb : b < 4096) (hs : ∀ c ∈ sg, c < 128) (hl : sg.length ≤ 2) (h : ∀ t s', Grow [] s s' → Q (.str (tx (named a sg b (decide (g = 1)))) t) s') :
    wpAny (model prog w) A (call (.ref 204) [.int a t1, .str (tx sg) t2, .int b t3, .int g t4]) Q E s := by
  refine wpAny_call (enter (K := KK w) (l := []) (ws := []) (binds := [(Str.ofString "left", .int a t1), (Str.ofString "sign", .str (tx sg) t2), (Str.ofString "right", .int b t3), (Str.ofString "great", .int g t4)]) G hA (by exact rfl) (by exact rfl) (BindsTo.of_eq (by kernel_rfl)) (locs (by kernel_rfl)) (by intro p hp; cases hp) List.nodup_nil ?_ (by omega))
  intro L s S
  have la := figs_len (k := 3) (n := a) (by omega)
  have lb := figs_len (k := 3) (n := b) (by omega)
  have aa := figs_ascii a
  have ab := figs_ascii b
  refine r_let ?_
  refine wpAny_BinOp ?_
  refine wpAny_BinOp ?_
  refine r_call (f := 197) (K := KK w) (fun Q hq => r_glob (K := KK w) (S.gl0 G) (by exact rfl) hq) (S.gl0 G) (by exact rfl) ?_
  refine spliced_more ?_
  refine r_local S rfl ?_
  refine spliced_none ?_
  refine ⟨S.gl0 G, ?_⟩
  refine figures_call ha (S.gl0 G) (hA.deeper _) (by omega) fun t s' G' => ?_
  have S := S.calls G'
  refine r_local S rfl ?_
  refine r_cat S (by rw [tx_length, tx_length, sizeLine_eq]; omega) fun t s S => ?_
  rw [tx_append]
  refine r_call (f := 197) (K := KK w) (fun Q hq => r_glob (K := KK w) (S.gl0 G) (by exact rfl) hq) (S.gl0 G) (by exact rfl) ?_
  refine spliced_more ?_
  refine r_local S rfl ?_
  refine spliced_none ?_
  refine ⟨S.gl0 G, ?_⟩
  refine figures_call hb (S.gl0 G) (hA.deeper _) (by omega) fun t s' G' => ?_
  have S := S.calls G'
  refine r_cat S (by rw [tx_length, tx_length, sizeLine_eq, List.length_append]; omega) fun t s S => ?_
  rw [tx_append]
  refine ⟨_, _, _, _, S, fun s S => ?_⟩
  refine r_ret ?_
  refine IfExp_ ?_
  refine wpAny_isTrue_Compare1 ?_
  refine r_local S rfl ?_
  refine r_int S fun t s S => ?_
  refine eq_int ?_
  refine wpAny_truthy_bool ?_
  by_cases hg : g = 1
  · rw [if_pos (by simpa using hg)]
    refine MethodCall_ ?_
    refine r_local S rfl ?_
    refine GM.upper ?_
    refine callWith_method0 ?_
    refine SCL.upper (by rw [tx_length, List.length_append, List.length_append]; omega) fun _ => ?_
    rw [upper_tx (by intro c hc; rcases List.mem_append.mp hc with hc | hc; rcases List.mem_append.mp hc with hc | hc; exact aa c hc; exact hs c hc; exact ab c hc)]
    have e : (figs a ++ sg ++ figs b).map up1 = named a sg b (decide (g = 1)) := by unfold named; rw [if_pos (by simpa using hg)]
    rw [e]
    exact h _ _ (S.tok).grow
  · rw [if_neg (by simpa using hg)]
    refine r_local S rfl ?_
    have e : figs a ++ sg ++ figs b = named a sg b (decide (g = 1)) := by unfold named; rw [if_neg (by simpa using hg)]
    rw [e]
    exact h _ _ S.grow
end
end Mine
end

section
open PySem PySem.W PyProof.Rows
set_option maxRecDepth 100000
set_option maxHeartbeats 1000000
namespace Mine
theorem paired48 {vs zs : List Value} {ns : List Int} (hI : IntsAre vs ns) (hF : Paired (fun v y => ∃ n t u, v = Value.int n t ∧ y = Value.int (n.fmod 48) u) vs zs) : IntsAre zs (ns.map fun n => n.fmod 48) := by
  induction hI generalizing zs with
  | nil => cases hF; exact .nil
  | cons n t _ ih =>
    cases hF with
    | cons r hF =>
      obtain ⟨n', t', u, e, rfl⟩ := r
      cases e
      exact .cons _ _ (ih hF)
section
variable {prog : Program} {w : World} {A : Around} {E : Value → Shared → Prop} {s : Shared} {Q : Value → Shared → Prop}
/-- [x % 48 for x in a list of ints] -/
theorem comp48 {s₀ : Shared} {ws : List Addr} {L : Addr} {m : Str → Option Value} {l : List (Addr × Obj)} {env : Env} {x : Str} {px p1 p2 p3 pos : Pos} {iter : Expr} {scope : Scope} {vs : List Value} {ns : List Int} {kk : Nat}
    (hh : A.handled = none) (_S : St s₀ ws L m l s) (hiter : ∀ Q : Value → Shared → Prop, (∀ D s', St s₀ ws L m ((D, listOf vs.toArray 0) :: l) s' → Q (.ref D) s') → wpAny (model prog w) A (eval iter env) Q E s) (hI : IntsAre vs ns) (hz : ns.length ≤ 1000)
    (h : ∀ D' ys n' s', St s₀ ws L m ((D', listOf (List.toArray ys) n') :: l) s' → IntsAre ys (ns.map fun n => n.fmod 48) → Q (.ref D') s')
    (hfree : ∀ y ∈ scope.names, y.2 ≠ .free) (hcell : ∀ y ∈ scope.names, y.2 ≠ .cell) (hkind : scope.kind = .function)
    (hnames : ∀ y ∈ scope.names, y.2 = .local → scope.names.lookup y.1 = some .local) (hx : scope.names.lookup x = some .local)
    (hs : ∀ x, foldedSetIterable iter env x = pure x) (hd : (x == ("__debug__" : Str)) = false) :
    wpAny (model prog w) A (eval (.ListComp (.BinOp (.Name x p1) .Mod (.Constant (.int 48) kk p2) p3) [⟨.Name x px, iter, [], 0⟩] scope pos) env) Q E s := by
  refine wpAny_ListComp_walk (fun _ => true) (fun v y => ∃ n t u, v = .int n t ∧ y = .int (n.fmod 48) u) hfree hcell hkind hnames hx ?_ hs
  refine hiter _ fun D s' S => ?_
  refine wpAny_pyIter_list ⟨_, S.get (.head _), rfl, 0, rfl⟩ ?_
  have hne : D ≠ s'.heap.objs.size := Nat.ne_of_lt (Heap.lt_size (S.get (.head _)))
  have hlen : vs.toArray.size = ns.length := by rw [List.size_toArray, hI.length]
  refine ⟨s'.heap.objs.size, _, _, _, _, _, rfl, Walks.list hh s'.heap.objs.size D hne vs.toArray, ?_, ⟨⟨_, Heap.get?_push_size _ rfl, rfl, rfl⟩, ⟨_, Heap.get?_push_of_some _ (S.get (.head _)), rfl, 0, rfl⟩⟩, ?_, ?_, ?_⟩
  · rw [hlen, sizeLine_eq]; omega
  · intro b hb
    show b < (s'.heap.push _).objs.size
    rw [Heap.size_push]
    rcases List.mem_cons.mp hb with rfl | hb
    · exact Nat.lt_succ_self _
    · rw [List.mem_singleton.mp hb]; exact Nat.lt_succ_of_lt (Heap.lt_size (S.get (.head _)))
  · refine ⟨fun C i v s₃ m₃ E' hv hn hm hk ht => ?_, fun C i v s₃ m₃ E' hv _ hn hm hk ht => ?_⟩
    · exact wpAny_pure ⟨rfl, s₃.heap, s₃.toks, rfl, fun _ _ e => e⟩
    · have hv' : vs[i]? = some v := by simpa using hv
      obtain ⟨n, _, t, rfl⟩ := (both_ints hI).get hv'
      refine wpAny_BinOp ?_
      refine wpAny_Name (wpAny_loadName_local hkind hx hn hm ?_) hd
      refine wpAny_Constant_int ?_
      refine mod_int' (by decide) ?_
      exact ⟨⟨n, t, _, rfl, rfl⟩, s₃.heap, _, rfl, fun _ _ e => e⟩
  · intro D' h' tk ys us hD _ hp hlen' hP hF hk
    obtain ⟨n', hn'⟩ := hp
    have kk : ∀ b o, s'.heap.get? b = some o → h'.get? b = some o := fun b o e => hk b o (fun z => absurd (Heap.lt_size e) (by rw [List.mem_singleton.mp z]; exact Nat.lt_irrefl _)) (Heap.get?_push_of_some _ e)
    have hD' : s'.heap.get? D' = none := by
      cases q : s'.heap.get? D' with
      | none => rfl
      | some o => have := Heap.get?_push_of_some { cls := Value.type "list_iterator", data := Data.fields #[Value.ref D, Value.int 0 0] } q; rw [show (s'.heap.push _).get? D' = none from hD] at this; cases this
    have S₁ := S.sub (List.sublist_cons_self _ _)
    have S₂ : St s₀ ws L m ((D', listOf ys.toList.toArray n') :: l) { s' with heap := h', toks := tk } := S₁.add hD' (S₁.heap' kk) (by simpa using hn')
    refine h D' ys.toList n' _ S₂ ?_
    have hus : us = vs := by
      refine List.ext_getElem? fun j => ?_
      by_cases hj : j < us.length
      · have := hP j _ (List.getElem?_eq_getElem hj)
        rw [List.getElem?_eq_getElem hj]
        simpa using this.symm
      · rw [List.getElem?_eq_none (by omega), List.getElem?_eq_none (by simp at hlen'; omega)]
    subst hus
    rw [List.filter_eq_self.mpr (by simp)] at hF
    exact paired48 hI hF
end
end Mine
end

section
open PySem PySem.W PyProof.Rows
set_option maxRecDepth 100000
set_option maxHeartbeats 1000000
namespace Mine
def DeedIn (tl : List (Addr × Obj)) (v : Value) (d : Deed) : Prop := ∃ a n t1 t2 t3, v = .ref a ∧ (a, tupOf #[.int d.d1 t1, .int d.d2 t2, .int d.d3 t3] n) ∈ tl
theorem DeedIn.mono {tl tl' : List (Addr × Obj)} {v : Value} {d : Deed} (h : DeedIn tl v d) (k : ∀ p ∈ tl, p ∈ tl') : DeedIn tl' v d := by
  obtain ⟨a, n, t1, t2, t3, e, hm⟩ := h
  exact ⟨a, n, t1, t2, t3, e, k _ hm⟩
theorem ints_get {vs : List Value} {ns : List Int} (h : IntsAre vs ns) {i : Nat} (hi : i < ns.length) : ∃ t, vs[i]? = some (.int ns[i] t) := by
  obtain ⟨v, hv, t, rfl⟩ := (both_ints h).getR (List.getElem?_eq_getElem hi)
  exact ⟨t, hv⟩
section
variable {prog : Program} {w : World} {A : Around} {E : Value → Shared → Prop} {s : Shared} {Q : Value → Shared → Prop}
theorem deeds_call {k : Nat} {scr : Addr} {vs : List Value} {ns : List Int} (G : Gl (KK w) s.heap) (hA : Ok k A) (hk : k ≤ 400) (hl : s.heap.IsList scr vs.toArray) (hI : IntsAre vs ns) (hz : ns.length ≤ 1000)
    (h : ∀ D dv nd ds tl s', Grow [] s s' → (∀ p ∈ (D, listOf (List.toArray dv) nd) :: tl, s'.heap.get? p.1 = some p.2 ∧ s.heap.get? p.1 = none) → (((D, listOf dv.toArray nd) :: tl).map (·.1)).Nodup → Both (DeedIn tl) dv ds → ds.length ≤ 16 → (∀ d ∈ ds, d.ok) → Q (.ref D) s') :
    wpAny (model prog w) A (call (.ref 190) [.ref scr]) Q E s := by
  refine wpAny_call (enter (K := KK w) (l := []) (ws := []) (binds := [(Str.ofString "script", .ref scr)]) G hA (by exact rfl) (by exact rfl) (BindsTo.of_eq (by kernel_rfl)) (locs (by kernel_rfl)) (by intro p hp; cases hp) List.nodup_nil ?_ (by omega))
  intro L s S
  have hh : (A.deeper (envOf (Str.ofString "_law_deeds") default L 190 .none)).handled = none := hA.handled
  refine r_let ?_
  refine List_ ?_
  refine spliced_none ?_
  refine r_newList S (Nat.le_of_ble_eq_true rfl) fun dA s S hn1 => ?_
  refine ⟨_, _, _, _, S, fun s S => ?_⟩
  refine r_let ?_
  refine List_ ?_
  refine r_ints (.cons .nil) S fun zv s hzv S => ?_
  refine r_newList S (by rw [hzv.length]; exact Nat.le_of_ble_eq_true rfl) fun sA s S hn2 => ?_
  refine ⟨_, _, _, _, S, fun s S => ?_⟩
  refine r_stmt ?_
  refine wpAny_For ?_
  refine wpAny_BinOp ?_
  refine List_ ?_
  refine r_ints (.cons (.cons (.cons (.cons (.cons (.cons .nil)))))) S fun av s hav S => ?_
  refine r_newList S (by rw [hav.length]; exact Nat.le_of_ble_eq_true rfl) fun aA s S hn3 => ?_
  obtain ⟨o, ho, hoc, no, hod⟩ := hl
  have hpk : IntsAre (kms_pick vs none (some 10)) (ns.take 10) := by
    have e : kms_pick vs none (some 10) = vs.take 10 := by
      simp only [kms_pick, kms_lo, kms_hi, List.drop_zero, Nat.sub_zero]
      rw [if_neg (by decide)]
      exact kmk_take_min vs 10
    rw [e]
    exact ints_both ((both_ints hI).take 10)
  refine comp48 hh S (vs := kms_pick vs none (some 10)) (ns := ns.take 10) ?_ hpk (by rw [List.length_take]; omega) ?_ ?_ ?_ ?_ ?_ ?_ ?_ ?_
  · intro Q hq
    refine Subscript_ ?_
    refine r_local S rfl ?_
    refine wpAny_Slice ?_
    refine evalPart_none_step ?_
    refine evalPart_some_step ?_
    refine r_int S fun t s S => ?_
    refine evalPart_none_step ?_
    refine r_slice S ⟨o, S.keep _ _ List.not_mem_nil ho, hoc, no, hod⟩ .none (.int 10 t) (by rw [List.size_toArray, hI.length, sizeLine_eq]; omega) fun D' s' S' _ => ?_
    exact hq D' s' S'
  · intro cA cv cn s S hcv
    refine kmk_add_ints S.fr S.news (S.isList (i := 1) rfl) (S.isList (i := 0) rfl) hav hcv (fun D us h' F' N' l1 hus => ?_) (by simp [sizeLine_eq]; omega)
    have S := S.of_fr (tk := s.toks) F' N' (nodup_lt S.nodup l1)
    have S := S.mem (l' := [(sA, listOf zv.toArray 0), (dA, listOf #[] 0), (D, listOf us.toArray 0)]) (by simp) (by
      have := S.nodup
      simp only [List.map_cons, List.map_nil, List.nodup_cons, List.mem_cons, List.not_mem_nil, or_false, not_or] at this ⊢
      simp only [List.nodup_nil, not_false_eq_true, and_true]
      exact ⟨⟨this.2.2.2.1, fun z => this.1.2.2.1 z.symm⟩, fun z => this.1.2.2.2 z.symm⟩)
    refine r_for (items := us) (fun i m l => ∃ sA sv ns dv nd tl ds sz, l = (sA, listOf (List.toArray sv) ns) :: (dA, listOf (List.toArray dv) nd) :: (D, listOf us.toArray 0) :: tl ∧ m (Str.ofString "deeds") = some (.ref dA) ∧ m (Str.ofString "sizes") = some (.ref sA) ∧ IntsAre sv sz ∧ sz ≠ [] ∧ sz.length ≤ i + 1 ∧ Both (DeedIn tl) dv ds ∧ ds.length = i ∧ ∀ d ∈ ds, d.ok) hh S ?_ ?_ ?_ ?_ ?_
    · rintro i m l s ⟨sA, sv, ns, dv, nd, tl, ds, sz, rfl, _⟩ S
      exact S.isList (i := 2) rfl
    · exact ⟨sA, zv, 0, [], 0, [], [], [1], rfl, rfl, rfl, hzv, by simp, by simp, .nil, rfl, by simp⟩
    · exact .inl ⟨_, _, rfl⟩
    · rintro i v m l s I oI hv ⟨sA, sv, ns', dv, nd, tl, ds, sz, rfl, hm1, hm2, hsv, hne, hsl, hd, hdl, hok⟩ S
      have hul : us.length ≤ 16 := by rw [hus.length]; simp; omega
      have hi : i < us.length := (List.getElem?_eq_some_iff.mp hv).1
      obtain ⟨n, _, tn, rfl⟩ := (both_ints hus).get hv
      have hlen := hsv.length
      have hpos : 0 < sz.length := List.length_pos_iff.mpr hne
      refine wpAny_assign_Name ?_
      refine r_store S fun s S => ?_
      refine r_let ?_
      refine wpAny_BinOp ?_
      refine Subscript_ ?_
      refine r_local S hm2 ?_
      refine UnaryOp_ ?_
      refine r_int S fun t1 s S => ?_
      refine r_neg S fun t1 s S => ?_
      obtain ⟨u1, e1⟩ := ints_get hsv (i := sz.length - 1) (by omega)
      refine r_itemN (S.isList (i := 1) rfl) (by decide) (by rw [List.size_toArray, hlen]; omega) (by decide) (x := .int sz[sz.length - 1] u1) (by rw [List.size_toArray, hlen, show ((-1 : Int) + (sz.length : Nat)).toNat = sz.length - 1 from by omega]; simpa using e1) ?_
      refine r_mid S (fun v => ∃ z t, v = .int z t) ?_ ?_
      · refine IfExp_ ?_
        refine wpAny_isTrue_Compare1 ?_
        refine r_callB (fun Q hq => r_blt (K := KK w) (S.gl0 G) (by exact rfl) bb_len (by decide) hq) ?_
        refine spliced_more ?_
        refine r_local S hm2 ?_
        refine spliced_none ?_
        refine r_len S (S.isList (i := 1) rfl) (by rw [List.size_toArray, hlen]; omega) fun t2 s S => ?_
        refine r_int S fun t1 s S => ?_
        refine gt_int ?_
        refine wpAny_truthy_bool ?_
        by_cases h2 : 1 < sz.length
        · rw [if_pos (by rw [List.size_toArray, hlen]; simp; omega)]
          refine Subscript_ ?_
          refine r_local S hm2 ?_
          refine UnaryOp_ ?_
          refine r_int S fun t1 s S => ?_
          refine r_neg S fun t1 s S => ?_
          obtain ⟨u2, e2⟩ := ints_get hsv (i := sz.length - 2) (by omega)
          refine r_itemN (S.isList (i := 1) rfl) (by decide) (by rw [List.size_toArray, hlen]; omega) (by decide) (x := .int sz[sz.length - 2] u2) (by rw [List.size_toArray, hlen, show ((-2 : Int) + (sz.length : Nat)).toNat = sz.length - 2 from by omega]; simpa using e2) ?_
          exact ⟨⟨_, _, rfl⟩, S⟩
        · rw [if_neg (by rw [List.size_toArray, hlen]; simp; omega)]
          refine Subscript_ ?_
          refine r_local S hm2 ?_
          refine UnaryOp_ ?_
          refine r_int S fun t1 s S => ?_
          refine r_neg S fun t1 s S => ?_
          refine r_itemN (S.isList (i := 1) rfl) (by decide) (by rw [List.size_toArray, hlen]; omega) (by decide) (x := .int sz[sz.length - 1] u1) (by rw [List.size_toArray, hlen, show ((-1 : Int) + (sz.length : Nat)).toNat = sz.length - 1 from by omega]; simpa using e1) ?_
          exact ⟨⟨_, _, rfl⟩, S⟩
      rintro v s ⟨z, tz, rfl⟩ S
      refine r_add S fun tb s S => ?_
      refine ⟨_, _, _, _, S, fun s S => ?_⟩
      generalize hb : sz[sz.length - 1] + z = b at S
      refine r_stmt ?_
      refine wpAny_If ?_
      refine r_mid S (fun _ => True) ?_ ?_
      · refine isTrue_or ?_
        refine wpAny_isTrue_Compare1 ?_
        refine wpAny_BinOp ?_
        refine r_local S rfl ?_
        refine r_int S fun t1 s S => ?_
        refine r_mod S (by decide) fun t1 s S => ?_
        refine r_int S fun t1 s S => ?_
        refine eq_int ?_
        refine wpAny_truthy_bool ?_
        split
        · exact ⟨trivial, S⟩
        · refine isTrue_or ?_
          refine wpAny_isTrue_Compare1 ?_
          refine r_local S rfl ?_
          refine r_int S fun t1 s S => ?_
          refine gt_int ?_
          refine wpAny_truthy_bool ?_
          split
          · exact ⟨trivial, S⟩
          · exact isTrue_or_nil ⟨trivial, S⟩
      intro c s _ S
      cases c
      · rw [if_neg (by simp)]
        refine r_stmt ?_
        refine wpAny_Expr_any ?_
        refine MethodCall_ ?_
        refine r_local S hm1 ?_
        refine r_meth S (i := 2) rfl PySem.F.slot_list_append PySem.F.type_list_append ?_
        refine callWith_method1 ?_
        refine spliced_more ?_
        refine Tuple_ ?_
        refine spliced_more ?_
        refine r_int S fun t1 s S => ?_
        refine spliced_more ?_
        refine wpAny_BinOp ?_
        refine wpAny_BinOp ?_
        refine r_local S rfl ?_
        refine r_int S fun t2 s S => ?_
        refine r_div S (by decide) (PyProof.noPylong_small (by decide)) fun t2 s S => ?_
        refine r_int S fun t3 s S => ?_
        refine r_mod S (by decide) fun t2 s S => ?_
        refine spliced_more ?_
        refine wpAny_BinOp ?_
        refine wpAny_BinOp ?_
        refine r_local S rfl ?_
        refine r_int S fun t3 s S => ?_
        refine r_div S (by decide) (PyProof.noPylong_small (by decide)) fun t3 s S => ?_
        refine r_int S fun t4 s S => ?_
        refine r_mod S (by decide) fun t3 s S => ?_
        refine spliced_none ?_
        refine r_newTuple S (Nat.le_of_ble_eq_true rfl) fun T s S hT => ?_
        refine spliced_none ?_
        refine r_append S (i := 3) rfl (by rw [List.size_toArray, hd.length, sizeLine_eq]; omega) fun nd' s S => ?_
        refine r_let ?_
        refine wpAny_BinOp ?_
        refine Subscript_ ?_
        refine r_local S hm2 ?_
        refine wpAny_Slice ?_
        refine evalPart_none_step ?_
        refine evalPart_some_step ?_
        refine UnaryOp_ ?_
        refine r_int S fun t5 s S => ?_
        refine r_neg S fun t5 s S => ?_
        refine evalPart_none_step ?_
        refine r_slice S (S.isList (i := 2) rfl) .none (.int (-2) t5) (by rw [List.size_toArray, hlen, sizeLine_eq]; omega) fun D1 s S _ => ?_
        refine List_ ?_
        refine spliced_more ?_
        refine r_local S rfl ?_
        refine spliced_none ?_
        refine r_newList S (Nat.le_of_ble_eq_true rfl) fun D2 s S _ => ?_
        have e : kms_pick sv.toArray.toList none (some (-2)) = sv.take (sv.length - 2) := by simp [kms_pick, kms_lo, kms_hi]
        have hsl' : IntsAre (kms_pick sv.toArray.toList none (some (-2))) (sz.take (sv.length - 2)) := by rw [e]; exact ints_both ((both_ints hsv).take _)
        refine kmk_add_ints S.fr S.news (S.isList (i := 1) rfl) (S.isList (i := 0) rfl) hsl' (.cons b _ .nil) (fun D3 us3 h' F' N' l1 hus3 => ?_) (by simp [sizeLine_eq]; omega)
        have S := S.of_fr (tk := s.toks) F' N' (nodup_lt S.nodup l1)
        refine ⟨_, _, _, _, S, fun s S => ?_⟩
        refine wpAny_execs_nil ?_
        refine wpAny_execs_nil ?_
        obtain ⟨wh, hw, hwl⟩ : ∃ wh : Nat, (n.fdiv 3).fmod 8 = (wh : Int) ∧ wh < 8 := by
          have := Int.fmod_nonneg_of_pos (n.fdiv 3) (b := 8) (by decide)
          have := Int.fmod_lt_of_pos (n.fdiv 3) (b := 8) (by decide)
          exact ⟨((n.fdiv 3).fmod 8).toNat, by omega, by omega⟩
        obtain ⟨g, hg⟩ : ∃ g : Bool, (n.fdiv 24).fmod 2 = (if g then 1 else 0) := by
          have := Int.fmod_nonneg_of_pos (n.fdiv 24) (b := 2) (by decide)
          have := Int.fmod_lt_of_pos (n.fdiv 24) (b := 2) (by decide)
          by_cases q : (n.fdiv 24).fmod 2 = 1
          · exact ⟨true, by simpa using q⟩
          · exact ⟨false, by simp; omega⟩
        rw [hw, hg] at S
        have S₂ := S.mem (l' := (I, oI) :: (D3, listOf us3.toArray 0) :: (dA, listOf (dv ++ [Value.ref T]).toArray nd') :: (D, listOf us.toArray 0) :: (T, tupOf #[.int (Deed.join wh g).d1 t1, .int (Deed.join wh g).d2 t2, .int (Deed.join wh g).d3 t3] 0) :: tl) (by
            intro p hp
            simp only [List.set_cons_succ, List.set_cons_zero, List.mem_cons] at hp ⊢
            rcases hp with rfl | rfl | rfl | rfl | rfl | hp
            · simp
            · simp
            · simp
            · simp
            · simp [Deed.d1, Deed.d2, Deed.d3]
            · simp [hp]) (by
            have nd := S.nodup
            simp only [List.set_cons_succ, List.set_cons_zero, List.map_cons, List.nodup_cons, List.mem_cons, not_or] at nd ⊢
            grind)
        refine ⟨_, _, ?_, S₂⟩
        refine ⟨D3, us3, 0, _, nd', _, ds ++ [.join wh g], _, rfl, ?_, rfl, hus3, by simp, ?_, ?_, by simp [hdl], ?_⟩
        · exact hm1
        · simp; omega
        · exact (hd.mono fun _ _ r => r.mono fun p hp => .tail _ hp).append (.one ⟨T, 0, t1, t2, t3, rfl, .head _⟩)
        · intro d hd'
          rcases List.mem_append.mp hd' with hd' | hd'
          · exact hok d hd'
          · rw [List.mem_singleton.mp hd']; exact hwl
      · rw [if_pos rfl]
        refine r_stmt ?_
        refine wpAny_Expr_any ?_
        refine MethodCall_ ?_
        refine r_local S hm1 ?_
        refine r_meth S (i := 2) rfl PySem.F.slot_list_append PySem.F.type_list_append ?_
        refine callWith_method1 ?_
        refine spliced_more ?_
        refine Tuple_ ?_
        refine spliced_more ?_
        refine r_int S fun t1 s S => ?_
        refine spliced_more ?_
        refine Subscript_ ?_
        refine List_ ?_
        refine r_ints (.cons (.cons (.cons (.cons .nil)))) S fun lv s hlv S => ?_
        refine r_newList S (by rw [hlv.length]; exact Nat.le_of_ble_eq_true rfl) fun D1 s S _ => ?_
        refine wpAny_BinOp ?_
        refine wpAny_BinOp ?_
        refine r_local S rfl ?_
        refine r_int S fun t2 s S => ?_
        refine r_div S (by decide) (PyProof.noPylong_small (by decide)) fun t2 s S => ?_
        refine r_int S fun t3 s S => ?_
        refine r_mod S (by decide) fun t2 s S => ?_
        obtain ⟨wh, hw, hwl⟩ : ∃ wh : Nat, (n.fdiv 3).fmod 4 = (wh : Int) ∧ wh < 4 := by
          have := Int.fmod_nonneg_of_pos (n.fdiv 3) (b := 4) (by decide)
          have := Int.fmod_lt_of_pos (n.fdiv 3) (b := 4) (by decide)
          exact ⟨((n.fdiv 3).fmod 4).toNat, by omega, by omega⟩
        rw [hw]
        obtain ⟨lf, hlf, tlf, hlx⟩ : ∃ lf : Nat, (lf = 1 ∨ lf = 10 ∨ lf = 171 ∨ lf = 255) ∧ ∃ t, lv[wh]? = some (.int lf t) := by
          obtain ⟨t, ht⟩ := ints_get hlv (i := wh) (by simpa using hwl)
          rw [ht]
          match wh, hwl with
          | 0, _ => exact ⟨1, by simp, t, rfl⟩
          | 1, _ => exact ⟨10, by simp, t, rfl⟩
          | 2, _ => exact ⟨171, by simp, t, rfl⟩
          | 3, _ => exact ⟨255, by simp, t, rfl⟩
        refine r_item (S.isList (i := 0) rfl) (by omega) (by omega) (x := .int lf tlf) (by simpa using hlx) ?_
        refine spliced_more ?_
        refine r_int S fun t3 s S => ?_
        refine spliced_none ?_
        refine r_newTuple S (Nat.le_of_ble_eq_true rfl) fun T s S hT => ?_
        refine spliced_none ?_
        refine r_append S (i := 4) rfl (by rw [List.size_toArray, hd.length, sizeLine_eq]; omega) fun nd' s S => ?_
        refine r_stmt ?_
        refine wpAny_Expr_any ?_
        refine MethodCall_ ?_
        refine r_local S hm2 ?_
        refine r_meth S (i := 3) rfl PySem.F.slot_list_append PySem.F.type_list_append ?_
        refine callWith_method1 ?_
        refine spliced_more ?_
        refine r_int S fun t4 s S => ?_
        refine spliced_none ?_
        refine r_append S (i := 3) rfl (by rw [List.size_toArray, hlen, sizeLine_eq]; omega) fun ns2 s S => ?_
        refine wpAny_execs_nil ?_
        refine wpAny_execs_nil ?_
        have S₂ := S.mem (l' := (I, oI) :: (sA, listOf (sv ++ [Value.int 1 t4]).toArray ns2) :: (dA, listOf (dv ++ [Value.ref T]).toArray nd') :: (D, listOf us.toArray 0) :: (T, tupOf #[.int (Deed.leaf lf).d1 t1, .int (Deed.leaf lf).d2 tlf, .int (Deed.leaf lf).d3 t3] 0) :: tl) (by
            intro p hp
            simp only [List.set_cons_succ, List.set_cons_zero, List.mem_cons] at hp ⊢
            rcases hp with rfl | rfl | rfl | rfl | rfl | hp
            · simp
            · simp
            · simp
            · simp
            · simp [Deed.d1, Deed.d2, Deed.d3]
            · simp [hp]) (by
            have nd := S.nodup
            simp only [List.set_cons_succ, List.set_cons_zero, List.map_cons, List.nodup_cons, List.mem_cons, not_or] at nd ⊢
            grind)
        refine ⟨_, _, ?_, S₂⟩
        refine ⟨sA, _, ns2, _, nd', _, ds ++ [.leaf lf], sz ++ [1], rfl, ?_, ?_, hsv.append (.cons 1 t4 .nil), by simp, by simp; omega, ?_, by simp [hdl], ?_⟩
        · exact hm1
        · exact hm2
        · exact (hd.mono fun _ _ r => r.mono fun p hp => .tail _ hp).append (.one ⟨T, 0, t1, tlf, t3, rfl, .head _⟩)
        · intro d hd'
          rcases List.mem_append.mp hd' with hd' | hd'
          · exact hok d hd'
          · rw [List.mem_singleton.mp hd']; exact hlf
    · rintro m l s ⟨sA, sv, ns', dv, nd, tl, ds, sz, rfl, hm1, hm2, hsv, hne, hsl, hd, hdl, hok⟩ S
      refine r_ret ?_
      refine r_local S hm1 ?_
      have S := S.sub (l' := (dA, listOf dv.toArray nd) :: tl) (by refine .cons _ (.cons_cons _ (.cons _ (.refl _))))
      refine h dA dv nd ds tl _ S.grow (fun p hp => ⟨(S.cells p hp).1, ?_⟩) S.nodup hd ?_ hok
      · exact (S.cells p hp).2.2.resolve_right List.not_mem_nil
      · rw [hdl, hus.length]; simp; omega
  · decide
  · decide
  · rfl
  · decide
  · rfl
  · intro _; rfl
  · decide
end
end Mine
end

section
open PySem PySem.W PyProof.Rows
set_option maxRecDepth 100000
set_option maxHeartbeats 1000000
namespace Mine
def PairIn (tl : List (Addr × Obj)) (v : Value) (p : List Nat × List Nat) : Prop := ∃ a n t u, v = .ref a ∧ (a, tupOf #[.str (tx p.1) t, .str (tx p.2) u] n) ∈ tl
theorem PairIn.mono {tl tl' : List (Addr × Obj)} {v : Value} {p : List Nat × List Nat} (h : PairIn tl v p) (k : ∀ p ∈ tl, p ∈ tl') : PairIn tl' v p := by
  obtain ⟨a, n, t, u, e, hm⟩ := h
  exact ⟨a, n, t, u, e, k _ hm⟩
theorem look_tok (w : World) : ∃ es n, (KK w).lookup 176 = some ⟨.type "dict", none, .dict es n, #[]⟩ ∧ KeysLit w.params es.toList := ⟨_, _, rfl, by k_keys⟩
section
variable {prog : Program} {w : World} {A : Around} {E : Value → Shared → Prop} {s : Shared} {Q : Value → Shared → Prop}
variable {s₀ : Shared} {ws : List Addr} {L : Addr} {m : Str → Option Value} {l : List (Addr × Obj)}
theorem St.hide {hA : Addr} (S : St s₀ [hA] L m l s) : (hideAll s₀.heap [hA]).StaysIn (hideAll s.heap [hA]) := fun b o e => by
  have hb : b ∉ [hA] := fun z => by rw [hideAll_none [hA] z] at e; cases e
  exact hideAll_get [hA] (S.keep b o hb (of_hideAll [hA] e)) hb
theorem tok_fact (w : World) : (k : Nat) → k < 8 → ∃ n tk, (Int.fmod n 2 == 0) = comm (sgn k) ∧ nsIn (KK w) 176 (tx (sgn k)) = some (some (.int n tk))
  | 0, _ => ⟨14, _, by decide, rfl⟩
  | 1, _ => ⟨15, _, by decide, rfl⟩
  | 2, _ => ⟨16, _, by decide, rfl⟩
  | 3, _ => ⟨35, _, by decide, rfl⟩
  | 4, _ => ⟨18, _, by decide, rfl⟩
  | 5, _ => ⟨17, _, by decide, rfl⟩
  | 6, _ => ⟨32, _, by decide, rfl⟩
  | 7, _ => ⟨33, _, by decide, rfl⟩
  | k + 8, h => absurd h (by omega)
theorem tok_item {k : Nat} (hk : k < 8) {value slice : Expr} {t : Tok} (S : St s₀ ws L m l s) (G : Gl (KK w) (hideAll s₀.heap ws)) (h : ∀ n t s', St s₀ ws L m l s' → (n.fmod 2 == 0) = comm (sgn k) → Q (.int n t) s')
    (hs : ∀ x t, subscripted slice false (.ref 176) (.str x t) = operate [.ref 176, .str x t] (getItem (.ref 176) (.str x t))) :
    wpAny (model prog w) A (subscriptTail value slice (.ref 176) (.str (tx (sgn k)) t)) Q E s := by
  obtain ⟨n, tk, hn, e⟩ := tok_fact w k hk
  obtain ⟨es, nn, h1, h2⟩ := look_tok w
  exact topItem_K (K := KK w) S.fr G.X h1 h2 e (h _ _ _ S.tok hn) (hs _ _)
end
end Mine
end

section
open PySem PySem.W PyProof.Rows
set_option maxRecDepth 100000
set_option maxHeartbeats 1000000
namespace Mine
abbrev zs (l : List Nat) : List Int := l.map fun (n : Nat) => (n : Int)
theorem cls_ne {h : Heap} {a b : Addr} {o o' : Obj} (ha : h.get? a = some o) (hb : h.get? b = some o') (hc : o.cls ≠ o'.cls) : a ≠ b := fun e => by
  subst e; rw [ha] at hb; cases hb; exact hc rfl
theorem ints_snoc {pv : List Value} {pl : List Nat} (h : IntsAre pv (zs pl)) (hne : pl ≠ []) : ∃ pv' t, pv = pv' ++ [.int (lastN pl) t] ∧ IntsAre pv' (zs pl.dropLast) := by
  have e : zs pl = zs pl.dropLast ++ [((lastN pl : Nat) : Int)] := by
    have : pl = pl.dropLast ++ [lastN pl] := by
      unfold lastN
      rw [List.getLastD_eq_getLast?, List.getLast?_eq_some_getLast hne]
      exact (List.dropLast_concat_getLast hne).symm
    conv => lhs; rw [this]
    simp [zs]
  have hb := both_ints h
  rw [e] at hb
  obtain ⟨as, a, rfl, h1, t, rfl⟩ := hb.snocR
  exact ⟨as, t, rfl, ints_both h1⟩
section
variable {prog : Program} {w : World} {A : Around} {E : Value → Shared → Prop} {s₀ s : Shared} {ws : List Addr} {L : Addr} {m : Str → Option Value} {l : List (Addr × Obj)} {Q : Value → Shared → Prop}
theorem r_intOf {n : Nat} {t : Tok} (S : St s₀ ws L m l s) (h1 : n < 1000) (h : ∀ t s', St s₀ ws L m l s' → Q (.int (n : Nat) t) s') : wpAny (model prog w) A (call (.type "int") [.str (tx (dec n)) t]) Q E s := by
  rw [tx_dec]
  exact KIN.call_num (by omega) (by omega) (h _ _ S.tok)
theorem r_strOf {n : Nat} {t : Tok} (S : St s₀ ws L m l s) (h1 : n < 1000) (h : ∀ t s', St s₀ ws L m l s' → Q (.str (tx (dec n)) t) s') : wpAny (model prog w) A (call (.type "str") [.int (n : Nat) t]) Q E s := by
  rw [tx_dec] at h
  refine P.str_of_int ?_ (h _ _ S.tok)
  by_cases h0 : n = 0
  · subst h0; decide
  · have : ((n : Int).natAbs) < 2 ^ 10 := by omega
    exact Nat.lt_trans ((Nat.log2_lt (by omega)).mpr this) (by decide)
end
section
variable {prog : Program} {w : World} {A : Around} {E : Value → Shared → Prop} {s : Shared} {Q : Value → Shared → Prop}
theorem kept_call {k : Nat} {T dx hA dA : Addr} {hh : Int} {tk : Tok} {nd : Nat} {dv : List Value} {ds : List Deed} {tlD : List (Addr × Obj)} {tT tD : Unit} (G : Gl (KK w) (hideAll s.heap [hA])) (hA' : Ok k A) (hk : k ≤ 300)
    (hT : s.heap.get? T = some (instObj 171 dx)) (hdx : s.heap.get? dx = some (dictOf [⟨hh, .str (Str.ofString "_headers") tk, .ref hA⟩] 1)) (hhA : s.heap.get? hA = some (listOf #[] 0))
    (hdA : s.heap.get? dA = some (listOf dv.toArray nd)) (hne : dA ≠ hA) (hD : Both (DeedIn tlD) dv ds) (htl : ∀ p ∈ tlD, s.heap.get? p.1 = some p.2) (hlen : ds.length ≤ 16) (hok : ∀ d ∈ ds, d.ok)
    (h : ∀ D pv np hv nh tl s', Grow [hA] s s' → (∀ p ∈ (D, listOf (List.toArray pv) np) :: tl, s'.heap.get? p.1 = some p.2 ∧ s.heap.get? p.1 = none) → (((D, listOf pv.toArray np) :: tl).map (·.1)).Nodup → s'.heap.get? hA = some (listOf (List.toArray hv) nh) → IntsAre pv (zs (kept ds).1) → Both (PairIn tl) hv (texted (kept ds).2) → Q (.ref D) s') :
    wpAny (model prog w) A (call (.ref 225) [.ref T, .ref dA]) Q E s := by
  refine wpAny_call (enter (K := KK w) (l := [(hA, listOf #[] 0)]) (ws := [hA]) (binds := [(Str.ofString "table", .ref T), (Str.ofString "deeds", .ref dA)]) G hA' (by exact rfl) (by exact rfl) (BindsTo.of_eq (by kernel_rfl)) (locs (by kernel_rfl)) (by intro p hp; rw [List.mem_singleton.mp hp]; exact ⟨hhA, .head _⟩) (by simp) ?_ (by omega))
  intro L s' S
  have hhd : (A.deeper (envOf (Str.ofString "_law_kept") default L 225 .none)).handled = none := hA'.handled
  have nT : T ∉ [hA] := fun z => cls_ne hT hhA (by intro z; cases z) (List.mem_singleton.mp z)
  have ndx : dx ∉ [hA] := fun z => cls_ne hdx hhA dict_list (List.mem_singleton.mp z)
  refine r_let ?_
  refine List_ ?_
  refine r_ints (.cons .nil) S fun zv s' hzv S => ?_
  refine r_newList S (by rw [hzv.length]; exact Nat.le_of_ble_eq_true rfl) fun pA s' S hn2 => ?_
  refine ⟨_, _, _, _, S, fun s' S => ?_⟩
  refine r_stmt ?_
  refine wpAny_For ?_
  refine r_local S rfl ?_
  refine r_for (items := dv) (fun i m l => ∃ pv np hv nh tl, l = (pA, listOf (List.toArray pv) np) :: (hA, listOf (List.toArray hv) nh) :: tl ∧ m (Str.ofString "pile") = some (.ref pA) ∧ m (Str.ofString "table") = some (.ref T) ∧ IntsAre pv (zs (kept (ds.take i)).1) ∧ Both (PairIn tl) hv (texted (kept (ds.take i)).2)) hhd S ?_ ?_ ?_ ?_ ?_
  · rintro i m l s' _ S
    exact ⟨_, S.keep _ _ (fun z => hne (List.mem_singleton.mp z)) hdA, rfl, nd, rfl⟩
  · exact ⟨zv, 0, [], 0, [], rfl, rfl, rfl, hzv, .nil⟩
  · refine .inr ⟨⟨_, _, _, rfl⟩, fun v hv => ?_⟩
    obtain ⟨d, a, n, t1, t2, t3, e, _⟩ := hD.mem hv
    exact ⟨a, e⟩
  · rintro i v m l s' I oI hv ⟨pv, np, hv', nh, tl, rfl, hm1, hm2, hpv, hps⟩ S
    obtain ⟨d, hd, a, n, t1, t2, t3, rfl, hmem⟩ := hD.get hv
    have hi : i < ds.length := (List.getElem?_eq_some_iff.mp hd).1
    have htk : ds.take (i + 1) = ds.take i ++ [d] := by simp [List.take_add_one, hd]
    have hdok := hok d (List.mem_of_getElem? hd)
    have hst := kept_ok (ds := ds.take i) (by rw [List.length_take]; omega) (fun d hd => hok d (List.mem_of_mem_take hd))
    have hql : (kept (ds.take i)).2.length ≤ 16 := by have := kept_len (ds.take i); rw [List.length_take] at this; omega
    have na : a ∉ [hA] := fun z => cls_ne (htl _ hmem) hhA tup_list (List.mem_singleton.mp z)
    rw [htk, kept_snoc]
    generalize hkst : kept (ds.take i) = st at hpv hps hst hql ⊢
    have hpl := hpv.length
    refine r_unpack3 hhd S (S.keep _ _ na (htl _ hmem)) fun s' S => ?_
    refine r_stmt ?_
    refine wpAny_If ?_
    refine wpAny_isTrue_Compare1 ?_
    refine r_local S rfl ?_
    refine r_int S fun t0 s' S => ?_
    refine eq_int ?_
    refine wpAny_truthy_bool ?_
    cases d with
    | leaf q =>
      rw [if_pos (by simp [Deed.d1])]
      refine r_stmt ?_
      refine wpAny_Expr_any ?_
      refine MethodCall_ ?_
      refine r_local S hm1 ?_
      refine r_meth S (i := 1) rfl PySem.F.slot_list_append PySem.F.type_list_append ?_
      refine callWith_method1 ?_
      refine spliced_more ?_
      refine r_local S rfl ?_
      refine spliced_none ?_
      have hp16 : st.1.length ≤ 1000 := by have := kept_pile_len (ds.take i); rw [hkst, List.length_take] at this; omega
      refine r_append S (i := 1) rfl (by rw [List.size_toArray, hpl, List.length_map, sizeLine_eq]; omega) fun np' s' S => ?_
      refine wpAny_execs_nil ?_
      refine wpAny_execs_nil ?_
      have e : pv.toArray.push (Value.int (Deed.leaf q).d2 t2) = (pv ++ [Value.int (q : Nat) t2]).toArray := by simp [Deed.d2]
      rw [e] at S
      refine ⟨_, _, ?_, S⟩
      refine ⟨_, _, _, _, _, rfl, hm1, hm2, ?_, hps⟩
      show IntsAre _ (zs (st.1 ++ [q]))
      rw [zs, List.map_append]
      exact hpv.append (.cons _ _ .nil)
    | join wh g =>
      rw [if_neg (by simp [Deed.d1])]
      have hwh : wh < 8 := hdok
      have hp16 : st.1.length ≤ 1000 := by have := kept_pile_len (ds.take i); rw [hkst, List.length_take] at this; omega
      obtain ⟨pv1, th, rfl, hpv1⟩ := ints_snoc hpv hst.ne
      have hpl1 := hpv1.length
      have hl1 : pv1.length ≤ 1000 := by rw [hpl1, List.length_map, List.length_dropLast]; omega
      refine r_let ?_
      refine MethodCall_ ?_
      refine r_local S hm1 ?_
      refine r_meth S (i := 1) rfl PySem.F.slot_list_pop PySem.F.type_list_pop ?_
      refine callWith_method0 ?_
      refine r_pop S (i := 1) rfl (y := .int (lastN st.1) th) (by simp) (by rw [List.size_toArray, List.length_append, List.length_singleton, sizeLine_eq]; omega) fun s' S => ?_
      have e : (pv1 ++ [Value.int (lastN st.1) th]).toArray.pop = pv1.toArray := by simp
      rw [e] at S
      refine ⟨_, _, _, _, S, fun s' S => ?_⟩
      refine r_let ?_
      refine r_midL S (fun v l' => ∃ t pv2 np2, v = .int ((two st.1).1 : Nat) t ∧ IntsAre pv2 (zs (two st.1).2.2) ∧ pv2.length ≤ 1000 ∧ l' = (I, oI) :: (pA, listOf (List.toArray pv2) np2) :: (hA, listOf (List.toArray hv') nh) :: tl) ?_ ?_
      · refine IfExp_ ?_
        refine wpAny_isTrue_Compare1 ?_
        refine r_local S hm1 ?_
        refine List_ ?_
        refine spliced_none ?_
        refine r_newList S (Nat.le_of_ble_eq_true rfl) fun D0 s' S _ => ?_
        refine ke_ne_ints (S.isList (i := 2) rfl) (S.isList (i := 0) rfl) hpv1 .nil (by have := (hA'.deeper (envOf (Str.ofString "_law_kept") default L 225 .none)).units; show A.units + 3 + 64 < 9900; have q := hA'.units; omega) ?_
        refine wpAny_truthy_bool ?_
        by_cases hr : st.1.dropLast = []
        · rw [if_neg (by rw [decide_eq_true (show zs st.1.dropLast = [] from by rw [hr]; rfl)]; simp)]
          refine r_local S rfl ?_
          have e2 : two st.1 = (lastN st.1, lastN st.1, []) := by unfold two; dsimp only; rw [if_pos hr]
          refine ⟨_, ⟨th, pv1, _, ?_, ?_, ?_, rfl⟩, S.sub (.cons _ (.refl _))⟩
          · rw [e2]
          · rw [e2, ← hr]; exact hpv1
          · exact hl1
        · rw [if_pos (by rw [decide_eq_false (fun q => hr (List.map_eq_nil_iff.mp q))]; rfl)]
          obtain ⟨pv2, tl2, rfl, hpv2⟩ := ints_snoc hpv1 hr
          refine MethodCall_ ?_
          refine r_local S hm1 ?_
          refine r_meth S (i := 2) rfl PySem.F.slot_list_pop PySem.F.type_list_pop ?_
          refine callWith_method0 ?_
          refine r_pop S (i := 2) rfl (y := .int (lastN st.1.dropLast) tl2) (by simp) (by rw [List.size_toArray, sizeLine_eq]; omega) fun s' S => ?_
          have e : (pv2 ++ [Value.int (lastN st.1.dropLast) tl2]).toArray.pop = pv2.toArray := by simp
          rw [e] at S
          have e2 : two st.1 = (lastN st.1.dropLast, lastN st.1, st.1.dropLast.dropLast) := by unfold two; dsimp only; rw [if_neg hr]
          refine ⟨_, ⟨tl2, pv2, _, ?_, ?_, ?_, rfl⟩, S.sub (.cons _ (.refl _))⟩
          · rw [e2]
          · rw [e2]; exact hpv2
          · simp at hl1; omega
      rintro v l' s' ⟨tlow, pv2, np2, rfl, hpv2, hl2, rfl⟩ S
      refine ⟨_, _, _, _, S, fun s' S => ?_⟩
      have hhigh : (two st.1).2.1 = lastN st.1 := by unfold two; dsimp only; split <;> rfl
      refine r_let ?_
      refine Subscript_ ?_
      refine r_call0 (f := 211) (K := KK w) (fun Q hq => r_glob (K := KK w) (S.gl G) (by exact rfl) hq) (S.gl G) (by exact rfl) ?_
      refine signs_call (S.gl G) (hA'.deeper _) (by omega) fun D2 vs2 s' G' _ eD2 hvs2 => ?_
      have S := S.calls G'
      refine r_local S rfl ?_
      obtain ⟨tsg, hsg⟩ : ∃ t, vs2[wh]? = some (.str (tx (sgn wh)) t) := by
        have hlt : wh < (sgns.map tx).length := by simpa [sgns] using hwh
        obtain ⟨v, hv2, t, rfl⟩ := (both_strs hvs2).getR (List.getElem?_eq_getElem hlt)
        refine ⟨t, ?_⟩
        rw [hv2, List.getElem_map]
        unfold sgn
        rw [List.getD_eq_getElem?_getD, List.getElem?_eq_getElem (by simpa using hlt)]
        rfl
      refine r_item ⟨_, eD2, rfl, 0, rfl⟩ (by simp [Deed.d2]) (by simp [Deed.d2]; omega) (x := .str (tx (sgn wh)) tsg) (by simpa [Deed.d2] using hsg) ?_
      refine ⟨_, _, _, _, S, fun s' S => ?_⟩
      refine r_midM S (fun m' => (∃ t, m' (Str.ofString "low") = some (.int ((sides (sgn wh) (two st.1).1 (two st.1).2.1).1 : Nat) t)) ∧ (∃ t, m' (Str.ofString "high") = some (.int ((sides (sgn wh) (two st.1).1 (two st.1).2.1).2 : Nat) t)) ∧ m' (Str.ofString "sign") = some (.str (tx (sgn wh)) tsg) ∧ (∃ t, m' (Str.ofString "great") = some (.int (if g then 1 else 0) t)) ∧ m' (Str.ofString "pile") = some (.ref pA) ∧ m' (Str.ofString "table") = some (.ref T)) ?_ ?_
      · refine wpAny_If ?_
        refine isTrue_and ?_
        refine wpAny_isTrue_Compare1 ?_
        refine wpAny_BinOp ?_
        refine Subscript_ ?_
        refine r_glob (K := KK w) (S.gl G) (by exact rfl) ?_
        refine r_local S rfl ?_
        refine tok_item (w := w) hwh S G (fun n tt s' S hn => ?_) (by intros; rfl)
        refine r_int S fun t5 s' S => ?_
        refine r_mod S (by decide) fun t5 s' S => ?_
        refine r_int S fun t6 s' S => ?_
        refine eq_int ?_
        refine wpAny_truthy_bool ?_
        by_cases hc : comm (sgn wh) = true
        · rw [if_pos (by rw [hc] at hn; simpa using hn)]
          refine isTrue_and ?_
          refine wpAny_isTrue_Compare1 ?_
          refine r_local S rfl ?_
          refine r_local S rfl ?_
          refine lt_int ?_
          refine wpAny_truthy_bool ?_
          by_cases hlt : (two st.1).2.1 < (two st.1).1
          · rw [if_pos (by simp; omega)]
            refine isTrue_and_nil ?_
            rw [if_pos rfl]
            have es : sides (sgn wh) (two st.1).1 (two st.1).2.1 = ((two st.1).2.1, (two st.1).1) := by unfold sides; rw [if_pos ⟨hc, hlt⟩]
            rw [es]
            refine r_stmt ?_
            refine Assign_Tuple_swapped ?_
            refine Tuple_ ?_
            refine spliced_more ?_
            refine r_local S rfl ?_
            refine spliced_more ?_
            refine r_local S rfl ?_
            refine spliced_none ?_
            refine r_newTuple S (Nat.le_of_ble_eq_true rfl) fun D3 s' S _ => ?_
            refine r_swap hhd S (S.get (.head _)) fun s' S => ?_
            refine wpAny_execs_nil ?_
            refine ⟨rfl, _, ?_, S.sub (.cons _ (.refl _))⟩
            exact ⟨⟨th, by rw [hhigh]; rfl⟩, ⟨tlow, rfl⟩, rfl, ⟨t3, rfl⟩, hm1, hm2⟩
          · rw [if_neg (by simp; omega), if_neg (by simp)]
            refine wpAny_execs_nil ?_
            have es : sides (sgn wh) (two st.1).1 (two st.1).2.1 = ((two st.1).1, (two st.1).2.1) := by unfold sides; rw [if_neg (fun q => hlt q.2)]
            rw [es]
            refine ⟨rfl, _, ?_, S⟩
            exact ⟨⟨tlow, rfl⟩, ⟨th, by rw [hhigh]; rfl⟩, rfl, ⟨t3, rfl⟩, hm1, hm2⟩
        · rw [if_neg (by rw [(Bool.not_eq_true _).mp hc] at hn; simpa using hn), if_neg (by simp)]
          refine wpAny_execs_nil ?_
          have es : sides (sgn wh) (two st.1).1 (two st.1).2.1 = ((two st.1).1, (two st.1).2.1) := by unfold sides; rw [if_neg (fun q => hc q.1)]
          rw [es]
          refine ⟨rfl, _, ?_, S⟩
          exact ⟨⟨tlow, rfl⟩, ⟨th, by rw [hhigh]; rfl⟩, rfl, ⟨t3, rfl⟩, hm1, hm2⟩
      rintro m' s' ⟨⟨ta, hma⟩, ⟨tb, hmb⟩, hms, ⟨tg, hmg⟩, hm1', hm2'⟩ S
      have mkTab : ∀ {m' : Str → Option Value} {l' : List (Addr × Obj)} {s' : Shared}, St s [hA] L m' l' s' → (hA, listOf hv'.toArray nh) ∈ l' → (∀ p ∈ tl, p ∈ l') → Tab s'.heap T dx hA hv' (texted st.2) := fun S h1 h2 =>
        ⟨S.keep _ _ nT hT, ⟨hh, tk, 1, S.keep _ _ ndx hdx⟩, ⟨nh, S.get h1⟩, hps.mono fun v p ⟨a, n, t, u, e, hm⟩ => ⟨a, n, t, u, e, S.get (h2 _ hm)⟩⟩
      obtain ⟨mm1, mm2, mm3⟩ := two_mem hst.ne
      obtain ⟨ss1, ss2⟩ := sides_mem (sgn wh) (two st.1).1 (two st.1).2.1
      have b1 := hst.small _ mm1
      have b2 := hst.small _ mm2
      have ha4 : (sides (sgn wh) (two st.1).1 (two st.1).2.1).1 < 4096 := by rcases ss1 with e | e <;> rw [e] <;> omega
      have hb4 : (sides (sgn wh) (two st.1).1 (two st.1).2.1).2 < 4096 := by rcases ss2 with e | e <;> rw [e] <;> omega
      have hnok := named_ok g ha4 hb4 (sgn_mem hwh)
      have hkj : keptStep st (.join wh g) = keptJoin st wh g := rfl
      rw [hkj]
      unfold keptJoin
      dsimp only
      generalize hnm : named (sides (sgn wh) (two st.1).1 (two st.1).2.1).1 (sgn wh) (sides (sgn wh) (two st.1).1 (two st.1).2.1).2 g = nm at hnok ⊢
      have htl2 : (texted st.2).length = st.2.length := by simp [texted]
      refine r_let ?_
      refine MethodCall_ ?_
      refine r_local S hm2' ?_
      obtain ⟨hh', tk', nd', I'⟩ := (mkTab S (by simp) (by intro p hp; simp [hp])).inst
      refine method_inst (K := KK w) S.fr G.X I' (by exact rfl) (by exact rfl) (by exact rfl) (by exact rfl) ?_
      refine callWith_K (K := KK w) (S.gl G).X (by exact rfl) ?_
      refine spliced_more ?_
      refine r_call (f := 204) (K := KK w) (fun Q hq => r_glob (K := KK w) (S.gl G) (by exact rfl) hq) (S.gl G) (by exact rfl) ?_
      refine spliced_more ?_
      refine r_local S hma ?_
      refine spliced_more ?_
      refine r_local S hms ?_
      refine spliced_more ?_
      refine r_local S hmb ?_
      refine spliced_more ?_
      refine r_local S hmg ?_
      refine spliced_none ?_
      refine ⟨S.gl G, ?_⟩
      refine name_call (S.gl G) (hA'.deeper _) (by omega) ha4 hb4 (sgns_ascii _ (sgn_mem hwh)) (sgns_good _ (sgn_mem hwh)).1 fun t7 s' G' => ?_
      have S := S.calls G'
      have hgg : decide ((if g = true then (1 : Int) else 0) = 1) = g := by cases g <;> rfl
      rw [hgg, hnm]
      refine spliced_more ?_
      refine r_callT (T := "str") (fun Q hq => r_blt (K := KK w) (S.gl G) (by exact rfl) bb_str (by decide) hq) ?_
      refine spliced_more ?_
      refine wpAny_BinOp ?_
      refine r_int S fun t8 s' S => ?_
      refine r_callB (fun Q hq => r_blt (K := KK w) (S.gl G) (by exact rfl) bb_len (by decide) hq) ?_
      refine spliced_more ?_
      refine r_local S hm2' ?_
      refine spliced_none ?_
      refine tlen_call S G (hA'.deeper _) (by omega) (mkTab S (by simp) (by intro p hp; simp [hp])) (by rw [htl2]; omega) fun t9 s' G' => ?_
      have S := S.calls G'
      refine r_add S fun t9 s' S => ?_
      refine spliced_none ?_
      have ev : (256 : Int) + ((texted st.2).length : Nat) = ((256 + st.2.length : Nat) : Int) := by rw [htl2]; omega
      rw [ev]
      refine r_strOf S (by omega) fun tv s' S => ?_
      refine spliced_none ?_
      refine ⟨(S.gl G).X, ?_⟩
      refine setdefault_call (G.keeps S.hide) (hA'.deeper _) (by omega) (mkTab S (by simp) (by intro p hp; simp [hp])) hnok (dec_ok (by omega)) ?_ (by rw [htl2]; omega) ?_ ?_
      · intro p hp
        obtain ⟨q, hq, rfl⟩ := List.mem_map.mp hp
        exact hst.names q hq
      · intro v t10 s' hv2 G'
        rw [hget_texted] at hv2
        obtain ⟨nn, hq, rfl⟩ := Option.map_eq_some_iff.mp hv2
        rw [hq]
        dsimp only
        obtain ⟨q, hqm, hqn⟩ := qget_mem hq
        have hnn := hst.nums q hqm
        have S := S.calls G'
        refine ⟨_, _, _, _, S, fun s' S => ?_⟩
        refine r_stmt ?_
        refine wpAny_Expr_any ?_
        refine MethodCall_ ?_
        refine r_local S hm1' ?_
        refine r_meth S (i := 1) rfl PySem.F.slot_list_append PySem.F.type_list_append ?_
        refine callWith_method1 ?_
        refine spliced_more ?_
        refine r_callT (T := "int") (fun Q hq => r_blt (K := KK w) (S.gl G) (by exact rfl) bb_int (by decide) hq) ?_
        refine spliced_more ?_
        refine r_local S rfl ?_
        refine spliced_none ?_
        refine r_intOf S (by omega) fun tq s' S => ?_
        refine spliced_none ?_
        refine r_append S (i := 1) rfl (by rw [List.size_toArray, sizeLine_eq]; omega) fun np' s' S => ?_
        refine wpAny_execs_nil ?_
        refine wpAny_execs_nil ?_
        rw [List.push_toArray] at S
        refine ⟨_, _, ?_, S⟩
        refine ⟨_, _, _, _, _, rfl, hm1', hm2', ?_, hps⟩
        rw [zs, List.map_append]
        exact hpv2.append (.cons _ _ .nil)
      · intro hg2 t10 u1 u2 n' D4 s' Gr hD4 eD4 eh4
        rw [hget_texted, Option.map_eq_none_iff] at hg2
        rw [hg2]
        dsimp only
        have hfr := S.fresh hD4
        have S := (S.upd (i := 2) rfl Gr eh4 rfl).addN hfr eD4
        refine ⟨_, _, _, _, S, fun s' S => ?_⟩
        refine r_stmt ?_
        refine wpAny_Expr_any ?_
        refine MethodCall_ ?_
        refine r_local S hm1' ?_
        refine r_meth S (i := 2) rfl PySem.F.slot_list_append PySem.F.type_list_append ?_
        refine callWith_method1 ?_
        refine spliced_more ?_
        refine r_callT (T := "int") (fun Q hq => r_blt (K := KK w) (S.gl G) (by exact rfl) bb_int (by decide) hq) ?_
        refine spliced_more ?_
        refine r_local S rfl ?_
        refine spliced_none ?_
        refine r_intOf S (by omega) fun tq s' S => ?_
        refine spliced_none ?_
        refine r_append S (i := 2) rfl (by rw [List.size_toArray, sizeLine_eq]; omega) fun np' s' S => ?_
        refine wpAny_execs_nil ?_
        refine wpAny_execs_nil ?_
        rw [List.push_toArray, List.push_toArray] at S
        have S₂ := S.mem (l' := (I, oI) :: (pA, listOf (pv2 ++ [Value.int ((256 + st.2.length : Nat) : Int) tq]).toArray np') :: (hA, listOf (hv' ++ [Value.ref D4]).toArray n') :: (D4, tupOf #[.str (tx nm) u1, .str (tx (dec (256 + st.2.length))) u2] 0) :: tl) (by
            intro p hp
            simp only [List.set_cons_succ, List.set_cons_zero, List.mem_cons] at hp ⊢
            rcases hp with rfl | rfl | rfl | rfl | hp
            · simp
            · simp
            · simp
            · simp
            · simp [hp]) (by
            have nd := S.nodup
            simp only [List.set_cons_succ, List.set_cons_zero, List.map_cons, List.nodup_cons, List.mem_cons, not_or] at nd ⊢
            grind)
        refine ⟨_, _, ?_, S₂⟩
        refine ⟨_, _, _, _, _, rfl, hm1', hm2', ?_, ?_⟩
        · rw [zs, List.map_append]
          exact hpv2.append (.cons _ _ .nil)
        · rw [texted, List.map_append]
          exact (hps.mono fun _ _ r => r.mono fun p hp => .tail _ hp).append (.one ⟨D4, 0, u1, u2, rfl, .head _⟩)
  · rintro m l s' ⟨pv, np, hv', nh, tl, rfl, hm1, hm2, hpv, hps⟩ S
    refine r_ret ?_
    refine r_local S hm1 ?_
    rw [hD.length, List.take_length] at hpv hps
    have S₂ := S.sub (l' := (pA, listOf pv.toArray np) :: tl) (.cons_cons _ (.cons _ (.refl _)))
    refine h pA pv np hv' nh tl _ S.grow (fun p hp => ⟨(S₂.cells p hp).1, ?_⟩) S₂.nodup (S.get (.tail _ (.head _))) hpv hps
    refine (S₂.cells p hp).2.2.resolve_right fun z => ?_
    have hq := S.nodup
    simp only [List.map_cons, List.nodup_cons, List.mem_cons, not_or] at hq
    have z' := List.mem_singleton.mp z
    rcases List.mem_cons.mp hp with rfl | hp
    · exact hq.1.1 z'
    · exact hq.2.1 (z' ▸ List.mem_map_of_mem (f := (·.1)) hp)
end
end Mine
end

section
open PySem PySem.W PyProof.Rows
set_option maxRecDepth 100000
set_option maxHeartbeats 1000000
namespace Mine
section
variable {prog : Program} {w : World} {A : Around} {E : Value → Shared → Prop} {s s' s₀ : Shared} {Q : Value → Shared → Prop} {ws : List Addr} {L C : Addr} {m m' : Str → Option Value} {l : List (Addr × Obj)} {h' : Heap}
theorem St.setNs {tk : Nat} (S : St s₀ ws C m l s) (hn : h'.Ns C m') (k : ∀ c o, c ≠ C → s.heap.get? c = some o → h'.get? c = some o) : St s₀ ws C m' l { s with heap := h', toks := tk } := by
  obtain ⟨hh, t, e⟩ := S.same
  refine ⟨hn, fun b o n q => k b o (fun z => ?_) (S.keep b o n q), S.newL, S.above, fun p hp => ⟨k _ _ (S.cells p hp).2.1 (S.cells p hp).1, (S.cells p hp).2⟩, S.nodup, h', tk, by rw [e]⟩
  subst z; rw [S.newL] at q; cases q
/-- [number for text, number in pile] -/
theorem compPair {env : Env} {x y : Str} {px py tp p1 pos : Pos} {kk : Nat} {iter : Expr} {scope : Scope} {pA : Addr} {pv : List Value} {n : Nat} {ns : List Int}
    (hh : A.handled = none) (S : St s₀ [] L m l s) (hiter : ∀ Q : Value → Shared → Prop, (∀ s', St s₀ [] L m l s' → Q (.ref pA) s') → wpAny (model prog w) A (eval iter env) Q E s) (hp : (pA, listOf pv.toArray n) ∈ l)
    (hB : Both (fun v k => ∃ a nn u t, v = .ref a ∧ (a, tupOf #[u, .int k t] nn) ∈ l) pv ns) (hz : ns.length ≤ 1000)
    (h : ∀ D ys n' s', St s₀ [] L m ((D, listOf (List.toArray ys) n') :: l) s' → IntsAre ys ns → Q (.ref D) s')
    (hfree : ∀ y ∈ scope.names, y.2 ≠ .free) (hcell : ∀ y ∈ scope.names, y.2 ≠ .cell) (hkind : scope.kind = .function)
    (hnames : ∀ y ∈ scope.names, y.2 = .local → scope.names.lookup y.1 = some .local) (hx : scope.names.lookup x = some .local) (hy : scope.names.lookup y = some .local)
    (hs : ∀ x, foldedSetIterable iter env x = pure x) (hd : (y == ("__debug__" : Str)) = false) :
    wpAny (model prog w) A (eval (.ListComp (.Name y p1) [⟨.Tuple [.Name x px, .Name y py] kk tp, iter, [], 0⟩] scope pos) env) Q E s := by
  refine wpAny_ListComp hfree hkind hnames ?_ hs
  clear S
  refine hiter _ fun s S => ?_
  refine wpAny_pyIter_list ⟨_, S.get hp, rfl, n, rfl⟩ ?_
  have S₁ := S.push (tk := s.toks) { cls := .type "list_iterator", data := .fields #[.ref pA, .int 0 0] } rfl
  generalize hI : s.heap.objs.size = I at S₁ ⊢
  refine r_newList S₁ (Nat.le_of_ble_eq_true rfl) fun D s₂ S₂ hD => ?_
  clear S S₁
  refine wpAny_newFunctionEnv hcell (by intro y hy; simp at hy) (fun h₁ hns₁ hsb₁ => ?_) hkind
  obtain ⟨oL, es, ep, hoL, hdL, hkL, hfL⟩ := id S₂.ns
  generalize hC : s₂.heap.objs.size = C at hns₁ hsb₁ ⊢
  have hCn : s₂.heap.get? C = none := Heap.get?_none_of_le (Nat.le_of_eq hC)
  have up : ∀ b o, s₂.heap.get? b = some o → h₁.get? b = some o := fun b o e => hsb₁.extBut b o (fun z => by rw [z, hCn] at e; cases e) (Heap.get?_push_of_some _ e)
  have SC : St s₀ [] C (fun _ => none) ((L, oL) :: (D, listOf #[] 0) :: (I, { cls := .type "list_iterator", data := .fields #[.ref pA, .int 0 0] }) :: l) { s₂ with heap := h₁, toks := s₂.toks + ([] : List (Str × Value)).length } := by
    obtain ⟨hh', tk', e'⟩ := S₂.same
    refine ⟨hns₁, fun b o nb q => up b o (S₂.keep b o nb q), (S₂.fresh hCn).2.1.resolve_right List.not_mem_nil, ?_, fun p hp => ?_, ?_, h₁, _, by rw [e']⟩
    · have := S₂.above
      have h2 := Heap.lt_size hoL
      show s₀.heap.objs.size ≤ C
      rw [← hC]; exact Nat.le_of_lt (Nat.lt_of_le_of_lt this h2)
    · rcases List.mem_cons.mp hp with rfl | hp
      · exact ⟨up _ _ hoL, (fun z => by have z' : L = C := z; rw [z', hCn] at hoL; cases hoL), .inl S₂.newL⟩
      · have c := S₂.cells p hp
        exact ⟨up _ _ c.1, (fun z => by have := c.1; rw [z, hCn] at this; cases this), c.2.2⟩
    · rw [List.map_cons]
      refine List.nodup_cons.mpr ⟨fun z => ?_, S₂.nodup⟩
      obtain ⟨p, hp, e⟩ := List.mem_map.mp z
      exact (S₂.cells p hp).2.1 e
  have loop : codeAny (model prog w) A (.compLoop (.ListComp (.Name y p1) [⟨.Tuple [.Name x px, .Name y py] kk tp, iter, [], 0⟩] scope pos) 0 (.ref I) (.ref D) { newEnv scope C env.globals [] env.qual none .none (some env) builtinsNs with scope := scope })
      (fun r s' => ∃ m, s'.heap.Ns C m ∧ ∀ h', Heap.SameBut C s'.heap h' → match r with | .ok _ => Q (.ref D) { s' with heap := h' } | .error x => wpAny (model prog w) A (passOn "comprehension.variables-let-go" x { newEnv scope C env.globals [] env.qual none .none (some env) builtinsNs with scope := scope }) Q E { s' with heap := h' })
      { s₂ with heap := h₁, toks := s₂.toks + ([] : List (Str × Value)).length } := by
    refine kcp_loop (fun k s' => ∃ i ys n' mC o, k = pv.length + 1 - i ∧ i ≤ pv.length ∧ St s₀ [] C mC ((L, oL) :: (D, listOf (List.toArray ys) n') :: (I, o) :: l) s' ∧ o.cls = .type "list_iterator" ∧ o.data = .fields #[.ref pA, .int i 0] ∧ IntsAre ys (ns.take i)) ?_ (pv.length + 1)
      ⟨0, [], 0, _, _, rfl, Nat.zero_le _, SC, rfl, rfl, .nil⟩
    rintro k s' ⟨i, ys, n', mC, o, rfl, hi, S', hc, hdat, hys⟩
    have hls : s'.heap.IsList pA pv.toArray := ⟨_, S'.get (.tail _ (.tail _ (.tail _ hp))), rfl, n, rfl⟩
    have hit : s'.heap.IsListIter I pA i := ⟨o, S'.get (.tail _ (.tail _ (.head _))), hc, hdat⟩
    cases hv : pv[i]? with
    | none =>
      have hlen : i = pv.length := Nat.le_antisymm hi (by simpa using hv)
      refine wpAny_pyNext_list_end hh hit hls (by simpa using hv) fun h₂ he₂ => ?_
      have nd := S'.nodup
      simp only [List.map_cons, List.nodup_cons, List.mem_cons, not_or] at nd
      have cI := S'.cells (I, o) (.tail _ (.tail _ (.head _)))
      refine ⟨mC, S'.ns.extBut he₂ (fun z => cI.2.1 z.symm), fun h₃ hs₃ => ?_⟩
      have up2 : ∀ b o, b ≠ I → b ≠ C → s'.heap.get? b = some o → h₃.get? b = some o := fun b o h1 h2 e => hs₃.extBut b o h2 (he₂ b o h1 e)
      obtain ⟨hh', tk', e'⟩ := S'.same
      have hnI : I ∉ l.map (·.1) := nd.2.2.1
      rw [hlen, hB.length, List.take_length] at hys
      refine h D ys n' _ ⟨⟨oL, es, ep, up2 L oL (fun z => nd.1.2.1 z) (S'.cells (L, oL) (.head _)).2.1 (S'.get (.head _)), hdL, hkL, hfL⟩, fun b ob nb q => up2 b ob (fun z => ?_) (fun z => ?_) (S'.keep b ob nb q), S₂.newL, S₂.above, fun p hp => ?_, ?_, h₃, s'.toks, by rw [e']⟩ hys
      · subst z; rcases cI.2.2 with z | z
        · simp only at z; rw [q] at z; cases z
        · exact nb z
      · subst z; rw [S'.newL] at q; cases q
      · have c := S'.cells p (.tail _ (by
          rcases List.mem_cons.mp hp with rfl | hp
          · exact .head _
          · exact .tail _ (.tail _ hp)))
        refine ⟨up2 _ _ ?_ c.2.1 c.1, ?_, c.2.2⟩
        · rcases List.mem_cons.mp hp with rfl | hp
          · exact fun z => nd.2.1.1 z
          · exact fun z => hnI (z ▸ List.mem_map_of_mem (f := (·.1)) hp)
        · rcases List.mem_cons.mp hp with rfl | hp
          · exact fun z => nd.1.1 z.symm
          · exact fun z => nd.1.2.2 (z ▸ List.mem_map_of_mem (f := (·.1)) hp)
      · exact List.nodup_cons.mpr ⟨nd.2.1.2, nd.2.2.2⟩
    | some v =>
      have hlt : i < pv.length := (List.getElem?_eq_some_iff.mp hv).1
      obtain ⟨z, hz1, a, nn, u, t, rfl, hmem⟩ := hB.get hv
      refine wpAny_pyNext_list_item hit hls (by simpa using hv) fun h₂ hit₂ hs₂ => ?_
      obtain ⟨o', ho', hc', hd'⟩ := hit₂
      have S'' := S'.upd (i := 2) rfl (sameBut_grow (tk := s'.toks) hs₂) ho' rfl
      refine wpAny_letOwnedTupleGo_listiter ⟨o', ho', hc', hd'⟩ ?_
      refine kcp_assign hh ⟨_, S''.get (.tail _ (.tail _ (.tail _ hmem))), rfl, nn, rfl⟩ hx hy (by show (scope.kind == .class || (scope.kind == .module && C != env.globals)) = false; rw [hkind]; rfl) S''.ns fun h₃ tk₃ hn₃ hk₃ => ?_
      have S3 := S''.setNs (tk := tk₃) hn₃ hk₃
      refine wpAny_Name (wpAny_loadName_local hkind hy S3.ns (if_pos rfl) ?_) hd
      refine r_append S3 (i := 1) rfl (by rw [List.size_toArray, hys.length, List.length_take, sizeLine_eq]; omega) fun n2 s4 S4 => ?_
      rw [List.push_toArray] at S4
      refine ⟨pv.length + 1 - (i + 1), by omega, i + 1, _, n2, _, o', rfl, hlt, S4, hc', hd', ?_⟩
      rw [List.take_add_one, hz1]
      exact hys.append (.cons _ _ .nil)
  refine codeAny_compStart_list loop (wpAny_pyIter_listiter ⟨_, SC.get (.tail _ (.tail _ (.head _))), rfl, rfl⟩ loop)
end
end Mine
end

section
open PySem PyProof.Rows
namespace Mine
/-- a leaf's text -/
def lf (n : Nat) : List Nat := 91 :: (dec n ++ [93])
/-- what the law tells: the texts, the pairs, the pile -/
abbrev Told := List (List Nat) × List (List Nat × Nat) × List (List Nat × Nat)
def lastP (l : List (List Nat × Nat)) : List Nat × Nat := l.getLastD ([], 0)
def twoP (pile : List (List Nat × Nat)) : (List Nat × Nat) × (List Nat × Nat) × List (List Nat × Nat) :=
  let r := lastP pile
  let rest := pile.dropLast
  if rest = [] then (r, r, []) else (lastP rest, r, rest.dropLast)
def sidesT (sg : List Nat) (a b : Nat) : Nat × Nat := if comm sg = true then (if b < a then b else a, if b > a then b else a) else (a, b)
theorem sidesT_eq (sg : List Nat) (a b : Nat) : sidesT sg a b = sides sg a b := by
  unfold sidesT sides
  by_cases hc : comm sg = true
  · simp only [hc, if_true, true_and]
    split
    · rw [if_neg (by omega)]
    · split
      · rfl
      · have : a = b := by omega
        subst this; rfl
  · rw [if_neg hc, if_neg (fun q => hc q.1)]
def toldJoin (st : Told) (w : Nat) (g : Bool) : Told :=
  let t := twoP st.2.2
  let text := joined t.1.1 (sgn w) t.2.1.1
  let p := sidesT (sgn w) t.1.2 t.2.1.2
  if text ∈ st.1 then (st.1, st.2.1, t.2.2 ++ [(text, 256 + st.1.idxOf text)])
  else (st.1 ++ [text], st.2.1 ++ [(named p.1 (sgn w) p.2 g, 256 + st.1.length)], t.2.2 ++ [(text, 256 + st.1.length)])
def toldStep (st : Told) : Deed → Told
  | .leaf n => (st.1, st.2.1, st.2.2 ++ [(lf n, n)])
  | .join w g => toldJoin st w g
def told (ds : List Deed) : Told := ds.foldl toldStep ([], [], [(lf 255, 255)])
theorem told_snoc (ds : List Deed) (d : Deed) : told (ds ++ [d]) = toldStep (told ds) d := by simp [told]
def okText (b : Nat) (t : List Nat) : Prop := t.length ≤ b ∧ ∀ c ∈ t, c < 128
theorem okText.mono {b b' : Nat} {t : List Nat} (h : okText b t) (hb : b ≤ b') : okText b' t := ⟨by have := h.1; omega, h.2⟩
structure ToldOk (st : Told) (b k : Nat) : Prop where
  ne : st.2.2 ≠ []
  pile : ∀ p ∈ st.2.2, okText b p.1 ∧ p.2 < 256 + k
  texts : ∀ t ∈ st.1, okText b t
  len : st.1.length ≤ k
theorem lf_ok {n b : Nat} (h : n < 400) (hb : 12 ≤ b) : okText b (lf n) := by
  have : ∀ n : Fin 400, (lf n.val).length ≤ 12 ∧ ∀ c ∈ lf n.val, c < 128 := by decide +kernel
  obtain ⟨h1, h2⟩ := this ⟨n, h⟩
  have h1' : (lf n).length ≤ 12 := h1
  exact ⟨by omega, h2⟩
theorem joined_len (l sg r : List Nat) : (joined l sg r).length = l.length + sg.length + r.length + 2 := by
  unfold joined
  split <;> simp <;> omega
theorem joined_mem {l sg r : List Nat} {c : Nat} (h : c ∈ joined l sg r) : c = 40 ∨ c = 41 ∨ c ∈ l ∨ c ∈ sg ∨ c ∈ r := by
  unfold joined at h
  split at h <;> simp only [List.mem_cons, List.mem_append, List.not_mem_nil, or_false] at h <;> grind
theorem joined_ok {l sg r : List Nat} {b : Nat} (hl : okText b l) (hr : okText b r) (hs : sg ∈ sgns) : okText (2 * b + 4) (joined l sg r) := by
  obtain ⟨s1, _⟩ := sgns_good sg hs
  refine ⟨by rw [joined_len]; have := hl.1; have := hr.1; omega, fun c hc => ?_⟩
  rcases joined_mem hc with h | h | h | h | h
  · omega
  · omega
  · exact hl.2 c h
  · exact sgns_ascii sg hs c h
  · exact hr.2 c h
theorem lastP_mem {l : List (List Nat × Nat)} (h : l ≠ []) : lastP l ∈ l := by
  unfold lastP
  rw [List.getLastD_eq_getLast?, List.getLast?_eq_some_getLast h]
  exact List.getLast_mem h
theorem twoP_mem {pile : List (List Nat × Nat)} (h : pile ≠ []) : (twoP pile).1 ∈ pile ∧ (twoP pile).2.1 ∈ pile ∧ ∀ n ∈ (twoP pile).2.2, n ∈ pile := by
  unfold twoP
  dsimp only
  split
  · exact ⟨lastP_mem h, lastP_mem h, by simp⟩
  · rename_i hr
    exact ⟨List.dropLast_subset _ (lastP_mem hr), lastP_mem h, fun n hn => List.dropLast_subset _ (List.dropLast_subset _ hn)⟩
theorem toldOk_step {st : Told} {b k : Nat} (h : ToldOk st b k) (hb : 12 ≤ b) {d : Deed} (hd : d.ok) : ToldOk (toldStep st d) (2 * b + 4) (k + 1) := by
  cases d with
  | leaf n =>
    have hn : n = 1 ∨ n = 10 ∨ n = 171 ∨ n = 255 := hd
    refine ⟨by simp [toldStep], fun p hp => ?_, fun t ht => (h.texts t ht).mono (by omega), by have := h.len; show st.1.length ≤ _; omega⟩
    rcases List.mem_append.mp hp with hp | hp
    · have := h.pile p hp
      exact ⟨this.1.mono (by omega), by omega⟩
    · rw [List.mem_singleton.mp hp]
      exact ⟨lf_ok (by omega) (by omega), by show n < _; omega⟩
  | join w g =>
    have hw : w < 8 := hd
    obtain ⟨m1, m2, m3⟩ := twoP_mem h.ne
    have o1 := h.pile _ m1
    have o2 := h.pile _ m2
    have oj := joined_ok o1.1 o2.1 (sgn_mem hw)
    have hlen := h.len
    show ToldOk (toldJoin st w g) _ _
    unfold toldJoin
    dsimp only
    split
    · rename_i hm
      refine ⟨by simp, fun p hp => ?_, fun t ht => (h.texts t ht).mono (by omega), by dsimp only; omega⟩
      rcases List.mem_append.mp hp with hp | hp
      · have := h.pile p (m3 p hp)
        exact ⟨this.1.mono (by omega), by omega⟩
      · rw [List.mem_singleton.mp hp]
        have hi := List.idxOf_lt_length_iff.mpr hm
        exact ⟨oj, by dsimp only; omega⟩
    · refine ⟨by simp, fun p hp => ?_, fun t ht => ?_, by simp; omega⟩
      · rcases List.mem_append.mp hp with hp | hp
        · have := h.pile p (m3 p hp)
          exact ⟨this.1.mono (by omega), by omega⟩
        · rw [List.mem_singleton.mp hp]
          exact ⟨oj, by dsimp only; omega⟩
      · rcases List.mem_append.mp ht with ht | ht
        · exact (h.texts t ht).mono (by omega)
        · rw [List.mem_singleton.mp ht]; exact oj
theorem told_ok : ∀ {ds : List Deed}, (∀ d ∈ ds, d.ok) → ToldOk (told ds) (16 * 2 ^ ds.length - 4) ds.length := by
  intro ds
  refine rev_ind (P := fun ds => (∀ d ∈ ds, d.ok) → ToldOk (told ds) (16 * 2 ^ ds.length - 4) ds.length) ?_ ?_ ds
  · intro _
    refine ⟨by simp [told], fun p hp => ?_, by simp [told], by simp [told]⟩
    have : p = (lf 255, 255) := by simpa [told] using hp
    rw [this]
    exact ⟨lf_ok (by omega) (by decide), by decide⟩
  · intro ds d ih hok
    rw [told_snoc, List.length_append, List.length_singleton]
    have hp : 1 ≤ 2 ^ ds.length := Nat.one_le_two_pow
    have := toldOk_step (ih fun d hd => hok d (List.mem_append_left _ hd)) (by omega) (hok d (by simp))
    rw [show 2 * (16 * 2 ^ ds.length - 4) + 4 = 16 * 2 ^ (ds.length + 1) - 4 from by rw [Nat.pow_succ]; omega] at this
    exact this
theorem twoP_len (pile : List (List Nat × Nat)) : (twoP pile).2.2.length ≤ pile.length := by
  unfold twoP
  dsimp only
  split
  · simp
  · simp only [List.length_dropLast]; omega
theorem told_pile_len (ds : List Deed) : (told ds).2.2.length ≤ ds.length + 1 := by
  refine rev_ind (P := fun ds => (told ds).2.2.length ≤ ds.length + 1) ?_ ?_ ds
  · simp [told]
  · intro ds d ih
    rw [told_snoc, List.length_append, List.length_singleton]
    cases d with
    | leaf n => show ((told ds).2.2 ++ [(lf n, n)]).length ≤ _; simp; omega
    | join w g =>
      show (toldJoin (told ds) w g).2.2.length ≤ _
      have := twoP_len (told ds).2.2
      unfold toldJoin
      dsimp only
      split <;> simp <;> omega
theorem told_pairs_len (ds : List Deed) : (told ds).2.1.length = (told ds).1.length := by
  refine rev_ind (P := fun ds => (told ds).2.1.length = (told ds).1.length) ?_ ?_ ds
  · simp [told]
  · intro ds d ih
    rw [told_snoc]
    cases d with
    | leaf n => exact ih
    | join w g =>
      show (toldJoin (told ds) w g).2.1.length = (toldJoin (told ds) w g).1.length
      unfold toldJoin
      dsimp only
      split
      · exact ih
      · simp [ih]
end Mine
end

section
open PySem PySem.W PyProof.Rows
set_option maxRecDepth 100000
set_option maxHeartbeats 1000000
namespace Mine
def PileIn (tl : List (Addr × Obj)) (v : Value) (p : List Nat × Nat) : Prop := ∃ a n t u, v = .ref a ∧ (a, tupOf #[.str (tx p.1) t, .int (p.2 : Nat) u] n) ∈ tl
theorem PileIn.mono {tl tl' : List (Addr × Obj)} {v : Value} {p : List Nat × Nat} (h : PileIn tl v p) (k : ∀ p ∈ tl, p ∈ tl') : PileIn tl' v p := by
  obtain ⟨a, n, t, u, e, hm⟩ := h
  exact ⟨a, n, t, u, e, k _ hm⟩
theorem o_255 : Str.ofString "[255]" = tx (lf 255) := by decide +kernel
theorem o_3 : Str.ofString "[" = tx [91] := by decide +kernel
theorem o_4 : Str.ofString "]" = tx [93] := by decide +kernel
theorem pile_snoc {tl : List (Addr × Obj)} {pv : List Value} {pl : List (List Nat × Nat)} (h : Both (PileIn tl) pv pl) (hne : pl ≠ []) : ∃ pv' v, pv = pv' ++ [v] ∧ Both (PileIn tl) pv' pl.dropLast ∧ PileIn tl v (lastP pl) := by
  have e : pl = pl.dropLast ++ [lastP pl] := by
    unfold lastP
    rw [List.getLastD_eq_getLast?, List.getLast?_eq_some_getLast hne]
    exact (List.dropLast_concat_getLast hne).symm
  rw [e] at h
  obtain ⟨as, a, rfl, h1, h2⟩ := h.snocR
  exact ⟨as, a, rfl, h1, h2⟩
theorem strOk_tx {x : List Nat} (h : ∀ c ∈ x, c < 128) : PyData.strOk (tx x) = true := by
  unfold PyData.strOk
  rw [Array.all_eq_true_iff_forall_mem]
  intro c hc
  have := h c (by simpa [tx] using hc)
  simp; omega
def pileDat (p : List Nat × Nat) : Dat := .tuple [.str (tx p.1), .int (p.2 : Nat)]
theorem datPile {tl : List (Addr × Obj)} {pv : List Value} {pl : List (List Nat × Nat)} (h : Both (PileIn tl) pv pl) : DatAll tl pv (pl.map pileDat) := by
  induction h with
  | nil => exact .nil
  | cons r _ ih =>
    obtain ⟨a, n, t, u, rfl, hm⟩ := r
    exact .cons (.tuple (vs := [.str _ t, .int _ u]) hm (.cons (.str _ t) (.cons (.int _ u) .nil))) ih
theorem both_map {α β γ : Type} {R : α → β → Prop} {as : List α} {bs : List β} (f : β → γ) (h : Both R as bs) : Both (fun a c => ∃ b, R a b ∧ c = f b) as (bs.map f) := by
  induction h with
  | nil => exact .nil
  | cons r _ ih => exact .cons ⟨_, r, rfl⟩ ih
theorem pileDat_ok {p : List Nat × Nat} (h : ∀ c ∈ p.1, c < 128) : kqdOk 8 (pileDat p) = true := by simp [pileDat, kqdOk, strOk_tx h]
section
variable {prog : Program} {w : World} {A : Around} {E : Value → Shared → Prop} {s₀ s : Shared} {ws : List Addr} {L : Addr} {m : Str → Option Value} {l : List (Addr × Obj)} {Q : Value → Shared → Prop}
def isTx (x : List Nat) : Value → Bool
  | .str y _ => y.cps.toList == x
  | _ => false
theorem r_index {i : Nat} {D : Addr} {xv : List Value} {n : Nat} {ts : List (List Nat)} {x : List Nat} {tt : Tok} (S : St s₀ ws L m l s) (hi : l[i]? = some (D, listOf xv.toArray n)) (hx : StrsAre xv (ts.map tx)) (hm : x ∈ ts) (hz : ts.length ≤ 1000)
    (h : ∀ tk s', St s₀ ws L m l s' → Q (.int (ts.idxOf x : Nat) tk) s') : wpAny (model prog w) A (call (.builtin "list.index") [.ref D, .str (tx x) tt]) Q E s := by
  have ho := S.get (List.mem_of_getElem? hi)
  have hlen : xv.length = ts.length := by rw [Strs_len hx, List.length_map]
  have hj : ts.idxOf x < ts.length := List.idxOf_lt_length_iff.mpr hm
  have at_ : ∀ j (hj : j < xv.length), ∃ t, xv[j] = .str (tx (ts[j]'(by omega))) t := by
    intro j hj
    have hjt : j < ts.length := by omega
    obtain ⟨y, hy, t, e⟩ := (both_strs hx).get (List.getElem?_eq_getElem hj)
    rw [List.getElem?_map, List.getElem?_eq_getElem hjt] at hy
    simp only [Option.map_some, Option.some.injEq] at hy
    exact ⟨t, by rw [e, ← hy]⟩
  refine call_meets PySem.F.slot_list_index ⟨_, ho, rfl⟩ PySem.F.entry_list_index (PySem.F.args_list_index_2 _ _) (PySem.MeetsSeq.list_index D xv.toArray n (.str (tx x) tt) (isTx x) (fun y hy => ?_) (ts.idxOf x) (by simpa [hlen] using hj) (by omega) ?_ ?_) ⟨ho, h _ _ S.tok⟩
  · obtain ⟨y', t, rfl⟩ := (both_strs hx).mem (by simpa using hy)
    show PySem.MeetsSeq.EqGives _ _ (y'.cps.toList == x)
    have := PySem.SeqRoads2.EqGives.str y' (tx x) t tt
    simpa [tx] using this
  · obtain ⟨t, e⟩ := at_ (ts.idxOf x) (by omega)
    show isTx x xv[ts.idxOf x] = true
    rw [e]
    simp [isTx, tx]
  · intro j hjm hjlt
    have hj' : j < xv.length := by simpa using hjm
    obtain ⟨t, e⟩ := at_ j hj'
    show isTx x xv[j] = false
    rw [e]
    have : ts[j]'(by omega) ≠ x := by
      have q := List.not_of_lt_findIdx (p := fun y => y == x) (xs := ts) (i := j) hjlt
      simpa using q
    simpa [isTx, tx] using this
end
section
variable {prog : Program} {w : World} {A : Around} {E : Value → Shared → Prop} {s : Shared} {Q : Value → Shared → Prop}
theorem told_call {k : Nat} {dA : Addr} {nd : Nat} {dv : List Value} {ds : List Deed} {tlD : List (Addr × Obj)} (G : Gl (KK w) s.heap) (hA' : Ok k A) (hk : k ≤ 300)
    (hdA : s.heap.get? dA = some (listOf dv.toArray nd)) (hD : Both (DeedIn tlD) dv ds) (htl : ∀ p ∈ tlD, s.heap.get? p.1 = some p.2) (hlen : ds.length ≤ 16) (hok : ∀ d ∈ ds, d.ok)
    (h : ∀ R D yv ny xA xv nx qA qv nq tl s', Grow [] s s' → (∀ p ∈ (R, tupOf #[.ref D, .ref xA, .ref qA] 0) :: (D, listOf (List.toArray yv) ny) :: (xA, listOf (List.toArray xv) nx) :: (qA, listOf (List.toArray qv) nq) :: tl, s'.heap.get? p.1 = some p.2 ∧ s.heap.get? p.1 = none) → (((R, tupOf #[.ref D, .ref xA, .ref qA] 0) :: (D, listOf yv.toArray ny) :: (xA, listOf xv.toArray nx) :: (qA, listOf qv.toArray nq) :: tl).map (·.1)).Nodup →
      IntsAre yv (zs ((told ds).2.2.map (·.2))) → StrsAre xv ((told ds).1.map tx) → Both (PairIn tl) qv (texted (told ds).2.1) → Q (.ref R) s') :
    wpAny (model prog w) A (call (.ref 230) [.ref dA]) Q E s := by
  refine wpAny_call (enter (K := KK w) (l := []) (ws := []) (binds := [(Str.ofString "deeds", .ref dA)]) G hA' (by exact rfl) (by exact rfl) (BindsTo.of_eq (by kernel_rfl)) (locs (by kernel_rfl)) (by intro p hp; cases hp) List.nodup_nil ?_ (by omega))
  intro L s' S
  have hhd : (A.deeper (envOf (Str.ofString "_law_told") default L 230 .none)).handled = none := hA'.handled
  refine r_let ?_
  refine List_ ?_
  refine spliced_none ?_
  refine r_newList S (Nat.le_of_ble_eq_true rfl) fun xA s' S _ => ?_
  refine ⟨_, _, _, _, S, fun s' S => ?_⟩
  refine r_let ?_
  refine List_ ?_
  refine spliced_none ?_
  refine r_newList S (Nat.le_of_ble_eq_true rfl) fun qA s' S _ => ?_
  refine ⟨_, _, _, _, S, fun s' S => ?_⟩
  refine r_let ?_
  refine List_ ?_
  refine spliced_more ?_
  refine Tuple_ ?_
  refine spliced_more ?_
  refine r_str S fun t1 s' S => ?_
  refine spliced_more ?_
  refine r_int S fun t2 s' S => ?_
  refine spliced_none ?_
  refine r_newTuple S (Nat.le_of_ble_eq_true rfl) fun T0 s' S _ => ?_
  refine spliced_none ?_
  refine r_newList S (Nat.le_of_ble_eq_true rfl) fun pA s' S _ => ?_
  refine ⟨_, _, _, _, S, fun s' S => ?_⟩
  rw [o_255] at S
  have S := S.mem (l' := (pA, listOf [Value.ref T0].toArray 0) :: (qA, listOf [].toArray 0) :: (xA, listOf [].toArray 0) :: [(T0, tupOf #[.str (tx (lf 255)) t1, .int 255 t2] 0)]) (by simp) (by
    have nd := S.nodup
    simp only [List.map_cons, List.nodup_cons, List.mem_cons, not_or] at nd ⊢
    grind)
  refine r_stmt ?_
  refine wpAny_For ?_
  refine r_local S rfl ?_
  refine r_for (items := dv) (fun i m l => ∃ pv np qv nq xv nx tl, l = (pA, listOf (List.toArray pv) np) :: (qA, listOf (List.toArray qv) nq) :: (xA, listOf (List.toArray xv) nx) :: tl ∧ m (Str.ofString "pile") = some (.ref pA) ∧ m (Str.ofString "pairs") = some (.ref qA) ∧ m (Str.ofString "texts") = some (.ref xA) ∧
    Both (PileIn tl) pv (told (ds.take i)).2.2 ∧ Both (PairIn tl) qv (texted (told (ds.take i)).2.1) ∧ StrsAre xv ((told (ds.take i)).1.map tx)) hhd S ?_ ?_ ?_ ?_ ?_
  · rintro i m l s' _ S
    exact ⟨_, S.keep _ _ List.not_mem_nil hdA, rfl, nd, rfl⟩
  · exact ⟨_, 0, _, 0, _, 0, _, rfl, rfl, rfl, rfl, .one ⟨T0, 0, t1, t2, rfl, .head _⟩, .nil, .nil⟩
  · refine .inr ⟨⟨_, _, _, rfl⟩, fun v hv => ?_⟩
    obtain ⟨d, a, n, t1, t2, t3, e, _⟩ := hD.mem hv
    exact ⟨a, e⟩
  · rintro i v m l s' I oI hv ⟨pv, np, qv, nq, xv, nx, tl, rfl, hm1, hm2, hm3, hpv, hqv, hxv⟩ S
    obtain ⟨d, hd, a, n, t1, t2, t3, rfl, hmem⟩ := hD.get hv
    have hi : i < ds.length := (List.getElem?_eq_some_iff.mp hd).1
    have htk : ds.take (i + 1) = ds.take i ++ [d] := by simp [List.take_add_one, hd]
    have hdok := hok d (List.mem_of_getElem? hd)
    have hst := told_ok (ds := ds.take i) (fun d hd => hok d (List.mem_of_mem_take hd))
    have hpl := told_pile_len (ds.take i)
    have hql := told_pairs_len (ds.take i)
    have hil : (ds.take i).length = i := by rw [List.length_take]; omega
    rw [hil] at hst hpl
    rw [htk, told_snoc]
    generalize hkst : told (ds.take i) = st at hpv hqv hxv hst hpl hql ⊢
    have hpw : 16 * 2 ^ i - 4 ≤ 1000000 := by
      have : 2 ^ i ≤ 2 ^ 15 := Nat.pow_le_pow_right (by decide) (by omega)
      omega
    have hlp := hpv.length
    have hlq := hqv.length
    have hlx := Strs_len hxv
    refine r_unpack3 hhd S (S.keep _ _ List.not_mem_nil (htl _ hmem)) fun s' S => ?_
    refine r_stmt ?_
    refine wpAny_If ?_
    refine wpAny_isTrue_Compare1 ?_
    refine r_local S rfl ?_
    refine r_int S fun t0 s' S => ?_
    refine eq_int ?_
    refine wpAny_truthy_bool ?_
    cases d with
    | leaf q =>
      rw [if_pos (by simp [Deed.d1])]
      have hq : q = 1 ∨ q = 10 ∨ q = 171 ∨ q = 255 := hdok
      have hlf := lf_ok (n := q) (b := 12) (by omega) (Nat.le_refl _)
      refine r_stmt ?_
      refine wpAny_Expr_any ?_
      refine MethodCall_ ?_
      refine r_local S hm1 ?_
      refine r_meth S (i := 1) rfl PySem.F.slot_list_append PySem.F.type_list_append ?_
      refine callWith_method1 ?_
      refine spliced_more ?_
      refine Tuple_ ?_
      refine spliced_more ?_
      refine wpAny_BinOp ?_
      refine wpAny_BinOp ?_
      refine r_str S fun t4 s' S => ?_
      refine r_callT (T := "str") (fun Q hq => r_blt (K := KK w) (S.gl0 G) (by exact rfl) bb_str (by decide) hq) ?_
      refine spliced_more ?_
      refine r_local S rfl ?_
      refine spliced_none ?_
      refine r_strOf (n := q) S (by omega) fun t5 s' S => ?_
      rw [o_3]
      have hdl : (dec q).length ≤ 12 := by have := hlf.1; simp [lf] at this; omega
      refine r_cat S (by rw [tx_length, tx_length, sizeLine_eq]; simp; omega) fun t6 s' S => ?_
      rw [tx_append]
      refine r_str S fun t7 s' S => ?_
      rw [o_4]
      refine r_cat S (by rw [tx_length, tx_length, sizeLine_eq]; simp; omega) fun t8 s' S => ?_
      rw [tx_append]
      refine spliced_more ?_
      refine r_local S rfl ?_
      refine spliced_none ?_
      refine r_newTuple S (Nat.le_of_ble_eq_true rfl) fun T1 s' S _ => ?_
      refine spliced_none ?_
      refine r_append S (i := 2) rfl (by rw [List.size_toArray, hlp, sizeLine_eq]; omega) fun np' s' S => ?_
      refine wpAny_execs_nil ?_
      refine wpAny_execs_nil ?_
      have S₂ := S.mem (l' := (I, oI) :: (pA, listOf (pv ++ [Value.ref T1]).toArray np') :: (qA, listOf qv.toArray nq) :: (xA, listOf xv.toArray nx) :: (T1, tupOf #[.str (tx (lf q)) t8, .int (q : Nat) t2] 0) :: tl) (by
          intro p hp
          simp only [List.set_cons_succ, List.set_cons_zero, List.mem_cons] at hp ⊢
          rcases hp with rfl | rfl | rfl | rfl | rfl | hp
          · simp
          · simp
          · simp
          · simp
          · simp [Deed.d2, lf]
          · simp [hp]) (by
          have nd := S.nodup
          simp only [List.set_cons_succ, List.set_cons_zero, List.map_cons, List.nodup_cons, List.mem_cons, not_or] at nd ⊢
          grind)
      refine ⟨_, _, ?_, S₂⟩
      refine ⟨_, _, _, _, _, _, _, rfl, hm1, hm2, hm3, ?_, ?_, hxv⟩
      · exact (hpv.mono fun _ _ r => r.mono fun p hp => .tail _ hp).append (.one ⟨T1, 0, t8, t2, rfl, .head _⟩)
      · exact hqv.mono fun _ _ r => r.mono fun p hp => .tail _ hp
    | join wh g =>
      rw [if_neg (by simp [Deed.d1])]
      have hwh : wh < 8 := hdok
      have hsg8 := sgn_mem hwh
      obtain ⟨pm1, pm2, pm3⟩ := twoP_mem hst.ne
      have okL := hst.pile _ pm1
      have okR := hst.pile _ pm2
      have hrr : (twoP st.2.2).2.1 = lastP st.2.2 := by unfold twoP; dsimp only; split <;> rfl
      have hu : (A.deeper (envOf (Str.ofString "_law_told") default L 230 .none)).units + 64 < cLine := by have q := hA'.units; show A.units + 3 + 64 < 9900; omega
      obtain ⟨pv1, v1, rfl, hpv1, ⟨a1, n1, u1, u2, rfl, hmem1⟩⟩ := pile_snoc hpv hst.ne
      have hlp1 := hpv1.length
      rw [List.length_dropLast] at hlp1
      refine r_stmt ?_
      refine Assign_Tuple ?_
      refine MethodCall_ ?_
      refine r_local S hm1 ?_
      refine r_meth S (i := 1) rfl PySem.F.slot_list_pop PySem.F.type_list_pop ?_
      refine callWith_method0 ?_
      refine r_pop S (i := 1) rfl (y := .ref a1) (by simp) (by rw [List.size_toArray, hlp, sizeLine_eq]; omega) fun s' S => ?_
      have e : (pv1 ++ [Value.ref a1]).toArray.pop = pv1.toArray := by simp
      rw [e] at S
      refine r_unpack2 hhd S (S.get (.tail _ (.tail _ (.tail _ (.tail _ hmem1))))) fun s' S => ?_
      refine r_stmt ?_
      refine Assign_Tuple ?_
      refine r_midL S (fun v l' => ∃ a k w1 w2 pv2 np2 tl', v = .ref a ∧ (a, tupOf #[.str (tx (twoP st.2.2).1.1) w1, .int ((twoP st.2.2).1.2 : Nat) w2] k) ∈ tl' ∧ (∀ p ∈ tl, p ∈ tl') ∧ Both (PileIn tl) pv2 (twoP st.2.2).2.2 ∧ l' = (I, oI) :: (pA, listOf (List.toArray pv2) np2) :: (qA, listOf qv.toArray nq) :: (xA, listOf xv.toArray nx) :: tl') ?_ ?_
      · refine IfExp_ ?_
        refine wpAny_isTrue_Compare1 ?_
        refine r_local S hm1 ?_
        refine List_ ?_
        refine spliced_none ?_
        refine r_newList S (Nat.le_of_ble_eq_true rfl) fun D0 s' S _ => ?_
        refine kqd_ne S.news (.tail _ (.tail _ (.head _))) rfl rfl (datPile hpv1) (fun p hp => .tail _ (.tail _ (.tail _ (.tail _ (.tail _ hp))))) (.head _) rfl (ys := []) rfl (n₂ := []) .nil (fun p hp => nomatch hp) ?_ (fun d hd => nomatch hd) hu ?_
        · intro d hd
          obtain ⟨p, hp, rfl⟩ := List.mem_map.mp hd
          exact pileDat_ok (hst.pile p (List.dropLast_subset _ hp)).1.2
        refine wpAny_truthy_bool ?_
        by_cases hr : st.2.2.dropLast = []
        · rw [if_neg (by rw [decide_eq_true (show st.2.2.dropLast.map pileDat = [] from by rw [hr]; rfl)]; simp)]
          refine Tuple_ ?_
          refine spliced_more ?_
          refine r_local S rfl ?_
          refine spliced_more ?_
          refine r_local S rfl ?_
          refine spliced_none ?_
          refine r_newTuple S (Nat.le_of_ble_eq_true rfl) fun D1 s' S _ => ?_
          have e2 : twoP st.2.2 = (lastP st.2.2, lastP st.2.2, []) := by unfold twoP; dsimp only; rw [if_pos hr]
          rw [e2]
          have S₂ := S.mem (l' := (I, oI) :: (pA, listOf pv1.toArray (np + 1)) :: (qA, listOf qv.toArray nq) :: (xA, listOf xv.toArray nx) :: (D1, tupOf #[.str (tx (lastP st.2.2).1) u1, .int ((lastP st.2.2).2 : Nat) u2] 0) :: tl) (by
              intro p hp
              simp only [List.set_cons_succ, List.set_cons_zero, List.mem_cons] at hp ⊢
              rcases hp with rfl | rfl | rfl | rfl | rfl | hp
              · simp
              · simp
              · simp
              · simp
              · simp
              · simp [hp]) (by
              have nd := S.nodup
              simp only [List.set_cons_succ, List.set_cons_zero, List.map_cons, List.nodup_cons, List.mem_cons, not_or] at nd ⊢
              grind)
          refine ⟨_, ⟨D1, 0, u1, u2, pv1, np + 1, _, rfl, .head _, fun p hp => .tail _ hp, ?_, rfl⟩, S₂⟩
          rw [← hr]; exact hpv1
        · rw [if_pos (by rw [decide_eq_false (fun q => hr (List.map_eq_nil_iff.mp q))]; rfl)]
          obtain ⟨pv2, v2, rfl, hpv2, ⟨a2, n2, u3, u4, rfl, hmem2⟩⟩ := pile_snoc hpv1 hr
          refine MethodCall_ ?_
          refine r_local S hm1 ?_
          refine r_meth S (i := 2) rfl PySem.F.slot_list_pop PySem.F.type_list_pop ?_
          refine callWith_method0 ?_
          refine r_pop S (i := 2) rfl (y := .ref a2) (by simp) (by rw [List.size_toArray, hlp1, sizeLine_eq]; omega) fun s' S => ?_
          have e : (pv2 ++ [Value.ref a2]).toArray.pop = pv2.toArray := by simp
          rw [e] at S
          have e2 : twoP st.2.2 = (lastP st.2.2.dropLast, lastP st.2.2, st.2.2.dropLast.dropLast) := by unfold twoP; dsimp only; rw [if_neg hr]
          rw [e2]
          exact ⟨_, ⟨a2, n2, u3, u4, pv2, _, tl, rfl, hmem2, fun p hp => hp, hpv2, rfl⟩, S.sub (.cons _ (.refl _))⟩
      rintro v l' s' ⟨a2, k2, w1, w2, pv2, np2, tl', rfl, hmem2, hsub, hpv2, rfl⟩ S
      have hlp2 := hpv2.length
      have hlp2' := twoP_len st.2.2
      refine r_unpack2 hhd S (S.get (.tail _ (.tail _ (.tail _ (.tail _ hmem2))))) fun s' S => ?_
      refine r_let ?_
      refine Subscript_ ?_
      refine r_call0 (f := 211) (K := KK w) (fun Q hq => r_glob (K := KK w) (S.gl0 G) (by exact rfl) hq) (S.gl0 G) (by exact rfl) ?_
      refine signs_call (S.gl0 G) (hA'.deeper _) (by omega) fun D2 vs2 s' G' _ eD2 hvs2 => ?_
      have S := S.calls G'
      refine r_local S rfl ?_
      obtain ⟨tsg, hsg⟩ : ∃ t, vs2[wh]? = some (.str (tx (sgn wh)) t) := by
        have hlt : wh < (sgns.map tx).length := by simpa [sgns] using hwh
        obtain ⟨v, hv2, t, rfl⟩ := (both_strs hvs2).getR (List.getElem?_eq_getElem hlt)
        refine ⟨t, ?_⟩
        rw [hv2, List.getElem_map]
        unfold sgn
        rw [List.getD_eq_getElem?_getD, List.getElem?_eq_getElem (by simpa using hlt)]
        rfl
      refine r_item ⟨_, eD2, rfl, 0, rfl⟩ (by simp [Deed.d2]) (by simp [Deed.d2]; omega) (x := .str (tx (sgn wh)) tsg) (by simpa [Deed.d2] using hsg) ?_
      refine ⟨_, _, _, _, S, fun s' S => ?_⟩
      rw [← hrr] at S
      refine r_let ?_
      refine r_call (f := 218) (K := KK w) (fun Q hq => r_glob (K := KK w) (S.gl0 G) (by exact rfl) hq) (S.gl0 G) (by exact rfl) ?_
      refine spliced_more ?_
      refine r_local S rfl ?_
      refine spliced_more ?_
      refine r_local S rfl ?_
      refine spliced_more ?_
      refine r_local S rfl ?_
      refine spliced_none ?_
      refine ⟨S.gl0 G, ?_⟩
      refine joined_call (S.gl0 G) (hA'.deeper _) (by omega) (by have := okL.1.1; have := okR.1.1; have := (sgns_good _ hsg8).1; rw [sizeLine_eq]; omega) fun tt s' G' => ?_
      have S := S.calls G'
      refine ⟨_, _, _, _, S, fun s' S => ?_⟩
      show wpAny _ _ _ _ _ _
      have hjj : toldStep st (.join wh g) = toldJoin st wh g := rfl
      rw [hjj]
      unfold toldJoin
      dsimp only
      generalize htext : joined (twoP st.2.2).1.1 (sgn wh) (twoP st.2.2).2.1.1 = text at S ⊢
      have hxl : st.1.length ≤ 16 := by have := hst.len; omega
      by_cases htm : text ∈ st.1
      · rw [if_pos htm]
        refine r_stmt ?_
        refine wpAny_If ?_
        refine wpAny_isTrue_Compare1 ?_
        refine r_local S rfl ?_
        refine r_local S hm3 ?_
        refine notin_list_strs (S.isList (i := 3) rfl) hxv ?_
        refine wpAny_truthy_bool ?_
        rw [any_tx, if_neg (by simpa using htm)]
        refine wpAny_execs_nil ?_
        refine r_stmt ?_
        refine wpAny_Expr_any ?_
        refine MethodCall_ ?_
        refine r_local S hm1 ?_
        refine r_meth S (i := 1) rfl PySem.F.slot_list_append PySem.F.type_list_append ?_
        refine callWith_method1 ?_
        refine spliced_more ?_
        refine Tuple_ ?_
        refine spliced_more ?_
        refine r_local S rfl ?_
        refine spliced_more ?_
        refine wpAny_BinOp ?_
        refine r_int S fun t8 s' S => ?_
        refine MethodCall_ ?_
        refine r_local S hm3 ?_
        refine r_meth S (i := 3) rfl PySem.F.slot_list_index PySem.F.type_list_index ?_
        refine callWith_method1 ?_
        refine spliced_more ?_
        refine r_local S rfl ?_
        refine spliced_none ?_
        refine r_index S (i := 3) rfl hxv htm (by omega) fun t9 s' S => ?_
        refine r_add S fun t9 s' S => ?_
        refine spliced_none ?_
        refine r_newTuple S (Nat.le_of_ble_eq_true rfl) fun T1 s' S _ => ?_
        refine spliced_none ?_
        refine r_append S (i := 2) rfl (by rw [List.size_toArray, hlp2, sizeLine_eq]; omega) fun np' s' S => ?_
        refine wpAny_execs_nil ?_
        refine wpAny_execs_nil ?_
        have S₂ := S.mem (l' := (I, oI) :: (pA, listOf (pv2 ++ [Value.ref T1]).toArray np') :: (qA, listOf qv.toArray nq) :: (xA, listOf xv.toArray nx) :: (T1, tupOf #[.str (tx text) tt, .int ((256 + st.1.idxOf text : Nat) : Int) t9] 0) :: tl') (by
            intro p hp
            simp only [List.set_cons_succ, List.set_cons_zero, List.mem_cons] at hp ⊢
            rcases hp with rfl | rfl | rfl | rfl | rfl | hp
            · simp
            · simp
            · simp
            · simp
            · simp
            · simp [hp]) (by
            have nd := S.nodup
            simp only [List.set_cons_succ, List.set_cons_zero, List.map_cons, List.nodup_cons, List.mem_cons, not_or] at nd ⊢
            grind)
        refine ⟨_, _, ?_, S₂⟩
        refine ⟨_, _, _, _, _, _, _, rfl, hm1, hm2, hm3, ?_, ?_, hxv⟩
        · exact (hpv2.mono fun _ _ r => r.mono fun p hp => .tail _ (hsub p hp)).append (.one ⟨T1, 0, tt, t9, rfl, .head _⟩)
        · exact hqv.mono fun _ _ r => r.mono fun p hp => .tail _ (hsub p hp)
      · rw [if_neg htm]
        refine r_stmt ?_
        refine wpAny_If ?_
        refine wpAny_isTrue_Compare1 ?_
        refine r_local S rfl ?_
        refine r_local S hm3 ?_
        refine notin_list_strs (S.isList (i := 3) rfl) hxv ?_
        refine wpAny_truthy_bool ?_
        have hnany : st.1.any (fun x => x == text) = false := by
          rw [List.any_eq_false]
          intro x hx q
          rw [beq_iff_eq] at q
          exact htm (q ▸ hx)
        rw [any_tx, hnany, if_pos (by rfl)]
        refine r_midM S (fun m' => (∃ t, m' (Str.ofString "ahead") = some (.int ((sidesT (sgn wh) (twoP st.2.2).1.2 (twoP st.2.2).2.1.2).1 : Nat) t)) ∧ (∃ t, m' (Str.ofString "behind") = some (.int ((sidesT (sgn wh) (twoP st.2.2).1.2 (twoP st.2.2).2.1.2).2 : Nat) t)) ∧ m' (Str.ofString "sign") = some (.str (tx (sgn wh)) tsg) ∧ (∃ t, m' (Str.ofString "great") = some (.int (if g then 1 else 0) t)) ∧ m' (Str.ofString "text") = some (.str (tx text) tt) ∧ m' (Str.ofString "pile") = some (.ref pA) ∧ m' (Str.ofString "pairs") = some (.ref qA) ∧ m' (Str.ofString "texts") = some (.ref xA)) ?_ ?_
        · refine wpAny_If ?_
          refine wpAny_isTrue_Compare1 ?_
          refine r_local S rfl ?_
          refine List_ ?_
          refine r_strs (.cons (.cons (.cons (.cons .nil)))) S fun cv s' hcv S => ?_
          refine r_newList S (by rw [Strs_len hcv]; exact Nat.le_of_ble_eq_true rfl) fun D3 s' S _ => ?_
          refine in_list_strs (S.isList (i := 0) rfl) hcv ?_
          refine wpAny_truthy_bool ?_
          rw [o_comms, any_tx]
          by_cases hc : comm (sgn wh) = true
          · rw [show comms.any (fun x => x == sgn wh) = true from hc, if_pos rfl]
            refine r_stmt ?_
            refine Assign_Tuple_swapped ?_
            refine Tuple_ ?_
            refine spliced_more ?_
            refine r_callB (id := "min") (fun Q hq => r_blt (K := KK w) (S.gl0 G) (by exact rfl) bb_min (by decide) hq) ?_
            refine spliced_more ?_
            refine r_local S rfl ?_
            refine spliced_more ?_
            refine r_local S rfl ?_
            refine spliced_none ?_
            refine min_two_N hhd S.fr S.news fun h' tk' F' N' => ?_
            have S := S.of_fr (tk := tk') F' N' S.nodup
            refine spliced_more ?_
            refine r_callB (id := "max") (fun Q hq => r_blt (K := KK w) (S.gl0 G) (by exact rfl) bb_max (by decide) hq) ?_
            refine spliced_more ?_
            refine r_local S rfl ?_
            refine spliced_more ?_
            refine r_local S rfl ?_
            refine spliced_none ?_
            refine max_two_N hhd S.fr S.news fun h' tk' F' N' => ?_
            have S := S.of_fr (tk := tk') F' N' S.nodup
            refine spliced_none ?_
            refine r_newTuple S (Nat.le_of_ble_eq_true rfl) fun D4 s' S _ => ?_
            refine r_swap hhd S (S.get (.head _)) fun s' S => ?_
            refine wpAny_execs_nil ?_
            have es : sidesT (sgn wh) (twoP st.2.2).1.2 (twoP st.2.2).2.1.2 = (if (twoP st.2.2).2.1.2 < (twoP st.2.2).1.2 then (twoP st.2.2).2.1.2 else (twoP st.2.2).1.2, if (twoP st.2.2).2.1.2 > (twoP st.2.2).1.2 then (twoP st.2.2).2.1.2 else (twoP st.2.2).1.2) := by unfold sidesT; rw [if_pos hc]
            rw [es]
            have e1 : (if ((twoP st.2.2).2.1.2 : Int) < ((twoP st.2.2).1.2 : Int) then ((twoP st.2.2).2.1.2 : Int) else ((twoP st.2.2).1.2 : Int)) = (((if (twoP st.2.2).2.1.2 < (twoP st.2.2).1.2 then (twoP st.2.2).2.1.2 else (twoP st.2.2).1.2 : Nat)) : Int) := by split <;> split <;> omega
            have e2 : (if ((twoP st.2.2).2.1.2 : Int) > ((twoP st.2.2).1.2 : Int) then ((twoP st.2.2).2.1.2 : Int) else ((twoP st.2.2).1.2 : Int)) = (((if (twoP st.2.2).2.1.2 > (twoP st.2.2).1.2 then (twoP st.2.2).2.1.2 else (twoP st.2.2).1.2 : Nat)) : Int) := by split <;> split <;> omega
            refine ⟨rfl, _, ?_, S.sub (.cons _ (.cons _ (.refl _)))⟩
            exact ⟨⟨_, by rw [← e1]; rfl⟩, ⟨_, by rw [← e2]; rfl⟩, rfl, ⟨t3, rfl⟩, rfl, hm1, hm2, hm3⟩
          · rw [show comms.any (fun x => x == sgn wh) = false from (Bool.not_eq_true _).mp hc, if_neg (by decide)]
            refine wpAny_execs_nil ?_
            have es : sidesT (sgn wh) (twoP st.2.2).1.2 (twoP st.2.2).2.1.2 = ((twoP st.2.2).1.2, (twoP st.2.2).2.1.2) := by unfold sidesT; rw [if_neg hc]
            rw [es]
            refine ⟨rfl, _, ?_, S.sub (.cons _ (.refl _))⟩
            exact ⟨⟨_, rfl⟩, ⟨_, rfl⟩, rfl, ⟨t3, rfl⟩, rfl, hm1, hm2, hm3⟩
        rintro m' s' ⟨⟨ta, hma⟩, ⟨tb, hmb⟩, hms, ⟨tg, hmg⟩, hmt, hm1', hm2', hm3'⟩ S
        obtain ⟨ss1, ss2⟩ := sides_mem (sgn wh) (twoP st.2.2).1.2 (twoP st.2.2).2.1.2
        rw [← sidesT_eq] at ss1 ss2
        have ha4 : (sidesT (sgn wh) (twoP st.2.2).1.2 (twoP st.2.2).2.1.2).1 < 4096 := by rcases ss1 with e | e <;> rw [e] <;> omega
        have hb4 : (sidesT (sgn wh) (twoP st.2.2).1.2 (twoP st.2.2).2.1.2).2 < 4096 := by rcases ss2 with e | e <;> rw [e] <;> omega
        refine r_stmt ?_
        refine wpAny_Expr_any ?_
        refine MethodCall_ ?_
        refine r_local S hm2' ?_
        refine r_meth S (i := 2) rfl PySem.F.slot_list_append PySem.F.type_list_append ?_
        refine callWith_method1 ?_
        refine spliced_more ?_
        refine Tuple_ ?_
        refine spliced_more ?_
        refine r_call (f := 204) (K := KK w) (fun Q hq => r_glob (K := KK w) (S.gl0 G) (by exact rfl) hq) (S.gl0 G) (by exact rfl) ?_
        refine spliced_more ?_
        refine r_local S hma ?_
        refine spliced_more ?_
        refine r_local S hms ?_
        refine spliced_more ?_
        refine r_local S hmb ?_
        refine spliced_more ?_
        refine r_local S hmg ?_
        refine spliced_none ?_
        refine ⟨S.gl0 G, ?_⟩
        refine name_call (S.gl0 G) (hA'.deeper _) (by omega) ha4 hb4 (sgns_ascii _ hsg8) (sgns_good _ hsg8).1 fun t7 s' G' => ?_
        have S := S.calls G'
        have hgg : decide ((if g = true then (1 : Int) else 0) = 1) = g := by cases g <;> rfl
        rw [hgg]
        generalize named (sidesT (sgn wh) (twoP st.2.2).1.2 (twoP st.2.2).2.1.2).1 (sgn wh) (sidesT (sgn wh) (twoP st.2.2).1.2 (twoP st.2.2).2.1.2).2 g = nm
        refine spliced_more ?_
        refine r_callT (T := "str") (fun Q hq => r_blt (K := KK w) (S.gl0 G) (by exact rfl) bb_str (by decide) hq) ?_
        refine spliced_more ?_
        refine wpAny_BinOp ?_
        refine r_int S fun t8 s' S => ?_
        refine r_callB (fun Q hq => r_blt (K := KK w) (S.gl0 G) (by exact rfl) bb_len (by decide) hq) ?_
        refine spliced_more ?_
        refine r_local S hm3' ?_
        refine spliced_none ?_
        refine r_len S (S.isList (i := 3) rfl) (by rw [List.size_toArray, hlx, List.length_map]; omega) fun t9 s' S => ?_
        refine r_add S fun t9 s' S => ?_
        refine spliced_none ?_
        have ev : (256 : Int) + (xv.toArray.size : Nat) = ((256 + st.1.length : Nat) : Int) := by rw [List.size_toArray, hlx, List.length_map]; omega
        rw [ev]
        refine r_strOf S (by omega) fun tv s' S => ?_
        refine spliced_none ?_
        refine r_newTuple S (Nat.le_of_ble_eq_true rfl) fun T2 s' S _ => ?_
        refine spliced_none ?_
        refine r_append S (i := 3) rfl (by rw [List.size_toArray, hlq, sizeLine_eq, texted, List.length_map]; omega) fun nq' s' S => ?_
        refine r_stmt ?_
        refine wpAny_Expr_any ?_
        refine MethodCall_ ?_
        refine r_local S hm3' ?_
        refine r_meth S (i := 4) rfl PySem.F.slot_list_append PySem.F.type_list_append ?_
        refine callWith_method1 ?_
        refine spliced_more ?_
        refine r_local S hmt ?_
        refine spliced_none ?_
        refine r_append S (i := 4) rfl (by rw [List.size_toArray, hlx, sizeLine_eq, List.length_map]; omega) fun nx' s' S => ?_
        refine wpAny_execs_nil ?_
        rw [List.push_toArray, List.push_toArray] at S
        have hxv2 : StrsAre (xv ++ [.str (tx text) tt]) ((st.1 ++ [text]).map tx) := by
          rw [List.map_append]; exact strs_both ((both_strs hxv).append (.one ⟨_, rfl⟩))
        refine r_stmt ?_
        refine wpAny_Expr_any ?_
        refine MethodCall_ ?_
        refine r_local S hm1' ?_
        refine r_meth S (i := 2) rfl PySem.F.slot_list_append PySem.F.type_list_append ?_
        refine callWith_method1 ?_
        refine spliced_more ?_
        refine Tuple_ ?_
        refine spliced_more ?_
        refine r_local S hmt ?_
        refine spliced_more ?_
        refine wpAny_BinOp ?_
        refine r_int S fun t9 s' S => ?_
        refine MethodCall_ ?_
        refine r_local S hm3' ?_
        refine r_meth S (i := 4) rfl PySem.F.slot_list_index PySem.F.type_list_index ?_
        refine callWith_method1 ?_
        refine spliced_more ?_
        refine r_local S hmt ?_
        refine spliced_none ?_
        refine r_index S (i := 4) rfl hxv2 (by simp) (by simp; omega) fun t9 s' S => ?_
        have eix : (st.1 ++ [text]).idxOf text = st.1.length := by rw [List.idxOf_append, if_neg htm]; simp
        rw [eix]
        refine r_add S fun t9 s' S => ?_
        refine spliced_none ?_
        refine r_newTuple S (Nat.le_of_ble_eq_true rfl) fun T1 s' S _ => ?_
        refine spliced_none ?_
        refine r_append S (i := 3) rfl (by rw [List.size_toArray, hlp2, sizeLine_eq]; omega) fun np' s' S => ?_
        refine wpAny_execs_nil ?_
        refine wpAny_execs_nil ?_
        have S₂ := S.mem (l' := (I, oI) :: (pA, listOf (pv2 ++ [Value.ref T1]).toArray np') :: (qA, listOf (qv ++ [Value.ref T2]).toArray nq') :: (xA, listOf (xv ++ [Value.str (tx text) tt]).toArray nx') :: (T1, tupOf #[.str (tx text) tt, .int ((256 + st.1.length : Nat) : Int) t9] 0) :: (T2, tupOf #[.str (tx nm) t7, .str (tx (dec (256 + st.1.length))) tv] 0) :: tl') (by
            intro p hp
            simp only [List.set_cons_succ, List.set_cons_zero, List.mem_cons] at hp ⊢
            rcases hp with rfl | rfl | rfl | rfl | rfl | rfl | hp
            · simp
            · simp
            · simp
            · simp
            · simp
            · simp
            · simp [hp]) (by
            have nd := S.nodup
            simp only [List.set_cons_succ, List.set_cons_zero, List.map_cons, List.nodup_cons, List.mem_cons, not_or] at nd ⊢
            grind)
        refine ⟨_, _, ?_, S₂⟩
        refine ⟨_, _, _, _, _, _, _, rfl, hm1', hm2', hm3', ?_, ?_, hxv2⟩
        · exact (hpv2.mono fun _ _ r => r.mono fun p hp => .tail _ (.tail _ (hsub p hp))).append (.one ⟨T1, 0, tt, t9, rfl, .head _⟩)
        · rw [texted, List.map_append]
          exact (hqv.mono fun _ _ r => r.mono fun p hp => .tail _ (.tail _ (hsub p hp))).append (.one ⟨T2, 0, t7, tv, rfl, .tail _ (.head _)⟩)
  · rintro m l s' ⟨pv, np, qv, nq, xv, nx, tl, rfl, hm1, hm2, hm3, hpv, hqv, hxv⟩ S
    rw [hD.length, List.take_length] at hpv hqv hxv
    refine r_ret ?_
    refine Tuple_ ?_
    refine spliced_more ?_
    refine compPair hhd S (n := np) (pv := pv) (ns := zs ((told ds).2.2.map (·.2))) (fun Q hq => r_local S hm1 (hq _ S)) (.head _) ?_ ?_ ?_ ?_ ?_ ?_ ?_ ?_ ?_ ?_ ?_
    · rw [zs, List.map_map]
      refine (both_map _ hpv).mono fun v k r => ?_
      obtain ⟨p, ⟨a, n, t, u, rfl, hm⟩, rfl⟩ := r
      exact ⟨a, n, _, u, rfl, .tail _ (.tail _ (.tail _ hm))⟩
    · have := told_pile_len ds; simp; omega
    · intro D yv ny s' S hyv
      refine spliced_more ?_
      refine r_local S hm3 ?_
      refine spliced_more ?_
      refine r_local S hm2 ?_
      refine spliced_none ?_
      refine r_newTuple S (Nat.le_of_ble_eq_true rfl) fun R s' S _ => ?_
      have S := S.mem (l' := (R, tupOf #[.ref D, .ref xA, .ref qA] 0) :: (D, listOf yv.toArray ny) :: (xA, listOf xv.toArray nx) :: (qA, listOf qv.toArray nq) :: tl) (by
          intro p hp
          simp only [List.mem_cons] at hp ⊢
          rcases hp with rfl | rfl | rfl | rfl | hp
          · simp
          · simp
          · simp
          · simp
          · simp [hp]) (by
          have nd := S.nodup
          simp only [List.map_cons, List.nodup_cons, List.mem_cons, not_or] at nd ⊢
          grind)
      exact h R D yv ny xA xv nx qA qv nq tl _ S.grow (fun p hp => ⟨(S.cells p hp).1, (S.cells p hp).2.2.resolve_right List.not_mem_nil⟩) S.nodup hyv hxv hqv
    · decide
    · decide
    · rfl
    · decide
    · rfl
    · rfl
    · intro _; rfl
    · decide
end
end Mine
end

section
open PySem PySem.W PyProof.Rows
set_option maxRecDepth 100000
set_option maxHeartbeats 1000000
namespace Mine
section
variable {prog : Program} {w : World} {A : Around} {E : Value → Shared → Prop} {s₀ s : Shared} {ws : List Addr} {L : Addr} {m : Str → Option Value} {l : List (Addr × Obj)}
/-- for name in a plain text -/
theorem r_forStr {x : Str} {t : Tok} {p : Pos} {v : Str} {body : List Stmt} {env : Env} {Q : Flow → Shared → Prop} (J : Nat → (Str → Option Value) → List (Addr × Obj) → Prop)
    (hh : A.handled = none) (S : St s₀ ws L m l s) (ha : x.cps.all (· < 128) = true) (h0 : J 0 m l)
    (turn : ∀ i c tk m l s I o, x.cps[i]? = some c → J i m l → St s₀ ws L m ((I, o) :: l) s →
      wpAny (model prog w) A (assign (.Name v p) env (.str ⟨#[c]⟩ tk)) (fun _ s₁ => wpAny (model prog w) A (execs body env) (fun f s₂ => match f with
        | .next | .cont => ∃ m' l', J (i + 1) m' l' ∧ St s₀ ws L m' ((I, o) :: l') s₂
        | .brk => Q .next s₂
        | .ret v => Q (.ret v) s₂) (fun _ _ => False) s₁) (fun _ _ => False) s)
    (done : ∀ m l s, J x.cps.size m l → St s₀ ws L m l s → Q .next s) :
    wpAny (model prog w) A (pyIter (.str x t)) (fun it s₂ => codeAny (model prog w) A (.forLoop (.Name v p) it body [] env) (fun r s' => match r with | .ok f => Q f s' | .error e => cameBackBy (model prog w) A env (fun _ _ => False) e s') s₂) (fun _ _ => False) s := by
  refine wpAny_pyIter_ascii ha ?_
  have S₁ := S.push (tk := s.toks) { cls := .type "str_ascii_iterator", data := .fields #[.str x t, .int 0 0] } rfl
  generalize s.heap.objs.size = I at S₁ ⊢
  refine codeAny_forLoop_any (fun n s' => ∃ i m l o, n = x.cps.size + 1 - i ∧ i ≤ x.cps.size ∧ J i m l ∧ St s₀ ws L m ((I, o) :: l) s' ∧ o.cls = .type "str_ascii_iterator" ∧ o.data = .fields #[.str x t, .int i 0]) ?_ (x.cps.size + 1)
    ⟨0, m, l, _, rfl, Nat.zero_le _, h0, S₁, rfl, rfl⟩
  rintro n s' ⟨i, m, l, o, rfl, hi, hJ, S', hc, hd⟩
  have hit : s'.heap.IsStrIter I "str_ascii_iterator" x t i := ⟨o, S'.get (.head _), hc, hd⟩
  cases hv : x.cps[i]? with
  | none =>
    refine wpAny_pyNext_ascii_end hh hit hv fun h₁ he₁ => wpAny_execs_nil ?_
    have hlen : i = x.cps.size := Nat.le_antisymm hi (by simpa using hv)
    subst hlen
    have S₂ := S'.sub (List.sublist_cons_self _ _)
    have hne : ∀ p ∈ l, p.1 ≠ I := fun p hp e => by
      have := S'.nodup
      simp only [List.map_cons, List.nodup_cons] at this
      exact this.1 (e ▸ List.mem_map_of_mem (f := (·.1)) hp)
    have cI := S'.cells (I, o) (.head _)
    obtain ⟨hh', t', e'⟩ := S₂.same
    refine done m l _ hJ ⟨S₂.ns.extBut he₁ (fun z => cI.2.1 z.symm), fun b ob nb q => he₁ b ob (fun z => ?_) (S₂.keep b ob nb q), S₂.newL, S₂.above, fun p hp => ⟨he₁ _ _ (hne p hp) (S₂.cells p hp).1, (S₂.cells p hp).2⟩, S₂.nodup, h₁, s'.toks, by rw [e']⟩
    subst z
    rcases cI.2.2 with z | z
    · simp only at z; rw [q] at z; cases z
    · exact nb z
  | some c =>
    have hlt : i < x.cps.size := (Array.getElem?_eq_some_iff.mp hv).1
    refine wpAny_pyNext_ascii_item hit hv fun h₁ hit₁ hs₁ => ?_
    obtain ⟨o', ho', hc', hd'⟩ := hit₁
    have S₂ : St s₀ ws L m ((I, o') :: l) { s' with heap := h₁, toks := s'.toks + 1 } := S'.upd (i := 0) rfl (sameBut_grow (tk := s'.toks + 1) hs₁) ho' rfl
    refine wpAny_pure ?_
    refine wpAny_mono (turn i c _ m l _ I o' hv hJ S₂) (fun _ s₂ h₂ => wpAny_mono h₂ (fun f s₃ h₃ => ?_) fun _ _ x => x.elim) fun _ _ x => x.elim
    cases f with
    | next => obtain ⟨m', l', hJ', S₃⟩ := h₃; exact ⟨x.cps.size + 1 - (i + 1), by omega, i + 1, m', l', o', rfl, hlt, hJ', S₃, hc', hd'⟩
    | cont => obtain ⟨m', l', hJ', S₃⟩ := h₃; exact ⟨x.cps.size + 1 - (i + 1), by omega, i + 1, m', l', o', rfl, hlt, hJ', S₃, hc', hd'⟩
    | brk => exact h₃
    | ret v => exact h₃
end
def hexv (c : Nat) : Nat := if c < 58 then c - 48 else c - 87
def valF (l : List Nat) : Nat := l.foldl (fun a c => 16 * a + hexv c) 0
theorem hexv_hexd {d : Nat} (h : d < 16) : hexv (hexd d) = d := by
  unfold hexd; split <;> unfold hexv
  · rw [if_pos (by omega)]; omega
  · rw [if_neg (by omega)]; omega
theorem valF_snoc (l : List Nat) (c : Nat) : valF (l ++ [c]) = 16 * valF l + hexv c := by simp [valF]
theorem valF_figs (n : Nat) : valF (figs n) = n := by
  induction n using Nat.strongRecOn with
  | ind n ih =>
    by_cases h : n = 0
    · subst h; rw [figs_zero]; rfl
    · rw [figs_pos h, valF_snoc, ih (n / 16) (by omega), hexv_hexd (by omega)]; omega
theorem figs_hex (n : Nat) : ∀ c ∈ figs n, ∃ d, d < 16 ∧ c = hexd d := by
  induction n using Nat.strongRecOn with
  | ind n ih =>
    by_cases h : n = 0
    · subst h; rw [figs_zero]; simp
    · rw [figs_pos h]
      intro c hc
      rcases List.mem_append.mp hc with hc | hc
      · exact ih (n / 16) (by omega) c hc
      · exact ⟨n % 16, by omega, List.mem_singleton.mp hc⟩
theorem figs_inj {a b : Nat} (h : figs a = figs b) : a = b := by rw [← valF_figs a, ← valF_figs b, h]
theorem hex_find {d : Nat} (h : d < 16) : Txt.find (Str.ofString "0123456789abcdef") (tx [hexd d]) = (d : Int) := by
  have : ∀ d : Fin 16, Txt.find (Str.ofString "0123456789abcdef") (tx [hexd d.val]) = ((d.val : Nat) : Int) := by decide +kernel
  exact this ⟨d, h⟩
theorem valF_take (n : Nat) (i : Nat) : valF ((figs n).take i) ≤ n := by
  induction n using Nat.strongRecOn generalizing i with
  | ind n ih =>
    by_cases h : n = 0
    · subst h; rw [figs_zero]; simp [valF]
    · by_cases hi : i < (figs n).length
      · rw [figs_pos h] at hi ⊢
        rw [List.take_append_of_le_length (by simp at hi; omega)]
        have := ih (n / 16) (by omega) i
        omega
      · rw [List.take_of_length_le (by omega), valF_figs]; omega
def partT (ts : List (List Nat)) (n : Nat) : List Nat := if n < 256 then lf n else ts.getD (n - 256) []
end Mine
end

section
open PySem PySem.W PyProof.Rows
set_option maxRecDepth 100000
set_option maxHeartbeats 1000000
namespace Mine
section
variable {prog : Program} {w : World} {A : Around} {E : Value → Shared → Prop} {s : Shared} {Q : Value → Shared → Prop}
theorem part_call {k : Nat} {xA : Addr} {nx : Nat} {xv : List Value} {ts : List (List Nat)} {fg : List Nat} {n : Nat} {t : Tok} (G : Gl (KK w) s.heap) (hA : Ok k A) (hk : k ≤ 400)
    (hx : s.heap.get? xA = some (listOf xv.toArray nx)) (hxv : StrsAre xv (ts.map tx)) (hfo : okName fg) (hf : low fg = figs n) (hn : n < 256 + ts.length) (hl : ts.length ≤ 100)
    (h : ∀ t s', Grow [] s s' → Q (.str (tx (partT ts n)) t) s') : wpAny (model prog w) A (call (.ref 237) [.ref xA, .str (tx fg) t]) Q E s := by
  refine wpAny_call (enter (K := KK w) (l := []) (ws := []) (binds := [(Str.ofString "texts", .ref xA), (Str.ofString "figures", .str (tx fg) t)]) G hA (by exact rfl) (by exact rfl) (BindsTo.of_eq (by kernel_rfl)) (locs (by kernel_rfl)) (by intro p hp; cases hp) List.nodup_nil ?_ (by omega))
  intro L s' S
  have hhd : (A.deeper (envOf (Str.ofString "_law_part") default L 237 .none)).handled = none := hA.handled
  refine r_let ?_
  refine r_int S fun t1 s' S => ?_
  refine ⟨_, _, _, _, S, fun s' S => ?_⟩
  refine r_stmt ?_
  refine wpAny_For ?_
  refine MethodCall_ ?_
  refine r_local S rfl ?_
  refine GM.lower ?_
  refine callWith_method0 ?_
  refine SCL.lower hfo.short fun _ => ?_
  rw [lower_tx hfo, hf]
  have S := S.tok (tk := s'.toks + 1)
  refine r_forStr (fun i m l => l = [] ∧ m (Str.ofString "texts") = some (.ref xA) ∧ ∃ t, m (Str.ofString "number") = some (.int ((valF ((figs n).take i) : Nat) : Int) t)) hhd S ?_ ⟨rfl, rfl, t1, rfl⟩ ?_ ?_
  · rw [Array.all_eq_true_iff_forall_mem]
    intro c hc
    simpa using figs_ascii n c (by simpa [tx] using hc)
  · rintro i c tk m l s' I o hc ⟨rfl, hm1, tn, hm2⟩ S
    have hc' : (figs n)[i]? = some c := by simpa [tx] using hc
    obtain ⟨d, hd, rfl⟩ := figs_hex n c (List.mem_of_getElem? hc')
    have htk : (figs n).take (i + 1) = (figs n).take i ++ [hexd d] := by simp [List.take_add_one, hc']
    have hb := valF_take n i
    refine wpAny_assign_Name ?_
    refine r_store S (fun s' S => ?_)
    refine r_let ?_
    refine wpAny_BinOp ?_
    refine wpAny_BinOp ?_
    refine r_int S fun t2 s' S => ?_
    refine r_local S hm2 ?_
    refine mul_int ?_ ?_
    · have S := S.tok (tk := s'.toks + 1)
      refine MethodCall_ ?_
      refine r_str S fun t3 s' S => ?_
      refine GM.index ?_
      refine callWith_method1 ?_
      refine spliced_more ?_
      refine r_local S rfl ?_
      refine spliced_none ?_
      refine index_or hhd (fun e _ => ?_) fun _ _ => ?_
      · rw [show (⟨#[hexd d]⟩ : Str) = tx [hexd d] from rfl, hex_find hd] at e; omega
      · rw [show (⟨#[hexd d]⟩ : Str) = tx [hexd d] from rfl, hex_find hd]
        refine r_add S.tok fun t4 s' S => ?_
        refine ⟨_, _, _, _, S, fun s' S => ?_⟩
        refine wpAny_execs_nil ?_
        refine ⟨_, _, ?_, S⟩
        refine ⟨rfl, hm1, t4, ?_⟩
        rw [htk, valF_snoc, hexv_hexd hd]
        rfl
    · exact PySem.IntMulOk.of_left (by decide)
  · rintro m l s' ⟨rfl, hm1, tn, hm2⟩ S
    have e : (figs n).take (tx (figs n)).cps.size = figs n := by simp [tx]
    rw [e, valF_figs] at hm2
    refine r_stmt ?_
    refine wpAny_If ?_
    refine wpAny_isTrue_value ?_
    refine r_call (f := 185) (K := KK w) (fun Q hq => r_glob (K := KK w) (S.gl0 G) (by exact rfl) hq) (S.gl0 G) (by exact rfl) ?_
    refine spliced_more ?_
    refine r_local S hm2 ?_
    refine spliced_none ?_
    refine ⟨S.gl0 G, ?_⟩
    refine isterm_call (S.gl0 G) (hA.deeper _) (by omega) fun s' G' => ?_
    have S := S.calls G'
    refine wpAny_truthy_bool ?_
    by_cases hs : n < 256
    · rw [if_pos (by simp; omega)]
      have hlf := lf_ok (n := n) (b := 12) (by omega) (Nat.le_refl _)
      have ep : partT ts n = lf n := by unfold partT; rw [if_pos hs]
      refine r_ret ?_
      refine wpAny_BinOp ?_
      refine wpAny_BinOp ?_
      refine r_str S fun t4 s' S => ?_
      refine r_callT (T := "str") (fun Q hq => r_blt (K := KK w) (S.gl0 G) (by exact rfl) bb_str (by decide) hq) ?_
      refine spliced_more ?_
      refine r_local S hm2 ?_
      refine spliced_none ?_
      refine r_strOf (n := n) S (by omega) fun t5 s' S => ?_
      rw [o_3]
      have hdl : (dec n).length ≤ 12 := by have := hlf.1; simp [lf] at this; omega
      refine r_cat S (by rw [tx_length, tx_length, sizeLine_eq]; simp; omega) fun t6 s' S => ?_
      rw [tx_append]
      refine r_str S fun t7 s' S => ?_
      rw [o_4]
      refine r_cat S (by rw [tx_length, tx_length, sizeLine_eq]; simp; omega) fun t8 s' S => ?_
      rw [tx_append]
      have e2 : [91] ++ dec n ++ [93] = partT ts n := by rw [ep]; simp [lf]
      rw [e2]
      exact h _ _ S.grow
    · rw [if_neg (by simp; omega)]
      have hlt : n - 256 < ts.length := by omega
      have ep : partT ts n = ts[n - 256] := by unfold partT; rw [if_neg hs, List.getD_eq_getElem?_getD, List.getElem?_eq_getElem hlt]; rfl
      obtain ⟨tq, hq⟩ : ∃ t, xv[n - 256]? = some (.str (tx (partT ts n)) t) := by
        obtain ⟨v, hv2, t, rfl⟩ := (both_strs hxv).getR (List.getElem?_eq_getElem (by simpa using hlt))
        exact ⟨t, by rw [hv2, List.getElem_map, ep]⟩
      refine wpAny_execs_nil ?_
      refine r_ret ?_
      refine Subscript_ ?_
      refine r_local S hm1 ?_
      refine wpAny_BinOp ?_
      refine r_local S hm2 ?_
      refine r_int S fun t5 s' S => ?_
      refine r_sub S fun t6 s' S => ?_
      have e3 : (n : Int) - 256 = ((n - 256 : Nat) : Int) := by omega
      rw [e3]
      refine r_item ⟨_, S.keep _ _ List.not_mem_nil hx, rfl, nx, rfl⟩ (by omega) (by omega) (x := .str (tx (partT ts n)) tq) (by simpa using hq) ?_
      exact h _ _ S.grow
end
end Mine
end

section
open PySem PySem.W PyProof.Rows
set_option maxRecDepth 100000
set_option maxHeartbeats 1000000
namespace Mine
def keyS : Value → Option Str
  | .str x _ => some x
  | _ => none
theorem isStr_keyS (v : Value) (x : Str) : v.isStr x = (keyS v == some x) := by
  cases v <;> rfl
/-- the keys of EXACT_TOKEN_TYPES -/
def toks : List (List Nat) := [[33], [33, 61], [37], [37, 61], [38], [38, 61], [40], [41], [42], [42, 42], [42, 42, 61], [42, 61], [43], [43, 61], [44], [45], [45, 61], [45, 62], [46], [46, 46, 46], [47], [47, 47], [47, 47, 61], [47, 61], [58], [58, 61], [59], [60], [60, 60], [60, 60, 61], [60, 61], [61], [61, 61], [62], [62, 61], [62, 62], [62, 62, 61], [64], [64, 61], [91], [93], [94], [94, 61], [123], [124], [124, 61], [125], [126]]
theorem tok_keys (w : World) : ∃ es n, (KK w).lookup 176 = some ⟨.type "dict", none, .dict es n, #[]⟩ ∧ KeysLit w.params es.toList ∧ es.toList.map (fun e => keyS e.key) = (toks.map fun k => some (tx k)) ∧ es.toList.any (·.refKey) = false := ⟨_, _, rfl, by k_keys, rfl, rfl⟩
def isKey (x : List Nat) : Bool := toks.any (· == x)
theorem find_isStr (es : List DictEntry) (ks : List (List Nat)) (x : List Nat) (h : es.map (fun e => keyS e.key) = ks.map fun k => some (tx k)) : (es.find? fun e => e.key.isStr (tx x)).isSome = ks.any (· == x) := by
  induction es generalizing ks with
  | nil => cases ks with
    | nil => rfl
    | cons k r => simp at h
  | cons e es ih => cases ks with
    | nil => simp at h
    | cons k r =>
      simp only [List.map_cons, List.cons.injEq] at h
      have hk : e.key.isStr (tx x) = (k == x) := by
        rw [isStr_keyS, h.1, Bool.eq_iff_iff, beq_iff_eq, beq_iff_eq]
        constructor
        · intro q; exact tx_inj (Option.some.inj q)
        · intro q; rw [q]
      rw [List.find?_cons, List.any_cons, hk]
      cases (k == x) with
      | true => rfl
      | false => rw [Bool.false_or]; exact ih r h.2
theorem tok_ns (w : World) (x : List Nat) : ∃ r, nsIn (KK w) 176 (tx x) = some r ∧ r.isSome = isKey x := by
  obtain ⟨es, n, h1, h2, h3, h4⟩ := tok_keys w
  have hf := find_isStr es.toList toks x h3
  unfold nsIn
  rw [h1]
  dsimp only
  rw [h4]
  cases q : es.toList.find? fun e => e.key.isStr (tx x) with
  | none => rw [q] at hf; exact ⟨none, rfl, hf⟩
  | some e => rw [q] at hf; exact ⟨some e.val, rfl, hf⟩
theorem sl_ss (x : List Nat) {i j : Nat} (h : i ≤ j) (hj : j ≤ x.length) : Txt.slice (tx x) (some (i : Int)) (some (j : Int)) = tx ((x.drop i).take (j - i)) := by
  have := slice_closes (x := tx x) (i := i) (j := j) ⟨by omega, by omega, by simpa [tx] using hj⟩
  rw [beq_iff_eq] at this
  rw [this]
  simp only [tx, Int.toNat_natCast]
  congr 3
  omega
theorem sl_ns (x : List Nat) {j : Nat} (hj : j ≤ x.length) : Txt.slice (tx x) none (some (j : Int)) = tx (x.take j) := by
  have := slice_closes_to (x := tx x) (j := j) ⟨by omega, by simpa [tx] using hj⟩
  rw [beq_iff_eq] at this
  rw [this]
  simp [tx]
theorem sl_sn (x : List Nat) {i : Nat} (hi : i ≤ x.length) : Txt.slice (tx x) (some (i : Int)) none = tx (x.drop i) := by
  have := slice_closes_from (x := tx x) (i := i) ⟨by omega, by simpa [tx] using hi⟩
  rw [beq_iff_eq] at this
  rw [this]
  have e : ((tx x).cps.toList.length : Int) - i = ((x.length - i : Nat) : Int) := by simp [tx]; omega
  rw [e]
  simp only [tx, Int.toNat_natCast]
  congr 1
  rw [List.take_of_length_le (Nat.le_of_eq (List.length_drop ..))]
theorem it_tx (x : List Nat) {i c : Nat} (h : x[i]? = some c) : Txt.item (tx x) (i : Int) = tx [c] := by
  have hlt : i < x.length := (List.getElem?_eq_some_iff.mp h).1
  have := item_closes (x := tx x) (i := i) ⟨by omega, by rw [tx_length]; omega⟩
  rw [beq_iff_eq] at this
  rw [this]
  simp [tx, h]
section
variable {prog : Program} {w : World} {A : Around} {E : Value → Shared → Prop} {s : Shared} {Q : Value → Shared → Prop}
variable {s₀ : Shared} {ws : List Addr} {L : Addr} {m : Str → Option Value} {l : List (Addr × Obj)}
theorem tok_in {x : List Nat} {t : Tok} (S : St s₀ ws L m l s) (G : Gl (KK w) s.heap) (h : ∀ s', St s₀ ws L m l s' → Q (.bool (isKey x)) s') : wpAny (model prog w) A (compareOp .In (.str (tx x) t) (.ref 176)) Q E s := by
  obtain ⟨r, e, hr⟩ := tok_ns w x
  obtain ⟨es, n, h1, h2, _, _⟩ := tok_keys w
  refine wpAny_in_of (strKind_is prog w (tx x) t) (by decide) (mapOf_K (prog := prog) G.X h1 h2) ?_
  rw [find_K h1 e, hr]
  exact h _ S.tok
theorem tok_notin {x : List Nat} {t : Tok} (S : St s₀ ws L m l s) (G : Gl (KK w) s.heap) (h : ∀ s', St s₀ ws L m l s' → Q (.bool (!(isKey x))) s') : wpAny (model prog w) A (compareOp .NotIn (.str (tx x) t) (.ref 176)) Q E s := by
  obtain ⟨r, e, hr⟩ := tok_ns w x
  obtain ⟨es, n, h1, h2, _, _⟩ := tok_keys w
  refine wpAny_notIn_of (strKind_is prog w (tx x) t) (by decide) (mapOf_K (prog := prog) G.X h1 h2) ?_
  rw [find_K h1 e, hr]
  exact h _ S.tok
end
def hexcs : List Nat := [48, 49, 50, 51, 52, 53, 54, 55, 56, 57, 97, 98, 99, 100, 101, 102, 65, 66, 67, 68, 69, 70]
theorem k_hex : ∀ c ∈ hexcs, isKey [c] = false := by decide +kernel
theorem k_sg : ∀ sg ∈ sgns, isKey (sg.take 1) = true := by decide +kernel
theorem k_two : ∀ sg ∈ sgns, ∀ c ∈ hexcs, isKey ((sg ++ [c]).take 2) = (sg.length == 2) := by decide +kernel
theorem hex_ok : ∀ c ∈ hexcs, good c = true := by decide +kernel
theorem sg_len : ∀ sg ∈ sgns, sg.length = 1 ∨ sg.length = 2 := by decide
/-- a word: figures, a sign, figures -/
structure Word (nm : List Nat) (a : Nat) (sg : List Nat) (b : Nat) (wa wb : List Nat) : Prop where
  eq : nm = wa ++ sg ++ wb
  la : low wa = figs a
  lb : low wb = figs b
  ha : ∀ c ∈ wa, c ∈ hexcs
  hb : ∀ c ∈ wb, c ∈ hexcs
  na : wa.length ≤ 90
  nb : wb.length ≤ 90
  ne : wb ≠ []
  sg : sg ∈ sgns
theorem hexd_mem {d : Nat} (h : d < 16) : hexd d ∈ hexcs ∧ up1 (hexd d) ∈ hexcs ∧ lo1 (hexd d) = hexd d ∧ lo1 (up1 (hexd d)) = hexd d := by
  have : ∀ d : Fin 16, hexd d.val ∈ hexcs ∧ up1 (hexd d.val) ∈ hexcs ∧ lo1 (hexd d.val) = hexd d.val ∧ lo1 (up1 (hexd d.val)) = hexd d.val := by decide +kernel
  exact this ⟨d, h⟩
theorem sg_case : ∀ sg ∈ sgns, sg.map up1 = sg ∧ low sg = sg := by decide +kernel
theorem map_id_on {f : Nat → Nat} {l : List Nat} (h : ∀ c ∈ l, f c = c) : l.map f = l := by
  conv => rhs; rw [← List.map_id l]
  exact List.map_congr_left h
theorem low_figs (n : Nat) : low (figs n) = figs n := map_id_on fun c hc => by
  obtain ⟨d, hd, rfl⟩ := figs_hex n c hc
  exact (hexd_mem hd).2.2.1
theorem low_up_figs (n : Nat) : low ((figs n).map up1) = figs n := by
  unfold low
  rw [List.map_map]
  refine map_id_on fun c hc => ?_
  obtain ⟨d, hd, rfl⟩ := figs_hex n c hc
  exact (hexd_mem hd).2.2.2
theorem figs_ne {n : Nat} (h : 0 < n) : figs n ≠ [] := by rw [figs_pos (by omega)]; simp
theorem low_named {a b : Nat} {sg : List Nat} (g : Bool) (hs : sg ∈ sgns) : low (named a sg b g) = figs a ++ sg ++ figs b := by
  obtain ⟨e1, e2⟩ := sg_case sg hs
  unfold named
  cases g
  · rw [if_neg (by decide)]
    show (figs a ++ sg ++ figs b).map lo1 = _
    rw [List.map_append, List.map_append]
    show low _ ++ low _ ++ low _ = _
    rw [low_figs, low_figs, e2]
  · rw [if_pos rfl, List.map_append, List.map_append, e1]
    show List.map lo1 _ = _
    rw [List.map_append, List.map_append]
    show low _ ++ low _ ++ low _ = _
    rw [low_up_figs, low_up_figs, e2]
theorem word_named {a b : Nat} {sg : List Nat} (g : Bool) (hs : sg ∈ sgns) (ha : a < 4096) (hb : b < 4096) (hb0 : 0 < b) : ∃ wa wb, Word (named a sg b g) a sg b wa wb := by
  have la := figs_len (k := 3) (n := a) (by omega)
  have lb := figs_len (k := 3) (n := b) (by omega)
  obtain ⟨e1, e2⟩ := sg_case sg hs
  unfold named
  cases g
  · exact ⟨figs a, figs b, by rw [if_neg (by decide)], low_figs a, low_figs b, fun c hc => by obtain ⟨d, hd, rfl⟩ := figs_hex a c hc; exact (hexd_mem hd).1, fun c hc => by obtain ⟨d, hd, rfl⟩ := figs_hex b c hc; exact (hexd_mem hd).1, by omega, by omega, figs_ne hb0, hs⟩
  · refine ⟨(figs a).map up1, (figs b).map up1, by rw [if_pos rfl, List.map_append, List.map_append, e1], low_up_figs a, low_up_figs b, fun c hc => ?_, fun c hc => ?_, by simp; omega, by simp; omega, by simp [figs_ne hb0], hs⟩
    · obtain ⟨c', hc', rfl⟩ := List.mem_map.mp hc; obtain ⟨d, hd, rfl⟩ := figs_hex a c' hc'; exact (hexd_mem hd).2.1
    · obtain ⟨c', hc', rfl⟩ := List.mem_map.mp hc; obtain ⟨d, hd, rfl⟩ := figs_hex b c' hc'; exact (hexd_mem hd).2.1
/-- what the words unfold to -/
def unf (us : List (Nat × List Nat × Nat)) : List (List Nat) := us.foldl (fun ts u => ts ++ [joined (partT ts u.1) u.2.1 (partT ts u.2.2)]) []
theorem unf_snoc (us : List (Nat × List Nat × Nat)) (u : Nat × List Nat × Nat) : unf (us ++ [u]) = unf us ++ [joined (partT (unf us) u.1) u.2.1 (partT (unf us) u.2.2)] := by simp [unf]
theorem unf_len (us : List (Nat × List Nat × Nat)) : (unf us).length = us.length := by
  refine rev_ind (P := fun us => (unf us).length = us.length) rfl (fun l a ih => ?_) us
  rw [unf_snoc]; simp [ih]
theorem unf_pre (us vs : List (Nat × List Nat × Nat)) : ∀ t ∈ unf us, t ∈ unf (us ++ vs) := by
  refine rev_ind (P := fun vs => ∀ t ∈ unf us, t ∈ unf (us ++ vs)) (fun t ht => by simpa using ht) (fun l a ih t ht => ?_) vs
  rw [← List.append_assoc, unf_snoc]
  exact List.mem_append_left _ (ih t ht)
end Mine
end

section
open PySem PySem.W PyProof.Rows
set_option maxRecDepth 100000
set_option maxHeartbeats 1000000
namespace Mine
section
variable {prog : Program} {w : World} {A : Around} {E : Value → Shared → Prop} {s : Shared} {Q : Value → Shared → Prop}
variable {s₀ : Shared} {ws : List Addr} {L : Addr} {m : Str → Option Value} {l : List (Addr × Obj)}
theorem okName_hex {x : List Nat} (h : ∀ c ∈ x, c ∈ hexcs) (hl : x.length ≤ 90) : okName x := ⟨by omega, fun c hc => hex_ok c (h c hc)⟩
theorem unfolded_call {k : Nat} {pA : Addr} {np : Nat} {pv : List Value} {ps : List (List Nat × List Nat)} {us : List (Nat × List Nat × Nat)} {tlP : List (Addr × Obj)} (G : Gl (KK w) s.heap) (hA : Ok k A) (hk : k ≤ 300)
    (hpA : s.heap.get? pA = some (listOf pv.toArray np)) (hP : Both (PairIn tlP) pv ps) (htl : ∀ p ∈ tlP, s.heap.get? p.1 = some p.2) (hU : Both (fun p u => ∃ wa wb, Word p.1 u.1 u.2.1 u.2.2 wa wb) ps us)
    (hn : ∀ i u, us[i]? = some u → u.1 < 256 + i ∧ u.2.2 < 256 + i) (hlen : us.length ≤ 100) (hB : ∀ t ∈ unf us, t.length ≤ 2000000)
    (h : ∀ xA xv nx s', Grow [] s s' → s.heap.get? xA = none → s'.heap.get? xA = some (listOf (List.toArray xv) nx) → StrsAre xv ((unf us).map tx) → Q (.ref xA) s') :
    wpAny (model prog w) A (call (.ref 244) [.ref pA]) Q E s := by
  refine wpAny_call (enter (K := KK w) (l := []) (ws := []) (binds := [(Str.ofString "pairs", .ref pA)]) G hA (by exact rfl) (by exact rfl) (BindsTo.of_eq (by kernel_rfl)) (locs (by kernel_rfl)) (by intro p hp; cases hp) List.nodup_nil ?_ (by omega))
  intro L s' S
  have hhd : (A.deeper (envOf (Str.ofString "_law_unfolded") default L 244 .none)).handled = none := hA.handled
  refine r_let ?_
  refine List_ ?_
  refine spliced_none ?_
  refine r_newList S (Nat.le_of_ble_eq_true rfl) fun xA s' S _ => ?_
  refine ⟨_, _, _, _, S, fun s' S => ?_⟩
  refine r_stmt ?_
  refine wpAny_For ?_
  refine r_local S rfl ?_
  refine r_for (items := pv) (fun i m l => ∃ xv nx, l = [(xA, listOf (List.toArray xv) nx)] ∧ m (Str.ofString "texts") = some (.ref xA) ∧ StrsAre xv ((unf (us.take i)).map tx)) hhd S ?_ ?_ ?_ ?_ ?_
  · rintro i m l s' _ S
    exact ⟨_, S.keep _ _ List.not_mem_nil hpA, rfl, np, rfl⟩
  · exact ⟨_, 0, rfl, rfl, .nil⟩
  · refine .inr ⟨⟨_, _, _, rfl⟩, fun v hv => ?_⟩
    obtain ⟨p, a, n, t, u, e, _⟩ := hP.mem hv
    exact ⟨a, e⟩
  · rintro i v m l s' I oI hv ⟨xv, nx, rfl, hm1, hxv⟩ S
    obtain ⟨p, hp, a, n, tw, tv, rfl, hmem⟩ := hP.get hv
    obtain ⟨u, hu, wa, wb, W⟩ := hU.get hp
    have hi : i < us.length := (List.getElem?_eq_some_iff.mp hu).1
    have htk : us.take (i + 1) = us.take i ++ [u] := by simp [List.take_add_one, hu]
    have hul := unf_len (us.take i)
    rw [List.length_take, Nat.min_eq_left (by omega)] at hul
    have hun := hn i u hu
    have hbt : (joined (partT (unf (us.take i)) u.1) u.2.1 (partT (unf (us.take i)) u.2.2)).length ≤ 2000000 := by
      refine hB _ ?_
      have := unf_pre (us.take (i + 1)) (us.drop (i + 1)) (joined (partT (unf (us.take i)) u.1) u.2.1 (partT (unf (us.take i)) u.2.2)) (by rw [htk, unf_snoc]; simp)
      rwa [List.take_append_drop] at this
    rw [joined_len] at hbt
    have hlx := Strs_len hxv
    rw [htk, unf_snoc]
    generalize hts : unf (us.take i) = ts at hxv hul hbt hlx ⊢
    obtain ⟨sg1, sg2⟩ := sgns_good _ W.sg
    have hsl := sg_len _ W.sg
    have hna := W.na
    have hnb := W.nb
    have hnb0 : 0 < wb.length := List.length_pos_iff.mpr W.ne
    have hwl : p.1.length = wa.length + u.2.1.length + wb.length := by rw [W.eq]; simp; omega
    refine r_unpack2 hhd S (S.keep _ _ List.not_mem_nil (htl _ hmem)) fun s' S => ?_
    refine r_let ?_
    refine r_int S fun t0 s' S => ?_
    refine ⟨_, _, _, _, S, fun s' S => ?_⟩
    refine r_stmt ?_
    refine r_while (fun j s' => ∃ (pl : Nat) (t : Tok) (m : Str → Option Value), St s [] L m [(I, oI), (xA, listOf (List.toArray xv) nx)] s' ∧ m (Str.ofString "place") = some (.int (pl : Nat) t) ∧ m (Str.ofString "word") = some (.str (tx p.1) tw) ∧ m (Str.ofString "texts") = some (.ref xA) ∧ pl ≤ wa.length ∧ j = wa.length - pl) wa.length ⟨0, t0, _, S, rfl, rfl, hm1, Nat.zero_le _, rfl⟩ ?_
    clear S
    rintro j s' ⟨pl, tp, m, S, hm2, hm3, hm1, hpl, rfl⟩
    refine wpAny_isTrue_Compare1 ?_
    refine Subscript_ ?_
    refine r_local S hm3 ?_
    refine r_local S hm2 ?_
    have hlt : pl < p.1.length := by omega
    refine item_str (by unfold fitsSsize; simp; omega) (by rw [tx_length]; omega) (by rw [tx_length]; omega) fun _ => ?_
    have S := S.tok (tk := s'.toks + 1)
    rw [it_tx p.1 (List.getElem?_eq_getElem hlt)]
    refine r_glob (K := KK w) (S.gl0 G) (by exact rfl) ?_
    refine tok_notin S (S.gl0 G) fun s' S => ?_
    refine wpAny_truthy_bool ?_
    by_cases hpe : pl < wa.length
    · have ec : p.1[pl] ∈ hexcs := by
        have : p.1[pl]? = some wa[pl] := by rw [W.eq, List.append_assoc, List.getElem?_append_left hpe, List.getElem?_eq_getElem hpe]
        rw [List.getElem?_eq_getElem hlt] at this
        rw [Option.some.inj this]
        exact W.ha _ (List.getElem_mem hpe)
      rw [k_hex _ ec, if_pos (by rfl)]
      refine r_let ?_
      refine wpAny_BinOp ?_
      refine r_local S hm2 ?_
      refine r_int S fun t1 s' S => ?_
      refine r_add S fun t2 s' S => ?_
      refine ⟨_, _, _, _, S, fun s' S => ?_⟩
      refine wpAny_execs_nil ?_
      exact ⟨wa.length - (pl + 1), by omega, pl + 1, t2, _, S, rfl, hm3, hm1, by omega, rfl⟩
    · have hpe : pl = wa.length := by omega
      subst hpe
      have ed : p.1.drop wa.length = u.2.1 ++ wb := by rw [W.eq, List.append_assoc, List.drop_left]
      have ec : isKey [p.1[wa.length]] = true := by
        have := k_sg _ W.sg
        have e : [p.1[wa.length]] = u.2.1.take 1 := by
          have e2 : (p.1.drop wa.length).take 1 = [p.1[wa.length]] := by
            rw [List.drop_eq_getElem_cons hlt]; rfl
          rw [← e2, ed, List.take_append_of_le_length (by omega)]
        rw [e]; exact this
      rw [ec, if_neg (by decide)]
      have etk : p.1.take wa.length = wa := by rw [W.eq, List.append_assoc, List.take_left]
      have e2 : isKey ((p.1.drop wa.length).take 2) = (u.2.1.length == 2) := by
        rw [ed]
        cases hwb : wb with
        | nil => exact absurd hwb W.ne
        | cons c r =>
          have := k_two _ W.sg c (W.hb c (by rw [hwb]; exact .head _))
          rw [← this]
          congr 1
          rw [show u.2.1 ++ c :: r = (u.2.1 ++ [c]) ++ r from by simp, List.take_append_of_le_length (by simp; omega)]
      refine r_let ?_
      refine r_mid S (fun v => ∃ t, v = .int ((wa.length + u.2.1.length : Nat) : Int) t) ?_ ?_
      · refine IfExp_ ?_
        refine wpAny_isTrue_Compare1 ?_
        refine Subscript_ ?_
        refine r_local S hm3 ?_
        refine wpAny_Slice ?_
        refine evalPart_some_step ?_
        refine r_local S hm2 ?_
        refine evalPart_some_step ?_
        refine wpAny_BinOp ?_
        refine r_local S hm2 ?_
        refine r_int S fun t1 s' S => ?_
        refine r_add S fun t2 s' S => ?_
        refine evalPart_none_step ?_
        refine slice_strN_ss S.fr S.news (fun h' t' kk F' N' => ?_) (hsz := by rw [tx_length, sizeLine_eq]; omega)
        have S := S.of_fr (tk := kk) F' N' S.nodup
        rw [show (wa.length : Int) + 2 = ((wa.length + 2 : Nat) : Int) from by omega, sl_ss p.1 (by omega) (by omega), Nat.add_sub_cancel_left]
        refine r_glob (K := KK w) (S.gl0 G) (by exact rfl) ?_
        refine tok_in S (S.gl0 G) fun s' S => ?_
        refine wpAny_truthy_bool ?_
        rw [e2]
        rcases hsl with hs1 | hs1
        · rw [hs1, if_neg (by decide)]
          refine wpAny_BinOp ?_
          refine r_local S hm2 ?_
          refine r_int S fun t1 s' S => ?_
          refine r_add S fun t2 s' S => ?_
          exact ⟨⟨t2, rfl⟩, S⟩
        · rw [hs1, if_pos (by decide)]
          refine wpAny_BinOp ?_
          refine r_local S hm2 ?_
          refine r_int S fun t1 s' S => ?_
          refine r_add S fun t2 s' S => ?_
          exact ⟨⟨t2, rfl⟩, S⟩
      rintro v s' ⟨tb, rfl⟩ S
      refine ⟨_, _, _, _, S, fun s' S => ?_⟩
      have hwo := okName_hex W.ha hna
      have hbo := okName_hex W.hb hnb
      refine r_let ?_
      refine r_call (f := 237) (K := KK w) (fun Q hq => r_glob (K := KK w) (S.gl0 G) (by exact rfl) hq) (S.gl0 G) (by exact rfl) ?_
      refine spliced_more ?_
      refine r_local S hm1 ?_
      refine spliced_more ?_
      refine Subscript_ ?_
      refine r_local S hm3 ?_
      refine wpAny_Slice ?_
      refine evalPart_none_step ?_
      refine evalPart_some_step ?_
      refine r_local S hm2 ?_
      refine evalPart_none_step ?_
      refine slice_strN_ns S.fr S.news (fun h' t' kk F' N' => ?_) (hsz := by rw [tx_length, sizeLine_eq]; omega)
      have S := S.of_fr (tk := kk) F' N' S.nodup
      rw [sl_ns p.1 (by omega), etk]
      refine spliced_none ?_
      refine ⟨S.gl0 G, ?_⟩
      refine part_call (S.gl0 G) (hA.deeper _) (by omega) (S.get (.tail _ (.head _))) hxv hwo W.la (by omega) (by omega) fun tl s' G' => ?_
      have S := S.calls G'
      refine ⟨_, _, _, _, S, fun s' S => ?_⟩
      refine r_let ?_
      refine r_call (f := 237) (K := KK w) (fun Q hq => r_glob (K := KK w) (S.gl0 G) (by exact rfl) hq) (S.gl0 G) (by exact rfl) ?_
      refine spliced_more ?_
      refine r_local S hm1 ?_
      refine spliced_more ?_
      refine Subscript_ ?_
      refine r_local S hm3 ?_
      refine wpAny_Slice ?_
      refine evalPart_some_step ?_
      refine r_local S rfl ?_
      refine evalPart_none_step ?_
      refine evalPart_none_step ?_
      refine slice_strN_sn S.fr S.news (fun h' t' kk F' N' => ?_) (hsz := by rw [tx_length, sizeLine_eq]; omega)
      have S := S.of_fr (tk := kk) F' N' S.nodup
      have edb : p.1.drop (wa.length + u.2.1.length) = wb := by rw [W.eq, ← List.length_append, List.drop_left]
      rw [sl_sn p.1 (by omega), edb]
      refine spliced_none ?_
      refine ⟨S.gl0 G, ?_⟩
      refine part_call (S.gl0 G) (hA.deeper _) (by omega) (S.get (.tail _ (.head _))) hxv hbo W.lb (by omega) (by omega) fun tr s' G' => ?_
      have S := S.calls G'
      refine ⟨_, _, _, _, S, fun s' S => ?_⟩
      refine r_stmt ?_
      refine wpAny_Expr_any ?_
      refine MethodCall_ ?_
      refine r_local S hm1 ?_
      refine r_meth S (i := 1) rfl PySem.F.slot_list_append PySem.F.type_list_append ?_
      refine callWith_method1 ?_
      refine spliced_more ?_
      refine r_call (f := 218) (K := KK w) (fun Q hq => r_glob (K := KK w) (S.gl0 G) (by exact rfl) hq) (S.gl0 G) (by exact rfl) ?_
      refine spliced_more ?_
      refine r_local S rfl ?_
      refine spliced_more ?_
      refine Subscript_ ?_
      refine r_local S hm3 ?_
      refine wpAny_Slice ?_
      refine evalPart_some_step ?_
      refine r_local S hm2 ?_
      refine evalPart_some_step ?_
      refine r_local S rfl ?_
      refine evalPart_none_step ?_
      refine slice_strN_ss S.fr S.news (fun h' t' kk F' N' => ?_) (hsz := by rw [tx_length, sizeLine_eq]; omega)
      have S := S.of_fr (tk := kk) F' N' S.nodup
      have esg : (p.1.drop wa.length).take u.2.1.length = u.2.1 := by rw [ed, List.take_left]
      rw [sl_ss p.1 (by omega) (by omega), Nat.add_sub_cancel_left, esg]
      refine spliced_more ?_
      refine r_local S rfl ?_
      refine spliced_none ?_
      refine ⟨S.gl0 G, ?_⟩
      refine joined_call (S.gl0 G) (hA.deeper _) (by omega) (by rw [sizeLine_eq]; omega) fun tj s' G' => ?_
      have S := S.calls G'
      refine spliced_none ?_
      refine r_append S (i := 1) rfl (by rw [List.size_toArray, hlx, sizeLine_eq, List.length_map]; omega) fun nx' s' S => ?_
      refine wpAny_execs_nil ?_
      rw [List.push_toArray] at S
      refine ⟨_, _, ?_, S⟩
      refine ⟨_, _, rfl, hm1, ?_⟩
      rw [List.map_append]
      exact strs_both ((both_strs hxv).append (.one ⟨_, rfl⟩))
  · rintro m l s' ⟨xv, nx, rfl, hm1, hxv⟩ S
    rw [hP.length, hU.length, List.take_length] at hxv
    refine r_ret ?_
    refine r_local S hm1 ?_
    exact h xA xv nx _ S.grow ((S.cells _ (.head _)).2.2.resolve_right List.not_mem_nil) (S.get (.head _)) hxv
end
end Mine
end

section
open PySem PyProof.Rows
set_option maxRecDepth 100000
namespace Mine
/-- the text of a tree -/
inductive Tree : List Nat → Prop
  | leaf (n : Nat) (h : n = 1 ∨ n = 10 ∨ n = 171 ∨ n = 255) : Tree (lf n)
  | node {x y sg : List Nat} : Tree x → Tree y → sg ∈ sgns → Tree (40 :: (x ++ sg ++ y ++ [41]))
theorem cut_at {c : Nat} : ∀ {l1 l2 r1 r2 : List Nat}, c ∉ l1 → c ∉ l2 → l1 ++ c :: r1 = l2 ++ c :: r2 → l1 = l2 ∧ r1 = r2
  | [], [], _, _, _, _, h => by simpa using h
  | [], d :: l2, _, _, _, h2, h => by
    simp only [List.nil_append, List.cons_append, List.cons.injEq] at h
    exact absurd (h.1 ▸ List.mem_cons_self) h2
  | d :: l1, [], _, _, h1, _, h => by
    simp only [List.nil_append, List.cons_append, List.cons.injEq] at h
    exact absurd (h.1 ▸ List.mem_cons_self) h1
  | d :: l1, e :: l2, _, _, h1, h2, h => by
    simp only [List.cons_append, List.cons.injEq] at h
    obtain ⟨q1, q2⟩ := cut_at (fun q => h1 (.tail _ q)) (fun q => h2 (.tail _ q)) h.2
    exact ⟨by rw [h.1, q1], q2⟩
theorem dec_no93 {n : Nat} (h : n = 1 ∨ n = 10 ∨ n = 171 ∨ n = 255) : 93 ∉ dec n := by
  have : ∀ n : Fin 400, 93 ∉ dec n.val := by decide +kernel
  exact this ⟨n, by omega⟩
theorem Tree.head {x : List Nat} (h : Tree x) : ∃ c r, x = c :: r ∧ (c = 91 ∨ c = 40) := by
  cases h with
  | leaf n _ => exact ⟨91, _, rfl, .inl rfl⟩
  | node _ _ _ => exact ⟨40, _, rfl, .inr rfl⟩
theorem sg_cut : ∀ s ∈ sgns, ∀ s' ∈ sgns, ∀ c ∈ [91, 40], ∀ c' ∈ [91, 40], ((s ++ [c]).isPrefixOf (s' ++ [c']) = true ∨ (s' ++ [c']).isPrefixOf (s ++ [c]) = true) → s = s' := by decide +kernel
theorem sg_split {s s' y y' : List Nat} {c c' : Nat} (hs : s ∈ sgns) (hs' : s' ∈ sgns) (hc : c = 91 ∨ c = 40) (hc' : c' = 91 ∨ c' = 40) (h : s ++ c :: y = s' ++ c' :: y') : s = s' := by
  refine sg_cut s hs s' hs' c (by simp; omega) c' (by simp; omega) ?_
  have h1 : (s ++ [c]) <+: (s ++ c :: y) := ⟨y, by simp⟩
  have h2 : (s' ++ [c']) <+: (s ++ c :: y) := ⟨y', by rw [h]; simp⟩
  rcases List.prefix_or_prefix_of_prefix h1 h2 with q | q
  · exact .inl (List.isPrefixOf_iff_prefix.mpr q)
  · exact .inr (List.isPrefixOf_iff_prefix.mpr q)
theorem Tree.cut {x : List Nat} (h : Tree x) : ∀ {x' r r' : List Nat}, Tree x' → x ++ r = x' ++ r' → x = x' ∧ r = r' := by
  induction h with
  | leaf n hn =>
    intro x' r r' h' e
    cases h' with
    | leaf n' hn' =>
      have e' : dec n ++ 93 :: r = dec n' ++ 93 :: r' := by simpa [lf] using e
      obtain ⟨q1, q2⟩ := cut_at (dec_no93 hn) (dec_no93 hn') e'
      exact ⟨by rw [lf, lf, q1], q2⟩
    | node _ _ _ => simp [lf] at e
  | @node x y sg hx hy hs ihx ihy =>
    intro x' r r' h' e
    cases h' with
    | leaf n' hn' => simp [lf] at e
    | @node x2 y2 sg2 hx2 hy2 hs2 =>
      have e' : x ++ (sg ++ (y ++ (41 :: r))) = x2 ++ (sg2 ++ (y2 ++ (41 :: r'))) := by simpa [List.append_assoc] using e
      obtain ⟨rfl, e2⟩ := ihx hx2 e'
      obtain ⟨c, ry, hyc, hc⟩ := hy.head
      obtain ⟨c2, ry2, hyc2, hc2⟩ := hy2.head
      have es : sg = sg2 := by
        rw [hyc, hyc2, List.cons_append, List.cons_append] at e2
        exact sg_split hs hs2 hc hc2 e2
      subst es
      obtain ⟨rfl, e3⟩ := ihy hy2 (List.append_cancel_left e2)
      exact ⟨rfl, by simpa using e3⟩
theorem node_inj {x y x' y' s s' : List Nat} (hx : Tree x) (hy : Tree y) (hx' : Tree x') (hy' : Tree y') (hs : s ∈ sgns) (hs' : s' ∈ sgns) (e : 40 :: (x ++ s ++ y ++ [41]) = 40 :: (x' ++ s' ++ y' ++ [41])) : x = x' ∧ s = s' ∧ y = y' := by
  have e' : x ++ (s ++ (y ++ [41])) = x' ++ (s' ++ (y' ++ [41])) := by simpa [List.append_assoc] using e
  obtain ⟨rfl, e2⟩ := hx.cut hx' e'
  obtain ⟨c, ry, hyc, hc⟩ := hy.head
  obtain ⟨c2, ry2, hyc2, hc2⟩ := hy'.head
  have es : s = s' := by
    rw [hyc, hyc2, List.cons_append, List.cons_append] at e2
    exact sg_split hs hs' hc hc2 e2
  subst es
  exact ⟨rfl, rfl, (hy.cut hy' (List.append_cancel_left e2)).1⟩
theorem joined_node {x s y : List Nat} (hx : Tree x) (hy : Tree y) (hs : s ∈ sgns) : Tree (joined x s y) ∧ ∃ r, joined x s y = 40 :: r := by
  unfold joined
  split
  · exact ⟨.node hy hx hs, _, rfl⟩
  · exact ⟨.node hx hy hs, _, rfl⟩
theorem joined_inj {x y x' y' s s' : List Nat} (hx : Tree x) (hy : Tree y) (hx' : Tree x') (hy' : Tree y') (hs : s ∈ sgns) (hs' : s' ∈ sgns) (e : joined x s y = joined x' s' y') : s = s' ∧ ((x = x' ∧ y = y') ∨ (comm s = true ∧ x = y' ∧ y = x')) := by
  unfold joined at e
  split at e <;> split at e <;> rename_i h1 h2
  · obtain ⟨a, b, c⟩ := node_inj hy hx hy' hx' hs hs' e; exact ⟨b, .inl ⟨c, a⟩⟩
  · obtain ⟨a, b, c⟩ := node_inj hy hx hx' hy' hs hs' e; exact ⟨b, .inr ⟨h1.1, c, a⟩⟩
  · obtain ⟨a, b, c⟩ := node_inj hx hy hy' hx' hs hs' e; exact ⟨b, .inr ⟨b ▸ h2.1, a, c⟩⟩
  · obtain ⟨a, b, c⟩ := node_inj hx hy hx' hy' hs hs' e; exact ⟨b, .inl ⟨a, c⟩⟩
theorem joined_symm {s : List Nat} (hc : comm s = true) (x y : List Nat) : joined x s y = joined y s x := by
  unfold joined
  by_cases h1 : y < x
  · have h2 : ¬ x < y := fun q => List.lt_asymm h1 q
    rw [if_pos ⟨hc, h1⟩, if_neg (fun q => h2 q.2)]
  · by_cases h2 : x < y
    · rw [if_neg (fun q => h1 q.2), if_pos ⟨hc, h2⟩]
    · have : x = y := List.le_antisymm (List.not_lt.mp h1) (List.not_lt.mp h2)
      rw [this]
/-- a number that stands for a text -/
def Val (n v : Nat) : Prop := (v = 1 ∨ v = 10 ∨ v = 171 ∨ v = 255) ∨ (256 ≤ v ∧ v < 256 + n)
theorem Val.mono {n n' v : Nat} (h : Val n v) (hn : n ≤ n') : Val n' v := by rcases h with h | h; exact .inl h; exact .inr ⟨h.1, by omega⟩
theorem Val.lt {n v : Nat} (h : Val n v) : v < 256 + n ∧ 0 < v := by rcases h with h | h <;> omega
theorem partT_app {ts r : List (List Nat)} {v : Nat} (h : Val ts.length v) : partT (ts ++ r) v = partT ts v := by
  unfold partT
  split
  · rfl
  · have := h.lt
    rw [List.getD_eq_getElem?_getD, List.getD_eq_getElem?_getD, List.getElem?_append_left (by omega)]
theorem partT_hi {ts : List (List Nat)} {v : Nat} (h : 256 ≤ v) (h2 : v < 256 + ts.length) : partT ts v = ts[v - 256] := by
  unfold partT; rw [if_neg (by omega), List.getD_eq_getElem?_getD, List.getElem?_eq_getElem (by omega)]; rfl
theorem partT_ix {ts : List (List Nat)} {i : Nat} {t : List Nat} (h : ts[i]? = some t) : partT ts (256 + i) = t := by
  unfold partT; rw [if_neg (by omega), List.getD_eq_getElem?_getD, Nat.add_sub_cancel_left, h]; rfl
theorem lf_inj {a b : Nat} (ha : a = 1 ∨ a = 10 ∨ a = 171 ∨ a = 255) (hb : b = 1 ∨ b = 10 ∨ b = 171 ∨ b = 255) (h : lf a = lf b) : a = b := by
  rcases ha with rfl | rfl | rfl | rfl <;> rcases hb with rfl | rfl | rfl | rfl <;> first | rfl | exact absurd h (by decide +kernel)
theorem nodup_inj {ts : List (List Nat)} (hn : ts.Nodup) {i j : Nat} (hi : i < ts.length) (hj : j < ts.length) (h : ts[i] = ts[j]) : i = j := by
  have hp := List.pairwise_iff_getElem.mp hn
  rcases Nat.lt_trichotomy i j with q | q | q
  · exact absurd h (hp i j hi hj q)
  · exact q
  · exact absurd h.symm (hp j i hj hi q)
theorem partT_inj {ts : List (List Nat)} (hn : ts.Nodup) (ht : ∀ t ∈ ts, ∃ r, t = 40 :: r) {a b : Nat} (ha : Val ts.length a) (hb : Val ts.length b) (h : partT ts a = partT ts b) : a = b := by
  rcases ha with ha | ha <;> rcases hb with hb | hb
  · unfold partT at h; rw [if_pos (by omega), if_pos (by omega)] at h; exact lf_inj ha hb h
  · rw [partT_hi hb.1 hb.2] at h
    obtain ⟨r, e⟩ := ht _ (List.getElem_mem (show b - 256 < ts.length by omega))
    unfold partT at h; rw [if_pos (by omega), e] at h; simp [lf] at h
  · rw [partT_hi ha.1 ha.2] at h
    obtain ⟨r, e⟩ := ht _ (List.getElem_mem (show a - 256 < ts.length by omega))
    unfold partT at h; rw [if_pos (show b < 256 by omega), e] at h; simp [lf] at h
  · rw [partT_hi ha.1 ha.2, partT_hi hb.1 hb.2] at h
    have := nodup_inj hn _ _ h
    omega
theorem partT_tree {ts : List (List Nat)} (ht : ∀ t ∈ ts, Tree t) {a : Nat} (ha : Val ts.length a) : Tree (partT ts a) := by
  rcases ha with ha | ha
  · unfold partT; rw [if_pos (by omega)]; exact .leaf a ha
  · rw [partT_hi ha.1 ha.2]; exact ht _ (List.getElem_mem _)
/-- the name's parts -/
def isHex (c : Nat) : Bool := hexcs.any (· == c)
theorem isHex_figs (n : Nat) : ∀ c ∈ figs n, isHex c = true := by
  intro c hc
  obtain ⟨d, hd, rfl⟩ := figs_hex n c hc
  have : ∀ d : Fin 16, isHex (hexd d.val) = true := by decide +kernel
  exact this ⟨d, hd⟩
theorem isHex_sg : ∀ s ∈ sgns, ∀ c ∈ s, isHex c = false := by decide +kernel
theorem sg_ne : ∀ s ∈ sgns, s ≠ [] := by decide
theorem tw1 {a b : Nat} {s : List Nat} (hs : s ∈ sgns) : (figs a ++ (s ++ figs b)).takeWhile isHex = figs a := by
  rw [List.takeWhile_append_of_pos (isHex_figs a)]
  cases hsq : s with
  | nil => exact absurd hsq (sg_ne s hs)
  | cons c r =>
    have := isHex_sg s hs c (by rw [hsq]; exact .head _)
    simp [this]
theorem tw2 {b : Nat} {s : List Nat} (hs : s ∈ sgns) : (s ++ figs b).takeWhile (fun c => !isHex c) = s := by
  rw [List.takeWhile_append_of_pos (by intro c hc; rw [isHex_sg s hs c hc]; rfl)]
  cases hf : figs b with
  | nil => simp
  | cons c r =>
    have := isHex_figs b c (by rw [hf]; exact .head _)
    simp [this]
theorem name_inj {a b a' b' : Nat} {s s' : List Nat} (hs : s ∈ sgns) (hs' : s' ∈ sgns) (h : figs a ++ s ++ figs b = figs a' ++ s' ++ figs b') : a = a' ∧ s = s' ∧ b = b' := by
  rw [List.append_assoc, List.append_assoc] at h
  have h1 := congrArg (List.takeWhile isHex) h
  rw [tw1 hs, tw1 hs'] at h1
  rw [h1] at h
  have h2 := List.append_cancel_left h
  have h3 := congrArg (List.takeWhile fun c => !isHex c) h2
  rw [tw2 hs, tw2 hs'] at h3
  rw [h3] at h2
  exact ⟨figs_inj h1, h3, figs_inj (List.append_cancel_left h2)⟩
theorem lastN_map (pl : List (List Nat × Nat)) : lastN (pl.map (·.2)) = (lastP pl).2 := by
  unfold lastN lastP
  rw [List.getLastD_eq_getLast?, List.getLastD_eq_getLast?, List.getLast?_map]
  cases pl.getLast? <;> rfl
theorem two_map (pl : List (List Nat × Nat)) : two (pl.map (·.2)) = ((twoP pl).1.2, (twoP pl).2.1.2, (twoP pl).2.2.map (·.2)) := by
  unfold two twoP
  dsimp only
  rw [← List.map_dropLast]
  by_cases h : pl.dropLast = []
  · rw [if_pos (by rw [h]; rfl), if_pos h, lastN_map]; rfl
  · rw [if_neg (fun q => h (List.map_eq_nil_iff.mp q)), if_neg h, lastN_map, lastN_map, ← List.map_dropLast]
structure LInv (k : Kept) (st : Told) (us : List (Nat × List Nat × Nat)) : Prop where
  pile : k.1 = st.2.2.map (·.2)
  pairs : k.2 = st.2.1
  names : Both (fun (q : List Nat × Nat) (u : Nat × List Nat × Nat) => ∃ g, q.1 = named u.1 u.2.1 u.2.2 g) st.2.1 us
  nums : ∀ (i : Nat) (q : List Nat × Nat), st.2.1[i]? = some q → q.2 = 256 + i
  unfs : unf us = st.1
  texts : ∀ (i : Nat) (u : Nat × List Nat × Nat), us[i]? = some u → st.1[i]? = some (joined (partT st.1 u.1) u.2.1 (partT st.1 u.2.2))
  ok : ∀ (i : Nat) (u : Nat × List Nat × Nat), us[i]? = some u → Val i u.1 ∧ Val i u.2.2 ∧ u.2.1 ∈ sgns ∧ (comm u.2.1 = true → u.1 ≤ u.2.2)
  ple : ∀ p ∈ st.2.2, Val st.1.length p.2 ∧ p.1 = partT st.1 p.2
  nodup : st.1.Nodup
  tree : ∀ t ∈ st.1, Tree t ∧ ∃ r, t = 40 :: r
  ne : st.2.2 ≠ []
theorem sides_ord (sg : List Nat) (a b : Nat) (h : comm sg = true) : (sides sg a b).1 ≤ (sides sg a b).2 := by
  unfold sides
  split
  · dsimp only; omega
  · rename_i q
    have : ¬ b < a := fun z => q ⟨h, z⟩
    dsimp only; omega
theorem joined_sides {ts : List (List Nat)} (sg : List Nat) (a b : Nat) : joined (partT ts a) sg (partT ts b) = joined (partT ts (sides sg a b).1) sg (partT ts (sides sg a b).2) := by
  unfold sides
  split
  · rename_i q; exact joined_symm q.1 _ _
  · rfl
theorem LInv.leaf {k : Kept} {st : Told} {us : List (Nat × List Nat × Nat)} (h : LInv k st us) {n : Nat} (hn : n = 1 ∨ n = 10 ∨ n = 171 ∨ n = 255) : LInv (keptStep k (.leaf n)) (toldStep st (.leaf n)) us := by
  refine ⟨?_, h.pairs, h.names, h.nums, h.unfs, h.texts, h.ok, fun p hp => ?_, h.nodup, h.tree, by simp [toldStep]⟩
  · show k.1 ++ [n] = (st.2.2 ++ [(lf n, n)]).map (·.2)
    rw [h.pile]; simp
  · rcases List.mem_append.mp hp with hp | hp
    · exact h.ple p hp
    · rw [List.mem_singleton.mp hp]
      exact ⟨.inl hn, by show lf n = partT st.1 n; unfold partT; rw [if_pos (by omega)]⟩
theorem LInv.len {k : Kept} {st : Told} {us : List (Nat × List Nat × Nat)} (h : LInv k st us) : us.length = st.1.length ∧ st.2.1.length = st.1.length := by
  have e := unf_len us
  rw [h.unfs] at e
  exact ⟨e.symm, by rw [h.names.length]; exact e.symm⟩
/-- the text of a row is the joined one: so are its parts -/
theorem LInv.same {k : Kept} {st : Told} {us : List (Nat × List Nat × Nat)} (h : LInv k st us) {i : Nat} {u : Nat × List Nat × Nat} (hu : us[i]? = some u) {a b : Nat} {sg : List Nat} (ha : Val st.1.length a) (hb : Val st.1.length b) (hs : sg ∈ sgns) (ho : comm sg = true → a ≤ b)
    (e : joined (partT st.1 u.1) u.2.1 (partT st.1 u.2.2) = joined (partT st.1 a) sg (partT st.1 b)) : u = (a, sg, b) := by
  have hi : i ≤ st.1.length := by rw [← h.len.1]; exact Nat.le_of_lt (List.getElem?_eq_some_iff.mp hu).1
  obtain ⟨v1, v2, s1, o1⟩ := h.ok i u hu
  have ht := fun t ht => (h.tree t ht).1
  have hh := fun t ht => (h.tree t ht).2
  obtain ⟨es, e | e⟩ := joined_inj (partT_tree ht (v1.mono hi)) (partT_tree ht (v2.mono hi)) (partT_tree ht ha) (partT_tree ht hb) s1 hs e
  · have e1 := partT_inj h.nodup hh (v1.mono hi) ha e.1
    have e2 := partT_inj h.nodup hh (v2.mono hi) hb e.2
    rw [← e1, ← e2, ← es]
  · have e1 := partT_inj h.nodup hh (v1.mono hi) hb e.2.1
    have e2 := partT_inj h.nodup hh (v2.mono hi) ha e.2.2
    have q1 := o1 e.1
    have q2 := ho (es ▸ e.1)
    have : a = b := by omega
    subst this
    have : u = (u.1, u.2.1, u.2.2) := rfl
    rw [this, e1, e2, es]
theorem LInv.row {k : Kept} {st : Told} {us : List (Nat × List Nat × Nat)} (h : LInv k st us) {q : List Nat × Nat} (hq : q ∈ st.2.1) {a b : Nat} {sg : List Nat} (hs : sg ∈ sgns) (e : low q.1 = figs a ++ sg ++ figs b) : ∃ i, q.2 = 256 + i ∧ st.1[i]? = some (joined (partT st.1 a) sg (partT st.1 b)) := by
  obtain ⟨i, hi⟩ := List.getElem?_of_mem hq
  obtain ⟨u, hu, g, eg⟩ := h.names.get hi
  obtain ⟨v1, v2, s1, o1⟩ := h.ok i u hu
  rw [eg, low_named g s1] at e
  obtain ⟨e1, e2, e3⟩ := name_inj s1 hs e
  have := h.texts i u hu
  rw [e1, e2, e3] at this
  exact ⟨i, h.nums i q hi, this⟩
theorem LInv.join {k : Kept} {st : Told} {us : List (Nat × List Nat × Nat)} (h : LInv k st us) {w : Nat} {g : Bool} (hw : w < 8) : ∃ us', LInv (keptStep k (.join w g)) (toldStep st (.join w g)) us' := by
  have hs := sgn_mem hw
  obtain ⟨m1, m2, m3⟩ := twoP_mem h.ne
  obtain ⟨vl, el⟩ := h.ple _ m1
  obtain ⟨vr, er⟩ := h.ple _ m2
  obtain ⟨lu, lq⟩ := h.len
  show ∃ us', LInv (keptJoin k w g) (toldJoin st w g) us'
  unfold keptJoin toldJoin
  dsimp only
  rw [h.pile, two_map, h.pairs, el, er, sidesT_eq, joined_sides]
  dsimp only
  have hva : Val st.1.length (sides (sgn w) (twoP st.2.2).1.2 (twoP st.2.2).2.1.2).1 := by rcases (sides_mem (sgn w) (twoP st.2.2).1.2 (twoP st.2.2).2.1.2).1 with e | e <;> rw [e] <;> assumption
  have hvb : Val st.1.length (sides (sgn w) (twoP st.2.2).1.2 (twoP st.2.2).2.1.2).2 := by rcases (sides_mem (sgn w) (twoP st.2.2).1.2 (twoP st.2.2).2.1.2).2 with e | e <;> rw [e] <;> assumption
  have hord := sides_ord (sgn w) (twoP st.2.2).1.2 (twoP st.2.2).2.1.2
  generalize (sides (sgn w) (twoP st.2.2).1.2 (twoP st.2.2).2.1.2).1 = a at hva hord ⊢
  generalize (sides (sgn w) (twoP st.2.2).1.2 (twoP st.2.2).2.1.2).2 = b at hvb hord ⊢
  generalize sgn w = sg at hs hord ⊢
  have htr := joined_node (partT_tree (fun t ht => (h.tree t ht).1) hva) (partT_tree (fun t ht => (h.tree t ht).1) hvb) hs
  have hrow : ∀ q, q ∈ st.2.1 → (low q.1 == low (named a sg b g)) = true → ∃ i, q.2 = 256 + i ∧ st.1[i]? = some (joined (partT st.1 a) sg (partT st.1 b)) := by
    intro q hq e
    rw [beq_iff_eq, low_named g hs] at e
    exact h.row hq hs e
  by_cases hm : joined (partT st.1 a) sg (partT st.1 b) ∈ st.1
  · rw [if_pos hm]
    have hix := List.idxOf_lt_length_iff.mpr hm
    obtain ⟨i, hi⟩ := List.getElem?_of_mem hm
    have hil : i < us.length := by rw [lu]; exact (List.getElem?_eq_some_iff.mp hi).1
    have hu := List.getElem?_eq_getElem hil
    have hte := h.texts i _ hu
    rw [hi] at hte
    have hus := h.same hu hva hvb hs hord (Option.some.inj hte).symm
    obtain ⟨q, hq, gg, eg⟩ := h.names.getR hu
    rw [hus] at eg
    have hex : (low q.1 == low (named a sg b g)) = true := by rw [beq_iff_eq, eg, low_named gg hs, low_named g hs]
    obtain ⟨q', hq'⟩ := Option.isSome_iff_exists.mp (List.find?_isSome (p := fun q : List Nat × Nat => low q.1 == low (named a sg b g)) |>.mpr ⟨q, List.mem_of_getElem? hq, hex⟩)
    obtain ⟨j, ej, hj⟩ := hrow q' (List.mem_of_find?_eq_some hq') (List.find?_some (p := fun q : List Nat × Nat => low q.1 == low (named a sg b g)) hq')
    have hjl := (List.getElem?_eq_some_iff.mp hj).1
    have eji : j = st.1.idxOf (joined (partT st.1 a) sg (partT st.1 b)) := by
      refine nodup_inj h.nodup hjl hix ?_
      rw [List.getElem_idxOf]
      rw [List.getElem?_eq_getElem hjl] at hj
      exact Option.some.inj hj
    have hqg : qget st.2.1 (named a sg b g) = some (256 + st.1.idxOf (joined (partT st.1 a) sg (partT st.1 b))) := by
      unfold qget; rw [hq', Option.map_some, ej, eji]
    rw [hqg]
    refine ⟨us, ?_, rfl, h.names, h.nums, h.unfs, h.texts, h.ok, fun p hp => ?_, h.nodup, h.tree, by simp⟩
    · simp
    · rcases List.mem_append.mp hp with hp | hp
      · exact h.ple p (m3 p hp)
      · rw [List.mem_singleton.mp hp]
        refine ⟨.inr ⟨by dsimp only; omega, by dsimp only; omega⟩, ?_⟩
        exact (partT_ix (by rw [List.getElem?_eq_getElem hix, List.getElem_idxOf])).symm
  · rw [if_neg hm]
    have hqg : qget st.2.1 (named a sg b g) = none := by
      unfold qget
      rw [Option.map_eq_none_iff, List.find?_eq_none]
      intro q hq e
      obtain ⟨i, _, hi⟩ := hrow q hq e
      exact hm (List.mem_of_getElem? hi)
    rw [hqg]
    dsimp only
    rw [lq]
    have happ : ∀ {v : Nat}, Val st.1.length v → partT (st.1 ++ [joined (partT st.1 a) sg (partT st.1 b)]) v = partT st.1 v := fun hv => partT_app hv
    refine ⟨us ++ [(a, sg, b)], ?_, rfl, ?_, fun i q hq => ?_, ?_, fun i u hu => ?_, fun i u hu => ?_, fun p hp => ?_, ?_, fun t ht => ?_, by simp⟩
    · simp
    · exact h.names.append (.one ⟨g, rfl⟩)
    · simp only [List.getElem?_append] at hq
      split at hq
      · exact h.nums i q hq
      · rename_i hlt
        have : i = st.2.1.length := by
          have := (List.getElem?_eq_some_iff.mp hq).1
          simp at this; omega
        subst this
        simp at hq
        rw [← hq, lq]
    · rw [unf_snoc, h.unfs]
    · simp only [List.getElem?_append] at hu
      split at hu
      · rename_i hlt
        obtain ⟨v1, v2, _, _⟩ := h.ok i u hu
        rw [happ (v1.mono (by omega)), happ (v2.mono (by omega)), List.getElem?_append_left (by omega)]
        exact h.texts i u hu
      · rename_i hlt
        have hie : i = us.length := by
          have := (List.getElem?_eq_some_iff.mp hu).1
          simp at this; omega
        subst hie
        simp at hu
        rw [← hu, lu]
        dsimp only
        rw [happ hva, happ hvb, List.getElem?_append_right (Nat.le_refl _)]
        simp
    · simp only [List.getElem?_append] at hu
      split at hu
      · exact h.ok i u hu
      · rename_i hlt
        have hie : i = us.length := by
          have := (List.getElem?_eq_some_iff.mp hu).1
          simp at this; omega
        subst hie
        simp at hu
        rw [← hu, lu]
        exact ⟨hva, hvb, hs, hord⟩
    · rcases List.mem_append.mp hp with hp | hp
      · obtain ⟨v, e⟩ := h.ple p (m3 p hp)
        exact ⟨v.mono (by simp), by rw [happ v]; exact e⟩
      · rw [List.mem_singleton.mp hp]
        refine ⟨.inr ⟨by dsimp only; omega, by simp⟩, ?_⟩
        exact (partT_ix (by simp)).symm
    · rw [List.nodup_append]
      refine ⟨h.nodup, by simp, ?_⟩
      intro x hx y hy e
      rw [List.mem_singleton.mp hy] at e
      exact hm (e ▸ hx)
    · rcases List.mem_append.mp ht with ht | ht
      · exact h.tree t ht
      · rw [List.mem_singleton.mp ht]; exact htr
theorem law_inv (ds : List Deed) (hok : ∀ d ∈ ds, d.ok) : ∃ us, LInv (kept ds) (told ds) us := by
  revert hok
  refine rev_ind (P := fun ds => (∀ d ∈ ds, d.ok) → ∃ us, LInv (kept ds) (told ds) us) ?_ ?_ ds
  · intro _
    refine ⟨[], rfl, rfl, .nil, by simp [told], rfl, by simp, by simp, fun p hp => ?_, by simp [told], by simp [told], by simp [told]⟩
    have : p = (lf 255, 255) := by simpa [told] using hp
    rw [this]
    exact ⟨.inl (by simp), rfl⟩
  · intro ds d ih hok
    obtain ⟨us, h⟩ := ih fun d hd => hok d (List.mem_append_left _ hd)
    have hd := hok d (by simp)
    rw [kept_snoc, told_snoc]
    cases d with
    | leaf n => exact ⟨us, h.leaf hd⟩
    | join w g => exact h.join hd
end Mine
end

section
open PySem PySem.W PyProof.Rows
set_option maxRecDepth 100000
set_option maxHeartbeats 1000000
namespace Mine
section
variable {s₀ s s' : Shared} {ws : List Addr} {L : Addr} {m : Str → Option Value} {l l' cs : List (Addr × Obj)}
theorem St.addL (S : St s₀ ws L m l s) (S' : St s₀ ws L m l' s') (hl : l'.map (·.1) = l.map (·.1)) (hc : ∀ p ∈ cs, s'.heap.get? p.1 = some p.2 ∧ s.heap.get? p.1 = none) (nd : (cs.map (·.1)).Nodup) : St s₀ ws L m (cs ++ l') s' := by
  refine ⟨S'.ns, S'.keep, S'.newL, S'.above, fun p hp => ?_, ?_, S'.same⟩
  · rcases List.mem_append.mp hp with hp | hp
    · obtain ⟨n1, n2, _⟩ := S.fresh (hc p hp).2
      exact ⟨(hc p hp).1, n1, n2⟩
    · exact S'.cells p hp
  · rw [List.map_append, List.nodup_append]
    refine ⟨nd, S'.nodup, fun a ha b hb e => ?_⟩
    obtain ⟨p, hp, rfl⟩ := List.mem_map.mp ha
    rw [← e, hl] at hb
    exact (S.fresh (hc p hp).2).2.2 hb
end
def pairDat (p : List Nat × List Nat) : Dat := .tuple [.str (tx p.1), .str (tx p.2)]
theorem datPair {tl : List (Addr × Obj)} {pv : List Value} {pl : List (List Nat × List Nat)} (h : Both (PairIn tl) pv pl) : DatAll tl pv (pl.map pairDat) := by
  induction h with
  | nil => exact .nil
  | cons r _ ih =>
    obtain ⟨a, n, t, u, rfl, hm⟩ := r
    exact .cons (.tuple (vs := [.str _ t, .str _ u]) hm (.cons (.str _ t) (.cons (.str _ u) .nil))) ih
theorem good_ascii {x : List Nat} (h : okName x) : ∀ c ∈ x, c < 128 := fun c hc => by
  have := h.2 c hc
  simp only [good, Bool.and_eq_true, decide_eq_true_eq] at this
  omega
theorem pairDat_ok {p : List Nat × List Nat} (h1 : okName p.1) (h2 : okName p.2) : kqdOk 8 (pairDat p) = true := by simp [pairDat, kqdOk, strOk_tx (good_ascii h1), strOk_tx (good_ascii h2)]
def strDat (x : List Nat) : Dat := .str (tx x)
theorem datStrs {xv : List Value} {ts : List (List Nat)} (h : StrsAre xv (ts.map tx)) : DatAll [] xv (ts.map strDat) := by
  have b := both_strs h
  clear h
  induction ts generalizing xv with
  | nil => cases b; exact .nil
  | cons t r ih =>
    cases b with
    | cons q b => obtain ⟨u, rfl⟩ := q; exact .cons (.str _ u) (ih b)
theorem strDat_ok {x : List Nat} (h : ∀ c ∈ x, c < 128) : kqdOk 8 (strDat x) = true := by simp [strDat, kqdOk, strOk_tx h]
end Mine
end

section
open PySem PySem.W PyProof.Rows
set_option maxRecDepth 100000
set_option maxHeartbeats 8000000
namespace Mine
theorem dec_self {α : Type} (a : α) (i : Decidable (a = a)) : @decide (a = a) i = true := by
  cases i with
  | isTrue _ => rfl
  | isFalse h => exact absurd rfl h
theorem words_both {qs : List (List Nat × Nat)} {us : List (Nat × List Nat × Nat)} (h : Both (fun (q : List Nat × Nat) (u : Nat × List Nat × Nat) => ∃ g, q.1 = named u.1 u.2.1 u.2.2 g) qs us)
    (k : ∀ (i : Nat) (u : Nat × List Nat × Nat), us[i]? = some u → u.2.1 ∈ sgns ∧ u.1 < 4096 ∧ u.2.2 < 4096 ∧ 0 < u.2.2) : Both (fun (p : List Nat × List Nat) (u : Nat × List Nat × Nat) => ∃ wa wb, Word p.1 u.1 u.2.1 u.2.2 wa wb) (texted qs) us := by
  induction h with
  | nil => exact .nil
  | cons r _ ih =>
    obtain ⟨g, e⟩ := r
    obtain ⟨k1, k2, k3, k4⟩ := k 0 _ rfl
    refine .cons ?_ (ih fun i u hu => k (i + 1) u (by simpa using hu))
    dsimp only
    rw [e]
    exact word_named g k1 k2 k3 k4
noncomputable abbrev HK : Hook := kHook KF kAs kAs_eq
theorem he_said : PySem.Challenge.rw_pe0250_01.wellSaid = true := by decide +kernel
theorem law_holds : PySem.Challenge.rw_pe0250_01.Holds := by
  w_on
  refine holds_law he_said fun said => ?_
  refine holds_open (q := view) (loose := loose3) (Xt := fun s => xlAt view [] s && recOk (RowW.records PySem.Challenge.rw_pe0250_01.row.toRowW) s) (XP := XL view []) (Yf := Hook.obs HK) (Ya := Hook.val HK) (YP := Hook.says HK) (N := 5512) he_left (Hook.of HK) (Hook.keeps HK) (fun s e => xl_of s (Bool.and_eq_true_iff.mp e).1) XL.keeps (by rfl) (by rfl) (by rfl) (fun s e => recFacts_of (Bool.and_eq_true_iff.mp e).2) (by rfl) said (by decide +kernel) ⟨rfl, rfl, rfl, rfl, rfl, by decide +kernel⟩ ?hw ?hc
  case hw => w_witness2
  k_go0
  rename_i w s₀ s₁ mg mb G0 Y fa o pm doc kV ho hg KX X V GL T B TE TW z1 z2 M z3 z4 hcd ns hs hlay0 hL1 hr1 hl2 z5 z6 scr vs z7 hL ra w1 r0 hI hr hc1 hc2 K0 hD h₁ F N0
  have G : Gl (KK w) s₁.heap := ⟨KX, _, _, _, _, topRead_of T⟩
  have hlen : ns.length ≤ 63 := by omega
  have hOk : ∀ env, Ok 1 (callerA.deeper env) := fun env => Ok.deeper (k := 0) ⟨rfl, by decide, by decide⟩ env
  have hhd : ∀ env, (callerA.deeper env).handled = none := fun _ => rfl
  have S : ∀ tk, St s₁ [] s₁.heap.objs.size _ [] { s₁ with heap := h₁, toks := tk } := fun tk => ⟨F.ns, fun b o _ e => F.keep b o e, Heap.get?_none_of_le (Nat.le_refl _), Nat.le_refl _, (fun p hp => nomatch hp), List.nodup_nil, _, _, rfl⟩
  have S := S (s₁.toks + 1)
  refine wpAny_mono (Q := fun f s' => f = .ret (.bool true) ∧ ∃ m' l', St s₁ [] s₁.heap.objs.size m' l' s') (E := fun _ _ => False) ?_ (fun f s' h => ?_) (fun _ _ x => x.elim)
  · clear G0 Y ho X V GL T B TE TW M hcd hs hlay0 hL1 hr1 hl2 ra w1 r0 hr hc1 hc2 K0 hD N0
    refine r_let ?_
    refine r_call (f := 190) (K := KK w) (fun Q hq => r_glob (K := KK w) (S.gl0 G) (by exact rfl) hq) (S.gl0 G) (by exact rfl) ?_
    refine spliced_more ?_
    refine r_local S rfl ?_
    refine spliced_none ?_
    refine ⟨S.gl0 G, ?_⟩
    obtain ⟨oL, hoL, hoc, nL, hod⟩ := hL
    refine deeds_call (S.gl0 G) (hOk _) (by omega) ⟨oL, S.keep _ _ List.not_mem_nil hoL, hoc, nL, hod⟩ hI (by omega) fun D dv nd ds tlD s' Gr hcD ndD hD hdl hok => ?_
    have S := S.addL (S.calls Gr) rfl hcD ndD
    rw [List.append_nil] at S
    refine ⟨_, _, _, _, S, fun s' S => ?_⟩
    refine r_let ?_
    refine r_call0 (f := 171) (K := KK w) (fun Q hq => r_glob (K := KK w) (S.gl0 G) (by exact rfl) hq) (S.gl0 G) (by exact rfl) ?_
    refine make_call S G (hOk _) (by omega) fun T dx hA hh tk s' S => ?_
    refine ⟨_, _, _, _, S, fun s' S => ?_⟩
    refine r_let ?_
    refine r_call (f := 225) (K := KK w) (fun Q hq => r_glob (K := KK w) (S.gl0 G) (by exact rfl) hq) (S.gl0 G) (by exact rfl) ?_
    refine spliced_more ?_
    refine r_local S rfl ?_
    refine spliced_more ?_
    refine r_local S rfl ?_
    refine spliced_none ?_
    refine ⟨S.gl0 G, ?_⟩
    have nA : s₁.heap.get? hA = none := (S.cells _ (.head _)).2.2.resolve_right List.not_mem_nil
    have ndS := S.nodup
    simp only [List.map_cons, List.nodup_cons, List.mem_cons, not_or] at ndS
    have GH : Gl (KK w) (hideAll s'.heap [hA]) := G.keeps fun b o e => hideAll_get [hA] (S.keep b o List.not_mem_nil e) (fun z => by rw [List.mem_singleton.mp z, nA] at e; cases e)
    refine kept_call (tT := ()) (tD := ()) GH (hOk _) (by omega) (S.get (.tail _ (.head _))) (S.get (.tail _ (.tail _ (.head _)))) (S.get (.head _)) (S.get (.tail _ (.tail _ (.tail _ (.head _))))) (fun z => ndS.1.2.2.1 z.symm) hD (fun p hp => S.get (.tail _ (.tail _ (.tail _ (.tail _ hp))))) hdl hok fun P pv np hv nh tlK s' Gr hcK ndK ehA hpv hhv => ?_
    have S := S.addL (S.upd (i := 0) rfl Gr ehA rfl) rfl hcK ndK
    refine ⟨_, _, _, _, S, fun s' S => ?_⟩
    refine r_stmt ?_
    refine Assign_Tuple ?_
    refine r_call (f := 230) (K := KK w) (fun Q hq => r_glob (K := KK w) (S.gl0 G) (by exact rfl) hq) (S.gl0 G) (by exact rfl) ?_
    refine spliced_more ?_
    refine r_local S rfl ?_
    refine spliced_none ?_
    refine ⟨S.gl0 G, ?_⟩
    refine told_call (nd := nd) (S.gl0 G) (hOk _) (by omega) (S.get (by simp)) hD (fun p hp => S.get (by simp [hp])) hdl hok fun R Yl yv ny Xl xv nx Ql qv nq tlT s' Gr hcT ndT hyv hxv hqv => ?_
    have S := S.addL (S.calls Gr) rfl hcT ndT
    refine r_unpack3 (hhd _) S (S.get (.head _)) fun s' S => ?_
    obtain ⟨us, I⟩ := law_inv ds hok
    have hko := kept_ok (ds := ds) (by omega) hok
    have hto := told_ok (ds := ds) hok
    have hkl := kept_len ds
    have etx : (texted (kept ds).2).length = (kept ds).2.length := by simp [texted]
    have hdok : ∀ d ∈ (texted (kept ds).2).map pairDat, kqdOk 8 d = true := by
      intro d hd
      obtain ⟨p, hp, rfl⟩ := List.mem_map.mp hd
      obtain ⟨q, hq, rfl⟩ := List.mem_map.mp hp
      exact pairDat_ok (hko.names q hq) (dec_ok (by have := hko.nums q hq; omega))
    rw [← I.pairs] at hqv
    rw [← I.pile] at hyv
    have htab : ∀ {m' : Str → Option Value} {l' : List (Addr × Obj)} {s' : Shared}, St s₁ [] s₁.heap.objs.size m' l' s' → (T, instObj 171 dx) ∈ l' → (dx, dictOf [⟨hh, .str (Str.ofString "_headers") tk, .ref hA⟩] 1) ∈ l' → (hA, listOf hv.toArray nh) ∈ l' → (∀ p ∈ tlK, p ∈ l') → Tab s'.heap T dx hA hv (texted (kept ds).2) := fun S h1 h2 h3 h4 =>
      ⟨S.get h1, ⟨hh, tk, 1, S.get h2⟩, ⟨nh, S.get h3⟩, hhv.mono fun v p ⟨a, n, t, u, e, hm⟩ => ⟨a, n, t, u, e, S.get (h4 _ hm)⟩⟩
    have hu : ∀ env, (callerA.deeper env).units + 64 < cLine := fun _ => by show 4 + 3 + 64 < 9900; decide
    refine r_stmt ?_
    refine wpAny_If ?_
    refine isTrue_or ?_
    refine wpAny_isTrue_Compare1 ?_
    refine r_local S rfl ?_
    refine r_local S rfl ?_
    refine ke_ne_ints ⟨_, S.get (o := listOf pv.toArray np) (by simp), rfl, np, rfl⟩ ⟨_, S.get (o := listOf yv.toArray ny) (by simp), rfl, ny, rfl⟩ hpv hyv (hu _) ?_
    refine wpAny_truthy_bool ?_
    rw [dec_self, if_neg (by decide)]
    refine isTrue_or ?_
    refine wpAny_isTrue_Compare1 ?_
    refine MethodCall_ ?_
    refine r_local S rfl ?_
    have X1 := htab S (by simp) (by simp) (by simp) (by intro p hp; simp [hp])
    obtain ⟨hh', tk', nd', I'⟩ := X1.inst
    refine method_inst (K := KK w) S.fr G.X I' (by exact rfl) (by exact rfl) (by exact rfl) (by exact rfl) ?_
    refine callWith_K0 (K := KK w) (S.gl0 G).X (by exact rfl) ?_
    refine items_call (S.gl0 G) (hOk _) (by omega) X1 (by omega) fun C1 s' Gr hn1 hC1 => ?_
    have S := S.add hn1 (S.calls Gr) hC1
    refine r_local S rfl ?_
    refine kqd_ne S.news (.head _) rfl rfl (datPair hhv) (by intro p hp; simp [hp]) (b := Ql) (ob := listOf qv.toArray nq) (by simp) rfl rfl (datPair hqv) (by intro p hp; simp [hp]) hdok hdok (hu _) ?_
    refine wpAny_truthy_bool ?_
    rw [dec_self, if_neg (by decide)]
    refine isTrue_or_nil ?_
    rw [if_neg (by decide)]
    refine wpAny_execs_nil ?_
    refine r_ret ?_
    refine wpAny_Compare1 ?_
    refine r_call (f := 244) (K := KK w) (fun Q hq => r_glob (K := KK w) (S.gl0 G) (by exact rfl) hq) (S.gl0 G) (by exact rfl) ?_
    refine spliced_more ?_
    refine MethodCall_ ?_
    refine r_local S rfl ?_
    have X1 := htab S (by simp) (by simp) (by simp) (by intro p hp; simp [hp])
    obtain ⟨hh', tk', nd', I'⟩ := X1.inst
    refine method_inst (K := KK w) S.fr G.X I' (by exact rfl) (by exact rfl) (by exact rfl) (by exact rfl) ?_
    refine callWith_K0 (K := KK w) (S.gl0 G).X (by exact rfl) ?_
    refine items_call (S.gl0 G) (hOk _) (by omega) X1 (by omega) fun C2 s' Gr hn2 hC2 => ?_
    have S := S.add hn2 (S.calls Gr) hC2
    refine spliced_none ?_
    refine ⟨S.gl0 G, ?_⟩
    have hul : us.length = (kept ds).2.length := by rw [I.len.1, ← I.len.2, I.pairs]
    have hU : Both (fun (p : List Nat × List Nat) (u : Nat × List Nat × Nat) => ∃ wa wb, Word p.1 u.1 u.2.1 u.2.2 wa wb) (texted (kept ds).2) us := by
      rw [I.pairs]
      refine words_both I.names fun i u hu => ?_
      obtain ⟨v1, v2, v3, _⟩ := I.ok i u hu
      have hi := (List.getElem?_eq_some_iff.mp hu).1
      have := v1.lt
      have := v2.lt
      exact ⟨v3, by omega, by omega, by omega⟩
    have hB : ∀ t ∈ unf us, t.length ≤ 2000000 := by
      intro t ht
      rw [I.unfs] at ht
      have h1 := (hto.texts t ht).1
      have h2 : 2 ^ ds.length ≤ 2 ^ 16 := Nat.pow_le_pow_right (by decide) hdl
      omega
    refine unfolded_call (S.gl0 G) (hOk _) (by omega) (S.get (.head _)) hhv (fun p hp => S.get (by simp [hp])) hU (fun i u hu => by
      obtain ⟨v1, v2, _, _⟩ := I.ok i u hu
      exact ⟨v1.lt.1, v2.lt.1⟩) (by omega) hB fun Z zv nz s' Gr hnZ hZ hzv => ?_
    have S := S.add hnZ (S.calls Gr) hZ
    refine r_local S rfl ?_
    rw [I.unfs] at hzv
    have hsok : ∀ d ∈ (told ds).1.map strDat, kqdOk 8 d = true := by
      intro d hd
      obtain ⟨t, ht, rfl⟩ := List.mem_map.mp hd
      exact strDat_ok (hto.texts t ht).2
    refine kqd_eq S.news (.head _) rfl rfl (datStrs hzv) (fun p hp => nomatch hp) (b := Xl) (ob := listOf xv.toArray nx) (by simp) rfl rfl (datStrs hxv) (fun p hp => nomatch hp) hsok hsok (hu _) ?_
    rw [dec_self]
    exact ⟨rfl, _, _, S⟩
  · obtain ⟨rfl, m', l', S⟩ := h
    obtain ⟨hh, tk, e⟩ := S.same
    subst e
    exact goodW_bool (L := s₁.heap.objs.size) (m := m') ⟨S.ns, fun b o e => S.keep b o List.not_mem_nil e, Nat.le_refl _⟩ hg (raisesW_false (by wrow_none_raised)) (by wrow_post)
end Mine
end

theorem PySem.Challenge.cw_pe0250_01_holds : PySem.Challenge.rw_pe0250_01.Holds := by
  exact Mine.law_holds
