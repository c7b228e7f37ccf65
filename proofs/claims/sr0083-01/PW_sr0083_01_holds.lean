import PyProof.Rows.All
import Wide.All
import OpenK.AllK
import Wide.FinOn
import Lean
import PySem.Challenge.RW_sr0083_01
set_option Elab.async false
set_option linter.all false
set_option compiler.extract_closed false
section
set_option Elab.async false
section
open PySem PySem.W
namespace Mine
noncomputable def stm (i : Nat) : Stmt := Challenge.pw_sr0083_01.main.body.getD i (.Pass ⟨0, 0, 0, 0⟩)
noncomputable def clB : Stmt → List Stmt
  | .ClassDef _ _ _ b _ _ _ _ _ _ _ => b
  | _ => []
noncomputable def sub (i j : Nat) : Stmt := (clB (stm i)).getD j (.Pass ⟨0, 0, 0, 0⟩)
noncomputable def fnP : Stmt → Arguments × List Stmt × Scope
  | .FunctionDef _ a b _ _ _ s _ _ _ => (a, b, s)
  | _ => (⟨[], [], none, [], [], none, []⟩, [], default)
set_option maxRecDepth 100000 in
set_option maxHeartbeats 0 in
noncomputable def hd.heap_39 (P : Params) : Frag := by
  refine (?kp : List (Nat × Obj) → ∀ x y : Arguments × List Stmt × Scope, x = y → List (Nat × Obj)) (?kp (?kp (?kp (?kp (?kp (?kp (?kp (?kp (?kp (?kp (?kp (?kp (?kp (?kp (?kp (?kp (?kp (?kp (?kp (?kp (?kp (?kp (?kp (?kp (?kp (?kp (?kp (?kp (?kp (?kp ((nat_lit 2, Obj.mk Value.none none (Data.dict (List.toArray []) (0 : Nat)) (List.toArray [])) ::
    (nat_lit 3, Obj.mk (Value.type "dict") none (Data.dict (List.toArray [DictEntry.mk (PyData.keyHash P (Str.ofString "__name__")) (Value.str (Str.ofString "__name__") (165 : Nat)) (Value.str (Str.ofString "law_sr0083_01") (518 : Nat)), DictEntry.mk (PyData.keyHash P (Str.ofString "__doc__")) (Value.str (Str.ofString "__doc__") (166 : Nat)) Value.none, DictEntry.mk (PyData.keyHash P (Str.ofString "__package__")) (Value.str (Str.ofString "__package__") (167 : Nat)) Value.none, DictEntry.mk (PyData.keyHash P (Str.ofString "__loader__")) (Value.str (Str.ofString "__loader__") (168 : Nat)) (Value.builtin "__main__.__loader__#opaque"), DictEntry.mk (PyData.keyHash P (Str.ofString "__spec__")) (Value.str (Str.ofString "__spec__") (169 : Nat)) Value.none, DictEntry.mk (PyData.keyHash P (Str.ofString "__annotations__")) (Value.str (Str.ofString "__annotations__") (170 : Nat)) (Value.ref (6 : Nat)), DictEntry.mk (PyData.keyHash P (Str.ofString "__builtins__")) (Value.str (Str.ofString "__builtins__") (171 : Nat)) (Value.ref (4 : Nat)), DictEntry.mk (PyData.keyHash P (Str.ofString "__file__")) (Value.str (Str.ofString "__file__") (173 : Nat)) (Value.str (Str.ofString "/claim/cut.py") (172 : Nat)), DictEntry.mk (PyData.keyHash P (Str.ofString "__cached__")) (Value.str (Str.ofString "__cached__") (174 : Nat)) Value.none, DictEntry.mk (PyData.keyHash P (Str.ofString "_wall")) (Value.str (Str.ofString "_wall") (193 : Nat)) (Value.ref (21 : Nat)), DictEntry.mk (PyData.keyHash P (Str.ofString "ELLIPSIS_MARKER")) (Value.str (Str.ofString "ELLIPSIS_MARKER") (197 : Nat)) (Value.str (Str.ofString "...") (196 : Nat)), DictEntry.mk (PyData.keyHash P (Str.ofString "_ellipsis_match")) (Value.str (Str.ofString "_ellipsis_match") (209 : Nat)) (Value.ref (28 : Nat)), DictEntry.mk (PyData.keyHash P (Str.ofString "NL")) (Value.str (Str.ofString "NL") (213 : Nat)) (Value.str (Str.ofString "\n") (212 : Nat)), DictEntry.mk (PyData.keyHash P (Str.ofString "EMPTYSTRING")) (Value.str (Str.ofString "EMPTYSTRING") (215 : Nat)) (Value.str (Str.ofString "") (214 : Nat)), DictEntry.mk (PyData.keyHash P (Str.ofString "_ValueFormatter")) (Value.str (Str.ofString "_ValueFormatter") (323 : Nat)) (Value.ref (101 : Nat)), DictEntry.mk (PyData.keyHash P (Str.ofString "_Accumulator")) (Value.str (Str.ofString "_Accumulator") (419 : Nat)) (Value.ref (185 : Nat)), DictEntry.mk (PyData.keyHash P (Str.ofString "Whitespace")) (Value.str (Str.ofString "Whitespace") (517 : Nat)) (Value.ref (251 : Nat)), DictEntry.mk (PyData.keyHash P (Str.ofString "_law_columns")) (Value.str (Str.ofString "_law_columns") (525 : Nat)) (Value.ref (260 : Nat)), DictEntry.mk (PyData.keyHash P (Str.ofString "_law_taken")) (Value.str (Str.ofString "_law_taken") (537 : Nat)) (Value.ref (267 : Nat)), DictEntry.mk (PyData.keyHash P (Str.ofString "_law_worth")) (Value.str (Str.ofString "_law_worth") (547 : Nat)) (Value.ref (274 : Nat)), DictEntry.mk (PyData.keyHash P (Str.ofString "law")) (Value.str (Str.ofString "law") (553 : Nat)) (Value.ref (279 : Nat))]) (21 : Nat)) (List.toArray [])) ::
    (nat_lit 15, Obj.mk (Value.type "tuple") none (Data.seq (List.toArray []) (0 : Nat)) (List.toArray [])) ::
    (nat_lit 17, Obj.mk (Value.type "tuple") none (Data.seq (List.toArray [Value.str (Str.ofString "k") (190 : Nat)]) (0 : Nat)) (List.toArray [])) ::
    (nat_lit 18, Obj.mk (Value.type "tuple") none (Data.seq (List.toArray []) (0 : Nat)) (List.toArray [])) ::
    (nat_lit 20, Obj.mk (Value.type "code") none (Data.fields (List.toArray [Value.str (Str.ofString "_wall") (187 : Nat), Value.str (Str.ofString "_wall") (188 : Nat), Value.str (Str.ofString "/claim/cut.py") (189 : Nat), Value.int 1 (0 : Nat), Value.int 1 (0 : Nat), Value.int 0 (0 : Nat), Value.int 0 (0 : Nat), Value.int 3 (0 : Nat), Value.ref (15 : Nat), Value.bool Bool.true, Value.int 181 (0 : Nat), Value.ref (16 : Nat), Value.none, Value.ref (17 : Nat), Value.ref (18 : Nat), Value.ref (19 : Nat), Value.int 191 (0 : Nat), Value.int 1 (0 : Nat), Value.str (Str.ofString "/claim/cut.py") (192 : Nat)])) (List.toArray [])) ::
    (nat_lit 21, Obj.mk (Value.type "function") none (Data.func (FuncData.mk (Str.ofString "_wall") (Str.ofString "_wall") ?a0 (FuncBody.stmts ?b0) ?s0 (3 : Nat) ([] : List (Str × Nat)) Value.none Value.none Value.none (Value.str (Str.ofString "__main__") (164 : Nat)) none (Value.ref (20 : Nat)) Value.none (0 : Nat))) (List.toArray [])) ::
    (nat_lit 22, Obj.mk (Value.type "tuple") none (Data.seq (List.toArray []) (0 : Nat)) (List.toArray [])) ::
    (nat_lit 24, Obj.mk (Value.type "tuple") none (Data.seq (List.toArray [Value.str (Str.ofString "want") (201 : Nat), Value.str (Str.ofString "got") (202 : Nat), Value.str (Str.ofString "ws") (203 : Nat), Value.str (Str.ofString "startpos") (204 : Nat), Value.str (Str.ofString "endpos") (205 : Nat), Value.str (Str.ofString "w") (206 : Nat)]) (0 : Nat)) (List.toArray [])) ::
    (nat_lit 25, Obj.mk (Value.type "tuple") none (Data.seq (List.toArray []) (0 : Nat)) (List.toArray [])) ::
    (nat_lit 27, Obj.mk (Value.type "code") none (Data.fields (List.toArray [Value.str (Str.ofString "_ellipsis_match") (198 : Nat), Value.str (Str.ofString "_ellipsis_match") (199 : Nat), Value.str (Str.ofString "/claim/cut.py") (200 : Nat), Value.int 6 (0 : Nat), Value.int 2 (0 : Nat), Value.int 0 (0 : Nat), Value.int 0 (0 : Nat), Value.int 3 (0 : Nat), Value.ref (22 : Nat), Value.bool Bool.true, Value.int 181 (0 : Nat), Value.ref (23 : Nat), Value.none, Value.ref (24 : Nat), Value.ref (25 : Nat), Value.ref (26 : Nat), Value.int 207 (0 : Nat), Value.int 6 (0 : Nat), Value.str (Str.ofString "/claim/cut.py") (208 : Nat)])) (List.toArray [])) ::
    (nat_lit 28, Obj.mk (Value.type "function") none (Data.func (FuncData.mk (Str.ofString "_ellipsis_match") (Str.ofString "_ellipsis_match") ?a1 (FuncBody.stmts ?b1) ?s1 (3 : Nat) ([] : List (Str × Nat)) Value.none Value.none Value.none (Value.str (Str.ofString "cpy313.doctest") (194 : Nat)) none (Value.ref (27 : Nat)) Value.none (0 : Nat))) (List.toArray [])) ::
    (nat_lit 36, Obj.mk (Value.type "tuple") none (Data.seq (List.toArray []) (0 : Nat)) (List.toArray [])) ::
    (nat_lit 38, Obj.mk (Value.type "tuple") none (Data.seq (List.toArray [Value.str (Str.ofString "self") (231 : Nat), Value.str (Str.ofString "headerlen") (232 : Nat), Value.str (Str.ofString "maxlen") (233 : Nat), Value.str (Str.ofString "continuation_ws") (234 : Nat), Value.str (Str.ofString "splitchars") (235 : Nat)]) (0 : Nat)) (List.toArray [])) ::
    (nat_lit 39, Obj.mk (Value.type "tuple") none (Data.seq (List.toArray []) (0 : Nat)) (List.toArray [])) ::
    (nat_lit 41, Obj.mk (Value.type "code") none (Data.fields (List.toArray [Value.str (Str.ofString "__init__") (228 : Nat), Value.str (Str.ofString "_ValueFormatter.__init__") (229 : Nat), Value.str (Str.ofString "/claim/cut.py") (230 : Nat), Value.int 39 (0 : Nat), Value.int 5 (0 : Nat), Value.int 0 (0 : Nat), Value.int 0 (0 : Nat), Value.int 3 (0 : Nat), Value.ref (36 : Nat), Value.bool Bool.true, Value.int 181 (0 : Nat), Value.ref (37 : Nat), Value.none, Value.ref (38 : Nat), Value.ref (39 : Nat), Value.ref (40 : Nat), Value.int 236 (0 : Nat), Value.int 39 (0 : Nat), Value.str (Str.ofString "/claim/cut.py") (237 : Nat)])) (List.toArray [])) ::
    (nat_lit 42, Obj.mk (Value.type "function") none (Data.func (FuncData.mk (Str.ofString "__init__") (Str.ofString "_ValueFormatter.__init__") ?a2 (FuncBody.stmts ?b2) ?s2 (3 : Nat) ([] : List (Str × Nat)) Value.none Value.none Value.none (Value.str (Str.ofString "cpy313.email.header") (210 : Nat)) none (Value.ref (41 : Nat)) Value.none (0 : Nat))) (List.toArray [])) ::
    (nat_lit 43, Obj.mk (Value.type "tuple") none (Data.seq (List.toArray []) (0 : Nat)) (List.toArray [])) ::
    (nat_lit 45, Obj.mk (Value.type "tuple") none (Data.seq (List.toArray [Value.str (Str.ofString "self") (242 : Nat), Value.str (Str.ofString "linesep") (243 : Nat)]) (0 : Nat)) (List.toArray [])) ::
    (nat_lit 46, Obj.mk (Value.type "tuple") none (Data.seq (List.toArray []) (0 : Nat)) (List.toArray [])) ::
    (nat_lit 48, Obj.mk (Value.type "code") none (Data.fields (List.toArray [Value.str (Str.ofString "_str") (239 : Nat), Value.str (Str.ofString "_ValueFormatter._str") (240 : Nat), Value.str (Str.ofString "/claim/cut.py") (241 : Nat), Value.int 47 (0 : Nat), Value.int 2 (0 : Nat), Value.int 0 (0 : Nat), Value.int 0 (0 : Nat), Value.int 3 (0 : Nat), Value.ref (43 : Nat), Value.bool Bool.true, Value.int 181 (0 : Nat), Value.ref (44 : Nat), Value.none, Value.ref (45 : Nat), Value.ref (46 : Nat), Value.ref (47 : Nat), Value.int 244 (0 : Nat), Value.int 47 (0 : Nat), Value.str (Str.ofString "/claim/cut.py") (245 : Nat)])) (List.toArray [])) ::
    (nat_lit 49, Obj.mk (Value.type "function") none (Data.func (FuncData.mk (Str.ofString "_str") (Str.ofString "_ValueFormatter._str") ?a3 (FuncBody.stmts ?b3) ?s3 (3 : Nat) ([] : List (Str × Nat)) Value.none Value.none Value.none (Value.str (Str.ofString "cpy313.email.header") (210 : Nat)) none (Value.ref (48 : Nat)) Value.none (0 : Nat))) (List.toArray [])) ::
    (nat_lit 50, Obj.mk (Value.type "tuple") none (Data.seq (List.toArray []) (0 : Nat)) (List.toArray [])) ::
    (nat_lit 52, Obj.mk (Value.type "tuple") none (Data.seq (List.toArray [Value.str (Str.ofString "self") (250 : Nat)]) (0 : Nat)) (List.toArray [])) ::
    (nat_lit 53, Obj.mk (Value.type "tuple") none (Data.seq (List.toArray []) (0 : Nat)) (List.toArray [])) ::
    (nat_lit 55, Obj.mk (Value.type "code") none (Data.fields (List.toArray [Value.str (Str.ofString "__str__") (247 : Nat), Value.str (Str.ofString "_ValueFormatter.__str__") (248 : Nat), Value.str (Str.ofString "/claim/cut.py") (249 : Nat), Value.int 51 (0 : Nat), Value.int 1 (0 : Nat), Value.int 0 (0 : Nat), Value.int 0 (0 : Nat), Value.int 3 (0 : Nat), Value.ref (50 : Nat), Value.bool Bool.true, Value.int 181 (0 : Nat), Value.ref (51 : Nat), Value.none, Value.ref (52 : Nat), Value.ref (53 : Nat), Value.ref (54 : Nat), Value.int 251 (0 : Nat), Value.int 51 (0 : Nat), Value.str (Str.ofString "/claim/cut.py") (252 : Nat)])) (List.toArray [])) ::
    (nat_lit 56, Obj.mk (Value.type "function") none (Data.func (FuncData.mk (Str.ofString "__str__") (Str.ofString "_ValueFormatter.__str__") ?a4 (FuncBody.stmts ?b4) ?s4 (3 : Nat) ([] : List (Str × Nat)) Value.none Value.none Value.none (Value.str (Str.ofString "cpy313.email.header") (210 : Nat)) none (Value.ref (55 : Nat)) Value.none (0 : Nat))) (List.toArray [])) ::
    (nat_lit 57, Obj.mk (Value.type "tuple") none (Data.seq (List.toArray []) (0 : Nat)) (List.toArray [])) ::
    (nat_lit 59, Obj.mk (Value.type "tuple") none (Data.seq (List.toArray [Value.str (Str.ofString "self") (257 : Nat), Value.str (Str.ofString "end_of_line") (258 : Nat)]) (0 : Nat)) (List.toArray [])) ::
    (nat_lit 60, Obj.mk (Value.type "tuple") none (Data.seq (List.toArray []) (0 : Nat)) (List.toArray [])) ::
    (nat_lit 62, Obj.mk (Value.type "code") none (Data.fields (List.toArray [Value.str (Str.ofString "newline") (254 : Nat), Value.str (Str.ofString "_ValueFormatter.newline") (255 : Nat), Value.str (Str.ofString "/claim/cut.py") (256 : Nat), Value.int 54 (0 : Nat), Value.int 1 (0 : Nat), Value.int 0 (0 : Nat), Value.int 0 (0 : Nat), Value.int 3 (0 : Nat), Value.ref (57 : Nat), Value.bool Bool.true, Value.int 181 (0 : Nat), Value.ref (58 : Nat), Value.none, Value.ref (59 : Nat), Value.ref (60 : Nat), Value.ref (61 : Nat), Value.int 259 (0 : Nat), Value.int 54 (0 : Nat), Value.str (Str.ofString "/claim/cut.py") (260 : Nat)])) (List.toArray [])) ::
    (nat_lit 63, Obj.mk (Value.type "function") none (Data.func (FuncData.mk (Str.ofString "newline") (Str.ofString "_ValueFormatter.newline") ?a5 (FuncBody.stmts ?b5) ?s5 (3 : Nat) ([] : List (Str × Nat)) Value.none Value.none Value.none (Value.str (Str.ofString "cpy313.email.header") (210 : Nat)) none (Value.ref (62 : Nat)) Value.none (0 : Nat))) (List.toArray [])) ::
    (nat_lit 64, Obj.mk (Value.type "tuple") none (Data.seq (List.toArray []) (0 : Nat)) (List.toArray [])) ::
    (nat_lit 66, Obj.mk (Value.type "tuple") none (Data.seq (List.toArray [Value.str (Str.ofString "self") (265 : Nat)]) (0 : Nat)) (List.toArray [])) ::
    (nat_lit 67, Obj.mk (Value.type "tuple") none (Data.seq (List.toArray []) (0 : Nat)) (List.toArray [])) ::
    (nat_lit 69, Obj.mk (Value.type "code") none (Data.fields (List.toArray [Value.str (Str.ofString "add_transition") (262 : Nat), Value.str (Str.ofString "_ValueFormatter.add_transition") (263 : Nat), Value.str (Str.ofString "/claim/cut.py") (264 : Nat), Value.int 65 (0 : Nat), Value.int 1 (0 : Nat), Value.int 0 (0 : Nat), Value.int 0 (0 : Nat), Value.int 3 (0 : Nat), Value.ref (64 : Nat), Value.bool Bool.true, Value.int 181 (0 : Nat), Value.ref (65 : Nat), Value.none, Value.ref (66 : Nat), Value.ref (67 : Nat), Value.ref (68 : Nat), Value.int 266 (0 : Nat), Value.int 65 (0 : Nat), Value.str (Str.ofString "/claim/cut.py") (267 : Nat)])) (List.toArray [])) ::
    (nat_lit 70, Obj.mk (Value.type "function") none (Data.func (FuncData.mk (Str.ofString "add_transition") (Str.ofString "_ValueFormatter.add_transition") ?a6 (FuncBody.stmts ?b6) ?s6 (3 : Nat) ([] : List (Str × Nat)) Value.none Value.none Value.none (Value.str (Str.ofString "cpy313.email.header") (210 : Nat)) none (Value.ref (69 : Nat)) Value.none (0 : Nat))) (List.toArray [])) ::
    (nat_lit 71, Obj.mk (Value.type "tuple") none (Data.seq (List.toArray []) (0 : Nat)) (List.toArray [])) ::
    (nat_lit 73, Obj.mk (Value.type "tuple") none (Data.seq (List.toArray [Value.str (Str.ofString "self") (272 : Nat), Value.str (Str.ofString "fws") (273 : Nat), Value.str (Str.ofString "string") (274 : Nat), Value.str (Str.ofString "charset") (275 : Nat)]) (0 : Nat)) (List.toArray [])) ::
    (nat_lit 74, Obj.mk (Value.type "tuple") none (Data.seq (List.toArray []) (0 : Nat)) (List.toArray [])) ::
    (nat_lit 76, Obj.mk (Value.type "code") none (Data.fields (List.toArray [Value.str (Str.ofString "feed") (269 : Nat), Value.str (Str.ofString "_ValueFormatter.feed") (270 : Nat), Value.str (Str.ofString "/claim/cut.py") (271 : Nat), Value.int 68 (0 : Nat), Value.int 4 (0 : Nat), Value.int 0 (0 : Nat), Value.int 0 (0 : Nat), Value.int 3 (0 : Nat), Value.ref (71 : Nat), Value.bool Bool.true, Value.int 181 (0 : Nat), Value.ref (72 : Nat), Value.none, Value.ref (73 : Nat), Value.ref (74 : Nat), Value.ref (75 : Nat), Value.int 276 (0 : Nat), Value.int 68 (0 : Nat), Value.str (Str.ofString "/claim/cut.py") (277 : Nat)])) (List.toArray [])) ::
    (nat_lit 77, Obj.mk (Value.type "function") none (Data.func (FuncData.mk (Str.ofString "feed") (Str.ofString "_ValueFormatter.feed") ?a7 (FuncBody.stmts ?b7) ?s7 (3 : Nat) ([] : List (Str × Nat)) Value.none Value.none Value.none (Value.str (Str.ofString "cpy313.email.header") (210 : Nat)) none (Value.ref (76 : Nat)) Value.none (0 : Nat))) (List.toArray [])) ::
    (nat_lit 78, Obj.mk (Value.type "tuple") none (Data.seq (List.toArray []) (0 : Nat)) (List.toArray [])) ::
    (nat_lit 80, Obj.mk (Value.type "tuple") none (Data.seq (List.toArray [Value.str (Str.ofString "self") (282 : Nat)]) (0 : Nat)) (List.toArray [])) ::
    (nat_lit 81, Obj.mk (Value.type "tuple") none (Data.seq (List.toArray []) (0 : Nat)) (List.toArray [])) ::
    (nat_lit 83, Obj.mk (Value.type "code") none (Data.fields (List.toArray [Value.str (Str.ofString "_maxlengths") (279 : Nat), Value.str (Str.ofString "_ValueFormatter._maxlengths") (280 : Nat), Value.str (Str.ofString "/claim/cut.py") (281 : Nat), Value.int 71 (0 : Nat), Value.int 1 (0 : Nat), Value.int 0 (0 : Nat), Value.int 0 (0 : Nat), Value.int 3 (0 : Nat), Value.ref (78 : Nat), Value.bool Bool.true, Value.int 181 (0 : Nat), Value.ref (79 : Nat), Value.none, Value.ref (80 : Nat), Value.ref (81 : Nat), Value.ref (82 : Nat), Value.int 283 (0 : Nat), Value.int 71 (0 : Nat), Value.str (Str.ofString "/claim/cut.py") (284 : Nat)])) (List.toArray [])) ::
    (nat_lit 84, Obj.mk (Value.type "function") none (Data.func (FuncData.mk (Str.ofString "_maxlengths") (Str.ofString "_ValueFormatter._maxlengths") ?a8 (FuncBody.stmts ?b8) ?s8 (3 : Nat) ([] : List (Str × Nat)) Value.none Value.none Value.none (Value.str (Str.ofString "cpy313.email.header") (210 : Nat)) none (Value.ref (83 : Nat)) Value.none (0 : Nat))) (List.toArray [])) ::
    (nat_lit 85, Obj.mk (Value.type "tuple") none (Data.seq (List.toArray []) (0 : Nat)) (List.toArray [])) ::
    (nat_lit 87, Obj.mk (Value.type "tuple") none (Data.seq (List.toArray [Value.str (Str.ofString "self") (289 : Nat), Value.str (Str.ofString "fws") (290 : Nat), Value.str (Str.ofString "string") (291 : Nat), Value.str (Str.ofString "splitchars") (292 : Nat)]) (0 : Nat)) (List.toArray [])) ::
    (nat_lit 88, Obj.mk (Value.type "tuple") none (Data.seq (List.toArray []) (0 : Nat)) (List.toArray [])) ::
    (nat_lit 90, Obj.mk (Value.type "code") none (Data.fields (List.toArray [Value.str (Str.ofString "_ascii_split") (286 : Nat), Value.str (Str.ofString "_ValueFormatter._ascii_split") (287 : Nat), Value.str (Str.ofString "/claim/cut.py") (288 : Nat), Value.int 74 (0 : Nat), Value.int 4 (0 : Nat), Value.int 0 (0 : Nat), Value.int 0 (0 : Nat), Value.int 3 (0 : Nat), Value.ref (85 : Nat), Value.bool Bool.true, Value.int 181 (0 : Nat), Value.ref (86 : Nat), Value.none, Value.ref (87 : Nat), Value.ref (88 : Nat), Value.ref (89 : Nat), Value.int 293 (0 : Nat), Value.int 74 (0 : Nat), Value.str (Str.ofString "/claim/cut.py") (294 : Nat)])) (List.toArray [])) ::
    (nat_lit 91, Obj.mk (Value.type "function") none (Data.func (FuncData.mk (Str.ofString "_ascii_split") (Str.ofString "_ValueFormatter._ascii_split") ?a9 (FuncBody.stmts ?b9) ?s9 (3 : Nat) ([] : List (Str × Nat)) Value.none Value.none Value.none (Value.str (Str.ofString "cpy313.email.header") (210 : Nat)) none (Value.ref (90 : Nat)) Value.none (0 : Nat))) (List.toArray [])) ::
    (nat_lit 92, Obj.mk (Value.type "tuple") none (Data.seq (List.toArray []) (0 : Nat)) (List.toArray [])) ::
    (nat_lit 94, Obj.mk (Value.type "tuple") none (Data.seq (List.toArray [Value.str (Str.ofString "self") (299 : Nat), Value.str (Str.ofString "fws") (300 : Nat), Value.str (Str.ofString "string") (301 : Nat), Value.str (Str.ofString "ch") (302 : Nat), Value.str (Str.ofString "i") (303 : Nat), Value.str (Str.ofString "prevpart") (304 : Nat), Value.str (Str.ofString "part") (305 : Nat), Value.str (Str.ofString "remainder") (306 : Nat)]) (0 : Nat)) (List.toArray [])) ::
    (nat_lit 95, Obj.mk (Value.type "tuple") none (Data.seq (List.toArray []) (0 : Nat)) (List.toArray [])) ::
    (nat_lit 97, Obj.mk (Value.type "code") none (Data.fields (List.toArray [Value.str (Str.ofString "_append_chunk") (296 : Nat), Value.str (Str.ofString "_ValueFormatter._append_chunk") (297 : Nat), Value.str (Str.ofString "/claim/cut.py") (298 : Nat), Value.int 77 (0 : Nat), Value.int 3 (0 : Nat), Value.int 0 (0 : Nat), Value.int 0 (0 : Nat), Value.int 3 (0 : Nat), Value.ref (92 : Nat), Value.bool Bool.true, Value.int 181 (0 : Nat), Value.ref (93 : Nat), Value.none, Value.ref (94 : Nat), Value.ref (95 : Nat), Value.ref (96 : Nat), Value.int 307 (0 : Nat), Value.int 77 (0 : Nat), Value.str (Str.ofString "/claim/cut.py") (308 : Nat)])) (List.toArray [])) ::
    (nat_lit 98, Obj.mk (Value.type "function") none (Data.func (FuncData.mk (Str.ofString "_append_chunk") (Str.ofString "_ValueFormatter._append_chunk") ?a10 (FuncBody.stmts ?b10) ?s10 (3 : Nat) ([] : List (Str × Nat)) Value.none Value.none Value.none (Value.str (Str.ofString "cpy313.email.header") (210 : Nat)) none (Value.ref (97 : Nat)) Value.none (0 : Nat))) (List.toArray [])) ::
    (nat_lit 99, Obj.mk (Value.type "tuple") none (Data.seq (List.toArray [Value.str (Str.ofString "_continuation_ws") (310 : Nat), Value.str (Str.ofString "_continuation_ws_len") (311 : Nat), Value.str (Str.ofString "_current_line") (312 : Nat), Value.str (Str.ofString "_lines") (313 : Nat), Value.str (Str.ofString "_maxlen") (314 : Nat), Value.str (Str.ofString "_splitchars") (315 : Nat)]) (0 : Nat)) (List.toArray [])) ::
    (nat_lit 100, Obj.mk (Value.type "dict") none (Data.dict (List.toArray [DictEntry.mk (PyData.keyHash P (Str.ofString "__module__")) (Value.str (Str.ofString "__module__") (223 : Nat)) (Value.str (Str.ofString "cpy313.email.header") (210 : Nat)), DictEntry.mk (PyData.keyHash P (Str.ofString "__firstlineno__")) (Value.str (Str.ofString "__firstlineno__") (227 : Nat)) (Value.int 37 (226 : Nat)), DictEntry.mk (PyData.keyHash P (Str.ofString "__init__")) (Value.str (Str.ofString "__init__") (238 : Nat)) (Value.ref (42 : Nat)), DictEntry.mk (PyData.keyHash P (Str.ofString "_str")) (Value.str (Str.ofString "_str") (246 : Nat)) (Value.ref (49 : Nat)), DictEntry.mk (PyData.keyHash P (Str.ofString "__str__")) (Value.str (Str.ofString "__str__") (253 : Nat)) (Value.ref (56 : Nat)), DictEntry.mk (PyData.keyHash P (Str.ofString "newline")) (Value.str (Str.ofString "newline") (261 : Nat)) (Value.ref (63 : Nat)), DictEntry.mk (PyData.keyHash P (Str.ofString "add_transition")) (Value.str (Str.ofString "add_transition") (268 : Nat)) (Value.ref (70 : Nat)), DictEntry.mk (PyData.keyHash P (Str.ofString "feed")) (Value.str (Str.ofString "feed") (278 : Nat)) (Value.ref (77 : Nat)), DictEntry.mk (PyData.keyHash P (Str.ofString "_maxlengths")) (Value.str (Str.ofString "_maxlengths") (285 : Nat)) (Value.ref (84 : Nat)), DictEntry.mk (PyData.keyHash P (Str.ofString "_ascii_split")) (Value.str (Str.ofString "_ascii_split") (295 : Nat)) (Value.ref (91 : Nat)), DictEntry.mk (PyData.keyHash P (Str.ofString "_append_chunk")) (Value.str (Str.ofString "_append_chunk") (309 : Nat)) (Value.ref (98 : Nat)), DictEntry.mk (PyData.keyHash P (Str.ofString "__static_attributes__")) (Value.str (Str.ofString "__static_attributes__") (316 : Nat)) (Value.ref (99 : Nat)), DictEntry.mk (PyData.keyHash P (Str.ofString "__dict__")) (Value.str (Str.ofString "__dict__") (318 : Nat)) (Value.ref (102 : Nat)), DictEntry.mk (PyData.keyHash P (Str.ofString "__weakref__")) (Value.str (Str.ofString "__weakref__") (320 : Nat)) (Value.ref (103 : Nat)), DictEntry.mk (PyData.keyHash P (Str.ofString "__doc__")) (Value.str (Str.ofString "__doc__") (321 : Nat)) Value.none]) (4 : Nat)) (List.toArray [])) ::
    (nat_lit 101, Obj.mk (Value.type "type") none (Data.cls (ClassData.mk (Str.ofString "_ValueFormatter") [Value.type "object"] [Value.ref (101 : Nat), Value.type "object"] (100 : Nat) (Str.ofString "_ValueFormatter") Bool.true [] [] Bool.false none Bool.false)) (List.toArray [none, none, some (Value.str (Str.ofString "_ValueFormatter") (216 : Nat)), some (Value.str (Str.ofString "_ValueFormatter") (224 : Nat)), some (Value.builtin "object.__new__"), some (Value.bool Bool.true)])) ::
    (nat_lit 102, Obj.mk (Value.type "getset_descriptor") none (Data.fields (List.toArray [Value.str (Str.ofString "__dict__") (317 : Nat), Value.ref (101 : Nat), Value.builtin "function.__dict__", Value.builtin "function.__dict__#set"])) (List.toArray [])) ::
    (nat_lit 103, Obj.mk (Value.type "getset_descriptor") none (Data.fields (List.toArray [Value.str (Str.ofString "__weakref__") (319 : Nat), Value.ref (101 : Nat), Value.builtin "ExceptionGroup.__weakref__", Value.none])) (List.toArray [])) ::
    (nat_lit 106, Obj.mk (Value.type "tuple") none (Data.seq (List.toArray [Value.type "list"]) (0 : Nat)) (List.toArray [])) ::
    (nat_lit 109, Obj.mk (Value.type "cell") none (Data.cell (some (Value.ref (185 : Nat)))) (List.toArray [])) ::
    (nat_lit 114, Obj.mk (Value.type "tuple") none (Data.seq (List.toArray [Value.int 0 (336 : Nat)]) (0 : Nat)) (List.toArray [])) ::
    (nat_lit 115, Obj.mk (Value.type "tuple") none (Data.seq (List.toArray [Value.ref (109 : Nat)]) (0 : Nat)) (List.toArray [])) ::
    (nat_lit 116, Obj.mk (Value.type "tuple") none (Data.seq (List.toArray [Value.str (Str.ofString "__class__") (340 : Nat)]) (0 : Nat)) (List.toArray [])) ::
    (nat_lit 118, Obj.mk (Value.type "tuple") none (Data.seq (List.toArray [Value.str (Str.ofString "self") (341 : Nat), Value.str (Str.ofString "initial_size") (342 : Nat)]) (0 : Nat)) (List.toArray [])) ::
    (nat_lit 119, Obj.mk (Value.type "tuple") none (Data.seq (List.toArray []) (0 : Nat)) (List.toArray [])) ::
    (nat_lit 121, Obj.mk (Value.type "code") none (Data.fields (List.toArray [Value.str (Str.ofString "__init__") (337 : Nat), Value.str (Str.ofString "_Accumulator.__init__") (338 : Nat), Value.str (Str.ofString "/claim/cut.py") (339 : Nat), Value.int 105 (0 : Nat), Value.int 2 (0 : Nat), Value.int 0 (0 : Nat), Value.int 0 (0 : Nat), Value.int 3 (0 : Nat), Value.ref (116 : Nat), Value.bool Bool.true, Value.int 181 (0 : Nat), Value.ref (117 : Nat), Value.none, Value.ref (118 : Nat), Value.ref (119 : Nat), Value.ref (120 : Nat), Value.int 343 (0 : Nat), Value.int 105 (0 : Nat), Value.str (Str.ofString "/claim/cut.py") (344 : Nat)])) (List.toArray [])) ::
    (nat_lit 122, Obj.mk (Value.type "function") none (Data.func (FuncData.mk (Str.ofString "__init__") (Str.ofString "_Accumulator.__init__") ?a11 (FuncBody.stmts ?b11) ?s11 (3 : Nat) [(Str.ofString "__class__", (109 : Nat))] (Value.ref (114 : Nat)) Value.none Value.none (Value.str (Str.ofString "cpy313.email.header") (210 : Nat)) none (Value.ref (121 : Nat)) (Value.ref (115 : Nat)) (0 : Nat))) (List.toArray [])) ::
    (nat_lit 123, Obj.mk (Value.type "tuple") none (Data.seq (List.toArray []) (0 : Nat)) (List.toArray [])) ::
    (nat_lit 125, Obj.mk (Value.type "tuple") none (Data.seq (List.toArray [Value.str (Str.ofString "self") (349 : Nat), Value.str (Str.ofString "fws") (350 : Nat), Value.str (Str.ofString "string") (351 : Nat)]) (0 : Nat)) (List.toArray [])) ::
    (nat_lit 126, Obj.mk (Value.type "tuple") none (Data.seq (List.toArray []) (0 : Nat)) (List.toArray [])) ::
    (nat_lit 128, Obj.mk (Value.type "code") none (Data.fields (List.toArray [Value.str (Str.ofString "push") (346 : Nat), Value.str (Str.ofString "_Accumulator.push") (347 : Nat), Value.str (Str.ofString "/claim/cut.py") (348 : Nat), Value.int 109 (0 : Nat), Value.int 3 (0 : Nat), Value.int 0 (0 : Nat), Value.int 0 (0 : Nat), Value.int 3 (0 : Nat), Value.ref (123 : Nat), Value.bool Bool.true, Value.int 181 (0 : Nat), Value.ref (124 : Nat), Value.none, Value.ref (125 : Nat), Value.ref (126 : Nat), Value.ref (127 : Nat), Value.int 352 (0 : Nat), Value.int 109 (0 : Nat), Value.str (Str.ofString "/claim/cut.py") (353 : Nat)])) (List.toArray [])) ::
    (nat_lit 129, Obj.mk (Value.type "function") none (Data.func (FuncData.mk (Str.ofString "push") (Str.ofString "_Accumulator.push") ?a12 (FuncBody.stmts ?b12) ?s12 (3 : Nat) ([] : List (Str × Nat)) Value.none Value.none Value.none (Value.str (Str.ofString "cpy313.email.header") (210 : Nat)) none (Value.ref (128 : Nat)) Value.none (0 : Nat))) (List.toArray [])) ::
    (nat_lit 130, Obj.mk (Value.type "tuple") none (Data.seq (List.toArray [Value.int 0 (355 : Nat)]) (0 : Nat)) (List.toArray [])) ::
    (nat_lit 131, Obj.mk (Value.type "tuple") none (Data.seq (List.toArray []) (0 : Nat)) (List.toArray [])) ::
    (nat_lit 133, Obj.mk (Value.type "tuple") none (Data.seq (List.toArray [Value.str (Str.ofString "self") (359 : Nat), Value.str (Str.ofString "i") (360 : Nat), Value.str (Str.ofString "popped") (361 : Nat)]) (0 : Nat)) (List.toArray [])) ::
    (nat_lit 134, Obj.mk (Value.type "tuple") none (Data.seq (List.toArray []) (0 : Nat)) (List.toArray [])) ::
    (nat_lit 136, Obj.mk (Value.type "code") none (Data.fields (List.toArray [Value.str (Str.ofString "pop_from") (356 : Nat), Value.str (Str.ofString "_Accumulator.pop_from") (357 : Nat), Value.str (Str.ofString "/claim/cut.py") (358 : Nat), Value.int 112 (0 : Nat), Value.int 2 (0 : Nat), Value.int 0 (0 : Nat), Value.int 0 (0 : Nat), Value.int 3 (0 : Nat), Value.ref (131 : Nat), Value.bool Bool.true, Value.int 181 (0 : Nat), Value.ref (132 : Nat), Value.none, Value.ref (133 : Nat), Value.ref (134 : Nat), Value.ref (135 : Nat), Value.int 362 (0 : Nat), Value.int 112 (0 : Nat), Value.str (Str.ofString "/claim/cut.py") (363 : Nat)])) (List.toArray [])) ::
    (nat_lit 137, Obj.mk (Value.type "function") none (Data.func (FuncData.mk (Str.ofString "pop_from") (Str.ofString "_Accumulator.pop_from") ?a13 (FuncBody.stmts ?b13) ?s13 (3 : Nat) ([] : List (Str × Nat)) (Value.ref (130 : Nat)) Value.none Value.none (Value.str (Str.ofString "cpy313.email.header") (210 : Nat)) none (Value.ref (136 : Nat)) Value.none (0 : Nat))) (List.toArray [])) ::
    (nat_lit 138, Obj.mk (Value.type "tuple") none (Data.seq (List.toArray [Value.ref (109 : Nat)]) (0 : Nat)) (List.toArray [])) ::
    (nat_lit 139, Obj.mk (Value.type "tuple") none (Data.seq (List.toArray [Value.str (Str.ofString "__class__") (368 : Nat)]) (0 : Nat)) (List.toArray [])) ::
    (nat_lit 141, Obj.mk (Value.type "tuple") none (Data.seq (List.toArray [Value.str (Str.ofString "self") (369 : Nat)]) (0 : Nat)) (List.toArray [])) ::
    (nat_lit 142, Obj.mk (Value.type "tuple") none (Data.seq (List.toArray []) (0 : Nat)) (List.toArray [])) ::
    (nat_lit 144, Obj.mk (Value.type "code") none (Data.fields (List.toArray [Value.str (Str.ofString "pop") (365 : Nat), Value.str (Str.ofString "_Accumulator.pop") (366 : Nat), Value.str (Str.ofString "/claim/cut.py") (367 : Nat), Value.int 117 (0 : Nat), Value.int 1 (0 : Nat), Value.int 0 (0 : Nat), Value.int 0 (0 : Nat), Value.int 3 (0 : Nat), Value.ref (139 : Nat), Value.bool Bool.true, Value.int 181 (0 : Nat), Value.ref (140 : Nat), Value.none, Value.ref (141 : Nat), Value.ref (142 : Nat), Value.ref (143 : Nat), Value.int 370 (0 : Nat), Value.int 117 (0 : Nat), Value.str (Str.ofString "/claim/cut.py") (371 : Nat)])) (List.toArray [])) ::
    (nat_lit 145, Obj.mk (Value.type "function") none (Data.func (FuncData.mk (Str.ofString "pop") (Str.ofString "_Accumulator.pop") ?a14 (FuncBody.stmts ?b14) ?s14 (3 : Nat) [(Str.ofString "__class__", (109 : Nat))] Value.none Value.none Value.none (Value.str (Str.ofString "cpy313.email.header") (210 : Nat)) none (Value.ref (144 : Nat)) (Value.ref (138 : Nat)) (0 : Nat))) (List.toArray [])) ::
    (nat_lit 146, Obj.mk (Value.type "tuple") none (Data.seq (List.toArray []) (0 : Nat)) (List.toArray [])) ::
    (nat_lit 148, Obj.mk (Value.type "tuple") none (Data.seq (List.toArray [Value.str (Str.ofString "self") (376 : Nat)]) (0 : Nat)) (List.toArray [])) ::
    (nat_lit 149, Obj.mk (Value.type "tuple") none (Data.seq (List.toArray []) (0 : Nat)) (List.toArray [])) ::
    (nat_lit 151, Obj.mk (Value.type "code") none (Data.fields (List.toArray [Value.str (Str.ofString "__len__") (373 : Nat), Value.str (Str.ofString "_Accumulator.__len__") (374 : Nat), Value.str (Str.ofString "/claim/cut.py") (375 : Nat), Value.int 122 (0 : Nat), Value.int 1 (0 : Nat), Value.int 0 (0 : Nat), Value.int 0 (0 : Nat), Value.int 3 (0 : Nat), Value.ref (146 : Nat), Value.bool Bool.true, Value.int 181 (0 : Nat), Value.ref (147 : Nat), Value.none, Value.ref (148 : Nat), Value.ref (149 : Nat), Value.ref (150 : Nat), Value.int 377 (0 : Nat), Value.int 122 (0 : Nat), Value.str (Str.ofString "/claim/cut.py") (378 : Nat)])) (List.toArray [])) ::
    (nat_lit 152, Obj.mk (Value.type "function") none (Data.func (FuncData.mk (Str.ofString "__len__") (Str.ofString "_Accumulator.__len__") ?a15 (FuncBody.stmts ?b15) ?s15 (3 : Nat) ([] : List (Str × Nat)) Value.none Value.none Value.none (Value.str (Str.ofString "cpy313.email.header") (210 : Nat)) none (Value.ref (151 : Nat)) Value.none (0 : Nat))) (List.toArray [])) ::
    (nat_lit 153, Obj.mk (Value.type "tuple") none (Data.seq (List.toArray []) (0 : Nat)) (List.toArray [])) ::
    (nat_lit 155, Obj.mk (Value.type "tuple") none (Data.seq (List.toArray [Value.str (Str.ofString "self") (383 : Nat)]) (0 : Nat)) (List.toArray [])) ::
    (nat_lit 156, Obj.mk (Value.type "tuple") none (Data.seq (List.toArray []) (0 : Nat)) (List.toArray [])) ::
    (nat_lit 158, Obj.mk (Value.type "code") none (Data.fields (List.toArray [Value.str (Str.ofString "__str__") (380 : Nat), Value.str (Str.ofString "_Accumulator.__str__") (381 : Nat), Value.str (Str.ofString "/claim/cut.py") (382 : Nat), Value.int 125 (0 : Nat), Value.int 1 (0 : Nat), Value.int 0 (0 : Nat), Value.int 0 (0 : Nat), Value.int 3 (0 : Nat), Value.ref (153 : Nat), Value.bool Bool.true, Value.int 181 (0 : Nat), Value.ref (154 : Nat), Value.none, Value.ref (155 : Nat), Value.ref (156 : Nat), Value.ref (157 : Nat), Value.int 384 (0 : Nat), Value.int 125 (0 : Nat), Value.str (Str.ofString "/claim/cut.py") (385 : Nat)])) (List.toArray [])) ::
    (nat_lit 159, Obj.mk (Value.type "function") none (Data.func (FuncData.mk (Str.ofString "__str__") (Str.ofString "_Accumulator.__str__") ?a16 (FuncBody.stmts ?b16) ?s16 (3 : Nat) ([] : List (Str × Nat)) Value.none Value.none Value.none (Value.str (Str.ofString "cpy313.email.header") (210 : Nat)) none (Value.ref (158 : Nat)) Value.none (0 : Nat))) (List.toArray [])) ::
    (nat_lit 160, Obj.mk (Value.type "tuple") none (Data.seq (List.toArray [Value.none]) (0 : Nat)) (List.toArray [])) ::
    (nat_lit 161, Obj.mk (Value.type "tuple") none (Data.seq (List.toArray []) (0 : Nat)) (List.toArray [])) ::
    (nat_lit 163, Obj.mk (Value.type "tuple") none (Data.seq (List.toArray [Value.str (Str.ofString "self") (390 : Nat), Value.str (Str.ofString "startval") (391 : Nat)]) (0 : Nat)) (List.toArray [])) ::
    (nat_lit 164, Obj.mk (Value.type "tuple") none (Data.seq (List.toArray []) (0 : Nat)) (List.toArray [])) ::
    (nat_lit 166, Obj.mk (Value.type "code") none (Data.fields (List.toArray [Value.str (Str.ofString "reset") (387 : Nat), Value.str (Str.ofString "_Accumulator.reset") (388 : Nat), Value.str (Str.ofString "/claim/cut.py") (389 : Nat), Value.int 128 (0 : Nat), Value.int 2 (0 : Nat), Value.int 0 (0 : Nat), Value.int 0 (0 : Nat), Value.int 3 (0 : Nat), Value.ref (161 : Nat), Value.bool Bool.true, Value.int 181 (0 : Nat), Value.ref (162 : Nat), Value.none, Value.ref (163 : Nat), Value.ref (164 : Nat), Value.ref (165 : Nat), Value.int 392 (0 : Nat), Value.int 128 (0 : Nat), Value.str (Str.ofString "/claim/cut.py") (393 : Nat)])) (List.toArray [])) ::
    (nat_lit 167, Obj.mk (Value.type "function") none (Data.func (FuncData.mk (Str.ofString "reset") (Str.ofString "_Accumulator.reset") ?a17 (FuncBody.stmts ?b17) ?s17 (3 : Nat) ([] : List (Str × Nat)) (Value.ref (160 : Nat)) Value.none Value.none (Value.str (Str.ofString "cpy313.email.header") (210 : Nat)) none (Value.ref (166 : Nat)) Value.none (0 : Nat))) (List.toArray [])) ::
    (nat_lit 168, Obj.mk (Value.type "tuple") none (Data.seq (List.toArray []) (0 : Nat)) (List.toArray [])) ::
    (nat_lit 170, Obj.mk (Value.type "tuple") none (Data.seq (List.toArray [Value.str (Str.ofString "self") (398 : Nat)]) (0 : Nat)) (List.toArray [])) ::
    (nat_lit 171, Obj.mk (Value.type "tuple") none (Data.seq (List.toArray []) (0 : Nat)) (List.toArray [])) ::
    (nat_lit 173, Obj.mk (Value.type "code") none (Data.fields (List.toArray [Value.str (Str.ofString "is_onlyws") (395 : Nat), Value.str (Str.ofString "_Accumulator.is_onlyws") (396 : Nat), Value.str (Str.ofString "/claim/cut.py") (397 : Nat), Value.int 134 (0 : Nat), Value.int 1 (0 : Nat), Value.int 0 (0 : Nat), Value.int 0 (0 : Nat), Value.int 3 (0 : Nat), Value.ref (168 : Nat), Value.bool Bool.true, Value.int 181 (0 : Nat), Value.ref (169 : Nat), Value.none, Value.ref (170 : Nat), Value.ref (171 : Nat), Value.ref (172 : Nat), Value.int 399 (0 : Nat), Value.int 134 (0 : Nat), Value.str (Str.ofString "/claim/cut.py") (400 : Nat)])) (List.toArray [])) ::
    (nat_lit 174, Obj.mk (Value.type "function") none (Data.func (FuncData.mk (Str.ofString "is_onlyws") (Str.ofString "_Accumulator.is_onlyws") ?a18 (FuncBody.stmts ?b18) ?s18 (3 : Nat) ([] : List (Str × Nat)) Value.none Value.none Value.none (Value.str (Str.ofString "cpy313.email.header") (210 : Nat)) none (Value.ref (173 : Nat)) Value.none (0 : Nat))) (List.toArray [])) ::
    (nat_lit 175, Obj.mk (Value.type "tuple") none (Data.seq (List.toArray [Value.ref (109 : Nat)]) (0 : Nat)) (List.toArray [])) ::
    (nat_lit 176, Obj.mk (Value.type "tuple") none (Data.seq (List.toArray [Value.str (Str.ofString "__class__") (405 : Nat)]) (0 : Nat)) (List.toArray [])) ::
    (nat_lit 178, Obj.mk (Value.type "tuple") none (Data.seq (List.toArray [Value.str (Str.ofString "self") (406 : Nat)]) (0 : Nat)) (List.toArray [])) ::
    (nat_lit 179, Obj.mk (Value.type "tuple") none (Data.seq (List.toArray []) (0 : Nat)) (List.toArray [])) ::
    (nat_lit 181, Obj.mk (Value.type "code") none (Data.fields (List.toArray [Value.str (Str.ofString "part_count") (402 : Nat), Value.str (Str.ofString "_Accumulator.part_count") (403 : Nat), Value.str (Str.ofString "/claim/cut.py") (404 : Nat), Value.int 137 (0 : Nat), Value.int 1 (0 : Nat), Value.int 0 (0 : Nat), Value.int 0 (0 : Nat), Value.int 3 (0 : Nat), Value.ref (176 : Nat), Value.bool Bool.true, Value.int 181 (0 : Nat), Value.ref (177 : Nat), Value.none, Value.ref (178 : Nat), Value.ref (179 : Nat), Value.ref (180 : Nat), Value.int 407 (0 : Nat), Value.int 137 (0 : Nat), Value.str (Str.ofString "/claim/cut.py") (408 : Nat)])) (List.toArray [])) ::
    (nat_lit 182, Obj.mk (Value.type "function") none (Data.func (FuncData.mk (Str.ofString "part_count") (Str.ofString "_Accumulator.part_count") ?a19 (FuncBody.stmts ?b19) ?s19 (3 : Nat) [(Str.ofString "__class__", (109 : Nat))] Value.none Value.none Value.none (Value.str (Str.ofString "cpy313.email.header") (210 : Nat)) none (Value.ref (181 : Nat)) (Value.ref (175 : Nat)) (0 : Nat))) (List.toArray [])) ::
    (nat_lit 183, Obj.mk (Value.type "tuple") none (Data.seq (List.toArray [Value.str (Str.ofString "_initial_size") (410 : Nat)]) (0 : Nat)) (List.toArray [])) ::
    (nat_lit 184, Obj.mk (Value.type "dict") none (Data.dict (List.toArray [DictEntry.mk (PyData.keyHash P (Str.ofString "__module__")) (Value.str (Str.ofString "__module__") (331 : Nat)) (Value.str (Str.ofString "cpy313.email.header") (210 : Nat)), DictEntry.mk (PyData.keyHash P (Str.ofString "__firstlineno__")) (Value.str (Str.ofString "__firstlineno__") (335 : Nat)) (Value.int 103 (334 : Nat)), DictEntry.mk (PyData.keyHash P (Str.ofString "__init__")) (Value.str (Str.ofString "__init__") (345 : Nat)) (Value.ref (122 : Nat)), DictEntry.mk (PyData.keyHash P (Str.ofString "push")) (Value.str (Str.ofString "push") (354 : Nat)) (Value.ref (129 : Nat)), DictEntry.mk (PyData.keyHash P (Str.ofString "pop_from")) (Value.str (Str.ofString "pop_from") (364 : Nat)) (Value.ref (137 : Nat)), DictEntry.mk (PyData.keyHash P (Str.ofString "pop")) (Value.str (Str.ofString "pop") (372 : Nat)) (Value.ref (145 : Nat)), DictEntry.mk (PyData.keyHash P (Str.ofString "__len__")) (Value.str (Str.ofString "__len__") (379 : Nat)) (Value.ref (152 : Nat)), DictEntry.mk (PyData.keyHash P (Str.ofString "__str__")) (Value.str (Str.ofString "__str__") (386 : Nat)) (Value.ref (159 : Nat)), DictEntry.mk (PyData.keyHash P (Str.ofString "reset")) (Value.str (Str.ofString "reset") (394 : Nat)) (Value.ref (167 : Nat)), DictEntry.mk (PyData.keyHash P (Str.ofString "is_onlyws")) (Value.str (Str.ofString "is_onlyws") (401 : Nat)) (Value.ref (174 : Nat)), DictEntry.mk (PyData.keyHash P (Str.ofString "part_count")) (Value.str (Str.ofString "part_count") (409 : Nat)) (Value.ref (182 : Nat)), DictEntry.mk (PyData.keyHash P (Str.ofString "__static_attributes__")) (Value.str (Str.ofString "__static_attributes__") (411 : Nat)) (Value.ref (183 : Nat)), DictEntry.mk (PyData.keyHash P (Str.ofString "__dict__")) (Value.str (Str.ofString "__dict__") (414 : Nat)) (Value.ref (186 : Nat)), DictEntry.mk (PyData.keyHash P (Str.ofString "__weakref__")) (Value.str (Str.ofString "__weakref__") (416 : Nat)) (Value.ref (187 : Nat)), DictEntry.mk (PyData.keyHash P (Str.ofString "__doc__")) (Value.str (Str.ofString "__doc__") (417 : Nat)) Value.none]) (5 : Nat)) (List.toArray [])) ::
    (nat_lit 185, Obj.mk (Value.type "type") none (Data.cls (ClassData.mk (Str.ofString "_Accumulator") [Value.type "list"] [Value.ref (185 : Nat), Value.type "list", Value.type "object"] (184 : Nat) (Str.ofString "_Accumulator") Bool.true [] [] Bool.false none Bool.false)) (List.toArray [some (Value.ref (106 : Nat)), none, some (Value.str (Str.ofString "_Accumulator") (324 : Nat)), some (Value.str (Str.ofString "_Accumulator") (332 : Nat)), some (Value.builtin "list.__new__"), some (Value.bool Bool.true)])) ::
    (nat_lit 186, Obj.mk (Value.type "getset_descriptor") none (Data.fields (List.toArray [Value.str (Str.ofString "__dict__") (413 : Nat), Value.ref (185 : Nat), Value.builtin "function.__dict__", Value.builtin "function.__dict__#set"])) (List.toArray [])) ::
    (nat_lit 187, Obj.mk (Value.type "getset_descriptor") none (Data.fields (List.toArray [Value.str (Str.ofString "__weakref__") (415 : Nat), Value.ref (185 : Nat), Value.builtin "ExceptionGroup.__weakref__", Value.none])) (List.toArray [])) ::
    (nat_lit 200, Obj.mk (Value.type "tuple") none (Data.seq (List.toArray []) (0 : Nat)) (List.toArray [])) ::
    (nat_lit 202, Obj.mk (Value.type "tuple") none (Data.seq (List.toArray [Value.str (Str.ofString "self") (442 : Nat), Value.str (Str.ofString "ws") (443 : Nat), Value.str (Str.ofString "S") (444 : Nat), Value.str (Str.ofString "T") (445 : Nat), Value.str (Str.ofString "count") (446 : Nat), Value.str (Str.ofString "b") (447 : Nat), Value.str (Str.ofString "n") (448 : Nat), Value.str (Str.ofString "nt") (449 : Nat), Value.str (Str.ofString "ch") (450 : Nat)]) (0 : Nat)) (List.toArray [])) ::
    (nat_lit 203, Obj.mk (Value.type "tuple") none (Data.seq (List.toArray []) (0 : Nat)) (List.toArray [])) ::
    (nat_lit 205, Obj.mk (Value.type "code") none (Data.fields (List.toArray [Value.str (Str.ofString "__init__") (439 : Nat), Value.str (Str.ofString "Whitespace.__init__") (440 : Nat), Value.str (Str.ofString "/claim/cut.py") (441 : Nat), Value.int 143 (0 : Nat), Value.int 2 (0 : Nat), Value.int 0 (0 : Nat), Value.int 0 (0 : Nat), Value.int 3 (0 : Nat), Value.ref (200 : Nat), Value.bool Bool.true, Value.int 181 (0 : Nat), Value.ref (201 : Nat), Value.none, Value.ref (202 : Nat), Value.ref (203 : Nat), Value.ref (204 : Nat), Value.int 451 (0 : Nat), Value.int 143 (0 : Nat), Value.str (Str.ofString "/claim/cut.py") (452 : Nat)])) (List.toArray [])) ::
    (nat_lit 206, Obj.mk (Value.type "function") none (Data.func (FuncData.mk (Str.ofString "__init__") (Str.ofString "Whitespace.__init__") ?a20 (FuncBody.stmts ?b20) ?s20 (3 : Nat) ([] : List (Str × Nat)) Value.none Value.none Value.none (Value.str (Str.ofString "cpy313.tabnanny") (420 : Nat)) none (Value.ref (205 : Nat)) Value.none (0 : Nat))) (List.toArray [])) ::
    (nat_lit 207, Obj.mk (Value.type "tuple") none (Data.seq (List.toArray []) (0 : Nat)) (List.toArray [])) ::
    (nat_lit 209, Obj.mk (Value.type "tuple") none (Data.seq (List.toArray [Value.str (Str.ofString "self") (457 : Nat)]) (0 : Nat)) (List.toArray [])) ::
    (nat_lit 210, Obj.mk (Value.type "tuple") none (Data.seq (List.toArray []) (0 : Nat)) (List.toArray [])) ::
    (nat_lit 212, Obj.mk (Value.type "code") none (Data.fields (List.toArray [Value.str (Str.ofString "longest_run_of_spaces") (454 : Nat), Value.str (Str.ofString "Whitespace.longest_run_of_spaces") (455 : Nat), Value.str (Str.ofString "/claim/cut.py") (456 : Nat), Value.int 166 (0 : Nat), Value.int 1 (0 : Nat), Value.int 0 (0 : Nat), Value.int 0 (0 : Nat), Value.int 3 (0 : Nat), Value.ref (207 : Nat), Value.bool Bool.true, Value.int 181 (0 : Nat), Value.ref (208 : Nat), Value.none, Value.ref (209 : Nat), Value.ref (210 : Nat), Value.ref (211 : Nat), Value.int 458 (0 : Nat), Value.int 166 (0 : Nat), Value.str (Str.ofString "/claim/cut.py") (459 : Nat)])) (List.toArray [])) ::
    (nat_lit 213, Obj.mk (Value.type "function") none (Data.func (FuncData.mk (Str.ofString "longest_run_of_spaces") (Str.ofString "Whitespace.longest_run_of_spaces") ?a21 (FuncBody.stmts ?b21) ?s21 (3 : Nat) ([] : List (Str × Nat)) Value.none Value.none Value.none (Value.str (Str.ofString "cpy313.tabnanny") (420 : Nat)) none (Value.ref (212 : Nat)) Value.none (0 : Nat))) (List.toArray [])) ::
    (nat_lit 214, Obj.mk (Value.type "tuple") none (Data.seq (List.toArray []) (0 : Nat)) (List.toArray [])) ::
    (nat_lit 216, Obj.mk (Value.type "tuple") none (Data.seq (List.toArray [Value.str (Str.ofString "self") (464 : Nat), Value.str (Str.ofString "tabsize") (465 : Nat), Value.str (Str.ofString "count") (466 : Nat), Value.str (Str.ofString "trailing") (467 : Nat), Value.str (Str.ofString "il") (468 : Nat), Value.str (Str.ofString "i") (469 : Nat)]) (0 : Nat)) (List.toArray [])) ::
    (nat_lit 217, Obj.mk (Value.type "tuple") none (Data.seq (List.toArray []) (0 : Nat)) (List.toArray [])) ::
    (nat_lit 219, Obj.mk (Value.type "code") none (Data.fields (List.toArray [Value.str (Str.ofString "indent_level") (461 : Nat), Value.str (Str.ofString "Whitespace.indent_level") (462 : Nat), Value.str (Str.ofString "/claim/cut.py") (463 : Nat), Value.int 169 (0 : Nat), Value.int 2 (0 : Nat), Value.int 0 (0 : Nat), Value.int 0 (0 : Nat), Value.int 3 (0 : Nat), Value.ref (214 : Nat), Value.bool Bool.true, Value.int 181 (0 : Nat), Value.ref (215 : Nat), Value.none, Value.ref (216 : Nat), Value.ref (217 : Nat), Value.ref (218 : Nat), Value.int 470 (0 : Nat), Value.int 169 (0 : Nat), Value.str (Str.ofString "/claim/cut.py") (471 : Nat)])) (List.toArray [])) ::
    (nat_lit 220, Obj.mk (Value.type "function") none (Data.func (FuncData.mk (Str.ofString "indent_level") (Str.ofString "Whitespace.indent_level") ?a22 (FuncBody.stmts ?b22) ?s22 (3 : Nat) ([] : List (Str × Nat)) Value.none Value.none Value.none (Value.str (Str.ofString "cpy313.tabnanny") (420 : Nat)) none (Value.ref (219 : Nat)) Value.none (0 : Nat))) (List.toArray [])) ::
    (nat_lit 221, Obj.mk (Value.type "tuple") none (Data.seq (List.toArray []) (0 : Nat)) (List.toArray [])) ::
    (nat_lit 223, Obj.mk (Value.type "tuple") none (Data.seq (List.toArray [Value.str (Str.ofString "self") (476 : Nat), Value.str (Str.ofString "other") (477 : Nat)]) (0 : Nat)) (List.toArray [])) ::
    (nat_lit 224, Obj.mk (Value.type "tuple") none (Data.seq (List.toArray []) (0 : Nat)) (List.toArray [])) ::
    (nat_lit 226, Obj.mk (Value.type "code") none (Data.fields (List.toArray [Value.str (Str.ofString "equal") (473 : Nat), Value.str (Str.ofString "Whitespace.equal") (474 : Nat), Value.str (Str.ofString "/claim/cut.py") (475 : Nat), Value.int 176 (0 : Nat), Value.int 2 (0 : Nat), Value.int 0 (0 : Nat), Value.int 0 (0 : Nat), Value.int 3 (0 : Nat), Value.ref (221 : Nat), Value.bool Bool.true, Value.int 181 (0 : Nat), Value.ref (222 : Nat), Value.none, Value.ref (223 : Nat), Value.ref (224 : Nat), Value.ref (225 : Nat), Value.int 478 (0 : Nat), Value.int 176 (0 : Nat), Value.str (Str.ofString "/claim/cut.py") (479 : Nat)])) (List.toArray [])) ::
    (nat_lit 227, Obj.mk (Value.type "function") none (Data.func (FuncData.mk (Str.ofString "equal") (Str.ofString "Whitespace.equal") ?a23 (FuncBody.stmts ?b23) ?s23 (3 : Nat) ([] : List (Str × Nat)) Value.none Value.none Value.none (Value.str (Str.ofString "cpy313.tabnanny") (420 : Nat)) none (Value.ref (226 : Nat)) Value.none (0 : Nat))) (List.toArray [])) ::
    (nat_lit 228, Obj.mk (Value.type "tuple") none (Data.seq (List.toArray []) (0 : Nat)) (List.toArray [])) ::
    (nat_lit 230, Obj.mk (Value.type "tuple") none (Data.seq (List.toArray [Value.str (Str.ofString "self") (484 : Nat), Value.str (Str.ofString "other") (485 : Nat)]) (0 : Nat)) (List.toArray [])) ::
    (nat_lit 231, Obj.mk (Value.type "tuple") none (Data.seq (List.toArray []) (0 : Nat)) (List.toArray [])) ::
    (nat_lit 233, Obj.mk (Value.type "code") none (Data.fields (List.toArray [Value.str (Str.ofString "not_equal_witness") (481 : Nat), Value.str (Str.ofString "Whitespace.not_equal_witness") (482 : Nat), Value.str (Str.ofString "/claim/cut.py") (483 : Nat), Value.int 179 (0 : Nat), Value.int 2 (0 : Nat), Value.int 0 (0 : Nat), Value.int 0 (0 : Nat), Value.int 3 (0 : Nat), Value.ref (228 : Nat), Value.bool Bool.true, Value.int 181 (0 : Nat), Value.ref (229 : Nat), Value.none, Value.ref (230 : Nat), Value.ref (231 : Nat), Value.ref (232 : Nat), Value.int 486 (0 : Nat), Value.int 179 (0 : Nat), Value.str (Str.ofString "/claim/cut.py") (487 : Nat)])) (List.toArray [])) ::
    (nat_lit 234, Obj.mk (Value.type "function") none (Data.func (FuncData.mk (Str.ofString "not_equal_witness") (Str.ofString "Whitespace.not_equal_witness") ?a24 (FuncBody.stmts ?b24) ?s24 (3 : Nat) ([] : List (Str × Nat)) Value.none Value.none Value.none (Value.str (Str.ofString "cpy313.tabnanny") (420 : Nat)) none (Value.ref (233 : Nat)) Value.none (0 : Nat))) (List.toArray [])) ::
    (nat_lit 235, Obj.mk (Value.type "tuple") none (Data.seq (List.toArray []) (0 : Nat)) (List.toArray [])) ::
    (nat_lit 237, Obj.mk (Value.type "tuple") none (Data.seq (List.toArray [Value.str (Str.ofString "self") (492 : Nat), Value.str (Str.ofString "other") (493 : Nat)]) (0 : Nat)) (List.toArray [])) ::
    (nat_lit 238, Obj.mk (Value.type "tuple") none (Data.seq (List.toArray []) (0 : Nat)) (List.toArray [])) ::
    (nat_lit 240, Obj.mk (Value.type "code") none (Data.fields (List.toArray [Value.str (Str.ofString "less") (489 : Nat), Value.str (Str.ofString "Whitespace.less") (490 : Nat), Value.str (Str.ofString "/claim/cut.py") (491 : Nat), Value.int 182 (0 : Nat), Value.int 2 (0 : Nat), Value.int 0 (0 : Nat), Value.int 0 (0 : Nat), Value.int 3 (0 : Nat), Value.ref (235 : Nat), Value.bool Bool.true, Value.int 181 (0 : Nat), Value.ref (236 : Nat), Value.none, Value.ref (237 : Nat), Value.ref (238 : Nat), Value.ref (239 : Nat), Value.int 494 (0 : Nat), Value.int 182 (0 : Nat), Value.str (Str.ofString "/claim/cut.py") (495 : Nat)])) (List.toArray [])) ::
    (nat_lit 241, Obj.mk (Value.type "function") none (Data.func (FuncData.mk (Str.ofString "less") (Str.ofString "Whitespace.less") ?a25 (FuncBody.stmts ?b25) ?s25 (3 : Nat) ([] : List (Str × Nat)) Value.none Value.none Value.none (Value.str (Str.ofString "cpy313.tabnanny") (420 : Nat)) none (Value.ref (240 : Nat)) Value.none (0 : Nat))) (List.toArray [])) ::
    (nat_lit 242, Obj.mk (Value.type "tuple") none (Data.seq (List.toArray []) (0 : Nat)) (List.toArray [])) ::
    (nat_lit 244, Obj.mk (Value.type "tuple") none (Data.seq (List.toArray [Value.str (Str.ofString "self") (500 : Nat), Value.str (Str.ofString "other") (501 : Nat)]) (0 : Nat)) (List.toArray [])) ::
    (nat_lit 245, Obj.mk (Value.type "tuple") none (Data.seq (List.toArray []) (0 : Nat)) (List.toArray [])) ::
    (nat_lit 247, Obj.mk (Value.type "code") none (Data.fields (List.toArray [Value.str (Str.ofString "not_less_witness") (497 : Nat), Value.str (Str.ofString "Whitespace.not_less_witness") (498 : Nat), Value.str (Str.ofString "/claim/cut.py") (499 : Nat), Value.int 185 (0 : Nat), Value.int 2 (0 : Nat), Value.int 0 (0 : Nat), Value.int 0 (0 : Nat), Value.int 3 (0 : Nat), Value.ref (242 : Nat), Value.bool Bool.true, Value.int 181 (0 : Nat), Value.ref (243 : Nat), Value.none, Value.ref (244 : Nat), Value.ref (245 : Nat), Value.ref (246 : Nat), Value.int 502 (0 : Nat), Value.int 185 (0 : Nat), Value.str (Str.ofString "/claim/cut.py") (503 : Nat)])) (List.toArray [])) ::
    (nat_lit 248, Obj.mk (Value.type "function") none (Data.func (FuncData.mk (Str.ofString "not_less_witness") (Str.ofString "Whitespace.not_less_witness") ?a26 (FuncBody.stmts ?b26) ?s26 (3 : Nat) ([] : List (Str × Nat)) Value.none Value.none Value.none (Value.str (Str.ofString "cpy313.tabnanny") (420 : Nat)) none (Value.ref (247 : Nat)) Value.none (0 : Nat))) (List.toArray [])) ::
    (nat_lit 249, Obj.mk (Value.type "tuple") none (Data.seq (List.toArray [Value.str (Str.ofString "is_simple") (505 : Nat), Value.str (Str.ofString "n") (506 : Nat), Value.str (Str.ofString "norm") (507 : Nat), Value.str (Str.ofString "nt") (508 : Nat), Value.str (Str.ofString "raw") (509 : Nat)]) (0 : Nat)) (List.toArray [])) ::
    (nat_lit 250, Obj.mk (Value.type "dict") none (Data.dict (List.toArray [DictEntry.mk (PyData.keyHash P (Str.ofString "__module__")) (Value.str (Str.ofString "__module__") (429 : Nat)) (Value.str (Str.ofString "cpy313.tabnanny") (420 : Nat)), DictEntry.mk (PyData.keyHash P (Str.ofString "__firstlineno__")) (Value.str (Str.ofString "__firstlineno__") (433 : Nat)) (Value.int 140 (432 : Nat)), DictEntry.mk (PyData.keyHash P (Str.ofString "S")) (Value.str (Str.ofString "S") (437 : Nat)) (Value.str (Str.ofString " ") (435 : Nat)), DictEntry.mk (PyData.keyHash P (Str.ofString "T")) (Value.str (Str.ofString "T") (438 : Nat)) (Value.str (Str.ofString "\t") (436 : Nat)), DictEntry.mk (PyData.keyHash P (Str.ofString "__init__")) (Value.str (Str.ofString "__init__") (453 : Nat)) (Value.ref (206 : Nat)), DictEntry.mk (PyData.keyHash P (Str.ofString "longest_run_of_spaces")) (Value.str (Str.ofString "longest_run_of_spaces") (460 : Nat)) (Value.ref (213 : Nat)), DictEntry.mk (PyData.keyHash P (Str.ofString "indent_level")) (Value.str (Str.ofString "indent_level") (472 : Nat)) (Value.ref (220 : Nat)), DictEntry.mk (PyData.keyHash P (Str.ofString "equal")) (Value.str (Str.ofString "equal") (480 : Nat)) (Value.ref (227 : Nat)), DictEntry.mk (PyData.keyHash P (Str.ofString "not_equal_witness")) (Value.str (Str.ofString "not_equal_witness") (488 : Nat)) (Value.ref (234 : Nat)), DictEntry.mk (PyData.keyHash P (Str.ofString "less")) (Value.str (Str.ofString "less") (496 : Nat)) (Value.ref (241 : Nat)), DictEntry.mk (PyData.keyHash P (Str.ofString "not_less_witness")) (Value.str (Str.ofString "not_less_witness") (504 : Nat)) (Value.ref (248 : Nat)), DictEntry.mk (PyData.keyHash P (Str.ofString "__static_attributes__")) (Value.str (Str.ofString "__static_attributes__") (510 : Nat)) (Value.ref (249 : Nat)), DictEntry.mk (PyData.keyHash P (Str.ofString "__dict__")) (Value.str (Str.ofString "__dict__") (512 : Nat)) (Value.ref (252 : Nat)), DictEntry.mk (PyData.keyHash P (Str.ofString "__weakref__")) (Value.str (Str.ofString "__weakref__") (514 : Nat)) (Value.ref (253 : Nat)), DictEntry.mk (PyData.keyHash P (Str.ofString "__doc__")) (Value.str (Str.ofString "__doc__") (515 : Nat)) Value.none]) (4 : Nat)) (List.toArray [])) ::
    (nat_lit 251, Obj.mk (Value.type "type") none (Data.cls (ClassData.mk (Str.ofString "Whitespace") [Value.type "object"] [Value.ref (251 : Nat), Value.type "object"] (250 : Nat) (Str.ofString "Whitespace") Bool.true [] [] Bool.false none Bool.false)) (List.toArray [none, none, some (Value.str (Str.ofString "Whitespace") (422 : Nat)), some (Value.str (Str.ofString "Whitespace") (430 : Nat)), some (Value.builtin "object.__new__"), some (Value.bool Bool.true)])) ::
    (nat_lit 252, Obj.mk (Value.type "getset_descriptor") none (Data.fields (List.toArray [Value.str (Str.ofString "__dict__") (511 : Nat), Value.ref (251 : Nat), Value.builtin "function.__dict__", Value.builtin "function.__dict__#set"])) (List.toArray [])) ::
    (nat_lit 253, Obj.mk (Value.type "getset_descriptor") none (Data.fields (List.toArray [Value.str (Str.ofString "__weakref__") (513 : Nat), Value.ref (251 : Nat), Value.builtin "ExceptionGroup.__weakref__", Value.none])) (List.toArray [])) ::
    (nat_lit 256, Obj.mk (Value.type "tuple") none (Data.seq (List.toArray []) (0 : Nat)) (List.toArray [])) ::
    (nat_lit 259, Obj.mk (Value.type "code") none (Data.fields (List.toArray [Value.str (Str.ofString "_law_columns") (520 : Nat), Value.str (Str.ofString "_law_columns") (521 : Nat), Value.str (Str.ofString "/claim/cut.py") (522 : Nat), Value.int 188 (0 : Nat), Value.int 3 (0 : Nat), Value.int 0 (0 : Nat), Value.int 0 (0 : Nat), Value.int 3 (0 : Nat), Value.ref (256 : Nat), Value.bool Bool.true, Value.int 181 (0 : Nat), Value.ref (257 : Nat), Value.none, Value.none, Value.none, Value.ref (258 : Nat), Value.int 523 (0 : Nat), Value.int 188 (0 : Nat), Value.str (Str.ofString "/claim/cut.py") (524 : Nat)])) (List.toArray [])) ::
    (nat_lit 260, Obj.mk (Value.type "function") none (Data.func (FuncData.mk (Str.ofString "_law_columns") (Str.ofString "_law_columns") ?a27 (FuncBody.stmts ?b27) ?s27 (3 : Nat) ([] : List (Str × Nat)) Value.none Value.none Value.none (Value.str (Str.ofString "law_sr0083_01") (518 : Nat)) none (Value.ref (259 : Nat)) Value.none (0 : Nat))) (List.toArray [])) ::
    (nat_lit 261, Obj.mk (Value.type "tuple") none (Data.seq (List.toArray []) (0 : Nat)) (List.toArray [])) ::
    (nat_lit 263, Obj.mk (Value.type "tuple") none (Data.seq (List.toArray [Value.str (Str.ofString "column") (529 : Nat), Value.str (Str.ofString "count") (530 : Nat), Value.str (Str.ofString "twice") (531 : Nat), Value.str (Str.ofString "many") (532 : Nat), Value.str (Str.ofString "more") (533 : Nat), Value.str (Str.ofString "verdict") (534 : Nat)]) (0 : Nat)) (List.toArray [])) ::
    (nat_lit 264, Obj.mk (Value.type "tuple") none (Data.seq (List.toArray []) (0 : Nat)) (List.toArray [])) ::
    (nat_lit 266, Obj.mk (Value.type "code") none (Data.fields (List.toArray [Value.str (Str.ofString "_law_taken") (526 : Nat), Value.str (Str.ofString "_law_taken") (527 : Nat), Value.str (Str.ofString "/claim/cut.py") (528 : Nat), Value.int 194 (0 : Nat), Value.int 1 (0 : Nat), Value.int 0 (0 : Nat), Value.int 0 (0 : Nat), Value.int 3 (0 : Nat), Value.ref (261 : Nat), Value.bool Bool.true, Value.int 181 (0 : Nat), Value.ref (262 : Nat), Value.none, Value.ref (263 : Nat), Value.ref (264 : Nat), Value.ref (265 : Nat), Value.int 535 (0 : Nat), Value.int 194 (0 : Nat), Value.str (Str.ofString "/claim/cut.py") (536 : Nat)])) (List.toArray [])) ::
    (nat_lit 267, Obj.mk (Value.type "function") none (Data.func (FuncData.mk (Str.ofString "_law_taken") (Str.ofString "_law_taken") ?a28 (FuncBody.stmts ?b28) ?s28 (3 : Nat) ([] : List (Str × Nat)) Value.none Value.none Value.none (Value.str (Str.ofString "law_sr0083_01") (518 : Nat)) none (Value.ref (266 : Nat)) Value.none (0 : Nat))) (List.toArray [])) ::
    (nat_lit 268, Obj.mk (Value.type "tuple") none (Data.seq (List.toArray []) (0 : Nat)) (List.toArray [])) ::
    (nat_lit 270, Obj.mk (Value.type "tuple") none (Data.seq (List.toArray [Value.str (Str.ofString "coins") (541 : Nat), Value.str (Str.ofString "worth") (542 : Nat), Value.str (Str.ofString "k") (543 : Nat), Value.str (Str.ofString "other") (544 : Nat)]) (0 : Nat)) (List.toArray [])) ::
    (nat_lit 271, Obj.mk (Value.type "tuple") none (Data.seq (List.toArray []) (0 : Nat)) (List.toArray [])) ::
    (nat_lit 273, Obj.mk (Value.type "code") none (Data.fields (List.toArray [Value.str (Str.ofString "_law_worth") (538 : Nat), Value.str (Str.ofString "_law_worth") (539 : Nat), Value.str (Str.ofString "/claim/cut.py") (540 : Nat), Value.int 204 (0 : Nat), Value.int 1 (0 : Nat), Value.int 0 (0 : Nat), Value.int 0 (0 : Nat), Value.int 3 (0 : Nat), Value.ref (268 : Nat), Value.bool Bool.true, Value.int 181 (0 : Nat), Value.ref (269 : Nat), Value.none, Value.ref (270 : Nat), Value.ref (271 : Nat), Value.ref (272 : Nat), Value.int 545 (0 : Nat), Value.int 204 (0 : Nat), Value.str (Str.ofString "/claim/cut.py") (546 : Nat)])) (List.toArray [])) ::
    (nat_lit 274, Obj.mk (Value.type "function") none (Data.func (FuncData.mk (Str.ofString "_law_worth") (Str.ofString "_law_worth") ?a29 (FuncBody.stmts ?b29) ?s29 (3 : Nat) ([] : List (Str × Nat)) Value.none Value.none Value.none (Value.str (Str.ofString "law_sr0083_01") (518 : Nat)) none (Value.ref (273 : Nat)) Value.none (0 : Nat))) (List.toArray [])) ::
    (nat_lit 275, Obj.mk (Value.type "tuple") none (Data.seq (List.toArray []) (0 : Nat)) (List.toArray [])) ::
    (nat_lit 278, Obj.mk (Value.type "code") none (Data.fields (List.toArray [Value.str (Str.ofString "law") (548 : Nat), Value.str (Str.ofString "law") (549 : Nat), Value.str (Str.ofString "/claim/cut.py") (550 : Nat), Value.int 211 (0 : Nat), Value.int 1 (0 : Nat), Value.int 0 (0 : Nat), Value.int 0 (0 : Nat), Value.int 3 (0 : Nat), Value.ref (275 : Nat), Value.bool Bool.true, Value.int 181 (0 : Nat), Value.ref (276 : Nat), Value.none, Value.none, Value.none, Value.ref (277 : Nat), Value.int 551 (0 : Nat), Value.int 211 (0 : Nat), Value.str (Str.ofString "/claim/cut.py") (552 : Nat)])) (List.toArray [])) ::
    (nat_lit 279, Obj.mk (Value.type "function") none (Data.func (FuncData.mk (Str.ofString "law") (Str.ofString "law") ?a30 (FuncBody.stmts ?b30) ?s30 (3 : Nat) ([] : List (Str × Nat)) Value.none Value.none Value.none (Value.str (Str.ofString "law_sr0083_01") (518 : Nat)) none (Value.ref (278 : Nat)) Value.none (0 : Nat))) (List.toArray [])) :: []) (fnP (stm 0)) (?a0, ?b0, ?s0) ?h0) (fnP (stm 3)) (?a1, ?b1, ?s1) ?h1) (fnP (sub 7 0)) (?a2, ?b2, ?s2) ?h2) (fnP (sub 7 1)) (?a3, ?b3, ?s3) ?h3) (fnP (sub 7 2)) (?a4, ?b4, ?s4) ?h4) (fnP (sub 7 3)) (?a5, ?b5, ?s5) ?h5) (fnP (sub 7 4)) (?a6, ?b6, ?s6) ?h6) (fnP (sub 7 5)) (?a7, ?b7, ?s7) ?h7) (fnP (sub 7 6)) (?a8, ?b8, ?s8) ?h8) (fnP (sub 7 7)) (?a9, ?b9, ?s9) ?h9) (fnP (sub 7 8)) (?a10, ?b10, ?s10) ?h10) (fnP (sub 8 0)) (?a11, ?b11, ?s11) ?h11) (fnP (sub 8 1)) (?a12, ?b12, ?s12) ?h12) (fnP (sub 8 2)) (?a13, ?b13, ?s13) ?h13) (fnP (sub 8 3)) (?a14, ?b14, ?s14) ?h14) (fnP (sub 8 4)) (?a15, ?b15, ?s15) ?h15) (fnP (sub 8 5)) (?a16, ?b16, ?s16) ?h16) (fnP (sub 8 6)) (?a17, ?b17, ?s17) ?h17) (fnP (sub 8 7)) (?a18, ?b18, ?s18) ?h18) (fnP (sub 8 8)) (?a19, ?b19, ?s19) ?h19) (fnP (sub 10 1)) (?a20, ?b20, ?s20) ?h20) (fnP (sub 10 2)) (?a21, ?b21, ?s21) ?h21) (fnP (sub 10 3)) (?a22, ?b22, ?s22) ?h22) (fnP (sub 10 4)) (?a23, ?b23, ?s23) ?h23) (fnP (sub 10 5)) (?a24, ?b24, ?s24) ?h24) (fnP (sub 10 6)) (?a25, ?b25, ?s25) ?h25) (fnP (sub 10 7)) (?a26, ?b26, ?s26) ?h26) (fnP (stm 12)) (?a27, ?b27, ?s27) ?h27) (fnP (stm 13)) (?a28, ?b28, ?s28) ?h28) (fnP (stm 14)) (?a29, ?b29, ?s29) ?h29) (fnP (stm 15)) (?a30, ?b30, ?s30) ?h30
  case kp => exact fun K _ _ _ => K
  case h0 => (conv => lhs; whnf)
  case h1 => (conv => lhs; whnf)
  case h2 => (conv => lhs; whnf)
  case h3 => (conv => lhs; whnf)
  case h4 => (conv => lhs; whnf)
  case h5 => (conv => lhs; whnf)
  case h6 => (conv => lhs; whnf)
  case h7 => (conv => lhs; whnf)
  case h8 => (conv => lhs; whnf)
  case h9 => (conv => lhs; whnf)
  case h10 => (conv => lhs; whnf)
  case h11 => (conv => lhs; whnf)
  case h12 => (conv => lhs; whnf)
  case h13 => (conv => lhs; whnf)
  case h14 => (conv => lhs; whnf)
  case h15 => (conv => lhs; whnf)
  case h16 => (conv => lhs; whnf)
  case h17 => (conv => lhs; whnf)
  case h18 => (conv => lhs; whnf)
  case h19 => (conv => lhs; whnf)
  case h20 => (conv => lhs; whnf)
  case h21 => (conv => lhs; whnf)
  case h22 => (conv => lhs; whnf)
  case h23 => (conv => lhs; whnf)
  case h24 => (conv => lhs; whnf)
  case h25 => (conv => lhs; whnf)
  case h26 => (conv => lhs; whnf)
  case h27 => (conv => lhs; whnf)
  case h28 => (conv => lhs; whnf)
  case h29 => (conv => lhs; whnf)
  case h30 => (conv => lhs; whnf)
noncomputable def hd.view_39 : Program := by
  refine (?kp : Program → ∀ x y : Stmt, x = y → Program) (?kp (?kp (?kp (?kp (?kp (?kp (?kp (?kp (?kp (?kp (?kp ({ Challenge.pw_sr0083_01 with main := { Challenge.pw_sr0083_01.main with body := [?c0, ?c2, ?c3, ?c5, ?c6, ?c7, ?c8, ?c10, ?c12, ?c13, ?c14, ?c15] } }) (stm 0) ?c0 ?h0) (stm 2) ?c2 ?h2) (stm 3) ?c3 ?h3) (stm 5) ?c5 ?h5) (stm 6) ?c6 ?h6) (stm 7) ?c7 ?h7) (stm 8) ?c8 ?h8) (stm 10) ?c10 ?h10) (stm 12) ?c12 ?h12) (stm 13) ?c13 ?h13) (stm 14) ?c14 ?h14) (stm 15) ?c15 ?h15
  case kp => exact fun K _ _ _ => K
  case h0 => (conv => lhs; whnf)
  case h2 => (conv => lhs; whnf)
  case h3 => (conv => lhs; whnf)
  case h5 => (conv => lhs; whnf)
  case h6 => (conv => lhs; whnf)
  case h7 => (conv => lhs; whnf)
  case h8 => (conv => lhs; whnf)
  case h10 => (conv => lhs; whnf)
  case h12 => (conv => lhs; whnf)
  case h13 => (conv => lhs; whnf)
  case h14 => (conv => lhs; whnf)
  case h15 => (conv => lhs; whnf)
end Mine
end
end
section
open PySem PySem.W PyProof.Rows PySem.Calls PySem.Spec
set_option Elab.async false
namespace Mine
section
variable {M : Model} {A : Around} {E : Value → Shared → Prop}
/-- the state of the run said afresh: a heap and a ledger over a state at rest -/
theorem stNorm2 {α : Type} {t : Sem α} {Q : α → Shared → Prop} {h : Heap} {G : Array GenState} {D O} {k} (s₀ : Shared) (H : ∀ k, wpAny M A t Q E { s₀ with heap := h, toks := k }) (e2 : G = s₀.gens := by rfl) (e3 : D = s₀.drawn := by rfl) (e4 : O = s₀.os := by rfl) : wpAny M A t Q E ⟨h, G, D, k, O⟩ := by
  subst e2 e3 e4
  exact H k
/-- what a block does behind its first statement is left out of sight while that is walked -/
noncomputable def Aft (M : Model) (A : Around) (rest : List Stmt) (env : Env) (Q : Flow → Shared → Prop) (E : Value → Shared → Prop) (P : Flow → Shared → Prop) : Prop :=
  ∀ f s, (match f with | .next => wpAny M A (execs rest env) Q E s | f => Q f s) → P f s
theorem exCons {h : Heap} {G : Array GenState} {D O} {k} {st : Stmt} {rest : List Stmt} {env : Env} {Q : Flow → Shared → Prop} (s₀ : Shared) (H : ∀ k P, Aft M A rest env Q E P → wpAny M A (exec st env) P E { s₀ with heap := h, toks := k }) (e2 : G = s₀.gens := by rfl) (e3 : D = s₀.drawn := by rfl) (e4 : O = s₀.os := by rfl) : wpAny M A (execs (st :: rest) env) Q E ⟨h, G, D, k, O⟩ := by
  subst e2 e3 e4
  exact wpAny_execs_cons (H k _ fun _ _ h => h)
theorem Aft.next {rest : List Stmt} {env : Env} {Q P : Flow → Shared → Prop} {s : Shared} (h : Aft M A rest env Q E P) (g : wpAny M A (execs rest env) Q E s) : P .next s := h _ _ g
theorem Aft.ret {rest : List Stmt} {env : Env} {Q P : Flow → Shared → Prop} {s : Shared} {v : Value} (h : Aft M A rest env Q E P) (g : Q (.ret v) s) : P (.ret v) s := h (.ret v) s g
theorem Aft.brk {rest : List Stmt} {env : Env} {Q P : Flow → Shared → Prop} {s : Shared} (h : Aft M A rest env Q E P) (g : Q .brk s) : P .brk s := h .brk s g
theorem Aft.cont {rest : List Stmt} {env : Env} {Q P : Flow → Shared → Prop} {s : Shared} (h : Aft M A rest env Q E P) (g : Q .cont s) : P .cont s := h .cont s g
theorem exCons0 {st : Stmt} {rest : List Stmt} {env : Env} {Q : Flow → Shared → Prop} {s : Shared} (H : ∀ P, Aft M A rest env Q E P → wpAny M A (exec st env) P E s) : wpAny M A (execs (st :: rest) env) Q E s := wpAny_execs_cons (H _ fun _ _ h => h)
end
theorem room0 {a K R : Nat} (h : a + K < R) : a < R := Nat.lt_of_le_of_lt (Nat.le_add_right a K) h
theorem room1 {a K R b : Nat} (h : a + K < R) (hb : b ≤ K) : a + b < R := Nat.lt_of_le_of_lt (Nat.add_le_add_left hb a) h
theorem room2 {a K R b c : Nat} (h : a + K < R) (hb : b + c ≤ K) : a + b + c < R := by rw [Nat.add_assoc]; exact room1 h hb
theorem room3 {a K R b c d : Nat} (h : a + K < R) (hb : b + c + d ≤ K) : a + b + c + d < R := by rw [Nat.add_assoc, Nat.add_assoc, ← Nat.add_assoc b c d]; exact room1 h hb
end Mine
end
local macro_rules | `(tactic| omega) => `(tactic| first | decide | with_reducible exact Nat.le_trans (by assumption) (by decide) | with_reducible exact Nat.lt_of_le_of_lt (by assumption) (by decide) | with_reducible exact Mine.room0 (by assumption) | with_reducible exact Mine.room2 (by assumption) (by decide) | with_reducible exact Mine.room1 (by assumption) (by decide) | with_reducible exact Mine.room3 (by assumption) (by decide) | with_reducible exact Int.le_trans (by assumption) (by decide) | with_reducible exact Int.lt_of_le_of_lt (by assumption) (by decide) | fail "no cheap way")
section
open PySem PySem.W PyProof.Rows PySem.Calls PySem.Spec
set_option Elab.async false
namespace Mine
section
variable {prog : Program} {w : World} {A : Around} {E : Value → Shared → Prop} {s : Shared} {env : Env} {h₀ : Heap} {x : Str} {body : List Stmt} {Q : Flow → Shared → Prop}

/-- a loop over a list of the ledger, whatever its values -/
theorem loop_vals {l : Addr} {vs : List Value} {nn : Nat} {m₀ : Str → Option Value} {news : List (Addr × Obj)} (J : Nat → (Str → Option Value) → List (Addr × Obj) → Prop)
    (hh : A.handled = none) (hl : (l, listOf vs.toArray nn) ∈ news) (F : Fr h₀ env.locals s.heap m₀) (N : News h₀ env.locals s.heap news) (hj : J 0 m₀ news)
    (hk : ∀ i m nx, J i m nx → (l, listOf vs.toArray nn) ∈ nx)
    (turn : ∀ i v m₁ nx h tk own, vs[i]? = some v → nx.map (·.1) = news.map (·.1) → OwnOff own (news.map (·.1)) → J i m₁ nx → Fr h₀ env.locals h (fun y => if y = x then some v else m₁ y) → News h₀ env.locals h (nx ++ own) →
      wpAny (model prog w) A (execs body env) (InvPostN h₀ env.locals (J (i + 1)) own (news.map (·.1)) { s with heap := h, toks := tk } Q) E { s with heap := h, toks := tk })
    (done : ∀ m₁ nx h tk, J vs.length m₁ nx → Fr h₀ env.locals h m₁ → News h₀ env.locals h nx → Q .next { s with heap := h, toks := tk }) :
    wpAny (model prog w) A (pyIter (.ref l)) (fun it s₂ => LoopAtV prog w A h₀ env x body Q E it s₂) E s := by
  have at_l : s.heap.get? l = some (listOf vs.toArray nn) := N.get hl
  have is_l : s.heap.IsList l vs.toArray := ⟨_, at_l, rfl, nn, rfl⟩
  have I_new : ∀ q ∈ news, q.1 ≠ s.heap.objs.size := fun q hq => Nat.ne_of_lt (Heap.lt_size (N q hq).1)
  have W := Walks.list (prog := prog) (w := w) hh s.heap.objs.size l (I_new _ hl) vs.toArray
  refine wpAny_pyIter_list is_l ⟨s.heap.objs.size, [s.heap.objs.size, l], [s.heap.objs.size], vs.toArray.size, _, _, m₀, news,
    (fun i m nx => nx.map (·.1) = news.map (·.1) ∧ J i m nx), rfl, W, ?_, ?_, ?_, ⟨⟨_, Heap.get?_push_size _ rfl, rfl, rfl⟩, is_l.at fun o e => Heap.get?_push_of_some _ e⟩, F.push _, (fun p hp => ⟨Heap.get?_push_of_some _ (N p hp).1, (N p hp).2⟩), ⟨rfl, hj⟩, ?_, ?_⟩
  · rw [List.mem_cons, List.mem_singleton]
    rintro (e | e)
    · exact Nat.lt_irrefl _ (e ▸ F.ns.lt)
    · exact (N _ hl).2.1 e.symm
  · intro b hb
    rw [List.mem_singleton] at hb
    subst hb
    exact next_is_new F
  · intro p hp hI
    exact I_new p hp (List.mem_singleton.mp hI)
  · rintro i v m₁ nx s₁ own ⟨h, tk, rfl⟩ hin hP ⟨hadr, hJ⟩ hoff hown hget _ _ F₁ N₁
    have hl₁ := hk i m₁ nx hJ
    have hlo : h.get? l = some (listOf vs.toArray nn) := (N₁ _ (List.mem_append.mpr (.inr hl₁))).1
    -- what of the own part is not the list itself
    let own' := own.filter fun p => decide (p.1 = s.heap.objs.size)
    have own_in : ∀ p ∈ own', p ∈ own ∧ p.1 = s.heap.objs.size := fun p hp => by
      have q := List.mem_filter.mp hp
      exact ⟨q.1, by simpa using q.2⟩
    have sep : OwnOff own' (news.map (·.1)) := fun p hp b hb e => by
      obtain ⟨q, hq, rfl⟩ := List.mem_map.mp hb
      exact I_new q hq (e ▸ (own_in p hp).2)
    have N₂ : News h₀ env.locals h (nx ++ own') := fun p hp => N₁ p (by
      rcases List.mem_append.mp hp with q | q
      · exact List.mem_append.mpr (.inr q)
      · exact List.mem_append.mpr (.inl (own_in p q).1))
    have hv : vs[i]? = some v := by simpa using hP
    refine wpAny_mono (turn i v m₁ nx h tk own' hv hadr sep hJ F₁ N₂) (fun f s₂ p => ?_) fun _ _ e => e
    have fin : InvEndN h₀ env.locals (J (i + 1)) own' (news.map (·.1)) { s with heap := h, toks := tk } s₂ →
        LoopStepU h₀ env.locals [s.heap.objs.size] own (fun m nx => nx.map (·.1) = news.map (·.1) ∧ J (i + 1) m nx) { s with heap := h, toks := tk } .next s₂ := by
      rintro ⟨h', tk', m', news', nx', e, F', N', hn, ho, ha, hm⟩
      refine ⟨rfl, h', tk', m', nx', e, F', fun p hp => ?_, fun p hp hI => ?_, ha, hm⟩
      · rcases List.mem_append.mp hp with q | q
        · rcases List.mem_cons.mp (hown p q) with e1 | e1
          · exact N' p (ho p (List.mem_filter.mpr ⟨q, by simpa using e1⟩))
          · have e2 := List.mem_singleton.mp e1
            have e3 := hget p q
            rw [e2, hlo] at e3
            have e4 : p = (l, listOf vs.toArray nn) := Prod.ext e2 (Option.some.inj e3).symm
            rw [e4]
            exact N' _ (hn _ (hk _ _ _ hm))
        · exact N' p (hn p q)
      · have e1 : p.1 ∈ nx'.map (·.1) := List.mem_map.mpr ⟨p, hp, rfl⟩
        rw [ha] at e1
        obtain ⟨q, hq, e2⟩ := List.mem_map.mp e1
        exact I_new q hq (e2.trans (List.mem_singleton.mp hI))
    cases f with
    | ret v => exact .ret p
    | brk => exact .brk p
    | next => exact .next (fin p)
    | cont => exact .cont (fin p)
  · rintro h' tk m' nx' F' N' _ ⟨_, hJ⟩
    exact done m' nx' h' tk (by simpa using hJ) F' N'

/-- what a loop turns: a state c, its ledger, its names -/
noncomputable def St {σ : Type} (Led : σ → List (Addr × Obj)) (ps : σ → List (Str × Value)) (x : Str) (stored : List Str) (m₀ : Str → Option Value) (P : Nat → σ → Prop) (i : Nat) (m : Str → Option Value) (nx : List (Addr × Obj)) : Prop :=
  ∃ c : σ, nx = Led c ∧ (∀ p ∈ ps c, m p.1 = some p.2) ∧ (∀ z, z ≠ x → (∀ p ∈ ps c, z ≠ p.1) → stored.contains z = false → m z = m₀ z) ∧ P i c

theorem loop_st {σ : Type} {l : Addr} {vs : List Value} {nn : Nat} {m₀ : Str → Option Value} (Led : σ → List (Addr × Obj)) (ps : σ → List (Str × Value)) (stored : List Str) (P : Nat → σ → Prop) (c₀ : σ)
    (hh : A.handled = none) (hl : ∀ c, (l, listOf vs.toArray nn) ∈ Led c) (F : Fr h₀ env.locals s.heap m₀) (N : News h₀ env.locals s.heap (Led c₀)) (hk : ∀ p ∈ ps c₀, m₀ p.1 = some p.2) (hp : P 0 c₀)
    (turn : ∀ (c : σ) i v (u : Str → Option Value) h tk own, vs[i]? = some v → OwnOff own ((Led c₀).map (·.1)) → P i c →
      Fr h₀ env.locals h (fun y => if y = x then some v else kstB (fun z => if stored.contains z then u z else m₀ z) (ps c) y) → News h₀ env.locals h (Led c ++ own) →
      wpAny (model prog w) A (execs body env) (InvPostN h₀ env.locals (St Led ps x stored m₀ P (i + 1)) own ((Led c₀).map (·.1)) { s with heap := h, toks := tk } Q) E { s with heap := h, toks := tk })
    (done : ∀ (c : σ) (u : Str → Option Value) h tk, P vs.length c → Fr h₀ env.locals h (fun y => if y = x then u y else kstB (fun z => if stored.contains z then u z else m₀ z) (ps c) y) → News h₀ env.locals h (Led c) → Q .next { s with heap := h, toks := tk }) :
    wpAny (model prog w) A (pyIter (.ref l)) (fun it s₂ => LoopAtV prog w A h₀ env x body Q E it s₂) E s := by
  refine loop_vals (St Led ps x stored m₀ P) hh (hl c₀) F N ⟨c₀, rfl, hk, fun _ _ _ _ => rfl, hp⟩ (by rintro i m nx ⟨c, rfl, _⟩; exact hl c) ?_ ?_
  · rintro i v m₁ nx h tk own hv _ hoff ⟨c, rfl, h1, h2, hp'⟩ F₁ N₁
    exact turn c i v m₁ h tk own hv hoff hp' (kst_fr h1 h2 F₁) N₁
  · rintro m₁ nx h tk ⟨c, rfl, h1, h2, hp'⟩ F₁ N₁
    exact done c m₁ h tk hp' (kst_frOut h1 h2 F₁) N₁
end
end Mine
end
section
open PySem PySem.W PyProof.Rows PySem.Calls PySem.Spec
set_option Elab.async false
namespace Mine
/-- the state of a loop that turns one int: its ledger stands, the name y holds c, some names are forgotten -/
noncomputable def RI (x y : Str) (stored : List Str) (m₀ : Str → Option Value) (news : List (Addr × Obj)) (c : Int) (m : Str → Option Value) (nx : List (Addr × Obj)) : Prop :=
  nx = news ∧ (∃ t, m y = some (.int c t)) ∧ ∀ z, z ≠ x → z ≠ y → stored.contains z = false → m z = m₀ z
theorem RI_map {x y : Str} {stored : List Str} {m₀ m : Str → Option Value} {c : Int} {tc : Tok} {v : Option Value} (hc : m y = some (.int c tc)) (hm : ∀ z, z ≠ x → z ≠ y → stored.contains z = false → m z = m₀ z) :
    (fun z => if z = x then v else m z) = fun z => if z = x then v else if z = y then some (.int c tc) else if stored.contains z then m z else m₀ z := by
  funext z
  by_cases h1 : z = x
  · simp [h1]
  · simp only [if_neg h1]
    by_cases h2 : z = y
    · subst h2; simp [hc]
    · simp only [if_neg h2]
      cases h3 : stored.contains z with
      | true => simp
      | false => simp [hm z h1 h2 h3]
theorem RI_map0 {x y : Str} {stored : List Str} {m₀ m : Str → Option Value} {c : Int} {tc : Tok} (hc : m y = some (.int c tc)) (hm : ∀ z, z ≠ x → z ≠ y → stored.contains z = false → m z = m₀ z) :
    m = fun z => if z = x then m z else if z = y then some (.int c tc) else if stored.contains z then m z else m₀ z := by
  funext z
  by_cases h1 : z = x
  · simp [h1]
  · simp only [if_neg h1]
    by_cases h2 : z = y
    · subst h2; simp [hc]
    · simp only [if_neg h2]
      cases h3 : stored.contains z with
      | true => simp
      | false => simp [hm z h1 h2 h3]
section
variable {prog : Program} {w : World} {A : Around} {E : Value → Shared → Prop} {s : Shared} {env : Env} {h₀ : Heap} {body : List Stmt} {Q : Flow → Shared → Prop}
theorem loop_count {x : Str} (g : Int → Int → Int) (y : Str) (stored : List Str) {r : Addr} {a₀ b₀ : Int} {t₀ u₀ v₀ : Tok} {n : Nat} {m₀ : Str → Option Value} {news : List (Addr × Obj)} {c₀ : Int} {tc₀ : Tok}
    (hh : A.handled = none) (hr : IsRange s.heap r a₀ b₀ 1 t₀ u₀ v₀) (hsmall : Builtin.Range.small a₀ b₀ 1 = true) (hn : Builtin.Range.rangeSize a₀ b₀ 1 = (n : Int)) (F : Fr h₀ env.locals s.heap m₀) (N : News h₀ env.locals s.heap news) (hy : m₀ y = some (.int c₀ tc₀))
    (turn : ∀ k t c tc (u : Str → Option Value) h tk own, k ∈ rangeKs a₀ n → OwnOff own (news.map (·.1)) → Fr h₀ env.locals h (fun z => if z = x then some (.int k t) else if z = y then some (.int c tc) else if stored.contains z then u z else m₀ z) → News h₀ env.locals h (news ++ own) →
      wpAny (model prog w) A (execs body env) (InvPostN h₀ env.locals (RI x y stored m₀ news (g c k)) own (news.map (·.1)) { s with heap := h, toks := tk } Q) E { s with heap := h, toks := tk })
    (done : ∀ (u : Str → Option Value) t h tk, Fr h₀ env.locals h (fun z => if z = x then u z else if z = y then some (.int ((rangeKs a₀ n).foldl g c₀) t) else if stored.contains z then u z else m₀ z) → News h₀ env.locals h news → Q .next { s with heap := h, toks := tk }) :
    wpAny (model prog w) A (pyIter (.ref r)) (fun it s₂ => LoopAtV prog w A h₀ env x body Q E it s₂) E s := by
  refine iter_rangeS (RI x y stored m₀ news) g c₀ hh hr hsmall hn F N ⟨rfl, ⟨_, hy⟩, fun _ _ _ _ => rfl⟩ ?_ ?_
  · rintro k t c m₁ nx h tk own hk hoff ⟨rfl, ⟨tc, hc⟩, hm⟩ F₁ N₁
    rw [RI_map hc hm] at F₁
    exact turn k t c tc m₁ h tk own hk hoff F₁ N₁
  · rintro m₁ nx h tk ⟨rfl, ⟨tc, hc⟩, hm⟩ F₁ N₁
    rw [RI_map0 hc hm] at F₁
    exact done m₁ tc h tk F₁ N₁
theorem RI_end {x y : Str} {stored : List Str} {m₀ : Str → Option Value} {news : List (Addr × Obj)} {c d : Int} {t : Tok} {L : Addr} {m' : Str → Option Value} {own news' : List (Addr × Obj)} {s₁ : Shared} {h' : Heap} {tk : Nat}
    (F : Fr h₀ L h' m') (N : News h₀ L h' news') (hn : ∀ p ∈ news, p ∈ news') (ho : ∀ p ∈ own, p ∈ news') (hy : m' y = some (.int d t)) (hd : d = c) (hm : ∀ z, z ≠ x → z ≠ y → stored.contains z = false → m' z = m₀ z) :
    InvEndN h₀ L (RI x y stored m₀ news c) own (news.map (·.1)) s₁ { s₁ with heap := h', toks := tk } :=
  InvEndN.intro F N ⟨rfl, ⟨t, by rw [hy, hd]⟩, hm⟩ rfl hn ho
end

/-- what a def of the text answers: for all frames below with room d, all ledgers -/
@[reducible] noncomputable def Callee (w : World) (mean : ExcName → Option Value) (mg mb : Str → Option Value) (f : Addr) (news : List (Addr × Obj)) (d : Nat) (pre : Prop) (vs : List Value) (R : Tok → Value) : Prop :=
  ∀ (dp un : Nat) (gd : Option (List Code)) (cn : Str) (cs : Scope) (a : Addr) (ccd : Value) (cl : List (Str × Addr)) (outer : List Env) (A₀ : Around) (base h₀ : Heap) (L : Addr) (m : Str → Option Value) (s : Shared) (Q E : Value → Shared → Prop) (p : Program) (loose : List Str),
    Below A₀ base outer h₀ → Fr h₀ L s.heap m → (hd.heap_39 w.params).In h₀ → News h₀ L s.heap news → Top p loose mean mg mb h₀ → cs.kind = .function →
    pre → dp + d < recursionLimit → un + 8 * d < cLine → CbRet h₀ L m news s Q R →
      wpAny (model Challenge.rw_sr0083_01.row.prog w) (ktrTop dp un gd cn cs L a ccd cl outer) (call (.ref f) vs) Q E s

end Mine
end
section
open PySem PySem.W PyProof.Rows PySem.Calls PySem.Spec
set_option Elab.async false
namespace Mine
section
variable {prog : Program} {w : World} {A : Around} {E : Value → Shared → Prop} {s : Shared} {env : Env} {h₀ : Heap} {body : List Stmt} {Q : Flow → Shared → Prop}
/-- a loop over a list of ints of the ledger that turns one int -/
theorem loop_countL {x : Str} (g : Int → Int → Int) (y : Str) (stored : List Str) {l : Addr} {vs : List Value} {ns : List Int} {nn : Nat} {m₀ : Str → Option Value} {news : List (Addr × Obj)} {c₀ : Int} {tc₀ : Tok}
    (hh : A.handled = none) (hl : (l, listOf vs.toArray nn) ∈ news) (hI : IntsAre vs ns) (F : Fr h₀ env.locals s.heap m₀) (N : News h₀ env.locals s.heap news) (hy : m₀ y = some (.int c₀ tc₀))
    (turn : ∀ k t c tc (u : Str → Option Value) h tk own, k ∈ ns → OwnOff own (news.map (·.1)) → Fr h₀ env.locals h (fun z => if z = x then some (.int k t) else if z = y then some (.int c tc) else if stored.contains z then u z else m₀ z) → News h₀ env.locals h (news ++ own) →
      wpAny (model prog w) A (execs body env) (InvPostN h₀ env.locals (RI x y stored m₀ news (g c k)) own (news.map (·.1)) { s with heap := h, toks := tk } Q) E { s with heap := h, toks := tk })
    (done : ∀ (u : Str → Option Value) t h tk, Fr h₀ env.locals h (fun z => if z = x then u z else if z = y then some (.int (ns.foldl g c₀) t) else if stored.contains z then u z else m₀ z) → News h₀ env.locals h news → Q .next { s with heap := h, toks := tk }) :
    wpAny (model prog w) A (pyIter (.ref l)) (fun it s₂ => LoopAtV prog w A h₀ env x body Q E it s₂) E s := by
  refine loop_vals (fun i => RI x y stored m₀ news ((ns.take i).foldl g c₀)) hh hl F N ⟨rfl, ⟨_, by simpa using hy⟩, fun _ _ _ _ => rfl⟩ (by rintro i m nx ⟨rfl, _⟩; exact hl) ?_ ?_
  · rintro i v m₁ nx h tk own hv _ hoff ⟨rfl, ⟨tc, hc⟩, hm⟩ F₁ N₁
    rw [RI_map hc hm] at F₁
    have hi : i < ns.length := by
      rw [← hI.length]
      exact (List.getElem?_eq_some_iff.mp hv).1
    obtain ⟨t, ht⟩ := hI.get i ns[i] (by simp [hi])
    rw [hv] at ht
    cases ht
    have hs : (ns.take (i + 1)).foldl g c₀ = g ((ns.take i).foldl g c₀) ns[i] := by
      have e : ns[i]? = some ns[i] := by simp [hi]
      rw [List.take_add_one, e, List.foldl_append]
      rfl
    rw [hs]
    exact turn ns[i] t _ tc m₁ h tk own (List.getElem_mem _) hoff F₁ N₁
  · rintro m₁ nx h tk ⟨rfl, ⟨tc, hc⟩, hm⟩ F₁ N₁
    rw [RI_map0 hc hm] at F₁
    rw [hI.length, List.take_length] at F₁
    exact done m₁ tc h tk F₁ N₁
end

section
variable {prog : Program} {w : World} {A : Around} {E : Value → Shared → Prop} {s : Shared} {h₀ : Heap} {L : Addr} {m : Str → Option Value} {news : List (Addr × Obj)}
theorem item_ints {value slice : PySem.Expr} {l : Addr} {vs : List Value} {ns : List Int} {nn : Nat} {k : Int} {u : Tok} {Q : Value → Shared → Prop} (N : News h₀ L s.heap news) (hm : (l, listOf vs.toArray nn) ∈ news) (hI : IntsAre vs ns)
    (h0 : 0 ≤ k) (h1 : k < ns.length) (hfit : k < 2 ^ 63) (h : ∀ t, Q (.int (ns.getD k.toNat 0) t) s)
    (hs : subscripted slice false (.ref l) (.int k u) = operate [.ref l, .int k u] (getItem (.ref l) (.int k u)) := by with_unfolding_all rfl) :
    wpAny (model prog w) A (subscriptTail value slice (.ref l) (.int k u)) Q E s :=
  item_anyK ⟨_, N.get hm, rfl, nn, rfl⟩ hI h0 h1 hfit h hs
end
end Mine
end
section
open PySem PySem.W PyProof.Rows PySem.Calls PySem.Spec
set_option Elab.async false
namespace Mine
noncomputable def signs (x : Str) : List Str := x.cps.toList.map fun c => (⟨#[c]⟩ : Str)
section
variable {prog : Program} {w : World} {A : Around} {E : Value → Shared → Prop} {s : Shared} {env : Env} {h₀ : Heap} {x : Str} {body : List Stmt} {Q : Flow → Shared → Prop}
theorem unrPost_mono {L : Addr} {s₁ : Shared} {I : Addr} {it : Obj} {R R' : (Str → Option Value) → List (Addr × Obj) → Prop} (hR : ∀ m nx, (∀ p ∈ nx, p.1 ≠ I) → R m nx → R' m nx) {f : Flow} {s₂ : Shared} (h : UnrPost h₀ L s₁ I it R Q f s₂) : UnrPost h₀ L s₁ I it R' Q f s₂ := by
  have up : UnrEnd h₀ L s₁ I it R s₂ → UnrEnd h₀ L s₁ I it R' s₂ := by
    rintro ⟨h', tk, m', nx, e, F', N', hI, r⟩
    exact ⟨h', tk, m', nx, e, F', N', hI, hR _ _ hI r⟩
  cases f with
  | ret v => exact h
  | brk => exact h
  | next => exact up h
  | cont => exact up h
theorem strRest_of (R : List Str → (Str → Option Value) → List (Addr × Obj) → Prop) (I : Addr)
    (turn : ∀ c r m nx u it h tk, R (c :: r) m nx → (∀ p ∈ nx, p.1 ≠ I) → Fr h₀ env.locals h (fun y => if y = x then some (.str c u) else m y) → News h₀ env.locals h ((I, it) :: nx) →
      wpAny (model prog w) A (execs body env) (UnrPost h₀ env.locals { s with heap := h, toks := tk } I it (R r) Q) E { s with heap := h, toks := tk })
    (done : ∀ m nx h tk, R [] m nx → Fr h₀ env.locals h m → News h₀ env.locals h nx → Q .next { s with heap := h, toks := tk }) :
    ∀ l m nx, R l m nx → (∀ p ∈ nx, p.1 ≠ I) → StrRest prog w A E h₀ env x body Q s I l m nx
  | [], m, nx, hR, _ => StrRest.zero fun h tk F N => done m nx h tk hR F N
  | c :: r, m, nx, hR, hI => StrRest.succ fun u it h tk F N =>
      wpAny_mono (turn c r m nx u it h tk hR hI F N) (fun _ _ p => unrPost_mono (fun m' nx' h1 h2 => strRest_of R I turn done r m' nx' h2 h1) p) fun _ _ e => e
/-- a loop over the signs of a text, whatever its ledger becomes -/
theorem loop_chars {tx : Str} {t : Tok} {m₀ : Str → Option Value} {news : List (Addr × Obj)} (R : List Str → (Str → Option Value) → List (Addr × Obj) → Prop) (hh : A.handled = none) (F : Fr h₀ env.locals s.heap m₀) (N : News h₀ env.locals s.heap news) (hR : R (signs tx) m₀ news)
    (turn : ∀ I c r m nx u it h tk, R (c :: r) m nx → (∀ p ∈ nx, p.1 ≠ I) → Fr h₀ env.locals h (fun y => if y = x then some (.str c u) else m y) → News h₀ env.locals h ((I, it) :: nx) →
      wpAny (model prog w) A (execs body env) (UnrPost h₀ env.locals { s with heap := h, toks := tk } I it (R r) Q) E { s with heap := h, toks := tk })
    (done : ∀ m nx h tk, R [] m nx → Fr h₀ env.locals h m → News h₀ env.locals h nx → Q .next { s with heap := h, toks := tk }) :
    wpAny (model prog w) A (pyIter (.str tx t)) (fun it s₂ => LoopAtV prog w A h₀ env x body Q E it s₂) E s :=
  iter_strUnr (l := signs tx) hh F N rfl fun I hI => strRest_of R I (turn I) done _ _ _ hR fun p hp => Nat.ne_of_lt (hI p hp)
/-- the same; the turn may end the loop by a break -/
theorem loop_charsB {tx : Str} {t : Tok} {m₀ : Str → Option Value} {news : List (Addr × Obj)} (R : List Str → (Str → Option Value) → List (Addr × Obj) → Prop) (hh : A.handled = none) (F : Fr h₀ env.locals s.heap m₀) (N : News h₀ env.locals s.heap news) (hR : R (signs tx) m₀ news)
    (turn : (∀ m nx h tk, R [] m nx → Fr h₀ env.locals h m → News h₀ env.locals h nx → Q .next { s with heap := h, toks := tk }) →
      ∀ I c r m nx u it h tk, R (c :: r) m nx → (∀ p ∈ nx, p.1 ≠ I) → Fr h₀ env.locals h (fun y => if y = x then some (.str c u) else m y) → News h₀ env.locals h ((I, it) :: nx) →
      wpAny (model prog w) A (execs body env) (UnrPost h₀ env.locals { s with heap := h, toks := tk } I it (R r) Q) E { s with heap := h, toks := tk })
    (done : ∀ m nx h tk, R [] m nx → Fr h₀ env.locals h m → News h₀ env.locals h nx → Q .next { s with heap := h, toks := tk }) :
    wpAny (model prog w) A (pyIter (.str tx t)) (fun it s₂ => LoopAtV prog w A h₀ env x body Q E it s₂) E s :=
  loop_chars R hh F N hR (turn done) done
end
end Mine
end
section
open PySem PySem.W PyProof.Rows PySem.Calls PySem.Spec
set_option Elab.async false
namespace Mine
open PySem.Builtin.Str in
noncomputable def find4 (x y : Str) (i j : Int) : Int := match occurrences x y (PySem.fromIndex x.length i) (min (PySem.fromIndex x.length j) x.length) 1 with | k :: _ => (k : Int) | [] => -1
noncomputable def emGo (got : Str) (e : Int) : List Str → Int → Bool
  | [], _ => true
  | y :: ys, p => if find4 got y p e < 0 then false else emGo got e ys (find4 got y p e + y.length)
noncomputable def emB (got : Str) (ws : List Str) (p : Int) : Bool :=
  if ((ws.getD (-1 + (ws.length : Int)).toNat Str.empty).length : Int) ≠ 0 then
    if Txt.endswith got (ws.getD (-1 + (ws.length : Int)).toNat Str.empty) = true then
      if (got.length : Int) - (ws.getD (-1 + (ws.length : Int)).toNat Str.empty).length < p then false
      else emGo got ((got.length : Int) - (ws.getD (-1 + (ws.length : Int)).toNat Str.empty).length) (ws.eraseIdx (-1 + (ws.length : Int)).toNat) p
    else false
  else if (got.length : Int) < p then false else emGo got got.length ws p
noncomputable def emA (got : Str) (ws : List Str) : Bool :=
  if ((ws.getD (Int.toNat 0) Str.empty).length : Int) ≠ 0 then
    if Txt.startswith got (ws.getD (Int.toNat 0) Str.empty) = true then emB got (ws.eraseIdx 0) (ws.getD (Int.toNat 0) Str.empty).length else false
  else emB got ws 0
open PySem.Builtin.Str in
noncomputable def em (want got : Str) : Bool :=
  if (occurrences want (Str.ofString "...") 0 want.length 1).isEmpty = true then want == got
  else emA got (Txt.split want (Str.ofString "..."))

section
variable {prog : Program} {w : World} {A : Around} {E : Value → Shared → Prop} {s : Shared} {h₀ : Heap} {L : Addr} {m : Str → Option Value} {news news' : List (Addr × Obj)}
open PySem.Builtin.Str PySem.Builtin in
theorem gives_find4 (x y : Str) (i j : Int) (t u v v' : Tok) : Gives («str.find» ⟨[.str x t, .str y u, .int i v, .int j v'], []⟩) (.int (find4 x y i j)) := by
  show Gives (match occurrences x y (fromIndex x.length i) (min (fromIndex x.length j) x.length) 1 with | k :: _ => retInt k | [] => (do rule "str.find.not-found"; retInt (-1))) _
  unfold find4
  cases occurrences x y (fromIndex x.length i) (min (fromIndex x.length j) x.length) 1 with
  | nil => exact .rule (.of_eq rfl)
  | cons k _ => exact .of_eq rfl
theorem call_find4 {x y : Str} {i j : Int} {t u v v' : Tok} {Q : Value → Shared → Prop} (hq : Q (.int (find4 x y i j) s.toks) { s with toks := s.toks + 1 }) :
    wpAny (model prog w) A (call (.builtin "str.find") [.str x t, .str y u, .int i v, .int j v']) Q E s :=
  call_gives F.slot_str_find (typeIs_str _ _ _) F.entry_str_find (F.args_str_find_4 _ _ _ _) (gives_find4 x y i j t u v v') hq

theorem strs_erase : ∀ {vs : List Value} {xs : List Str}, StrsAre vs xs → ∀ k, StrsAre (vs.eraseIdx k) (xs.eraseIdx k)
  | _, _, .nil, _ => .nil
  | _, _, .cons _ _ r, 0 => r
  | _, _, .cons y t r, k + 1 => .cons y t (strs_erase r k)

theorem del_strs {D : Addr} {vs : List Value} {xs : List Str} {n : Nat} {i : Int} {u : Tok} {k : Nat} {Q : Unit → Shared → Prop} (F : Fr h₀ L s.heap m) (N : News h₀ L s.heap news) (hS : StrsAre vs xs)
    (hf : Builtin.List.listFitsIndex i = true) (hk : seqIndex? i xs.length = some k) (U : Upd D (listOf vs.toArray n) (listOf (vs.eraseIdx k).toArray (n + 1)) news news') (hz : xs.length ≤ 1000) {nb : Nat} (hs : ∀ a ∈ xs, a.length ≤ nb)
    (h : ∀ h', StrsAre (vs.eraseIdx k) (xs.eraseIdx k) → (∀ a ∈ xs.eraseIdx k, a.length ≤ nb) → Fr h₀ L h' m → News h₀ L h' news' → Q () { s with heap := h' }) : wpAny (model prog w) A (delItem (.ref D) (.int i u)) Q E s := by
  obtain ⟨pre, post, rfl, rfl, a, b⟩ := U.split
  have z := N (D, listOf vs.toArray n) (List.mem_append.mpr (.inr (.head _)))
  have hl : vs.toArray.size = xs.length := by simp [hS.length]
  have hkl : k < vs.length := by have := lt_of_seqIndex hk; rw [hS.length]; exact this
  refine P.delItem_list (n := n) z.1 hf (by rw [hl]; exact hk) (h _ (strs_erase hS k) (fun a ha => hs a (List.mem_of_mem_eraseIdx ha)) (F.change (Heap.SameBut.update ..) z.2.1 z.2.2) (ki_turn _ N a b ?_ ?_)) (by rw [hl, sizeLine_eq]; omega)
  · simp
  · have e : (vs.eraseIdx k).toArray.size ≠ vs.toArray.size := by
      rw [List.size_toArray, List.size_toArray, List.length_eraseIdx_of_lt hkl]; omega
    rw [if_neg (by simpa using e)]

theorem getD_short {xs : List Str} {n : Nat} (h : ∀ a ∈ xs, a.length ≤ n) (i : Nat) : (xs.getD i Str.empty).length ≤ n := by
  rw [List.getD_eq_getElem?_getD]
  cases e : xs[i]? with
  | none => exact Nat.zero_le _
  | some y => exact h y (List.mem_of_getElem? e)
theorem erase_short {xs : List Str} {n k : Nat} (h : ∀ a ∈ xs, a.length ≤ n) : ∀ a ∈ xs.eraseIdx k, a.length ≤ n := fun a ha => h a (List.mem_of_mem_eraseIdx ha)
end

open PySem.Builtin.Str in
theorem split_two {x : Str} (h : (occurrences x (Str.ofString "...") 0 x.length 1).isEmpty = false) : 2 ≤ (Txt.split x (Str.ofString "...")).length ∧ (Txt.split x (Str.ofString "...")).length ≤ x.length + 2 := by
  have hy : (Str.ofString "...").length = 3 := by decide
  have hk : Builtin.Str.strKind (Str.ofString "...") = 1 := by decide +kernel
  have hx : 1 ≤ Builtin.Str.strKind x := by unfold Builtin.Str.strKind; split <;> (try split) <;> omega
  rcases StrLaws.occ_head x (Str.ofString "...") 1 (Nat.le_refl 1) with ⟨e, _⟩ | ⟨i, r, _, ha, _⟩
  · rw [e] at h; cases h
  · rcases StrLaws.occ_head x (Str.ofString "...") (x.length + 1) (by omega) with ⟨_, hn⟩ | ⟨i', r', e', _, _⟩
    · exact absurd ha (hn i)
    · have h1 := ha.1
      have h2 := StrLaws.occ_length_le x (Str.ofString "...") 0 x.length (x.length + 1)
      unfold Txt.split
      rw [if_neg (by simp; omega), if_neg (by rw [e']; simp)]
      unfold partsBetween
      rw [e'] at h2 ⊢
      simp at h2 ⊢
      omega

section
variable {prog : Program} {w : World} {A : Around} {E : Value → Shared → Prop} {s : Shared} {env : Env} {h₀ : Heap} {x : Str} {body : List Stmt} {Q : Flow → Shared → Prop}
theorem em_loop {l : Addr} {vs : List Value} {xs : List Str} {nn : Nat} {m₀ : Str → Option Value} {news : List (Addr × Obj)} {got : Str} {e p : Int} {tp te tg : Tok}
    (hS : StrsAre vs xs) (hs : m₀ (Str.ofString "startpos") = some (.int p tp)) (_he : m₀ (Str.ofString "endpos") = some (.int e te)) (_hg : m₀ (Str.ofString "got") = some (.str got tg))
    (hh : A.handled = none) (hl : (l, listOf vs.toArray nn) ∈ news) (F : Fr h₀ env.locals s.heap m₀) (N : News h₀ env.locals s.heap news)
    (turn : ∀ (c : Int × Tok) i y t (u : Str → Option Value) h tk own, xs[i]? = some y → OwnOff own (news.map (·.1)) → emGo got e (y :: xs.drop (i + 1)) c.1 = emGo got e xs p →
      Fr h₀ env.locals h (fun z => if z = x then some (.str y t) else if z = Str.ofString "startpos" then some (.int c.1 c.2) else if ([] : List Str).contains z then u z else m₀ z) → News h₀ env.locals h (news ++ own) →
      wpAny (model prog w) A (execs body env) (InvPostN h₀ env.locals (St (fun _ => news) (fun c : Int × Tok => [(Str.ofString "startpos", .int c.1 c.2)]) x [] m₀ (fun i c => emGo got e (xs.drop i) c.1 = emGo got e xs p) (i + 1)) own (news.map (·.1)) { s with heap := h, toks := tk } Q) E { s with heap := h, toks := tk })
    (done : ∀ (c : Int × Tok) (u : Str → Option Value) h tk, true = emGo got e xs p → Fr h₀ env.locals h (fun z => if z = x then u z else if z = Str.ofString "startpos" then some (.int c.1 c.2) else if ([] : List Str).contains z then u z else m₀ z) → News h₀ env.locals h news → Q .next { s with heap := h, toks := tk }) :
    wpAny (model prog w) A (pyIter (.ref l)) (fun it s₂ => LoopAtV prog w A h₀ env x body Q E it s₂) E s := by
  refine loop_st (σ := Int × Tok) (fun _ => news) (fun c => [(Str.ofString "startpos", .int c.1 c.2)]) [] (fun i c => emGo got e (xs.drop i) c.1 = emGo got e xs p) (p, tp) hh (fun _ => hl) F N (by intro q hq; rw [List.mem_singleton.mp hq]; exact hs) rfl ?_ ?_
  · intro c i v u h tk own hv hoff hP F₁ N₁
    obtain ⟨y, t, rfl, hy⟩ := hS.item i v hv
    have hd : xs.drop i = y :: xs.drop (i + 1) := by
      have hi : i < xs.length := (List.getElem?_eq_some_iff.mp hy).1
      rw [List.drop_eq_getElem_cons hi]
      rw [List.getElem?_eq_getElem hi] at hy
      rw [Option.some.inj hy]
    refine turn c i y t u h tk own hy hoff ?_ F₁ N₁
    rw [← hd]; exact hP
  · intro c u h tk hP F₁ N₁
    refine done c u h tk ?_ F₁ N₁
    rw [hS.length, List.drop_length] at hP
    exact hP
theorem st_end {σ : Type} {Led : σ → List (Addr × Obj)} {ps : σ → List (Str × Value)} {stored : List Str} {m₀ : Str → Option Value} {P : Nat → σ → Prop} {i : Nat} (c : σ) {L : Addr} {m' : Str → Option Value} {own news' : List (Addr × Obj)} {adr : List Addr} {s₁ : Shared} {h' : Heap} {tk : Nat}
    (F : Fr h₀ L h' m') (N : News h₀ L h' news') (hn : ∀ p ∈ Led c, p ∈ news') (ho : ∀ p ∈ own, p ∈ news') (ha : (Led c).map (·.1) = adr) (hk : ∀ p ∈ ps c, m' p.1 = some p.2) (hr : ∀ z, z ≠ x → (∀ p ∈ ps c, z ≠ p.1) → stored.contains z = false → m' z = m₀ z) (hp : P i c) :
    InvEndN h₀ L (St Led ps x stored m₀ P i) own adr s₁ { s₁ with heap := h', toks := tk } :=
  InvEndN.intro F N ⟨c, rfl, hk, hr, hp⟩ ha hn ho
theorem emGo_no {got : Str} {e p : Int} {y : Str} {ys : List Str} {b : Bool} (h : emGo got e (y :: ys) p = b) (hq : find4 got y p e < 0) : b = false := by
  rw [← h]; unfold emGo; rw [if_pos hq]
theorem emGo_on {got : Str} {e p : Int} {y : Str} {ys : List Str} {b : Bool} (h : emGo got e (y :: ys) p = b) (hq : ¬ find4 got y p e < 0) : emGo got e ys (find4 got y p e + y.length) = b := by
  rw [← h]; conv => rhs; unfold emGo; rw [if_neg hq]
end

section
variable {prog : Program} {w : World} {A : Around} {E : Value → Shared → Prop} {s : Shared} {h₀ : Heap} {L : Addr} {m : Str → Option Value} {news : List (Addr × Obj)}
theorem split_dots {x : Str} {t u : Tok} {Q : Value → Shared → Prop} (F : Fr h₀ L s.heap m) (N : News h₀ L s.heap news) (hb : x.length ≤ 100)
    (ho : (Builtin.Str.occurrences x (Str.ofString "...") 0 x.length 1).isEmpty = false)
    (h : ∀ D vs xs h' k, xs = Txt.split x (Str.ofString "...") → StrsAre vs xs → 2 ≤ xs.length → xs.length ≤ 102 → (∀ a ∈ xs, a.length ≤ 100) → Fr h₀ L h' m → News h₀ L h' ((D, listOf vs.toArray 0) :: news) → (∀ p ∈ news, p.1 < D) → Q (.ref D) { s with heap := h', toks := k }) :
    wpAny (model prog w) A (call (.builtin "str.split") [.str x t, .str (Str.ofString "...") u]) Q E s := by
  refine KSpl.split1 F N (by decide) (fun D l h' k e hS F' N' hD => ?_) (by rw [sizeLine_eq]; omega)
  have h2 := split_two ho
  rw [e] at hS
  exact h D _ _ h' k rfl hS h2.1 (by omega) (fun a ha => Nat.le_trans (part_short ha) hb) F' N' hD
theorem item_strs {value slice : PySem.Expr} {l : Addr} {vs : List Value} {xs : List Str} {nn : Nat} {k : Int} {u : Tok} {Q : Value → Shared → Prop} (N : News h₀ L s.heap news) (hm : (l, listOf vs.toArray nn) ∈ news) (hS : StrsAre vs xs)
    (h0 : 0 ≤ k) (h1 : k < xs.length) (hfit : k < 2 ^ 63) (h : ∀ t, Q (.str (xs.getD k.toNat Str.empty) t) s)
    (hs : subscripted slice false (.ref l) (.int k u) = operate [.ref l, .int k u] (getItem (.ref l) (.int k u)) := by with_unfolding_all rfl) :
    wpAny (model prog w) A (subscriptTail value slice (.ref l) (.int k u)) Q E s := by
  have hl : s.heap.IsList l vs.toArray := ⟨_, N.get hm, rfl, nn, rfl⟩
  have hk : k.toNat < xs.length := by omega
  obtain ⟨t, ht⟩ := hS.get k.toNat (xs.getD k.toNat Str.empty) (by simp [hk])
  exact tail_any hl.typeIs slot_list_getitem.lookup (wpAny_getItem_list hl h0 hfit (by simpa using ht) (h t)) hs
theorem item_strs_neg {value slice : PySem.Expr} {l : Addr} {vs : List Value} {xs : List Str} {nn : Nat} {k : Int} {u : Tok} {Q : Value → Shared → Prop} (N : News h₀ L s.heap news) (hm : (l, listOf vs.toArray nn) ∈ news) (hS : StrsAre vs xs)
    (h0 : k < 0) (h1 : -(xs.length : Int) ≤ k) (hfit : -(2 ^ 63) ≤ k) (h : ∀ t, Q (.str (xs.getD (k + xs.length).toNat Str.empty) t) s)
    (hs : subscripted slice false (.ref l) (.int k u) = operate [.ref l, .int k u] (getItem (.ref l) (.int k u)) := by with_unfolding_all rfl) :
    wpAny (model prog w) A (subscriptTail value slice (.ref l) (.int k u)) Q E s := by
  have hl : s.heap.IsList l vs.toArray := ⟨_, N.get hm, rfl, nn, rfl⟩
  have e : vs.toArray.size = xs.length := by simp [hS.length]
  have hk : (k + xs.length).toNat < xs.length := by omega
  obtain ⟨t, ht⟩ := hS.get (k + xs.length).toNat (xs.getD (k + xs.length).toNat Str.empty) (by simp [hk])
  exact tail_any hl.typeIs slot_list_getitem.lookup (wpAny_getItem_list_neg hl h0 (by rw [e]; exact h1) hfit (by rw [e]; simpa using ht) (h t)) hs
theorem len_vals {l : Addr} {vs : List Value} {nn : Nat} {Q : Value → Shared → Prop} (N : News h₀ L s.heap news) (hm : (l, listOf vs.toArray nn) ∈ news) (hb : vs.length ≤ 1000000)
    (h : ∀ t k, Q (.int vs.length t) { s with toks := k }) : wpAny (model prog w) A (call (.builtin "len") [.ref l]) Q E s := by
  have hl : s.heap.IsList l vs.toArray := ⟨_, N.get hm, rfl, nn, rfl⟩
  refine len_list hl (by simp; omega) ?_
  have e : vs.toArray.size = vs.length := by simp
  rw [e]; exact h _ _
end

section
variable {want got : Str} {xs : List Str} {b : Bool} {p : Int}
open PySem.Builtin.Str
theorem em_eq (ho : (occurrences want (Str.ofString "...") 0 want.length 1).isEmpty = true) : (want == got) = em want got := by unfold em; rw [if_pos ho]
theorem em_of (ho : (occurrences want (Str.ofString "...") 0 want.length 1).isEmpty = false) (ex : xs = Txt.split want (Str.ofString "...")) (h : b = emA got xs) : b = em want got := by
  unfold em; rw [if_neg (by rw [ho]; decide), ← ex]; exact h
theorem emA_f (h1 : ((xs.getD (Int.toNat 0) Str.empty).length : Int) ≠ 0) (h2 : Txt.startswith got (xs.getD (Int.toNat 0) Str.empty) = false) : false = emA got xs := by
  unfold emA; rw [if_pos h1, if_neg (by rw [h2]; decide)]
theorem emA_s (h1 : ((xs.getD (Int.toNat 0) Str.empty).length : Int) ≠ 0) (h2 : Txt.startswith got (xs.getD (Int.toNat 0) Str.empty) = true) (h : b = emB got (xs.eraseIdx 0) (xs.getD (Int.toNat 0) Str.empty).length) : b = emA got xs := by
  unfold emA; rw [if_pos h1, if_pos h2]; exact h
theorem emA_e (h1 : ((xs.getD (Int.toNat 0) Str.empty).length : Int) = 0) (h : b = emB got xs 0) : b = emA got xs := by
  unfold emA; rw [if_neg (by omega)]; exact h
theorem emB_f (h1 : ((xs.getD (-1 + (xs.length : Int)).toNat Str.empty).length : Int) ≠ 0) (h2 : Txt.endswith got (xs.getD (-1 + (xs.length : Int)).toNat Str.empty) = false) : false = emB got xs p := by
  unfold emB; rw [if_pos h1, if_neg (by rw [h2]; decide)]
theorem emB_gt (h1 : ((xs.getD (-1 + (xs.length : Int)).toNat Str.empty).length : Int) ≠ 0) (h2 : Txt.endswith got (xs.getD (-1 + (xs.length : Int)).toNat Str.empty) = true)
    (h3 : (got.length : Int) - (xs.getD (-1 + (xs.length : Int)).toNat Str.empty).length < p) : false = emB got xs p := by
  unfold emB; rw [if_pos h1, if_pos h2, if_pos h3]
theorem emB_s (h1 : ((xs.getD (-1 + (xs.length : Int)).toNat Str.empty).length : Int) ≠ 0) (h2 : Txt.endswith got (xs.getD (-1 + (xs.length : Int)).toNat Str.empty) = true)
    (h3 : ¬ (got.length : Int) - (xs.getD (-1 + (xs.length : Int)).toNat Str.empty).length < p)
    (h : b = emGo got ((got.length : Int) - (xs.getD (-1 + (xs.length : Int)).toNat Str.empty).length) (xs.eraseIdx (-1 + (xs.length : Int)).toNat) p) : b = emB got xs p := by
  unfold emB; rw [if_pos h1, if_pos h2, if_neg h3]; exact h
theorem emB_egt (h1 : ((xs.getD (-1 + (xs.length : Int)).toNat Str.empty).length : Int) = 0) (h3 : (got.length : Int) < p) : false = emB got xs p := by
  unfold emB; rw [if_neg (by omega), if_pos h3]
theorem emB_e (h1 : ((xs.getD (-1 + (xs.length : Int)).toNat Str.empty).length : Int) = 0) (h3 : ¬ (got.length : Int) < p) (h : b = emGo got got.length xs p) : b = emB got xs p := by
  unfold emB; rw [if_neg (by omega), if_neg h3]; exact h
theorem emB_e0 (h1 : ((xs.getD (-1 + (xs.length : Int)).toNat Str.empty).length : Int) = 0) (h : b = emGo got got.length xs 0) : b = emB got xs 0 :=
  emB_e h1 (by omega) h
end
end Mine
end
section
open PySem PySem.W PyProof.Rows PySem.Calls PySem.Spec
set_option Elab.async false
namespace Mine
theorem len_zero {x : Str} {n : Int} (h : ¬ (x.length : Int) ≠ 0) : (x.length : Int) = 0 := by omega
theorem last_idx {n : Nat} (h : 1 ≤ n) : (-1 + (n : Int)).toNat = n - 1 := by omega

theorem back_two {xs : List Str} (h : 2 ≤ xs.length) : -(xs.length : Int) ≤ -1 := by omega
theorem back_one {xs : List Str} (h : 2 ≤ xs.length) : -((xs.eraseIdx 0).length : Int) ≤ -1 := by
  rw [List.length_eraseIdx, if_pos (by omega)]; omega
section
set_option maxRecDepth 100000 in
set_option maxHeartbeats 8000000 in
theorem em_claim (w : World) (mean : ExcName → Option Value) (mg mb : Str → Option Value) (want got : CbStr) (t1 t2 : CbTok) (news : CbLed) :
   Callee w mean mg mb 28 news 10 (want.length ≤ 100 ∧ got.length ≤ 100) [.str want t1, .str got t2] (fun _ => .bool (em want got)) := by
  unfold Callee
  k_fill
  dsimp only [CbRet]
  intro dp un gd cn cs a ccd cl outer A₀ base h₀ L m s Q E p loose B F X N T hk hb hd hu hret
  obtain ⟨hbw, hbg⟩ := hb
  refine wpAny_call ?_
  k_dflt cell_enter
  refine (let A₁ : Around := _; (?_ : wpAny _ A₁ _ _ _ _))
  repeat' (first | (k_unfold; (try dsimp only)) | ((with_reducible show wpAny _ _ (execs (_ :: _) _) _ _ _); refine exCons s ?_; intro kS Pq hPq) | (with_reducible refine Aft.next (by assumption) ?_) | (with_reducible refine Aft.ret (by assumption) ?_) | (with_reducible refine Aft.brk (by assumption) ?_) | (with_reducible refine Aft.cont (by assumption) ?_) | ((with_reducible show InvEndN _ _ _ _ _ _ _); ((rename Fr _ _ _ _ => lF'); (rename News _ _ _ _ => lN'); (rename (emGo _ _ _ _ = _) => hP'); k_dflt (refine' st_end (c := (_, _)) lF' lN' ?hn ?ho ?ha ?hk ?hr ?hp; (case hk => (intro q hq; rw [List.mem_singleton.mp hq]; rfl)); (case hn => exact fun p hp => List.mem_append.mpr (.inl hp)); (case ho => exact fun p hp => List.mem_append.mpr (.inr hp)); (case ha => rfl); (case hr => (intro z h1 h2 _; have h3 := h2 _ (List.mem_singleton.mpr rfl); (simp only [h1, h3, if_false, List.contains_nil, Bool.false_eq_true]))); (case hp => exact emGo_on hP' (by assumption))))) | ((with_reducible show wpAny _ _ (call (Value.builtin "str.find") _) _ _ _); refine call_find4 ?_) | ((with_reducible show wpAny _ _ (pyIter (Value.ref _)) _ _ _); ((rename Fr _ _ _ _ => lF'); (rename News _ _ _ _ => lN'); (rename StrsAre _ _ => hS'); (with_reducible rename (∀ a, a ∈ _ → Str.length a ≤ _) => hs'); k_dflt (refine' em_loop hS' ?a ?b ?c ?d ?e lF' lN' ?_ ?_; (case a => rfl); (case b => rfl); (case c => rfl); (case d => rfl); (case e => k_mem)); (all_goals (clear lF' lN')); (all_goals (first | (intro c' i' y' t' u' h' tk' own' hy' hoff' hP' F' N'; have hy9 := hs' _ (List.mem_of_getElem? hy')) | (intro c' u' h' tk' hP' F' N'))))) | ((with_reducible show wpAny _ _ (exec (PySem.Stmt.For _ _ _ _ _) _) _ _ _); ((rename Fr _ _ _ _ => lF'); (with_unfolding_all refine' For_invVF lF' ?k1 ?k2 ?_; (case k1 => exact rfl); (case k2 => exact rfl); k_whole))) | ((with_reducible show wpAny _ _ (call (Value.builtin "len") [Value.str _ _]) _ _ _); refine SBL.len (Int.lt_of_le_of_lt (Int.ofNat_le.mpr (by assumption)) (by decide)) ?_) | ((with_reducible show wpAny _ _ (call (Value.builtin "len") [Value.str _ _]) _ _ _); (with_reducible rename (∀ a, a ∈ _ → Str.length a ≤ _) => hs'); refine SBL.len (Int.lt_of_le_of_lt (Int.ofNat_le.mpr (getD_short hs' _)) (by decide)) ?_) | ((with_reducible show wpAny _ _ (delItem (Value.ref _) (Value.int _ _)) _ _ _); ((rename StrsAre _ _ => hS'); (rename Fr _ _ _ _ => lF'); (rename News _ _ _ _ => lN'); (with_reducible rename (∀ a, a ∈ _ → Str.length a ≤ _) => hs'); (first | (refine' del_strs (k := 0) lF' lN' hS' ?hf ?hk ?U ?hz hs' ?_; (case hf => decide); (case hk => exact seqIndex_at (by omega) (by omega)); (case hz => omega); (case U => k_upd)) | (refine' del_strs lF' lN' hS' ?hf ?hk ?U ?hz hs' ?_; (case hf => decide); (case hk => exact seqIndex_back (by omega) (by ((try simp only [List.length_eraseIdx]); (try split) <;> omega))); (case hz => ((try simp only [List.length_eraseIdx]); (try split) <;> omega)); (case U => k_upd))); clear hs' hS'; intro h' S' hs9 F' N')) | ((with_reducible show wpAny _ _ (subscriptTail _ _ (Value.ref _) (Value.int _ _)) _ _ _); (rename StrsAre _ _ => hS'); first | (with_unfolding_all refine' item_strs ?N ?hm hS' ?h0 ?h1 ?hf ?_ ?hs; (case N => k_asm); (case hm => k_mem); (case h0 => decide); (case h1 => omega); (case hf => decide); (case hs => with_unfolding_all rfl); k_whole; intro t') | (with_unfolding_all refine' item_strs_neg ?N ?hm hS' ?h0 ?h1 ?hf ?_ ?hs; (case N => k_asm); (case hm => k_mem); (case h0 => decide); (case h1 => first | with_reducible exact back_one (by assumption) | with_reducible exact back_two (by assumption) | (simp only [List.length_eraseIdx]; split <;> omega)); (case hf => decide); (case hs => with_unfolding_all rfl); k_whole; intro t')) | ((with_reducible show wpAny _ _ (truthy (Value.str _ _)) _ _ _); ((with_reducible rename (∀ a, a ∈ _ → Str.length a ≤ _) => hs'); refine SBL.truthy (Int.lt_of_le_of_lt (Int.ofNat_le.mpr (getD_short hs' _)) (by decide)) ?_)) | ((with_reducible show wpAny _ _ (call (Value.builtin "len") [Value.ref _]) _ _ _); (rename StrsAre _ _ => hS'); (refine' len_vals ?N ?hm ?hb ?_; (case N => k_asm); (case hm => k_mem); (case hb => (rw [hS'.length]; omega))); (rw [hS'.length]); intro _ _) | ((with_reducible show wpAny _ _ (call (Value.builtin "str.split") _) _ _ _); ((rename Fr _ _ _ _ => lF'); (rename News _ _ _ _ => lN'); (refine split_dots lF' lN' (by omega) (by assumption) ?_); intro D' vs' xs' h' k' ex' hS' h2' hle' hs' F' N' l1; (try k_lt l1))) | (k_end; wrow_close) | walk1 | (dsimp only; walk1) | fail "no step")
  all_goals (
    refine' cb_retB (Q := Q) hret ?e ?f ?n
    case f => k_asm
    case n => first | with_reducible assumption | (refine' cb_drop ?cbN ?cbS; (case cbN => assumption); (case cbS => first | (intro q hq; (repeat with_reducible refine List.mem_cons_of_mem _ ?_); with_reducible exact hq) | kcj_all)) | k_asm
    case e => first
      | exact em_eq (by with_reducible assumption)
      | (refine em_of (by with_reducible assumption) (by with_reducible assumption) ?_; first
        | exact emA_f (by with_reducible assumption) (by with_reducible assumption)
        | (first | refine emA_s (by with_reducible assumption) (by with_reducible assumption) ?_ | refine emA_e (by with_reducible assumption) ?_); first
          | exact emB_f (by with_reducible assumption) (by with_reducible assumption)
          | exact emB_gt (by with_reducible assumption) (by with_reducible assumption) (by with_reducible assumption)
          | exact emB_s (by with_reducible assumption) (by with_reducible assumption) (by with_reducible assumption) (by first | with_reducible assumption | exact (emGo_no (by with_reducible assumption) (by with_reducible assumption)).symm)
          | exact emB_egt (by with_reducible assumption) (by with_reducible assumption)
          | exact emB_e (by with_reducible assumption) (by with_reducible assumption) (by first | with_reducible assumption | exact (emGo_no (by with_reducible assumption) (by with_reducible assumption)).symm)
          | exact emB_e0 (by with_reducible assumption) (by first | with_reducible assumption | exact (emGo_no (by with_reducible assumption) (by with_reducible assumption)).symm)))
end
end Mine
end
section
open PySem PySem.W PyProof.Rows PySem.Calls PySem.Spec
set_option Elab.async false
namespace Mine
section
variable {M : Model} {A : Around} {E : Value → Shared → Prop} {s : Shared}
theorem wpAny_on_toks {α : Type} {t : Sem α} {Q : α → Shared → Prop} (h : wpAny M A t (fun a s' => s.toks ≤ s'.toks → Q a s') E s) : wpAny M A t Q E s :=
  wpAny_mono (wpAny_toks h) (fun _ _ p => p.2 p.1) fun _ _ p => p.2
end
section
variable {prog : Program} {w : World} {A : Around} {E : Value → Shared → Prop} {s : Shared} {x y z : Str} {t u v : Tok} {Q : Value → Shared → Prop}
theorem call_replace {u v : Nat} (hu : u ≠ 0) (hv : v ≠ 0) (huv : u ≠ v) (hyz : (y == z) = false) (hx : x.length ≤ 1000) (hz : z.length ≤ 14)
    (hq : ∀ (t' k : Nat), s.toks ≤ k → Q (.str (Txt.replace x y z) t') { s with toks := k }) : wpAny (model prog w) A (call (.builtin "str.replace") [.str x t, .str y u, .str z v]) Q E s :=
  wpAny_on_toks (SC.replaceW hu hv huv hyz (by omega) hz fun t' k l => hq t' k l)
theorem add_strs (hl : x.length + y.length ≤ 100000) (h : ∀ t' k, Q (.str (x ++ y) t') { s with toks := k }) : wpAny (model prog w) A (binaryOp .Add (.str x t) (.str y u)) Q E s :=
  SB.add h (by rw [sizeLine_eq]; omega)
theorem add_strs' (hl : x.length + y.length ≤ 100000) (h : ∀ t' k, (x ++ y).length = x.length + y.length → Q (.str (x ++ y) t') { s with toks := k }) : wpAny (model prog w) A (binaryOp .Add (.str x t) (.str y u)) Q E s :=
  SB.add (fun t' k => h t' k (Str.length_append x y)) (by rw [sizeLine_eq]; omega)
end
theorem mul_len {x : Str} {n : Int} {a b : Nat} (hx : x.length ≤ a) (h0 : 0 ≤ n) (hn : n ≤ b) : (Txt.mul x n).length ≤ a * b := by
  have h := len_mul x n
  have h1 : decide (n < 0) = false := decide_eq_false (by omega)
  rw [h1, if_neg Bool.false_ne_true] at h
  obtain ⟨k, rfl⟩ := Int.eq_ofNat_of_zero_le h0
  have h2 : (Txt.mul x k).length = x.length * k := by exact_mod_cast h
  rw [h2]
  exact Nat.mul_le_mul hx (by omega)

section
variable {prog : Program} {w : World} {A : Around} {E : Value → Shared → Prop} {s : Shared} {x y z : Str} {t u v : Tok} {Q : Value → Shared → Prop}
theorem mul_strs (a b : Nat) {n : Int} (hx : x.length ≤ a) (h0 : 0 ≤ n) (hn : n ≤ b) (ha : a * b ≤ 100000) (hb : b ≤ 100000) (h : ∀ t' k, (Txt.mul x n).length ≤ a * b → Q (.str (Txt.mul x n) t') { s with toks := k }) : wpAny (model prog w) A (binaryOp .Mult (.str x t) (.int n u)) Q E s :=
  SB.mul (mulOk_of a b hx hn (by omega) (by omega) (by omega)) fun t' k => h t' k (mul_len hx h0 hn)
end

noncomputable def wantOf (many more : Int) : Str := Str.ofString "..." ++ Txt.mul (Str.ofString "aa...") many ++ Txt.mul (Str.ofString "bb...") more
noncomputable def twiceOf (c : Str) : Str := Txt.replace (Txt.replace c (Str.ofString "a") (Str.ofString "aa")) (Str.ofString "b") (Str.ofString "bb")
noncomputable def tkOne (tw : Str) (many c more : Int) : Int := if em (wantOf many more) tw = true then c + 1 else c
noncomputable def tkIn (tw : Str) (many : Int) (nb : Nat) (c : Int) : Int := (rangeKs 1 nb).foldl (tkOne tw many) c
noncomputable def takenOf (c : Str) : Int := (rangeKs 1 (Txt.count c (Str.ofString "a") + 1 - 1).toNat).foldl (fun n many => tkIn (twiceOf c) many (Txt.count c (Str.ofString "b") + 1 - 1).toNat n) 0




theorem em_use {w : World} {mean : ExcName → Option Value} {mg mb : Str → Option Value} {want got : Str} {t1 t2 : Tok} {news : List (Addr × Obj)} {dp un : Nat} {gd : Option (List Code)} {cn : Str} {cs : Scope} {a : Addr} {ccd : Value} {cl : List (Str × Addr)} {outer : List Env} {A₀ : Around} {base h₀ : Heap} {L : Addr} {m : Str → Option Value} {s : Shared} {Q E : Value → Shared → Prop} {p : Program} {loose : List Str}
    (B : Below A₀ base outer h₀) (F : Fr h₀ L s.heap m) (X : (hd.heap_39 w.params).In h₀) (N : News h₀ L s.heap news) (T : Top p loose mean mg mb h₀) (hk : cs.kind = .function)
    (h1 : want.length ≤ 100) (h2 : got.length ≤ 100) (hd : dp + 10 < recursionLimit) (hu : un + 8 * 10 < cLine)
    (ret : ∀ h' tk', Fr h₀ L h' m → News h₀ L h' news → Q (.bool (em want got)) { s with heap := h', toks := tk' }) :
    wpAny (model Challenge.rw_sr0083_01.row.prog w) (ktrTop dp un gd cn cs L a ccd cl outer) (call (.ref 28) [.str want t1, .str got t2]) Q E s :=
  em_claim w mean mg mb want got t1 t2 news dp un gd cn cs a ccd cl outer A₀ base h₀ L m s Q E p loose B F X N T hk ⟨h1, h2⟩ hd hu fun _ h' tk' => ret h' tk'
end Mine
end
section
open PySem PySem.W PyProof.Rows PySem.Calls PySem.Spec
set_option Elab.async false
namespace Mine
theorem count_le (x y : Str) : 0 ≤ Txt.count x y ∧ Txt.count x y ≤ (x.length : Int) + 1 := by
  have h := StrLaws.occ_length_le x y 0 x.length (x.length + 1)
  unfold Txt.count
  omega
open PySem.Builtin.Str in
theorem replace_len {x y z : Str} {a : Nat} (hx : x.length ≤ a) : (Txt.replace x y z).length ≤ a + (a + 1) * z.length := by
  unfold Txt.replace
  split
  · exact Nat.le_trans hx (Nat.le_add_right _ _)
  · have back := congrArg Str.length (StrLaws.glued_between_self x y (x.length + 1))
    rw [size_glued] at back ⊢
    simp only [length_partsBetween, Nat.add_sub_cancel] at back ⊢
    have cuts : (occurrences x y 0 x.length (x.length + 1)).length ≤ a + 1 := Nat.le_trans (StrLaws.occ_length_le ..) (Nat.succ_le_succ hx)
    have wide := Nat.mul_le_mul_right z.length cuts
    omega
section
variable {prog : Program} {w : World} {A : Around} {E : Value → Shared → Prop} {s : Shared} {env : Env} {h₀ : Heap} {body : List Stmt} {Q : Flow → Shared → Prop}
theorem tk_inner {r : Addr} {a₀ b₀ : Int} {t₀ u₀ v₀ : Tok} {n : Nat} {m₀ : Str → Option Value} {news : List (Addr × Obj)} {c₀ many : Int} {tc₀ tt tm : Tok} {tw : Str}
    (_h1 : m₀ (Str.ofString "twice") = some (.str tw tt)) (_h2 : m₀ (Str.ofString "many") = some (.int many tm))
    (hh : A.handled = none) (hr : IsRange s.heap r a₀ b₀ 1 t₀ u₀ v₀) (hsmall : Builtin.Range.small a₀ b₀ 1 = true) (hn : Builtin.Range.rangeSize a₀ b₀ 1 = (n : Int)) (F : Fr h₀ env.locals s.heap m₀) (N : News h₀ env.locals s.heap news) (hy : m₀ (Str.ofString "count") = some (.int c₀ tc₀))
    (turn : ∀ k t c tc (u : Str → Option Value) h tk own, a₀ ≤ k ∧ k < a₀ + (n : Int) → OwnOff own (news.map (·.1)) → Fr h₀ env.locals h (fun z => if z = Str.ofString "more" then some (.int k t) else if z = Str.ofString "count" then some (.int c tc) else if [Str.ofString "verdict"].contains z then u z else m₀ z) → News h₀ env.locals h (news ++ own) →
      wpAny (model prog w) A (execs body env) (InvPostN h₀ env.locals (RI (Str.ofString "more") (Str.ofString "count") [Str.ofString "verdict"] m₀ news (tkOne tw many c k)) own (news.map (·.1)) { s with heap := h, toks := tk } Q) E { s with heap := h, toks := tk })
    (done : ∀ (u : Str → Option Value) t h tk, Fr h₀ env.locals h (fun z => if z = Str.ofString "more" then u z else if z = Str.ofString "count" then some (.int ((rangeKs a₀ n).foldl (tkOne tw many) c₀) t) else if [Str.ofString "verdict"].contains z then u z else m₀ z) → News h₀ env.locals h news → Q .next { s with heap := h, toks := tk }) :
    wpAny (model prog w) A (pyIter (.ref r)) (fun it s₂ => LoopAtV prog w A h₀ env (Str.ofString "more") body Q E it s₂) E s :=
  loop_count (tkOne tw many) (Str.ofString "count") [Str.ofString "verdict"] hh hr hsmall hn F N hy (fun k t c tc u h tk own hk => turn k t c tc u h tk own (mem_rangeKs hk)) done
theorem tk_outer {r : Addr} {a₀ b₀ : Int} {t₀ u₀ v₀ : Tok} {n : Nat} {m₀ : Str → Option Value} {news : List (Addr × Obj)} {c₀ : Int} {tc₀ tt tm : Tok} {tw col : Str}
    (_h1 : m₀ (Str.ofString "twice") = some (.str tw tt)) (_h2 : m₀ (Str.ofString "column") = some (.str col tm))
    (hh : A.handled = none) (hr : IsRange s.heap r a₀ b₀ 1 t₀ u₀ v₀) (hsmall : Builtin.Range.small a₀ b₀ 1 = true) (hn : Builtin.Range.rangeSize a₀ b₀ 1 = (n : Int)) (F : Fr h₀ env.locals s.heap m₀) (N : News h₀ env.locals s.heap news) (hy : m₀ (Str.ofString "count") = some (.int c₀ tc₀))
    (turn : ∀ k t c tc (u : Str → Option Value) h tk own, a₀ ≤ k ∧ k < a₀ + (n : Int) → OwnOff own (news.map (·.1)) → Fr h₀ env.locals h (fun z => if z = Str.ofString "many" then some (.int k t) else if z = Str.ofString "count" then some (.int c tc) else if [Str.ofString "more", Str.ofString "verdict"].contains z then u z else m₀ z) → News h₀ env.locals h (news ++ own) →
      wpAny (model prog w) A (execs body env) (InvPostN h₀ env.locals (RI (Str.ofString "many") (Str.ofString "count") [Str.ofString "more", Str.ofString "verdict"] m₀ news ((rangeKs 1 (Txt.count col (Str.ofString "b") + 1 - 1).toNat).foldl (tkOne tw k) c)) own (news.map (·.1)) { s with heap := h, toks := tk } Q) E { s with heap := h, toks := tk })
    (done : ∀ (u : Str → Option Value) t h tk, Fr h₀ env.locals h (fun z => if z = Str.ofString "many" then u z else if z = Str.ofString "count" then some (.int ((rangeKs a₀ n).foldl (fun c k => (rangeKs 1 (Txt.count col (Str.ofString "b") + 1 - 1).toNat).foldl (tkOne tw k) c) c₀) t) else if [Str.ofString "more", Str.ofString "verdict"].contains z then u z else m₀ z) → News h₀ env.locals h news → Q .next { s with heap := h, toks := tk }) :
    wpAny (model prog w) A (pyIter (.ref r)) (fun it s₂ => LoopAtV prog w A h₀ env (Str.ofString "many") body Q E it s₂) E s :=
  loop_count (fun c k => (rangeKs 1 (Txt.count col (Str.ofString "b") + 1 - 1).toNat).foldl (tkOne tw k) c) (Str.ofString "count") [Str.ofString "more", Str.ofString "verdict"] hh hr hsmall hn F N hy (fun k t c tc u h tk own hk => turn k t c tc u h tk own (mem_rangeKs hk)) done
end
theorem tk_yes {tw : Str} {many more c : Int} (h : (em (Str.ofString "..." ++ Txt.mul (Str.ofString "aa...") many ++ Txt.mul (Str.ofString "bb...") more) tw == true) = true) : c + 1 = tkOne tw many c more := by
  unfold tkOne wantOf; rw [if_pos (by simpa using h)]
theorem tk_no {tw : Str} {many more c : Int} (h : (em (Str.ofString "..." ++ Txt.mul (Str.ofString "aa...") many ++ Txt.mul (Str.ofString "bb...") more) tw == true) = false) : c = tkOne tw many c more := by
  unfold tkOne wantOf; rw [if_neg (by simpa using h)]
theorem bool_absurd {b : Bool} (h1 : (b == true) = false) (h2 : (b != false) = true) : False := by cases b <;> simp at h1 h2
section
set_option maxRecDepth 100000 in
set_option maxHeartbeats 8000000 in
theorem taken_claim (w : World) (mean : ExcName → Option Value) (mg mb : Str → Option Value) (col : CbStr) (t1 : CbTok) (news : CbLed) :
   Callee w mean mg mb 267 news 20 (col.length ≤ 9 ∧ Txt.count col (Str.ofString "a") ≤ 8 ∧ Txt.count col (Str.ofString "b") ≤ 8) [.str col t1] (fun t => .int (takenOf col) t) := by
  unfold Callee
  k_fill
  dsimp only [CbRet]
  intro dp un gd cn cs a ccd cl outer A₀ base h₀ L m s Q E p loose B F X N T hk hb hd hu hret
  obtain ⟨hb, hba, hbb⟩ := hb
  refine wpAny_call ?_
  k_dflt cell_enter
  have hca := count_le col (Str.ofString "a")
  have hcb := count_le col (Str.ofString "b")
  have l3 : (Str.ofString "...").length = 3 := by decide
  have hr1 : (Txt.replace col (Str.ofString "a") (Str.ofString "aa")).length ≤ 29 := Nat.le_trans (replace_len hb) (by decide)
  have hr2 : (Txt.replace (Txt.replace col (Str.ofString "a") (Str.ofString "aa")) (Str.ofString "b") (Str.ofString "bb")).length ≤ 89 := Nat.le_trans (replace_len hr1) (by decide)
  repeat' (first | (k_unfold; (try dsimp only)) | ((with_reducible show wpAny _ _ (execs (_ :: _) _) _ _ _); (first | (refine exCons s ?_; intro kS Pq hPq) | (refine exCons0 ?_; intro Pq hPq))) | (with_reducible refine Aft.next (by assumption) ?_) | (with_reducible refine Aft.ret (by assumption) ?_) | (with_reducible refine Aft.brk (by assumption) ?_) | (with_reducible refine Aft.cont (by assumption) ?_) | ((with_reducible show InvEndN _ _ _ _ _ _ _); ((rename Fr _ _ _ _ => lF'); (rename News _ _ _ _ => lN'); k_dflt (refine' RI_end lF' lN' ?hn ?ho ?hy ?hd ?hm; (case hy => rfl); (case hn => exact fun p hp => List.mem_append.mpr (.inl hp)); (case ho => exact fun p hp => List.mem_append.mpr (.inr hp)); (case hm => (intro z h1 h2 h3; (simp only [List.contains_cons, List.contains_nil, Bool.or_false, Bool.or_eq_false_iff, beq_eq_false_iff_ne, ne_eq] at h3); (simp [h1, h2, h3]))); (case hd => first | rfl | exact tk_yes (by assumption) | exact tk_no (by assumption))))) | ((with_reducible show wpAny _ _ (binaryOp .Add (Value.str _ _) (Value.str _ _)) _ _ _); (k_dflt (refine add_strs' (by omega) ?_); intro t' k' l')) | ((with_reducible show wpAny _ _ (binaryOp .Mult (Value.str _ _) (Value.int _ _)) _ _ _); (k_dflt (refine mul_strs 5 9 (by decide) (by omega) (by omega) (by decide) (by decide) ?_); intro t' k' l')) | ((with_reducible show wpAny _ _ (pyIter (Value.ref _)) _ _ _); ((rename Fr _ _ _ _ => lF'); (rename News _ _ _ _ => lN'); (rename IsRange _ _ _ _ _ _ _ _ => rgX); (first | k_dflt (refine' tk_inner ?h1 ?h2 ?hh rgX ?hs (rangeSize_nat _ _) lF' lN' ?hy ?_ ?_) | k_dflt (refine' tk_outer ?h1 ?h2 ?hh rgX ?hs (rangeSize_nat _ _) lF' lN' ?hy ?_ ?_)); k_dflt ((case h1 => rfl); (case h2 => rfl); (case hh => rfl); (case hs => exact small_one (by omega) (by omega) (by omega) (by omega)); (case hy => rfl)); (all_goals (clear lF' lN')); (all_goals (first | intro k' t' c' tc' u' h' tk' own' hk' hoff' F' N' | intro u' t' h' tk' F' N')))) | ((with_reducible show wpAny _ _ (call (Value.builtin "str.replace") [Value.str _ _, Value.str _ _, Value.str _ _]) _ _ _); k_dflt (refine call_replace (by first | omega | (dsimp only; omega)) (by first | omega | (dsimp only; omega)) (by first | omega | (dsimp only; omega)) (by decide) (by omega) (by decide) ?_); intro t' k' l'; (try dsimp only at l')) | (k_here; (with_reducible show wpAny _ _ (call (Value.ref 28) [Value.str _ _, Value.str _ _]) _ _ _); k_dflt (refine' em_use ?B ?F ?X ?N ?T ?hk ?a ?b ?hd ?hu ?_; (case B => k_asm); (case F => k_asm); (case X => k_asm); (case N => k_asm); (case T => k_asm); (case hk => first | exact rfl | assumption); (case hd => ktr_room); (case hu => ktr_units); (case a => omega); (case b => omega)); intro h9 tk9 F9 N9; (try dsimp only); (try k_fold)) | (k_end; wrow_close) | walk1 | (dsimp only; walk1) | fail "no step")
  · exact (bool_absurd (by assumption) (by assumption)).elim
  · refine' cb_retI (Q := Q) hret ?e ?f ?n
    case f => k_asm
    case n => first | with_reducible assumption | (refine' cb_drop ?cbN ?cbS; (case cbN => assumption); (case cbS => first | (intro q hq; (repeat with_reducible refine List.mem_cons_of_mem _ ?_); with_reducible exact hq) | kcj_all)) | k_asm
    case e => rfl
end
end Mine
end
section
open PySem PySem.W PyProof.Rows PySem.Calls PySem.Spec
set_option Elab.async false
namespace Mine
noncomputable def absI (d : Int) : Int := if d < 0 then -d else d
noncomputable def woIn (ns : List Int) (k c o : Int) : Int := Builtin.bitXor c (Builtin.bitXor (absI (ns.getD k.toNat 0 - o)) (absI (ns.getD k.toNat 0 - o) - 1))
noncomputable def worthOf (ns : List Int) : Int := (rangeKs 0 ((ns.length : Int) - 0).toNat).foldl (fun c k => (ns.take k.toNat).foldl (woIn ns k) (Builtin.bitXor c (ns.getD k.toNat 0))) 0
section
set_option maxRecDepth 100000 in
set_option maxHeartbeats 8000000 in
theorem worth_claim (w : World) (mean : ExcName → Option Value) (mg mb : Str → Option Value) (l : CbAddr) (vs : List CbVal) (ns : List Int) (nn : Nat) (news : CbLed) (hm : (l, listOf vs.toArray nn) ∈ news) (hI : IntsAre vs ns) :
   Callee w mean mg mb 274 news 20 (ns.length ≤ 8 ∧ ∀ n ∈ ns, 0 ≤ n ∧ n ≤ 8) [.ref l] (fun t => .int (worthOf ns) t) := by
  unfold Callee
  k_fill
  dsimp only [CbRet]
  intro dp un gd cn cs a ccd cl outer A₀ base h₀ L m s Q E p loose B F X N T hk hb hd hu hret
  obtain ⟨hb1, hb2⟩ := hb
  refine wpAny_call ?_
  k_dflt cell_enter
  repeat' (first | (k_unfold; (try dsimp only)) | ((with_reducible show wpAny _ _ (execs (_ :: _) _) _ _ _); (first | (refine exCons s ?_; intro kS Pq hPq) | (refine exCons0 ?_; intro Pq hPq))) | (with_reducible refine Aft.next (by assumption) ?_) | (with_reducible refine Aft.ret (by assumption) ?_) | (with_reducible refine Aft.brk (by assumption) ?_) | (with_reducible refine Aft.cont (by assumption) ?_) | ((fail_if_success (with_reducible show wpAny _ _ (pyIter _) _ _ _)); first | ((with_reducible show wpAny _ _ (call (Value.builtin "len") [Value.ref _]) _ _ _); (rename IntsAre _ _ => hI'); k_dflt (refine' len_vals ?N ?hm ?hb ?_; (case N => k_asm); (case hm => k_mem); (case hb => (rw [hI'.length]; omega))); (rw [hI'.length]); intro _ _) | ((with_reducible show wpAny _ _ (exec (PySem.Stmt.For _ _ _ _ _) _) _ _ _); ((rename Fr _ _ _ _ => lF'); (with_unfolding_all refine' For_invVF lF' ?k1 ?k2 ?_; (case k1 => exact rfl); (case k2 => exact rfl); k_whole))) | ((with_reducible show wpAny _ _ (subscriptTail _ _ (Value.ref _) (Value.int _ _)) _ _ _); k_dflt (refine' item_ints ?N ?hm ?hI ?h0 ?h1 ?hf ?_ ?hs; (case N => k_asm); (case hm => repeat (first | assumption | refine List.mem_append_left _ ?_ | refine List.mem_cons_of_mem _ ?_)); (case hI => assumption); (case h0 => omega); (case h1 => omega); (case hf => omega); (case hs => with_unfolding_all rfl)); intro t') | walk1) | ((fail_if_success (with_reducible show wpAny _ _ (pyIter _) _ _ _)); dsimp only; walk1) | fail "no step")
  · (rename Fr _ _ _ _ => lF'); (rename News _ _ _ _ => lN'); (rename IsRange _ _ _ _ _ _ _ _ => rgX)
    refine' loop_count (x := Str.ofString "k") (fun c k => (ns.take k.toNat).foldl (woIn ns k) (Builtin.bitXor c (ns.getD k.toNat 0))) (Str.ofString "worth") [Str.ofString "other"] ?hh rgX ?hs (rangeSize_nat _ _) lF' lN' ?hy ?_ ?_
    case hh => rfl
    case hs => exact small_one (by omega) (by omega) (by omega) (by omega)
    case hy => rfl
    · clear lF' lN'
      intro k' t' c' tc' u' h' tk' own' hk' hoff' F' N'
      have hk := mem_rangeKs hk'
      repeat' (first | (k_unfold; (try dsimp only)) | ((with_reducible show wpAny _ _ (execs (_ :: _) _) _ _ _); (first | (refine exCons s ?_; intro kS Pq hPq) | (refine exCons0 ?_; intro Pq hPq))) | (with_reducible refine Aft.next (by assumption) ?_) | (with_reducible refine Aft.ret (by assumption) ?_) | (with_reducible refine Aft.brk (by assumption) ?_) | (with_reducible refine Aft.cont (by assumption) ?_) | ((fail_if_success (with_reducible show wpAny _ _ (pyIter _) _ _ _)); first | ((with_reducible show wpAny _ _ (call (Value.builtin "len") [Value.ref _]) _ _ _); (rename IntsAre _ _ => hI'); k_dflt (refine' len_vals ?N ?hm ?hb ?_; (case N => k_asm); (case hm => k_mem); (case hb => (rw [hI'.length]; omega))); (rw [hI'.length]); intro _ _) | ((with_reducible show wpAny _ _ (exec (PySem.Stmt.For _ _ _ _ _) _) _ _ _); ((rename Fr _ _ _ _ => lF'); (with_unfolding_all refine' For_invVF lF' ?k1 ?k2 ?_; (case k1 => exact rfl); (case k2 => exact rfl); k_whole))) | ((with_reducible show wpAny _ _ (subscriptTail _ _ (Value.ref _) (Value.int _ _)) _ _ _); k_dflt (refine' item_ints ?N ?hm ?hI ?h0 ?h1 ?hf ?_ ?hs; (case N => k_asm); (case hm => repeat (first | assumption | refine List.mem_append_left _ ?_ | refine List.mem_cons_of_mem _ ?_)); (case hI => assumption); (case h0 => omega); (case h1 => omega); (case hf => omega); (case hs => with_unfolding_all rfl)); intro t') | walk1) | ((fail_if_success (with_reducible show wpAny _ _ (pyIter _) _ _ _)); dsimp only; walk1) | fail "no step")
      (rename Fr _ _ _ _ => lF'); (rename News _ _ _ _ => lN'); (rename (IntsAre _ (List.take _ _)) => hI2)
      refine' loop_countL (x := Str.ofString "other") (woIn ns k') (Str.ofString "worth") [] ?hh ?hl hI2 ?hF ?hN ?hy ?_ ?_
      case hF => exact lF'
      case hN => exact lN'
      case hh => rfl
      case hy => rfl
      case hl => k_mem
      · clear lF' lN'
        intro k2 t2 c2 tc2 u2 h2 tk2 own2 hk2 hoff2 F2 N2
        repeat' (first | (k_unfold; (try dsimp only)) | ((with_reducible show wpAny _ _ (execs (_ :: _) _) _ _ _); (first | (refine exCons s ?_; intro kS Pq hPq) | (refine exCons0 ?_; intro Pq hPq))) | (with_reducible refine Aft.next (by assumption) ?_) | (with_reducible refine Aft.ret (by assumption) ?_) | (with_reducible refine Aft.brk (by assumption) ?_) | (with_reducible refine Aft.cont (by assumption) ?_) | ((fail_if_success (with_reducible show InvEndN _ _ _ _ _ _ _)); first | ((with_reducible show wpAny _ _ (call (Value.builtin "len") [Value.ref _]) _ _ _); (rename IntsAre _ _ => hI'); k_dflt (refine' len_vals ?N ?hm ?hb ?_; (case N => k_asm); (case hm => k_mem); (case hb => (rw [hI'.length]; omega))); (rw [hI'.length]); intro _ _) | ((with_reducible show wpAny _ _ (exec (PySem.Stmt.For _ _ _ _ _) _) _ _ _); ((rename Fr _ _ _ _ => lF'); (with_unfolding_all refine' For_invVF lF' ?k1 ?k2 ?_; (case k1 => exact rfl); (case k2 => exact rfl); k_whole))) | ((with_reducible show wpAny _ _ (subscriptTail _ _ (Value.ref _) (Value.int _ _)) _ _ _); k_dflt (refine' item_ints ?N ?hm ?hI ?h0 ?h1 ?hf ?_ ?hs; (case N => k_asm); (case hm => repeat (first | assumption | refine List.mem_append_left _ ?_ | refine List.mem_cons_of_mem _ ?_)); (case hI => assumption); (case h0 => omega); (case h1 => omega); (case hf => omega); (case hs => with_unfolding_all rfl)); intro t') | walk1) | ((fail_if_success (with_reducible show InvEndN _ _ _ _ _ _ _)); dsimp only; walk1) | fail "no step")
        (rename Fr _ _ _ _ => lF'); (rename News _ _ _ _ => lN')
        refine' RI_end lF' lN' (fun p hp => List.mem_append.mpr (.inl hp)) (fun p hp => List.mem_append.mpr (.inr hp)) ?hy ?hd ?hm
        case hy => rfl
        case hm => intro z h1 h2 _; simp [h1, h2]
        case hd => rfl
      · clear lF' lN'
        intro u2 t2 h2 tk2 F2 N2
        repeat' (first | (k_unfold; (try dsimp only)) | ((with_reducible show wpAny _ _ (execs (_ :: _) _) _ _ _); (first | (refine exCons s ?_; intro kS Pq hPq) | (refine exCons0 ?_; intro Pq hPq))) | (with_reducible refine Aft.next (by assumption) ?_) | (with_reducible refine Aft.ret (by assumption) ?_) | (with_reducible refine Aft.brk (by assumption) ?_) | (with_reducible refine Aft.cont (by assumption) ?_) | ((fail_if_success (with_reducible show InvEndN _ _ _ _ _ _ _)); first | ((with_reducible show wpAny _ _ (call (Value.builtin "len") [Value.ref _]) _ _ _); (rename IntsAre _ _ => hI'); k_dflt (refine' len_vals ?N ?hm ?hb ?_; (case N => k_asm); (case hm => k_mem); (case hb => (rw [hI'.length]; omega))); (rw [hI'.length]); intro _ _) | ((with_reducible show wpAny _ _ (exec (PySem.Stmt.For _ _ _ _ _) _) _ _ _); ((rename Fr _ _ _ _ => lF'); (with_unfolding_all refine' For_invVF lF' ?k1 ?k2 ?_; (case k1 => exact rfl); (case k2 => exact rfl); k_whole))) | ((with_reducible show wpAny _ _ (subscriptTail _ _ (Value.ref _) (Value.int _ _)) _ _ _); k_dflt (refine' item_ints ?N ?hm ?hI ?h0 ?h1 ?hf ?_ ?hs; (case N => k_asm); (case hm => repeat (first | assumption | refine List.mem_append_left _ ?_ | refine List.mem_cons_of_mem _ ?_)); (case hI => assumption); (case h0 => omega); (case h1 => omega); (case hf => omega); (case hs => with_unfolding_all rfl)); intro t') | walk1) | ((fail_if_success (with_reducible show InvEndN _ _ _ _ _ _ _)); dsimp only; walk1) | fail "no step")
        (rename Fr _ _ _ _ => lF'); (rename News _ _ _ _ => lN')
        refine' RI_end lF' lN' ?hn ?ho ?hy ?hd ?hm
        case hy => rfl
        case hn => exact fun p hp => List.mem_cons_of_mem _ (List.mem_append.mpr (.inl hp))
        case ho => exact fun p hp => List.mem_cons_of_mem _ (List.mem_append.mpr (.inr hp))
        case hm => intro z h1 h2 h3; simp only [List.contains_cons, List.contains_nil, Bool.or_false, beq_eq_false_iff_ne, ne_eq] at h3; simp [h1, h2, h3]
        case hd => rfl
    · clear lF' lN'
      intro u2 t2 h2 tk2 F2 N2
      repeat' (first | (k_unfold; (try dsimp only)) | ((with_reducible show wpAny _ _ (execs (_ :: _) _) _ _ _); (first | (refine exCons s ?_; intro kS Pq hPq) | (refine exCons0 ?_; intro Pq hPq))) | (with_reducible refine Aft.next (by assumption) ?_) | (with_reducible refine Aft.ret (by assumption) ?_) | (with_reducible refine Aft.brk (by assumption) ?_) | (with_reducible refine Aft.cont (by assumption) ?_) | ((with_reducible show wpAny _ _ (call (Value.builtin "len") [Value.ref _]) _ _ _); (rename IntsAre _ _ => hI'); k_dflt (refine' len_vals ?N ?hm ?hb ?_; (case N => k_asm); (case hm => k_mem); (case hb => (rw [hI'.length]; omega))); (rw [hI'.length]); intro _ _) | ((with_reducible show wpAny _ _ (exec (PySem.Stmt.For _ _ _ _ _) _) _ _ _); ((rename Fr _ _ _ _ => lF'); (with_unfolding_all refine' For_invVF lF' ?k1 ?k2 ?_; (case k1 => exact rfl); (case k2 => exact rfl); k_whole))) | ((with_reducible show wpAny _ _ (subscriptTail _ _ (Value.ref _) (Value.int _ _)) _ _ _); k_dflt (refine' item_ints ?N ?hm ?hI ?h0 ?h1 ?hf ?_ ?hs; (case N => k_asm); (case hm => repeat (first | assumption | refine List.mem_append_left _ ?_ | refine List.mem_cons_of_mem _ ?_)); (case hI => assumption); (case h0 => omega); (case h1 => omega); (case hf => omega); (case hs => with_unfolding_all rfl)); intro t') | (k_end; wrow_close) | walk1 | (dsimp only; walk1) | fail "no step")
      refine' cb_retI (Q := Q) hret ?e ?f ?n
      case f => k_asm
      case n => first | with_reducible assumption | (refine' cb_drop ?cbN ?cbS; (case cbN => assumption); (case cbS => first | (intro q hq; (repeat with_reducible refine List.mem_cons_of_mem _ ?_); with_reducible exact hq) | kcj_all)) | k_asm
      case e => rfl
end
end Mine
end
local macro_rules | `(tactic| k_room) => `(tactic| ktr_room)
section
open PySem PySem.W PyProof.Rows PySem.Calls PySem.Spec
set_option Elab.async false
namespace Mine
noncomputable def wsBump (cs : List Int) (b : Int) : List Int := cs.set b.toNat (cs.getD b.toNat 0 + 1)
noncomputable def wsGo : List Str → Int → Int → Int → List Int → Int × Int × Int × List Int
  | [], b, n, nt, cs => (b, n, nt, cs)
  | ch :: r, b, n, nt, cs =>
    if (ch == Str.ofString " ") = true then wsGo r (b + 1) (n + 1) nt cs
    else if (ch == Str.ofString "\t") = true then wsGo r 0 (n + 1) (nt + 1) (wsBump (if (cs.length : Int) ≤ b then cs ++ List.replicate (b - cs.length + 1).toNat 0 else cs) b)
    else (b, n, nt, cs)
noncomputable def WsM (m₀ u : Str → Option Value) (b n nt : Int) (tb tn tt : Tok) (c : Addr) : Str → Option Value := fun z =>
  if z = Str.ofString "ch" then u z else if z = Str.ofString "b" then some (.int b tb) else if z = Str.ofString "n" then some (.int n tn) else if z = Str.ofString "nt" then some (.int nt tt) else if z = Str.ofString "count" then some (.ref c) else m₀ z
theorem WsM_of {m₀ m' : Str → Option Value} {b n nt : Int} {tb tn tt : Tok} {c : Addr} (hb : m' (Str.ofString "b") = some (.int b tb)) (hn : m' (Str.ofString "n") = some (.int n tn)) (ht : m' (Str.ofString "nt") = some (.int nt tt)) (hc : m' (Str.ofString "count") = some (.ref c))
    (ho : ∀ z, z ≠ Str.ofString "ch" → z ≠ Str.ofString "b" → z ≠ Str.ofString "n" → z ≠ Str.ofString "nt" → z ≠ Str.ofString "count" → m' z = m₀ z) : m' = WsM m₀ m' b n nt tb tn tt c := by
  funext z
  unfold WsM
  by_cases h1 : z = Str.ofString "ch"
  · rw [if_pos h1]
  · rw [if_neg h1]
    by_cases h2 : z = Str.ofString "b"
    · rw [if_pos h2, h2, hb]
    · rw [if_neg h2]
      by_cases h3 : z = Str.ofString "n"
      · rw [if_pos h3, h3, hn]
      · rw [if_neg h3]
        by_cases h4 : z = Str.ofString "nt"
        · rw [if_pos h4, h4, ht]
        · rw [if_neg h4]
          by_cases h5 : z = Str.ofString "count"
          · rw [if_pos h5, h5, hc]
          · rw [if_neg h5]
            exact ho z h1 h2 h3 h4 h5
inductive WsR (m₀ : Str → Option Value) (tl : List (Addr × Obj)) (fin : Int × Int × Int × List Int) (rest : List Str) (m : Str → Option Value) (nx : List (Addr × Obj)) : Prop where
  | mk (u : Str → Option Value) (b n nt : Int) (tb tn tt : Tok) (c : Addr) (us : List Value) (cs : List Int) (k : Nat) (h1 : nx = (c, listOf us.toArray k) :: tl) (h2 : m = WsM m₀ u b n nt tb tn tt c) (h3 : IntsAre us cs) (h4 : (∀ p ∈ tl, p.1 < c)) (h5 : wsGo rest b n nt cs = fin) (h6 : 0 ≤ b) (h7 : b + rest.length ≤ 100) (h8 : cs.length ≤ 101) : WsR m₀ tl fin rest m nx
theorem ne_of_lts {d : Addr} {l : List (Addr × Obj)} (h : ∀ p ∈ l, p.1 < d) : ∀ p ∈ l, p.1 ≠ d := fun p hp => Nat.ne_of_lt (h p hp)
theorem allLt_mem {d : Addr} : ∀ {l : List (Addr × Obj)}, AllLt d l → ∀ p ∈ l, p.1 < d
  | [], _, _, h => nomatch h
  | _ :: _, h, p, hp => by
    rcases List.mem_cons.mp hp with rfl | hp
    · exact h.1
    · exact allLt_mem h.2 p hp
theorem ne_of_allLt {d : Addr} {l : List (Addr × Obj)} (h : AllLt d l) : ∀ p ∈ l, p.1 ≠ d := fun p hp => Nat.ne_of_lt (allLt_mem h p hp)
section
variable {prog : Program} {w : World} {A : Around} {E : Value → Shared → Prop} {s : Shared} {env : Env} {h₀ : Heap} {body : List Stmt} {Q : Flow → Shared → Prop}
theorem ws_loop {tx : Str} {t : Tok} {m₀ : Str → Option Value} {tl : List (Addr × Obj)} {c₀ : Addr} {tb₀ tn₀ tt₀ : Tok} (hh : A.handled = none) (F : Fr h₀ env.locals s.heap m₀) (N : News h₀ env.locals s.heap ((c₀, listOf #[] 0) :: tl))
    (hb : m₀ (Str.ofString "b") = some (.int 0 tb₀)) (hn : m₀ (Str.ofString "n") = some (.int 0 tn₀)) (ht : m₀ (Str.ofString "nt") = some (.int 0 tt₀)) (hc : m₀ (Str.ofString "count") = some (.ref c₀)) (hlt : AllLt c₀ tl) (hlen : tx.length ≤ 100)
    (turn : (∀ (u : Str → Option Value) (b n nt : Int) (tb tn tt : Tok) (c : Addr) (us : List Value) (cs : List Int) (k : Nat) h tk, IntsAre us cs → AllLt c tl → (b, n, nt, cs) = wsGo (signs tx) 0 0 0 [] → 0 ≤ b → cs.length ≤ 101 → Fr h₀ env.locals h (WsM m₀ u b n nt tb tn tt c) → News h₀ env.locals h ((c, listOf us.toArray k) :: tl) → Q .next { s with heap := h, toks := tk }) →
      ∀ I ch r (u : Str → Option Value) (b n nt : Int) (tb tn tt : Tok) (c : Addr) (us : List Value) (cs : List Int) (k : Nat) uu it h tk, IntsAre us cs → AllLt c tl → wsGo (ch :: r) b n nt cs = wsGo (signs tx) 0 0 0 [] → 0 ≤ b → b + r.length + 1 ≤ 100 → cs.length ≤ 101 → (∀ p ∈ tl, p.1 ≠ I) → c ≠ I →
      Fr h₀ env.locals h (fun y => if y = Str.ofString "ch" then some (.str ch uu) else WsM m₀ u b n nt tb tn tt c y) → News h₀ env.locals h ((I, it) :: (c, listOf us.toArray k) :: tl) →
      wpAny (model prog w) A (execs body env) (UnrPost h₀ env.locals { s with heap := h, toks := tk } I it (WsR m₀ tl (wsGo (signs tx) 0 0 0 []) r) Q) E { s with heap := h, toks := tk })
    (done : ∀ (u : Str → Option Value) (b n nt : Int) (tb tn tt : Tok) (c : Addr) (us : List Value) (cs : List Int) (k : Nat) h tk, IntsAre us cs → AllLt c tl → (b, n, nt, cs) = wsGo (signs tx) 0 0 0 [] → 0 ≤ b → cs.length ≤ 101 → Fr h₀ env.locals h (WsM m₀ u b n nt tb tn tt c) → News h₀ env.locals h ((c, listOf us.toArray k) :: tl) → Q .next { s with heap := h, toks := tk }) :
    wpAny (model prog w) A (pyIter (.str tx t)) (fun it s₂ => LoopAtV prog w A h₀ env (Str.ofString "ch") body Q E it s₂) E s := by
  have hsl : (signs tx).length = tx.length := by simp [signs, Str.length]
  refine loop_chars (WsR m₀ tl (wsGo (signs tx) 0 0 0 [])) hh F N
    ⟨m₀, 0, 0, 0, tb₀, tn₀, tt₀, c₀, [], [], 0, rfl, WsM_of hb hn ht hc (fun _ _ _ _ _ _ => rfl), .nil, allLt_mem hlt, rfl, by omega, by rw [hsl]; omega, by simp⟩ ?_ ?_
  · rintro I ch r m nx uu it h tk ⟨u, b, n, nt, tb, tn, tt, c, us, cs, k, rfl, rfl, hI, hl, hg, h0, h1, h2⟩ hoff F₁ N₁
    refine turn done I ch r u b n nt tb tn tt c us cs k uu it h tk hI (allLt_of hl) hg h0 (by rw [List.length_cons] at h1; omega) h2 (fun p hp => hoff p (.tail _ hp)) (hoff _ (.head _)) F₁ N₁
  · rintro m nx h tk ⟨u, b, n, nt, tb, tn, tt, c, us, cs, k, rfl, rfl, hI, hl, hg, h0, h1, h2⟩ F₁ N₁
    exact done u b n nt tb tn tt c us cs k h tk hI (allLt_of hl) hg h0 h2 F₁ N₁
end
noncomputable abbrev wsDict (P : Params) (raw : Str) (t1 : Tok) (n nt : Int) (tn tt : Tok) (T : Addr) (v : Value) (k1 k2 k3 k4 k5 : Tok) (nn : Nat) : Obj :=
  dictOf [⟨PyData.keyHash P (Str.ofString "raw"), .str (Str.ofString "raw") k1, .str raw t1⟩, ⟨PyData.keyHash P (Str.ofString "n"), .str (Str.ofString "n") k2, .int n tn⟩, ⟨PyData.keyHash P (Str.ofString "nt"), .str (Str.ofString "nt") k3, .int nt tt⟩,
    ⟨PyData.keyHash P (Str.ofString "norm"), .str (Str.ofString "norm") k4, .ref T⟩, ⟨PyData.keyHash P (Str.ofString "is_simple"), .str (Str.ofString "is_simple") k5, v⟩] nn
noncomputable def WsRet (w : World) (h₀ : Heap) (L : Addr) (m : Str → Option Value) (news : List (Addr × Obj)) (s : Shared) (Q : Value → Shared → Prop) (raw : Str) (t1 : Tok) : Prop :=
  ∀ (x dx T C : Addr) (us : List Value) (b n nt : Int) (tb tn tt : Tok) (cs : List Int) (v : Value) (k1 k2 k3 k4 k5 : Tok) (nn : Nat) (h' : Heap) (tk' : Nat), (b, n, nt, cs) = wsGo (signs raw) 0 0 0 [] → IntsAre us cs → cs.length ≤ 101 → 0 ≤ b → (∀ p ∈ news, p.1 < dx) → dx < x → x < C → C < T →
    Fr h₀ L h' m → News h₀ L h' ((T, { cls := .type "tuple", data := .seq #[.ref C, .int b tb] }) :: (C, { cls := .type "tuple", data := .seq us.toArray }) :: (x, instObj 251 dx) :: (dx, wsDict w.params raw t1 n nt tn tt T v k1 k2 k3 k4 k5 nn) :: news) → Q (.ref x) { s with heap := h', toks := tk' }
theorem WsM_ch {m₀ u : Str → Option Value} {v : Option Value} {b n nt : Int} {tb tn tt : Tok} {c : Addr} : (fun y => if y = Str.ofString "ch" then v else WsM m₀ u b n nt tb tn tt c y) = WsM m₀ (fun _ => v) b n nt tb tn tt c := by
  funext z
  unfold WsM
  by_cases h1 : z = Str.ofString "ch"
  · rw [if_pos h1, if_pos h1]
  · rw [if_neg h1, if_neg h1, if_neg h1]
theorem rep_flat (n : Nat) : (List.replicate n [(0 : Int)]).flatten = List.replicate n 0 := by
  induction n with
  | zero => rfl
  | succ n ih => rw [List.replicate_succ, List.flatten_cons, ih]; rfl
theorem ws_end {h₀ : Heap} {L I c' : Addr} {it : Obj} {h' : Heap} {tk : Nat} {m₀ m' : Str → Option Value} {news2 tl : List (Addr × Obj)} {fin : Int × Int × Int × List Int} {r : List Str} {s₁ : Shared} {Q : Flow → Shared → Prop}
    {us : List Value} {cs : List Int} {k : Nat} {b n nt : Int} {tb tn tt : Tok}
    (F : Fr h₀ L h' m') (N : News h₀ L h' news2) (hI : (I, it) ∈ news2) (hc : (c', listOf us.toArray k) ∈ news2) (ht : ∀ p ∈ tl, p ∈ news2) (hoff : ∀ p ∈ tl, p.1 ≠ I) (hcI : c' ≠ I)
    (hb : m' (Str.ofString "b") = some (.int b tb)) (hn : m' (Str.ofString "n") = some (.int n tn)) (hnt : m' (Str.ofString "nt") = some (.int nt tt)) (hco : m' (Str.ofString "count") = some (.ref c'))
    (ho : ∀ z, z ≠ Str.ofString "ch" → z ≠ Str.ofString "b" → z ≠ Str.ofString "n" → z ≠ Str.ofString "nt" → z ≠ Str.ofString "count" → m' z = m₀ z)
    (hi : IntsAre us cs) (hlt : AllLt c' tl) (hgo : wsGo r b n nt cs = fin) (h0 : 0 ≤ b) (h1 : b + r.length ≤ 100) (h2 : cs.length ≤ 101) :
    UnrPost h₀ L s₁ I it (WsR m₀ tl fin r) Q .next { s₁ with heap := h', toks := tk } := by
  refine ⟨h', tk, m', (c', listOf us.toArray k) :: tl, rfl, F, ?_, ?_, m', b, n, nt, tb, tn, tt, c', us, cs, k, rfl, WsM_of hb hn hnt hco ho, hi, allLt_mem hlt, hgo, h0, h1, h2⟩
  · intro p hp
    rcases List.mem_cons.mp hp with rfl | hp
    · exact N _ hI
    · rcases List.mem_cons.mp hp with rfl | hp
      · exact N _ hc
      · exact N _ (ht p hp)
  · intro p hp
    rcases List.mem_cons.mp hp with rfl | hp
    · exact hcI
    · exact hoff p hp
theorem wsGo_sp {ch : Str} {r : List Str} {b n nt : Int} {cs : List Int} (h : (ch == Str.ofString " ") = true) : wsGo (ch :: r) b n nt cs = wsGo r (b + 1) (n + 1) nt cs := by
  rw [wsGo, if_pos h]
theorem wsGo_tab {ch : Str} {r : List Str} {b n nt : Int} {cs : List Int} (h : (ch == Str.ofString " ") = false) (h' : (ch == Str.ofString "\t") = true) : wsGo (ch :: r) b n nt cs = wsGo r 0 (n + 1) (nt + 1) (wsBump (if (cs.length : Int) ≤ b then cs ++ List.replicate (b - cs.length + 1).toNat 0 else cs) b) := by
  rw [wsGo, if_neg (by rw [h]; exact Bool.false_ne_true), if_pos h']
theorem wsGo_no {ch : Str} {r : List Str} {b n nt : Int} {cs : List Int} (h : (ch == Str.ofString " ") = false) (h' : (ch == Str.ofString "\t") = false) : wsGo (ch :: r) b n nt cs = (b, n, nt, cs) := by
  rw [wsGo, if_neg (by rw [h]; exact Bool.false_ne_true), if_neg (by rw [h']; exact Bool.false_ne_true)]
section
local macro_rules | `(tactic| k_all) => `(tactic| exact ne_of_allLt (by first | assumption | exact (And.right (by assumption)) | exact (And.right (And.right (by assumption))) | exact (And.right (And.right (And.right (by assumption)))) | exact (And.right (And.right (And.right (And.right (by assumption))))) | exact (And.right (And.right (And.right (And.right (And.right (by assumption)))))) | exact (And.right (And.right (And.right (And.right (And.right (And.right (by assumption))))))) | exact (And.right (And.right (And.right (And.right (And.right (And.right (And.right (by assumption)))))))) | exact (And.right (And.right (And.right (And.right (And.right (And.right (And.right (And.right (by assumption))))))))) | exact (And.right (And.right (And.right (And.right (And.right (And.right (And.right (And.right (And.right (by assumption))))))))))))
local macro_rules | `(tactic| k_all) => `(tactic| exact ne_of_lts (by assumption))
set_option maxRecDepth 100000 in
set_option maxHeartbeats 8000000 in
theorem ws_make (w : World) (mean : ExcName → Option Value) (mg mb : Str → Option Value) (raw : CbStr) (t1 : CbTok) (news : CbLed) :
  ∀ (dp un : Nat) (gd : Option (List Code)) (cn : Str) (cs : Scope) (a : Addr) (ccd : Value) (cl : List (Str × Addr)) (outer : List Env) (A₀ : Around) (base h₀ : Heap) (L : Addr) (m : Str → Option Value) (s : Shared) (Q E : Value → Shared → Prop) (p : Program) (loose : List Str),
    Below A₀ base outer h₀ → Fr h₀ L s.heap m → (hd.heap_39 w.params).In h₀ → News h₀ L s.heap news → Top p loose mean mg mb h₀ → cs.kind = .function →
    raw.length ≤ 100 → dp + 20 < recursionLimit → un + 8 * 20 < cLine → WsRet w h₀ L m news s Q raw t1 →
      wpAny (model Challenge.rw_sr0083_01.row.prog w) (ktrTop dp un gd cn cs L a ccd cl outer) (call (.ref 251) [.str raw t1]) Q E s := by
  k_fill
  intro dp un gd cn cs a ccd cl outer A₀ base h₀ L m s Q E p loose B F X N T hk hb hd hu hret
  k_dflt (refine' call_cls ?k1 ?k2 ?k3 ?k4 ?k5 ?k6 ?_; (case k1 => k_asm); (case k2 => k_asm); (case k3 => k_asm); (case k4 => k_is); (case k5 => k_is); (case k6 => k_is))
  intro x' d' h' F' N' l1 l2
  k_lt2 l2
  k_sweep
  k_dflt cell_enter
  repeat' (first | (k_unfold; (try dsimp only)) | ((with_reducible show wpAny _ _ (execs (_ :: _) _) _ _ _); (first | (refine exCons s ?_; intro kS Pq hPq) | (refine exCons0 ?_; intro Pq hPq))) | (with_reducible refine Aft.next (by assumption) ?_) | (with_reducible refine Aft.ret (by assumption) ?_) | (with_reducible refine Aft.brk (by assumption) ?_) | (with_reducible refine Aft.cont (by assumption) ?_) | ((fail_if_success (with_reducible show wpAny _ _ (pyIter _) _ _ _)); first | ((with_reducible show wpAny _ _ (call (Value.type _) [Value.ref _]) _ _ _); (rename IntsAre _ _ => hI'); k_dflt (refine' kde_tupleOf ?k1 ?k2 ?k3 ?k4 ?k5 ?_; (case k1 => k_asm); (case k2 => k_asm); (case k3 => exact News.isList (by k_asm) (by k_mem)); (case k4 => (rw [List.size_toArray, hI'.length]; omega)); (case k5 => exact List.toList_toArray)); intro D' h' F' N' l1; k_lt l1) | ((with_reducible show wpAny _ _ (setItem (Value.ref _) (Value.int _ _) (Value.int _ _)) _ _ _); k_dflt (refine' ksa_set ?k1 ?k2 ?k3 ?k4 ?k5 ?k6 ?k7 ?_; (case k1 => k_asm); (case k2 => k_asm); (case k3 => first | k_upd | exact Upd.tail (Ne.symm (by assumption)) (Upd.head (by k_all))); (case k4 => with_reducible assumption); (case k5 => first | ksa_idx | omega); (case k6 => first | ksa_idx | omega); (case k7 => first | ksa_idx | omega)); intro h' F' N' hi' hl' hs') | walk1) | ((fail_if_success (with_reducible show wpAny _ _ (pyIter _) _ _ _)); dsimp only; walk1) | fail "no step")
  (rename Fr _ _ _ _ => lF'); (rename News _ _ _ _ => lN'); (rename (_ ∧ _) => lt9)
  refine' ws_loop ?hh ?hF ?hN ?hb ?hn ?ht ?hc ?hl hb ?_ ?_
  case hF => exact lF'
  case hN => exact lN'
  case hh => rfl
  case hb => rfl
  case hn => rfl
  case ht => rfl
  case hc => rfl
  case hl => simp only [AllLt]; exact lt9
  · clear lF' lN'
    intro hdone I ch r u b n nt tb tn tt c us cs2 k uu it h9 tk9 hI hc hgo h0 h1 h2 hoff hcI F9 N9
    simp only [AllLt] at hc
    repeat' (first | (k_unfold; (try dsimp only)) | ((with_reducible show wpAny _ _ (execs (_ :: _) _) _ _ _); (first | (refine exCons s ?_; intro kS Pq hPq) | (refine exCons0 ?_; intro Pq hPq))) | (with_reducible refine Aft.next (by assumption) ?_) | (with_reducible refine Aft.ret (by assumption) ?_) | (with_reducible refine Aft.brk (by assumption) ?_) | (with_reducible refine Aft.cont (by assumption) ?_) | ((fail_if_success (with_reducible show UnrPost _ _ _ _ _ _ _ _ _)); first | ((with_reducible show wpAny _ _ (call (Value.type _) [Value.ref _]) _ _ _); (rename IntsAre _ _ => hI'); k_dflt (refine' kde_tupleOf ?k1 ?k2 ?k3 ?k4 ?k5 ?_; (case k1 => k_asm); (case k2 => k_asm); (case k3 => exact News.isList (by k_asm) (by k_mem)); (case k4 => (rw [List.size_toArray, hI'.length]; omega)); (case k5 => exact List.toList_toArray)); intro D' h' F' N' l1; k_lt l1) | ((with_reducible show wpAny _ _ (setItem (Value.ref _) (Value.int _ _) (Value.int _ _)) _ _ _); k_dflt (refine' ksa_set ?k1 ?k2 ?k3 ?k4 ?k5 ?k6 ?k7 ?_; (case k1 => k_asm); (case k2 => k_asm); (case k3 => first | k_upd | exact Upd.tail (Ne.symm (by assumption)) (Upd.head (by k_all))); (case k4 => with_reducible assumption); (case k5 => first | ksa_idx | omega); (case k6 => first | ksa_idx | omega); (case k7 => first | ksa_idx | omega)); intro h' F' N' hi' hl' hs') | walk1) | ((fail_if_success (with_reducible show UnrPost _ _ _ _ _ _ _ _ _)); dsimp only; walk1) | fail "no step")
    · (rename Fr _ _ _ _ => lF'); (rename News _ _ _ _ => lN')
      refine' ws_end lF' lN' ?hI ?hc ?ht hoff hcI ?hb ?hn ?hnt ?hco ?ho hI ?hlt ?hgo ?h0 ?h1 h2
      case hI => k_mem
      case hc => k_mem
      case ht => exact fun p hp => List.mem_cons_of_mem _ (List.mem_cons_of_mem _ hp)
      case hb => rfl
      case hn => rfl
      case hnt => rfl
      case hco => rfl
      case ho => intro z h1 h2 h3 h4 h5; simp only [WsM, h1, h2, h3, h4, h5, if_false]
      case hlt => exact hc
      case hgo => rw [← hgo]; exact (wsGo_sp (by assumption)).symm
      case h0 => omega
      case h1 => omega
    · (rename Fr _ _ _ _ => lF'); (rename News _ _ _ _ => lN'); (rename IntsAre _ _ => hI3); (rename (List.length (List.set _ _ _) = _) => hl3); (rename (_ ≤ b) => hle)
      (rename (_ ∧ _) => lt8)
      refine' ws_end lF' lN' ?hI ?hc ?ht hoff ?hcI2 ?hb ?hn ?hnt ?hco ?ho hI3 ?hlt ?hgo ?h0 ?h1 ?h2
      case hI => k_mem
      case hc => k_mem
      case ht => exact fun p hp => List.mem_cons_of_mem _ (List.mem_cons_of_mem _ (List.mem_cons_of_mem _ (List.mem_cons_of_mem _ (List.mem_cons_of_mem _ hp))))
      case hcI2 => exact Nat.ne_of_gt lt8.2.2.1
      case hb => rfl
      case hn => rfl
      case hnt => rfl
      case hco => rfl
      case ho => intro z h1 h2 h3 h4 h5; simp only [WsM, h1, h2, h3, h4, h5, if_false]
      case hlt => exact lt8.2.2.2.2
      case hgo => (rw [← hgo, wsGo_tab (by assumption) (by assumption), if_pos hle, rep_flat]; rfl)
      case h0 => omega
      case h1 => omega
      case h2 => (rw [rep_flat]; simp only [List.length_set, List.length_append, List.length_replicate]; omega)
    · (rename Fr _ _ _ _ => lF'); (rename News _ _ _ _ => lN'); (rename IntsAre _ _ => hI3); (rename (¬ _ ≤ b) => hle)
      refine' ws_end lF' lN' ?hI ?hc ?ht hoff hcI ?hb ?hn ?hnt ?hco ?ho hI3 ?hlt ?hgo ?h0 ?h1 ?h2
      case hI => k_mem
      case hc => k_mem
      case ht => exact fun p hp => List.mem_cons_of_mem _ (List.mem_cons_of_mem _ hp)
      case hb => rfl
      case hn => rfl
      case hnt => rfl
      case hco => rfl
      case ho => intro z h1 h2 h3 h4 h5; simp only [WsM, h1, h2, h3, h4, h5, if_false]
      case hlt => exact hc
      case hgo => (rw [← hgo, wsGo_tab (by assumption) (by assumption), if_neg hle]; rfl)
      case h0 => omega
      case h1 => omega
      case h2 => (simp only [List.length_set]; omega)
    · (rename Fr _ _ _ _ => lF'); (rename News _ _ _ _ => lN')
      rw [WsM_ch] at lF'
      exact hdone _ _ _ _ _ _ _ _ _ _ _ _ _ hI hc (by rw [← hgo]; exact (wsGo_no (by assumption) (by assumption)).symm) h0 h2 lF' fun p hp => lN' p (.tail _ hp)
  · clear lF' lN'
    intro u b n nt tb tn tt c us cs2 k h9 tk9 hI hc hgo h0 h2 F9 N9
    simp only [AllLt] at hc
    repeat' (first | (k_unfold; (try dsimp only)) | ((with_reducible show wpAny _ _ (execs (_ :: _) _) _ _ _); (first | (refine exCons s ?_; intro kS Pq hPq) | (refine exCons0 ?_; intro Pq hPq))) | (with_reducible refine Aft.next (by assumption) ?_) | (with_reducible refine Aft.ret (by assumption) ?_) | (with_reducible refine Aft.brk (by assumption) ?_) | (with_reducible refine Aft.cont (by assumption) ?_) | ((with_reducible show wpAny _ _ (call (Value.type _) [Value.ref _]) _ _ _); (rename IntsAre _ _ => hI'); k_dflt (refine' kde_tupleOf ?k1 ?k2 ?k3 ?k4 ?k5 ?_; (case k1 => k_asm); (case k2 => k_asm); (case k3 => exact News.isList (by k_asm) (by k_mem)); (case k4 => (rw [List.size_toArray, hI'.length]; omega)); (case k5 => exact List.toList_toArray)); intro D' h' F' N' l1; k_lt l1) | ((with_reducible show wpAny _ _ (setItem (Value.ref _) (Value.int _ _) (Value.int _ _)) _ _ _); k_dflt (refine' ksa_set ?k1 ?k2 ?k3 ?k4 ?k5 ?k6 ?k7 ?_; (case k1 => k_asm); (case k2 => k_asm); (case k3 => first | k_upd | exact Upd.tail (Ne.symm (by assumption)) (Upd.head (by k_all))); (case k4 => with_reducible assumption); (case k5 => first | ksa_idx | omega); (case k6 => first | ksa_idx | omega); (case k7 => first | ksa_idx | omega)); intro h' F' N' hi' hl' hs') | (k_end; wrow_close) | walk1 | (dsimp only; walk1) | fail "no step")
    (rename News h₀ L _ _ => kN); (rename Fr h₀ L _ _ => kF)
    (rename (_ ∧ _) => lt8)
    have o2 := lt8.1
    clear lt8
    (rename (_ ∧ _) => lt7)
    have o1 := lt7.2.2.1
    refine' hret x' d' _ _ us b n nt tb tn tt cs2 _ _ _ _ _ _ _ _ _ hgo ?hi h2 h0 l1 l2 ?o1 ?o2 kF ?kN
    case hi => assumption
    case kN =>
      refine fun p hp => kN p ?_
      rcases List.mem_cons.mp hp with rfl | hp
      · k_mem
      rcases List.mem_cons.mp hp with rfl | hp
      · k_mem
      rcases List.mem_cons.mp hp with rfl | hp
      · k_mem
      rcases List.mem_cons.mp hp with rfl | hp
      · k_mem
      exact List.mem_cons_of_mem _ (List.mem_cons_of_mem _ (List.mem_cons_of_mem _ (List.mem_cons_of_mem _ (List.mem_cons_of_mem _ (List.mem_cons_of_mem _ hp)))))
    case o1 => exact o1
    case o2 => exact o2
end
end Mine
end
section
open PySem PySem.W PyProof.Rows PySem.Calls PySem.Spec
set_option Elab.async false
namespace Mine
noncomputable def ilIn (wd : Int) (cs : List Int) (il i : Int) : Int := il + Int.fdiv i wd * cs.getD i.toNat 0
noncomputable def ilOf (wd b nt : Int) (cs : List Int) : Int := b + wd * ((rangeKs wd ((cs.length : Int) - wd).toNat).foldl (ilIn wd cs) 0 + nt)
section
variable {prog : Program} {w : World} {A : Around} {E : Value → Shared → Prop} {s : Shared} {h₀ : Heap} {L : Addr} {news : List (Addr × Obj)}
theorem item_tints {value slice : PySem.Expr} {l : Addr} {vs : List Value} {ns : List Int} {k : Int} {u : Tok} {Q : Value → Shared → Prop} (N : News h₀ L s.heap news) (hm : (l, ({ cls := .type "tuple", data := .seq vs.toArray } : Obj)) ∈ news) (hI : IntsAre vs ns)
    (h0 : 0 ≤ k) (h1 : k < ns.length) (hfit : k < 2 ^ 63) (h : ∀ t, Q (.int (ns.getD k.toNat 0) t) s)
    (hs : subscripted slice false (.ref l) (.int k u) = operate [.ref l, .int k u] (getItem (.ref l) (.int k u)) := by with_unfolding_all rfl) :
    wpAny (model prog w) A (subscriptTail value slice (.ref l) (.int k u)) Q E s := by
  have ht : IsTup s.heap l vs.toArray := ⟨_, N.get hm, rfl, _, rfl⟩
  obtain ⟨t, hx⟩ := hI.get k.toNat _ (ints_getD h0 h1)
  have hn : k < ((vs.toArray.size : Nat) : Int) := by rw [List.size_toArray, hI.length]; exact h1
  exact tail_any ht.typeIs slot_tuple_getitem.lookup (getItem_tuple ht (by omega) hfit (seqIndex_of h0 hn) (x := .int _ t) (by simpa using hx) (h t)) hs
theorem len_tints {l : Addr} {vs : List Value} {ns : List Int} {Q : Value → Shared → Prop} (N : News h₀ L s.heap news) (hm : (l, ({ cls := .type "tuple", data := .seq vs.toArray } : Obj)) ∈ news) (hI : IntsAre vs ns) (hb : ns.length ≤ 10000)
    (h : ∀ t k, Q (.int ns.length t) { s with toks := k }) : wpAny (model prog w) A (call (.builtin "len") [.ref l]) Q E s :=
  kun_lenT (items := vs.toArray) ⟨_, N.get hm, rfl, _, rfl⟩ (by rw [List.size_toArray, hI.length]) (by omega) (h _ _)
end
section
set_option maxRecDepth 100000 in
set_option maxHeartbeats 8000000 in
theorem il_claim (w : World) (mean : ExcName → Option Value) (mg mb : Str → Option Value) (x dx T C : CbAddr) (raw : CbStr) (t1 tn tt tb : CbTok) (n nt b wd : Int) (us : List CbVal) (cs2 : List Int) (v : CbVal) (k1 k2 k3 k4 k5 : CbTok) (nn : Nat) (tw : CbTok) (news : CbLed)
   (hx : (x, instObj 251 dx) ∈ news) (hdx : (dx, wsDict w.params raw t1 n nt tn tt T v k1 k2 k3 k4 k5 nn) ∈ news) (hT : (T, ({ cls := .type "tuple", data := .seq #[.ref C, .int b tb] } : Obj)) ∈ news) (hC : (C, ({ cls := .type "tuple", data := .seq us.toArray } : Obj)) ∈ news) (hI : IntsAre us cs2) :
   Callee w mean mg mb 220 news 20 (1 ≤ wd ∧ wd ≤ 8 ∧ cs2.length ≤ 101) [.ref x, .int wd tw] (fun t => .int (ilOf wd b nt cs2) t) := by
  unfold Callee
  k_fill
  dsimp only [CbRet]
  intro dp un gd cn cs a ccd cl outer A₀ base h₀ L m s Q E p loose B F X N T hk hb hd hu hret
  obtain ⟨hb1, hb2, hb3⟩ := hb
  refine wpAny_call ?_
  k_dflt cell_enter
  repeat' (first | (k_unfold; (try dsimp only)) | ((with_reducible show wpAny _ _ (execs (_ :: _) _) _ _ _); (first | (refine exCons s ?_; intro kS Pq hPq) | (refine exCons0 ?_; intro Pq hPq))) | (with_reducible refine Aft.next (by assumption) ?_) | (with_reducible refine Aft.ret (by assumption) ?_) | (with_reducible refine Aft.brk (by assumption) ?_) | (with_reducible refine Aft.cont (by assumption) ?_) | ((fail_if_success (with_reducible show wpAny _ _ (pyIter _) _ _ _)); first | ((with_reducible show wpAny _ _ (exec (PySem.Stmt.For _ _ _ _ _) _) _ _ _); ((rename Fr _ _ _ _ => lF'); (with_unfolding_all refine' For_invVF lF' ?k1 ?k2 ?_; (case k1 => exact rfl); (case k2 => exact rfl); k_whole))) | ((with_reducible show wpAny _ _ (subscriptTail _ _ (Value.ref _) (Value.int _ _)) _ _ _); k_dflt (refine' item_tints ?N ?hm ?hI ?h0 ?h1 ?hf ?_ ?hs; (case N => k_asm); (case hm => repeat (first | assumption | refine List.mem_append_left _ ?_ | refine List.mem_cons_of_mem _ ?_)); (case hI => assumption); (case h0 => omega); (case h1 => omega); (case hf => omega); (case hs => with_unfolding_all rfl)); intro t') | ((with_reducible show wpAny _ _ (call (Value.builtin "len") [Value.ref _]) _ _ _); k_dflt (refine' len_tints ?N ?hm ?hI ?hb ?_; (case N => k_asm); (case hm => assumption); (case hI => assumption); (case hb => omega)); intro _ _) | walk1) | ((fail_if_success (with_reducible show wpAny _ _ (pyIter _) _ _ _)); dsimp only; walk1) | fail "no step")
  (rename Fr _ _ _ _ => lF'); (rename News _ _ _ _ => lN'); (rename IsRange _ _ _ _ _ _ _ _ => rgX)
  refine' loop_count (x := Str.ofString "i") (ilIn wd cs2) (Str.ofString "il") [] ?hh rgX ?hs (rangeSize_nat _ _) lF' lN' ?hy ?_ ?_
  case hh => rfl
  case hs => exact small_one (by omega) (by omega) (by omega) (by omega)
  case hy => rfl
  · clear lF' lN'
    intro k' t' c' tc' u' h' tk' own' hk' hoff' F' N'
    have hk := mem_rangeKs hk'
    have hq : 0 ≤ Int.fdiv k' wd ∧ Int.fdiv k' wd ≤ 101 := by
      rw [Int.fdiv_eq_ediv_of_nonneg _ (by omega)]
      have q1 := Int.ediv_le_self (a := k') wd (by omega)
      have q2 := Int.ediv_nonneg (a := k') (b := wd) (by omega) (by omega)
      omega
    repeat' (first | (k_unfold; (try dsimp only)) | ((with_reducible show wpAny _ _ (execs (_ :: _) _) _ _ _); (first | (refine exCons s ?_; intro kS Pq hPq) | (refine exCons0 ?_; intro Pq hPq))) | (with_reducible refine Aft.next (by assumption) ?_) | (with_reducible refine Aft.ret (by assumption) ?_) | (with_reducible refine Aft.brk (by assumption) ?_) | (with_reducible refine Aft.cont (by assumption) ?_) | ((fail_if_success (with_reducible show InvEndN _ _ _ _ _ _ _)); first | ((with_reducible show wpAny _ _ (exec (PySem.Stmt.For _ _ _ _ _) _) _ _ _); ((rename Fr _ _ _ _ => lF'); (with_unfolding_all refine' For_invVF lF' ?k1 ?k2 ?_; (case k1 => exact rfl); (case k2 => exact rfl); k_whole))) | ((with_reducible show wpAny _ _ (subscriptTail _ _ (Value.ref _) (Value.int _ _)) _ _ _); k_dflt (refine' item_tints ?N ?hm ?hI ?h0 ?h1 ?hf ?_ ?hs; (case N => k_asm); (case hm => repeat (first | assumption | refine List.mem_append_left _ ?_ | refine List.mem_cons_of_mem _ ?_)); (case hI => assumption); (case h0 => omega); (case h1 => omega); (case hf => omega); (case hs => with_unfolding_all rfl)); intro t') | ((with_reducible show wpAny _ _ (call (Value.builtin "len") [Value.ref _]) _ _ _); k_dflt (refine' len_tints ?N ?hm ?hI ?hb ?_; (case N => k_asm); (case hm => assumption); (case hI => assumption); (case hb => omega)); intro _ _) | walk1) | ((fail_if_success (with_reducible show InvEndN _ _ _ _ _ _ _)); dsimp only; walk1) | fail "no step")
    (rename Fr _ _ _ _ => lF'); (rename News _ _ _ _ => lN')
    refine' RI_end lF' lN' (fun p hp => List.mem_append.mpr (.inl hp)) (fun p hp => List.mem_append.mpr (.inr hp)) ?hy ?hd ?hm
    case hy => rfl
    case hm => intro z h1 h2 _; simp [h1, h2]
    case hd => rfl
  · clear lF' lN'
    intro u2 t2 h2 tk2 F2 N2
    repeat' (first | (k_unfold; (try dsimp only)) | ((with_reducible show wpAny _ _ (execs (_ :: _) _) _ _ _); (first | (refine exCons s ?_; intro kS Pq hPq) | (refine exCons0 ?_; intro Pq hPq))) | (with_reducible refine Aft.next (by assumption) ?_) | (with_reducible refine Aft.ret (by assumption) ?_) | (with_reducible refine Aft.brk (by assumption) ?_) | (with_reducible refine Aft.cont (by assumption) ?_) | ((with_reducible show wpAny _ _ (exec (PySem.Stmt.For _ _ _ _ _) _) _ _ _); ((rename Fr _ _ _ _ => lF'); (with_unfolding_all refine' For_invVF lF' ?k1 ?k2 ?_; (case k1 => exact rfl); (case k2 => exact rfl); k_whole))) | ((with_reducible show wpAny _ _ (subscriptTail _ _ (Value.ref _) (Value.int _ _)) _ _ _); k_dflt (refine' item_tints ?N ?hm ?hI ?h0 ?h1 ?hf ?_ ?hs; (case N => k_asm); (case hm => repeat (first | assumption | refine List.mem_append_left _ ?_ | refine List.mem_cons_of_mem _ ?_)); (case hI => assumption); (case h0 => omega); (case h1 => omega); (case hf => omega); (case hs => with_unfolding_all rfl)); intro t') | ((with_reducible show wpAny _ _ (call (Value.builtin "len") [Value.ref _]) _ _ _); k_dflt (refine' len_tints ?N ?hm ?hI ?hb ?_; (case N => k_asm); (case hm => assumption); (case hI => assumption); (case hb => omega)); intro _ _) | (k_end; wrow_close) | walk1 | (dsimp only; walk1) | fail "no step")
    refine' cb_retI (Q := Q) hret ?e ?f ?n
    case f => k_asm
    case n => first | with_reducible assumption | (refine' cb_drop ?cbN ?cbS; (case cbN => assumption); (case cbS => first | (intro q hq; (repeat with_reducible refine List.mem_cons_of_mem _ ?_); with_reducible exact hq) | kcj_all)) | k_asm
    case e => rfl
end
end Mine
end
section
open PySem PySem.W PyProof.Rows PySem.Calls PySem.Spec
set_option Elab.async false
namespace Mine
section
variable {M : Model} {A : Around} {E : Value → Shared → Prop} {s : Shared}
theorem check_sub {i owner n : String} {self : Value} {rest : List Value} {Q : Unit → Shared → Prop} (hk : builtinKind i = some .slot ∨ builtinKind i = some .method) (hs : splitId i = some (owner, n))
    (hi : Looks M s.heap (isInstance self (.type owner)) true) (ha : argsOk i ⟨self :: rest, []⟩) (q : Q () s) : wpAny M A (checkBuiltinCall i ⟨self :: rest, []⟩) Q E s := by
  rcases hk with hk | hk
  · exact check_slot hk hs hi ha q
  · simp only [checkBuiltinCall, hk, hs]
    refine wpAny_bind (hi.here ?_)
    simp only [Bool.not_true, Bool.false_eq_true, if_false]
    cases hsig : Manifest.signature? i with
    | none => exact wpAny_pure q
    | some sig =>
      simp only [argsOk, hsig] at ha
      have h2 : Bind.checkArgs i sig ⟨self :: rest, []⟩ = pure () := ha
      show wpAny M A (Bind.checkArgs i sig ⟨self :: rest, []⟩) Q E s
      rw [h2]; exact wpAny_pure q
end
section
variable {prog : Program} {w : World} {A : Around} {E : Value → Shared → Prop} {s : Shared} {K : Frag} {x C : Addr} {ox : Obj} {od : Option Obj}
theorem call_sub {id owner n : String} {b : Builtin} {rest : List Value} {Q : Value → Shared → Prop} (X : K.In s.heap) (I : InstAt s.heap x ox C od) (hm : mroIn K C (.type owner) = some true)
    (hk : builtinKind id = some .slot ∨ builtinKind id = some .method) (hs : splitId id = some (owner, n)) (hq : plainId id = true) (hb : entryFor table id = some b) (ha : argsOk id ⟨.ref x :: rest, []⟩)
    (hc : wpAny (model prog w) A.in1 (b ⟨.ref x :: rest, []⟩) (fun fin s' => ∃ v, fin = .done (.ret v) ∧ Q v s') E s) : wpAny (model prog w) A (call (.builtin id) (.ref x :: rest)) Q E s := by
  refine wpAny_call (codeAny_call_builtin hq hb (check_sub hk hs ?_ ha (wpAny_mono hc (fun fin s' h' => ?_) fun _ _ h' => h')))
  · exact I.type.andThen (looks_mroIn X hm)
  · obtain ⟨v, rfl, hv⟩ := h'; exact hv
/-- the list part of an object of a list's own class -/
noncomputable def IsSub (h : Heap) (a : Addr) (items : Array Value) : Prop := ∃ o n, h.get? a = some o ∧ o.data = .seq items n
theorem IsSub.at {h h' : Heap} {a : Addr} {items : Array Value} (x : IsSub h a items) (hk : ∀ o, h.get? a = some o → h'.get? a = some o) : IsSub h' a items := let ⟨o, n, e, r⟩ := x; ⟨o, n, hk o e, r⟩
theorem iter_sub {Q : Value → Shared → Prop} (X : K.In s.heap) (I : InstAt s.heap x ox C od) (hm : mroIn K C (.type "list") = some true) (hf : findIn K (.ref C) "__iter__" = some (some (.builtin "list.__iter__")))
    (h : Q (.ref s.heap.objs.size) { s with heap := s.heap.push { cls := .type "list_iterator", data := .fields #[.ref x, .int 0 0] } }) : wpAny (model prog w) A (pyIter (.ref x)) Q E s := by
  have fin : wpAny (model prog w) A (call (.builtin "list.__iter__") [.ref x] >>= fun v => pure (some v)) (fun r s' => r = some (.ref s.heap.objs.size) ∧ s' = { s with heap := s.heap.push { cls := .type "list_iterator", data := .fields #[.ref x, .int 0 0] } }) E s := by
    refine wpAny_bind (call_sub X I hm (.inl (by decide +kernel)) (n := "__iter__") (by decide +kernel) (by decide +kernel) F.entry_list_iter (F.args_list_iter_1 _) ?_)
    show wpAny _ _ (do ret (← newFields "list_iterator" [.ref x, rawInt 0])) _ _ s
    exact wpAny_bind (wpAny_newObj_type (wpAny_pure ⟨_, rfl, wpAny_pure ⟨rfl, rfl⟩⟩))
  have one : ∀ refuse : Sem Value, wpAny (model prog w) A (callSpecialIfBoundUnlessNone? (.ref x) "__iter__" refuse) (fun r s' => r = some (.ref s.heap.objs.size) ∧ s' = { s with heap := s.heap.push { cls := .type "list_iterator", data := .fields #[.ref x, .int 0 0] } }) E s := by
    intro refuse
    simp only [callSpecialIfBoundUnlessNone?, bindSpecialIfBound?]
    refine wpAny_holding (wpAny_bind (wpAny_bind (wpAny_bind (I.type.here ((looks_findIn X hf).here ?_)))))
    refine wpAny_bind (wpAny_askSetting (wpAny_ite ?_))
    have fin2 : wpAny (model prog w) A (if (Value.builtin "list.__iter__" == Value.none) = true then (refuse >>= fun v => pure (some v)) else (call (.builtin "list.__iter__") [.ref x] >>= fun v => pure (some v))) (fun r s' => r = some (.ref s.heap.objs.size) ∧ s' = { s with heap := s.heap.push { cls := .type "list_iterator", data := .fields #[.ref x, .int 0 0] } }) E s := by
      rw [if_neg (show ¬ ((Value.builtin "list.__iter__" == Value.none) = true) from Bool.false_ne_true)]
      exact fin
    split
    · exact wpAny_bind (wpAny_of_eq (F.slot_list_iter.bind _) (wpAny_pure (by exact fin2)))
    · exact wpAny_tryCatch (wpAny_bind (wpAny_of_eq (F.slot_list_iter.bind _) (wpAny_pure (by exact fin2))))
  unfold pyIter
  refine wpAny_bind (wpAny_bind (I.type.here ((looks_findIn X hf).here ?_)))
  show wpAny (model prog w) A (callSpecialIfBoundUnlessNone? (.ref x) "__iter__" _ >>= _) Q E s
  refine wpAny_bind (wpAny_mono (one _) (fun r s' hr => ?_) fun _ _ z => z)
  obtain ⟨rfl, rfl⟩ := hr
  exact wpAny_bind (wpAny_specialOf (T := "list_iterator") ⟨_, Heap.get?_push_size _ rfl, rfl⟩ slot_listiter_next.lookup (wpAny_pure h))
/-- a list's iterator over an object of a list's own class: the next item, or the end -/
theorem next_any {it l : Addr} {i : Nat} {items : Array Value} {Q : Option Value → Shared → Prop} (hh : A.handled = none) (hit : s.heap.IsListIter it l i) (hl : IsSub s.heap l items)
    (more : ∀ v h', items[i]? = some v → h'.IsListIter it l (i + 1) → Heap.SameBut it s.heap h' → Q (some v) { s with heap := h' })
    (over : ∀ h', items[i]? = none → Heap.ExtBut it s.heap h' → Q none { s with heap := h' }) : wpAny (model prog w) A (pyNext (.ref it)) Q E s := by
  have T := hit.typeIs
  rcases hit with ⟨o, ho, hc, hd⟩
  rcases hl with ⟨ol, nl, hol, hdl⟩
  apply wpAny_bind
  apply wpAny_attempt
  apply wpAny_callSpecial?_slot (name := Str.ofString "__next__") T slot_listiter_next
  apply wpAny_call_entry slot_listiter_next T entry_listiter_next _ (args_listiter_next _)
  change wpAny _ _ (field (.ref it) 0 >>= fun q => if (q == Value.none) = true then _ else field (.ref it) 1 >>= _) _ _ s
  apply wpAny_bind
  apply wpAny_field ho hd (x := .ref l) rfl
  change wpAny _ _ (field (.ref it) 1 >>= _) _ _ s
  apply wpAny_bind
  apply wpAny_field ho hd (x := .int i 0) rfl
  change wpAny _ _ (seqItems? (.ref l) >>= _) _ _ s
  apply wpAny_bind
  apply wpAny_seqItems hol hdl
  rw [Int.toNat_natCast]
  cases hx : items[i]? with
  | some v =>
    simp only [hx]
    apply wpAny_bind
    apply wpAny_setField ho hd (by simp)
    refine wpAny_pure ⟨v, rfl, wpAny_pure (more v _ hx ⟨_, Heap.get?_update_self _ ho (Obj.isFreed_of_fields (Obj.data_mapFields hd _)), (Obj.cls_mapFields ..).trans hc, ?_⟩ (Heap.SameBut.update ..))⟩
    rw [Obj.data_mapFields hd]
    simp [rawInt]
  | none =>
    simp only [hx]
    apply wpAny_bind
    apply wpAny_rule
    apply wpAny_bind
    apply wpAny_setField ho hd (by simp)
    apply wpAny_bind
    simp only [newExc, newTuple]
    refine wpAny_bind (wpAny_newObj_type (wpAny_bind (m := firstArgMember _ _) (wpAny_of_eq (a := Value.none) (by first | rfl | (simp only [firstArgMember]; rfl)) (wpAny_newObj_type ?_ (by size_fits)))) (by size_fits))
    simp only [raiseNew]
    apply wpAny_bind
    apply wpAny_handled
    rw [show A.in1.handled = none from hh]
    refine wpAny_bind (wpAny_pure (wpAny_throw ?_))
    apply wpAny_bind
    refine wpAny_isInstance (T := "StopIteration") (b := true) ⟨_, Heap.get?_push_size _ rfl, rfl⟩ isSubtype_stop ?_
    exact wpAny_pure (over _ hx (((Heap.SameBut.update ..).extBut.push _).push _))
/-- what stands ahead of turn j of a walk over the tuples that an object of a list's own class holds -/
noncomputable def AtTurn (I ax : Addr) (items : Array Value) (Ts : Nat → Addr) (vals : Nat → Array Value) (j : Nat) (h : Heap) : Prop :=
  h.IsListIter I ax j ∧ IsSub h ax items ∧ ∀ k, k < items.size → h.IsTuple (Ts k) (vals k)
theorem AtTurn.on {I ax : Addr} {items : Array Value} {Ts : Nat → Addr} {vals : Nat → Array Value} {i j : Nat} {h h' : Heap} (st : AtTurn I ax items Ts vals i h) (it : h'.IsListIter I ax j)
    (hk : ∀ b o, b = ax ∨ (∃ k, k < items.size ∧ b = Ts k) → h.get? b = some o → h'.get? b = some o) : AtTurn I ax items Ts vals j h' :=
  ⟨it, st.2.1.at fun o => hk ax o (.inl rfl), fun k hz => (st.2.2 k hz).at fun o => hk (Ts k) o (.inr ⟨k, hz, rfl⟩)⟩
/-- such a walk: each turn hands on one of the tuples -/
theorem walks_sub {prog : Program} {w : World} {A : Around} (free : A.handled = none) (I ax : Addr) (apart : ax ≠ I) (items : Array Value) (Ts : Nat → Addr) (vals : Nat → Array Value)
    (holds : ∀ k, k < items.size → items[k]? = some (.ref (Ts k)) ∧ Ts k ≠ I) :
    WalksU prog w A I (I :: ax :: (List.range items.size).map Ts) [I] items.size (fun k v => k < items.size ∧ v = vals k) (AtTurn I ax items Ts vals)
      (fun k T h => (k < items.size ∧ T = Ts k) ∧ AtTurn I ax items Ts vals (k + 1) h) := by
  have off : ∀ b : Addr, b = ax ∨ (∃ k, k < items.size ∧ b = Ts k) → b ≠ I := by
    rintro b (rfl | ⟨k, hz, rfl⟩)
    · exact apart
    · exact (holds k hz).2
  constructor
  · intro b hb
    rw [List.mem_singleton.mp hb]
    exact .head _
  · intro k h h' st keep
    refine st.on (st.1.at fun o => keep I (.head _) o) fun b o hb => keep b ?_ o
    rcases hb with rfl | ⟨z, hz, rfl⟩
    · exact .tail _ (.head _)
    · exact .tail _ (.tail _ (List.mem_map_of_mem (List.mem_range.mpr hz)))
  · intro k s Q E hz st go
    refine next_any free st.1 st.2.1 (fun v h' hv it same => ?_) fun _ hn => nomatch hn.symm.trans (holds k hz).1
    cases Option.some.inj (hv.symm.trans (holds k hz).1)
    have st' := st.on it fun b o hb => same.extBut b o (off b hb)
    exact go (Ts k) (vals k) h' s.toks ⟨hz, rfl⟩ (st'.2.2 k hz) ⟨⟨hz, rfl⟩, st'⟩ fun b o hb => same.extBut b o fun e => hb (e ▸ .head _)
  · intro _ _ _ _ _ s Q _ mid go
    exact wpAny_letOwnedTupleGo_listiter mid.2.1 (go s.heap mid.2 fun _ _ _ e => e)
  · rintro k T _ ⟨⟨hz, rfl⟩, _⟩ hm
    exact (holds k hz).2 (List.mem_singleton.mp hm)
  · intro s Q E st go
    refine next_any free st.1 st.2.1 (fun _ _ hv => absurd (hv.symm.trans (Array.getElem?_eq_none (Nat.le_refl _))) nofun) fun h' _ ext => ?_
    exact go h' s.toks fun b o hb => ext b o fun e => hb (e ▸ .head _)
  · intro _ _ _ _ st go
    exact wpAny_pyIter_listiter st.1 go
end
end Mine
end
section
open PySem PySem.W PyProof.Rows PySem.Calls PySem.Spec
set_option Elab.async false
namespace Mine
theorem pass_all (n : Nat) : passing (fun _ => true) n 0 = List.range n := by
  unfold passing
  rw [List.drop_zero]
  exact List.filter_eq_self.mpr fun _ _ => rfl
section
variable {prog : Program} {w : World} {A : Around} {E : Value → Shared → Prop} {s : Shared} {K : Frag} {x C c P L : Addr} {h₀ : Heap} {m mg mb : Str → Option Value} {ox : Obj} {od : Option Obj} {rest : List (Addr × Obj)} {ps : Array Value}
  {p : Program} {loose : List Str} {mean : ExcName → Option Value}
/-- the code of a generator expression: found in the table, or made and put there -/
theorem code_step {M : Model} {env : Env} {pos : Pos} {qual : Str} {scope : Scope} {Q : Value → Shared → Prop} (F : Fr h₀ L s.heap m) (N : News h₀ L s.heap ((P, tabObj ps) :: rest)) (Cd : CodeHd h₀ c P) (htr : TriplesOk ps.toList) (hP : ∀ q ∈ rest, q.1 ≠ P) (hcode : env.code = .ref c)
    (h : ∀ code h' tk ps', Fr h₀ L h' m → News h₀ L h' ((P, tabObj ps') :: rest) → TriplesOk ps'.toList → (∀ b o, b ≠ P → s.heap.get? b = some o → h'.get? b = some o) → s.heap.objs.size ≤ h'.objs.size → Q code { s with heap := h', toks := tk }) :
    wpAny M A (genexprCode env pos qual scope) Q E s := by
  have hm := N _ (.head _)
  have Cs := Cd.keeps F.keep
  cases hf : codeAmong pos ps.toList with
  | some v => exact wpAny_genexprCode_hit hcode (Cs.code hm.1 htr) hf (h _ s.heap s.toks ps F N htr (fun _ _ _ e => e) (Nat.le_refl _))
  | none =>
    refine wpAny_genexprCodeX hcode (Cs.code hm.1 htr) (Cs.tab hm.1) hf fun c' h' tk hx hge hlt _ _ htab _ => ?_
    have old : ∀ b o, h₀.get? b = some o → h'.get? b = some o := fun b o e => hx b o (fun q => by rw [q, hm.2.2] at e; cases e) (F.keep b o e)
    refine h _ h' tk (ps ++ #[rawInt pos.line, rawInt pos.col, .ref c']) ⟨F.ns.extBut hx hm.2.1.symm, old, F.above⟩ (fun q hq => ?_) (by rw [Array.toList_append]; exact TriplesOk_snoc _ _ _ _ htr) hx (Nat.le_trans hge (Nat.le_of_lt hlt))
    rcases List.mem_cons.mp hq with rfl | hq
    · exact ⟨htab.2, hm.2⟩
    · have n := N q (.tail _ hq)
      exact ⟨hx _ _ (hP q hq) n.1, n.2⟩
/-- a generator expression over the pairs of an object of a list's own class -/
theorem gen_make {env : Env} {elt iter : PySem.Expr} {xa xb : Str} {pa pb pt pos : Pos} {kt : Nat} {scope : Scope} {cl : List (Str × Addr)} {items : Array Value} {nn : Nat} {Ts : Nat → Addr} {va vb : Nat → Value} {Fv : Nat → Value → Prop} {Q : Value → Shared → Prop}
    (F : Fr h₀ L s.heap m) (N : News h₀ L s.heap ((P, tabObj ps) :: rest)) (T : Top p loose mean mg mb h₀) (Cd : CodeHd h₀ c P) (htr : TriplesOk ps.toList) (hP : ∀ q ∈ rest, q.1 ≠ P) (hcode : env.code = .ref c) (hg : env.globals = mainGlobals)
    (hh : A.handled = none) (hroom : A.depth < recursionLimit) (hbare : AllBare s.gens) (X : K.In h₀) (I : InstAt s.heap x ox C od) (hseq : ox.data = .seq items nn) (hm : mroIn K C (.type "list") = some true) (hf : findIn K (.ref C) "__iter__" = some (some (.builtin "list.__iter__")))
    (hxm : x ≠ P) (hit : ∀ j, j < items.size → items[j]? = some (.ref (Ts j)) ∧ s.heap.IsTuple (Ts j) #[va j, vb j])
    (hiter : ∀ Q' : Value → Shared → Prop, Q' (.ref x) s → wpAny (model prog w) A (eval iter env) Q' E s)
    (helt : ∀ (A' : Around) E' j (t : Shared) Ca m₂ code, A'.handled = none → A'.depth ≤ A.depth + 1 → A'.units ≤ A.units + 8 → j < items.size → Fr h₀ Ca t.heap m₂ → m₂ xa = some (va j) → m₂ xb = some (vb j) →
      wpAny (model prog w) A' (eval elt (genEnv scope cl Ca code builtinsNs env)) (fun y s₃ => Fv j y ∧ Keeps t s₃) E' t)
    (hQ : ∀ a (s₅ : Shared) ps', Fr h₀ L s₅.heap m → News h₀ L s₅.heap ((P, tabObj ps') :: rest) → TriplesOk ps'.toList → AllBare s₅.gens → s₅.os = s.os → s₅.drawn = s.drawn → Gen prog w A (s.heap.objs.size - 1) a items.size (fun j y => j < items.size ∧ Fv j y) s₅ → Q (.ref a) s₅)
    (hco : scope.isCoroutine = false) (hclos : closureFor scope env = pure cl) (hcell : ∀ y ∈ scope.names, y.2 ≠ .cell) (h0 : scope.names.lookup (".0" : Str) = some NameKind.local)
    (hxa : scope.names.lookup xa = some .local) (hxb : scope.names.lookup xb = some .local) (hab : xa ≠ xb) (hkind : scope.kind = .function) (hs : ∀ x, genFold iter env x = pure x) :
    wpAny (model prog w) A (eval (.GeneratorExp elt [⟨.Tuple [.Name xa pa, .Name xb pb] kt pt, iter, [], 0⟩] scope pos) env) Q E s := by
  have hlim : s.heap.NoLimit := T.nolimit.keeps F.keep
  have up : ∀ b o, s.heap.get? b = some o → (s.heap.push { cls := .type "list_iterator", data := .fields #[.ref x, .int 0 0] }).get? b = some o := fun b o e => Heap.get?_push_of_some _ e
  have hxl : @LT.lt Nat _ x s.heap.objs.size := Heap.lt_size I.at_
  have hPl : @LT.lt Nat _ P s.heap.objs.size := Heap.lt_size (N _ (.head _)).1
  have hsub : IsSub s.heap x items := ⟨ox, nn, I.at_, hseq⟩
  refine wpAny_GeneratorExp_walksQTD hh hco hclos hcell h0 hxa hxb hab hkind hroom (hiter _ (iter_sub (X.keeps F.keep) I hm hf ⟨hlim.push _, ?_⟩)) hs
  have F₂ : Fr h₀ L (s.heap.push { cls := .type "list_iterator", data := .fields #[.ref x, .int 0 0] }) m := F.keeps up
  have N₂ : News h₀ L (s.heap.push { cls := .type "list_iterator", data := .fields #[.ref x, .int 0 0] }) ((P, tabObj ps) :: rest) := fun q hq => ⟨up _ _ (N q hq).1, (N q hq).2⟩
  have hPobj := (N _ (.head _)).1
  have tneP : ∀ j, j < items.size → Ts j ≠ P := fun j hj e => by
    obtain ⟨o, ho, hc, _⟩ := (hit j hj).2
    rw [e, hPobj] at ho
    cases ho
    cases hc
  have tlt : ∀ j, j < items.size → @LT.lt Nat _ (Ts j) s.heap.objs.size := fun j hj => by
    obtain ⟨o, ho, _⟩ := (hit j hj).2
    exact Heap.lt_size ho
  have hLs : @LT.lt Nat _ L s.heap.objs.size := F.ns.lt
  have hI0 : (s.heap.push { cls := .type "list_iterator", data := .fields #[.ref x, .int 0 0] }).IsListIter s.heap.objs.size x 0 := ⟨_, Heap.get?_push_size _ rfl, rfl, rfl⟩
  refine code_step F₂ N₂ Cd htr hP hcode fun code h₃ tk₃ ps' F₃ N₃ htr' hk₃ hge => ?_
  have hge : s.heap.objs.size + 1 ≤ h₃.objs.size := by
    have := hge
    rw [show ({ s with heap := s.heap.push { cls := .type "list_iterator", data := .fields #[.ref x, .int 0 0] } } : Shared).heap.objs.size = s.heap.objs.size + 1 from Heap.size_push ..] at this
    exact this
  obtain ⟨bm, ob, b1, b2, b3, b4, b5, b6⟩ := T.bmain
  rw [hg]
  refine wpAny_builtinsFor (T.g.keeps F₃.keep) b1 b2 (F₃.keep _ _ b3) b4 b5 b6 ?_
  refine ⟨s.heap.objs.size, _, _, items.size, _, _, _, fun _ => true, Fv, rfl, fun A' hA => walks_sub hA _ _ (Nat.ne_of_lt hxl) items Ts (fun j => #[va j, vb j]) (fun j hj => ⟨(hit j hj).1, Nat.ne_of_lt (tlt j hj)⟩), ?_, ?_, ?_, T.nolimit.keeps F₃.keep, ?_, ?_, ?_⟩
  · rintro i vals ⟨_, rfl⟩; exact ⟨_, _, rfl⟩
  · refine ⟨hI0.at fun o e => hk₃ _ o (Nat.ne_of_gt hPl) e, hsub.at fun o e => hk₃ _ o hxm (up _ _ e), fun k hk => (hit k hk).2.at fun o e => hk₃ _ o (tneP k hk) (up _ _ e)⟩
  · intro b hb
    show @LT.lt Nat _ b h₃.objs.size
    rcases List.mem_cons.mp hb with rfl | hb
    · omega
    · rcases List.mem_cons.mp hb with rfl | hb
      · omega
      · obtain ⟨k, hk, rfl⟩ := List.mem_map.mp hb
        have := tlt k (List.mem_range.mp hk)
        omega
  · intro hb
    rcases List.mem_cons.mp hb with e | hb
    · obtain ⟨_, hn, _⟩ := hlim
      exact absurd hn.lt (by rw [e]; exact Nat.lt_irrefl _)
    · cases hb
  · intro href hhref
    refine ⟨fun A' E' i va' vb' t m₂ hA hD hU hPt hn hma hmb hkp => ?_, fun A' E' i va' vb' t m₂ hA hD hU hPt hpz hn hma hmb hkp => ?_⟩
    · simp only [List.forIn_nil]
      exact wpAny_pure ⟨rfl, t.heap, t.toks, rfl, fun _ _ e => e⟩
    · obtain ⟨hi, e⟩ := hPt
      obtain ⟨e1, e2⟩ : va' = va i ∧ vb' = vb i := by simpa using congrArg Array.toList e
      subst e1 e2
      refine helt A' E' i t _ m₂ code hA hD hU hi ⟨hn, fun b o e => ?_, ?_⟩ hma hmb
      · have e3 := F₃.keep b o e
        refine hkp b (List.mem_range.mpr (Heap.lt_size e3)) (fun hb => ?_) o (hhref b o e3)
        rcases List.mem_cons.mp hb with q | hb
        · have h1 := Heap.lt_size e
          have h2 : @LE.le Nat _ h₀.objs.size L := F.above
          have h1' : @LT.lt Nat _ s.heap.objs.size h₀.objs.size := q ▸ h1
          omega
        · cases hb
      · have h2 : @LE.le Nat _ h₀.objs.size L := F.above
        show @LE.le Nat _ h₀.objs.size h₃.objs.size
        omega
  · intro a h₅ tk gs hgb hag hsz₅ hk₅ W hat
    have hag : @LT.lt Nat _ h₃.objs.size a := hag
    have hn : (passing (fun _ => true) items.size 0).length = items.size := by rw [pass_all, List.length_range]
    have hF : (fun (j : Nat) (y : Value) => ∃ i, (passing (fun _ => true) items.size 0)[j]? = some i ∧ Fv i y) = fun j y => j < items.size ∧ Fv j y := by
      funext j y
      rw [pass_all]
      apply propext
      constructor
      · rintro ⟨i, hi, hy⟩
        have hj : j < items.size := by
          rcases Nat.lt_or_ge j items.size with h' | h'
          · exact h'
          · rw [List.getElem?_eq_none (by simpa using h')] at hi; cases hi
        rw [List.getElem?_eq_getElem (by simpa using hj), List.getElem_range] at hi
        cases hi
        exact ⟨hj, hy⟩
      · rintro ⟨hj, hy⟩
        exact ⟨j, by rw [List.getElem?_eq_getElem (by simpa using hj), List.getElem_range], hy⟩
    rw [hn, hF] at W
    refine hQ a _ ps' (F₃.keeps hk₅) (fun q hq => ⟨hk₅ _ _ (N₃ q hq).1, (N₃ q hq).2⟩) htr' (hbare.push hgb) rfl rfl ⟨_, _, _, _, W, hat, (fun i s' st => st.1.typeIs), List.mem_cons_self, ?_, ?_⟩
    · intro b hb
      show @LT.lt Nat _ b h₅.objs.size
      rw [hsz₅]
      rcases List.mem_cons.mp hb with rfl | hb
      · omega
      · rcases List.mem_cons.mp hb with rfl | hb
        · show @LT.lt Nat _ h₃.objs.size (a + 1)
          omega
        · have h1 : @LT.lt Nat _ b h₃.objs.size := List.mem_range.mp hb
          omega
    · intro b hb
      rcases List.mem_cons.mp hb with rfl | hb
      · show @LT.lt Nat _ (s.heap.objs.size - 1) h₃.objs.size
        omega
      · rcases List.mem_cons.mp hb with rfl | hb
        · show @LT.lt Nat _ (s.heap.objs.size - 1) s.heap.objs.size
          omega
        · cases hb
end
end Mine
end
section
open PySem PySem.W PyProof.Rows PySem.Calls PySem.Spec
set_option Elab.async false
namespace Mine
section
variable {prog : Program} {w : World} {A : Around} {E : Value → Shared → Prop} {s : Shared}
/-- a walk seen from its second turn on -/
theorem walk_late {I : Addr} {fp wr : List Addr} {G : Array GenState → Array GenState → Prop} {n : Nat} {P : Nat → Value → Prop} {St : Nat → Shared → Prop} (W : WalksS prog w A I fp wr G n P St) :
    WalksS prog w A I fp wr G (n + 1) (fun i v => match i with | 0 => False | j + 1 => P j v) (fun i s => match i with | 0 => False | j + 1 => St j s) where
  sub := W.sub
  grefl := W.grefl
  gtrans := W.gtrans
  frame := fun i s h' tk st ht hk => match i, st with | j + 1, st => W.frame j s h' tk st ht hk
  item := fun i s Q E hi st hQ => match i, hi, st, hQ with | j + 1, hi, st, hQ => W.item j s Q E (Nat.lt_of_succ_lt_succ hi) st hQ
  done := fun s Q E st hQ => W.done s Q E st hQ
  self := fun i s Q E st hQ => match i, st with | j + 1, st => W.self j s Q E st hQ
noncomputable def lateVal (z : Int) (val : Nat → Int) : Nat → Int
  | 0 => z
  | j + 1 => val j
theorem late_sum (z : Int) (val : Nat → Int) : ∀ n, preSum (lateVal z val) (n + 1) = z + preSum val n
  | 0 => by simp [preSum, lateVal]
  | n + 1 => by
    have ih := late_sum z val n
    show preSum (lateVal z val) (n + 1) + val n = z + (preSum val n + val n)
    rw [ih]; omega
theorem sum_start {a : Addr} {n : Nat} {Fv : Nat → Value → Prop} {z : Int} {tz : Tok} {Q : Value → Shared → Prop} {fp wr : List Addr} {G : Array GenState → Array GenState → Prop} {St : Nat → Shared → Prop}
    (W : WalksS prog w A.in1 a fp wr G n Fv St) (hst : St 0 s) (hfp : ∀ b ∈ fp, b < s.heap.objs.size) (val : Nat → Int) (hval : ∀ j v, Fv j v → NumOf (val j) v)
    (hQ : ∀ s' t', Moved wr G s s' → Q (.int (z + preSum val n) t') s') : wpAny (model prog w) A (call (.builtin "sum") [.ref a, .int z tz]) Q E s := by
  have hSf : s.heap.objs.size ∉ fp := fun hm => Nat.lt_irrefl _ (hfp _ hm)
  have loop : ∀ (t₀ : Tok) (tk : Nat) (st : Int), (st = 0 ∨ st = 2) → s.toks ≤ tk →
      codeAny (model prog w) A (.builtin "sum.loop" ⟨[.ref a, .ref s.heap.objs.size, rawInt st, rawInt 0], []⟩) (fun r s' => match r with | .ok (.ret v) => Q v s' | .ok _ => False | .error e => E e s')
        { s with heap := s.heap.push { cls := .type "list", data := .seq #[.int z t₀] }, toks := tk } := by
    intro t₀ tk st hst2 htk
    refine codeAny_sum_loopAnyB (walk_late W) (lateVal z val) (fun i v hv => ?_) s.heap.objs.size hSf n 1 _ t₀ 0 st hst2 rfl (Nat.succ_le_succ (Nat.zero_le _)) (W.frame 0 s _ _ hst htk fun b _ o e => Heap.get?_push_of_some _ e) ?_ fun s' t' hm => ?_
    · cases i with
      | zero => exact hv.elim
      | succ j => exact hval j v hv
    · have e : preSum (lateVal z val) 1 = z := by simp [preSum, lateVal]
      rw [e]
      exact Heap.get?_push_size _ rfl
    · rw [late_sum]
      have hm2 : Moved (s.heap.objs.size :: wr) G { s with toks := tk } s' := ⟨fun b o hb e => hm.heap b o hb (Heap.get?_push_of_some _ e), hm.gens, hm.drawn, hm.os, hm.toks⟩
      refine hQ s' t' ⟨fun b o hb e => hm2.heap b o (fun hm' => ?_) e, hm.gens, hm.drawn, hm.os, Nat.le_trans htk hm.toks⟩
      rcases List.mem_cons.mp hm' with q | q
      · have := Heap.lt_size e
        rw [q] at this
        exact Nat.lt_irrefl _ this
      · exact hb q
  have fin : ∀ (t₀ : Tok) (tk : Nat) (st : Int), (st = 0 ∨ st = 2) → s.toks ≤ tk → wpAny (model prog w) A.in1 (do
      for (ty, what, hint) in [("str", "strings", "''"), ("bytes", "bytes", "b''"), ("bytearray", "bytearray", "b''")] do
        if ← isInstance (.int z t₀) (.type ty) then
          rule "sum.start-refused"; raiseError "TypeError" s!"sum() can't sum {what} [use {hint}.join(seq) instead]"
      again (.builtin "sum.loop" ⟨[.ref a, ← newList [.int z t₀], rawInt st, rawInt 0], []⟩)) (fun fin s' => match fin with | .done f => (match (Except.ok f : Result) with | .ok (.ret v) => Q v s' | .ok _ => False | .error e => E e s') | .again c' => c'.quiet = true ∧ codeAny (model prog w) A c' (fun r s' => match r with | .ok (.ret v) => Q v s' | .ok _ => False | .error e => E e s') s') E { s with toks := tk } := by
    intro t₀ tk st hst2 htk
    simp only [List.forIn_cons, List.forIn_nil]
    refine wpAny_bind (wpAny_bind (wpAny_bind (wpAny_isInstance (T := "int") (b := false) (typeIs_int _ _ _) PySem.sub_int_str ?_)))
    simp only [Bool.false_eq_true, if_false]
    refine wpAny_pure (wpAny_bind (wpAny_bind (wpAny_isInstance (T := "int") (b := false) (typeIs_int _ _ _) PySem.sub_int_bytes ?_)))
    simp only [Bool.false_eq_true, if_false]
    refine wpAny_pure (wpAny_bind (wpAny_bind (wpAny_isInstance (T := "int") (b := false) (typeIs_int _ _ _) PySem.sub_int_bytearray ?_)))
    simp only [Bool.false_eq_true, if_false]
    refine wpAny_pure (wpAny_pure ?_)
    refine wpAny_bind (wpAny_newObj_type ?_)
    exact wpAny_pure ⟨plainId_quiet F.plain_sum_loop _, loop t₀ tk st hst2 htk⟩
  refine call_function_tree F.kind_sum F.plain_sum F.entry_sum (by unfold argsOk; kernel_rfl) ?_
  unfold Builtin.«sum»
  simp only [List.length_cons, List.length_nil]
  rw [if_neg (by decide)]
  refine wpAny_bind (wpAny_of_eq (show Builtin.Builtins.bindParams "sum" ["start"] 0 ⟨[.int z tz], []⟩ = pure [some (.int z tz)] from rfl) ?_)
  refine wpAny_bind (W.self 0 _ _ _ hst ?_)
  show wpAny _ _ (if (_ : Bool) = true then _ else _) _ _ _
  split
  · refine wpAny_bind (wpAny_rule (wpAny_bind (wpAny_mkInt (wpAny_bind (wpAny_pure ?_)))))
    exact fin _ _ 0 (.inl rfl) (Nat.le_succ _)
  · exact wpAny_bind (wpAny_pure (fin _ _ 2 (.inr rfl) (Nat.le_refl _)))
end
end Mine
end
section
open PySem PySem.W PyProof.Rows PySem.Calls PySem.Spec
set_option Elab.async false
namespace Mine
theorem canon_list_ga : Manifest.canonical "list.__getattribute__" = "object.__getattribute__" := by decide +kernel
section
variable {prog : Program} {w : World} {A : Around} {E : Value → Shared → Prop} {s : Shared} {K : Frag} {x C : Addr} {ox : Obj} {od : Option Obj} {name : Str}
theorem slot_lga : Slot "list" "__getattribute__" "list.__getattribute__" := .of (owner := "list") (n := "__getattribute__") (by rw [typeLookup_type, builtinLookup_eq_fast]; kernel_rfl) (by decide +kernel) (by decide +kernel) (by decide +kernel)
  (by first | exact .inl (by decide +kernel) | exact .inr (by decide +kernel)) (by rw [isSubtype_type]; kernel_rfl)
/-- an attribute of an object of a list's own class, found in its dict -/
theorem get_sub {expr : Bool} {v : Value} {Q : Value → Shared → Prop} (X : K.In s.heap) (I : InstAt s.heap x ox C od) (hm : mroIn K C (.type "list") = some true) (hga : findIn K (.ref C) "__getattribute__" = some (some (.builtin "list.__getattribute__"))) (hk : findIn K (.ref C) "__getattr__" = some none)
    (hf : findObj K C od name = some (.value v)) (hh : handedIn v = true) (h : Q v { s with toks := s.toks + 1 }) : wpAny (model prog w) A (getAttr (.ref x) name expr) Q E s := by
  have body : wpAny (model prog w) A (call (.builtin "list.__getattribute__") [.ref x, .str name s.toks]) (fun r s' => r = v ∧ s' = { s with toks := s.toks + 1 }) (fun _ _ => False) { s with toks := s.toks + 1 } := by
    refine call_sub (s := { s with toks := s.toks + 1 }) X I hm (.inl (by decide +kernel)) (n := "__getattribute__") (by decide +kernel) (by decide +kernel) F.entry_list_ga (by unfold argsOk; kernel_rfl) ?_
    obtain ⟨hh', g, d, t, os⟩ := s
    have L0 := I.type (M := model prog w)
    have L1 := looks_find (M := model prog w) X I hf
    unfold Builtin.«object.__getattribute__»
    refine wpAny_bind (wpAny_pure (wpAny_bind (wpAny_pure (wpAny_bind (L0.at (wpAny_bind (L1.at ?_)))))))
    exact wpAny_pure ⟨_, rfl, rfl, rfl⟩
  obtain ⟨hh', g, d, t, os⟩ := s
  have L0 := I.type (M := model prog w)
  have L1 := looks_findIn (M := model prog w) X hga
  have L2 := looks_findIn (M := model prog w) X hk
  unfold getAttr getAttrBy
  refine wpAny_bind (wpAny_mkText (wpAny_holding (wpAny_bind (L0.at (wpAny_bind (L1.at ?_))))))
  show wpAny _ _ (getAttrByItsOwn (.ref x) (.str name _) (.ref C) (.builtin "list.__getattribute__") true expr) _ _ _
  unfold getAttrByItsOwn hookBefore callGetattribute boundAndCalled
  rw [show (expr && onTheHeap (.builtin "list.__getattribute__")) = false from by cases expr <;> rfl]
  refine wpAny_bind (L2.at ?_)
  refine wpAny_bind (wpAny_attempt (wpAny_holding ?_))
  show wpAny _ _ (bindSpecial (.builtin "list.__getattribute__") (.ref x) >>= _) _ _ _
  refine wpAny_bind (wpAny_of_eq (slot_lga.bind _) ?_)
  refine wpAny_mono body (fun r s' hr => ?_) fun _ _ z => z.elim
  obtain ⟨rfl, rfl⟩ := hr
  show wpAny _ _ (handedOut _) _ _ _
  rw [handedOut_of hh]
  exact wpAny_pure h
theorem getm_sub {pl : Sem Bool} {f : Value} {tf : String} {Q : Value × List Value → Shared → Prop} (X : K.In s.heap) (I : InstAt s.heap x ox C od) (hga : findIn K (.ref C) "__getattribute__" = some (some (.builtin "list.__getattribute__"))) (hk : findIn K (.ref C) "__getattr__" = some none)
    (hf : findIn K (.ref C) name = some (some f)) (ht : Looks (model prog w) s.heap (typeOf f) (.type tf)) (htf : (Value.type tf != .type "function" && Value.type tf != .type "method_descriptor" && Value.type tf != .type "wrapper_descriptor") = false) (hs : shadowIn od name = some false) (h : Q (f, [.ref x]) s) :
    wpAny (model prog w) A (getMethod (.ref x) name pl) Q E s := by
  have hcan := canon_list_ga
  unfold getMethod specialOf
  refine wpAny_bind (wpAny_bind (I.type.here ((looks_findIn X hga).here ?_)))
  dsimp only
  rw [hcan, if_neg (by decide)]
  refine wpAny_bind (wpAny_bind (I.type.here ((looks_findIn X hk).here ?_)))
  refine wpAny_bind (wpAny_bind (I.type.here ((looks_findIn X hf).here (wpAny_bind (ht.here ?_)))))
  rw [if_neg (by rw [htf]; exact Bool.false_ne_true)]
  refine wpAny_bind (wpAny_loadPart I.at_ ?_)
  have hd := I.dict
  cases e : ox.dict with
  | none => exact wpAny_bind (wpAny_rule (wpAny_pure h))
  | some dx =>
    cases od with
    | none => rw [e] at hd; exact hd.elim
    | some o =>
      rw [e] at hd
      obtain ⟨r, a, b⟩ := Option.map_eq_some_iff.mp hs
      refine wpAny_bind (wpAny_bind (wpAny_loadPart hd ?_))
      rw [nsLook_of a]
      refine wpAny_pure ?_
      rw [b]
      exact wpAny_bind (wpAny_rule (wpAny_pure h))
end
end Mine
end
section
open PySem PySem.W PyProof.Rows PySem.Calls PySem.Spec
set_option Elab.async false
namespace Mine
structure Part where
  a : Addr
  f : Str
  tf : Tok
  p : Str
  tp : Tok
noncomputable abbrev Part.obj (d : Part) : Obj := { cls := .type "tuple", data := .seq #[.str d.f d.tf, .str d.p d.tp] }
noncomputable abbrev accObj (dx : Addr) (ds : List Part) (nn : Nat) : Obj := { cls := .ref 185, dict := some dx, data := .seq (ds.map fun d => Value.ref d.a).toArray nn }
noncomputable abbrev accDict (P : Params) (z : Int) (tz k : Tok) (kk : Nat) : Obj := dictOf [⟨PyData.keyHash P (Str.ofString "_initial_size"), .str (Str.ofString "_initial_size") k, .int z tz⟩] kk
noncomputable def PartsIn (news : List (Addr × Obj)) (ds : List Part) : Prop := ∀ d ∈ ds, (d.a, d.obj) ∈ news
noncomputable def partLen (d : Part) : Int := (d.f.length : Int) + (d.p.length : Int)
noncomputable def partAt (ds : List Part) (j : Nat) : Part := ds.getD j ⟨0, Str.empty, 0, Str.empty, 0⟩
theorem partAt_get {ds : List Part} {j : Nat} (h : j < ds.length) : ds[j]? = some (partAt ds j) := by
  unfold partAt
  rw [List.getD_eq_getElem?_getD, List.getElem?_eq_getElem h]; rfl
theorem partAt_mem {ds : List Part} {j : Nat} (h : j < ds.length) : partAt ds j ∈ ds := List.mem_of_getElem? (partAt_get h)
section
variable {w : World} {A : Around} {E : Value → Shared → Prop} {s : Shared} {x dx c P L : Addr} {h₀ : Heap} {m mg mb : Str → Option Value} {rest : List (Addr × Obj)} {pt : Array Value} {p : Program} {loose : List Str} {mean : ExcName → Option Value} {ds : List Part} {nn : Nat} {od : Obj}
theorem acc_inst {news : List (Addr × Obj)} (N : News h₀ L s.heap news) (hx : (x, accObj dx ds nn) ∈ news) (hdx : (dx, od) ∈ news) : InstAt s.heap x (accObj dx ds nn) 185 (some od) := ⟨(N _ hx).1, rfl, rfl, (N _ hdx).1⟩
theorem acc_attr {expr : Bool} {z : Int} {tz k : Tok} {kk : Nat} {news : List (Addr × Obj)} {Q : Value → Shared → Prop} (F : Fr h₀ L s.heap m) (X₀ : (hd.heap_39 w.params).In h₀) (N : News h₀ L s.heap news) (hx : (x, accObj dx ds nn) ∈ news) (hdx : (dx, accDict w.params z tz k kk) ∈ news)
    (h : Q (.int z tz) { s with toks := s.toks + 1 }) : wpAny (model Challenge.rw_sr0083_01.row.prog w) A (getAttr (.ref x) (Str.ofString "_initial_size") expr) Q E s :=
  get_sub (X₀.keeps F.keep) (acc_inst (ds := ds) (nn := nn) N hx hdx) (by kernel_rfl) (by kernel_rfl) (by kernel_rfl) (findObj_own (attr := none) (by kernel_rfl) (by kernel_rfl) rfl rfl) rfl h
theorem acc_meth {pl : Sem Bool} {f : Addr} {name : Str} {z : Int} {tz k : Tok} {kk : Nat} {news : List (Addr × Obj)} {Q : Value × List Value → Shared → Prop} (F : Fr h₀ L s.heap m) (X₀ : (hd.heap_39 w.params).In h₀) (N : News h₀ L s.heap news) (hx : (x, accObj dx ds nn) ∈ news) (hdx : (dx, accDict w.params z tz k kk) ∈ news)
    (hf : findIn (hd.heap_39 w.params) (.ref 185) name = some (some (.ref f))) (ht : typeIn (hd.heap_39 w.params) (.ref f) = some (.type "function")) (hn : shadowIn (some (accDict w.params z tz k kk)) name = some false) (h : Q (.ref f, [.ref x]) s) : wpAny (model Challenge.rw_sr0083_01.row.prog w) A (getMethod (.ref x) name pl) Q E s :=
  getm_sub (tf := "function") (X₀.keeps F.keep) (acc_inst (ds := ds) (nn := nn) N hx hdx) (by kernel_rfl) (by kernel_rfl) hf (looks_typeIn (X₀.keeps F.keep) ht) (by decide +kernel) hn h
theorem gen_parts {env : Env} {elt iter : PySem.Expr} {xa xb : Str} {pa pb pt' pos : Pos} {kt : Nat} {scope : Scope} {Fd : Part → Value → Prop} {Q : Value → Shared → Prop}
    (F : Fr h₀ L s.heap m) (N : News h₀ L s.heap ((P, tabObj pt) :: rest)) (T : Top p loose mean mg mb h₀) (X : (hd.heap_39 w.params).In h₀) (hcd : codeHdIn (hd.heap_39 w.params) c P = true) (htr : TriplesOk pt.toList) (hP : ∀ q ∈ rest, q.1 ≠ P) (hcode : env.code = .ref c) (hg : env.globals = mainGlobals)
    (hh : A.handled = none) (hroom : A.depth < recursionLimit) (hbare : AllBare s.gens) (hx : (x, accObj dx ds nn) ∈ rest) (hdx : (dx, od) ∈ rest) (hds : PartsIn rest ds)
    (hiter : ∀ Q' : Value → Shared → Prop, Q' (.ref x) s → wpAny (model Challenge.rw_sr0083_01.row.prog w) A (eval iter env) Q' E s)
    (helt : ∀ (A' : Around) E' d (t : Shared) Ca m₂ code, A'.handled = none → A'.depth ≤ A.depth + 1 → A'.units ≤ A.units + 8 → d ∈ ds → Fr h₀ Ca t.heap m₂ → m₂ xa = some (.str d.f d.tf) → m₂ xb = some (.str d.p d.tp) →
      wpAny (model Challenge.rw_sr0083_01.row.prog w) A' (eval elt (genEnv scope [] Ca code builtinsNs env)) (fun y s₃ => Fd d y ∧ Keeps t s₃) E' t)
    (hQ : ∀ a (s₅ : Shared) pt', Fr h₀ L s₅.heap m → News h₀ L s₅.heap ((P, tabObj pt') :: rest) → TriplesOk pt'.toList → AllBare s₅.gens → s₅.os = s.os → s₅.drawn = s.drawn →
      Gen Challenge.rw_sr0083_01.row.prog w A (s.heap.objs.size - 1) a ds.length (fun j y => ∃ d, ds[j]? = some d ∧ Fd d y) s₅ → (∀ q ∈ (P, tabObj pt') :: rest, @LE.le Nat _ q.1 (s.heap.objs.size - 1)) → @LE.le Nat _ L (s.heap.objs.size - 1) → Q (.ref a) s₅)
    (hco : scope.isCoroutine = false) (hclos : closureFor scope env = pure []) (hcell : ∀ y ∈ scope.names, y.2 ≠ .cell) (h0 : scope.names.lookup (".0" : Str) = some NameKind.local)
    (hxa : scope.names.lookup xa = some .local) (hxb : scope.names.lookup xb = some .local) (hab : xa ≠ xb) (hkind : scope.kind = .function) (hs : ∀ x, genFold iter env x = pure x) :
    wpAny (model Challenge.rw_sr0083_01.row.prog w) A (eval (.GeneratorExp elt [⟨.Tuple [.Name xa pa, .Name xb pb] kt pt', iter, [], 0⟩] scope pos) env) Q E s := by
  have hsz : (ds.map fun d => Value.ref d.a).toArray.size = ds.length := by rw [List.size_toArray, List.length_map]
  refine gen_make (items := (ds.map fun d => Value.ref d.a).toArray) (Ts := fun j => (partAt ds j).a) (va := fun j => .str (partAt ds j).f (partAt ds j).tf) (vb := fun j => .str (partAt ds j).p (partAt ds j).tp) (Fv := fun j y => Fd (partAt ds j) y)
    F N T (codeHd_of_K X hcd) htr hP hcode hg hh hroom hbare X (acc_inst (ds := ds) (nn := nn) N (.tail _ hx) (.tail _ hdx)) rfl (by kernel_rfl) (by kernel_rfl) (hP _ hx) (fun j hj => ?_) hiter (fun A' E' j t Ca m₂ code h1 h2 h3 h4 h5 h6 h7 => ?_) (fun a s₅ pt' h1 h2 h3 h4 h5 h6 h7 => ?_)
    hco hclos hcell h0 hxa hxb hab hkind hs
  · rw [hsz] at hj
    refine ⟨?_, _, (N _ (.tail _ (hds _ (partAt_mem hj)))).1, rfl, _, rfl⟩
    rw [List.getElem?_toArray, List.getElem?_map, partAt_get hj]; rfl
  · rw [hsz] at h4
    exact helt A' E' _ t Ca m₂ code h1 h2 h3 (partAt_mem h4) h5 h6 h7
  · rw [hsz] at h7
    have hF : (fun (j : Nat) (y : Value) => j < ds.length ∧ Fd (partAt ds j) y) = fun j y => ∃ d, ds[j]? = some d ∧ Fd d y := by
      funext j y
      apply propext
      constructor
      · rintro ⟨hj, hy⟩
        exact ⟨_, partAt_get hj, hy⟩
      · rintro ⟨d, hd, hy⟩
        have hj : j < ds.length := (List.getElem?_eq_some_iff.mp hd).1
        rw [partAt_get hj] at hd
        cases hd
        exact ⟨hj, hy⟩
    rw [hF] at h7
    refine hQ a s₅ pt' h1 h2 h3 h4 h5 h6 h7 (fun q hq => ?_) ?_
    · have : @LT.lt Nat _ q.1 s.heap.objs.size := by
        rcases List.mem_cons.mp hq with rfl | hq
        · exact Heap.lt_size (N _ (.head _)).1
        · exact Heap.lt_size (N _ (.tail _ hq)).1
      omega
    · have : @LT.lt Nat _ L s.heap.objs.size := F.ns.lt
      omega
end
section
variable {M : Model} {A : Around} {E : Value → Shared → Prop} {s : Shared} {K : Frag} {h₀ : Heap} {L : Addr} {m mg mb : Str → Option Value} {env : Env} {p : Program} {loose : List Str} {mean : ExcName → Option Value} {x : Str} {pos : Pos} {v : Value} {Q : Value → Shared → Prop}
theorem ld_blt (F : Fr h₀ L s.heap m) (X : K.In h₀) (T : Top p loose mean mg mb h₀) (e : nsIn K mainGlobals x = some none) (hv : bootBuiltins x = some v) (hn : x ≠ "__name__") (hg : env.globals = mainGlobals) (hb : env.builtins = builtinsNs)
    (hk : env.scope.kind = .function) (hx : env.kindOf x = some .globalImplicit) (hd : (x == ("__debug__" : Str)) = false) (h : Q v s) : wpAny M A (eval (.Name x pos) env) Q E s :=
  Name_function_global hk hx (loadGlobal_builtin (show s.heap.Ns env.globals mg from hg ▸ (T.keeps F.keep).g) (mg_none_of X T.g e) (show s.heap.Ns env.builtins mb from hb ▸ (T.keeps F.keep).b) ((T.builtins x hn).trans hv) h) hd
theorem ld_glob (F : Fr h₀ L s.heap m) (X : K.In h₀) (T : Top p loose mean mg mb h₀) (e : nsIn K mainGlobals x = some (some v)) (hg : env.globals = mainGlobals)
    (hk : env.scope.kind = .function) (hx : env.kindOf x = some .globalImplicit) (hd : (x == ("__debug__" : Str)) = false) (h : Q v s) : wpAny M A (eval (.Name x pos) env) Q E s :=
  Name_function_global hk hx (loadGlobal_global (show s.heap.Ns env.globals mg from hg ▸ (T.keeps F.keep).g) (mg_of X T.g e) h) hd
end
section
variable {prog : Program} {w : World} {A : Around} {E : Value → Shared → Prop} {s₅ : Shared} {h₀ : Heap} {L P Kb a : Addr} {m : Str → Option Value} {rest : List (Addr × Obj)} {pt : Array Value} {n : Nat} {Fv : Nat → Value → Prop}
theorem sum_gen {z : Int} {tz : Tok} {tk : Nat} {Q : Value → Shared → Prop} {val : Nat → Int} (F : Fr h₀ L s₅.heap m) (N : News h₀ L s₅.heap ((P, tabObj pt) :: rest)) (hb : AllBare s₅.gens) (G : Gen prog w A Kb a n Fv s₅)
    (hle : ∀ q ∈ (P, tabObj pt) :: rest, @LE.le Nat _ q.1 Kb) (hL : @LE.le Nat _ L Kb) (htk : s₅.toks ≤ tk) (hval : ∀ j v, Fv j v → NumOf (val j) v)
    (h : ∀ (s' : Shared) t', Fr h₀ L s'.heap m → News h₀ L s'.heap ((P, tabObj pt) :: rest) → AllBare s'.gens → s'.os = s₅.os → s'.drawn = s₅.drawn → Q (.int (z + preSum val n) t') s') :
    wpAny (model prog w) A (call (.builtin "sum") [.ref a, .int z tz]) Q E { s₅ with toks := tk } := by
  obtain ⟨fp, wr, g, St, W, hst, _, _, hfp, hwr⟩ := G
  have W := W.in4_1
  refine sum_start (s := { s₅ with toks := tk }) W (W.frame 0 s₅ s₅.heap tk hst htk fun _ _ _ e => e) hfp val hval fun s' t' hm => ?_
  have off : ∀ b : Addr, @LE.le Nat _ b Kb → b ∉ wr := fun b hb hm => absurd (hwr b hm) (Nat.not_lt.mpr hb)
  refine h s' t' ⟨F.ns.at fun o e => hm.heap L o (off L hL) e, fun b o e => hm.heap b o (off b (Nat.le_trans (Nat.le_of_lt (Nat.lt_of_lt_of_le (Heap.lt_size e) F.above)) hL)) (F.keep b o e), F.above⟩
    (fun q hq => ⟨hm.heap _ _ (off _ (hle q hq)) (N q hq).1, (N q hq).2⟩) (AllBare.movedS (s := { s₅ with toks := tk }) hb hm) hm.os hm.drawn
end
section
local macro_rules | `(tactic| k_inst) => `(tactic| exact acc_inst (by k_asm) (by repeat (first | assumption | refine List.mem_cons_of_mem _ ?_)) (by repeat (first | assumption | refine List.mem_cons_of_mem _ ?_)))
set_option maxRecDepth 100000 in
set_option maxHeartbeats 4000000 in
theorem len_claim (w : World) (mean : ExcName → Option Value) (mg mb : Str → Option Value) (x dx : Addr) (ds : List Part) (nn : Nat) (z : Int) (tz k : Tok) (kk : Nat) (pt : Array Value) (rest : List (Addr × Obj))
   (hx : (x, accObj dx ds nn) ∈ rest) (hdx : (dx, accDict w.params z tz k kk) ∈ rest) (hds : PartsIn rest ds) (htr : TriplesOk pt.toList) (hP : ∀ q ∈ rest, q.1 ≠ 147) :
  ∀ (dp un : Nat) (gd : Option (List Code)) (cn : Str) (cs : Scope) (a : Addr) (ccd : Value) (cl : List (Str × Addr)) (outer : List Env) (A₀ : Around) (base h₀ : Heap) (L : Addr) (m : Str → Option Value) (s : Shared) (Q E : Value → Shared → Prop) (p : Program) (loose : List Str),
    Below A₀ base outer h₀ → Fr h₀ L s.heap m → (hd.heap_39 w.params).In h₀ → News h₀ L s.heap ((147, tabObj pt) :: rest) → Top p loose mean mg mb h₀ → cs.kind = .function → AllBare s.gens →
    (ds.length ≤ 100 ∧ ∀ d ∈ ds, d.f.length ≤ 100 ∧ d.p.length ≤ 100) → dp + 10 < recursionLimit → un + 8 * 10 < cLine →
    (∀ t (s' : Shared) pt', Fr h₀ L s'.heap m → News h₀ L s'.heap ((147, tabObj pt') :: rest) → TriplesOk pt'.toList → AllBare s'.gens → s'.os = s.os → s'.drawn = s.drawn → Q (.int (z + (ds.map partLen).sum) t) s') →
      wpAny (model Challenge.rw_sr0083_01.row.prog w) (ktrTop dp un gd cn cs L a ccd cl outer) (call (.ref 152) [.ref x]) Q E s := by
  k_fill
  intro dp un gd cn cs a ccd cl outer A₀ base h₀ L m s Q E p loose B F X N T hk hbare hb hd hu hret
  refine wpAny_call ?_
  k_dflt cell_enter
  repeat' (first | (k_unfold; (try dsimp only)) | ((with_reducible show wpAny _ _ (execs (_ :: _) _) _ _ _); (first | (refine exCons s ?_; intro kS Pq hPq) | (refine exCons0 ?_; intro Pq hPq))) | (with_reducible refine Aft.next (by assumption) ?_) | (with_reducible refine Aft.ret (by assumption) ?_) | (with_reducible refine Aft.brk (by assumption) ?_) | (with_reducible refine Aft.cont (by assumption) ?_) | ((fail_if_success (with_reducible show wpAny _ _ (eval (PySem.Expr.GeneratorExp _ _ _ _) _) _ _ _)); walk1) | ((fail_if_success (with_reducible show wpAny _ _ (eval (PySem.Expr.GeneratorExp _ _ _ _) _) _ _ _)); dsimp only; walk1) | fail "no step")
  (rename Fr _ _ _ _ => lF'); (rename News _ _ _ _ => lN'); (rename Frag.In _ _ => lX); (rename Top _ _ _ _ _ _ => lT)
  refine' gen_parts (xa := Str.ofString "fws") (xb := Str.ofString "part") (Fd := fun d y => ∃ t, y = .int (partLen d) t) lF' lN' lT lX ?hcd htr hP ?hcode ?hg ?hh ?hroom hbare hx hdx hds ?hiter ?helt ?hQ ?hco ?hclos ?hcell ?h0 ?hxa ?hxb ?hab ?hkind ?hs
  case hcd => kernel_rfl
  case hcode => rfl
  case hg => rfl
  case hh => rfl
  case hroom => (show dp + 1 < _; omega)
  case hco => rfl
  case hclos => rfl
  case hcell => decide
  case h0 => rfl
  case hxa => rfl
  case hxb => rfl
  case hab => decide
  case hkind => rfl
  case hs => (intro _; with_unfolding_all rfl)
  case hiter =>
    intro Q' hq
    walk1
    exact hq
  case helt =>
    intro A' E' d t Ca m₂ code h1 h2 h3 h4 h5 h6 h7
    obtain ⟨hb1, hb2⟩ := hb.2 d h4
    walk1
    walk1
    refine ld_blt (v := .builtin "len") h5 lX lT (by kernel_rfl) (by kernel_rfl) (by decide) rfl rfl rfl rfl (by decide) ?_
    walk1
    walk1
    refine ldVarG h5 h6 ?_
    repeat' (first | (k_unfold; (try dsimp only)) | ((with_reducible show wpAny _ _ (execs (_ :: _) _) _ _ _); (first | (refine exCons s ?_; intro kS Pq hPq) | (refine exCons0 ?_; intro Pq hPq))) | (with_reducible refine Aft.next (by assumption) ?_) | (with_reducible refine Aft.ret (by assumption) ?_) | (with_reducible refine Aft.brk (by assumption) ?_) | (with_reducible refine Aft.cont (by assumption) ?_) | ((fail_if_success (with_reducible show wpAny _ _ (eval (PySem.Expr.Name _ _) _) _ _ _)); (with_reducible show wpAny _ _ _ _ _ _); walk1) | fail "no step")
    refine ld_blt (v := .builtin "len") (s := { t with toks := _ }) h5 lX lT (by kernel_rfl) (by kernel_rfl) (by decide) rfl rfl rfl rfl (by decide) ?_
    walk1
    walk1
    refine ldVarG (s := { t with toks := _ }) h5 h7 ?_
    repeat' (first | (k_unfold; (try dsimp only)) | ((with_reducible show wpAny _ _ (execs (_ :: _) _) _ _ _); (first | (refine exCons s ?_; intro kS Pq hPq) | (refine exCons0 ?_; intro Pq hPq))) | (with_reducible refine Aft.next (by assumption) ?_) | (with_reducible refine Aft.ret (by assumption) ?_) | (with_reducible refine Aft.brk (by assumption) ?_) | (with_reducible refine Aft.cont (by assumption) ?_) | ((with_reducible show wpAny _ _ _ _ _ _); walk1))
    exact ⟨⟨_, rfl⟩, _, _, rfl, fun _ _ e => e⟩
  case hQ =>
    intro a5 s₅ pt' F5 N5 htr5 hb5 ho5 hd5 G5 hle5 hL5
    clear lF' lN'
    repeat' (first | (k_unfold; (try dsimp only)) | ((with_reducible show wpAny _ _ (execs (_ :: _) _) _ _ _); (first | (refine exCons s₅ ?_; intro kS Pq hPq) | (refine exCons0 ?_; intro Pq hPq))) | (with_reducible refine Aft.next (by assumption) ?_) | (with_reducible refine Aft.ret (by assumption) ?_) | (with_reducible refine Aft.brk (by assumption) ?_) | (with_reducible refine Aft.cont (by assumption) ?_) | ((fail_if_success (with_reducible show wpAny _ _ (getAttr _ _ _) _ _ _)); (fail_if_success (with_reducible show wpAny _ _ (call (Value.builtin _) _) _ _ _)); (with_reducible show wpAny _ _ _ _ _ _); walk1) | fail "no step")
    refine acc_attr F5 lX N5 (.tail _ hx) (.tail _ hdx) ?_
    repeat' (first | (k_unfold; (try dsimp only)) | ((with_reducible show wpAny _ _ (execs (_ :: _) _) _ _ _); (first | (refine exCons s₅ ?_; intro kS Pq hPq) | (refine exCons0 ?_; intro Pq hPq))) | (with_reducible refine Aft.next (by assumption) ?_) | (with_reducible refine Aft.ret (by assumption) ?_) | (with_reducible refine Aft.brk (by assumption) ?_) | (with_reducible refine Aft.cont (by assumption) ?_) | ((fail_if_success (with_reducible show wpAny _ _ (call (Value.builtin _) _) _ _ _)); (with_reducible show wpAny _ _ _ _ _ _); walk1) | fail "no step")
    refine sum_gen (val := fun j => (ds.map partLen).getD j 0) (pt := pt') F5 N5 hb5 G5 hle5 hL5 (Nat.le_succ _) ?hval ?_
    case hval => rintro j v ⟨d, hd, t, rfl⟩; exact .inl ⟨t, by simp [List.getD_eq_getElem?_getD, hd]⟩
    intro s9 t9 F9 N9 hb9 ho9 hd9
    rw [preSum_getD, List.take_of_length_le (by simp)]
    clear F5 N5
    repeat' (first | (k_unfold; (try dsimp only)) | ((with_reducible show wpAny _ _ (execs (_ :: _) _) _ _ _); (first | (refine exCons s9 ?_; intro kS Pq hPq) | (refine exCons0 ?_; intro Pq hPq))) | (with_reducible refine Aft.next (by assumption) ?_) | (with_reducible refine Aft.ret (by assumption) ?_) | (with_reducible refine Aft.brk (by assumption) ?_) | (with_reducible refine Aft.cont (by assumption) ?_) | (k_end; wrow_close) | walk1 | (dsimp only; walk1) | (leave1; try dsimp only) | fail "no step")
    exact hret t9 s9 pt' (by assumption) (by assumption) htr5 hb9 (ho9.trans ho5) (hd9.trans hd5)
end
end Mine
end
section
open PySem PySem.W PyProof.Rows PySem.Calls PySem.Spec
set_option Elab.async false
namespace Mine
section
variable {prog : Program} {w : World} {A : Around} {E : Value → Shared → Prop} {s₅ : Shared} {h₀ : Heap} {L P Kb a : Addr} {m : Str → Option Value} {rest : List (Addr × Obj)} {pt : Array Value} {n : Nat} {Fv : Nat → Value → Prop}
theorem join_gen {sep : Str} {t : Tok} {Q : Value → Shared → Prop} {tx : Nat → Str} (F : Fr h₀ L s₅.heap m) (N : News h₀ L s₅.heap ((P, tabObj pt) :: rest)) (hb : AllBare s₅.gens) (G : Gen prog w A Kb a n Fv s₅)
    (hle : ∀ q ∈ (P, tabObj pt) :: rest, @LE.le Nat _ q.1 Kb) (hL : @LE.le Nat _ L Kb) (htx : ∀ j v, Fv j v → ∃ u, v = .str (tx j) u) (hok : JoinOk sep ((List.range n).map tx) = true) (hn : n ≤ 10000)
    (h : ∀ (s' : Shared) t', Fr h₀ L s'.heap m → News h₀ L s'.heap ((P, tabObj pt) :: rest) → AllBare s'.gens → s'.os = s₅.os → s'.drawn = s₅.drawn → Q (.str (Txt.join sep ((List.range n).map tx)) t') s') :
    wpAny (model prog w) A (call (.builtin "str.join") [.str sep t, .ref a]) Q E s₅ := by
  obtain ⟨fp, wr, g, St, W, hst, hT, ha, hfp, hwr⟩ := G
  have W := W.in4_2
  have off : ∀ b : Addr, @LE.le Nat _ b Kb → b ∉ wr := fun b hb hm => absurd (hwr b hm) (Nat.not_lt.mpr hb)
  refine SC.joinGen W hT hst hfp ha (fun j v hv => let ⟨u, e⟩ := htx j v hv; ⟨_, u, e⟩) (fun s' lt hm hacc => ?_) (by rw [sizeLine_eq]; omega)
  have hl : lt.map (·.1) = (List.range n).map tx := by
    have hsz : lt.length = n := by simpa [strValues] using hacc.1
    refine List.ext_getElem (by simp [hsz]) fun j h1 h2 => ?_
    have hj' : j < lt.length := by simpa using h1
    obtain ⟨u, hv⟩ := htx j _ (hacc.2 j (.str lt[j].1 lt[j].2) (by simp [strValues, List.getElem?_eq_getElem hj']))
    injection hv with e1 _
    simp [e1]
  rw [hl]
  refine ⟨hok, fun t' k => h { s' with toks := k } t' ⟨F.ns.at fun o e => hm.heap L o (off L hL) e, fun b o e => hm.heap b o (off b (Nat.le_trans (Nat.le_of_lt (Nat.lt_of_lt_of_le (Heap.lt_size e) F.above)) hL)) (F.keep b o e), F.above⟩
    (fun q hq => ⟨hm.heap _ _ (off _ (hle q hq)) (N q hq).1, (N q hq).2⟩) (AllBare.movedS (s := s₅) (s' := s') hb hm) hm.os hm.drawn⟩
end
noncomputable def partText (d : Part) : Str := Txt.join (Str.ofString "") [d.f, d.p]
theorem partText_len (d : Part) : (partText d).length = d.f.length + d.p.length := by
  show (Builtin.Str.glued (Str.ofString "") [d.f, d.p]).length = _
  rw [StrLaws.glued_eq_join]
  show (d.f ++ Str.ofString "" ++ d.p).length = _
  rw [Str.length_append, Str.length_append]
  have z : (Str.ofString "").length = 0 := by decide
  omega
theorem sum_le_all {B : Nat} : ∀ {l : List Nat}, (∀ x ∈ l, x ≤ B) → l.sum ≤ l.length * B
  | [], _ => by simp
  | a :: r, h => by
    have h1 := h a (.head _)
    have h2 := sum_le_all (l := r) fun x hx => h x (.tail _ hx)
    rw [List.sum_cons, List.length_cons, Nat.succ_mul]
    omega
theorem range_getD {α : Type} (l : List α) (d : α) : (List.range l.length).map (fun j => l.getD j d) = l := by
  refine List.ext_getElem (by simp) fun j h1 h2 => ?_
  simp [List.getD_eq_getElem?_getD, List.getElem?_eq_getElem h2]
section
set_option maxRecDepth 100000 in
set_option maxHeartbeats 4000000 in
theorem str_claim (w : World) (mean : ExcName → Option Value) (mg mb : Str → Option Value) (x dx : Addr) (ds : List Part) (nn : Nat) (z : Int) (tz k : Tok) (kk : Nat) (pt : Array Value) (rest : List (Addr × Obj))
   (hx : (x, accObj dx ds nn) ∈ rest) (hdx : (dx, accDict w.params z tz k kk) ∈ rest) (hds : PartsIn rest ds) (htr : TriplesOk pt.toList) (hP : ∀ q ∈ rest, q.1 ≠ 154) :
  ∀ (dp un : Nat) (gd : Option (List Code)) (cn : Str) (cs : Scope) (a : Addr) (ccd : Value) (cl : List (Str × Addr)) (outer : List Env) (A₀ : Around) (base h₀ : Heap) (L : Addr) (m : Str → Option Value) (s : Shared) (Q E : Value → Shared → Prop) (p : Program) (loose : List Str),
    Below A₀ base outer h₀ → Fr h₀ L s.heap m → (hd.heap_39 w.params).In h₀ → News h₀ L s.heap ((154, tabObj pt) :: rest) → Top p loose mean mg mb h₀ → cs.kind = .function → AllBare s.gens →
    (ds.length ≤ 100 ∧ ∀ d ∈ ds, d.f.length ≤ 100 ∧ d.p.length ≤ 100) → dp + 10 < recursionLimit → un + 8 * 10 < cLine →
    (∀ t (s' : Shared) pt', Fr h₀ L s'.heap m → News h₀ L s'.heap ((154, tabObj pt') :: rest) → TriplesOk pt'.toList → AllBare s'.gens → s'.os = s.os → s'.drawn = s.drawn → Q (.str (Txt.join (Str.ofString "") (ds.map partText)) t) s') →
      wpAny (model Challenge.rw_sr0083_01.row.prog w) (ktrTop dp un gd cn cs L a ccd cl outer) (call (.ref 159) [.ref x]) Q E s := by
  k_fill
  intro dp un gd cn cs a ccd cl outer A₀ base h₀ L m s Q E p loose B F X N T hk hbare hb hd hu hret
  refine wpAny_call ?_
  k_dflt cell_enter
  repeat' (first | (k_unfold; (try dsimp only)) | ((with_reducible show wpAny _ _ (execs (_ :: _) _) _ _ _); (first | (refine exCons s ?_; intro kS Pq hPq) | (refine exCons0 ?_; intro Pq hPq))) | (with_reducible refine Aft.next (by assumption) ?_) | (with_reducible refine Aft.ret (by assumption) ?_) | (with_reducible refine Aft.brk (by assumption) ?_) | (with_reducible refine Aft.cont (by assumption) ?_) | ((fail_if_success (with_reducible show wpAny _ _ (eval (PySem.Expr.GeneratorExp _ _ _ _) _) _ _ _)); walk1) | ((fail_if_success (with_reducible show wpAny _ _ (eval (PySem.Expr.GeneratorExp _ _ _ _) _) _ _ _)); dsimp only; walk1) | fail "no step")
  (rename Fr _ _ _ _ => lF'); (rename News _ _ _ _ => lN'); (rename Frag.In _ _ => lX); (rename Top _ _ _ _ _ _ => lT)
  refine' gen_parts (xa := Str.ofString "fws") (xb := Str.ofString "part") (Fd := fun d y => ∃ t, y = .str (partText d) t) lF' lN' lT lX ?hcd htr hP ?hcode ?hg ?hh ?hroom hbare hx hdx hds ?hiter ?helt ?hQ ?hco ?hclos ?hcell ?h0 ?hxa ?hxb ?hab ?hkind ?hs
  case hcd => kernel_rfl
  case hcode => rfl
  case hg => rfl
  case hh => rfl
  case hroom => (show dp + 1 < _; omega)
  case hco => rfl
  case hclos => rfl
  case hcell => decide
  case h0 => rfl
  case hxa => rfl
  case hxb => rfl
  case hab => decide
  case hkind => rfl
  case hs => (intro _; with_unfolding_all rfl)
  case hiter =>
    intro Q' hq
    walk1
    exact hq
  case helt =>
    intro A' E' d t Ca m₂ code h1 h2 h3 h4 h5 h6 h7
    obtain ⟨hb1, hb2⟩ := hb.2 d h4
    repeat' (first | (k_unfold; (try dsimp only)) | ((with_reducible show wpAny _ _ (execs (_ :: _) _) _ _ _); (first | (refine exCons s ?_; intro kS Pq hPq) | (refine exCons0 ?_; intro Pq hPq))) | (with_reducible refine Aft.next (by assumption) ?_) | (with_reducible refine Aft.ret (by assumption) ?_) | (with_reducible refine Aft.brk (by assumption) ?_) | (with_reducible refine Aft.cont (by assumption) ?_) | ((fail_if_success (with_reducible show wpAny _ _ (eval (PySem.Expr.Name _ _) _) _ _ _)); (with_reducible show wpAny _ _ _ _ _ _); walk1) | fail "no step")
    refine ld_glob h5 lX lT (by k_is) rfl rfl rfl (by decide) ?_
    repeat' (first | (k_unfold; (try dsimp only)) | ((with_reducible show wpAny _ _ (execs (_ :: _) _) _ _ _); (first | (refine exCons s ?_; intro kS Pq hPq) | (refine exCons0 ?_; intro Pq hPq))) | (with_reducible refine Aft.next (by assumption) ?_) | (with_reducible refine Aft.ret (by assumption) ?_) | (with_reducible refine Aft.brk (by assumption) ?_) | (with_reducible refine Aft.cont (by assumption) ?_) | ((fail_if_success (with_reducible show wpAny _ _ (eval (PySem.Expr.Name _ _) _) _ _ _)); (with_reducible show wpAny _ _ _ _ _ _); walk1) | fail "no step")
    refine ldVarG h5 h6 ?_
    repeat' (first | (k_unfold; (try dsimp only)) | ((with_reducible show wpAny _ _ (execs (_ :: _) _) _ _ _); (first | (refine exCons s ?_; intro kS Pq hPq) | (refine exCons0 ?_; intro Pq hPq))) | (with_reducible refine Aft.next (by assumption) ?_) | (with_reducible refine Aft.ret (by assumption) ?_) | (with_reducible refine Aft.brk (by assumption) ?_) | (with_reducible refine Aft.cont (by assumption) ?_) | ((fail_if_success (with_reducible show wpAny _ _ (eval (PySem.Expr.Name _ _) _) _ _ _)); (with_reducible show wpAny _ _ _ _ _ _); walk1) | fail "no step")
    refine ldVarG h5 h7 ?_
    repeat' (first | (k_unfold; (try dsimp only)) | ((with_reducible show wpAny _ _ (execs (_ :: _) _) _ _ _); (first | (refine exCons s ?_; intro kS Pq hPq) | (refine exCons0 ?_; intro Pq hPq))) | (with_reducible refine Aft.next (by assumption) ?_) | (with_reducible refine Aft.ret (by assumption) ?_) | (with_reducible refine Aft.brk (by assumption) ?_) | (with_reducible refine Aft.cont (by assumption) ?_) | ((fail_if_success (with_reducible show wpAny _ _ (newTuple _) _ _ _)); (with_reducible show wpAny _ _ _ _ _ _); walk1) | fail "no step")
    refine wpAny_newTuple ?_
    repeat' (first | (k_unfold; (try dsimp only)) | ((with_reducible show wpAny _ _ (execs (_ :: _) _) _ _ _); (first | (refine exCons s ?_; intro kS Pq hPq) | (refine exCons0 ?_; intro Pq hPq))) | (with_reducible refine Aft.next (by assumption) ?_) | (with_reducible refine Aft.ret (by assumption) ?_) | (with_reducible refine Aft.brk (by assumption) ?_) | (with_reducible refine Aft.cont (by assumption) ?_) | ((fail_if_success (with_reducible show wpAny _ _ (call _ _) _ _ _)); (with_reducible show wpAny _ _ _ _ _ _); walk1) | fail "no step")
    refine join_tuple (items := #[.str d.f d.tf, .str d.p d.tp]) (ys := [d.f, d.p]) ⟨_, Heap.get?_push_size _ rfl, rfl, _, rfl⟩ (.cons _ _ (.cons _ _ .nil)) ?hok ?_
    case hok =>
      simp only [List.map_cons, List.map_nil, List.sum_cons, List.sum_nil, List.length_cons, List.length_nil]
      have z : (Str.ofString "").length = 0 := by decide
      omega
    intro t' k
    exact ⟨⟨_, rfl⟩, _, _, rfl, fun _ _ e => Heap.get?_push_of_some _ e⟩
  case hQ =>
    intro a5 s₅ pt' F5 N5 htr5 hb5 ho5 hd5 G5 hle5 hL5
    clear lF' lN'
    repeat' (first | (k_unfold; (try dsimp only)) | ((with_reducible show wpAny _ _ (execs (_ :: _) _) _ _ _); (first | (refine exCons s₅ ?_; intro kS Pq hPq) | (refine exCons0 ?_; intro Pq hPq))) | (with_reducible refine Aft.next (by assumption) ?_) | (with_reducible refine Aft.ret (by assumption) ?_) | (with_reducible refine Aft.brk (by assumption) ?_) | (with_reducible refine Aft.cont (by assumption) ?_) | ((fail_if_success (with_reducible show wpAny _ _ (getAttr _ _ _) _ _ _)); (fail_if_success (with_reducible show wpAny _ _ (call (Value.builtin _) _) _ _ _)); (with_reducible show wpAny _ _ _ _ _ _); walk1) | fail "no step")
    have hr : (List.range ds.length).map (fun j => (ds.map partText).getD j Str.empty) = ds.map partText := by
      have := range_getD (ds.map partText) Str.empty
      rw [List.length_map] at this
      exact this
    refine join_gen (tx := fun j => (ds.map partText).getD j Str.empty) F5 N5 hb5 G5 hle5 hL5 ?htx ?hok (by omega) ?_
    case htx => rintro j v ⟨d, hd, t, rfl⟩; exact ⟨t, by simp [List.getD_eq_getElem?_getD, hd]⟩
    case hok =>
      rw [hr]
      refine joinOk_of ?_
      have h1 := sum_le_all (B := 200) (l := (ds.map partText).map (·.length)) (by
        intro n hn
        obtain ⟨y, hy, rfl⟩ := List.mem_map.mp hn
        obtain ⟨d, hd, rfl⟩ := List.mem_map.mp hy
        have := hb.2 d hd
        rw [partText_len]; omega)
      have z : (Str.ofString "").length = 0 := by decide
      rw [List.length_map, List.length_map] at h1
      rw [List.length_map, z]
      have h2 := hb.1
      omega
    intro s9 t9 F9 N9 hb9 ho9 hd9
    rw [hr]
    clear F5 N5
    repeat' (first | (k_unfold; (try dsimp only)) | ((with_reducible show wpAny _ _ (execs (_ :: _) _) _ _ _); (first | (refine exCons s9 ?_; intro kS Pq hPq) | (refine exCons0 ?_; intro Pq hPq))) | (with_reducible refine Aft.next (by assumption) ?_) | (with_reducible refine Aft.ret (by assumption) ?_) | (with_reducible refine Aft.brk (by assumption) ?_) | (with_reducible refine Aft.cont (by assumption) ?_) | (k_end; wrow_close) | walk1 | (dsimp only; walk1) | (leave1; try dsimp only) | fail "no step")
    exact hret t9 s9 pt' (by assumption) (by assumption) htr5 hb9 (ho9.trans ho5) (hd9.trans hd5)
end
end Mine
end
section
open PySem PySem.W PyProof.Rows PySem.Calls PySem.Spec
set_option Elab.async false
namespace Mine
noncomputable abbrev accO (dx : Addr) (its : Array Value) (nn : Nat) : Obj := { cls := .ref 185, dict := some dx, data := .seq its nn }
section
variable {w : World} {A : Around} {E : Value → Shared → Prop} {s : Shared} {x dx L : Addr} {h₀ : Heap} {m : Str → Option Value} {rest : List (Addr × Obj)} {its : Array Value} {nn : Nat} {od : Obj}
theorem acc_upd {h : Heap} (F : Fr h₀ L h m) (N : News h₀ L h ((x, accO dx its nn) :: rest)) (hP : ∀ q ∈ rest, q.1 ≠ x) (f : Array Value → Array Value) :
    ∃ nn', Fr h₀ L (h.update x (Obj.mapSeq f)) m ∧ News h₀ L (h.update x (Obj.mapSeq f)) ((x, accO dx (f its) nn') :: rest) := by
  have z := N _ (.head _)
  have hs : Heap.SameBut x h (h.update x (Obj.mapSeq f)) := Heap.SameBut.update ..
  refine ⟨if (f its).size == its.size then nn else nn + 1, F.change hs z.2.1 z.2.2, fun p hp => ?_⟩
  rcases List.mem_cons.mp hp with rfl | hp
  · exact ⟨Heap.get?_update_self (Obj.mapSeq f) z.1 rfl, z.2⟩
  · have n := N p (.tail _ hp)
    exact ⟨(hs.2 _ (hP p hp)).trans n.1, n.2⟩
theorem accO_inst {news : List (Addr × Obj)} (N : News h₀ L s.heap news) (hx : (x, accO dx its nn) ∈ news) (hdx : (dx, od) ∈ news) : InstAt s.heap x (accO dx its nn) 185 (some od) := ⟨(N _ hx).1, rfl, rfl, (N _ hdx).1⟩
theorem sub_append {v : Value} {Q : Value → Shared → Prop} (F : Fr h₀ L s.heap m) (X₀ : (hd.heap_39 w.params).In h₀) (N : News h₀ L s.heap ((x, accO dx its nn) :: rest)) (hdx : (dx, od) ∈ rest) (hP : ∀ q ∈ rest, q.1 ≠ x) (hsz : its.size ≤ 1000)
    (h : ∀ h' nn', Fr h₀ L h' m → News h₀ L h' ((x, accO dx (its.push v) nn') :: rest) → Q .none { s with heap := h' }) : wpAny (model Challenge.rw_sr0083_01.row.prog w) A (call (.builtin "list.append") [.ref x, v]) Q E s := by
  refine call_sub (X₀.keeps F.keep) (accO_inst N (.head _) (.tail _ hdx)) (by kernel_rfl) (.inr (by decide +kernel)) (owner := "list") (n := "append") (by decide +kernel) (by decide +kernel) entry_list_append (by unfold argsOk; kernel_rfl) ?_
  show wpAny _ _ (updateSeq x (·.push v) >>= fun _ => ret .none) _ _ s
  obtain ⟨nn', F', N'⟩ := acc_upd F N hP (·.push v)
  exact wpAny_bind (wpAny_updateSeq (N _ (.head _)).1 rfl (wpAny_pure ⟨.none, rfl, h _ _ F' N'⟩) (by rw [sizeLine_eq]; omega) (by rw [sizeLine_eq, Array.size_push]; omega))
theorem len_body {Q : Value → Shared → Prop} (N : News h₀ L s.heap ((x, accO dx its nn) :: rest))
    (h : ∀ t k, Q (.int its.size t) { s with toks := k }) : wpAny (model Challenge.rw_sr0083_01.row.prog w) A (Builtin.«list.__len__» ⟨[.ref x], []⟩) (fun fin s' => ∃ v, fin = .done (.ret v) ∧ Q v s') E s := by
  have hx := (N _ (.head _)).1
  unfold Builtin.«list.__len__»
  repeat wp_step
  exact ⟨_, rfl, h _ _⟩
theorem pop_body {v : Value} {its' : Array Value} {Q : Value → Shared → Prop} (F : Fr h₀ L s.heap m) (N : News h₀ L s.heap ((x, accO dx its nn) :: rest)) (hP : ∀ q ∈ rest, q.1 ≠ x) (hsz : its.size ≤ 1000) (he : its = its'.push v)
    (h : ∀ h' nn', Fr h₀ L h' m → News h₀ L h' ((x, accO dx its' nn') :: rest) → Q v { s with heap := h' }) : wpAny (model Challenge.rw_sr0083_01.row.prog w) A (Builtin.«list.pop» ⟨[.ref x], []⟩) (fun fin s' => ∃ v, fin = .done (.ret v) ∧ Q v s') E s := by
  have hx := (N _ (.head _)).1
  subst he
  have e : ((seqIndex? (-1) (its'.push v).size).bind fun k => Option.map (fun x => (k, x)) (its'.push v)[k]?) = some (its'.size, v) := by
    have e1 : seqIndex? (-1) (its'.push v).size = some its'.size := by
      unfold seqIndex?
      simp
      omega
    rw [e1]
    simp
  have e2 : (its'.push v).eraseIdxIfInBounds its'.size = its' := by
    simp only [Array.eraseIdxIfInBounds, Array.size_push, Nat.lt_succ_self, dif_pos]
    apply Array.toList_inj.mp
    rw [Array.toList_eraseIdx, Array.toList_push, List.eraseIdx_append_of_length_le (by simp)]
    simp
  have hne : (its'.push v).isEmpty = false := by simp
  unfold Builtin.«list.pop»
  repeat wp_step
  rw [e]
  show wpAny _ _ (updateSeq x (fun y => y.eraseIdxIfInBounds its'.size) >>= fun _ => ret v) _ _ _
  obtain ⟨nn', F', N'⟩ := acc_upd F N hP (fun y => y.eraseIdxIfInBounds its'.size)
  rw [e2] at N'
  exact wpAny_bind (wpAny_updateSeq (N _ (.head _)).1 rfl (wpAny_pure ⟨v, rfl, h _ _ F' N'⟩) (by rw [sizeLine_eq]; omega) (by rw [e2, sizeLine_eq]; have := Array.size_push v (xs := its'); omega))
theorem init_body {Q : Value → Shared → Prop} (F : Fr h₀ L s.heap m) (N : News h₀ L s.heap ((x, accO dx #[] nn) :: rest)) (hP : ∀ q ∈ rest, q.1 ≠ x)
    (h : ∀ h' nn', Fr h₀ L h' m → News h₀ L h' ((x, accO dx #[] nn') :: rest) → Q .none { s with heap := h' }) : wpAny (model Challenge.rw_sr0083_01.row.prog w) A (Builtin.«list.__init__» ⟨[.ref x], []⟩) (fun fin s' => ∃ v, fin = .done (.ret v) ∧ Q v s') E s := by
  have hx := (N _ (.head _)).1
  obtain ⟨nn', F', N'⟩ := acc_upd F N hP (fun _ => #[])
  unfold Builtin.«list.__init__»
  show wpAny _ _ (Builtin.List.listItems (.ref x) >>= _) _ _ _
  refine wpAny_bind (wpAny_bind (wpAny_seqItems hx rfl (wpAny_pure ?_)))
  show wpAny _ _ (updateSeq x (fun _ => #[]) >>= _) _ _ _
  refine wpAny_bind (wpAny_updateSeq hx rfl ?_ (by rw [sizeLine_eq]; simp) (by rw [sizeLine_eq]; simp))
  repeat wp_step
  exact ⟨_, rfl, h _ _ F' N'⟩
end
end Mine
end
section
open PySem PySem.W PyProof.Rows PySem.Calls PySem.Spec
set_option Elab.async false
namespace Mine
theorem slot_md_get : Slot "method_descriptor" "__get__" "method_descriptor.__get__" := .of (owner := "method_descriptor") (n := "__get__") (by rw [typeLookup_type, builtinLookup_eq_fast]; kernel_rfl) (by decide +kernel) (by decide +kernel) (by decide +kernel)
  (by first | exact .inl (by decide +kernel) | exact .inr (by decide +kernel)) (by rw [isSubtype_type]; kernel_rfl)
theorem slot_wd_get : Slot "wrapper_descriptor" "__get__" "wrapper_descriptor.__get__" := .of (owner := "wrapper_descriptor") (n := "__get__") (by rw [typeLookup_type, builtinLookup_eq_fast]; kernel_rfl) (by decide +kernel) (by decide +kernel) (by decide +kernel)
  (by first | exact .inl (by decide +kernel) | exact .inr (by decide +kernel)) (by rw [isSubtype_type]; kernel_rfl)
theorem entry_md_get : entryFor table "method_descriptor.__get__" = some Builtin.«method_descriptor.__get__» := entryFor_of_tree (by kernel_rfl)
theorem entry_wd_get : entryFor table "wrapper_descriptor.__get__" = some Builtin.«wrapper_descriptor.__get__» := entryFor_of_tree (by kernel_rfl)
theorem args_md_get (a b c : Value) : argsOk "method_descriptor.__get__" ⟨[a, b, c], []⟩ := by unfold argsOk; kernel_rfl
theorem args_wd_get (a b c : Value) : argsOk "wrapper_descriptor.__get__" ⟨[a, b, c], []⟩ := by unfold argsOk; kernel_rfl
theorem type_pop : typeOf (.builtin "list.pop") = pure (.type "method_descriptor") := by show builtinType _ = _; rw [builtinType_eq_fast]; kernel_rfl
theorem type_len : typeOf (.builtin "list.__len__") = pure (.type "wrapper_descriptor") := by show builtinType _ = _; rw [builtinType_eq_fast]; kernel_rfl
theorem type_init : typeOf (.builtin "list.__init__") = pure (.type "wrapper_descriptor") := by show builtinType _ = _; rw [builtinType_eq_fast]; kernel_rfl
noncomputable abbrev boundObj (bt id : String) (x : Addr) : Obj := { cls := .type bt, data := .fields #[.builtin id, .ref x] }
section
variable {prog : Program} {w : World} {A : Around} {E : Value → Shared → Prop} {s : Shared} {K : Frag} {x C : Addr} {ox : Obj} {od : Option Obj}
/-- a method of list bound to an object of a list's own class -/
theorem get_pop {Q : Value → Shared → Prop} (X : K.In s.heap) (I : InstAt s.heap x ox C od) (hm : mroIn K C (.type "list") = some true)
    (h : Q (.ref s.heap.objs.size) { s with heap := s.heap.push (boundObj "builtin_function_or_method" "list.pop" x) }) :
    wpAny (model prog w) A (call (.builtin "method_descriptor.__get__") [.builtin "list.pop", .ref x, .ref C]) Q E s := by
  refine wpAny_call_entry slot_md_get type_pop entry_md_get ?_ (args_md_get _ _ _)
  have e0 : ".".intercalate ("list.pop".cutAt '.').dropLast = "list" := by decide +kernel
  have L0 : Looks (model prog w) s.heap (typeOf (.ref x)) (.ref C) := I.type
  have L1 : Looks (model prog w) s.heap (isSubtype (.ref C) (.type (".".intercalate ("list.pop".cutAt '.').dropLast))) true := by rw [e0]; exact looks_mroIn X hm
  unfold Builtin.«method_descriptor.__get__»
  repeat (first | (with_reducible refine Looks.here L0 ?_) | (with_reducible refine Looks.here L1 ?_) | wp_step)
  exact ⟨_, rfl, h⟩
theorem get_len {Q : Value → Shared → Prop} (X : K.In s.heap) (I : InstAt s.heap x ox C od) (hm : mroIn K C (.type "list") = some true)
    (h : Q (.ref s.heap.objs.size) { s with heap := s.heap.push (boundObj "method-wrapper" "list.__len__" x) }) :
    wpAny (model prog w) A (call (.builtin "wrapper_descriptor.__get__") [.builtin "list.__len__", .ref x, .ref C]) Q E s := by
  refine wpAny_call_entry slot_wd_get type_len entry_wd_get ?_ (args_wd_get _ _ _)
  have e0 : ".".intercalate ("list.__len__".cutAt '.').dropLast = "list" := by decide +kernel
  have L0 : Looks (model prog w) s.heap (typeOf (.ref x)) (.ref C) := I.type
  have L1 : Looks (model prog w) s.heap (isSubtype (.ref C) (.type (".".intercalate ("list.__len__".cutAt '.').dropLast))) true := by rw [e0]; exact looks_mroIn X hm
  unfold Builtin.«wrapper_descriptor.__get__»
  repeat (first | (with_reducible refine Looks.here L0 ?_) | (with_reducible refine Looks.here L1 ?_) | wp_step)
  exact ⟨_, rfl, h⟩
theorem get_init {Q : Value → Shared → Prop} (X : K.In s.heap) (I : InstAt s.heap x ox C od) (hm : mroIn K C (.type "list") = some true)
    (h : Q (.ref s.heap.objs.size) { s with heap := s.heap.push (boundObj "method-wrapper" "list.__init__" x) }) :
    wpAny (model prog w) A (call (.builtin "wrapper_descriptor.__get__") [.builtin "list.__init__", .ref x, .ref C]) Q E s := by
  refine wpAny_call_entry slot_wd_get type_init entry_wd_get ?_ (args_wd_get _ _ _)
  have e0 : ".".intercalate ("list.__init__".cutAt '.').dropLast = "list" := by decide +kernel
  have L0 : Looks (model prog w) s.heap (typeOf (.ref x)) (.ref C) := I.type
  have L1 : Looks (model prog w) s.heap (isSubtype (.ref C) (.type (".".intercalate ("list.__init__".cutAt '.').dropLast))) true := by rw [e0]; exact looks_mroIn X hm
  unfold Builtin.«wrapper_descriptor.__get__»
  repeat (first | (with_reducible refine Looks.here L0 ?_) | (with_reducible refine Looks.here L1 ?_) | wp_step)
  exact ⟨_, rfl, h⟩
/-- super().NAME, where NAME is list's own -/
theorem sup_ga {so D : Addr} {id tf g : String} {name : Str} {tk : Tok} {o' : Obj} {l₀ l : List Value} {Q : Fin → Shared → Prop} (hso : s.heap.get? so = some (ks_superObj D x C)) (hno : Looks (model prog w) s.heap (opaqueClassAbove (.ref C)) none)
    (hC : Looks (model prog w) s.heap (mroOf (.ref C)) l₀) (hl : (l₀.dropWhile (· != .ref D)).drop 1 = l) (X : K.In s.heap) (hf : alongIn K name l = some (some (.builtin id))) (ht : typeOf (.builtin id) = pure (.type tf)) (hg : typeLookup (.type tf) "__get__" = pure (some (.builtin g)))
    (hxC : x ≠ C) (hn : (name == ("__class__" : Str)) = false)
    (hget : ∀ (A' : Around) (Q' : Value → Shared → Prop), Q' (.ref s.heap.objs.size) { s with heap := s.heap.push o' } → wpAny (model prog w) A' (call (.builtin g) [.builtin id, .ref x, .ref C]) Q' E s)
    (hq : Q (.done (.ret (.ref s.heap.objs.size))) { s with heap := s.heap.push o' }) :
    wpAny (model prog w) A (Builtin.«super.__getattribute__» ⟨[.ref so, .str name tk], []⟩) Q E s := by
  obtain ⟨hp, gs, d, t, os⟩ := s
  have hne : (Value.ref x == Value.ref C) = false := by simp [hxC]
  have hdt : (ks_superObj D x C).data = .fields #[.ref D, .ref x, .ref C] := rfl
  have f0 : (#[.ref D, .ref x, .ref C] : Array Value)[0]? = some (.ref D) := rfl
  have f1 : (#[.ref D, .ref x, .ref C] : Array Value)[1]? = some (.ref x) := rfl
  have f2 : (#[.ref D, .ref x, .ref C] : Array Value)[2]? = some (.ref C) := rfl
  unfold Builtin.«super.__getattribute__»
  repeat (first
    | (with_reducible refine wpAny_field hso hdt f0 ?_) | (with_reducible refine wpAny_field hso hdt f1 ?_) | (with_reducible refine wpAny_field hso hdt f2 ?_)
    | (with_reducible refine ks_wpAny_notOpaque hno ?_)
    | (with_reducible refine Looks.at hC ?_; rw [hl])
    | (refine ks_forIn_along X (fun _ _ => rfl) rfl ?_ hf)
    | (with_reducible refine hget _ _ ?_)
    | (simp only [hn, hne, Bool.or_false, Bool.false_eq_true, if_false])
    | wp_step
    | dsimp only)
  all_goals exact hq
end
end Mine
end
section
open PySem PySem.W PyProof.Rows PySem.Calls PySem.Spec
set_option Elab.async false
namespace Mine
section
variable {prog : Program} {w : World} {A : Around} {E : Value → Shared → Prop} {s : Shared} {x q : Addr}
theorem bound_call {bt id : String} {b : Builtin} {Q : Value → Shared → Prop} (hq : s.heap.get? q = some (boundObj bt id x)) (hbt : (Value.type bt == Value.type "method") = false) (hbt2 : (Value.type bt == Value.type "builtin_function_or_method" || Value.type bt == Value.type "method-wrapper") = true)
    (hck : ∀ (Q' : Unit → Shared → Prop) (E' : Value → Shared → Prop), Q' () s → wpAny (model prog w) A.in1 (checkBoundCall id ⟨[.ref x], []⟩) Q' E' s) (hp : plainId id = true) (hb : entryFor table id = some b)
    (hc : wpAny (model prog w) A.in1 (b ⟨[.ref x], []⟩) (fun fin s' => ∃ v, fin = .done (.ret v) ∧ Q v s') E s) : wpAny (model prog w) A (call (.ref q) []) Q E s := by
  refine wpAny_call (codeAny_of_tree ?_)
  show wpAny _ A.in1 (callAny (.ref q) ⟨[], []⟩) _ _ _
  unfold callAny
  refine wpAny_bind (wpAny_load hq ?_)
  simp only [hbt, hbt2, Bool.false_or, if_true]
  show wpAny _ _ (if (Value.type bt != Value.type "method") = true then _ else _) _ _ _
  rw [if_pos (by simp only [bne, hbt]; rfl)]
  refine wpAny_bind (hck _ _ (wpAny_bind (wpAny_pure (wpAny_pure ?_))))
  refine ⟨plainId_quiet hp _, codeAny_builtin hb ?_⟩
  rw [Around.under_plainId hp _]
  refine wpAny_mono hc (fun fin s' z => ?_) fun _ _ z => z
  obtain ⟨v, rfl, hv⟩ := z
  exact hv
end
section
variable {w : World} {A : Around} {E : Value → Shared → Prop} {s : Shared} {x dx L so : Addr} {h₀ : Heap} {m : Str → Option Value} {rest : List (Addr × Obj)} {its : Array Value} {nn : Nat} {od : Obj}
theorem sup_meth {id tf g bt : String} {name : Str} {pl : Sem Bool} {Q : Value × List Value → Shared → Prop} (F : Fr h₀ L s.heap m) (X₀ : (hd.heap_39 w.params).In h₀) (hso : s.heap.get? so = some (ks_superObj 185 x 185))
    (hf : alongIn (hd.heap_39 w.params) name [.type "list", .type "object"] = some (some (.builtin id))) (ht : typeOf (.builtin id) = pure (.type tf)) (hg : typeLookup (.type tf) "__get__" = pure (some (.builtin g))) (hxC : x ≠ 185) (hn : (name == ("__class__" : Str)) = false)
    (hget : ∀ (t : Nat) (A' : Around) (E' : Value → Shared → Prop) (Q' : Value → Shared → Prop), Q' (.ref s.heap.objs.size) { s with heap := s.heap.push (boundObj bt id x), toks := t } → wpAny (model Challenge.rw_sr0083_01.row.prog w) A' (call (.builtin g) [.builtin id, .ref x, .ref 185]) Q' E' { s with toks := t })
    (h : Q (.ref s.heap.objs.size, []) { s with heap := s.heap.push (boundObj bt id x), toks := s.toks + 1 }) : wpAny (model Challenge.rw_sr0083_01.row.prog w) A (getMethod (.ref so) name pl) Q E s := by
  have X := X₀.keeps F.keep
  have hT : ∀ t, ({ s with toks := t } : Shared).TypeIs (.ref so) "super" := fun _ => ⟨_, hso, rfl⟩
  have hbody : wpAny (model Challenge.rw_sr0083_01.row.prog w) A (call (.builtin "super.__getattribute__") [.ref so, .str name s.toks]) (fun v s' => v = .ref s.heap.objs.size ∧ s' = { s with heap := s.heap.push (boundObj bt id x), toks := s.toks + 1 }) (fun _ _ => False) { s with toks := s.toks + 1 } := by
    refine wpAny_call_entry PySem.F.ks_slot_super_ga (hT _) PySem.F.ks_entry_super_ga ?_ (PySem.F.ks_gaArgs_super _ _)
    refine sup_ga (s := { s with toks := s.toks + 1 }) (o' := boundObj bt id x) hso (looks_opaque X (by kernel_rfl)) (l₀ := [.ref 185, .type "list", .type "object"]) ?_ (by decide +kernel) X hf ht hg hxC hn (fun A' Q' hq => hget _ A' _ Q' hq) ⟨_, rfl, rfl, rfl⟩
    have e : (clsIn (hd.heap_39 w.params) 185).map (·.mro) = some [.ref 185, .type "list", .type "object"] := by kernel_rfl
    obtain ⟨cd, a, b⟩ := Option.map_eq_some_iff.mp e
    refine (looks_clsIn X a).andThen ?_
    rw [b]
    exact .now
  unfold getMethod
  refine wpAny_bind (wpAny_specialOf (hT s.toks) PySem.F.ks_slot_super_ga.lookup ?_)
  show wpAny _ _ (if (Manifest.canonical "super.__getattribute__" != "object.__getattribute__") = true then _ else _) _ _ _
  rw [if_pos PySem.F.ks_canon_super_ga]
  unfold getAttr getAttrBy
  refine wpAny_bind (wpAny_bind (wpAny_mkText (wpAny_holding (wpAny_bind (wpAny_typeOf (hT _) (wpAny_bind (wpAny_of_eq PySem.F.ks_slot_super_ga.lookup ?_)))))))
  show wpAny _ _ (getAttrByItsOwn (.ref so) (.str name s.toks) (.type "super") (.builtin "super.__getattribute__") true false) _ _ _
  unfold getAttrByItsOwn hookBefore callGetattribute boundAndCalled
  refine wpAny_bind (wpAny_of_eq (show (if onTheHeap (.type "super") then typeLookup (.type "super") "__getattr__" else pure none) = pure none from rfl) ?_)
  refine wpAny_bind (wpAny_attempt (wpAny_holding ?_))
  show wpAny _ _ (bindSpecial (.builtin "super.__getattribute__") (.ref so) >>= _) _ _ _
  refine wpAny_bind (wpAny_of_eq (PySem.F.ks_slot_super_ga.bind _) ?_)
  refine wpAny_mono hbody (fun v s' hv => ?_) fun _ _ z => z.elim
  obtain ⟨rfl, rfl⟩ := hv
  exact wpAny_pure (wpAny_pure h)
end
end Mine
end
local macro_rules | `(tactic| k_inst) => `(tactic| first | exact PySem.W.InstAt.of_news (by k_asm) (by repeat (first | assumption | exact List.mem_cons_self .. | refine List.mem_cons_of_mem _ ?_)) (by repeat (first | assumption | exact List.mem_cons_self .. | refine List.mem_cons_of_mem _ ?_)) | exact Mine.accO_inst (by k_asm) (by repeat (first | assumption | exact List.mem_cons_self .. | refine List.mem_cons_of_mem _ ?_)) (by repeat (first | assumption | exact List.mem_cons_self .. | refine List.mem_cons_of_mem _ ?_)))
section
open PySem PySem.W PyProof.Rows PySem.Calls PySem.Spec
set_option Elab.async false
namespace Mine
noncomputable def BoundAt (q : Addr) (h : Heap) : Prop := ∃ bt id x, h.get? q = some (boundObj bt id x) ∧ (bt = "builtin_function_or_method" ∨ bt = "method-wrapper")
section
variable {M : Model} {A : Around} {E : Value → Shared → Prop} {s : Shared} {env : Env} {pos : Pos} {first : List Value} {Q : Value → Shared → Prop} {q : Addr}
theorem bound_keeps (h : Heap) (X : BoundAt q h) : ∃ k, (k = Keeper.frame ∨ k = Keeper.machine ∨ k = Keeper.boundFrame) ∧ Looks M h (keeperOf (.ref q)) k := by
  obtain ⟨bt, id, x, e, hb⟩ := X
  rcases hb with rfl | rfl
  · exact ⟨.machine, .inr (.inl rfl), (Looks.ld (part := none) e).andThen .now⟩
  · exact ⟨.machine, .inr (.inl rfl), (Looks.ld (part := none) e).andThen .now⟩
theorem callWith_B0 (X : BoundAt q s.heap) (h : wpAny M A (call (.ref q) (first ++ [])) Q E s) : wpAny M A (callWith pos (.ref q) first (backTo pos (starEach [] env)) []) Q E s :=
  callWith_of rfl bound_keeps (evalArgs_nil3 ⟨X, h⟩)
end
theorem cls185 {w : World} : ∃ cd, clsIn (hd.heap_39 w.params) 185 = some cd := Option.isSome_iff_exists.mp (by kernel_rfl : (clsIn (hd.heap_39 w.params) 185).isSome = true)
section
set_option maxRecDepth 100000 in
set_option maxHeartbeats 4000000 in
theorem pc_claim (w : World) (mean : ExcName → Option Value) (mg mb : Str → Option Value) (x dx : Addr) (its : Array Value) (nn : Nat) (od : Obj) (rest : List (Addr × Obj)) (hdx : (dx, od) ∈ rest) :
  Callee w mean mg mb 182 ((x, accO dx its nn) :: rest) 10 True [.ref x] (fun t => .int its.size t) := by
  unfold Callee
  k_fill
  dsimp only [CbRet]
  intro dp un gd cn cs a ccd cl outer A₀ base h₀ L m s Q E p loose B F X N T hk _ hdp hu hret
  refine wpAny_call ?_
  k_dflt (refine' ks_code_super ?k1 ?k2 ?k3 ?k4 ?k5 ?kA ?kF ?kK ?k6 ?k7 ?k8 ?k9 ?kB ?_ ?c1 ?c2 ?c3 ?c4; (case kA => exact rfl); (case kF => exact rfl); (case kK => exact hk); (case k1 => k_asm); (case k2 => k_asm); (case k3 => k_asm); (case k4 => k_asm); (case k5 => k_asm); (case k6 => k_is); (case k7 => k_is); (case k8 => ktr_room); (case k9 => exact BindsTo.of_eq rfl); (case kB => exact locs rfl); (case c1 => decide); (case c2 => exact rfl); (case c3 => exact rfl); (case c4 => exact rfl))
  intro g' L' h' FG' F' N' B' X' T' l1
  (try dsimp only)
  (try k_lift B')
  iterate 6 (first | (k_unfold; (try dsimp only)) | ((fail_if_success (with_reducible show wpAny _ _ (getMethod _ _ _) _ _ _)); walk1) | skip)
  (rename Fr _ _ _ _ => lF'); (rename News _ _ _ _ => lN')
  refine sup_meth (id := "list.__len__") (tf := "wrapper_descriptor") (g := "wrapper_descriptor.__get__") (bt := "method-wrapper") lF' X' (lN' _ (.head _)).1 (by kernel_rfl) type_len slot_wd_get.lookup ?hxC (by decide) ?hget ?_
  case hget =>
    intro t A' E' Q' hq
    exact get_len (s := { s with heap := _, toks := t }) (X'.keeps lF'.keep) (accO_inst (s := { s with heap := _, toks := t }) lN' (.tail _ (.head _)) (.tail _ (.tail _ hdx))) (by kernel_rfl) hq
  case hxC => exact ks_ne (X'.keeps lF'.keep) (accO_inst (s := { s with heap := _ }) lN' (.tail _ (.head _)) (.tail _ (.tail _ hdx))) cls185.choose_spec
  refine callWith_B0 ⟨_, _, _, Heap.get?_push_size _ rfl, .inr rfl⟩ ?_
  refine bound_call (id := "list.__len__") (bt := "method-wrapper") (Heap.get?_push_size _ rfl) (by decide) (by decide) ?hck (by decide +kernel) entry_list_len ?_
  case hck => intro Q' E' hq; exact wpAny_of_eq (by kernel_rfl) hq
  obtain ⟨F9, N9, l9⟩ := ks_newsPush (s := { s with heap := _ }) (o := boundObj "method-wrapper" "list.__len__" x) lF' lN' rfl (Heap.get?_push_at rfl rfl) (fun b o e => Heap.get?_push_of_some _ e)
  refine len_body (dx := dx) (its := its) (nn := nn) (rest := rest) (fun p hp => N9 p ?_) ?_
  · rcases List.mem_cons.mp hp with rfl | hp
    · exact .tail _ (.tail _ (.head _))
    · exact .tail _ (.tail _ (.tail _ hp))
  intro t k
  clear lN'
  repeat' (first | (k_unfold; (try dsimp only)) | ((with_reducible show wpAny _ _ (execs (_ :: _) _) _ _ _); (first | (refine exCons s ?_; intro kS Pq hPq) | (refine exCons0 ?_; intro Pq hPq))) | (with_reducible refine Aft.next (by assumption) ?_) | (with_reducible refine Aft.ret (by assumption) ?_) | (with_reducible refine Aft.brk (by assumption) ?_) | (with_reducible refine Aft.cont (by assumption) ?_) | (k_end; wrow_close) | walk1 | (dsimp only; walk1) | (leave1; try dsimp only) | fail "no step")
  refine' cb_retI (Q := Q) hret ?e ?f ?n
  case f => k_asm
  case n => first | with_reducible assumption | (refine' cb_drop ?cbN ?cbS; (case cbN => assumption); (case cbS => first | (intro q hq; (repeat with_reducible refine List.mem_cons_of_mem _ ?_); with_reducible exact hq) | kcj_all)) | k_asm
  case e => rfl
end
end Mine
end
section
open PySem PySem.W PyProof.Rows PySem.Calls PySem.Spec
set_option Elab.async false
namespace Mine
theorem accO_meth {w : World} {A : Around} {E : Value → Shared → Prop} {s : Shared} {x dx L : Addr} {h₀ : Heap} {m : Str → Option Value} {its : Array Value} {nn : Nat} {pl : Sem Bool} {f : Addr} {name : Str} {z : Int} {tz k : Tok} {kk : Nat} {news : List (Addr × Obj)} {Q : Value × List Value → Shared → Prop} (F : Fr h₀ L s.heap m) (X₀ : (hd.heap_39 w.params).In h₀) (N : News h₀ L s.heap news) (hx : (x, accO dx its nn) ∈ news) (hdx : (dx, accDict w.params z tz k kk) ∈ news)
    (hf : findIn (hd.heap_39 w.params) (.ref 185) name = some (some (.ref f))) (ht : typeIn (hd.heap_39 w.params) (.ref f) = some (.type "function")) (hn : shadowIn (some (accDict w.params z tz k kk)) name = some false) (h : Q (.ref f, [.ref x]) s) : wpAny (model Challenge.rw_sr0083_01.row.prog w) A (getMethod (.ref x) name pl) Q E s :=
  getm_sub (tf := "function") (X₀.keeps F.keep) (accO_inst (its := its) (nn := nn) N hx hdx) (by kernel_rfl) (by kernel_rfl) hf (looks_typeIn (X₀.keeps F.keep) ht) (by decide +kernel) hn h
theorem bound_pop {w : World} {A : Around} {E : Value → Shared → Prop} {s : Shared} {x dx : Addr} {its : Array Value} {nn : Nat} {od : Option Obj} {Q : Unit → Shared → Prop} (X : (hd.heap_39 w.params).In s.heap) (I : InstAt s.heap x (accO dx its nn) 185 od) (h : Q () s) :
    wpAny (model Challenge.rw_sr0083_01.row.prog w) A (checkBoundCall "list.pop" ⟨[.ref x], []⟩) Q E s := by
  obtain ⟨hp, gs, d, t, os⟩ := s
  have L0 : Looks (model Challenge.rw_sr0083_01.row.prog w) hp (typeOf (.ref x)) (.ref 185) := I.type
  have L1 : Looks (model Challenge.rw_sr0083_01.row.prog w) hp (isSubtype (.ref 185) (.type "module")) false := looks_mroIn X (by kernel_rfl)
  have L2 : Looks (model Challenge.rw_sr0083_01.row.prog w) hp (typeOf (.ref 185)) (.type "type") := looks_typeIn X (by kernel_rfl)
  obtain ⟨cd, hcd, hqn⟩ := Option.map_eq_some_iff.mp (by kernel_rfl : (clsIn (hd.heap_39 w.params) 185).map (·.qualname) = some (Str.ofString "_Accumulator"))
  have L3 : Looks (model Challenge.rw_sr0083_01.row.prog w) hp (classData 185) cd := looks_clsIn X hcd
  unfold checkBoundCall
  repeat (first | (with_reducible refine Looks.at L0 ?_) | (with_reducible refine Looks.at L1 ?_) | (with_reducible refine Looks.at L2 ?_) | (with_reducible refine Looks.at L3 ?_) | (with_reducible refine ks_wpAny_isType_inst I.at_ (fun _ => by simp) ?_) | ((with_reducible show wpAny _ _ (Bind.checkArgs _ _ _) _ _ _); rw [hqn]; refine wpAny_of_eq (a := ()) (by kernel_rfl) ?_) | wp_step)
  all_goals exact h
section
set_option maxRecDepth 100000 in
set_option maxHeartbeats 4000000 in
theorem pop_claim (w : World) (mean : ExcName → Option Value) (mg mb : Str → Option Value) (x dx : Addr) (its' : Array Value) (v : Value) (nn : Nat) (z : Int) (tz k : Tok) (kk : Nat) (rest : List (Addr × Obj)) (hdx : (dx, accDict w.params z tz k kk) ∈ rest) (hP : ∀ q ∈ rest, q.1 ≠ x) :
  ∀ (dp un : Nat) (gd : Option (List Code)) (cn : Str) (cs : Scope) (a : Addr) (ccd : Value) (cl : List (Str × Addr)) (outer : List Env) (A₀ : Around) (base h₀ : Heap) (L : Addr) (m : Str → Option Value) (s : Shared) (Q E : Value → Shared → Prop) (p : Program) (loose : List Str),
    Below A₀ base outer h₀ → Fr h₀ L s.heap m → (hd.heap_39 w.params).In h₀ → News h₀ L s.heap ((x, accO dx (its'.push v) nn) :: rest) → Top p loose mean mg mb h₀ → cs.kind = .function →
    its'.size ≤ 900 → dp + 20 < recursionLimit → un + 8 * 20 < cLine →
    (∀ h' tk' nn', Fr h₀ L h' m → News h₀ L h' ((x, accO dx its' nn') :: rest) → Q v { s with heap := h', toks := tk' }) →
      wpAny (model Challenge.rw_sr0083_01.row.prog w) (ktrTop dp un gd cn cs L a ccd cl outer) (call (.ref 145) [.ref x]) Q E s := by
  k_fill
  intro dp un gd cn cs a ccd cl outer A₀ base h₀ L m s Q E p loose B F X N T hk hsz hdp hu hret
  refine wpAny_call ?_
  k_dflt (refine' ks_code_super ?k1 ?k2 ?k3 ?k4 ?k5 ?kA ?kF ?kK ?k6 ?k7 ?k8 ?k9 ?kB ?_ ?c1 ?c2 ?c3 ?c4; (case kA => exact rfl); (case kF => exact rfl); (case kK => exact hk); (case k1 => k_asm); (case k2 => k_asm); (case k3 => k_asm); (case k4 => k_asm); (case k5 => k_asm); (case k6 => k_is); (case k7 => k_is); (case k8 => ktr_room); (case k9 => exact BindsTo.of_eq rfl); (case kB => exact locs rfl); (case c1 => decide); (case c2 => exact rfl); (case c3 => exact rfl); (case c4 => exact rfl))
  intro g' L' h' FG' F' N' B' X' T' l1
  (try dsimp only)
  (try k_lift B')
  iterate 12 (first | (k_unfold; (try dsimp only)) | ((fail_if_success (with_reducible show wpAny _ _ (getMethod _ _ _) _ _ _)); walk1) | skip)
  refine accO_meth (f := 182) F' X' N' (.head _) (.tail _ hdx) (by kernel_rfl) (by kernel_rfl) rfl ?_
  iterate 6 (first | (k_unfold; (try dsimp only)) | ((fail_if_success (with_reducible show wpAny _ _ (call _ _) _ _ _)); walk1) | skip)
  refine pc_claim w mean mg mb x dx (its'.push v) nn _ rest hdx _ _ _ _ _ _ _ _ _ _ _ _ _ _ _ _ _ _ _ B' F' X' N' T' rfl trivial (by show dp + 1 + 10 < _; omega) (by show un + 3 + 8 * 10 < _; omega) ?_
  intro t1 h1 tk1 F1 N1
  clear F' N'
  iterate 5 (first | (k_unfold; (try dsimp only)) | ((fail_if_success (with_reducible show wpAny _ _ (getMethod _ _ _) _ _ _)); walk1) | skip)
  · (rename (_ = 0) => hz)
    exfalso
    have := Array.size_push v (xs := its')
    omega
  · refine wpAt_of_wpAny ?_
    refine wpAny_execs_nil ?_
    dsimp only
    refine ks_wpAt_execs_cons ?_
    refine ks_wpAt_Return_some ?_
    refine ks_wpAt_MethodCall ?_
    walk1
    (rename Fr _ _ _ _ => lF'); (rename News _ _ _ _ => lN')
    refine sup_meth (id := "list.pop") (tf := "method_descriptor") (g := "method_descriptor.__get__") (bt := "builtin_function_or_method") lF' X' (lN' _ (.head _)).1 (by kernel_rfl) type_pop slot_md_get.lookup ?hxC (by decide) ?hget ?_
    case hget =>
      intro t A' E' Q' hq
      exact get_pop (s := { s with heap := _, toks := t }) (X'.keeps lF'.keep) (accO_inst (s := { s with heap := _, toks := t }) lN' (.tail _ (.head _)) (.tail _ (.tail _ hdx))) (by kernel_rfl) hq
    case hxC => exact ks_ne (X'.keeps lF'.keep) (accO_inst (s := { s with heap := _ }) lN' (.tail _ (.head _)) (.tail _ (.tail _ hdx))) cls185.choose_spec
    refine callWith_B0 ⟨_, _, _, Heap.get?_push_size _ rfl, .inl rfl⟩ ?_
    obtain ⟨F9, N9, l9⟩ := ks_newsPush (s := { s with heap := _ }) (o := boundObj "builtin_function_or_method" "list.pop" x) lF' lN' rfl (Heap.get?_push_at rfl rfl) (fun b o e => Heap.get?_push_of_some _ e)
    refine bound_call (id := "list.pop") (bt := "builtin_function_or_method") (Heap.get?_push_size _ rfl) (by decide) (by decide) ?hck (by decide +kernel) PySem.F.entry_list_pop ?_
    case hck => intro Q' E' hq; exact bound_pop (X'.keeps F9.keep) (accO_inst (s := { s with heap := _ }) N9 (.tail _ (.tail _ (.head _))) (.tail _ (.tail _ (.tail _ hdx)))) hq
    refine pop_body (dx := dx) (its := its'.push v) (its' := its') (nn := nn) (rest := rest) F9 (fun p hp => N9 p ?_) hP (by rw [Array.size_push]; omega) rfl ?_
    · rcases List.mem_cons.mp hp with rfl | hp
      · exact .tail _ (.tail _ (.head _))
      · exact .tail _ (.tail _ (.tail _ hp))
    intro h5 nn' F5 N5
    clear lN' lF' F1 N1 F9 N9
    repeat' (first | (k_unfold; (try dsimp only)) | ((with_reducible show wpAny _ _ (execs (_ :: _) _) _ _ _); (first | (refine exCons s ?_; intro kS Pq hPq) | (refine exCons0 ?_; intro Pq hPq))) | (with_reducible refine Aft.next (by assumption) ?_) | (with_reducible refine Aft.ret (by assumption) ?_) | (with_reducible refine Aft.brk (by assumption) ?_) | (with_reducible refine Aft.cont (by assumption) ?_) | (k_end; wrow_close) | walk1 | (dsimp only; walk1) | (leave1; try dsimp only) | fail "no step")
    exact hret _ _ _ (by assumption) (by assumption)
end
end Mine
end
section
open PySem PySem.W PyProof.Rows PySem.Calls PySem.Spec
set_option Elab.async false
namespace Mine
theorem accO_blt {w : World} {A : Around} {E : Value → Shared → Prop} {s : Shared} {x dx L : Addr} {h₀ : Heap} {m : Str → Option Value} {its : Array Value} {nn : Nat} {pl : Sem Bool} {name : Str} {z : Int} {tz k : Tok} {kk : Nat} {news : List (Addr × Obj)} {id : String} {Q : Value × List Value → Shared → Prop} (F : Fr h₀ L s.heap m) (X₀ : (hd.heap_39 w.params).In h₀) (N : News h₀ L s.heap news) (hx : (x, accO dx its nn) ∈ news) (hdx : (dx, accDict w.params z tz k kk) ∈ news)
    (hf : findIn (hd.heap_39 w.params) (.ref 185) name = some (some (.builtin id))) (ht : typeOf (.builtin id) = pure (.type "method_descriptor")) (hn : shadowIn (some (accDict w.params z tz k kk)) name = some false) (h : Q (.builtin id, [.ref x]) s) : wpAny (model Challenge.rw_sr0083_01.row.prog w) A (getMethod (.ref x) name pl) Q E s :=
  getm_sub (tf := "method_descriptor") (X₀.keeps F.keep) (accO_inst (its := its) (nn := nn) N hx hdx) (by kernel_rfl) (by kernel_rfl) hf (Looks.of_pure ht) (by decide +kernel) hn h
theorem swap2 {h₀ h : Heap} {L : Addr} {a b : Addr × Obj} {l : List (Addr × Obj)} (N : News h₀ L h (a :: b :: l)) : News h₀ L h (b :: a :: l) := fun q hq => N q (by
  rcases List.mem_cons.mp hq with rfl | hq
  · exact .tail _ (.head _)
  · rcases List.mem_cons.mp hq with rfl | hq
    · exact .head _
    · exact .tail _ (.tail _ hq))
section
set_option maxRecDepth 100000 in
set_option maxHeartbeats 4000000 in
theorem push_code (w : World) (mean : ExcName → Option Value) (mg mb : Str → Option Value) (x dx : Addr) (its : Array Value) (f p' : Str) (tf tp : Tok) (nn : Nat) (z : Int) (tz k : Tok) (kk : Nat) (rest : List (Addr × Obj)) (hdx : (dx, accDict w.params z tz k kk) ∈ rest) (hP : ∀ q ∈ rest, q.1 ≠ x) :
  ∀ (dp un : Nat) (gd : Option (List Code)) (cn : Str) (cs : Scope) (a : Addr) (ccd : Value) (cl : List (Str × Addr)) (outer : List Env) (A₀ : Around) (base h₀ : Heap) (L : Addr) (m : Str → Option Value) (s : Shared) (Q E : Value → Shared → Prop) (p : Program) (loose : List Str),
    Below A₀ base outer h₀ → Fr h₀ L s.heap m → (hd.heap_39 w.params).In h₀ → News h₀ L s.heap ((x, accO dx its nn) :: rest) → Top p loose mean mg mb h₀ → cs.kind = .function →
    its.size ≤ 900 → dp + 20 < recursionLimit → un + 8 * 20 < cLine →
    (∀ T h' tk' nn', Fr h₀ L h' m → News h₀ L h' ((x, accO dx (its.push (.ref T)) nn') :: (T, ({ cls := .type "tuple", data := .seq #[.str f tf, .str p' tp] } : Obj)) :: rest) → (∀ q ∈ (x, accO dx its nn) :: rest, q.1 < T) → Q .none { s with heap := h', toks := tk' }) →
      codeAny (model Challenge.rw_sr0083_01.row.prog w) (ktrTop dp un gd cn cs L a ccd cl outer) (.call (.ref 129) ⟨[.ref x, .str f tf, .str p' tp], []⟩) (fun r s' => match r with | .ok (.ret v) => Q v s' | .ok _ => False | .error e => E e s') s := by
  k_fill
  intro dp un gd cn cs a ccd cl outer A₀ base h₀ L m s Q E p loose B F X N T hk hsz hdp hu hret
  k_dflt cell_enter
  repeat' (first | (k_unfold; (try dsimp only)) | ((with_reducible show wpAny _ _ (execs (_ :: _) _) _ _ _); (first | (refine exCons s ?_; intro kS Pq hPq) | (refine exCons0 ?_; intro Pq hPq))) | (with_reducible refine Aft.next (by assumption) ?_) | (with_reducible refine Aft.ret (by assumption) ?_) | (with_reducible refine Aft.brk (by assumption) ?_) | (with_reducible refine Aft.cont (by assumption) ?_) | ((fail_if_success (with_reducible show wpAny _ _ (getMethod _ _ _) _ _ _)); walk1) | fail "no step")
  (rename Fr _ _ _ _ => lF'); (rename News _ _ _ _ => lN'); (rename Frag.In _ _ => lX)
  refine accO_blt (id := "list.append") lF' lX lN' (.head _) (.tail _ hdx) (by kernel_rfl) type_list_append rfl ?_
  repeat' (first | (k_unfold; (try dsimp only)) | ((with_reducible show wpAny _ _ (execs (_ :: _) _) _ _ _); (first | (refine exCons s ?_; intro kS Pq hPq) | (refine exCons0 ?_; intro Pq hPq))) | (with_reducible refine Aft.next (by assumption) ?_) | (with_reducible refine Aft.ret (by assumption) ?_) | (with_reducible refine Aft.brk (by assumption) ?_) | (with_reducible refine Aft.cont (by assumption) ?_) | ((fail_if_success (with_reducible show wpAny _ _ (call _ _) _ _ _)); (fail_if_success (with_reducible show wpAny _ _ (newTuple _) _ _ _)); walk1) | fail "no step")
  refine wpAny_newTuple ?_
  have F9 := lF'.push (o := { cls := .type "tuple", data := .seq #[.str f tf, .str p' tp] })
  have N9 := lN'.push lF' (o := { cls := .type "tuple", data := .seq #[.str f tf, .str p' tp] })
  have O9 := fun q hq => Heap.lt_size (lN' q hq).1
  repeat' (first | (k_unfold; (try dsimp only)) | ((with_reducible show wpAny _ _ (execs (_ :: _) _) _ _ _); (first | (refine exCons s ?_; intro kS Pq hPq) | (refine exCons0 ?_; intro Pq hPq))) | (with_reducible refine Aft.next (by assumption) ?_) | (with_reducible refine Aft.ret (by assumption) ?_) | (with_reducible refine Aft.brk (by assumption) ?_) | (with_reducible refine Aft.cont (by assumption) ?_) | ((fail_if_success (with_reducible show wpAny _ _ (call _ _) _ _ _)); walk1) | fail "no step")
  have N8 := swap2 N9
  refine sub_append (dx := dx) (its := its) (nn := nn) F9 lX N8 (.tail _ hdx) ?hP9 (by omega) ?_
  case hP9 =>
    intro q hq
    rcases List.mem_cons.mp hq with rfl | hq
    · exact Nat.ne_of_gt (O9 _ (.head _))
    · exact hP q hq
  intro h5 nn' F5 N5
  clear lF' lN' F9 N9
  repeat' (first | (k_unfold; (try dsimp only)) | ((with_reducible show wpAny _ _ (execs (_ :: _) _) _ _ _); (first | (refine exCons s ?_; intro kS Pq hPq) | (refine exCons0 ?_; intro Pq hPq))) | (with_reducible refine Aft.next (by assumption) ?_) | (with_reducible refine Aft.ret (by assumption) ?_) | (with_reducible refine Aft.brk (by assumption) ?_) | (with_reducible refine Aft.cont (by assumption) ?_) | (k_end; wrow_close) | walk1 | (dsimp only; walk1) | (leave1; try dsimp only) | fail "no step")
  exact hret _ _ _ _ (by assumption) (by assumption) O9
set_option maxRecDepth 100000 in
set_option maxHeartbeats 4000000 in
theorem push_claim (w : World) (mean : ExcName → Option Value) (mg mb : Str → Option Value) (x dx : Addr) (its : Array Value) (f p' : Str) (tf tp : Tok) (nn : Nat) (z : Int) (tz k : Tok) (kk : Nat) (rest : List (Addr × Obj)) (hdx : (dx, accDict w.params z tz k kk) ∈ rest) (hP : ∀ q ∈ rest, q.1 ≠ x) :
  ∀ (dp un : Nat) (gd : Option (List Code)) (cn : Str) (cs : Scope) (a : Addr) (ccd : Value) (cl : List (Str × Addr)) (outer : List Env) (A₀ : Around) (base h₀ : Heap) (L : Addr) (m : Str → Option Value) (s : Shared) (Q E : Value → Shared → Prop) (p : Program) (loose : List Str),
    Below A₀ base outer h₀ → Fr h₀ L s.heap m → (hd.heap_39 w.params).In h₀ → News h₀ L s.heap ((x, accO dx its nn) :: rest) → Top p loose mean mg mb h₀ → cs.kind = .function →
    its.size ≤ 900 → dp + 20 < recursionLimit → un + 8 * 20 < cLine →
    (∀ T h' tk' nn', Fr h₀ L h' m → News h₀ L h' ((x, accO dx (its.push (.ref T)) nn') :: (T, ({ cls := .type "tuple", data := .seq #[.str f tf, .str p' tp] } : Obj)) :: rest) → (∀ q ∈ (x, accO dx its nn) :: rest, q.1 < T) → Q .none { s with heap := h', toks := tk' }) →
      wpAny (model Challenge.rw_sr0083_01.row.prog w) (ktrTop dp un gd cn cs L a ccd cl outer) (call (.ref 129) [.ref x, .str f tf, .str p' tp]) Q E s :=
  fun dp un gd cn cs a ccd cl outer A₀ base h₀ L m s Q E p loose B F X N T hk hsz hdp hu hret => wpAny_call (push_code w mean mg mb x dx its f p' tf tp nn z tz k kk rest hdx hP dp un gd cn cs a ccd cl outer A₀ base h₀ L m s Q E p loose B F X N T hk hsz hdp hu hret)
end
end Mine
end
section
open PySem PySem.W PyProof.Rows PySem.Calls PySem.Spec
set_option Elab.async false
namespace Mine
noncomputable abbrev pairO (f : Str) (tf : Tok) (p : Str) (tp : Tok) : Obj := { cls := .type "tuple", data := .seq #[.str f tf, .str p tp] }
section
set_option maxRecDepth 100000 in
set_option maxHeartbeats 4000000 in
theorem popE_claim (w : World) (mean : ExcName → Option Value) (mg mb : Str → Option Value) (x dx : Addr) (nn : Nat) (z : Int) (tz k : Tok) (kk : Nat) (rest : List (Addr × Obj)) (hdx : (dx, accDict w.params z tz k kk) ∈ rest) :
  ∀ (dp un : Nat) (gd : Option (List Code)) (cn : Str) (cs : Scope) (a : Addr) (ccd : Value) (cl : List (Str × Addr)) (outer : List Env) (A₀ : Around) (base h₀ : Heap) (L : Addr) (m : Str → Option Value) (s : Shared) (Q E : Value → Shared → Prop) (p : Program) (loose : List Str),
    Below A₀ base outer h₀ → Fr h₀ L s.heap m → (hd.heap_39 w.params).In h₀ → News h₀ L s.heap ((x, accO dx #[] nn) :: rest) → Top p loose mean mg mb h₀ → cs.kind = .function →
    dp + 20 < recursionLimit → un + 8 * 20 < cLine →
    (∀ T h' tk' t1 t2, Fr h₀ L h' m → News h₀ L h' ((T, pairO (Str.ofString "") t1 (Str.ofString "") t2) :: (x, accO dx #[] nn) :: rest) → Q (.ref T) { s with heap := h', toks := tk' }) →
      wpAny (model Challenge.rw_sr0083_01.row.prog w) (ktrTop dp un gd cn cs L a ccd cl outer) (call (.ref 145) [.ref x]) Q E s := by
  k_fill
  intro dp un gd cn cs a ccd cl outer A₀ base h₀ L m s Q E p loose B F X N T hk hdp hu hret
  refine wpAny_call ?_
  k_dflt (refine' ks_code_super ?k1 ?k2 ?k3 ?k4 ?k5 ?kA ?kF ?kK ?k6 ?k7 ?k8 ?k9 ?kB ?_ ?c1 ?c2 ?c3 ?c4; (case kA => exact rfl); (case kF => exact rfl); (case kK => exact hk); (case k1 => k_asm); (case k2 => k_asm); (case k3 => k_asm); (case k4 => k_asm); (case k5 => k_asm); (case k6 => k_is); (case k7 => k_is); (case k8 => ktr_room); (case k9 => exact BindsTo.of_eq rfl); (case kB => exact locs rfl); (case c1 => decide); (case c2 => exact rfl); (case c3 => exact rfl); (case c4 => exact rfl))
  intro g' L' h' FG' F' N' B' X' T' l1
  (try dsimp only)
  (try k_lift B')
  iterate 12 (first | (k_unfold; (try dsimp only)) | ((fail_if_success (with_reducible show wpAny _ _ (getMethod _ _ _) _ _ _)); walk1) | skip)
  refine accO_meth (f := 182) F' X' N' (.head _) (.tail _ hdx) (by kernel_rfl) (by kernel_rfl) rfl ?_
  iterate 6 (first | (k_unfold; (try dsimp only)) | ((fail_if_success (with_reducible show wpAny _ _ (call _ _) _ _ _)); walk1) | skip)
  refine pc_claim w mean mg mb x dx #[] nn _ rest hdx _ _ _ _ _ _ _ _ _ _ _ _ _ _ _ _ _ _ _ B' F' X' N' T' rfl trivial (by show dp + 1 + 10 < _; omega) (by show un + 3 + 8 * 10 < _; omega) ?_
  intro t1 h1 tk1 F1 N1
  clear F' N'
  repeat' (first | (k_unfold; (try dsimp only)) | ((with_reducible show wpAny _ _ (execs (_ :: _) _) _ _ _); (first | (refine exCons s ?_; intro kS Pq hPq) | (refine exCons0 ?_; intro Pq hPq))) | (with_reducible refine Aft.next (by assumption) ?_) | (with_reducible refine Aft.ret (by assumption) ?_) | (with_reducible refine Aft.brk (by assumption) ?_) | (with_reducible refine Aft.cont (by assumption) ?_) | (k_end; wrow_close) | walk1 | (dsimp only; walk1) | (leave1; try dsimp only) | fail "no step")
  exact hret _ _ _ _ _ (by assumption) (by assumption)
end
end Mine
end
section
open PySem PySem.W PyProof.Rows PySem.Calls PySem.Spec
set_option Elab.async false
namespace Mine
set_option maxRecDepth 100000
section
variable {prog : Program} {w : World} {A : Around} {E : Value → Shared → Prop} {s : Shared} {K : Frag} {x C : Addr} {ox : Obj} {od : Option Obj}
theorem seqkey_sub {k : Value} {name : Str} {Q : Value → Shared → Prop} (X : K.In s.heap) (I : InstAt s.heap x ox C od) (hm : mroIn K C (.type "collections.deque") = some false) (h : Q k s) : wpAny (model prog w) A (sequenceKey (.ref x) k name) Q E s := by
  obtain ⟨hp, gs, d, t, os⟩ := s
  have L0 : Looks (model prog w) hp (typeOf (.ref x)) (.ref C) := I.type
  have L1 : Looks (model prog w) hp (isSubtype (.ref C) (.type "collections.deque")) false := looks_mroIn X hm
  unfold sequenceKey seqItemTypes
  simp only [List.anyM]
  repeat (first | (with_reducible refine Looks.at L0 ?_) | (with_reducible refine Looks.at L1 ?_) | wp_step)
  exact h
theorem special_sub {name : Str} {id n : String} {b : Builtin} {args : List Value} {Q : Option Value → Shared → Prop} (X : K.In s.heap) (I : InstAt s.heap x ox C od) (hm : mroIn K C (.type "list") = some true) (hf : findIn K (.ref C) name = some (some (.builtin id))) (hsl : Slot "list" name id)
    (hk : builtinKind id = some .slot ∨ builtinKind id = some .method) (hs : splitId id = some ("list", n)) (hq : plainId id = true) (hb : entryFor table id = some b) (ha : argsOk id ⟨.ref x :: args, []⟩)
    (hc : wpAny (model prog w) A.in1 (b ⟨.ref x :: args, []⟩) (fun fin s' => ∃ v, fin = .done (.ret v) ∧ Q (some v) s') E s) : wpAny (model prog w) A (callSpecial? (.ref x) name args) Q E s := by
  unfold callSpecial? specialOf
  refine wpAny_bind (wpAny_bind (I.type.here ((looks_findIn X hf).here ?_)))
  dsimp only
  refine wpAny_holding (wpAny_bind (wpAny_of_eq (hsl.bind _) (wpAny_bind ?_)))
  exact call_sub (Q := fun v s' => wpAny (model prog w) A (pure (some v)) Q E s') X I hm hk hs hq hb ha (wpAny_mono hc (fun fin s' hv => let ⟨v, e, q⟩ := hv; ⟨v, e, wpAny_pure q⟩) fun _ _ z => z)
end
section
variable {prog : Program} {w : World} {A : Around} {E : Value → Shared → Prop} {s : Shared} {x dx sl : Addr} {its : Array Value} {nn : Nat}
theorem getslice_body {vl : Value} {lo : Option Int} {Q : Value → Shared → Prop} (hx : s.heap.get? x = some (accO dx its nn)) (hs : s.heap.IsSliceOf sl vl .none .none) (pl : IsPart vl lo) (hsz : its.size ≤ 1000)
    (h : Q (.ref s.heap.objs.size) { s with heap := s.heap.push { cls := .type "list", data := .seq (slicePick its lo none none) } }) : wpAny (model prog w) A (Builtin.«list.__getitem__» ⟨[.ref x, .ref sl], []⟩) (fun fin s' => ∃ v, fin = .done (.ret v) ∧ Q v s') E s := by
  obtain ⟨os, hos, hcs, hds⟩ := id hs
  have hT : s.TypeIs (.ref sl) "slice" := ⟨os, hos, hcs⟩
  have f0 : (#[vl, .none, .none] : Array Value)[0]? = some vl := rfl
  have f1 : (#[vl, .none, .none] : Array Value)[1]? = some .none := rfl
  have f2 : (#[vl, .none, .none] : Array Value)[2]? = some .none := rfl
  have hz : (slicePick its lo none none).size ≤ sizeLine := Nat.le_trans (slicePick_size_le its lo none none) (by rw [sizeLine_eq]; omega)
  unfold Builtin.«list.__getitem__» Builtin.List.listSubscript? Builtin.List.listItems
  simp only [listSliceParts_eq]
  repeat (first
    | (with_reducible refine wpAny_specialOf hT slice_no_index ?_) | (with_reducible refine wpAny_typeOf hT ?_)
    | (with_reducible refine wpAny_field hos hds f0 ?_) | (with_reducible refine wpAny_field hos hds f1 ?_) | (with_reducible refine wpAny_field hos hds f2 ?_)
    | (with_reducible refine wpAny_listPart .none ?_) | (with_reducible refine wpAny_listPart pl ?_)
    | (with_reducible refine wpAny_of_eq (sliceIndices_raw lo none none its.size (by simp)) ?_)
    | ((with_reducible show wpAny _ _ (newObj _ _) _ _ _); refine wpAny_newObj_type ?_ hz)
    | wp_step)
  exact ⟨_, rfl, h⟩
theorem getint_body {k : Int} {u : Tok} {v : Value} {Q : Value → Shared → Prop} (hx : s.heap.get? x = some (accO dx its nn)) (h0 : 0 ≤ k) (hk : its[k.toNat]? = some v) (hsz : its.size ≤ 1000)
    (h : Q v s) : wpAny (model prog w) A (Builtin.«list.__getitem__» ⟨[.ref x, .int k u], []⟩) (fun fin s' => ∃ v, fin = .done (.ret v) ∧ Q v s') E s := by
  have hlt : k.toNat < its.size := (Array.getElem?_eq_some_iff.mp hk).1
  have hfit : Builtin.List.listFitsIndex k = true := fitsIndex_of h0 (by omega)
  clear hlt hsz
  show wpAny _ _ (Builtin.List.listSubscript? (.int k u) >>= _) _ _ s
  refine wpAny_bind (wpAny_listSubscript_int hfit ?_)
  clear hfit
  obtain ⟨j, rfl⟩ := Int.eq_ofNat_of_zero_le h0
  have hx' : its[j]? = some v := hk
  show wpAny _ _ ((seqItemAt x j >>= fun r => pure (r.map (j, ·))) >>= _) _ _ s
  refine wpAny_bind (wpAny_bind (wpAny_seqItemAt hx rfl (wpAny_pure ?_)))
  rw [hx']
  first
    | exact wpAny_bind (wpAny_pure (wpAny_pure ⟨v, rfl, h⟩))
    | exact wpAny_pure ⟨v, rfl, wpAny_pure h⟩
theorem setslice_body {L l : Addr} {h₀ : Heap} {m : Str → Option Value} {rest : List (Addr × Obj)} {new its' : Array Value} {nl : Nat} {vl : Value} {lo : Option Int} {Q : Value → Shared → Prop} (F : Fr h₀ L s.heap m) (N : News h₀ L s.heap ((x, accO dx its nn) :: rest)) (hP : ∀ q ∈ rest, q.1 ≠ x)
    (hl : s.heap.get? l = some { cls := .type "list", data := .seq new nl }) (hxl : l ≠ x) (hs : s.heap.IsSliceOf sl vl .none .none) (pl : IsPart vl lo) (hsz : its.size ≤ 1000) (hsz' : its'.size ≤ 1000) (hnew : new.size ≤ 1000)
    (he : its.extract 0 (sliceBounds lo none none its.size).1.toNat ++ new ++ its.extract (max (sliceBounds lo none none its.size).1 (sliceBounds lo none none its.size).2.1).toNat its.size = its')
    (h : ∀ h' nn', Fr h₀ L h' m → News h₀ L h' ((x, accO dx its' nn') :: rest) → Q .none { s with heap := h' }) : wpAny (model prog w) A (Builtin.«list.__setitem__» ⟨[.ref x, .ref sl, .ref l], []⟩) (fun fin s' => ∃ v, fin = .done (.ret v) ∧ Q v s') E s := by
  obtain ⟨os, hos, hcs, hds⟩ := id hs
  have hx := (N _ (.head _)).1
  have hT : s.TypeIs (.ref sl) "slice" := ⟨os, hos, hcs⟩
  have hTl : s.TypeIs (.ref l) "list" := ⟨_, hl, rfl⟩
  have f0 : (#[vl, .none, .none] : Array Value)[0]? = some vl := rfl
  have f1 : (#[vl, .none, .none] : Array Value)[1]? = some .none := rfl
  have f2 : (#[vl, .none, .none] : Array Value)[2]? = some .none := rfl
  have hsame : Builtin.List.listSameRef (.ref x) (.ref l) = false := by simp [Builtin.List.listSameRef]; exact fun e => hxl e.symm
  have hlong : Builtin.List.listTooLong (its.size + new.size) = false := by simp [Builtin.List.listTooLong, sizeLine_eq]; omega
  obtain ⟨nn', F', N'⟩ := acc_upd F N hP (fun xs => xs.extract 0 (sliceBounds lo none none its.size).1.toNat ++ new ++ xs.extract (max (sliceBounds lo none none its.size).1 (sliceBounds lo none none its.size).2.1).toNat xs.size)
  unfold Builtin.«list.__setitem__» Builtin.List.listSubscript? Builtin.List.listBlankSlotArgs Builtin.List.listAllItems Builtin.List.listItems
  simp only [listSliceParts_eq]
  repeat (first
    | (with_reducible refine wpAny_specialOf hT slice_no_index ?_) | (with_reducible refine wpAny_typeOf hT ?_) | (with_reducible refine wpAny_typeOf hTl ?_)
    | (with_reducible refine wpAny_field hos hds f0 ?_) | (with_reducible refine wpAny_field hos hds f1 ?_) | (with_reducible refine wpAny_field hos hds f2 ?_)
    | (with_reducible refine wpAny_listPart .none ?_) | (with_reducible refine wpAny_listPart pl ?_)
    | (with_reducible refine wpAny_of_eq (sliceIndices_raw lo none none its.size (by simp)) ?_)
    | (with_reducible refine wpAny_seqItems hl rfl ?_) | (with_reducible refine wpAny_seqItems hx rfl ?_) | (with_reducible refine wpAny_letGo ?_)
    | (simp only [hsame, hlong, Bool.false_eq_true, if_false])
    | ((with_reducible show wpAny _ _ (Builtin.List.listUpdate _ _) _ _ _); refine wpAny_updateSeq hx rfl ?_ (by rw [sizeLine_eq]; omega) (by rw [sizeLine_eq, he]; omega))
    | wp_step)
  rw [he] at N'
  exact ⟨_, rfl, h _ _ F' N'⟩
end
end Mine
end
section
open PySem PySem.W PyProof.Rows PySem.Calls PySem.Spec
set_option Elab.async false
namespace Mine
set_option maxRecDepth 100000
section
variable {w : World} {A : Around} {E : Value → Shared → Prop} {s : Shared} {x dx sl L : Addr} {its : Array Value} {nn : Nat} {h₀ : Heap} {m : Str → Option Value} {news rest : List (Addr × Obj)} {od : Obj}
theorem tail_sub {value slice : PySem.Expr} {i : Value} {ops : List Value} {Q : Value → Shared → Prop} (F : Fr h₀ L s.heap m) (X₀ : (hd.heap_39 w.params).In h₀) (I : InstAt s.heap x (accO dx its nn) 185 (some od)) (hs : subscripted slice false (.ref x) i = operate ops (getItem (.ref x) i))
    (h : wpAny (model Challenge.rw_sr0083_01.row.prog w) A (getItem (.ref x) i) Q E s) : wpAny (model Challenge.rw_sr0083_01.row.prog w) A (subscriptTail value slice (.ref x) i) Q E s := by
  obtain ⟨hp, gs, d, t, os⟩ := s
  have X := X₀.keeps F.keep
  have L0 : Looks (model Challenge.rw_sr0083_01.row.prog w) hp (typeOf (.ref x)) (.ref 185) := I.type
  have L1 : Looks (model Challenge.rw_sr0083_01.row.prog w) hp (typeLookup (.ref 185) "__getitem__") (some (.builtin "list.__getitem__")) := looks_findIn X (by kernel_rfl)
  unfold subscriptTail getitemInPython specialOf
  repeat (first | (with_reducible refine Looks.at L0 ?_) | (with_reducible refine Looks.at L1 ?_) | (with_reducible refine wpAny_bind ?_) | (with_reducible refine wpAny_pure ?_) | dsimp only)
  rw [hs]
  exact wpAny_operating (wpAny_mono h (fun r s₃ h₃ => wpAny_bind (wpAny_letTemporaryGo (wpAny_pure h₃))) fun _ _ z => z)
theorem get_item {k : Int} {u : Tok} {v : Value} {Q : Value → Shared → Prop} (F : Fr h₀ L s.heap m) (X₀ : (hd.heap_39 w.params).In h₀) (I : InstAt s.heap x (accO dx its nn) 185 (some od)) (h0 : 0 ≤ k) (hk : its[k.toNat]? = some v) (hsz : its.size ≤ 1000) (h : Q v s) :
    wpAny (model Challenge.rw_sr0083_01.row.prog w) A (getItem (.ref x) (.int k u)) Q E s := by
  have X := X₀.keeps F.keep
  unfold getItem
  refine wpAny_holding (wpAny_bind (seqkey_sub X I (by kernel_rfl) ?_))
  refine wpAny_bind (special_sub X I (by kernel_rfl) (by kernel_rfl) slot_list_getitem (n := "__getitem__") (.inr (by decide +kernel)) (by decide +kernel) (by decide +kernel) entry_list_getitem (args_list_getitem _ _) ?_)
  exact getint_body I.at_ h0 hk hsz (wpAny_pure h)
theorem get_cut {vl : Value} {lo : Option Int} {Q : Value → Shared → Prop} (F : Fr h₀ L s.heap m) (X₀ : (hd.heap_39 w.params).In h₀) (I : InstAt s.heap x (accO dx its nn) 185 (some od)) (hs : s.heap.IsSliceOf sl vl .none .none) (pl : IsPart vl lo) (hsz : its.size ≤ 1000)
    (h : Q (.ref s.heap.objs.size) { s with heap := s.heap.push { cls := .type "list", data := .seq (slicePick its lo none none) } }) :
    wpAny (model Challenge.rw_sr0083_01.row.prog w) A (getItem (.ref x) (.ref sl)) Q E s := by
  have X := X₀.keeps F.keep
  unfold getItem
  refine wpAny_holding (wpAny_bind (seqkey_sub X I (by kernel_rfl) ?_))
  refine wpAny_bind (special_sub X I (by kernel_rfl) (by kernel_rfl) slot_list_getitem (n := "__getitem__") (.inr (by decide +kernel)) (by decide +kernel) (by decide +kernel) entry_list_getitem (args_list_getitem _ _) ?_)
  exact getslice_body I.at_ hs pl hsz (wpAny_pure h)
theorem set_cut {l : Addr} {new its' : Array Value} {nl : Nat} {vl : Value} {lo : Option Int} {Q : Unit → Shared → Prop} (F : Fr h₀ L s.heap m) (X₀ : (hd.heap_39 w.params).In h₀) (N : News h₀ L s.heap ((x, accO dx its nn) :: rest)) (hdx : (dx, od) ∈ rest) (hP : ∀ q ∈ rest, q.1 ≠ x)
    (hl : s.heap.get? l = some { cls := .type "list", data := .seq new nl }) (hxl : l ≠ x) (hs : s.heap.IsSliceOf sl vl .none .none) (pl : IsPart vl lo) (hsz : its.size ≤ 1000) (hsz' : its'.size ≤ 1000) (hnew : new.size ≤ 1000)
    (he : its.extract 0 (sliceBounds lo none none its.size).1.toNat ++ new ++ its.extract (max (sliceBounds lo none none its.size).1 (sliceBounds lo none none its.size).2.1).toNat its.size = its')
    (h : ∀ h' nn', Fr h₀ L h' m → News h₀ L h' ((x, accO dx its' nn') :: rest) → Q () { s with heap := h' }) :
    wpAny (model Challenge.rw_sr0083_01.row.prog w) A (setItem (.ref x) (.ref sl) (.ref l)) Q E s := by
  have X := X₀.keeps F.keep
  have I := accO_inst (s := s) N (.head _) (.tail _ hdx)
  unfold setItem
  refine wpAny_holding (wpAny_bind (seqkey_sub X I (by kernel_rfl) ?_))
  refine wpAny_bind (special_sub X I (by kernel_rfl) (by kernel_rfl) slot_list_setitem (n := "__setitem__") (.inl (by decide +kernel)) (by decide +kernel) (by decide +kernel) entry_list_setitem (args_list_setitem _ _ _) ?_)
  exact setslice_body F N hP hl hxl hs pl hsz hsz' hnew he fun h' nn' F' N' => wpAny_pure (h h' nn' F' N')
end
end Mine
end
section
open PySem PySem.W PyProof.Rows PySem.Calls PySem.Spec
set_option Elab.async false
namespace Mine
set_option maxRecDepth 100000
theorem refuse185 (self : Value) : refuseLoop self "__setattr__" [.ref 185, .type "list", .type "object"] = pure () := by
  rw [refuseLoop_ref]
  kernel_rfl
section
variable {w : World} {A : Around} {E : Value → Shared → Prop} {s : Shared} {x dx sl L : Addr} {its : Array Value} {nn : Nat} {h₀ : Heap} {m : Str → Option Value} {news rest : List (Addr × Obj)} {od : Obj}
theorem acc_set {es es' : List DictEntry} {n n' : Nat} {v : Value} {Q : Unit → Shared → Prop} (F : Fr h₀ L s.heap m) (X₀ : (hd.heap_39 w.params).In h₀) (N : News h₀ L s.heap ((x, accO dx its nn) :: (dx, dictOf es n) :: rest)) (hx : x ≠ dx) (hP : ∀ q ∈ rest, q.1 ≠ dx)
    (hl : (getL (Str.ofString "_initial_size") es).isSome = true) (e1 : putL (Str.ofString "_initial_size") (PyData.keyHash w.params (Str.ofString "_initial_size")) (.str (Str.ofString "_initial_size") (s.toks + 1)) v es = es') (e2 : putN (Str.ofString "_initial_size") es n = n') (hz : es'.length ≤ 1000)
    (h : ∀ h', Fr h₀ L h' m → News h₀ L h' ((x, accO dx its nn) :: (dx, dictOf es' n') :: rest) → Q () { s with heap := h', toks := s.toks + 2 }) :
    wpAny (model Challenge.rw_sr0083_01.row.prog w) A (setAttr (.ref x) (Str.ofString "_initial_size") v) Q E s := by
  have X := X₀.keeps F.keep
  have I := accO_inst (s := s) N (.head _) (.tail _ (.head _))
  have SF := PySem.F.store_object
  obtain ⟨cd, hc⟩ := cls185 (w := w)
  have hmro : cd.mro = [.ref 185, .type "list", .type "object"] := by
    have e : (clsIn (hd.heap_39 w.params) 185).map (·.mro) = some [.ref 185, .type "list", .type "object"] := by kernel_rfl
    rw [hc] at e
    exact Option.some.inj e
  have hdct : cd.hasDict = true := by
    have e : (clsIn (hd.heap_39 w.params) 185).map (·.hasDict) = some true := by kernel_rfl
    rw [hc] at e
    exact Option.some.inj e
  have sub : Looks (model Challenge.rw_sr0083_01.row.prog w) s.heap (isInstance (.ref x) (.type "object")) true := I.type.andThen (looks_mroIn X (by kernel_rfl))
  have hm : Looks (model Challenge.rw_sr0083_01.row.prog w) s.heap (mroOf (.ref 185)) cd.mro := (looks_clsIn X hc).andThen .now
  have ha : findIn (hd.heap_39 w.params) (.ref 185) (Str.ofString "_initial_size") = some none := by kernel_rfl
  have h1 : ∀ p ∈ [(x, accO dx its nn)], p.1 ≠ dx := by
    intro p hp
    rw [List.mem_singleton] at hp
    subst hp
    exact hx
  obtain ⟨U1, U2⟩ := news_upd (pre := [(x, accO dx its nn)]) (f := Obj.putName (Str.ofString "_initial_size") (PyData.keyHash w.params (Str.ofString "_initial_size")) (.str (Str.ofString "_initial_size") (s.toks + 1)) v) F N h1 hP (o' := dictOf es' n') (by rw [putName_dict, e1, e2]) rfl
  have D := (N _ (.tail _ (.head _))).1
  have D' := (U2 (dx, dictOf es' n') (.tail _ (.head _))).1
  refine set_plain X I (by kernel_rfl) ?_
  refine codeAny_call_builtin SF.slot.plain SF.entry (@check_slot (model _ w) _ _ _ "object.__setattr__" "object" "__setattr__" (.ref x) _ [] _ SF.kind SF.split sub (SF.args (.ref x) _ _) ?_)
  rw [osa_eq, refuse_eq]
  obtain ⟨hp, gs, d, t, os⟩ := s
  have L0 : Looks (model Challenge.rw_sr0083_01.row.prog w) hp (typeOf (.ref x)) (.ref 185) := I.type
  have L1 : Looks (model Challenge.rw_sr0083_01.row.prog w) hp (typeLookup (.ref 185) (Str.ofString "_initial_size")) none := looks_findIn X ha
  have L2 : Looks (model Challenge.rw_sr0083_01.row.prog w) hp (classData 185) cd := looks_clsIn X hc
  refine wpAny_bind (wpAny_bind (L0.at (wpAny_bind (hm.at ?_))))
  rw [hmro, refuse185]
  refine wpAny_pure (wpAny_bind (L0.at (wpAny_bind (L1.at (wpAny_bind (wpAny_pure ?_))))))
  refine wpAny_bind (wpAny_pure (wpAny_bind (wpAny_bind (wpAny_loadPart I.at_ (wpAny_bind (L2.at ?_))))))
  rw [hdct]
  refine wpAny_pure (a := some dx) (wpAny_bind (wpAny_pure (wpAny_bind ?_)))
  unfold nsSet
  refine wpAny_bind (wpAny_bind (wpAny_askSetting (wpAny_pure (wpAny_bind (wpAny_mkText (wpAny_bind (wpAny_loadPart D ?_)))))))
  have hc2 : (!es.toArray.any (·.key.isStr (Str.ofString "_initial_size")) && es.toArray.any (·.refKey)) = false := by
    unfold getL at hl
    rw [List.any_toArray, List.any_toArray]
    split at hl
    · rename_i en he
      rw [List.any_eq_true.mpr ⟨en, List.mem_of_find?_eq_some he, List.find?_some he⟩]; rfl
    · split at hl
      · cases hl
      · rename_i z; rw [Bool.not_eq_true] at z; rw [z, Bool.and_false]
  dsimp only
  rw [aRefKeyMayBeTheName_at, hc2]
  refine wpAny_updatePart D ?_
  refine wpAny_bind (wpAny_lookBehind D' (pastItsLine_dict (n := n') (by rw [List.size_toArray, sizeLine_eq]; omega)) ?_)
  exact wpAny_pure (h _ U1 U2)
end
end Mine
end
local macro_rules | `(tactic| k_allIn) => `(tactic| (intro q hq; k_ownIn))
section
open PySem PySem.W PyProof.Rows PySem.Calls PySem.Spec
set_option Elab.async false
namespace Mine
theorem ne_dx {h₀ h : Heap} {L x dx : Addr} {its : Array Value} {nn n : Nat} {es : List DictEntry} {news : List (Addr × Obj)} (N : News h₀ L h news) (h1 : (x, accO dx its nn) ∈ news) (h2 : (dx, dictOf es n) ∈ news) : x ≠ dx := by
  intro e
  have a := (N _ h1).1
  have b := (N _ h2).1
  subst e
  dsimp only at a b
  rw [a] at b
  injection b with b
  have := congrArg Obj.cls b
  cases this
theorem cut_all (its : Array Value) (new : Array Value) : its.extract 0 (sliceBounds none none none its.size).1.toNat ++ new ++ its.extract (max (sliceBounds none none none its.size).1 (sliceBounds none none none its.size).2.1).toNat its.size = new := by
  have e1 : (sliceBounds none none none its.size).1 = 0 := rfl
  have e2 : (sliceBounds none none none its.size).2.1 = its.size := rfl
  rw [e1, e2]
  have e3 : (max (0 : Int) its.size).toNat = its.size := by omega
  rw [e3]
  simp
theorem cut_last (its : Array Value) (v : Value) : (its.push v).extract 0 (sliceBounds (some (its.size : Int)) none none (its.push v).size).1.toNat ++ #[] ++ (its.push v).extract (max (sliceBounds (some (its.size : Int)) none none (its.push v).size).1 (sliceBounds (some (its.size : Int)) none none (its.push v).size).2.1).toNat (its.push v).size = its := by
  have hs := Array.size_push v (xs := its)
  have e1 : (sliceBounds (some (its.size : Int)) none none (its.push v).size).1 = its.size := by
    simp only [sliceBounds, Option.getD_none]
    rw [hs]
    have : ¬ ((its.size : Int) < 0) := by omega
    simp only [this, if_false]
    have : (1 : Int) > 0 := by decide
    simp only [this, if_true]
    omega
  have e2 : (sliceBounds (some (its.size : Int)) none none (its.push v).size).2.1 = (its.push v).size := rfl
  rw [e1, e2]
  have e3 : (max (its.size : Int) ((its.push v).size : Int)).toNat = (its.push v).size := by omega
  rw [e3]
  apply Array.toList_inj.mp
  simp
theorem pick_last (its : Array Value) (v : Value) : slicePick (its.push v) (some (its.size : Int)) none none = #[v] := by
  have hs := Array.size_push v (xs := its)
  unfold slicePick
  have e1 : (sliceBounds (some (its.size : Int)) none none (its.push v).size).1 = its.size := by
    simp only [sliceBounds, Option.getD_none]
    rw [hs]
    have : ¬ ((its.size : Int) < 0) := by omega
    simp only [this, if_false]
    have : (1 : Int) > 0 := by decide
    simp only [this, if_true]
    omega
  have e2 : (sliceBounds (some (its.size : Int)) none none (its.push v).size).2.1 = (its.push v).size := rfl
  have e3 : (sliceBounds (some (its.size : Int)) none none (its.push v).size).2.2 = 1 := rfl
  rw [e1, e2, e3]
  unfold sliceRange
  have : (1 : Int) > 0 := by decide
  simp only [this, if_true]
  rw [hs]
  have h1 : (its.size : Int) < ((its.size + 1 : Nat) : Int) := by omega
  simp only [h1, if_true]
  have h2 : ((((its.size + 1 : Nat) : Int) - its.size + 1 - 1) / 1).toNat = 1 := by omega
  rw [h2]
  simp
section
set_option maxRecDepth 100000 in
set_option maxHeartbeats 4000000 in
theorem reset0_claim (w : World) (mean : ExcName → Option Value) (mg mb : Str → Option Value) (x dx : Addr) (its : Array Value) (nn : Nat) (z : Int) (tz k : Tok) (kk : Nat) (rest : List (Addr × Obj)) (hPx : ∀ q ∈ rest, q.1 ≠ x) (hPd : ∀ q ∈ rest, q.1 ≠ dx) :
  ∀ (dp un : Nat) (gd : Option (List Code)) (cn : Str) (cs : Scope) (a : Addr) (ccd : Value) (cl : List (Str × Addr)) (outer : List Env) (A₀ : Around) (base h₀ : Heap) (L : Addr) (m : Str → Option Value) (s : Shared) (Q E : Value → Shared → Prop) (p : Program) (loose : List Str),
    Below A₀ base outer h₀ → Fr h₀ L s.heap m → (hd.heap_39 w.params).In h₀ → News h₀ L s.heap ((x, accO dx its nn) :: (dx, accDict w.params z tz k kk) :: rest) → Top p loose mean mg mb h₀ → cs.kind = .function →
    its.size ≤ 900 → dp + 20 < recursionLimit → un + 8 * 20 < cLine →
    (∀ h' tk' nn' tz', Fr h₀ L h' m → News h₀ L h' ((x, accO dx #[] nn') :: (dx, accDict w.params 0 tz' k kk) :: rest) → Q .none { s with heap := h', toks := tk' }) →
      wpAny (model Challenge.rw_sr0083_01.row.prog w) (ktrTop dp un gd cn cs L a ccd cl outer) (call (.ref 167) [.ref x]) Q E s := by
  k_fill
  intro dp un gd cn cs a ccd cl outer A₀ base h₀ L m s Q E p loose B F X N T hk hsz hdp hu hret
  refine wpAny_call ?_
  k_dflt (refine' code_def ?k1 ?k2 ?k3 ?k4 ?k5 ?kA ?kF ?kK ?k6 ?k7 ?k8 ?k9 ?kB ?_ ?c2 ?c3 ?c4 ?c5; (case kA => exact rfl); (case kF => exact rfl); (case kK => assumption); (case k1 => k_asm); (case k2 => k_asm); (case k3 => k_asm); (case k4 => k_asm); (case k5 => k_asm); (case k6 => k_is); (case k7 => k_is); (case k8 => ktr_room); (case k9 => first | exact BindsTo.of_eq rfl | exact binds_K (by k_in) rfl (by k_is) rfl rfl rfl); (case c5 => decide); (case kB => exact locs rfl); (case c2 => exact rfl); (case c3 => exact rfl); (case c4 => exact rfl); k_whole; intro g' L' h' FG' F' N' B' X' T'; (try dsimp only); (try k_lift B'); (try k_fold))
  repeat' (first | (k_unfold; (try dsimp only)) | ((with_reducible show wpAny _ _ (execs (_ :: _) _) _ _ _); (first | (refine exCons s ?_; intro kS Pq hPq) | (refine exCons0 ?_; intro Pq hPq))) | (with_reducible refine Aft.next (by assumption) ?_) | (with_reducible refine Aft.ret (by assumption) ?_) | (with_reducible refine Aft.brk (by assumption) ?_) | (with_reducible refine Aft.cont (by assumption) ?_) | ((fail_if_success (with_reducible show wpAny _ _ (setItem _ _ _) _ _ _)); walk1) | fail "no step")
  (rename Fr _ _ _ _ => lF'); (rename News _ _ _ _ => lN'); (rename Frag.In _ _ => lX); (rename (_ ∧ _) => lt)
  have F9 := lF'.push (o := { cls := .type "slice", data := .fields #[.none, .none, .none] })
  have N9 := lN'.push lF' (o := { cls := .type "slice", data := .fields #[.none, .none, .none] })
  have hxd := ne_dx N (.head _) (.tail _ (.head _))
  have hx9 := Heap.lt_size (lN' _ (.tail _ (.head _))).1
  have N8 := cb_drop (news := (x, accO dx its nn) :: (dx, accDict w.params z tz k kk) :: (_, listOf #[] 0) :: (_, ({ cls := .type "slice", data := .fields #[.none, .none, .none] } : Obj)) :: rest) N9 (by k_allIn)
  refine set_cut (its' := #[]) (nl := 0) (new := #[]) (lo := none) F9 lX N8 (.head _) ?hP (N8 _ (.tail _ (.tail _ (.head _)))).1 ?hne ⟨_, (N8 _ (.tail _ (.tail _ (.tail _ (.head _))))).1, rfl, rfl⟩ .none (by omega) (by simp) (by simp) (cut_all _ _) ?_
  case hne => exact Nat.ne_of_gt lt.1
  case hP =>
    intro q hq
    rcases List.mem_cons.mp hq with rfl | hq
    · exact hxd.symm
    · rcases List.mem_cons.mp hq with rfl | hq
      · exact Nat.ne_of_gt lt.1
      · rcases List.mem_cons.mp hq with rfl | hq
        · exact Nat.ne_of_gt hx9
        · exact hPx q hq
  intro h5 nn5 F5 N5
  have hd9 := Heap.lt_size (lN' _ (.tail _ (.tail _ (.head _)))).1
  clear lN' lF' F9 N9 N8
  repeat' (first | (k_unfold; (try dsimp only)) | ((with_reducible show wpAny _ _ (execs (_ :: _) _) _ _ _); (first | (refine exCons s ?_; intro kS Pq hPq) | (refine exCons0 ?_; intro Pq hPq))) | (with_reducible refine Aft.next (by assumption) ?_) | (with_reducible refine Aft.ret (by assumption) ?_) | (with_reducible refine Aft.brk (by assumption) ?_) | (with_reducible refine Aft.cont (by assumption) ?_) | ((fail_if_success (with_reducible show wpAny _ _ (setAttr _ _ _) _ _ _)); walk1) | fail "no step")
  refine acc_set (es' := [⟨PyData.keyHash w.params (Str.ofString "_initial_size"), .str (Str.ofString "_initial_size") k, _⟩]) (n' := kk) F5 lX N5 hxd ?hQ rfl rfl rfl (by simp) ?_
  case hQ =>
    intro q hq
    rcases List.mem_cons.mp hq with rfl | hq
    · exact Nat.ne_of_gt lt.2.1
    · rcases List.mem_cons.mp hq with rfl | hq
      · exact Nat.ne_of_gt hd9
      · exact hPd q hq
  intro h6 F6 N6
  clear F5 N5
  repeat' (first | (k_unfold; (try dsimp only)) | ((with_reducible show wpAny _ _ (execs (_ :: _) _) _ _ _); (first | (refine exCons s ?_; intro kS Pq hPq) | (refine exCons0 ?_; intro Pq hPq))) | (with_reducible refine Aft.next (by assumption) ?_) | (with_reducible refine Aft.ret (by assumption) ?_) | (with_reducible refine Aft.brk (by assumption) ?_) | (with_reducible refine Aft.cont (by assumption) ?_) | (k_end; wrow_close) | walk1 | (dsimp only; walk1) | (leave1; try dsimp only) | fail "no step")
  rename News h₀ L _ _ => kN9
  exact hret _ _ _ _ (by assumption) (cb_drop kN9 (by k_allIn))
end
end Mine
end
section
open PySem PySem.W PyProof.Rows PySem.Calls PySem.Spec
set_option Elab.async false
namespace Mine
section
set_option maxRecDepth 100000 in
set_option maxHeartbeats 4000000 in
theorem reset1_claim (w : World) (mean : ExcName → Option Value) (mg mb : Str → Option Value) (x dx R : Addr) (its : Array Value) (v : Value) (nn nr : Nat) (z : Int) (tz k : Tok) (kk : Nat) (rest : List (Addr × Obj)) (hPx : ∀ q ∈ rest, q.1 ≠ x) (hPd : ∀ q ∈ rest, q.1 ≠ dx) :
  ∀ (dp un : Nat) (gd : Option (List Code)) (cn : Str) (cs : Scope) (a : Addr) (ccd : Value) (cl : List (Str × Addr)) (outer : List Env) (A₀ : Around) (base h₀ : Heap) (L : Addr) (m : Str → Option Value) (s : Shared) (Q E : Value → Shared → Prop) (p : Program) (loose : List Str),
    Below A₀ base outer h₀ → Fr h₀ L s.heap m → (hd.heap_39 w.params).In h₀ → News h₀ L s.heap ((x, accO dx its nn) :: (dx, accDict w.params z tz k kk) :: (R, listOf #[v] nr) :: rest) → Top p loose mean mg mb h₀ → cs.kind = .function →
    its.size ≤ 900 → dp + 20 < recursionLimit → un + 8 * 20 < cLine →
    (∀ h' tk' nn' tz', Fr h₀ L h' m → News h₀ L h' ((x, accO dx #[v] nn') :: (dx, accDict w.params 0 tz' k kk) :: (R, listOf #[v] nr) :: rest) → Q .none { s with heap := h', toks := tk' }) →
      wpAny (model Challenge.rw_sr0083_01.row.prog w) (ktrTop dp un gd cn cs L a ccd cl outer) (call (.ref 167) [.ref x, .ref R]) Q E s := by
  k_fill
  intro dp un gd cn cs a ccd cl outer A₀ base h₀ L m s Q E p loose B F X N T hk hsz hdp hu hret
  have hxd := ne_dx N (.head _) (.tail _ (.head _))
  have hxR : R ≠ x := by
    intro e
    have a := (N _ (.head _)).1
    have b := (N _ (.tail _ (.tail _ (.head _)))).1
    subst e
    dsimp only at a b
    rw [a] at b
    cases congrArg Obj.cls (Option.some.inj b)
  have hdR : R ≠ dx := by
    intro e
    have a := (N _ (.tail _ (.head _))).1
    have b := (N _ (.tail _ (.tail _ (.head _)))).1
    subst e
    dsimp only at a b
    rw [a] at b
    have := congrArg Obj.cls (Option.some.inj b)
    simp [dictOf] at this
  refine wpAny_call ?_
  k_dflt (refine' code_def ?k1 ?k2 ?k3 ?k4 ?k5 ?kA ?kF ?kK ?k6 ?k7 ?k8 ?k9 ?kB ?_ ?c2 ?c3 ?c4 ?c5; (case kA => exact rfl); (case kF => exact rfl); (case kK => assumption); (case k1 => k_asm); (case k2 => k_asm); (case k3 => k_asm); (case k4 => k_asm); (case k5 => k_asm); (case k6 => k_is); (case k7 => k_is); (case k8 => ktr_room); (case k9 => first | exact BindsTo.of_eq rfl | exact binds_K (by k_in) rfl (by k_is) rfl rfl rfl); (case c5 => decide); (case kB => exact locs rfl); (case c2 => exact rfl); (case c3 => exact rfl); (case c4 => exact rfl); k_whole; intro g' L' h' FG' F' N' B' X' T'; (try dsimp only); (try k_lift B'); (try k_fold))
  repeat' (first | (k_unfold; (try dsimp only)) | ((with_reducible show wpAny _ _ (execs (_ :: _) _) _ _ _); (first | (refine exCons s ?_; intro kS Pq hPq) | (refine exCons0 ?_; intro Pq hPq))) | (with_reducible refine Aft.next (by assumption) ?_) | (with_reducible refine Aft.ret (by assumption) ?_) | (with_reducible refine Aft.brk (by assumption) ?_) | (with_reducible refine Aft.cont (by assumption) ?_) | ((fail_if_success (with_reducible show wpAny _ _ (setItem _ _ _) _ _ _)); walk1) | fail "no step")
  (rename Fr _ _ _ _ => lF'); (rename News _ _ _ _ => lN'); (rename Frag.In _ _ => lX)
  have F9 := lF'.push (o := { cls := .type "slice", data := .fields #[.none, .none, .none] })
  have N9 := lN'.push lF' (o := { cls := .type "slice", data := .fields #[.none, .none, .none] })
  have hx9 := Heap.lt_size (lN' _ (.head _)).1
  have N8 := cb_drop (news := (x, accO dx its nn) :: (dx, accDict w.params z tz k kk) :: (_, listOf #[v] nr) :: (_, ({ cls := .type "slice", data := .fields #[.none, .none, .none] } : Obj)) :: rest) N9 (by k_allIn)
  refine set_cut (its' := #[v]) (nl := nr) (new := #[v]) (lo := none) F9 lX N8 (.head _) ?hP (N8 _ (.tail _ (.tail _ (.head _)))).1 hxR ⟨_, (N8 _ (.tail _ (.tail _ (.tail _ (.head _))))).1, rfl, rfl⟩ .none (by omega) (by simp) (by simp) (cut_all _ _) ?_
  case hP =>
    intro q hq
    rcases List.mem_cons.mp hq with rfl | hq
    · exact hxd.symm
    · rcases List.mem_cons.mp hq with rfl | hq
      · exact hxR
      · rcases List.mem_cons.mp hq with rfl | hq
        · exact Nat.ne_of_gt hx9
        · exact hPx q hq
  intro h5 nn5 F5 N5
  have hd9 := Heap.lt_size (lN' _ (.tail _ (.head _))).1
  clear lN' lF' F9 N9 N8
  repeat' (first | (k_unfold; (try dsimp only)) | ((with_reducible show wpAny _ _ (execs (_ :: _) _) _ _ _); (first | (refine exCons s ?_; intro kS Pq hPq) | (refine exCons0 ?_; intro Pq hPq))) | (with_reducible refine Aft.next (by assumption) ?_) | (with_reducible refine Aft.ret (by assumption) ?_) | (with_reducible refine Aft.brk (by assumption) ?_) | (with_reducible refine Aft.cont (by assumption) ?_) | ((fail_if_success (with_reducible show wpAny _ _ (setAttr _ _ _) _ _ _)); walk1) | fail "no step")
  refine acc_set (es' := [⟨PyData.keyHash w.params (Str.ofString "_initial_size"), .str (Str.ofString "_initial_size") k, _⟩]) (n' := kk) F5 lX N5 hxd ?hQ rfl rfl rfl (by simp) ?_
  case hQ =>
    intro q hq
    rcases List.mem_cons.mp hq with rfl | hq
    · exact hdR
    · rcases List.mem_cons.mp hq with rfl | hq
      · exact Nat.ne_of_gt hd9
      · exact hPd q hq
  intro h6 F6 N6
  clear F5 N5
  repeat' (first | (k_unfold; (try dsimp only)) | ((with_reducible show wpAny _ _ (execs (_ :: _) _) _ _ _); (first | (refine exCons s ?_; intro kS Pq hPq) | (refine exCons0 ?_; intro Pq hPq))) | (with_reducible refine Aft.next (by assumption) ?_) | (with_reducible refine Aft.ret (by assumption) ?_) | (with_reducible refine Aft.brk (by assumption) ?_) | (with_reducible refine Aft.cont (by assumption) ?_) | (k_end; wrow_close) | walk1 | (dsimp only; walk1) | (leave1; try dsimp only) | fail "no step")
  rename News h₀ L _ _ => kN9
  exact hret _ _ _ _ (by assumption) (cb_drop kN9 (by k_allIn))
set_option maxRecDepth 100000 in
set_option maxHeartbeats 4000000 in
theorem popfrom_claim (w : World) (mean : ExcName → Option Value) (mg mb : Str → Option Value) (x dx : Addr) (its' : Array Value) (v : Value) (nn : Nat) (z : Int) (tz k ti : Tok) (kk : Nat) (rest : List (Addr × Obj)) (hdx : (dx, accDict w.params z tz k kk) ∈ rest) (hP : ∀ q ∈ rest, q.1 ≠ x) :
  ∀ (dp un : Nat) (gd : Option (List Code)) (cn : Str) (cs : Scope) (a : Addr) (ccd : Value) (cl : List (Str × Addr)) (outer : List Env) (A₀ : Around) (base h₀ : Heap) (L : Addr) (m : Str → Option Value) (s : Shared) (Q E : Value → Shared → Prop) (p : Program) (loose : List Str),
    Below A₀ base outer h₀ → Fr h₀ L s.heap m → (hd.heap_39 w.params).In h₀ → News h₀ L s.heap ((x, accO dx (its'.push v) nn) :: rest) → Top p loose mean mg mb h₀ → cs.kind = .function →
    its'.size ≤ 900 → dp + 20 < recursionLimit → un + 8 * 20 < cLine →
    (∀ R h' tk' nn', Fr h₀ L h' m → News h₀ L h' ((x, accO dx its' nn') :: (R, listOf #[v] 0) :: rest) → (∀ q ∈ (x, accO dx (its'.push v) nn) :: rest, q.1 < R) → Q (.ref R) { s with heap := h', toks := tk' }) →
      wpAny (model Challenge.rw_sr0083_01.row.prog w) (ktrTop dp un gd cn cs L a ccd cl outer) (call (.ref 137) [.ref x, .int its'.size ti]) Q E s := by
  k_fill
  intro dp un gd cn cs a ccd cl outer A₀ base h₀ L m s Q E p loose B F X N T hk hsz hdp hu hret
  refine wpAny_call ?_
  k_dflt (refine' code_def ?k1 ?k2 ?k3 ?k4 ?k5 ?kA ?kF ?kK ?k6 ?k7 ?k8 ?k9 ?kB ?_ ?c2 ?c3 ?c4 ?c5; (case kA => exact rfl); (case kF => exact rfl); (case kK => assumption); (case k1 => k_asm); (case k2 => k_asm); (case k3 => k_asm); (case k4 => k_asm); (case k5 => k_asm); (case k6 => k_is); (case k7 => k_is); (case k8 => ktr_room); (case k9 => first | exact BindsTo.of_eq rfl | exact binds_K (by k_in) rfl (by k_is) rfl rfl rfl); (case c5 => decide); (case kB => exact locs rfl); (case c2 => exact rfl); (case c3 => exact rfl); (case c4 => exact rfl); k_whole; intro g' L' h' FG' F' N' B' X' T'; (try dsimp only); (try k_lift B'); (try k_fold))
  repeat' (first | (k_unfold; (try dsimp only)) | ((with_reducible show wpAny _ _ (execs (_ :: _) _) _ _ _); (first | (refine exCons s ?_; intro kS Pq hPq) | (refine exCons0 ?_; intro Pq hPq))) | (with_reducible refine Aft.next (by assumption) ?_) | (with_reducible refine Aft.ret (by assumption) ?_) | (with_reducible refine Aft.brk (by assumption) ?_) | (with_reducible refine Aft.cont (by assumption) ?_) | ((fail_if_success (with_reducible show wpAny _ _ (subscriptTail _ _ _ _) _ _ _)); walk1) | fail "no step")
  (rename Fr _ _ _ _ => lF'); (rename News _ _ _ _ => lN'); (rename Frag.In _ _ => lX)
  have F9 := lF'.push (o := { cls := .type "slice", data := .fields #[.int its'.size ti, .none, .none] })
  have N9 := lN'.push lF' (o := { cls := .type "slice", data := .fields #[.int its'.size ti, .none, .none] })
  have O9 : ∀ q ∈ (x, accO dx (its'.push v) nn) :: rest, @LT.lt Nat _ q.1 _ := fun q hq => Heap.lt_size (lN' q hq).1
  refine tail_sub F9 lX (accO_inst N9 (.tail _ (.head _)) (.tail _ (.tail _ hdx))) (by with_unfolding_all rfl) ?_
  refine get_cut F9 lX (accO_inst N9 (.tail _ (.head _)) (.tail _ (.tail _ hdx))) ⟨_, (N9 _ (.head _)).1, rfl, rfl⟩ (.int _ _) (by rw [Array.size_push]; omega) ?_
  rw [pick_last]
  have F8 := F9.push (o := listOf #[v] 0)
  have N8 := N9.push F9 (o := listOf #[v] 0)
  have O8 : ∀ q ∈ (x, accO dx (its'.push v) nn) :: rest, @LT.lt Nat _ q.1 _ := fun q hq => Heap.lt_size (N9 q (.tail _ hq)).1
  clear lF' lN' F9 N9
  repeat' (first | (k_unfold; (try dsimp only)) | ((with_reducible show wpAny _ _ (execs (_ :: _) _) _ _ _); (first | (refine exCons s ?_; intro kS Pq hPq) | (refine exCons0 ?_; intro Pq hPq))) | (with_reducible refine Aft.next (by assumption) ?_) | (with_reducible refine Aft.ret (by assumption) ?_) | (with_reducible refine Aft.brk (by assumption) ?_) | (with_reducible refine Aft.cont (by assumption) ?_) | ((fail_if_success (with_reducible show wpAny _ _ (setItem _ _ _) _ _ _)); walk1) | fail "no step")
  (rename Fr _ _ _ _ => lF'); (rename News _ _ _ _ => lN'); (rename (_ ∧ _) => lt)
  have F9 := lF'.push (o := { cls := .type "slice", data := .fields #[.int its'.size ti, .none, .none] })
  have N9 := lN'.push lF' (o := { cls := .type "slice", data := .fields #[.int its'.size ti, .none, .none] })
  have N7 := cb_drop (news := (x, accO dx (its'.push v) nn) :: (_, listOf #[v] 0) :: (_, listOf #[] 0) :: (_, ({ cls := .type "slice", data := .fields #[.int its'.size ti, .none, .none] } : Obj)) :: rest) N9 (by k_allIn)
  have hx9 := Heap.lt_size (lN' _ (.tail _ (.tail _ (.tail _ (.head _))))).1
  refine set_cut (its' := its') (nl := 0) (new := #[]) (lo := some its'.size) F9 lX N7 (.tail _ (.tail _ (.tail _ hdx))) ?hP (N7 _ (.tail _ (.tail _ (.head _)))).1 (Nat.ne_of_gt lt.2.2.1) ⟨_, (N7 _ (.tail _ (.tail _ (.tail _ (.head _))))).1, rfl, rfl⟩ (.int _ _) (by rw [Array.size_push]; omega) (by omega) (by simp) (cut_last _ _) ?_
  case hP =>
    intro q hq
    rcases List.mem_cons.mp hq with rfl | hq
    · exact Nat.ne_of_gt (O8 _ (.head _))
    · rcases List.mem_cons.mp hq with rfl | hq
      · exact Nat.ne_of_gt lt.2.2.1
      · rcases List.mem_cons.mp hq with rfl | hq
        · exact Nat.ne_of_gt hx9
        · exact hP q hq
  intro h5 nn5 F5 N5
  clear lN' lF' F9 N9 N7
  repeat' (first | (k_unfold; (try dsimp only)) | ((with_reducible show wpAny _ _ (execs (_ :: _) _) _ _ _); (first | (refine exCons s ?_; intro kS Pq hPq) | (refine exCons0 ?_; intro Pq hPq))) | (with_reducible refine Aft.next (by assumption) ?_) | (with_reducible refine Aft.ret (by assumption) ?_) | (with_reducible refine Aft.brk (by assumption) ?_) | (with_reducible refine Aft.cont (by assumption) ?_) | (k_end; wrow_close) | walk1 | (dsimp only; walk1) | (leave1; try dsimp only) | fail "no step")
  rename News h₀ L _ _ => kN9
  exact hret _ _ _ _ (by assumption) (cb_drop kN9 (by k_allIn)) O8
end
end Mine
end
section
open PySem PySem.W PyProof.Rows PySem.Calls PySem.Spec
set_option Elab.async false
namespace Mine
set_option maxRecDepth 100000
section
variable {prog : Program} {w : World} {A : Around} {E : Value → Shared → Prop} {s : Shared} {K : Frag} {x C f L : Addr} {ox : Obj} {od : Option Obj} {h₀ : Heap} {m : Str → Option Value}
theorem truthy_len {Q : Bool → Shared → Prop} (F : Fr h₀ L s.heap m) (X₀ : K.In h₀) (I : InstAt s.heap x ox C od) (hb : findIn K (.ref C) "__bool__" = some none) (hs : findIn K (.ref C) "__len__" = some (some (.ref f))) (hf : isFn K (.ref f) = true)
    (h : wpAny (model prog w) A.in1 (call (.ref f) [.ref x]) (fun v s' => ∃ n t, v = .int n t ∧ 0 ≤ n ∧ n < 2 ^ 63 ∧ Q (n != 0) { s' with toks := s'.toks + 1 }) E s) : wpAny (model prog w) A (truthy (.ref x)) Q E s := by
  have X := X₀.keeps F.keep
  unfold truthy
  refine wpAny_bind (m := callSpecial? (.ref x) (Str.ofString "__bool__")) (wpAny_bind (wpAny_bind (I.type.here ((looks_findIn X hb).here (wpAny_pure ?_)))))
  refine wpAny_bind (wpAny_bind (I.type.here ((looks_findIn X hs).here ?_)))
  simp only [Option.isNone_some, Bool.false_eq_true, if_false]
  refine wpAny_bind (wpAny_runValue (codeAny_builtin entry_len ?_))
  rw [Around.under_plainId plain_len _]
  unfold Builtin.«len»
  refine wpAny_bind (m := oneArg "len" _) (wpAny_pure ?_)
  refine wpAny_bind (m := callSpecial? (.ref x) (Str.ofString "__len__")) (special_fn X I hs (beq_iff_eq.mp hf) (wpAny_mono h (fun r s' hr => ?_) fun _ _ y => y))
  obtain ⟨n, u, rfl, h0, h1, hq⟩ := hr
  refine wpAny_bind (wpAny_holding (wpAny_pure ?_))
  refine wpAny_bind (wpAny_letGo ?_)
  show wpAny _ _ (if n < 0 then _ else _) _ _ _
  rw [if_neg (by omega)]
  show wpAny _ _ (if n ≥ 2 ^ 63 then _ else _) _ _ _
  rw [if_neg (by omega)]
  exact wpAny_bind (wpAny_mkInt (wpAny_pure (wpAny_pure hq)))
end
section
set_option maxRecDepth 100000 in
set_option maxHeartbeats 4000000 in
theorem onlyZ_claim (w : World) (mean : ExcName → Option Value) (mg mb : Str → Option Value) (x dx : Addr) (its : Array Value) (nn : Nat) (z : Int) (tz k : Tok) (kk : Nat) (news : List (Addr × Obj)) (hx : (x, accO dx its nn) ∈ news) (hdx : (dx, accDict w.params z tz k kk) ∈ news) :
  ∀ (dp un : Nat) (gd : Option (List Code)) (cn : Str) (cs : Scope) (a : Addr) (ccd : Value) (cl : List (Str × Addr)) (outer : List Env) (A₀ : Around) (base h₀ : Heap) (L : Addr) (m : Str → Option Value) (s : Shared) (Q E : Value → Shared → Prop) (p : Program) (loose : List Str),
    Below A₀ base outer h₀ → Fr h₀ L s.heap m → (hd.heap_39 w.params).In h₀ → News h₀ L s.heap (news) → Top p loose mean mg mb h₀ → cs.kind = .function →
    z ≠ 0 → dp + 20 < recursionLimit → un + 8 * 20 < cLine →
    (∀ h' tk', Fr h₀ L h' m → News h₀ L h' news → Q (.bool false) { s with heap := h', toks := tk' }) →
      wpAny (model Challenge.rw_sr0083_01.row.prog w) (ktrTop dp un gd cn cs L a ccd cl outer) (call (.ref 174) [.ref x]) Q E s := by
  k_fill
  intro dp un gd cn cs a ccd cl outer A₀ base h₀ L m s Q E p loose B F X N T hk hz hdp hu hret
  refine wpAny_call ?_
  k_dflt cell_enter
  repeat' (first | (k_unfold; (try dsimp only)) | ((with_reducible show wpAny _ _ (execs (_ :: _) _) _ _ _); (first | (refine exCons s ?_; intro kS Pq hPq) | (refine exCons0 ?_; intro Pq hPq))) | (with_reducible refine Aft.next (by assumption) ?_) | (with_reducible refine Aft.ret (by assumption) ?_) | (with_reducible refine Aft.brk (by assumption) ?_) | (with_reducible refine Aft.cont (by assumption) ?_) | ((fail_if_success (with_reducible show wpAny _ _ (getAttr _ _ _) _ _ _)); walk1) | fail "no step")
  (rename Fr _ _ _ _ => lF'); (rename News _ _ _ _ => lN'); (rename Frag.In _ _ => lX)
  refine get_sub (lX.keeps lF'.keep) (accO_inst lN' hx hdx) (by kernel_rfl) (by kernel_rfl) (by kernel_rfl) (findObj_own (attr := none) (by kernel_rfl) (by kernel_rfl) rfl rfl) rfl ?_
  repeat' (first | (k_unfold; (try dsimp only)) | ((with_reducible show wpAny _ _ (execs (_ :: _) _) _ _ _); (first | (refine exCons s ?_; intro kS Pq hPq) | (refine exCons0 ?_; intro Pq hPq))) | (with_reducible refine Aft.next (by assumption) ?_) | (with_reducible refine Aft.ret (by assumption) ?_) | (with_reducible refine Aft.brk (by assumption) ?_) | (with_reducible refine Aft.cont (by assumption) ?_) | (k_end; wrow_close) | walk1 | (dsimp only; walk1) | (leave1; try dsimp only) | fail "no step")
  · exact absurd (by assumption) hz
  · have e : (z == 0) = false := by simpa using hz
    rw [e]
    exact hret _ _ (by assumption) (by assumption)
set_option maxRecDepth 100000 in
set_option maxHeartbeats 4000000 in
theorem onlyT_claim (w : World) (mean : ExcName → Option Value) (mg mb : Str → Option Value) (x dx : Addr) (ds : List Part) (nn : Nat) (tz k : Tok) (kk : Nat) (p1 p2 : Array Value) (rest : List (Addr × Obj)) (hx : (x, accObj dx ds nn) ∈ rest) (hdx : (dx, accDict w.params 0 tz k kk) ∈ rest) (hds : PartsIn rest ds) (htr1 : TriplesOk p1.toList) (htr2 : TriplesOk p2.toList) (hP1 : ∀ q ∈ rest, q.1 ≠ 147) (hP2 : ∀ q ∈ rest, q.1 ≠ 154) :
  ∀ (dp un : Nat) (gd : Option (List Code)) (cn : Str) (cs : Scope) (a : Addr) (ccd : Value) (cl : List (Str × Addr)) (outer : List Env) (A₀ : Around) (base h₀ : Heap) (L : Addr) (m : Str → Option Value) (s : Shared) (Q E : Value → Shared → Prop) (p : Program) (loose : List Str),
    Below A₀ base outer h₀ → Fr h₀ L s.heap m → (hd.heap_39 w.params).In h₀ → News h₀ L s.heap ((147, tabObj p1) :: (154, tabObj p2) :: rest) → Top p loose mean mg mb h₀ → cs.kind = .function → AllBare s.gens →
    (ds.length ≤ 100 ∧ ∀ d ∈ ds, d.f.length ≤ 100 ∧ d.p.length ≤ 100) → 0 < (ds.map partLen).sum → (ds.map partLen).sum ≤ 100000 → Txt.isspace (Txt.join (Str.ofString "") (ds.map partText)) = false → dp + 20 < recursionLimit → un + 8 * 20 < cLine →
    (∀ (s' : Shared) p1' p2', Fr h₀ L s'.heap m → News h₀ L s'.heap ((147, tabObj p1') :: (154, tabObj p2') :: rest) → TriplesOk p1'.toList → TriplesOk p2'.toList → AllBare s'.gens → s'.os = s.os → s'.drawn = s.drawn → Q (.bool false) s') →
      wpAny (model Challenge.rw_sr0083_01.row.prog w) (ktrTop dp un gd cn cs L a ccd cl outer) (call (.ref 174) [.ref x]) Q E s := by
  k_fill
  intro dp un gd cn cs a ccd cl outer A₀ base h₀ L m s Q E p loose B F X N T hk hbare hb hpos hsum hsp hdp hu hret
  refine wpAny_call ?_
  k_dflt cell_enter
  repeat' (first | (k_unfold; (try dsimp only)) | ((with_reducible show wpAny _ _ (execs (_ :: _) _) _ _ _); (first | (refine exCons s ?_; intro kS Pq hPq) | (refine exCons0 ?_; intro Pq hPq))) | (with_reducible refine Aft.next (by assumption) ?_) | (with_reducible refine Aft.ret (by assumption) ?_) | (with_reducible refine Aft.brk (by assumption) ?_) | (with_reducible refine Aft.cont (by assumption) ?_) | ((fail_if_success (with_reducible show wpAny _ _ (getAttr _ _ _) _ _ _)); walk1) | fail "no step")
  (rename Fr _ _ _ _ => lF'); (rename News _ _ _ _ => lN'); (rename Frag.In _ _ => lX); (rename Top _ _ _ _ _ _ => lT); (rename Below _ _ _ _ => lB)
  refine acc_attr lF' lX lN' (.tail _ (.tail _ hx)) (.tail _ (.tail _ hdx)) ?_
  repeat' (first | (k_unfold; (try dsimp only)) | ((with_reducible show wpAny _ _ (execs (_ :: _) _) _ _ _); (first | (refine exCons s ?_; intro kS Pq hPq) | (refine exCons0 ?_; intro Pq hPq))) | (with_reducible refine Aft.next (by assumption) ?_) | (with_reducible refine Aft.ret (by assumption) ?_) | (with_reducible refine Aft.brk (by assumption) ?_) | (with_reducible refine Aft.cont (by assumption) ?_) | ((fail_if_success (with_reducible show wpAny _ _ (truthy (Value.ref _)) _ _ _)); walk1) | fail "no step")
  refine truthy_len (f := 152) lF' lX (acc_inst (ds := ds) lN' (.tail _ (.tail _ hx)) (.tail _ (.tail _ hdx))) (by kernel_rfl) (by kernel_rfl) (by kernel_rfl) ?_
  refine len_claim w mean mg mb x dx ds nn 0 tz k kk p1 ((154, tabObj p2) :: rest) (.tail _ hx) (.tail _ hdx) (fun d h => .tail _ (hds d h)) htr1 ?hP _ _ _ _ _ _ _ _ _ _ _ _ _ _ _ _ _ _ _ lB lF' lX lN' lT rfl hbare hb (by show dp + 1 + 10 < _; omega) (by show un + 3 + 1 + 8 * 10 < _; omega) ?_
  case hP =>
    intro q hq
    rcases List.mem_cons.mp hq with rfl | hq
    · exact (by decide : (154 : Addr) ≠ 147)
    · exact hP1 q hq
  intro t9 s9 pt9 F9 N9 htr9 hb9 ho9 hd9
  refine ⟨_, _, rfl, by omega, by omega, ?_⟩
  have hne : ((0 + (ds.map partLen).sum) != 0) = true := by simp only [bne_iff_ne, ne_eq]; omega
  rw [hne]
  clear lF' lN'
  repeat' (first | (k_unfold; (try dsimp only)) | ((with_reducible show wpAny _ _ (execs (_ :: _) _) _ _ _); (first | (refine exCons s9 ?_; intro kS Pq hPq) | (refine exCons0 ?_; intro Pq hPq))) | (with_reducible refine Aft.next (by assumption) ?_) | (with_reducible refine Aft.ret (by assumption) ?_) | (with_reducible refine Aft.brk (by assumption) ?_) | (with_reducible refine Aft.cont (by assumption) ?_) | ((fail_if_success (with_reducible show wpAny _ _ (call (Value.type _) _) _ _ _)); walk1) | fail "no step")
  refine kso_call (K := hd.heap_39 w.params) (f := 159) ?hu (lX.keeps F9.keep) (acc_inst (s := { s9 with toks := _ }) (ds := ds) N9 (.tail _ (.tail _ hx)) (.tail _ (.tail _ hdx))) (by kernel_rfl) (by kernel_rfl) ?_
  case hu => ktr_units
  refine str_claim w mean mg mb x dx ds nn 0 tz k kk p2 ((147, tabObj pt9) :: rest) (.tail _ hx) (.tail _ hdx) (fun d h => .tail _ (hds d h)) htr2 ?hP _ _ _ _ _ _ _ _ _ _ _ _ _ _ _ _ _ _ _ lB F9 lX (swap2 N9) lT rfl hb9 hb (by show dp + 1 + 10 < _; omega) (by show un + 3 + 2 + 8 * 10 < _; omega) ?_
  case hP =>
    intro q hq
    rcases List.mem_cons.mp hq with rfl | hq
    · exact (by decide : (147 : Addr) ≠ 154)
    · exact hP2 q hq
  intro t8 s8 pt8 F8 N8 htr8 hb8 ho8 hd8
  clear F9 N9
  dsimp only [StrBack]
  repeat' (first | (k_unfold; (try dsimp only)) | ((with_reducible show wpAny _ _ (execs (_ :: _) _) _ _ _); (first | (refine exCons s8 ?_; intro kS Pq hPq) | (refine exCons0 ?_; intro Pq hPq))) | (with_reducible refine Aft.next (by assumption) ?_) | (with_reducible refine Aft.ret (by assumption) ?_) | (with_reducible refine Aft.brk (by assumption) ?_) | (with_reducible refine Aft.cont (by assumption) ?_) | ((fail_if_success (with_reducible show wpAny _ _ (call (Value.builtin _) _) _ _ _)); walk1) | fail "no step")
  refine KXw.isspace (b := false) hsp ?_
  repeat' (first | (k_unfold; (try dsimp only)) | ((with_reducible show wpAny _ _ (execs (_ :: _) _) _ _ _); (first | (refine exCons s8 ?_; intro kS Pq hPq) | (refine exCons0 ?_; intro Pq hPq))) | (with_reducible refine Aft.next (by assumption) ?_) | (with_reducible refine Aft.ret (by assumption) ?_) | (with_reducible refine Aft.brk (by assumption) ?_) | (with_reducible refine Aft.cont (by assumption) ?_) | (k_end; wrow_close) | walk1 | (dsimp only; walk1) | (leave1; try dsimp only) | fail "no step")
  rename News h₀ L _ _ => kN9
  exact hret s8 pt9 pt8 (by assumption) (swap2 kN9) htr9 htr8 hb8 (ho8.trans ho9) (hd8.trans hd9)
end
end Mine
end
section
open PySem PySem.W PyProof.Rows PySem.Calls PySem.Spec Builtin Builtin.ObjectAttr
set_option Elab.async false
set_option maxRecDepth 100000
namespace Mine
noncomputable def newIs (K : Frag) (C : Addr) (id : String) : Bool := match K.lookup C with
  | some ⟨_, _, .cls cd, sl⟩ => !cd.abstract && !cd.hasDel && (sl.toList[4]?).join == some (.builtin id) && !cd.mro.isEmpty
  | _ => false
theorem new185 (P : Params) : newIs (hd.heap_39 P) 185 "list.__new__" = true := by kernel_rfl
theorem call185 (P : Params) : specialIn (hd.heap_39 P) (.ref 185) "__call__" = some (some (.builtin "type.__call__")) := by kernel_rfl
theorem inst185 (P : Params) : instIn (hd.heap_39 P) (.ref 185) (.type "type") = some true := by kernel_rfl
theorem self185 (P : Params) : mroIn (hd.heap_39 P) 185 (.ref 185) = some true := by kernel_rfl
theorem list185 (P : Params) : mroIn (hd.heap_39 P) 185 (.type "list") = some true := by kernel_rfl
theorem init185 (P : Params) : findIn (hd.heap_39 P) (.ref 185) "__init__" = some (some (.ref 122)) := by kernel_rfl
theorem list_new_kind : builtinKind "list.__new__" = some .builtinFn := by decide +kernel
theorem list_new_split : splitId "list.__new__" = some ("list", "__new__") := by decide +kernel
theorem list_new_sig : ∃ sig, Manifest.signature? "list.__new__" = sig ∧ True := ⟨_, rfl, trivial⟩
theorem mro185 (P : Params) : (clsIn (hd.heap_39 P) 185).map (·.mro) = some [.ref 185, .type "list", .type "object"] := by kernel_rfl
structure Is185 (M : Model) (hp : Heap) : Prop where
  obj : ∃ oc od cd sl, hp.get? 185 = some ⟨oc, od, .cls cd, sl⟩ ∧ cd.abstract = false ∧ cd.hasDel = false ∧ cd.mro = [.ref 185, .type "list", .type "object"]
  made : Looks M hp (Bind.madeBy (.ref 185)) (some "list.__new__")
  base : Looks M hp (Bind.staticBase (.ref 185)) (.ref 185)
  sub : Looks M hp (isSubtype (.ref 185) (.type "list")) true
  self : Looks M hp (isSubtype (.ref 185) (.ref 185)) true
  typ : Looks M hp (isInstance (.ref 185) (.type "type")) true
  call : Looks M hp (specialOf (.ref 185) "__call__") (some (.builtin "type.__call__"))
  init : Looks M hp (typeLookup (.ref 185) "__init__") (some (.ref 122))
theorem is185 {M : Model} {hp : Heap} {P : Params} (X : (hd.heap_39 P).In hp) : Is185 M hp := by
  have e := new185 P
  unfold newIs at e
  split at e
  · rename_i oc od cd sl ho
    simp only [Bool.and_eq_true, Bool.not_eq_true', beq_iff_eq] at e
    obtain ⟨⟨⟨e1, e2⟩, e3⟩, -⟩ := e
    have hC := X _ _ ho
    have hc : clsIn (hd.heap_39 P) 185 = some cd := by unfold clsIn; rw [ho]
    have hmro : cd.mro = [.ref 185, .type "list", .type "object"] := by
      have z := mro185 P
      rw [hc] at z
      exact Option.some.inj z
    have hm : Looks M hp (mroOf (.ref 185)) [.ref 185, .type "list", .type "object"] := by
      have z : Looks M hp (mroOf (.ref 185)) cd.mro := (looks_clsIn X hc).andThen .now
      rwa [hmro] at z
    have hsl : Looks M hp (slotAt 185 4) (some (.builtin "list.__new__")) := by
      have z : Looks M hp (slotAt 185 4) (sl[4]?).join := (Looks.ld hC).andThen .now
      rw [← Array.getElem?_toList, e3] at z
      exact z
    have made : Looks M hp (Bind.madeBy (.ref 185)) (some "list.__new__") := by
      unfold Bind.madeBy
      refine hm.andThen ?_
      simp only [List.forIn_cons]
      exact Looks.andThen (Looks.andThen (Looks.andThen hsl .now) .now) .now
    have base : Looks M hp (Bind.staticBase (.ref 185)) (.ref 185) := by
      unfold Bind.staticBase
      refine hm.andThen ?_
      simp only [List.forIn_cons]
      exact Looks.andThen (Looks.andThen (Looks.andThen made .now) .now) .now
    exact ⟨⟨_, _, _, _, hC, e1, e2, hmro⟩, made, base, looks_mroIn X (list185 _), looks_mroIn X (self185 _), looks_instIn X (inst185 _), looks_specialIn X (call185 _), looks_findIn X (init185 _)⟩
  · cases e
section
variable {w : World} {A : Around} {E : Value → Shared → Prop} {s : Shared} {x dx sl L : Addr} {its : Array Value} {nn : Nat} {h₀ : Heap} {m : Str → Option Value} {news rest : List (Addr × Obj)} {od : Obj} {R : Result → Shared → Prop}
theorem new_check {v : Value} {Q : Unit → Shared → Prop} (X : (hd.heap_39 w.params).In s.heap) (h : Q () s) : wpAny (model Challenge.rw_sr0083_01.row.prog w) A (checkBuiltinCall "list.__new__" ⟨[.ref 185, v], []⟩) Q E s := by
  obtain ⟨hp, gs, d, t, os⟩ := s
  obtain ⟨⟨oc, od, cd, sl, hC, -, -, -⟩, made, base, sub, -, typ, -, -⟩ := is185 (M := model Challenge.rw_sr0083_01.row.prog w) X
  simp only [checkBuiltinCall, list_new_kind, list_new_split]
  repeat (first | simp only [bne_self_eq_false, Bool.false_eq_true, if_false, Bool.not_true] | lk)
  exact h
theorem acc_new {v : Value} (X : (hd.heap_39 w.params).In s.heap)
    (h : R (.ok (.ret (.ref (s.heap.objs.size + 1)))) { s with heap := (s.heap.push emptyDict).push (accO s.heap.objs.size #[] 0) }) :
    codeAny (model Challenge.rw_sr0083_01.row.prog w) A (.call (.builtin "list.__new__") ⟨[.ref 185, v], []⟩) R s := by
  refine codeAny_of_tree ?_
  show wpAny _ A.in1 (do checkBuiltinCall "list.__new__" ⟨[.ref 185, v], []⟩; again (.builtin "list.__new__" ⟨[.ref 185, v], []⟩)) _ _ s
  refine wpAny_bind (new_check X (wpAny_pure ⟨plainId_quiet PySem.F.plain_list_new _, codeAny_builtin_stack PySem.F.entry_list_new rfl fun p st => ?_⟩))
  rw [Around.under_plainId PySem.F.plain_list_new _]
  obtain ⟨hp, g, d, tk, os⟩ := s
  obtain ⟨⟨oc, od, cd, sl, hC, e1, e2, -⟩, made, base, sub, -, typ, -, -⟩ := is185 (M := model Challenge.rw_sr0083_01.row.prog w) X
  have hown := owner_list_new
  simp only [hown]
  repeat (first | (with_reducible refine Looks.at sub ?_) | ((fail_if_success (with_reducible show wpAny _ _ (newObj (.ref 185) _ _) _ _ _)); wp_step))
  have hz : ¬ ((#[] : Array Value).size > sizeLine) := by rw [sizeLine_eq]; simp
  unfold newObj
  dsimp only
  rw [if_neg hz]
  unfold newObjAsIs classHasDel
  refine wpAny_bind (wpAny_alloc (wpAny_bind (wpAny_bind (wpAny_load (Heap.get?_push_of_some _ (Heap.get?_push_of_some _ hC)) (wpAny_pure ?_)))))
  rw [e2]
  refine wpAny_pure (wpAny_pure ?_)
  show R _ _
  rw [Heap.size_push]
  exact h
theorem acc_make {v : Value} {Q : Value → Shared → Prop} (F : Fr h₀ L s.heap m) (X₀ : (hd.heap_39 w.params).In h₀) (N : News h₀ L s.heap news)
    (h : ∀ x dx h', Fr h₀ L h' m → News h₀ L h' ((x, accO dx #[] 0) :: (dx, dictOf [] 0) :: news) → (∀ p ∈ news, p.1 < dx) → dx < x →
      codeAny (model Challenge.rw_sr0083_01.row.prog w) (A.under (.builtin "type.__call__" ⟨[.ref 185, v], []⟩)) (.call (.ref 122) ⟨[.ref x, v], []⟩) (InitBack x fun r s' => match r with | .ok (.ret v) => Q v s' | .ok _ => False | .error e => E e s') { s with heap := h' }) :
    wpAny (model Challenge.rw_sr0083_01.row.prog w) A (call (.ref 185) [v]) Q E s := by
  obtain ⟨hp, g, d, t, os⟩ := s
  have X := X₀.keeps F.keep
  obtain ⟨⟨oc, od, cd, sl, hC, e1, e2, e3⟩, made, base, sub, self, typ, callL, initL⟩ := is185 (M := model Challenge.rw_sr0083_01.row.prog w) X
  have hm : Looks (model Challenge.rw_sr0083_01.row.prog w) hp (mroOf (.ref 185)) cd.mro := ((Looks.ld (part := none) hC).andThen .now).andThen .now
  have e4 : cd.mro.isEmpty = false := by rw [e3]; rfl
  refine wpAny_call (codeAny_of_tree ?_)
  show wpAny _ _ (callAny (.ref 185) _) _ _ _
  refine nd_load hC ?_
  show wpAny _ _ (callAny.viaDunder (.ref 185) _) _ _ _
  unfold callAny.viaDunder
  refine wpAny_bind (callL.at ?_)
  dsimp only
  rw [tc_bind]
  refine wpAny_bind (wpAny_pure (wpAny_bind (wpAny_pure ?_)))
  refine wpAny_pure (a := Fin.again (.call (.builtin "type.__call__") ⟨[.ref 185, v], []⟩)) (And.intro rfl ?_)
  refine codeAny_call_builtin_at (Code.quiet_builtin _ (by decide +kernel)) entry_typeCall (check_slot tc_kind tc_split typ (tc_args _ _ _) ?_)
  unfold Builtin.«type.__call__»
  repeat (first | simp only [e4, Bool.false_eq_true, if_false] | with_reducible refine wpAny_call ?_ | lk)
  refine acc_new X ?_
  have hN' := (N.push F emptyDict).push (F.push _) (accO hp.objs.size #[] 0)
  rw [Heap.size_push] at hN'
  have z := h _ hp.objs.size _ ((F.push _).push _) hN' (fun p hp => Heap.lt_size (N p hp).1) (Nat.lt_succ_self _)
  have kp : ∀ b o, hp.get? b = some o → ((hp.push emptyDict).push (accO hp.objs.size #[] 0)).get? b = some o := fun b o e => Heap.get?_push_of_some _ (Heap.get?_push_of_some _ e)
  have t1 : Looks (model Challenge.rw_sr0083_01.row.prog w) ((hp.push emptyDict).push (accO hp.objs.size #[] 0)) (typeOf (.ref (hp.objs.size + 1))) (.ref 185) := (Looks.ld (hN' _ (.head _)).1).andThen .now
  have s1 := self.keeps kp
  have i1 := initL.keeps kp
  have b1 := bind_fn (M := model Challenge.rw_sr0083_01.row.prog w) (fun a o q => kp a o (X a o q)) (.ref (hp.objs.size + 1)) (f := 122) (by kernel_rfl : typeIn (hd.heap_39 w.params) (.ref 122) = some (.type "function"))
  unfold isInstance callSpecial? specialOf
  repeat (first | with_reducible refine wpAny_call ?_ | lk)
  refine codeAny_mono z fun r s' z => ?_
  rcases r with e | (v | _ | _ | _) <;> first | exact z | exact z.elim | skip
  obtain ⟨rfl, z⟩ := z
  exact wpAny_pure (wpAny_pure z)
end
end Mine
end
section
open PySem PySem.W PyProof.Rows PySem.Calls PySem.Spec
set_option Elab.async false
namespace Mine
section
set_option maxRecDepth 100000 in
set_option maxHeartbeats 4000000 in
theorem accmake_claim (w : World) (mean : ExcName → Option Value) (mg mb : Str → Option Value) (z : Int) (t1 : Tok) (news : List (Addr × Obj))  :
  ∀ (dp un : Nat) (gd : Option (List Code)) (cn : Str) (cs : Scope) (a : Addr) (ccd : Value) (cl : List (Str × Addr)) (outer : List Env) (A₀ : Around) (base h₀ : Heap) (L : Addr) (m : Str → Option Value) (s : Shared) (Q E : Value → Shared → Prop) (p : Program) (loose : List Str),
    Below A₀ base outer h₀ → Fr h₀ L s.heap m → (hd.heap_39 w.params).In h₀ → News h₀ L s.heap (news) → Top p loose mean mg mb h₀ → cs.kind = .function →
    dp + 20 < recursionLimit → un + 8 * 20 < cLine →
    (∀ x dx h' tk' k nn', Fr h₀ L h' m → News h₀ L h' ((x, accO dx #[] nn') :: (dx, accDict w.params z t1 k 1) :: news) → (∀ p ∈ news, @LT.lt Nat _ p.1 dx) → @LT.lt Nat _ dx x → Q (.ref x) { s with heap := h', toks := tk' }) →
      wpAny (model Challenge.rw_sr0083_01.row.prog w) (ktrTop dp un gd cn cs L a ccd cl outer) (call (.ref 185) [.int z t1]) Q E s := by
  k_fill
  intro dp un gd cn cs a ccd cl outer A₀ base h₀ L m s Q E p loose B F X N T hk hdp hu hret
  refine acc_make F X N ?_
  intro x dx h' F' N' l1 l2
  k_dflt (refine' ks_code_super ?k1 ?k2 ?k3 ?k4 ?k5 ?kA ?kF ?kK ?k6 ?k7 ?k8 ?k9 ?kB ?_ ?c1 ?c2 ?c3 ?c4; (case kA => exact rfl); (case kF => exact rfl); (case kK => exact hk); (case k1 => k_asm); (case k2 => k_asm); (case k3 => k_asm); (case k4 => k_asm); (case k5 => k_asm); (case k6 => k_is); (case k7 => k_is); (case k8 => ktr_room); (case k9 => first | exact BindsTo.of_eq rfl | exact binds_K (by k_in) rfl (by k_is) rfl rfl rfl); (case kB => exact locs rfl); (case c1 => decide); (case c2 => exact rfl); (case c3 => exact rfl); (case c4 => exact rfl))
  intro g' L' h' FG' F' N' B' X' T' l3
  (try dsimp only)
  (try k_lift B')
  repeat' (first | (k_unfold; (try dsimp only)) | ((with_reducible show wpAny _ _ (execs (_ :: _) _) _ _ _); (first | (refine exCons s ?_; intro kS Pq hPq) | (refine exCons0 ?_; intro Pq hPq))) | (with_reducible refine Aft.next (by assumption) ?_) | (with_reducible refine Aft.ret (by assumption) ?_) | (with_reducible refine Aft.brk (by assumption) ?_) | (with_reducible refine Aft.cont (by assumption) ?_) | ((fail_if_success (with_reducible show wpAny _ _ (setAttr _ _ _) _ _ _)); walk1) | fail "no step")
  have hxd : x ≠ dx := Nat.ne_of_gt l2
  refine acc_set (es' := [⟨PyData.keyHash w.params (Str.ofString "_initial_size"), .str (Str.ofString "_initial_size") _, .int z t1⟩]) (n' := 1) F' X' N' hxd (fun q hq => Nat.ne_of_lt (l1 q hq)) rfl rfl rfl (by simp) ?_
  intro h5 F5 N5
  clear F' N'
  dsimp only
  refine ks_wpAt_execs_cons ?_
  refine ks_wpAt_Expr_any ?_
  refine ks_wpAt_MethodCall ?_
  walk1
  (rename Fr _ _ _ _ => lF'); (rename News _ _ _ _ => lN')
  refine sup_meth (id := "list.__init__") (tf := "wrapper_descriptor") (g := "wrapper_descriptor.__get__") (bt := "method-wrapper") lF' X' (lN' _ (.head _)).1 (by kernel_rfl) type_init slot_wd_get.lookup ?hxC (by decide) ?hget ?_
  case hget =>
    intro t A' E' Q' hq
    exact get_init (s := { s with heap := _, toks := t }) (X'.keeps lF'.keep) (accO_inst (s := { s with heap := _, toks := t }) lN' (.tail _ (.head _)) (.tail _ (.tail _ (.head _)))) (by kernel_rfl) hq
  case hxC => exact ks_ne (X'.keeps lF'.keep) (accO_inst (s := { s with heap := _ }) lN' (.tail _ (.head _)) (.tail _ (.tail _ (.head _)))) cls185.choose_spec
  refine callWith_B0 ⟨_, _, _, Heap.get?_push_size _ rfl, .inr rfl⟩ ?_
  refine bound_call (id := "list.__init__") (bt := "method-wrapper") (Heap.get?_push_size _ rfl) (by decide) (by decide) ?hck (by decide +kernel) PySem.F.entry_list_init ?_
  case hck => intro Q' E' hq; exact wpAny_of_eq (by kernel_rfl) hq
  obtain ⟨F9, N9, l9⟩ := ks_newsPush (s := { s with heap := _ }) (o := boundObj "method-wrapper" "list.__init__" x) lF' lN' rfl (Heap.get?_push_at rfl rfl) (fun b o e => Heap.get?_push_of_some _ e)
  refine init_body (dx := dx) (nn := 0) (rest := (dx, accDict w.params z t1 _ 1) :: news) F9 (cb_drop N9 (by k_allIn)) ?hP ?_
  case hP =>
    intro q hq
    rcases List.mem_cons.mp hq with rfl | hq
    · exact hxd.symm
    · exact Nat.ne_of_lt (@Nat.lt_trans q.1 dx x (l1 q hq) l2)
  intro h7 nn7 F7 N7
  clear lF' lN' F9 N9 F5 N5
  repeat' (first | (k_unfold; (try dsimp only)) | ((with_reducible show wpAny _ _ (execs (_ :: _) _) _ _ _); (first | (refine exCons s ?_; intro kS Pq hPq) | (refine exCons0 ?_; intro Pq hPq))) | (with_reducible refine Aft.next (by assumption) ?_) | (with_reducible refine Aft.ret (by assumption) ?_) | (with_reducible refine Aft.brk (by assumption) ?_) | (with_reducible refine Aft.cont (by assumption) ?_) | (k_end; wrow_close) | walk1 | (dsimp only; walk1) | (leave1; try dsimp only) | fail "no step")
  rename News h₀ L _ _ => kN9
  exact hret _ _ _ _ _ _ (by assumption) kN9 l1 l2
end
end Mine
end
section
open PySem PySem.W PyProof.Rows PySem.Calls PySem.Spec
set_option Elab.async false
namespace Mine
noncomputable abbrev vfDict (P : Params) (mx : Int) (tm tc ts : Tok) (cv : Value) (ll x : Addr) (k1 k2 k3 k4 k5 k6 : Tok) : Obj := dictOf [⟨PyData.keyHash P (Str.ofString "_maxlen"), .str (Str.ofString "_maxlen") k1, .int mx tm⟩, ⟨PyData.keyHash P (Str.ofString "_continuation_ws"), .str (Str.ofString "_continuation_ws") k2, .str (Str.ofString "") tc⟩, ⟨PyData.keyHash P (Str.ofString "_continuation_ws_len"), .str (Str.ofString "_continuation_ws_len") k3, cv⟩, ⟨PyData.keyHash P (Str.ofString "_splitchars"), .str (Str.ofString "_splitchars") k4, .str (Str.ofString "; ") ts⟩, ⟨PyData.keyHash P (Str.ofString "_lines"), .str (Str.ofString "_lines") k5, .ref ll⟩, ⟨PyData.keyHash P (Str.ofString "_current_line"), .str (Str.ofString "_current_line") k6, .ref x⟩] 6
theorem vf_fin {h₀ h : Heap} {L x dx ll v dv : Addr} {o1 o2 o3 o4 o5 : Obj} {news : List (Addr × Obj)} (N : News h₀ L h ((x, o1) :: (dx, o2) :: (ll, o3) :: (v, o4) :: (dv, o5) :: news)) : News h₀ L h ((v, o4) :: (dv, o5) :: (x, o1) :: (dx, o2) :: (ll, o3) :: news) := cb_drop N (List.forall_mem_cons.mpr ⟨.tail _ (.tail _ (.tail _ (.head _))), List.forall_mem_cons.mpr ⟨.tail _ (.tail _ (.tail _ (.tail _ (.head _)))), List.forall_mem_cons.mpr ⟨.head _, List.forall_mem_cons.mpr ⟨.tail _ (.head _), List.forall_mem_cons.mpr ⟨.tail _ (.tail _ (.head _)), fun q hq => .tail _ (.tail _ (.tail _ (.tail _ (.tail _ hq))))⟩⟩⟩⟩⟩)
section
set_option maxRecDepth 100000 in
set_option maxHeartbeats 4000000 in
theorem vfmake_claim (w : World) (mean : ExcName → Option Value) (mg mb : Str → Option Value) (z mx : Int) (t1 tm tc ts : Tok) (news : List (Addr × Obj))  :
  ∀ (dp un : Nat) (gd : Option (List Code)) (cn : Str) (cs : Scope) (a : Addr) (ccd : Value) (cl : List (Str × Addr)) (outer : List Env) (A₀ : Around) (base h₀ : Heap) (L : Addr) (m : Str → Option Value) (s : Shared) (Q E : Value → Shared → Prop) (p : Program) (loose : List Str),
    Below A₀ base outer h₀ → Fr h₀ L s.heap m → (hd.heap_39 w.params).In h₀ → News h₀ L s.heap (news) → Top p loose mean mg mb h₀ → cs.kind = .function →
    dp + 30 < recursionLimit → un + 8 * 30 < cLine →
    (∀ v dv x dx ll h' tk' cv nn nl k k1 k2 k3 k4 k5 k6, Fr h₀ L h' m → News h₀ L h' ((v, instObj 101 dv) :: (dv, vfDict w.params mx tm tc ts cv ll x k1 k2 k3 k4 k5 k6) :: (x, accO dx #[] nn) :: (dx, accDict w.params z t1 k 1) :: (ll, listOf #[] nl) :: news) → (∀ p ∈ news, @LT.lt Nat _ p.1 dv ∧ @LT.lt Nat _ p.1 v ∧ @LT.lt Nat _ p.1 x ∧ @LT.lt Nat _ p.1 dx ∧ @LT.lt Nat _ p.1 ll) → Q (.ref v) { s with heap := h', toks := tk' }) →
      wpAny (model Challenge.rw_sr0083_01.row.prog w) (ktrTop dp un gd cn cs L a ccd cl outer) (call (.ref 101) [.int z t1, .int mx tm, .str (Str.ofString "") tc, .str (Str.ofString "; ") ts]) Q E s := by
  k_fill
  intro dp un gd cn cs a ccd cl outer A₀ base h₀ L m s Q E p loose B F X N T hk hdp hu hret
  k_dflt (refine' call_cls ?k1 ?k2 ?k3 ?k4 ?k5 ?k6 ?_; (case k1 => k_asm); (case k2 => k_asm); (case k3 => k_asm); (case k4 => k_is); (case k5 => k_is); (case k6 => k_is))
  intro x' d' h' F' N' l1 l2
  have l0 := l1
  k_lt2 l2
  k_sweep
  k_dflt cell_enter
  repeat' (first | (k_unfold; (try dsimp only)) | ((with_reducible show wpAny _ _ (execs (_ :: _) _) _ _ _); (first | (refine exCons s ?_; intro kS Pq hPq) | (refine exCons0 ?_; intro Pq hPq))) | (with_reducible refine Aft.next (by assumption) ?_) | (with_reducible refine Aft.ret (by assumption) ?_) | (with_reducible refine Aft.brk (by assumption) ?_) | (with_reducible refine Aft.cont (by assumption) ?_) | ((fail_if_success (with_reducible show wpAny _ _ (call (.ref 185) _) _ _ _)); walk1) | fail "no step")
  (rename Fr _ _ _ _ => lF'); (rename News _ _ _ _ => lN'); (rename Frag.In _ _ => lX); (rename Top _ _ _ _ _ _ => lT); (rename Below _ _ _ _ => lB); (rename (_ ∧ _) => lt9)
  refine accmake_claim w mean mg mb z t1 _ _ _ _ _ _ _ _ _ _ _ _ _ _ _ _ _ _ _ _ lB lF' lX lN' lT rfl ?hdd ?huu ?_
  case hdd => (simp only [depth_under_make, recursionLimit] at *; dsimp only [ktrTop] at *; omega)
  case huu => (simp only [units_under_make] at *; dsimp only [ktrTop] at *; omega)
  intro x dx h5 tk5 k5 nn5 F5 N5 O5 O6
  have O5' := O5
  k_lt O5
  k_lt2 O6
  clear lF' lN'
  repeat' (first | (k_unfold; (try dsimp only)) | ((with_reducible show wpAny _ _ (execs (_ :: _) _) _ _ _); (first | (refine exCons s ?_; intro kS Pq hPq) | (refine exCons0 ?_; intro Pq hPq))) | (with_reducible refine Aft.next (by assumption) ?_) | (with_reducible refine Aft.ret (by assumption) ?_) | (with_reducible refine Aft.brk (by assumption) ?_) | (with_reducible refine Aft.cont (by assumption) ?_) | (k_end; wrow_close) | walk1 | (dsimp only; walk1) | (leave1; try dsimp only) | fail "no step")
  rename News h₀ L _ _ => kN9
  exact hret _ _ _ _ _ _ _ _ _ _ _ _ _ _ _ _ _ (by assumption) (vf_fin kN9) fun q hq => ⟨l0 q hq, @Nat.lt_trans q.1 d' x' (l0 q hq) l2, @Nat.lt_trans q.1 dx x (O5' q (.tail _ (.tail _ (.tail _ hq)))) O6, O5' q (.tail _ (.tail _ (.tail _ hq))), allLt_mem lt9.2.2 q hq⟩
end
end Mine
end
section
open PySem PySem.W PyProof.Rows PySem.Calls PySem.Spec
set_option Elab.async false
set_option maxRecDepth 100000
namespace Mine
section
variable {prog : Program} {w : World} {A : Around} {E : Value → Shared → Prop} {s : Shared} {K : Frag} {x C f : Addr} {ox : Obj} {od : Option Obj} {name : Str}
/-- a def of the class read from an object of a list's own class: a method object -/
theorem get_sub_fn {expr : Bool} {Q : Value → Shared → Prop} (X : K.In s.heap) (I : InstAt s.heap x ox C od) (hm : mroIn K C (.type "list") = some true) (hga : findIn K (.ref C) "__getattribute__" = some (some (.builtin "list.__getattribute__"))) (hk : findIn K (.ref C) "__getattr__" = some none)
    (hf : findObj K C od name = some (.bind (.builtin "function.__get__") (.ref f))) (ht : typeIn K (.ref f) = some (.type "function")) (h : Q (.ref s.heap.objs.size) { s with heap := s.heap.push (methodObj (.ref f) (.ref x)), toks := s.toks + 1 }) : wpAny (model prog w) A (getAttr (.ref x) name expr) Q E s := by
  have body : wpAny (model prog w) A (call (.builtin "list.__getattribute__") [.ref x, .str name s.toks]) (fun r s' => r = .ref s.heap.objs.size ∧ s' = { s with heap := s.heap.push (methodObj (.ref f) (.ref x)), toks := s.toks + 1 }) (fun _ _ => False) { s with toks := s.toks + 1 } := by
    refine call_sub (s := { s with toks := s.toks + 1 }) X I hm (.inl (by decide +kernel)) (n := "__getattribute__") (by decide +kernel) (by decide +kernel) F.entry_list_ga (by unfold argsOk; kernel_rfl) ?_
    obtain ⟨hh', g, d, t, os⟩ := s
    have L0 := I.type (M := model prog w)
    have L1 := looks_find (M := model prog w) X I hf
    have L2 := looks_findIn (M := model prog w) X hk
    unfold Builtin.«object.__getattribute__»
    refine wpAny_bind (wpAny_pure (wpAny_bind (wpAny_pure (wpAny_bind (L0.at (wpAny_bind (L1.at ?_)))))))
    have fin : ∀ A' : Around, wpAny (model prog w) A' (holding [.ref f] (call (.builtin "function.__get__") [.ref f, .ref x, .ref C]) >>= ret) (fun fin s' => ∃ v, fin = .done (.ret v) ∧ v = .ref hh'.objs.size ∧ s' = ⟨hh'.push (methodObj (.ref f) (.ref x)), g, d, t + 1, os⟩) (fun _ _ => False) ⟨hh', g, d, t + 1, os⟩ := fun A' => by
      refine wpAny_bind (wpAny_holding (wpAny_call (fn_get (s := ⟨hh', g, d, t + 1, os⟩) X ht ?_)))
      exact wpAny_pure ⟨_, rfl, rfl, rfl⟩
    first
      | exact fin _
      | exact wpAny_bind (L2.at (fin _))
  obtain ⟨hh', g, d, t, os⟩ := s
  have L0 := I.type (M := model prog w)
  have L1 := looks_findIn (M := model prog w) X hga
  have L2 := looks_findIn (M := model prog w) X hk
  unfold getAttr getAttrBy
  refine wpAny_bind (wpAny_mkText (wpAny_holding (wpAny_bind (L0.at (wpAny_bind (L1.at ?_))))))
  show wpAny _ _ (getAttrByItsOwn (.ref x) (.str name _) (.ref C) (.builtin "list.__getattribute__") true expr) _ _ _
  unfold getAttrByItsOwn hookBefore callGetattribute boundAndCalled
  rw [show (expr && onTheHeap (.builtin "list.__getattribute__")) = false from by cases expr <;> rfl]
  refine wpAny_bind (L2.at ?_)
  refine wpAny_bind (wpAny_attempt (wpAny_holding ?_))
  show wpAny _ _ (bindSpecial (.builtin "list.__getattribute__") (.ref x) >>= _) _ _ _
  refine wpAny_bind (wpAny_of_eq (slot_lga.bind _) ?_)
  refine wpAny_mono body (fun r s' hr => ?_) fun _ _ z => z.elim
  obtain ⟨rfl, rfl⟩ := hr
  show wpAny _ _ (handedOut _) _ _ _
  rw [handedOut_of rfl]
  exact wpAny_pure h
end
section
variable {M : Model} {A : Around} {E : Value → Shared → Prop} {s : Shared} {env : Env}
/-- a call o.name(*e): the method is read as an object first -/
theorem StarCall {o : Expr} {name : Str} {apos pos p : Pos} {e : Expr} {Q : Value → Shared → Prop}
    (h : wpAny M A (eval o env) (fun ov s₁ => wpAny M A (getAttr ov name true) (fun f s₂ => wpAny M A (callWith pos f [] (backTo pos (starEach [.Starred e p] env)) []) Q E s₂) E s₁) E s)
    (he : eval (.Call (.Attribute o name apos) [.Starred e p] [] pos) env = (do
      let ov ← eval o env
      standAt apos.atName
      let r ← holding [ov] (do let v ← getAttr ov name true; pure (v, ([] : List Value)))
      let q ← pure pos
      callWith q r.1 r.2 (backTo pos (starEach [.Starred e p] env)) []) := by rfl) :
    wpAny M A (eval (.Call (.Attribute o name apos) [.Starred e p] [] pos) env) Q E s := by
  rw [he]
  exact wpAny_bind (wpAny_mono h (fun ov s₁ h₁ => wpAny_bind (wpAny_standAt (wpAny_bind (wpAny_holding (wpAny_bind (wpAny_mono h₁ (fun fx s₂ h₂ => wpAny_pure (wpAny_bind (wpAny_pure h₂))) fun _ _ x => x)))))) fun _ _ x => x)
theorem callWith_SM {K : Frag} {pos p : Pos} {q g : Addr} {self : Value} {e : Expr} {Q : Value → Shared → Prop} (hf : fnIn K g = true)
    (h : wpAny M A (eval e env) (fun v s₁ => StarOf M A E v (fun vs s₂ => MethP K q g self s₂.heap ∧ wpAny M A (call (.ref q) vs) Q E s₂) s₁) E s)
    (he : starEach [.Starred e p] env = [(true, eval e env)] := by rfl) :
    wpAny M A (callWith pos (.ref q) [] (backTo pos (starEach [.Starred e p] env)) []) Q E s := by
  rw [he]
  exact ks_call rfl (keeps_M hf) (ks_lone h)
end
end Mine
end
section
open PySem PySem.W PyProof.Rows PySem.Calls PySem.Spec
set_option Elab.async false
namespace Mine
theorem join0_list : ∀ l : List Str, (Txt.join (Str.ofString "") l).cps.toList = (l.map (·.cps.toList)).flatten := by
  intro l
  show (Builtin.Str.glued (Str.ofString "") l).cps.toList = _
  rw [StrLaws.glued_eq_join]
  have app : ∀ a b : Str, (a ++ Str.ofString "" ++ b).cps.toList = a.cps.toList ++ b.cps.toList := by
    intro a b
    show ((a.cps ++ #[]) ++ b.cps).toList = _
    simp
  induction l with
  | nil => rfl
  | cons a r ih =>
    cases r with
    | nil => simp [Str.join]
    | cons b r =>
      show (a ++ Str.ofString "" ++ Str.join (Str.ofString "") (b :: r)).cps.toList = _
      rw [app, ih]
      simp
noncomputable def Mk (l : List Part) : Prop := ∀ e ∈ l, e.f = Str.ofString " " ∧ (e.p = Str.ofString "a" ∨ e.p = Str.ofString "b")
theorem mk_len {e : Part} (h : e.f = Str.ofString " " ∧ (e.p = Str.ofString "a" ∨ e.p = Str.ofString "b")) : e.f.length = 1 ∧ e.p.length = 1 := by
  obtain ⟨h1, h2⟩ := h
  rw [h1]
  rcases h2 with h2 | h2 <;> rw [h2] <;> decide
theorem mk_sum : ∀ {l : List Part}, Mk l → (l.map partLen).sum = 2 * (l.length : Int)
  | [], _ => rfl
  | e :: r, h => by
    have h1 := mk_len (h e (.head _))
    have h2 := mk_sum (l := r) fun x hx => h x (.tail _ hx)
    rw [List.map_cons, List.sum_cons, h2, List.length_cons]
    unfold partLen
    omega
theorem mk_bound {l : List Part} (h : Mk l) (hl : l.length ≤ 100) : l.length ≤ 100 ∧ ∀ d ∈ l, d.f.length ≤ 100 ∧ d.p.length ≤ 100 := ⟨hl, fun d hd => by have := mk_len (h d hd); omega⟩
theorem part_text (d : Part) : (partText d).cps.toList = d.f.cps.toList ++ d.p.cps.toList := by
  unfold partText
  rw [join0_list]
  simp
theorem mk_ns {l : List Part} (h : Mk l) (hne : l ≠ []) : Txt.isspace (Txt.join (Str.ofString "") (l.map partText)) = false := by
  cases l with
  | nil => exact absurd rfl hne
  | cons e r =>
    have hp := (h e (.head _)).2
    have hm : ∃ c ∈ (Txt.join (Str.ofString "") ((e :: r).map partText)).cps.toList, Unicode.isSpace c = false := by
      rw [join0_list, List.map_cons, List.map_cons, List.flatten_cons, part_text]
      rcases hp with hp | hp
      · exact ⟨97, by rw [hp]; exact List.mem_append_left _ (List.mem_append_right _ (by decide)), by decide +kernel⟩
      · exact ⟨98, by rw [hp]; exact List.mem_append_left _ (List.mem_append_right _ (by decide)), by decide +kernel⟩
    obtain ⟨c, hc, hs⟩ := hm
    unfold Txt.isspace
    rw [Bool.and_eq_false_iff]
    right
    rw [Array.all_eq_false']
    exact ⟨c, by simpa using hc, by simp [hs]⟩
end Mine
end
section
open PySem PySem.W PyProof.Rows PySem.Calls PySem.Spec
set_option Elab.async false
namespace Mine
theorem ne_of_cls {h₀ h : Heap} {L a b : Addr} {o1 o2 : Obj} {news : List (Addr × Obj)} (N : News h₀ L h news) (h1 : (a, o1) ∈ news) (h2 : (b, o2) ∈ news) (hc : o1.cls ≠ o2.cls) : a ≠ b := by
  intro e
  have x := (N _ h1).1
  have y := (N _ h2).1
  subst e
  rw [x] at y
  exact hc (congrArg Obj.cls (Option.some.inj y))
noncomputable def Apart (x dx ll : Addr) (rest : List (Addr × Obj)) : Prop := ∀ q ∈ rest, q.1 ≠ 147 ∧ q.1 ≠ 154 ∧ q.1 ≠ x ∧ q.1 ≠ dx ∧ q.1 ≠ ll
theorem Apart.cons {x dx ll : Addr} {rest : List (Addr × Obj)} {q : Addr × Obj} (h : Apart x dx ll rest) (a : q.1 ≠ 147) (b : q.1 ≠ 154) (c : q.1 ≠ x) (d : q.1 ≠ dx) (e : q.1 ≠ ll) : Apart x dx ll (q :: rest) := fun p hp => by
  rcases List.mem_cons.mp hp with rfl | hp
  · exact ⟨a, b, c, d, e⟩
  · exact h p hp
section
variable {prog : Program} {w : World} {A : Around} {E : Value → Shared → Prop} {s : Shared} {h₀ : Heap} {L ll : Addr} {m : Str → Option Value} {rest : List (Addr × Obj)}
theorem ll_append {its : Array Value} {nl : Nat} {v : Value} {Q : Value → Shared → Prop} (F : Fr h₀ L s.heap m) (N : News h₀ L s.heap ((ll, listOf its nl) :: rest)) (hP : ∀ q ∈ rest, q.1 ≠ ll) (hsz : its.size ≤ 1000)
    (h : ∀ h' nl', Fr h₀ L h' m → News h₀ L h' ((ll, listOf (its.push v) nl') :: rest) → Q .none { s with heap := h' }) : wpAny (model prog w) A (call (.builtin "list.append") [.ref ll, v]) Q E s := by
  have z := N _ (.head _)
  refine wpAny_list_append_plain ⟨nl, z.1⟩ (fun h' hl' hs => ?_) (by rw [sizeLine_eq]; omega)
  obtain ⟨nl', e'⟩ := hl'
  refine h h' nl' (F.change hs z.2.1 z.2.2) fun p hp => ?_
  rcases List.mem_cons.mp hp with rfl | hp
  · exact ⟨e', z.2⟩
  · have n := N p (.tail _ hp)
    exact ⟨(hs.2 _ (hP p hp)).trans n.1, n.2⟩
end
theorem pair_ne {prog : Program} {w : World} {A : Around} {E : Value → Shared → Prop} {s : Shared} {a b : Addr} {f1 g1 f2 g2 : Str} {t1 t2 t3 t4 : Tok} {Q : Value → Shared → Prop} (ha : s.heap.get? a = some (pairO f1 t1 g1 t2)) (hb : s.heap.get? b = some (pairO f2 t3 g2 t4)) (hu : A.units < cLine) (hne : (f1 == f2 && g1 == g2) = false)
    (h : Q (.bool true) s) : wpAny (model prog w) A (compareOp .NotEq (.ref a) (.ref b)) Q E s := by
  have z := SeqAt.RcNeAt.tuples (A := A) (s := s) (l := a) (b := b) (items := #[.str f1 t1, .str g1 t2]) (items2 := #[.str f2 t3, .str g2 t4]) (e := fun j => if j = 0 then f1 == f2 else g1 == g2) ⟨_, ha, rfl, _, rfl⟩ ⟨_, hb, rfl, _, rfl⟩ hu (fun j h1 h2 => by
    have : j = 0 ∨ j = 1 := by simp at h1; omega
    rcases this with rfl | rfl
    · exact SeqAt.EqAt.str_str _ _ _ _
    · exact SeqAt.EqAt.str_str _ _ _ _)
  have e : (!((List.range (min (#[Value.str f1 t1, .str g1 t2] : Array Value).size (#[Value.str f2 t3, .str g2 t4] : Array Value).size)).all (fun j => if j = 0 then f1 == f2 else g1 == g2) && (#[Value.str f1 t1, .str g1 t2] : Array Value).size == (#[Value.str f2 t3, .str g2 t4] : Array Value).size)) = true := by
    show (!(((f1 == f2) && ((g1 == g2) && true)) && true)) = true
    rw [Bool.and_true, Bool.and_true, hne]
    rfl
  rw [e] at z
  exact z prog w E Q h
theorem arr6 {h₀ h : Heap} {L : Addr} {a b x d e T : Addr × Obj} {l : List (Addr × Obj)} (N : News h₀ L h (x :: T :: a :: b :: d :: e :: l)) : News h₀ L h (a :: b :: x :: d :: e :: T :: l) := fun q hq => N q (by simp only [List.mem_cons] at hq ⊢; rcases hq with h | h | h | h | h | h | h <;> simp [h])
theorem push_ref (ds : List Part) (d : Part) : (ds.map fun e => Value.ref e.a).toArray.push (.ref d.a) = ((ds ++ [d]).map fun e => Value.ref e.a).toArray := by simp
structure Heads (x dx ll : Addr) : Prop where
  x1 : x ≠ 147
  x2 : x ≠ 154
  d1 : dx ≠ 147
  d2 : dx ≠ 154
  l1 : ll ≠ 147
  l2 : ll ≠ 154
  xd : x ≠ dx
  xl : x ≠ ll
  dl : dx ≠ ll
theorem heads_of {h₀ h : Heap} {L x dx ll : Addr} {p1 p2 its lns : Array Value} {nn nl n : Nat} {es : List DictEntry} {rest : List (Addr × Obj)} (N : News h₀ L h ((147, tabObj p1) :: (154, tabObj p2) :: (x, accO dx its nn) :: (dx, dictOf es n) :: (ll, listOf lns nl) :: rest)) : Heads x dx ll where
  x1 := ne_of_cls N (.tail _ (.tail _ (.head _))) (.head _) (by intro h; cases h)
  x2 := ne_of_cls N (.tail _ (.tail _ (.head _))) (.tail _ (.head _)) (by intro h; cases h)
  d1 := ne_of_cls N (.tail _ (.tail _ (.tail _ (.head _)))) (.head _) (by intro h; cases h)
  d2 := ne_of_cls N (.tail _ (.tail _ (.tail _ (.head _)))) (.tail _ (.head _)) (by intro h; cases h)
  l1 := ne_of_cls N (.tail _ (.tail _ (.tail _ (.tail _ (.head _))))) (.head _) (by intro h; cases h)
  l2 := ne_of_cls N (.tail _ (.tail _ (.tail _ (.tail _ (.head _))))) (.tail _ (.head _)) (by intro h; cases h)
  xd := ne_of_cls N (.tail _ (.tail _ (.head _))) (.tail _ (.tail _ (.tail _ (.head _)))) (by intro h; cases h)
  xl := ne_of_cls N (.tail _ (.tail _ (.head _))) (.tail _ (.tail _ (.tail _ (.tail _ (.head _))))) (by intro h; cases h)
  dl := ne_of_cls N (.tail _ (.tail _ (.tail _ (.head _)))) (.tail _ (.tail _ (.tail _ (.tail _ (.head _))))) (by simp)
section
variable {h₀ h : Heap} {L : Addr} {a b c d e : Addr × Obj} {l : List (Addr × Obj)}
theorem rot3 (N : News h₀ L h (a :: b :: c :: l)) : News h₀ L h (c :: a :: b :: l) := fun q hq => N q (by simp only [List.mem_cons] at hq ⊢; rcases hq with h | h | h | h <;> simp [h])
theorem tor3 (N : News h₀ L h (c :: a :: b :: l)) : News h₀ L h (a :: b :: c :: l) := fun q hq => N q (by simp only [List.mem_cons] at hq ⊢; rcases hq with h | h | h | h <;> simp [h])
theorem rot4 (N : News h₀ L h (a :: b :: c :: d :: l)) : News h₀ L h (c :: d :: a :: b :: l) := fun q hq => N q (by simp only [List.mem_cons] at hq ⊢; rcases hq with h | h | h | h | h <;> simp [h])
theorem rot5 (N : News h₀ L h (a :: b :: c :: d :: e :: l)) : News h₀ L h (e :: a :: b :: c :: d :: l) := fun q hq => N q (by simp only [List.mem_cons] at hq ⊢; rcases hq with h | h | h | h | h | h <;> simp [h])
theorem tor5 (N : News h₀ L h (e :: a :: b :: c :: d :: l)) : News h₀ L h (a :: b :: c :: d :: e :: l) := fun q hq => N q (by simp only [List.mem_cons] at hq ⊢; rcases hq with h | h | h | h | h | h <;> simp [h])
end
section
variable {x dx ll : Addr} {o1 o2 o3 o4 : Obj} {rest : List (Addr × Obj)}
theorem ap_x (H : Heads x dx ll) (hA : Apart x dx ll rest) : ∀ q ∈ (147, o1) :: (154, o2) :: (dx, o3) :: (ll, o4) :: rest, q.1 ≠ x :=
  List.forall_mem_cons.mpr ⟨H.x1.symm, List.forall_mem_cons.mpr ⟨H.x2.symm, List.forall_mem_cons.mpr ⟨H.xd.symm, List.forall_mem_cons.mpr ⟨H.xl.symm, fun q hq => (hA q hq).2.2.1⟩⟩⟩⟩
theorem ap_x2 (H : Heads x dx ll) (hA : Apart x dx ll rest) : ∀ q ∈ (147, o1) :: (154, o2) :: (ll, o4) :: rest, q.1 ≠ x :=
  List.forall_mem_cons.mpr ⟨H.x1.symm, List.forall_mem_cons.mpr ⟨H.x2.symm, List.forall_mem_cons.mpr ⟨H.xl.symm, fun q hq => (hA q hq).2.2.1⟩⟩⟩
theorem ap_d2 (H : Heads x dx ll) (hA : Apart x dx ll rest) : ∀ q ∈ (147, o1) :: (154, o2) :: (ll, o4) :: rest, q.1 ≠ dx :=
  List.forall_mem_cons.mpr ⟨H.d1.symm, List.forall_mem_cons.mpr ⟨H.d2.symm, List.forall_mem_cons.mpr ⟨H.dl.symm, fun q hq => (hA q hq).2.2.2.1⟩⟩⟩
theorem ap_l (H : Heads x dx ll) (hA : Apart x dx ll rest) : ∀ q ∈ (147, o1) :: (154, o2) :: (x, o3) :: (dx, o4) :: rest, q.1 ≠ ll :=
  List.forall_mem_cons.mpr ⟨H.l1.symm, List.forall_mem_cons.mpr ⟨H.l2.symm, List.forall_mem_cons.mpr ⟨H.xl, List.forall_mem_cons.mpr ⟨H.dl, fun q hq => (hA q hq).2.2.2.2⟩⟩⟩⟩
theorem ap_1 (H : Heads x dx ll) (hA : Apart x dx ll rest) : ∀ q ∈ (154, o1) :: (x, o2) :: (dx, o3) :: (ll, o4) :: rest, q.1 ≠ 147 :=
  List.forall_mem_cons.mpr ⟨(by decide : (154 : Addr) ≠ 147), List.forall_mem_cons.mpr ⟨H.x1, List.forall_mem_cons.mpr ⟨H.d1, List.forall_mem_cons.mpr ⟨H.l1, fun q hq => (hA q hq).1⟩⟩⟩⟩
theorem ap_2 (H : Heads x dx ll) (hA : Apart x dx ll rest) : ∀ q ∈ (147, o1) :: (x, o2) :: (dx, o3) :: (ll, o4) :: rest, q.1 ≠ 154 :=
  List.forall_mem_cons.mpr ⟨(by decide : (147 : Addr) ≠ 154), List.forall_mem_cons.mpr ⟨H.x2, List.forall_mem_cons.mpr ⟨H.d2, List.forall_mem_cons.mpr ⟨H.l2, fun q hq => (hA q hq).2.1⟩⟩⟩⟩
theorem ap_o1 (H : Heads x dx ll) (hA : Apart x dx ll rest) : ∀ q ∈ (x, o2) :: (dx, o3) :: (ll, o4) :: rest, q.1 ≠ 147 :=
  List.forall_mem_cons.mpr ⟨H.x1, List.forall_mem_cons.mpr ⟨H.d1, List.forall_mem_cons.mpr ⟨H.l1, fun q hq => (hA q hq).1⟩⟩⟩
theorem ap_o2 (H : Heads x dx ll) (hA : Apart x dx ll rest) : ∀ q ∈ (x, o2) :: (dx, o3) :: (ll, o4) :: rest, q.1 ≠ 154 :=
  List.forall_mem_cons.mpr ⟨H.x2, List.forall_mem_cons.mpr ⟨H.d2, List.forall_mem_cons.mpr ⟨H.l2, fun q hq => (hA q hq).2.1⟩⟩⟩
end
section
set_option maxRecDepth 100000 in
set_option maxHeartbeats 4000000 in
theorem newline1_claim (w : World) (mean : ExcName → Option Value) (mg mb : Str → Option Value) (v dv x dx ll : Addr) (mx : Int) (tm tc ts : Tok) (cv : Value) (k1 k2 k3 k4 k5 k6 : Tok) (ds : List Part) (d : Part) (nn nl : Nat) (lns : Array Value) (tz k : Tok) (kk : Nat) (p1 p2 : Array Value) (rest : List (Addr × Obj)) (hv : (v, instObj 101 dv) ∈ rest) (hdv : (dv, vfDict w.params mx tm tc ts cv ll x k1 k2 k3 k4 k5 k6) ∈ rest) (hds : PartsIn rest (ds ++ [d])) (hA : Apart x dx ll rest) (htr1 : TriplesOk p1.toList) (htr2 : TriplesOk p2.toList) :
  ∀ (dp un : Nat) (gd : Option (List Code)) (cn : Str) (cs : Scope) (a : Addr) (ccd : Value) (cl : List (Str × Addr)) (outer : List Env) (A₀ : Around) (base h₀ : Heap) (L : Addr) (m : Str → Option Value) (s : Shared) (Q E : Value → Shared → Prop) (p : Program) (loose : List Str),
    Below A₀ base outer h₀ → Fr h₀ L s.heap m → (hd.heap_39 w.params).In h₀ → News h₀ L s.heap ((147, tabObj p1) :: (154, tabObj p2) :: (x, accO dx ((ds.map fun e => Value.ref e.a).toArray.push (.ref d.a)) nn) :: (dx, accDict w.params 0 tz k kk) :: (ll, listOf lns nl) :: rest) → Top p loose mean mg mb h₀ → cs.kind = .function → AllBare s.gens →
    (ds.length ≤ 20 ∧ ∀ e ∈ ds ++ [d], e.f = Str.ofString " " ∧ (e.p = Str.ofString "a" ∨ e.p = Str.ofString "b")) → lns.size ≤ 100 → dp + 40 < recursionLimit → un + 8 * 40 < cLine →
    (∀ (s' : Shared) p1' p2' nn' nl' tz' t rest', Fr h₀ L s'.heap m → News h₀ L s'.heap ((147, tabObj p1') :: (154, tabObj p2') :: (x, accO dx #[] nn') :: (dx, accDict w.params 0 tz' k kk) :: (ll, listOf (lns.push (.str (Txt.join (Str.ofString "") ((ds ++ [d]).map partText)) t)) nl') :: rest') → (∀ q ∈ rest, q ∈ rest') → Apart x dx ll rest' → TriplesOk p1'.toList → TriplesOk p2'.toList → AllBare s'.gens → s'.os = s.os → s'.drawn = s.drawn → Q .none s') →
      wpAny (model Challenge.rw_sr0083_01.row.prog w) (ktrTop dp un gd cn cs L a ccd cl outer) (call (.ref 63) [.ref v]) Q E s := by
  k_fill
  intro dp un gd cn cs a ccd cl outer A₀ base h₀ L m s Q E p loose B F X N T hk hbare hb hl hdp hu hret
  refine wpAny_call ?_
  k_dflt cell_enter
  repeat' (first | (k_unfold; (try dsimp only)) | ((with_reducible show wpAny _ _ (execs (_ :: _) _) _ _ _); (first | (refine exCons s ?_; intro kS Pq hPq) | (refine exCons0 ?_; intro Pq hPq))) | (with_reducible refine Aft.next (by assumption) ?_) | (with_reducible refine Aft.ret (by assumption) ?_) | (with_reducible refine Aft.brk (by assumption) ?_) | (with_reducible refine Aft.cont (by assumption) ?_) | ((fail_if_success (with_reducible show wpAny _ _ (getMethod (.ref x) _ _) _ _ _)); walk1) | fail "no step")
  have H := heads_of N
  (rename Fr _ _ _ _ => F0); (rename News _ _ _ _ => N0); (rename Frag.In _ _ => lX); (rename Top _ _ _ _ _ _ => lT); (rename Below _ _ _ _ => lB)
  refine accO_meth (f := 145) F0 lX N0 (.tail _ (.tail _ (.head _))) (.tail _ (.tail _ (.tail _ (.head _)))) (by kernel_rfl) (by kernel_rfl) rfl ?_
  repeat' (first | (k_unfold; (try dsimp only)) | ((with_reducible show wpAny _ _ (execs (_ :: _) _) _ _ _); (first | (refine exCons s ?_; intro kS Pq hPq) | (refine exCons0 ?_; intro Pq hPq))) | (with_reducible refine Aft.next (by assumption) ?_) | (with_reducible refine Aft.ret (by assumption) ?_) | (with_reducible refine Aft.brk (by assumption) ?_) | (with_reducible refine Aft.cont (by assumption) ?_) | ((fail_if_success (with_reducible show wpAny _ _ (call _ _) _ _ _)); walk1) | fail "no step")
  refine pop_claim w mean mg mb x dx _ _ nn 0 tz k kk _ (.tail _ (.tail _ (.head _))) (ap_x H hA) _ _ _ _ _ _ _ _ _ _ _ _ _ _ _ _ _ _ _ lB F0 lX (rot3 N0) lT rfl (by rw [List.size_toArray, List.length_map]; omega) (by show dp + 1 + 20 < _; omega) (by show un + 3 + 8 * 20 < _; omega) ?_
  intro h1 tk1 nn1 F1 N1
  replace N1 := tor3 N1
  (try clear F0 N0)
  repeat' (first | (k_unfold; (try dsimp only)) | ((with_reducible show wpAny _ _ (execs (_ :: _) _) _ _ _); (first | (refine exCons s ?_; intro kS Pq hPq) | (refine exCons0 ?_; intro Pq hPq))) | (with_reducible refine Aft.next (by assumption) ?_) | (with_reducible refine Aft.ret (by assumption) ?_) | (with_reducible refine Aft.brk (by assumption) ?_) | (with_reducible refine Aft.cont (by assumption) ?_) | ((fail_if_success (with_reducible show wpAny _ _ (compareOp _ _ _) _ _ _)); walk1) | fail "no step")
  obtain ⟨hb1, hb2⟩ := hb
  obtain ⟨hf, hg⟩ := hb2 d (by simp)
  have hne : (d.f == Str.ofString " " && d.p == Str.ofString "") = false := by
    rw [hf]
    rcases hg with hg | hg <;> rw [hg] <;> decide
  (rename Fr _ _ _ _ => F0); (rename News _ _ _ _ => N0); (rename (_ ∧ _) => lt0)
  refine pair_ne (f1 := d.f) (t1 := d.tf) (g1 := d.p) (t2 := d.tp) (N0 _ (.tail _ (.tail _ (.tail _ (.tail _ (.tail _ (.tail _ (hds d (by simp))))))))).1 (N0 _ (.head _)).1 ?hu hne ?_
  case hu => (show un + 3 < _; omega)
  repeat' (first | (k_unfold; (try dsimp only)) | ((with_reducible show wpAny _ _ (execs (_ :: _) _) _ _ _); (first | (refine exCons s ?_; intro kS Pq hPq) | (refine exCons0 ?_; intro Pq hPq))) | (with_reducible refine Aft.next (by assumption) ?_) | (with_reducible refine Aft.ret (by assumption) ?_) | (with_reducible refine Aft.brk (by assumption) ?_) | (with_reducible refine Aft.cont (by assumption) ?_) | ((fail_if_success (with_reducible show wpAny _ _ (eval (PySem.Expr.Call (PySem.Expr.Attribute _ _ _) [PySem.Expr.Starred _ _] _ _) _) _ _ _)); walk1) | fail "no step")
  refine StarCall ?_
  repeat' (first | (k_unfold; (try dsimp only)) | ((with_reducible show wpAny _ _ (execs (_ :: _) _) _ _ _); (first | (refine exCons s ?_; intro kS Pq hPq) | (refine exCons0 ?_; intro Pq hPq))) | (with_reducible refine Aft.next (by assumption) ?_) | (with_reducible refine Aft.ret (by assumption) ?_) | (with_reducible refine Aft.brk (by assumption) ?_) | (with_reducible refine Aft.cont (by assumption) ?_) | ((fail_if_success (with_reducible show wpAny _ _ (getAttr (.ref x) _ _) _ _ _)); walk1) | fail "no step")
  (rename Fr _ _ _ _ => F2); (rename News _ _ _ _ => N2)
  (try clear F0 N0)
  refine get_sub_fn (f := 129) (lX.keeps F2.keep) (accO_inst N2 (.tail _ (.tail _ (.tail _ (.head _)))) (.tail _ (.tail _ (.tail _ (.tail _ (.head _)))))) (by kernel_rfl) (by kernel_rfl) (by kernel_rfl) (by kernel_rfl) (by kernel_rfl) ?_
  have F3 := F2.push (o := methodObj (.ref 129) (.ref x))
  have N3 := N2.push F2 (o := methodObj (.ref 129) (.ref x))
  clear F2 N2
  refine callWith_SM (K := hd.heap_39 w.params) (g := 129) (self := .ref x) (by kernel_rfl) ?_
  repeat' (first | (k_unfold; (try dsimp only)) | ((with_reducible show wpAny _ _ (execs (_ :: _) _) _ _ _); (first | (refine exCons s ?_; intro kS Pq hPq) | (refine exCons0 ?_; intro Pq hPq))) | (with_reducible refine Aft.next (by assumption) ?_) | (with_reducible refine Aft.ret (by assumption) ?_) | (with_reducible refine Aft.brk (by assumption) ?_) | (with_reducible refine Aft.cont (by assumption) ?_) | ((fail_if_success (with_reducible show wpAny _ _ (StarOf _ _ _ _ _ _) _ _ _)); walk1) | fail "no step")
  (rename Fr _ _ _ _ => F4); (rename News _ _ _ _ => N4)
  refine star_seq F4 N4 (.tail _ (.tail _ (.tail _ (.tail _ (.tail _ (.tail _ (.tail _ (hds d (by simp))))))))) rfl rfl (.inr rfl) rfl (Nat.le_of_ble_eq_true rfl) ?_
  intro h5 F5 N5
  refine ⟨methP N5 (.head _) (lX.keeps F5.keep), wpAny_call (method_call (N5 _ (.head _)).1 ?_)⟩
  refine push_code w mean mg mb x dx _ d.f d.p d.tf d.tp _ 0 tz k kk _ (.tail _ (.tail _ (.head _))) (ap_x H hA) _ _ _ _ _ _ _ _ _ _ _ _ _ _ _ _ _ _ _ lB F5 lX (rot3 (cb_drop N5 fun q hq => .tail _ (.tail _ hq))) lT rfl (by rw [List.size_toArray, List.length_map]; omega) (by show dp + 1 + 20 < _; omega) (by show un + 3 + 8 * 20 < _; omega) ?_
  intro T h6 tk6 nn6 F6 N6 O6
  have hA6 : Apart x dx ll ((T, pairO d.f d.tf d.p d.tp) :: rest) := hA.cons (Nat.ne_of_gt (O6 _ (.tail _ (.head _)))) (Nat.ne_of_gt (O6 _ (.tail _ (.tail _ (.head _))))) (Nat.ne_of_gt (O6 _ (.head _))) (Nat.ne_of_gt (O6 _ (.tail _ (.tail _ (.tail _ (.head _)))))) (Nat.ne_of_gt (O6 _ (.tail _ (.tail _ (.tail _ (.tail _ (.head _)))))))
  replace N6 := arr6 N6
  (try clear F3 N3); (try clear F4 N4); (try clear F5 N5)
  have hm6 : Mk (ds ++ [⟨T, d.f, d.tf, d.p, d.tp⟩]) := by
    intro e he
    rcases List.mem_append.mp he with he | he
    · exact hb2 e (List.mem_append_left _ he)
    · rw [List.mem_singleton] at he
      subst he
      exact ⟨hf, hg⟩
  have hds6 : PartsIn ((T, pairO d.f d.tf d.p d.tp) :: rest) (ds ++ [⟨T, d.f, d.tf, d.p, d.tp⟩]) := by
    intro e he
    rcases List.mem_append.mp he with he | he
    · exact .tail _ (hds e (List.mem_append_left _ he))
    · rw [List.mem_singleton] at he
      subst he
      exact .head _
  have htx : (ds ++ ([⟨T, d.f, d.tf, d.p, d.tp⟩] : List Part)).map partText = (ds ++ [d]).map partText := by
    rw [List.map_append, List.map_append]; rfl
  have hl6 : (ds ++ ([⟨T, d.f, d.tf, d.p, d.tp⟩] : List Part)).length = ds.length + 1 := by simp
  rw [push_ref ds ⟨T, d.f, d.tf, d.p, d.tp⟩] at N6
  generalize hD : ds ++ [⟨T, d.f, d.tf, d.p, d.tp⟩] = D6 at *
  (try dsimp only)
  have hm7 := hm6
  have hbd6 := mk_bound hm6 (by omega)
  have hsum6 := mk_sum hm6
  have hne6 : D6 ≠ [] := by intro e; rw [e] at hl6; simp at hl6
  have hns6 := mk_ns hm6 hne6
  repeat' (first | (k_unfold; (try dsimp only)) | ((with_reducible show wpAny _ _ (execs (_ :: _) _) _ _ _); (first | (refine exCons s ?_; intro kS Pq hPq) | (refine exCons0 ?_; intro Pq hPq))) | (with_reducible refine Aft.next (by assumption) ?_) | (with_reducible refine Aft.ret (by assumption) ?_) | (with_reducible refine Aft.brk (by assumption) ?_) | (with_reducible refine Aft.cont (by assumption) ?_) | ((fail_if_success (with_reducible show wpAny _ _ (call (.builtin _) _) _ _ _)); walk1) | fail "no step")
  (rename Fr _ _ _ _ => F7); (rename News _ _ _ _ => N7)
  refine PySem.W.len_K (f := 152) F7 lX (acc_inst (ds := D6) N7 (.tail _ (.tail _ (.head _))) (.tail _ (.tail _ (.tail _ (.head _))))) (by kernel_rfl) (by kernel_rfl) ?_
  refine len_claim w mean mg mb x dx D6 _ _ tz k kk p1 _ (.tail _ (.head _)) (.tail _ (.tail _ (.head _))) (fun e h => .tail _ (.tail _ (.tail _ (.tail _ (hds6 e h))))) htr1 (ap_1 H hA6) _ _ _ _ _ _ _ _ _ _ _ _ _ _ _ _ _ _ _ lB F7 lX N7 lT rfl hbare hbd6 (by show dp + 1 + 10 < _; omega) (by show un + 3 + 1 + 8 * 10 < _; omega) ?_
  intro t8 s8 p8 F8 N8 htr8 hb8 ho8 hd8
  dsimp only [PySem.W.LenBack]
  rw [hsum6]
  refine ⟨by omega, ?_⟩
  clear F7 N7
  repeat' (first | (k_unfold; (try dsimp only)) | ((with_reducible show wpAny _ _ (execs (_ :: _) _) _ _ _); (first | (refine exCons s8 ?_; intro kS Pq hPq) | (refine exCons0 ?_; intro Pq hPq))) | (with_reducible refine Aft.next (by assumption) ?_) | (with_reducible refine Aft.ret (by assumption) ?_) | (with_reducible refine Aft.brk (by assumption) ?_) | (with_reducible refine Aft.cont (by assumption) ?_) | ((fail_if_success (with_reducible show wpAny _ _ (getMethod (.ref x) _ _) _ _ _)); walk1) | fail "no step")
  (rename Fr _ _ _ _ => F9); (rename News _ _ _ _ => N9)
  refine accO_meth (f := 174) F9 lX N9 (.tail _ (.tail _ (.head _))) (.tail _ (.tail _ (.tail _ (.head _)))) (by kernel_rfl) (by kernel_rfl) rfl ?_
  repeat' (first | (k_unfold; (try dsimp only)) | ((with_reducible show wpAny _ _ (execs (_ :: _) _) _ _ _); (first | (refine exCons s8 ?_; intro kS Pq hPq) | (refine exCons0 ?_; intro Pq hPq))) | (with_reducible refine Aft.next (by assumption) ?_) | (with_reducible refine Aft.ret (by assumption) ?_) | (with_reducible refine Aft.brk (by assumption) ?_) | (with_reducible refine Aft.cont (by assumption) ?_) | ((fail_if_success (with_reducible show wpAny _ _ (call (.ref 174) _) _ _ _)); walk1) | fail "no step")
  refine onlyT_claim w mean mg mb x dx D6 _ tz k kk p8 p2 _ (.head _) (.tail _ (.head _)) (fun e h => .tail _ (.tail _ (.tail _ (hds6 e h)))) htr8 htr2 (ap_o1 H hA6) (ap_o2 H hA6) _ _ _ _ _ _ _ _ _ _ _ _ _ _ _ _ _ _ _ lB F9 lX N9 lT rfl hb8 hbd6 (by rw [hsum6]; omega) (by rw [hsum6]; omega) hns6 (by show dp + 1 + 20 < _; omega) (by show un + 3 + 8 * 20 < _; omega) ?_
  intro s10 p10 p11 F10 N10 htr10 htr11 hb10 ho10 hd10
  (try clear F9 N9); (try clear F8 N8)
  (try dsimp only)
  repeat' (first | (k_unfold; (try dsimp only)) | ((with_reducible show wpAny _ _ (execs (_ :: _) _) _ _ _); (first | (refine exCons s10 ?_; intro kS Pq hPq) | (refine exCons0 ?_; intro Pq hPq))) | (with_reducible refine Aft.next (by assumption) ?_) | (with_reducible refine Aft.ret (by assumption) ?_) | (with_reducible refine Aft.brk (by assumption) ?_) | (with_reducible refine Aft.cont (by assumption) ?_) | ((fail_if_success (with_reducible show wpAny _ _ (call (.type _) _) _ _ _)); walk1) | fail "no step")
  (rename Fr _ _ _ _ => F12); (rename News _ _ _ _ => N12)
  refine kso_call (K := hd.heap_39 w.params) (f := 159) ?hu9 (lX.keeps F12.keep) (acc_inst (s := { s10 with toks := _ }) (ds := D6) N12 (.tail _ (.tail _ (.head _))) (.tail _ (.tail _ (.tail _ (.head _))))) (by kernel_rfl) (by kernel_rfl) ?_
  case hu9 => (show un + 3 + 2 < _; omega)
  refine str_claim w mean mg mb x dx D6 _ _ tz k kk p11 _ (.tail _ (.head _)) (.tail _ (.tail _ (.head _))) (fun e h => .tail _ (.tail _ (.tail _ (.tail _ (hds6 e h))))) htr11 (ap_2 H hA6) _ _ _ _ _ _ _ _ _ _ _ _ _ _ _ _ _ _ _ lB F12 lX (swap2 N12) lT rfl hb10 hbd6 (by show dp + 1 + 10 < _; omega) (by show un + 3 + 2 + 8 * 10 < _; omega) ?_
  intro t13 s13 p13 F13 N13 htr13 hb13 ho13 hd13
  replace N13 := swap2 N13
  (try clear F12 N12); (try clear F10 N10)
  dsimp only [StrBack]
  repeat' (first | (k_unfold; (try dsimp only)) | ((with_reducible show wpAny _ _ (execs (_ :: _) _) _ _ _); (first | (refine exCons s13 ?_; intro kS Pq hPq) | (refine exCons0 ?_; intro Pq hPq))) | (with_reducible refine Aft.next (by assumption) ?_) | (with_reducible refine Aft.ret (by assumption) ?_) | (with_reducible refine Aft.brk (by assumption) ?_) | (with_reducible refine Aft.cont (by assumption) ?_) | ((fail_if_success (with_reducible show wpAny _ _ (call (.builtin _) _) _ _ _)); walk1) | fail "no step")
  (rename Fr _ _ _ _ => F14); (rename News _ _ _ _ => N14)
  refine ll_append F14 (rot5 N14) (ap_l H hA6) (by omega) ?_
  intro h15 nl15 F15 N15
  replace N15 := tor5 N15
  (try clear F14 N14); (try clear F13 N13)
  repeat' (first | (k_unfold; (try dsimp only)) | ((with_reducible show wpAny _ _ (execs (_ :: _) _) _ _ _); (first | (refine exCons s13 ?_; intro kS Pq hPq) | (refine exCons0 ?_; intro Pq hPq))) | (with_reducible refine Aft.next (by assumption) ?_) | (with_reducible refine Aft.ret (by assumption) ?_) | (with_reducible refine Aft.brk (by assumption) ?_) | (with_reducible refine Aft.cont (by assumption) ?_) | ((fail_if_success (with_reducible show wpAny _ _ (getMethod (.ref x) _ _) _ _ _)); walk1) | fail "no step")
  (rename Fr _ _ _ _ => F16); (rename News _ _ _ _ => N16)
  refine accO_meth (f := 167) F16 lX N16 (.tail _ (.tail _ (.head _))) (.tail _ (.tail _ (.tail _ (.head _)))) (by kernel_rfl) (by kernel_rfl) rfl ?_
  repeat' (first | (k_unfold; (try dsimp only)) | ((with_reducible show wpAny _ _ (execs (_ :: _) _) _ _ _); (first | (refine exCons s13 ?_; intro kS Pq hPq) | (refine exCons0 ?_; intro Pq hPq))) | (with_reducible refine Aft.next (by assumption) ?_) | (with_reducible refine Aft.ret (by assumption) ?_) | (with_reducible refine Aft.brk (by assumption) ?_) | (with_reducible refine Aft.cont (by assumption) ?_) | ((fail_if_success (with_reducible show wpAny _ _ (call (.ref 167) _) _ _ _)); walk1) | fail "no step")
  refine reset0_claim w mean mg mb x dx _ _ _ tz k kk _ (ap_x2 H hA6) (ap_d2 H hA6) _ _ _ _ _ _ _ _ _ _ _ _ _ _ _ _ _ _ _ lB F16 lX (rot4 N16) lT rfl (by rw [List.size_toArray, List.length_map]; omega) (by show dp + 1 + 20 < _; omega) (by show un + 3 + 8 * 20 < _; omega) ?_
  intro h17 tk17 nn17 tz17 F17 N17
  replace N17 := rot4 N17
  (try clear F16 N16); (try clear F15 N15)
  repeat' (first | (k_unfold; (try dsimp only)) | ((with_reducible show wpAny _ _ (execs (_ :: _) _) _ _ _); (first | (refine exCons s13 ?_; intro kS Pq hPq) | (refine exCons0 ?_; intro Pq hPq))) | (with_reducible refine Aft.next (by assumption) ?_) | (with_reducible refine Aft.ret (by assumption) ?_) | (with_reducible refine Aft.brk (by assumption) ?_) | (with_reducible refine Aft.cont (by assumption) ?_) | (k_end; wrow_close) | walk1 | (dsimp only; walk1) | (leave1; try dsimp only) | fail "no step")
  rename News h₀ L _ _ => kN9
  rw [htx] at kN9
  exact hret _ _ _ _ _ _ _ _ (by assumption) kN9 (fun q hq => .tail _ hq) hA6 htr10 htr13 hb13 (ho13.trans (ho10.trans ho8)) (hd13.trans (hd10.trans hd8))
end
end Mine
end
section
open PySem PySem.W PyProof.Rows PySem.Calls PySem.Spec
set_option Elab.async false
namespace Mine
section
variable {h₀ h : Heap} {L : Addr} {a b c d e f : Addr × Obj} {l : List (Addr × Obj)}
theorem rot4x (N : News h₀ L h (f :: c :: a :: b :: d :: e :: l)) : News h₀ L h (a :: b :: c :: d :: e :: f :: l) := fun q hq => N q (by simp only [List.mem_cons] at hq ⊢; rcases hq with h | h | h | h | h | h | h <;> simp [h])
theorem drop0 {g i : Addr × Obj} : ∀ q ∈ a :: b :: c :: d :: e :: l, q ∈ g :: i :: a :: b :: c :: d :: e :: f :: l := fun q hq => by simp only [List.mem_cons] at hq ⊢; rcases hq with h | h | h | h | h | h <;> simp [h]
end
section
set_option maxRecDepth 100000 in
set_option maxHeartbeats 4000000 in
theorem newline0_claim (w : World) (mean : ExcName → Option Value) (mg mb : Str → Option Value) (v dv x dx ll : Addr) (mx : Int) (tm tc ts : Tok) (cv : Value) (k1 k2 k3 k4 k5 k6 : Tok) (nn nl : Nat) (lns : Array Value) (z : Int) (tz k : Tok) (kk : Nat) (p1 p2 : Array Value) (rest : List (Addr × Obj)) (hv : (v, instObj 101 dv) ∈ rest) (hdv : (dv, vfDict w.params mx tm tc ts cv ll x k1 k2 k3 k4 k5 k6) ∈ rest) (hA : Apart x dx ll rest) (htr1 : TriplesOk p1.toList) (htr2 : TriplesOk p2.toList) :
  ∀ (dp un : Nat) (gd : Option (List Code)) (cn : Str) (cs : Scope) (a : Addr) (ccd : Value) (cl : List (Str × Addr)) (outer : List Env) (A₀ : Around) (base h₀ : Heap) (L : Addr) (m : Str → Option Value) (s : Shared) (Q E : Value → Shared → Prop) (p : Program) (loose : List Str),
    Below A₀ base outer h₀ → Fr h₀ L s.heap m → (hd.heap_39 w.params).In h₀ → News h₀ L s.heap ((147, tabObj p1) :: (154, tabObj p2) :: (x, accO dx #[] nn) :: (dx, accDict w.params z tz k kk) :: (ll, listOf lns nl) :: rest) → Top p loose mean mg mb h₀ → cs.kind = .function → AllBare s.gens →
    (0 < z ∧ z ≤ 1000) → lns.size ≤ 100 → dp + 40 < recursionLimit → un + 8 * 40 < cLine →
    (∀ (s' : Shared) p1' p2' nn' nl' tz' t rest', Fr h₀ L s'.heap m → News h₀ L s'.heap ((147, tabObj p1') :: (154, tabObj p2') :: (x, accO dx #[] nn') :: (dx, accDict w.params 0 tz' k kk) :: (ll, listOf (lns.push (.str (Str.ofString "") t)) nl') :: rest') → (∀ q ∈ rest, q ∈ rest') → Apart x dx ll rest' → TriplesOk p1'.toList → TriplesOk p2'.toList → AllBare s'.gens → s'.os = s.os → s'.drawn = s.drawn → Q .none s') →
      wpAny (model Challenge.rw_sr0083_01.row.prog w) (ktrTop dp un gd cn cs L a ccd cl outer) (call (.ref 63) [.ref v]) Q E s := by
  k_fill
  intro dp un gd cn cs a ccd cl outer A₀ base h₀ L m s Q E p loose B F X N T hk hbare hz hl hdp hu hret
  refine wpAny_call ?_
  k_dflt cell_enter
  repeat' (first | (k_unfold; (try dsimp only)) | ((with_reducible show wpAny _ _ (execs (_ :: _) _) _ _ _); (first | (refine exCons s ?_; intro kS Pq hPq) | (refine exCons0 ?_; intro Pq hPq))) | (with_reducible refine Aft.next (by assumption) ?_) | (with_reducible refine Aft.ret (by assumption) ?_) | (with_reducible refine Aft.brk (by assumption) ?_) | (with_reducible refine Aft.cont (by assumption) ?_) | ((fail_if_success (with_reducible show wpAny _ _ (getMethod (.ref x) _ _) _ _ _)); walk1) | fail "no step")
  have H := heads_of N
  (rename Fr _ _ _ _ => F0); (rename News _ _ _ _ => N0); (rename Frag.In _ _ => lX); (rename Top _ _ _ _ _ _ => lT); (rename Below _ _ _ _ => lB)
  refine accO_meth (f := 145) F0 lX N0 (.tail _ (.tail _ (.head _))) (.tail _ (.tail _ (.tail _ (.head _)))) (by kernel_rfl) (by kernel_rfl) rfl ?_
  repeat' (first | (k_unfold; (try dsimp only)) | ((with_reducible show wpAny _ _ (execs (_ :: _) _) _ _ _); (first | (refine exCons s ?_; intro kS Pq hPq) | (refine exCons0 ?_; intro Pq hPq))) | (with_reducible refine Aft.next (by assumption) ?_) | (with_reducible refine Aft.ret (by assumption) ?_) | (with_reducible refine Aft.brk (by assumption) ?_) | (with_reducible refine Aft.cont (by assumption) ?_) | ((fail_if_success (with_reducible show wpAny _ _ (call _ _) _ _ _)); walk1) | fail "no step")
  refine popE_claim w mean mg mb x dx nn z tz k kk _ (.tail _ (.tail _ (.head _))) _ _ _ _ _ _ _ _ _ _ _ _ _ _ _ _ _ _ _ lB F0 lX (rot3 N0) lT rfl (by show dp + 1 + 20 < _; omega) (by show un + 3 + 8 * 20 < _; omega) ?_
  intro T0 h1 tk1 ta tb F1 N1
  replace N1 := rot4x N1
  clear F0 N0
  repeat' (first | (k_unfold; (try dsimp only)) | ((with_reducible show wpAny _ _ (execs (_ :: _) _) _ _ _); (first | (refine exCons s ?_; intro kS Pq hPq) | (refine exCons0 ?_; intro Pq hPq))) | (with_reducible refine Aft.next (by assumption) ?_) | (with_reducible refine Aft.ret (by assumption) ?_) | (with_reducible refine Aft.brk (by assumption) ?_) | (with_reducible refine Aft.cont (by assumption) ?_) | ((fail_if_success (with_reducible show wpAny _ _ (compareOp _ _ _) _ _ _)); walk1) | fail "no step")
  (rename Fr _ _ _ _ => F0); (rename News _ _ _ _ => N0); (rename (_ ∧ _) => lt0)
  refine pair_ne (f1 := Str.ofString "") (t1 := ta) (g1 := Str.ofString "") (t2 := tb) (N0 _ (.tail _ (.tail _ (.tail _ (.tail _ (.tail _ (.tail _ (.head _)))))))).1 (N0 _ (.head _)).1 ?hu (by decide) ?_
  case hu => (show un + 3 < _; omega)
  repeat' (first | (k_unfold; (try dsimp only)) | ((with_reducible show wpAny _ _ (execs (_ :: _) _) _ _ _); (first | (refine exCons s ?_; intro kS Pq hPq) | (refine exCons0 ?_; intro Pq hPq))) | (with_reducible refine Aft.next (by assumption) ?_) | (with_reducible refine Aft.ret (by assumption) ?_) | (with_reducible refine Aft.brk (by assumption) ?_) | (with_reducible refine Aft.cont (by assumption) ?_) | ((fail_if_success (with_reducible show wpAny _ _ (eval (PySem.Expr.Call (PySem.Expr.Attribute _ _ _) [PySem.Expr.Starred _ _] _ _) _) _ _ _)); walk1) | fail "no step")
  refine StarCall ?_
  repeat' (first | (k_unfold; (try dsimp only)) | ((with_reducible show wpAny _ _ (execs (_ :: _) _) _ _ _); (first | (refine exCons s ?_; intro kS Pq hPq) | (refine exCons0 ?_; intro Pq hPq))) | (with_reducible refine Aft.next (by assumption) ?_) | (with_reducible refine Aft.ret (by assumption) ?_) | (with_reducible refine Aft.brk (by assumption) ?_) | (with_reducible refine Aft.cont (by assumption) ?_) | ((fail_if_success (with_reducible show wpAny _ _ (getAttr (.ref x) _ _) _ _ _)); walk1) | fail "no step")
  (rename Fr _ _ _ _ => F2); (rename News _ _ _ _ => N2)
  (try clear F0 N0)
  refine get_sub_fn (f := 129) (lX.keeps F2.keep) (accO_inst N2 (.tail _ (.tail _ (.tail _ (.head _)))) (.tail _ (.tail _ (.tail _ (.tail _ (.head _)))))) (by kernel_rfl) (by kernel_rfl) (by kernel_rfl) (by kernel_rfl) (by kernel_rfl) ?_
  have F3 := F2.push (o := methodObj (.ref 129) (.ref x))
  have N3 := N2.push F2 (o := methodObj (.ref 129) (.ref x))
  clear F2 N2
  refine callWith_SM (K := hd.heap_39 w.params) (g := 129) (self := .ref x) (by kernel_rfl) ?_
  repeat' (first | (k_unfold; (try dsimp only)) | ((with_reducible show wpAny _ _ (execs (_ :: _) _) _ _ _); (first | (refine exCons s ?_; intro kS Pq hPq) | (refine exCons0 ?_; intro Pq hPq))) | (with_reducible refine Aft.next (by assumption) ?_) | (with_reducible refine Aft.ret (by assumption) ?_) | (with_reducible refine Aft.brk (by assumption) ?_) | (with_reducible refine Aft.cont (by assumption) ?_) | ((fail_if_success (with_reducible show StarOf _ _ _ _ _ _)); walk1) | fail "no step")
  (rename Fr _ _ _ _ => F4); (rename News _ _ _ _ => N4)
  refine star_seq F4 N4 (show (T0, pairO (Str.ofString "") ta (Str.ofString "") tb) ∈ _ from .tail _ (.tail _ (.tail _ (.tail _ (.tail _ (.tail _ (.tail _ (.head _)))))))) rfl rfl (.inr rfl) rfl (Nat.le_of_ble_eq_true rfl) ?_
  intro h5 F5 N5
  refine ⟨methP N5 (.head _) (lX.keeps F5.keep), wpAny_call (method_call (N5 _ (.head _)).1 ?_)⟩
  refine push_code w mean mg mb x dx #[] (Str.ofString "") (Str.ofString "") ta tb _ z tz k kk _ (.tail _ (.tail _ (.head _))) (ap_x H hA) _ _ _ _ _ _ _ _ _ _ _ _ _ _ _ _ _ _ _ lB F5 lX (rot3 (cb_drop N5 drop0)) lT rfl (by simp) (by show dp + 1 + 20 < _; omega) (by show un + 3 + 8 * 20 < _; omega) ?_
  intro T h6 tk6 nn6 F6 N6 O6
  have hA6 : Apart x dx ll ((T, pairO (Str.ofString "") ta (Str.ofString "") tb) :: rest) := hA.cons (Nat.ne_of_gt (O6 _ (.tail _ (.head _)))) (Nat.ne_of_gt (O6 _ (.tail _ (.tail _ (.head _))))) (Nat.ne_of_gt (O6 _ (.head _))) (Nat.ne_of_gt (O6 _ (.tail _ (.tail _ (.tail _ (.head _)))))) (Nat.ne_of_gt (O6 _ (.tail _ (.tail _ (.tail _ (.tail _ (.head _)))))))
  replace N6 := arr6 N6
  (try clear F3 N3); (try clear F4 N4); (try clear F5 N5); (try clear F1 N1)
  have hds6 : PartsIn ((T, pairO (Str.ofString "") ta (Str.ofString "") tb) :: rest) [⟨T, Str.ofString "", ta, Str.ofString "", tb⟩] := by
    intro e he
    rw [List.mem_singleton] at he
    subst he
    exact .head _
  have hbd6 : ([⟨T, Str.ofString "", ta, Str.ofString "", tb⟩] : List Part).length ≤ 100 ∧ ∀ d ∈ ([⟨T, Str.ofString "", ta, Str.ofString "", tb⟩] : List Part), d.f.length ≤ 100 ∧ d.p.length ≤ 100 := by
    refine ⟨by simp, ?_⟩
    intro e he
    rw [List.mem_singleton] at he
    subst he
    exact ⟨Nat.zero_le _, Nat.zero_le _⟩
  have hsum6 : (([⟨T, Str.ofString "", ta, Str.ofString "", tb⟩] : List Part).map partLen).sum = 0 := rfl
  have htx6 : Txt.join (Str.ofString "") (([⟨T, Str.ofString "", ta, Str.ofString "", tb⟩] : List Part).map partText) = Str.ofString "" := rfl
  have hsz6 : (([⟨T, Str.ofString "", ta, Str.ofString "", tb⟩] : List Part).map fun e => Value.ref e.a).toArray.size ≤ 900 := by simp
  have hpu : (#[] : Array Value).push (.ref T) = (([⟨T, Str.ofString "", ta, Str.ofString "", tb⟩] : List Part).map fun e => Value.ref e.a).toArray := rfl
  rw [hpu] at N6
  generalize ([⟨T, Str.ofString "", ta, Str.ofString "", tb⟩] : List Part) = D6 at *
  (try dsimp only)
  repeat' (first | (k_unfold; (try dsimp only)) | ((with_reducible show wpAny _ _ (execs (_ :: _) _) _ _ _); (first | (refine exCons s ?_; intro kS Pq hPq) | (refine exCons0 ?_; intro Pq hPq))) | (with_reducible refine Aft.next (by assumption) ?_) | (with_reducible refine Aft.ret (by assumption) ?_) | (with_reducible refine Aft.brk (by assumption) ?_) | (with_reducible refine Aft.cont (by assumption) ?_) | ((fail_if_success (with_reducible show wpAny _ _ (call (.builtin _) _) _ _ _)); walk1) | fail "no step")
  (rename Fr _ _ _ _ => F7); (rename News _ _ _ _ => N7)
  refine PySem.W.len_K (f := 152) F7 lX (acc_inst (ds := D6) N7 (.tail _ (.tail _ (.head _))) (.tail _ (.tail _ (.tail _ (.head _))))) (by kernel_rfl) (by kernel_rfl) ?_
  refine len_claim w mean mg mb x dx D6 _ _ tz k kk p1 _ (.tail _ (.head _)) (.tail _ (.tail _ (.head _))) (fun e h => .tail _ (.tail _ (.tail _ (.tail _ (hds6 e h))))) htr1 (ap_1 H hA6) _ _ _ _ _ _ _ _ _ _ _ _ _ _ _ _ _ _ _ lB F7 lX N7 lT rfl hbare hbd6 (by show dp + 1 + 10 < _; omega) (by show un + 3 + 1 + 8 * 10 < _; omega) ?_
  intro t8 s8 p8 F8 N8 htr8 hb8 ho8 hd8
  dsimp only [PySem.W.LenBack]
  rw [hsum6]
  refine ⟨by omega, ?_⟩
  clear F7 N7
  repeat' (first | (k_unfold; (try dsimp only)) | ((with_reducible show wpAny _ _ (execs (_ :: _) _) _ _ _); (first | (refine exCons s8 ?_; intro kS Pq hPq) | (refine exCons0 ?_; intro Pq hPq))) | (with_reducible refine Aft.next (by assumption) ?_) | (with_reducible refine Aft.ret (by assumption) ?_) | (with_reducible refine Aft.brk (by assumption) ?_) | (with_reducible refine Aft.cont (by assumption) ?_) | ((fail_if_success (with_reducible show wpAny _ _ (getMethod (.ref x) _ _) _ _ _)); walk1) | fail "no step")
  (rename Fr _ _ _ _ => F9); (rename News _ _ _ _ => N9)
  refine accO_meth (f := 174) F9 lX N9 (.tail _ (.tail _ (.head _))) (.tail _ (.tail _ (.tail _ (.head _)))) (by kernel_rfl) (by kernel_rfl) rfl ?_
  repeat' (first | (k_unfold; (try dsimp only)) | ((with_reducible show wpAny _ _ (execs (_ :: _) _) _ _ _); (first | (refine exCons s8 ?_; intro kS Pq hPq) | (refine exCons0 ?_; intro Pq hPq))) | (with_reducible refine Aft.next (by assumption) ?_) | (with_reducible refine Aft.ret (by assumption) ?_) | (with_reducible refine Aft.brk (by assumption) ?_) | (with_reducible refine Aft.cont (by assumption) ?_) | ((fail_if_success (with_reducible show wpAny _ _ (call (.ref 174) _) _ _ _)); walk1) | fail "no step")
  refine onlyZ_claim w mean mg mb x dx _ _ z tz k kk _ (.tail _ (.tail _ (.head _))) (.tail _ (.tail _ (.tail _ (.head _)))) _ _ _ _ _ _ _ _ _ _ _ _ _ _ _ _ _ _ _ lB F9 lX N9 lT rfl (by omega) (by show dp + 1 + 20 < _; omega) (by show un + 3 + 8 * 20 < _; omega) ?_
  intro h10 tk10 F10 N10
  (try clear F9 N9); (try clear F8 N8)
  (try dsimp only)
  repeat' (first | (k_unfold; (try dsimp only)) | ((with_reducible show wpAny _ _ (execs (_ :: _) _) _ _ _); (first | (refine exCons s8 ?_; intro kS Pq hPq) | (refine exCons0 ?_; intro Pq hPq))) | (with_reducible refine Aft.next (by assumption) ?_) | (with_reducible refine Aft.ret (by assumption) ?_) | (with_reducible refine Aft.brk (by assumption) ?_) | (with_reducible refine Aft.cont (by assumption) ?_) | ((fail_if_success (with_reducible show wpAny _ _ (call (.type _) _) _ _ _)); walk1) | fail "no step")
  (rename Fr _ _ _ _ => F12); (rename News _ _ _ _ => N12)
  refine kso_call (K := hd.heap_39 w.params) (f := 159) ?hu9 (lX.keeps F12.keep) (acc_inst (s := { s8 with heap := _, toks := _ }) (ds := D6) N12 (.tail _ (.tail _ (.head _))) (.tail _ (.tail _ (.tail _ (.head _))))) (by kernel_rfl) (by kernel_rfl) ?_
  case hu9 => (show un + 3 + 2 < _; omega)
  refine str_claim w mean mg mb x dx D6 _ _ tz k kk p2 _ (.tail _ (.head _)) (.tail _ (.tail _ (.head _))) (fun e h => .tail _ (.tail _ (.tail _ (.tail _ (hds6 e h))))) htr2 (ap_2 H hA6) _ _ _ _ _ _ _ _ _ _ _ _ _ _ _ _ _ _ _ lB F12 lX (swap2 N12) lT rfl hb8 hbd6 (by show dp + 1 + 10 < _; omega) (by show un + 3 + 2 + 8 * 10 < _; omega) ?_
  intro t13 s13 p13 F13 N13 htr13 hb13 ho13 hd13
  rw [htx6]
  replace N13 := swap2 N13
  (try clear F12 N12); (try clear F10 N10)
  dsimp only [StrBack]
  repeat' (first | (k_unfold; (try dsimp only)) | ((with_reducible show wpAny _ _ (execs (_ :: _) _) _ _ _); (first | (refine exCons s13 ?_; intro kS Pq hPq) | (refine exCons0 ?_; intro Pq hPq))) | (with_reducible refine Aft.next (by assumption) ?_) | (with_reducible refine Aft.ret (by assumption) ?_) | (with_reducible refine Aft.brk (by assumption) ?_) | (with_reducible refine Aft.cont (by assumption) ?_) | ((fail_if_success (with_reducible show wpAny _ _ (call (.builtin _) _) _ _ _)); walk1) | fail "no step")
  (rename Fr _ _ _ _ => F14); (rename News _ _ _ _ => N14)
  refine ll_append F14 (rot5 N14) (ap_l H hA6) (by omega) ?_
  intro h15 nl15 F15 N15
  replace N15 := tor5 N15
  (try clear F14 N14); (try clear F13 N13)
  repeat' (first | (k_unfold; (try dsimp only)) | ((with_reducible show wpAny _ _ (execs (_ :: _) _) _ _ _); (first | (refine exCons s13 ?_; intro kS Pq hPq) | (refine exCons0 ?_; intro Pq hPq))) | (with_reducible refine Aft.next (by assumption) ?_) | (with_reducible refine Aft.ret (by assumption) ?_) | (with_reducible refine Aft.brk (by assumption) ?_) | (with_reducible refine Aft.cont (by assumption) ?_) | ((fail_if_success (with_reducible show wpAny _ _ (getMethod (.ref x) _ _) _ _ _)); walk1) | fail "no step")
  (rename Fr _ _ _ _ => F16); (rename News _ _ _ _ => N16)
  refine accO_meth (f := 167) F16 lX N16 (.tail _ (.tail _ (.head _))) (.tail _ (.tail _ (.tail _ (.head _)))) (by kernel_rfl) (by kernel_rfl) rfl ?_
  repeat' (first | (k_unfold; (try dsimp only)) | ((with_reducible show wpAny _ _ (execs (_ :: _) _) _ _ _); (first | (refine exCons s13 ?_; intro kS Pq hPq) | (refine exCons0 ?_; intro Pq hPq))) | (with_reducible refine Aft.next (by assumption) ?_) | (with_reducible refine Aft.ret (by assumption) ?_) | (with_reducible refine Aft.brk (by assumption) ?_) | (with_reducible refine Aft.cont (by assumption) ?_) | ((fail_if_success (with_reducible show wpAny _ _ (call (.ref 167) _) _ _ _)); walk1) | fail "no step")
  refine reset0_claim w mean mg mb x dx _ _ _ tz k kk _ (ap_x2 H hA6) (ap_d2 H hA6) _ _ _ _ _ _ _ _ _ _ _ _ _ _ _ _ _ _ _ lB F16 lX (rot4 N16) lT rfl hsz6 (by show dp + 1 + 20 < _; omega) (by show un + 3 + 8 * 20 < _; omega) ?_
  intro h17 tk17 nn17 tz17 F17 N17
  replace N17 := rot4 N17
  (try clear F16 N16); (try clear F15 N15)
  repeat' (first | (k_unfold; (try dsimp only)) | ((with_reducible show wpAny _ _ (execs (_ :: _) _) _ _ _); (first | (refine exCons s13 ?_; intro kS Pq hPq) | (refine exCons0 ?_; intro Pq hPq))) | (with_reducible refine Aft.next (by assumption) ?_) | (with_reducible refine Aft.ret (by assumption) ?_) | (with_reducible refine Aft.brk (by assumption) ?_) | (with_reducible refine Aft.cont (by assumption) ?_) | (k_end; wrow_close) | walk1 | (dsimp only; walk1) | (leave1; try dsimp only) | fail "no step")
  rename News h₀ L _ _ => kN9
  exact hret _ _ _ _ _ _ _ _ (by assumption) kN9 (fun q hq => .tail _ hq) hA6 htr8 htr13 hb13 (ho13.trans ho8) (hd13.trans hd8)
end
end Mine
end
section
open PySem PySem.W PyProof.Rows PySem.Calls PySem.Spec
set_option Elab.async false
namespace Mine
/-- what a turn of a loop must leave: its iterator untouched, the names, the ledger, the generators in J -/
inductive TurnEnds (h₀ : Heap) (L I : Addr) (it : Obj) (J : (Str → Option Value) → List (Addr × Obj) → Array GenState → Prop) (s₁ s₃ : Shared) : Prop where
  | mk m' nx' (h1 : Fr h₀ L s₃.heap m') (h2 : News h₀ L s₃.heap ((I, it) :: nx')) (h3 : (∀ p ∈ nx', p.1 ≠ I)) (h4 : s₃.os = s₁.os) (h5 : s₃.drawn = s₁.drawn) (h6 : J m' nx' s₃.gens) : TurnEnds h₀ L I it J s₁ s₃
inductive InvM (St : Nat → Heap → Prop) (h₀ : Heap) (L I : Addr) (n : Nat) (J : Nat → (Str → Option Value) → List (Addr × Obj) → Array GenState → Prop) (s : Shared) (k : Nat) (s' : Shared) : Prop where
  | mk m' nx i (h1 : St i s'.heap) (h2 : Fr h₀ L s'.heap m') (h3 : News h₀ L s'.heap nx) (h4 : ∀ p ∈ nx, p.1 ≠ I) (h5 : s'.os = s.os) (h6 : s'.drawn = s.drawn) (h7 : J i m' nx s'.gens) (h8 : i ≤ n) (h9 : k = n + 1 - i) : InvM St h₀ L I n J s k s'
noncomputable def TurnIs (h₀ : Heap) (L I : Addr) (it : Obj) (J : (Str → Option Value) → List (Addr × Obj) → Array GenState → Prop) (Q : Flow → Shared → Prop) (s₁ : Shared) (f : Flow) (s₃ : Shared) : Prop :=
  match f with
  | .ret v => Q (.ret v) s₃
  | .brk => Q .next s₃
  | _ => TurnEnds h₀ L I it J s₁ s₃
section
variable {prog : Program} {w : World} {A : Around} {E : Value → Shared → Prop} {s : Shared} {env : Env} {h₀ : Heap} {x : Str} {body orelse : List Stmt} {Q : Flow → Shared → Prop}
theorem my_loop {R : Result → Shared → Prop} {px : Pos} {I : Addr} {n : Nat} {P : Nat → Value → Prop} {St : Nat → Heap → Prop} {m : Str → Option Value} {news : List (Addr × Obj)}
    (W : Walks prog w A I [I] [I] n P St) (hlive : ∀ i h, St i h → ∃ o, h.get? I = some o ∧ o.cls ≠ .type "tuple") (hx : env.kindOf x = some .local) (hp : (env.scope.kind == .class || (env.scope.kind == .module && env.locals != env.globals)) = false)
    (hIL : I ≠ env.locals) (hI0 : h₀.get? I = none) (hst : St 0 s.heap) (F : Fr h₀ env.locals s.heap m) (N : News h₀ env.locals s.heap news) (hoff : ∀ p ∈ news, p.1 ≠ I)
    (J : Nat → (Str → Option Value) → List (Addr × Obj) → Array GenState → Prop) (h0 : J 0 m news s.gens)
    (step : ∀ i v m₁ nx it s₁, i < n → P i v → J i m₁ nx s₁.gens → s₁.os = s.os → s₁.drawn = s.drawn → (∀ p ∈ nx, p.1 ≠ I) → it.cls ≠ .type "tuple" → Fr h₀ env.locals s₁.heap (fun y => if y = x then some v else m₁ y) → News h₀ env.locals s₁.heap ((I, it) :: nx) →
      wpAny (model prog w) A (execs body env) (TurnIs h₀ env.locals I it (J (i + 1)) (fun f s' => R (.ok f) s') s₁) (notedBy (model prog w) A env fun e s' => R (.error e) s') s₁)
    (done : ∀ m₁ nx s₁, J n m₁ nx s₁.gens → s₁.os = s.os → s₁.drawn = s.drawn → Fr h₀ env.locals s₁.heap m₁ → News h₀ env.locals s₁.heap nx → wpAny (model prog w) A (execs orelse env) (fun f s' => R (.ok f) s') (notedBy (model prog w) A env fun e s' => R (.error e) s') s₁) :
    codeAny (model prog w) A (.forLoop (.Name x px) (.ref I) body orelse env) R s := by
  refine codeAny_forLoop (InvM St h₀ env.locals I n J s) ?_ (n + 1)
    ⟨m, news, 0, hst, F, N, hoff, rfl, rfl, h0, Nat.zero_le _, rfl⟩
  rintro k s' ⟨m', nx, i, hst', F', N', hoff', ho, hd, hJ, hi, rfl⟩
  have next : ∀ h₁ : Heap, (∀ b o, b ∉ [I] → s'.heap.get? b = some o → h₁.get? b = some o) → Fr h₀ env.locals h₁ m' ∧ News h₀ env.locals h₁ nx := by
    intro h₁ hk
    have off : ∀ b : Addr, b ≠ I → b ∉ [I] := fun b hb hm => hb (List.mem_singleton.mp hm)
    refine ⟨⟨F'.ns.at' fun o e => hk _ o (off _ hIL.symm) e, fun b o e => hk b o (off b fun q => ?_) (F'.keep b o e), F'.above⟩, fun p hp => ⟨hk _ _ (off _ (hoff' p hp)) (N' p hp).1, (N' p hp).2⟩⟩
    rw [q, hI0] at e
    cases e
  by_cases hlt : i < n
  · refine W.item i _ _ _ hlt hst' fun v h₁ tk₁ hP hst₁ hk₁ => ?_
    obtain ⟨F₁, N₁⟩ := next h₁ hk₁
    refine wpAny_assign_Name (wpAny_storeName_local hx F₁.ns (fun h₂ hn₂ hs₂ => ?_) hp)
    have F₂ := F₁.set hn₂ hs₂
    have hst₂ : St (i + 1) h₂ := W.frame _ _ _ hst₁ fun b hb o e => (hs₂.2 b fun q => hIL ((List.mem_singleton.mp hb).symm.trans q)).trans e
    obtain ⟨it, hit, hcls⟩ := hlive _ _ hst₂
    have N₂ : News h₀ env.locals h₂ ((I, it) :: nx) := fun p hp => by
      rcases List.mem_cons.mp hp with rfl | hp
      · exact ⟨hit, hIL, hI0⟩
      · exact (N₁.set hs₂) p hp
    refine wpAny_mono (step i v m' nx it _ hlt hP hJ ho hd hoff' hcls F₂ N₂) (fun f s₃ h₃ => ?_) fun _ _ e => e
    have fin : TurnEnds h₀ env.locals I it (J (i + 1)) { s' with heap := h₂, toks := tk₁ + 1 } s₃ → ∃ m_1, m_1 < n + 1 - i ∧ InvM St h₀ env.locals I n J s m_1 s₃ := by
      rintro ⟨m₂, nx₂, F₃, N₃, ha₃, ho₃, hd₃, hJ₃⟩
      refine ⟨n + 1 - (i + 1), by omega, m₂, nx₂, i + 1, W.frame _ _ _ hst₂ fun b hb o e => ?_, F₃, fun p hp => N₃ p (.tail _ hp), ha₃, ho₃.trans ho, hd₃.trans hd, hJ₃, hlt, rfl⟩
      have q := List.mem_singleton.mp hb
      subst q
      rw [hit] at e
      cases e
      exact (N₃ _ (.head _)).1
    cases f with
    | ret v => exact h₃
    | brk => exact h₃
    | next => exact fin h₃
    | cont => exact fin h₃
  · have hin : i = n := by omega
    subst hin
    refine W.done _ _ _ hst' fun h₁ tk₁ hk₁ => ?_
    obtain ⟨F₁, N₁⟩ := next h₁ hk₁
    exact done m' nx _ hJ ho hd F₁ N₁
inductive LoopM (prog : Program) (w : World) (A : Around) (h₀ : Heap) (env : Env) (x : Str) (body orelse : List Stmt) (Q : Flow → Shared → Prop) (E : Value → Shared → Prop) (itv : Value) (s : Shared) : Prop where
  | mk (I : Addr) (n : Nat) (P : Nat → Value → Prop) (St : Nat → Heap → Prop) (m : Str → Option Value) (news : List (Addr × Obj)) (J : Nat → (Str → Option Value) → List (Addr × Obj) → Array GenState → Prop) (h1 : itv = .ref I) (h2 : Walks prog w A I [I] [I] n P St) (h3 : (∀ i h, St i h → ∃ o, h.get? I = some o ∧ o.cls ≠ .type "tuple")) (h4 : I ≠ env.locals) (h5 : h₀.get? I = none) (h6 : St 0 s.heap) (h7 : Fr h₀ env.locals s.heap m) (h8 : News h₀ env.locals s.heap news) (h9 : (∀ p ∈ news, p.1 ≠ I)) (h10 : J 0 m news s.gens) (h11 : (∀ i v m₁ nx it s₁, i < n → P i v → J i m₁ nx s₁.gens → s₁.os = s.os → s₁.drawn = s.drawn → (∀ p ∈ nx, p.1 ≠ I) → it.cls ≠ .type "tuple" → Fr h₀ env.locals s₁.heap (fun y => if y = x then some v else m₁ y) → News h₀ env.locals s₁.heap ((I, it) :: nx) → wpAny (model prog w) A (execs body env) (TurnIs h₀ env.locals I it (J (i + 1)) Q s₁) E s₁)) (h12 : (∀ m₁ nx s₁, J n m₁ nx s₁.gens → s₁.os = s.os → s₁.drawn = s.drawn → Fr h₀ env.locals s₁.heap m₁ → News h₀ env.locals s₁.heap nx → wpAny (model prog w) A (execs orelse env) Q E s₁)) : LoopM prog w A h₀ env x body orelse Q E itv s
theorem my_For {iter : PySem.Expr} {px pos : Pos} {m₉ : Str → Option Value} (_F : Fr h₀ env.locals s.heap m₉) (hx : env.kindOf x = some .local) (hp : (env.scope.kind == .class || (env.scope.kind == .module && env.locals != env.globals)) = false)
    (h : wpAny (model prog w) A (eval iter env) (fun xv s₁ => wpAny (model prog w) A (pyIter xv) (fun it s₂ => LoopM prog w A h₀ env x body orelse Q E it s₂) E s₁) E s)
    (hs : ∀ x, foldedSetIterable iter env x = pure x := by intro _; rfl) (hE : PassesOwn (model prog w) A env E := by passes_own) :
    wpAny (model prog w) A (exec (.For (.Name x px) iter body orelse pos) env) Q E s := by
  refine wpAny_For (wpAny_mono h (fun xv s₁ h₁ => wpAny_mono h₁ (fun it s₂ h₂ => ?_) fun _ _ e => e) fun _ _ e => e) hs
  obtain ⟨I, n, P, St, m, news, J, rfl, W, hl, hIL, hI0, hst, F, N, hoff, h0, step, done⟩ := h₂
  exact my_loop (R := fun r s' => match r with | .ok f => Q f s' | .error e => cameBackBy (model prog w) A env E e s') W hl hx hp hIL hI0 hst F N hoff J h0
    (fun i v m₁ nx it s₁ a b c d e f g k l => wpAny_passesOwn hE (step i v m₁ nx it s₁ a b c d e f g k l)) (fun m₁ nx s₁ a b c d e => wpAny_passesOwn hE (done m₁ nx s₁ a b c d e))
theorem my_range {r : Addr} {a b c : Int} {t u v : Tok} {n : Nat} {m : Str → Option Value} {news : List (Addr × Obj)} (J : Nat → (Str → Option Value) → List (Addr × Obj) → Array GenState → Prop)
    (hh : A.handled = none) (hr : IsRange s.heap r a b c t u v) (hsmall : Builtin.Range.small a b c = true) (hn : Builtin.Range.rangeSize a b c = (n : Int)) (F : Fr h₀ env.locals s.heap m) (N : News h₀ env.locals s.heap news) (h0 : J 0 m news s.gens)
    (step : ∀ I, (∀ p ∈ news, @LT.lt Nat _ p.1 I) → ∀ i t m₁ nx it s₁, i < n → J i m₁ nx s₁.gens → s₁.os = s.os → s₁.drawn = s.drawn → (∀ p ∈ nx, p.1 ≠ I) → it.cls ≠ .type "tuple" → Fr h₀ env.locals s₁.heap (fun y => if y = x then some (.int (a + i * c) t) else m₁ y) → News h₀ env.locals s₁.heap ((I, it) :: nx) →
      wpAny (model prog w) A (execs body env) (TurnIs h₀ env.locals I it (J (i + 1)) Q s₁) E s₁)
    (done : ∀ m₁ nx s₁, J n m₁ nx s₁.gens → s₁.os = s.os → s₁.drawn = s.drawn → Fr h₀ env.locals s₁.heap m₁ → News h₀ env.locals s₁.heap nx → wpAny (model prog w) A (execs orelse env) Q E s₁) :
    wpAny (model prog w) A (pyIter (.ref r)) (fun it s₂ => LoopM prog w A h₀ env x body orelse Q E it s₂) E s := by
  have lt : ∀ p ∈ news, @LT.lt Nat _ p.1 s.heap.objs.size := fun p hp => Heap.lt_size (N p hp).1
  refine wpAny_pyIter_range hr hsmall ⟨s.heap.objs.size, n, _, _, m, news, J, rfl, Walks.range hh _ a c n, fun i h st => ⟨_, st, by simp⟩, ?_, next_is_new F, ?_, F.push _, (fun p hp => ⟨Heap.get?_push_of_some _ (N p hp).1, (N p hp).2⟩), fun p hp => Nat.ne_of_lt (lt p hp), h0, ?_, done⟩
  · exact Nat.ne_of_gt F.ns.lt
  · show IsRangeIter _ _ _ _ _
    rw [hn]
    simpa using Heap.get?_push_size _ rfl
  · rintro i v m₁ nx it s₁ h1 ⟨t, rfl⟩ h2 h3 h4 h5 h6 h7 h8
    exact step _ lt i t m₁ nx it s₁ h1 h2 h3 h4 h5 h6 h7 h8
theorem my_str {tx : Str} {t : Tok} {m : Str → Option Value} {news : List (Addr × Obj)} (J : Nat → (Str → Option Value) → List (Addr × Obj) → Array GenState → Prop)
    (hh : A.handled = none) (F : Fr h₀ env.locals s.heap m) (N : News h₀ env.locals s.heap news) (h0 : J 0 m news s.gens)
    (step : ∀ I, (∀ p ∈ news, @LT.lt Nat _ p.1 I) → ∀ i c u m₁ nx it s₁, (signs tx)[i]? = some c → J i m₁ nx s₁.gens → s₁.os = s.os → s₁.drawn = s.drawn → (∀ p ∈ nx, p.1 ≠ I) → it.cls ≠ .type "tuple" → Fr h₀ env.locals s₁.heap (fun y => if y = x then some (.str c u) else m₁ y) → News h₀ env.locals s₁.heap ((I, it) :: nx) →
      wpAny (model prog w) A (execs body env) (TurnIs h₀ env.locals I it (J (i + 1)) Q s₁) E s₁)
    (done : ∀ m₁ nx s₁, J (signs tx).length m₁ nx s₁.gens → s₁.os = s.os → s₁.drawn = s.drawn → Fr h₀ env.locals s₁.heap m₁ → News h₀ env.locals s₁.heap nx → wpAny (model prog w) A (execs orelse env) Q E s₁) :
    wpAny (model prog w) A (pyIter (.str tx t)) (fun it s₂ => LoopM prog w A h₀ env x body orelse Q E it s₂) E s := by
  have lt : ∀ p ∈ news, @LT.lt Nat _ p.1 s.heap.objs.size := fun p hp => Heap.lt_size (N p hp).1
  have hlen : (signs tx).length = tx.cps.size := by unfold signs; rw [List.length_map, Array.length_toList]
  have go : ∀ (T : String) (o : Obj), (Value.type T ≠ .type "tuple") → Walks prog w A s.heap.objs.size [s.heap.objs.size] [s.heap.objs.size] tx.cps.size (SignAt tx) (fun i h => h.IsStrIter s.heap.objs.size T tx t i) →
      (s.heap.push o).IsStrIter s.heap.objs.size T tx t 0 → LoopM prog w A h₀ env x body orelse Q E (.ref s.heap.objs.size) { s with heap := s.heap.push o } := by
    intro T o hT W hst
    refine ⟨s.heap.objs.size, tx.cps.size, _, _, m, news, J, rfl, W, fun i h st => let ⟨o, e, c, _⟩ := st; ⟨o, e, by rw [c]; exact hT⟩, Nat.ne_of_gt F.ns.lt, next_is_new F, hst, F.push _, (fun p hp => ⟨Heap.get?_push_of_some _ (N p hp).1, (N p hp).2⟩), fun p hp => Nat.ne_of_lt (lt p hp), h0, ?_, ?_⟩
    · rintro i v m₁ nx it s₁ h1 ⟨c, u, hc, rfl⟩ h2 h3 h4 h5 h6 h7 h8
      refine step _ lt i _ u m₁ nx it s₁ ?_ h2 h3 h4 h5 h6 h7 h8
      unfold signs
      rw [List.getElem?_map, Array.getElem?_toList, hc]
      rfl
    · intro m₁ nx s₁ h2
      rw [← hlen] at h2
      exact done m₁ nx s₁ h2
  cases ha : tx.cps.all (· < 128)
  · exact wpAny_pyIter_wide ha (go _ _ (by simp) (Walks.strWide hh _ tx t) ⟨_, Heap.get?_push_size _ rfl, rfl, rfl⟩)
  · exact wpAny_pyIter_ascii ha (go _ _ (by simp) (Walks.strAscii hh _ tx t) ⟨_, Heap.get?_push_size _ rfl, rfl, rfl⟩)
end
end Mine
end
section
open PySem PySem.W PyProof.Rows PySem.Calls PySem.Spec
set_option Elab.async false
namespace Mine
/-- what a loop keeps: the names but for some, the ledger, bare generators -/
inductive JK (P : Nat → Prop) (stored : List Str) (m : Str → Option Value) (news : List (Addr × Obj)) (i : Nat) (m' : Str → Option Value) (nx : List (Addr × Obj)) (g : Array GenState) : Prop where
  | mk (h1 : P i) (h2 : (∀ y, stored.contains y = false → m' y = m y)) (h3 : nx = news) (h4 : AllBare g) : JK P stored m news i m' nx g
theorem keep_map {stored : List Str} {m m' : Str → Option Value} (hm : ∀ y, stored.contains y = false → m' y = m y) : m' = fun y => if stored.contains y then m' y else m y := by
  funext y
  cases h : stored.contains y with
  | true => simp
  | false => simp [hm y h]
theorem keep_map1 {x : Str} {v : Option Value} {stored : List Str} {m m' : Str → Option Value} (hm : ∀ y, stored.contains y = false → m' y = m y) : (fun y => if y = x then v else m' y) = fun y => if y = x then v else if stored.contains y then m' y else m y := by
  funext y
  cases h : stored.contains y with
  | true => simp
  | false => simp [hm y h]
theorem JK_ends {P : Nat → Prop} {stored : List Str} {m m' : Str → Option Value} {news own : List (Addr × Obj)} {i : Nat} {h₀ : Heap} {L I : Addr} {it : Obj} {s₁ s₃ : Shared} (hP : P i) (F : Fr h₀ L s₃.heap m') (N : News h₀ L s₃.heap own) (hs : ∀ p ∈ (I, it) :: news, p ∈ own) (hoff : ∀ p ∈ news, p.1 ≠ I)
    (ho : s₃.os = s₁.os) (hd : s₃.drawn = s₁.drawn) (hb : AllBare s₃.gens) (hm : ∀ y, stored.contains y = false → m' y = m y) : TurnEnds h₀ L I it (JK P stored m news i) s₁ s₃ :=
  ⟨m', news, F, fun p hp => N p (hs p hp), hoff, ho, hd, hP, hm, rfl, hb⟩
section
variable {prog : Program} {w : World} {A : Around} {E : Value → Shared → Prop} {s : Shared} {env : Env} {h₀ : Heap} {x : Str} {body orelse : List Stmt} {Q : Flow → Shared → Prop}
theorem my_strK {tx : Str} {t : Tok} {m : Str → Option Value} {news : List (Addr × Obj)} (P : Nat → Prop) (stored : List Str)
    (hh : A.handled = none) (F : Fr h₀ env.locals s.heap m) (N : News h₀ env.locals s.heap news) (hb : AllBare s.gens) (hP : P 0)
    (step : ∀ I, (∀ p ∈ news, @LT.lt Nat _ p.1 I) → ∀ i c u (U : Str → Option Value) it s₁, (signs tx)[i]? = some c → P i → AllBare s₁.gens → s₁.os = s.os → s₁.drawn = s.drawn → Fr h₀ env.locals s₁.heap (fun y => if y = x then some (.str c u) else if stored.contains y then U y else m y) → News h₀ env.locals s₁.heap ((I, it) :: news) →
      wpAny (model prog w) A (execs body env) (TurnIs h₀ env.locals I it (JK P stored m news (i + 1)) Q s₁) E s₁)
    (done : ∀ (U : Str → Option Value) s₁, P (signs tx).length → AllBare s₁.gens → s₁.os = s.os → s₁.drawn = s.drawn → Fr h₀ env.locals s₁.heap (fun y => if stored.contains y then U y else m y) → News h₀ env.locals s₁.heap news → wpAny (model prog w) A (execs orelse env) Q E s₁) :
    wpAny (model prog w) A (pyIter (.str tx t)) (fun it s₂ => LoopM prog w A h₀ env x body orelse Q E it s₂) E s := by
  refine my_str (JK P stored m news) hh F N ⟨hP, fun _ _ => rfl, rfl, hb⟩ ?_ ?_
  · rintro I hI i c u m₁ nx it s₁ hc ⟨hp, hm, rfl, hg⟩ ho hd _ _ F₁ N₁
    rw [keep_map1 hm] at F₁
    exact step I hI i c u m₁ it s₁ hc hp hg ho hd F₁ N₁
  · rintro m₁ nx s₁ ⟨hp, hm, rfl, hg⟩ ho hd F₁ N₁
    rw [keep_map hm] at F₁
    exact done m₁ s₁ hp hg ho hd F₁ N₁
theorem my_rangeK {r : Addr} {a b c : Int} {t u v : Tok} {n : Nat} {m : Str → Option Value} {news : List (Addr × Obj)} (P : Nat → Prop) (stored : List Str)
    (hh : A.handled = none) (hr : IsRange s.heap r a b c t u v) (hsmall : Builtin.Range.small a b c = true) (hn : Builtin.Range.rangeSize a b c = (n : Int)) (F : Fr h₀ env.locals s.heap m) (N : News h₀ env.locals s.heap news) (hb : AllBare s.gens) (hP : P 0)
    (step : ∀ I, (∀ p ∈ news, @LT.lt Nat _ p.1 I) → ∀ i t (U : Str → Option Value) it s₁, i < n → P i → AllBare s₁.gens → s₁.os = s.os → s₁.drawn = s.drawn → Fr h₀ env.locals s₁.heap (fun y => if y = x then some (.int (a + i * c) t) else if stored.contains y then U y else m y) → News h₀ env.locals s₁.heap ((I, it) :: news) →
      wpAny (model prog w) A (execs body env) (TurnIs h₀ env.locals I it (JK P stored m news (i + 1)) Q s₁) E s₁)
    (done : ∀ (U : Str → Option Value) s₁, P n → AllBare s₁.gens → s₁.os = s.os → s₁.drawn = s.drawn → Fr h₀ env.locals s₁.heap (fun y => if stored.contains y then U y else m y) → News h₀ env.locals s₁.heap news → wpAny (model prog w) A (execs orelse env) Q E s₁) :
    wpAny (model prog w) A (pyIter (.ref r)) (fun it s₂ => LoopM prog w A h₀ env x body orelse Q E it s₂) E s := by
  refine my_range (JK P stored m news) hh hr hsmall hn F N ⟨hP, fun _ _ => rfl, rfl, hb⟩ ?_ ?_
  · rintro I hI i t m₁ nx it s₁ hi ⟨hp, hm, rfl, hg⟩ ho hd _ _ F₁ N₁
    rw [keep_map1 hm] at F₁
    exact step I hI i t m₁ it s₁ hi hp hg ho hd F₁ N₁
  · rintro m₁ nx s₁ ⟨hp, hm, rfl, hg⟩ ho hd F₁ N₁
    rw [keep_map hm] at F₁
    exact done m₁ s₁ hp hg ho hd F₁ N₁
end
theorem range_down (n : Nat) : Builtin.Range.rangeSize n 0 (-1) = (n : Int) := by
  unfold Builtin.Range.rangeSize
  rw [if_neg (by decide)]
  have e : -(-1 : Int) = 1 := rfl
  rw [e, Int.ediv_one]
  split
  · omega
  · omega
theorem small_down (n : Nat) (h : n ≤ 1000) : Builtin.Range.small n 0 (-1) = true := by
  unfold Builtin.Range.small
  rw [range_down]
  simp only [Builtin.Range.rangeFitsLong, Bool.and_eq_true, Bool.or_eq_true, decide_eq_true_eq, beq_iff_eq]
  refine ⟨⟨⟨⟨by omega, by omega⟩, by omega⟩, by omega⟩, .inr ?_⟩
  rw [if_neg (by decide)]
  simp
end Mine
end
section
open PySem PySem.W PyProof.Rows PySem.Calls PySem.Spec
set_option Elab.async false
namespace Mine
noncomputable def Chunk (mx : Int) (ds : List Part) (z : Int) (lns : Array Value) (c : Str) (ds' : List Part) (z' : Int) (lns' : Array Value) : Prop :=
  if z + 2 * ((ds.length : Int) + 1) ≤ mx then ds'.map (·.p) = ds.map (·.p) ++ [c] ∧ z' = z ∧ lns' = lns
  else ds'.map (·.p) = [c] ∧ z' = 0 ∧ ∃ t, lns' = lns.push (.str (Txt.join (Str.ofString "") (ds.map partText)) t)
section
set_option maxRecDepth 100000 in
set_option maxHeartbeats 4000000 in
theorem chunk1_claim (w : World) (mean : ExcName → Option Value) (mg mb : Str → Option Value) (v dv x dx ll : Addr) (mx : Int) (tm tc ts : Tok) (cv : Value) (k1 k2 k3 k4 k5 k6 : Tok) (ds : List Part) (c : Str) (tf tcc : Tok) (nn nl : Nat) (lns : Array Value) (z : Int) (tz k : Tok) (kk : Nat) (p1 p2 : Array Value) (rest : List (Addr × Obj)) (hv : (v, instObj 101 dv) ∈ rest) (hdv : (dv, vfDict w.params mx tm tc ts cv ll x k1 k2 k3 k4 k5 k6) ∈ rest) (hds : PartsIn rest ds) (hA : Apart x dx ll rest) (htr1 : TriplesOk p1.toList) (htr2 : TriplesOk p2.toList) :
  ∀ (dp un : Nat) (gd : Option (List Code)) (cn : Str) (cs : Scope) (a : Addr) (ccd : Value) (cl : List (Str × Addr)) (outer : List Env) (A₀ : Around) (base h₀ : Heap) (L : Addr) (m : Str → Option Value) (s : Shared) (Q E : Value → Shared → Prop) (p : Program) (loose : List Str),
    Below A₀ base outer h₀ → Fr h₀ L s.heap m → (hd.heap_39 w.params).In h₀ → News h₀ L s.heap ((147, tabObj p1) :: (154, tabObj p2) :: (x, accO dx (ds.map fun e => Value.ref e.a).toArray nn) :: (dx, accDict w.params z tz k kk) :: (ll, listOf lns nl) :: rest) → Top p loose mean mg mb h₀ → cs.kind = .function → AllBare s.gens →
    Mk ds → (c = Str.ofString "a" ∨ c = Str.ofString "b") → (ds.length ≤ 20 ∧ lns.size ≤ 100 ∧ 0 ≤ z ∧ z ≤ 1000) → z + 2 * ((ds.length : Int) + 1) ≤ mx → dp + 60 < recursionLimit → un + 8 * 60 < cLine →
    (∀ (s' : Shared) p1' p2' ds' z' nn' nl' tz' lns' rest', Fr h₀ L s'.heap m → News h₀ L s'.heap ((147, tabObj p1') :: (154, tabObj p2') :: (x, accO dx (ds'.map fun e => Value.ref e.a).toArray nn') :: (dx, accDict w.params z' tz' k kk) :: (ll, listOf lns' nl') :: rest') → (∀ q ∈ rest, q ∈ rest') → Apart x dx ll rest' → PartsIn rest' ds' → Mk ds' → Chunk mx ds z lns c ds' z' lns' → TriplesOk p1'.toList → TriplesOk p2'.toList → AllBare s'.gens → s'.os = s.os → s'.drawn = s.drawn → Q .none s') →
      wpAny (model Challenge.rw_sr0083_01.row.prog w) (ktrTop dp un gd cn cs L a ccd cl outer) (call (.ref 98) [.ref v, .str (Str.ofString " ") tf, .str c tcc]) Q E s := by
  k_fill
  intro dp un gd cn cs a ccd cl outer A₀ base h₀ L m s Q E p loose B F X N T hk hbare hm hc hz hfit hdp hu hret
  obtain ⟨hz1, hz2, hz3, hz4⟩ := hz
  refine wpAny_call ?_
  k_dflt cell_enter
  repeat' (first | (k_unfold; (try dsimp only)) | ((with_reducible show wpAny _ _ (execs (_ :: _) _) _ _ _); (first | (refine exCons s ?_; intro kS Pq hPq) | (refine exCons0 ?_; intro Pq hPq))) | (with_reducible refine Aft.next (by assumption) ?_) | (with_reducible refine Aft.ret (by assumption) ?_) | (with_reducible refine Aft.brk (by assumption) ?_) | (with_reducible refine Aft.cont (by assumption) ?_) | ((fail_if_success (with_reducible show wpAny _ _ (getMethod (.ref x) _ _) _ _ _)); walk1) | fail "no step")
  have H := heads_of N
  (rename Fr _ _ _ _ => F0); (rename News _ _ _ _ => N0); (rename Frag.In _ _ => lX); (rename Top _ _ _ _ _ _ => lT); (rename Below _ _ _ _ => lB)
  refine accO_meth (f := 129) F0 lX N0 (.tail _ (.tail _ (.head _))) (.tail _ (.tail _ (.tail _ (.head _)))) (by kernel_rfl) (by kernel_rfl) rfl ?_
  repeat' (first | (k_unfold; (try dsimp only)) | ((with_reducible show wpAny _ _ (execs (_ :: _) _) _ _ _); (first | (refine exCons s ?_; intro kS Pq hPq) | (refine exCons0 ?_; intro Pq hPq))) | (with_reducible refine Aft.next (by assumption) ?_) | (with_reducible refine Aft.ret (by assumption) ?_) | (with_reducible refine Aft.brk (by assumption) ?_) | (with_reducible refine Aft.cont (by assumption) ?_) | ((fail_if_success (with_reducible show wpAny _ _ (call _ _) _ _ _)); walk1) | fail "no step")
  refine push_claim w mean mg mb x dx _ (Str.ofString " ") c tf tcc nn z tz k kk _ (.tail _ (.tail _ (.head _))) (ap_x H hA) _ _ _ _ _ _ _ _ _ _ _ _ _ _ _ _ _ _ _ lB F0 lX (rot3 N0) lT rfl (by rw [List.size_toArray, List.length_map]; omega) (by show dp + 1 + 20 < _; omega) (by show un + 3 + 8 * 20 < _; omega) ?_
  intro T h6 tk6 nn6 F6 N6 O6
  have hA6 : Apart x dx ll ((T, pairO (Str.ofString " ") tf c tcc) :: rest) := hA.cons (Nat.ne_of_gt (O6 _ (.tail _ (.head _)))) (Nat.ne_of_gt (O6 _ (.tail _ (.tail _ (.head _))))) (Nat.ne_of_gt (O6 _ (.head _))) (Nat.ne_of_gt (O6 _ (.tail _ (.tail _ (.tail _ (.head _)))))) (Nat.ne_of_gt (O6 _ (.tail _ (.tail _ (.tail _ (.tail _ (.head _)))))))
  replace N6 := arr6 N6
  clear F0 N0
  have hm6 : Mk (ds ++ [⟨T, Str.ofString " ", tf, c, tcc⟩]) := by
    intro e he
    rcases List.mem_append.mp he with he | he
    · exact hm e he
    · rw [List.mem_singleton] at he
      subst he
      exact ⟨rfl, hc⟩
  have hds6 : PartsIn ((T, pairO (Str.ofString " ") tf c tcc) :: rest) (ds ++ [⟨T, Str.ofString " ", tf, c, tcc⟩]) := by
    intro e he
    rcases List.mem_append.mp he with he | he
    · exact .tail _ (hds e he)
    · rw [List.mem_singleton] at he
      subst he
      exact .head _
  have htx : (ds ++ ([⟨T, Str.ofString " ", tf, c, tcc⟩] : List Part)).map (·.p) = ds.map (·.p) ++ [c] := by
    rw [List.map_append]; rfl
  have hl6 : (ds ++ ([⟨T, Str.ofString " ", tf, c, tcc⟩] : List Part)).length = ds.length + 1 := by simp
  rw [push_ref ds ⟨T, Str.ofString " ", tf, c, tcc⟩] at N6
  generalize hD : ds ++ [⟨T, Str.ofString " ", tf, c, tcc⟩] = D6 at *
  (try dsimp only)
  have hbd6 := mk_bound hm6 (by omega)
  have hsum6 := mk_sum hm6
  repeat' (first | (k_unfold; (try dsimp only)) | ((with_reducible show wpAny _ _ (execs (_ :: _) _) _ _ _); (first | (refine exCons s ?_; intro kS Pq hPq) | (refine exCons0 ?_; intro Pq hPq))) | (with_reducible refine Aft.next (by assumption) ?_) | (with_reducible refine Aft.ret (by assumption) ?_) | (with_reducible refine Aft.brk (by assumption) ?_) | (with_reducible refine Aft.cont (by assumption) ?_) | ((fail_if_success (with_reducible show wpAny _ _ (call (.builtin _) _) _ _ _)); walk1) | fail "no step")
  (rename Fr _ _ _ _ => F7); (rename News _ _ _ _ => N7)
  refine PySem.W.len_K (f := 152) F7 lX (acc_inst (ds := D6) N7 (.tail _ (.tail _ (.head _))) (.tail _ (.tail _ (.tail _ (.head _))))) (by kernel_rfl) (by kernel_rfl) ?_
  refine len_claim w mean mg mb x dx D6 _ _ tz k kk p1 _ (.tail _ (.head _)) (.tail _ (.tail _ (.head _))) (fun e h => .tail _ (.tail _ (.tail _ (.tail _ (hds6 e h))))) htr1 (ap_1 H hA6) _ _ _ _ _ _ _ _ _ _ _ _ _ _ _ _ _ _ _ lB F7 lX N7 lT rfl hbare hbd6 (by show dp + 1 + 10 < _; omega) (by show un + 3 + 1 + 8 * 10 < _; omega) ?_
  intro t8 s8 p8 F8 N8 htr8 hb8 ho8 hd8
  dsimp only [PySem.W.LenBack]
  rw [hsum6]
  refine ⟨by omega, ?_⟩
  clear F7 N7
  repeat' (first | (k_unfold; (try dsimp only)) | ((with_reducible show wpAny _ _ (execs (_ :: _) _) _ _ _); (first | (refine exCons s8 ?_; intro kS Pq hPq) | (refine exCons0 ?_; intro Pq hPq))) | (with_reducible refine Aft.next (by assumption) ?_) | (with_reducible refine Aft.ret (by assumption) ?_) | (with_reducible refine Aft.brk (by assumption) ?_) | (with_reducible refine Aft.cont (by assumption) ?_) | (k_end; wrow_close) | walk1 | (dsimp only; walk1) | (leave1; try dsimp only) | fail "no step")
  rename News h₀ L _ _ => kN9
  refine hret _ _ _ D6 z _ _ _ _ _ (by assumption) kN9 (fun q hq => .tail _ hq) hA6 hds6 hm6 ?hch htr8 htr2 hb8 ho8 hd8
  case hch =>
    unfold Chunk
    rw [if_pos hfit]
    exact ⟨htx, rfl, rfl⟩
end
end Mine
end
section
open PySem PySem.W PyProof.Rows PySem.Calls PySem.Spec
set_option Elab.async false
namespace Mine
section
variable {h₀ h : Heap} {L : Addr} {a b c d : Addr × Obj} {l : List (Addr × Obj)}
theorem rot4y (N : News h₀ L h (a :: b :: c :: d :: l)) : News h₀ L h (d :: a :: b :: c :: l) := fun q hq => N q (by simp only [List.mem_cons] at hq ⊢; rcases hq with h | h | h | h | h <;> simp [h])
theorem tor4y (N : News h₀ L h (d :: a :: b :: c :: l)) : News h₀ L h (a :: b :: c :: d :: l) := fun q hq => N q (by simp only [List.mem_cons] at hq ⊢; rcases hq with h | h | h | h | h <;> simp [h])
end
section
set_option maxRecDepth 100000 in
set_option maxHeartbeats 4000000 in
theorem chunk0_claim (w : World) (mean : ExcName → Option Value) (mg mb : Str → Option Value) (v dv x dx ll : Addr) (mx : Int) (tm tc ts : Tok) (cv : Value) (k1 k2 k3 k4 k5 k6 : Tok) (c : Str) (tf tcc : Tok) (nn nl : Nat) (lns : Array Value) (z : Int) (tz k : Tok) (kk : Nat) (p1 p2 : Array Value) (rest : List (Addr × Obj)) (hv : (v, instObj 101 dv) ∈ rest) (hdv : (dv, vfDict w.params mx tm tc ts cv ll x k1 k2 k3 k4 k5 k6) ∈ rest) (hA : Apart x dx ll rest) (htr1 : TriplesOk p1.toList) (htr2 : TriplesOk p2.toList) :
  ∀ (dp un : Nat) (gd : Option (List Code)) (cn : Str) (cs : Scope) (a : Addr) (ccd : Value) (cl : List (Str × Addr)) (outer : List Env) (A₀ : Around) (base h₀ : Heap) (L : Addr) (m : Str → Option Value) (s : Shared) (Q E : Value → Shared → Prop) (p : Program) (loose : List Str),
    Below A₀ base outer h₀ → Fr h₀ L s.heap m → (hd.heap_39 w.params).In h₀ → News h₀ L s.heap ((147, tabObj p1) :: (154, tabObj p2) :: (x, accO dx (([] : List Part).map fun e => Value.ref e.a).toArray nn) :: (dx, accDict w.params z tz k kk) :: (ll, listOf lns nl) :: rest) → Top p loose mean mg mb h₀ → cs.kind = .function → AllBare s.gens →
    (c = Str.ofString "a" ∨ c = Str.ofString "b") → (lns.size ≤ 90 ∧ 0 < z ∧ z ≤ 1000) → mx < z + 2 → dp + 60 < recursionLimit → un + 8 * 60 < cLine →
    (∀ (s' : Shared) p1' p2' ds' z' nn' nl' tz' lns' rest', Fr h₀ L s'.heap m → News h₀ L s'.heap ((147, tabObj p1') :: (154, tabObj p2') :: (x, accO dx (ds'.map fun e => Value.ref e.a).toArray nn') :: (dx, accDict w.params z' tz' k kk) :: (ll, listOf lns' nl') :: rest') → (∀ q ∈ rest, q ∈ rest') → Apart x dx ll rest' → PartsIn rest' ds' → Mk ds' → Chunk mx [] z lns c ds' z' lns' → TriplesOk p1'.toList → TriplesOk p2'.toList → AllBare s'.gens → s'.os = s.os → s'.drawn = s.drawn → Q .none s') →
      wpAny (model Challenge.rw_sr0083_01.row.prog w) (ktrTop dp un gd cn cs L a ccd cl outer) (call (.ref 98) [.ref v, .str (Str.ofString " ") tf, .str c tcc]) Q E s := by
  k_fill
  intro dp un gd cn cs a ccd cl outer A₀ base h₀ L m s Q E p loose B F X N T hk hbare hc hz hfit hdp hu hret
  obtain ⟨hz2, hz3, hz4⟩ := hz
  have hm : Mk [] := fun e he => (nomatch he)
  have hds : PartsIn rest [] := fun e he => (nomatch he)
  refine wpAny_call ?_
  k_dflt cell_enter
  repeat' (first | (k_unfold; (try dsimp only)) | ((with_reducible show wpAny _ _ (execs (_ :: _) _) _ _ _); (first | (refine exCons s ?_; intro kS Pq hPq) | (refine exCons0 ?_; intro Pq hPq))) | (with_reducible refine Aft.next (by assumption) ?_) | (with_reducible refine Aft.ret (by assumption) ?_) | (with_reducible refine Aft.brk (by assumption) ?_) | (with_reducible refine Aft.cont (by assumption) ?_) | ((fail_if_success (with_reducible show wpAny _ _ (getMethod (.ref x) _ _) _ _ _)); walk1) | fail "no step")
  have H := heads_of N
  (rename Fr _ _ _ _ => F0); (rename News _ _ _ _ => N0); (rename Frag.In _ _ => lX); (rename Top _ _ _ _ _ _ => lT); (rename Below _ _ _ _ => lB)
  refine accO_meth (f := 129) F0 lX N0 (.tail _ (.tail _ (.head _))) (.tail _ (.tail _ (.tail _ (.head _)))) (by kernel_rfl) (by kernel_rfl) rfl ?_
  repeat' (first | (k_unfold; (try dsimp only)) | ((with_reducible show wpAny _ _ (execs (_ :: _) _) _ _ _); (first | (refine exCons s ?_; intro kS Pq hPq) | (refine exCons0 ?_; intro Pq hPq))) | (with_reducible refine Aft.next (by assumption) ?_) | (with_reducible refine Aft.ret (by assumption) ?_) | (with_reducible refine Aft.brk (by assumption) ?_) | (with_reducible refine Aft.cont (by assumption) ?_) | ((fail_if_success (with_reducible show wpAny _ _ (call _ _) _ _ _)); walk1) | fail "no step")
  refine push_claim w mean mg mb x dx _ (Str.ofString " ") c tf tcc nn z tz k kk _ (.tail _ (.tail _ (.head _))) (ap_x H hA) _ _ _ _ _ _ _ _ _ _ _ _ _ _ _ _ _ _ _ lB F0 lX (rot3 N0) lT rfl (by simp) (by show dp + 1 + 20 < _; omega) (by show un + 3 + 8 * 20 < _; omega) ?_
  intro T h6 tk6 nn6 F6 N6 O6
  have hA6 : Apart x dx ll ((T, pairO (Str.ofString " ") tf c tcc) :: rest) := hA.cons (Nat.ne_of_gt (O6 _ (.tail _ (.head _)))) (Nat.ne_of_gt (O6 _ (.tail _ (.tail _ (.head _))))) (Nat.ne_of_gt (O6 _ (.head _))) (Nat.ne_of_gt (O6 _ (.tail _ (.tail _ (.tail _ (.head _)))))) (Nat.ne_of_gt (O6 _ (.tail _ (.tail _ (.tail _ (.tail _ (.head _)))))))
  replace N6 := arr6 N6
  clear F0 N0
  have hm6 : Mk (([] : List Part) ++ [⟨T, Str.ofString " ", tf, c, tcc⟩]) := by
    intro e he
    rcases List.mem_append.mp he with he | he
    · exact hm e he
    · rw [List.mem_singleton] at he
      subst he
      exact ⟨rfl, hc⟩
  have hds6 : PartsIn ((T, pairO (Str.ofString " ") tf c tcc) :: rest) (([] : List Part) ++ [⟨T, Str.ofString " ", tf, c, tcc⟩]) := by
    intro e he
    rcases List.mem_append.mp he with he | he
    · exact .tail _ (hds e he)
    · rw [List.mem_singleton] at he
      subst he
      exact .head _
  have htx : (([] : List Part) ++ ([⟨T, Str.ofString " ", tf, c, tcc⟩] : List Part)).map (·.p) = ([] : List Part).map (·.p) ++ [c] := by
    rw [List.map_append]; rfl
  have hl6 : (([] : List Part) ++ ([⟨T, Str.ofString " ", tf, c, tcc⟩] : List Part)).length = ([] : List Part).length + 1 := by simp
  rw [push_ref [] ⟨T, Str.ofString " ", tf, c, tcc⟩] at N6
  generalize hD : ([] : List Part) ++ [⟨T, Str.ofString " ", tf, c, tcc⟩] = D6 at *
  rw [List.length_nil] at hl6
  (try dsimp only)
  have hbd6 := mk_bound hm6 (by omega)
  have hsum6 := mk_sum hm6
  repeat' (first | (k_unfold; (try dsimp only)) | ((with_reducible show wpAny _ _ (execs (_ :: _) _) _ _ _); (first | (refine exCons s ?_; intro kS Pq hPq) | (refine exCons0 ?_; intro Pq hPq))) | (with_reducible refine Aft.next (by assumption) ?_) | (with_reducible refine Aft.ret (by assumption) ?_) | (with_reducible refine Aft.brk (by assumption) ?_) | (with_reducible refine Aft.cont (by assumption) ?_) | ((fail_if_success (with_reducible show wpAny _ _ (call (.builtin _) _) _ _ _)); walk1) | fail "no step")
  (rename Fr _ _ _ _ => F7); (rename News _ _ _ _ => N7)
  refine PySem.W.len_K (f := 152) F7 lX (acc_inst (ds := D6) N7 (.tail _ (.tail _ (.head _))) (.tail _ (.tail _ (.tail _ (.head _))))) (by kernel_rfl) (by kernel_rfl) ?_
  refine len_claim w mean mg mb x dx D6 _ _ tz k kk p1 _ (.tail _ (.head _)) (.tail _ (.tail _ (.head _))) (fun e h => .tail _ (.tail _ (.tail _ (.tail _ (hds6 e h))))) htr1 (ap_1 H hA6) _ _ _ _ _ _ _ _ _ _ _ _ _ _ _ _ _ _ _ lB F7 lX N7 lT rfl hbare hbd6 (by show dp + 1 + 10 < _; omega) (by show un + 3 + 1 + 8 * 10 < _; omega) ?_
  intro t8 s8 p8 F8 N8 htr8 hb8 ho8 hd8
  dsimp only [PySem.W.LenBack]
  rw [hsum6]
  refine ⟨by omega, ?_⟩
  clear F7 N7
  repeat' (first | (k_unfold; (try dsimp only)) | ((with_reducible show wpAny _ _ (execs (_ :: _) _) _ _ _); (first | (refine exCons s8 ?_; intro kS Pq hPq) | (refine exCons0 ?_; intro Pq hPq))) | (with_reducible refine Aft.next (by assumption) ?_) | (with_reducible refine Aft.ret (by assumption) ?_) | (with_reducible refine Aft.brk (by assumption) ?_) | (with_reducible refine Aft.cont (by assumption) ?_) | ((fail_if_success (with_reducible show wpAny _ _ (exec (PySem.Stmt.For _ _ _ _ _) _) _ _ _)); walk1) | fail "no step")
  (rename Fr _ _ _ _ => F9); (rename News _ _ _ _ => N9)
  refine my_For F9 rfl rfl ?_
  repeat' (first | (k_unfold; (try dsimp only)) | ((with_reducible show wpAny _ _ (execs (_ :: _) _) _ _ _); (first | (refine exCons s8 ?_; intro kS Pq hPq) | (refine exCons0 ?_; intro Pq hPq))) | (with_reducible refine Aft.next (by assumption) ?_) | (with_reducible refine Aft.ret (by assumption) ?_) | (with_reducible refine Aft.brk (by assumption) ?_) | (with_reducible refine Aft.cont (by assumption) ?_) | ((fail_if_success (with_reducible show wpAny _ _ (pyIter _) _ _ _)); walk1) | fail "no step")
  (rename Fr _ _ _ _ => F9); (rename News _ _ _ _ => N9)
  refine my_strK (fun _ => True) [Str.ofString "ch", Str.ofString "i", Str.ofString "prevpart"] rfl F9 N9 hb8 trivial ?_ ?_
  · intro I hI i ch u U it s9 hch _ hb9 ho9 hd9 F10 N10
    (try clear F9 N9); (try clear F8 N8)
    repeat' (first | (k_unfold; (try dsimp only)) | ((with_reducible show wpAny _ _ (execs (_ :: _) _) _ _ _); (first | (refine exCons s9 ?_; intro kS Pq hPq) | (refine exCons0 ?_; intro Pq hPq))) | (with_reducible refine Aft.next (by assumption) ?_) | (with_reducible refine Aft.ret (by assumption) ?_) | (with_reducible refine Aft.brk (by assumption) ?_) | (with_reducible refine Aft.cont (by assumption) ?_) | ((fail_if_success (with_reducible show wpAny _ _ (exec (PySem.Stmt.For _ _ _ _ _) _) _ _ _)); walk1) | fail "no step")
    (rename Fr _ _ _ _ => F11); (rename News _ _ _ _ => N11)
    refine my_For F11 rfl rfl ?_
    repeat' (first | (k_unfold; (try dsimp only)) | ((with_reducible show wpAny _ _ (execs (_ :: _) _) _ _ _); (first | (refine exCons s9 ?_; intro kS Pq hPq) | (refine exCons0 ?_; intro Pq hPq))) | (with_reducible refine Aft.next (by assumption) ?_) | (with_reducible refine Aft.ret (by assumption) ?_) | (with_reducible refine Aft.brk (by assumption) ?_) | (with_reducible refine Aft.cont (by assumption) ?_) | ((fail_if_success (with_reducible show wpAny _ _ (getMethod (.ref x) _ _) _ _ _)); walk1) | fail "no step")
    (rename Fr _ _ _ _ => F11); (rename News _ _ _ _ => N11)
    refine accO_meth (f := 182) F11 lX N11 (.tail _ (.tail _ (.tail _ (.head _)))) (.tail _ (.tail _ (.tail _ (.tail _ (.head _))))) (by kernel_rfl) (by kernel_rfl) rfl ?_
    repeat' (first | (k_unfold; (try dsimp only)) | ((with_reducible show wpAny _ _ (execs (_ :: _) _) _ _ _); (first | (refine exCons s9 ?_; intro kS Pq hPq) | (refine exCons0 ?_; intro Pq hPq))) | (with_reducible refine Aft.next (by assumption) ?_) | (with_reducible refine Aft.ret (by assumption) ?_) | (with_reducible refine Aft.brk (by assumption) ?_) | (with_reducible refine Aft.cont (by assumption) ?_) | ((fail_if_success (with_reducible show wpAny _ _ (call (.ref 182) _) _ _ _)); walk1) | fail "no step")
    refine pc_claim w mean mg mb x dx _ _ _ _ (.tail _ (.tail _ (.tail _ (.head _)))) _ _ _ _ _ _ _ _ _ _ _ _ _ _ _ _ _ _ _ lB F11 lX (rot4y N11) lT rfl trivial (by show dp + 1 + 10 < _; omega) (by show un + 3 + 8 * 10 < _; omega) ?_
    intro t12 h12 tk12 F12 N12
    replace N12 := tor4y N12
    have hsz : ((D6.map fun e => Value.ref e.a).toArray.size : Int) = 1 := by rw [List.size_toArray, List.length_map, hl6]; rfl
    rw [hsz]
    (try clear F11 N11); (try clear F10 N10)
    repeat' (first | (k_unfold; (try dsimp only)) | ((with_reducible show wpAny _ _ (execs (_ :: _) _) _ _ _); (first | (refine exCons s9 ?_; intro kS Pq hPq) | (refine exCons0 ?_; intro Pq hPq))) | (with_reducible refine Aft.next (by assumption) ?_) | (with_reducible refine Aft.ret (by assumption) ?_) | (with_reducible refine Aft.brk (by assumption) ?_) | (with_reducible refine Aft.cont (by assumption) ?_) | ((fail_if_success (with_reducible show wpAny _ _ (pyIter _) _ _ _)); walk1) | fail "no step")
    (rename Fr _ _ _ _ => F13); (rename News _ _ _ _ => N13); (rename IsRange _ _ _ _ _ _ _ _ => R13)
    refine my_rangeK (n := 0) (fun _ => True) [Str.ofString "i"] rfl R13 (by decide) (by decide) F13 N13 hb9 trivial (fun _ _ i' _ _ _ _ h => absurd h (Nat.not_lt_zero i')) ?_
    intro U2 s14 _ hb14 ho14 hd14 F14 N14
    (try clear F13 N13); (try clear F12 N12)
    repeat' (first | (k_unfold; (try dsimp only)) | ((with_reducible show wpAny _ _ (execs (_ :: _) _) _ _ _); (first | (refine exCons s14 ?_; intro kS Pq hPq) | (refine exCons0 ?_; intro Pq hPq))) | (with_reducible refine Aft.next (by assumption) ?_) | (with_reducible refine Aft.ret (by assumption) ?_) | (with_reducible refine Aft.brk (by assumption) ?_) | (with_reducible refine Aft.cont (by assumption) ?_) | (k_end; wrow_close) | walk1 | (dsimp only; walk1) | (leave1; try dsimp only) | fail "no step")
    refine JK_ends trivial F14 N14 (fun q hq => hq) (fun q hq => Nat.ne_of_lt (hI q hq)) ho14 hd14 hb14 ?_
    intro y hy
    have hy2 := hy
    simp only [List.contains_cons, List.contains_nil, Bool.or_eq_false_iff, beq_eq_false_iff_ne, ne_eq] at hy2
    have c1 : ([Str.ofString "i"] : List Str).contains y = false := by simp [hy2.2.1]
    simp only [c1, hy2.1, hy, Bool.false_eq_true, if_false]
  · intro U s9 _ hb9 ho9 hd9 F10 N10
    subst hD
    (try clear F9 N9); (try clear F8 N8)
    repeat' (first | (k_unfold; (try dsimp only)) | ((with_reducible show wpAny _ _ (execs (_ :: _) _) _ _ _); (first | (refine exCons s9 ?_; intro kS Pq hPq) | (refine exCons0 ?_; intro Pq hPq))) | (with_reducible refine Aft.next (by assumption) ?_) | (with_reducible refine Aft.ret (by assumption) ?_) | (with_reducible refine Aft.brk (by assumption) ?_) | (with_reducible refine Aft.cont (by assumption) ?_) | ((fail_if_success (with_reducible show wpAny _ _ (getMethod (.ref x) _ _) _ _ _)); walk1) | fail "no step")
    (rename Fr _ _ _ _ => F11); (rename News _ _ _ _ => N11)
    refine accO_meth (f := 145) F11 lX N11 (.tail _ (.tail _ (.head _))) (.tail _ (.tail _ (.tail _ (.head _)))) (by kernel_rfl) (by kernel_rfl) rfl ?_
    repeat' (first | (k_unfold; (try dsimp only)) | ((with_reducible show wpAny _ _ (execs (_ :: _) _) _ _ _); (first | (refine exCons s9 ?_; intro kS Pq hPq) | (refine exCons0 ?_; intro Pq hPq))) | (with_reducible refine Aft.next (by assumption) ?_) | (with_reducible refine Aft.ret (by assumption) ?_) | (with_reducible refine Aft.brk (by assumption) ?_) | (with_reducible refine Aft.cont (by assumption) ?_) | ((fail_if_success (with_reducible show wpAny _ _ (call _ _) _ _ _)); walk1) | fail "no step")
    refine pop_claim w mean mg mb x dx #[] (.ref T) _ z tz k kk _ (.tail _ (.tail _ (.head _))) (ap_x H hA6) _ _ _ _ _ _ _ _ _ _ _ _ _ _ _ _ _ _ _ lB F11 lX (rot3 N11) lT rfl (by simp) (by show dp + 1 + 20 < _; omega) (by show un + 3 + 8 * 20 < _; omega) ?_
    intro h12 tk12 nn12 F12 N12
    replace N12 := tor3 N12
    (try clear F11 N11); (try clear F10 N10)
    repeat' (first | (k_unfold; (try dsimp only)) | ((with_reducible show wpAny _ _ (execs (_ :: _) _) _ _ _); (first | (refine exCons s9 ?_; intro kS Pq hPq) | (refine exCons0 ?_; intro Pq hPq))) | (with_reducible refine Aft.next (by assumption) ?_) | (with_reducible refine Aft.ret (by assumption) ?_) | (with_reducible refine Aft.brk (by assumption) ?_) | (with_reducible refine Aft.cont (by assumption) ?_) | ((fail_if_success (with_reducible show wpAny _ _ (getAttr (.ref x) _ _) _ _ _)); walk1) | fail "no step")
    (rename Fr _ _ _ _ => F13); (rename News _ _ _ _ => N13)
    refine get_sub (lX.keeps F13.keep) (accO_inst N13 (.tail _ (.tail _ (.head _))) (.tail _ (.tail _ (.tail _ (.head _))))) (by kernel_rfl) (by kernel_rfl) (by kernel_rfl) (findObj_own (attr := none) (by kernel_rfl) (by kernel_rfl) rfl rfl) rfl ?_
    repeat' (first | (k_unfold; (try dsimp only)) | ((with_reducible show wpAny _ _ (execs (_ :: _) _) _ _ _); (first | (refine exCons s9 ?_; intro kS Pq hPq) | (refine exCons0 ?_; intro Pq hPq))) | (with_reducible refine Aft.next (by assumption) ?_) | (with_reducible refine Aft.ret (by assumption) ?_) | (with_reducible refine Aft.brk (by assumption) ?_) | (with_reducible refine Aft.cont (by assumption) ?_) | ((fail_if_success (with_reducible show wpAny _ _ (call (.ref 63) _) _ _ _)); walk1) | fail "no step")
    (rename Fr _ _ _ _ => F14); (rename News _ _ _ _ => N14)
    refine newline0_claim w mean mg mb v dv x dx ll mx tm tc ts cv k1 k2 k3 k4 k5 k6 _ _ lns z tz k kk p8 p2 _ (.tail _ hv) (.tail _ hdv) hA6 htr8 htr2 _ _ _ _ _ _ _ _ _ _ _ _ _ _ _ _ _ _ _ lB F14 lX N14 lT rfl hb9 ⟨hz3, hz4⟩ (by omega) (by show dp + 1 + 40 < _; omega) (by show un + 3 + 8 * 40 < _; omega) ?_
    intro s16 q1 q2 nn16 nl16 tz16 t16 rest16 F16 N16 sub16 hA16 htr16 htr17 hb16 ho16 hd16
    have hv16 := sub16 _ (.tail _ hv)
    have hdv16 := sub16 _ (.tail _ hdv)
    (try clear F14 N14); (try clear F13 N13); (try clear F12 N12)
    repeat' (first | (k_unfold; (try dsimp only)) | ((with_reducible show wpAny _ _ (execs (_ :: _) _) _ _ _); (first | (refine exCons s16 ?_; intro kS Pq hPq) | (refine exCons0 ?_; intro Pq hPq))) | (with_reducible refine Aft.next (by assumption) ?_) | (with_reducible refine Aft.ret (by assumption) ?_) | (with_reducible refine Aft.brk (by assumption) ?_) | (with_reducible refine Aft.cont (by assumption) ?_) | ((fail_if_success (with_reducible show wpAny _ _ (getMethod (.ref x) _ _) _ _ _)); walk1) | fail "no step")
    (rename Fr _ _ _ _ => F17); (rename News _ _ _ _ => N17)
    refine accO_meth (f := 129) F17 lX N17 (.tail _ (.tail _ (.head _))) (.tail _ (.tail _ (.tail _ (.head _)))) (by kernel_rfl) (by kernel_rfl) rfl ?_
    repeat' (first | (k_unfold; (try dsimp only)) | ((with_reducible show wpAny _ _ (execs (_ :: _) _) _ _ _); (first | (refine exCons s16 ?_; intro kS Pq hPq) | (refine exCons0 ?_; intro Pq hPq))) | (with_reducible refine Aft.next (by assumption) ?_) | (with_reducible refine Aft.ret (by assumption) ?_) | (with_reducible refine Aft.brk (by assumption) ?_) | (with_reducible refine Aft.cont (by assumption) ?_) | ((fail_if_success (with_reducible show wpAny _ _ (call _ _) _ _ _)); walk1) | fail "no step")
    refine push_claim w mean mg mb x dx #[] _ _ _ _ _ 0 tz16 k kk _ (.tail _ (.tail _ (.head _))) (ap_x H hA16) _ _ _ _ _ _ _ _ _ _ _ _ _ _ _ _ _ _ _ lB F17 lX (rot3 N17) lT rfl (by simp) (by show dp + 1 + 20 < _; omega) (by show un + 3 + 8 * 20 < _; omega) ?_
    intro T2 h18 tk18 nn18 F18 N18 O18
    replace N18 := arr6 N18
    (try clear F17 N17); (try clear F16 N16)
    repeat' (first | (k_unfold; (try dsimp only)) | ((with_reducible show wpAny _ _ (execs (_ :: _) _) _ _ _); (first | (refine exCons s16 ?_; intro kS Pq hPq) | (refine exCons0 ?_; intro Pq hPq))) | (with_reducible refine Aft.next (by assumption) ?_) | (with_reducible refine Aft.ret (by assumption) ?_) | (with_reducible refine Aft.brk (by assumption) ?_) | (with_reducible refine Aft.cont (by assumption) ?_) | (k_end; wrow_close) | walk1 | (dsimp only; walk1) | (leave1; try dsimp only) | fail "no step")
    rename News h₀ L _ _ => kN9
    refine hret _ _ _ [⟨T2, Str.ofString " ", tf, c, tcc⟩] 0 _ _ _ _ _ (by assumption) kN9 (fun q hq => .tail _ (sub16 q (.tail _ hq))) ?hA9 ?hds9 ?hm9 ?hch htr16 htr17 hb16 (ho16.trans (ho9.trans ho8)) (hd16.trans (hd9.trans hd8))
    case hA9 => exact hA16.cons (Nat.ne_of_gt (O18 _ (.tail _ (.head _)))) (Nat.ne_of_gt (O18 _ (.tail _ (.tail _ (.head _))))) (Nat.ne_of_gt (O18 _ (.head _))) (Nat.ne_of_gt (O18 _ (.tail _ (.tail _ (.tail _ (.head _)))))) (Nat.ne_of_gt (O18 _ (.tail _ (.tail _ (.tail _ (.tail _ (.head _)))))))
    case hds9 =>
      intro e he
      rw [List.mem_singleton] at he
      subst he
      exact .head _
    case hm9 =>
      intro e he
      rw [List.mem_singleton] at he
      subst he
      exact ⟨rfl, hc⟩
    case hch =>
      unfold Chunk
      rw [if_neg (by rw [List.length_nil]; omega)]
      exact ⟨rfl, rfl, t16, rfl⟩
end
end Mine
end
section
open PySem PySem.W PyProof.Rows PySem.Calls PySem.Spec
set_option Elab.async false
namespace Mine
theorem last_of (ds : List Part) (e : Part) : ((ds ++ [e]).map fun e => Value.ref e.a).toArray = ((ds.map fun e => Value.ref e.a).toArray).push (.ref e.a) := (push_ref ds e).symm
theorem ref_at {l : List Part} {i : Nat} {e : Part} (h : l[i]? = some e) : (l.map fun e => Value.ref e.a).toArray[i]? = some (.ref e.a) := by
  rw [List.getElem?_toArray, List.getElem?_map, h]; rfl
theorem two_signs {i : Nat} {ch : Str} (h : (signs (Str.ofString "; "))[i]? = some ch) (hi : i ≤ 1) : (i = 0 ∧ ch = Str.ofString ";") ∨ (i = 1 ∧ ch = Str.ofString " ") := by
  have : i = 0 ∨ i = 1 := by omega
  rcases this with rfl | rfl
  · left; refine ⟨rfl, ?_⟩
    have e : (signs (Str.ofString "; "))[0]? = some (Str.ofString ";") := by decide
    rw [e] at h; exact (Option.some.inj h).symm
  · right; refine ⟨rfl, ?_⟩
    have e : (signs (Str.ofString "; "))[1]? = some (Str.ofString " ") := by decide
    rw [e] at h; exact (Option.some.inj h).symm
theorem dropII {h₀ h : Heap} {L : Addr} {i j a b c d e : Addr × Obj} {l : List (Addr × Obj)} (N : News h₀ L h (i :: j :: a :: b :: c :: d :: e :: l)) : News h₀ L h (c :: a :: b :: d :: e :: l) := fun q hq => N q (by simp only [List.mem_cons] at hq ⊢; rcases hq with h | h | h | h | h | h <;> simp [h])
section
variable {h₀ h : Heap} {L : Addr} {a b c d e R : Addr × Obj} {l : List (Addr × Obj)}
theorem arrR (N : News h₀ L h (c :: R :: a :: b :: d :: e :: l)) : News h₀ L h (a :: b :: c :: d :: e :: R :: l) := fun q hq => N q (by simp only [List.mem_cons] at hq ⊢; rcases hq with h | h | h | h | h | h | h <;> simp [h])
theorem toR (N : News h₀ L h (a :: b :: c :: d :: e :: R :: l)) : News h₀ L h (c :: d :: R :: a :: b :: e :: l) := fun q hq => N q (by simp only [List.mem_cons] at hq ⊢; rcases hq with h | h | h | h | h | h | h <;> simp [h])
theorem ofR (N : News h₀ L h (c :: d :: R :: a :: b :: e :: l)) : News h₀ L h (a :: b :: c :: d :: e :: l) := fun q hq => N q (by simp only [List.mem_cons] at hq ⊢; rcases hq with h | h | h | h | h | h <;> simp [h])
end
theorem signs_two : (signs (Str.ofString "; ")).length = 2 := by decide
section
set_option maxRecDepth 100000 in
set_option maxHeartbeats 4000000 in
theorem chunk2_claim (w : World) (mean : ExcName → Option Value) (mg mb : Str → Option Value) (v dv x dx ll : Addr) (mx : Int) (tm tc ts : Tok) (cv : Value) (k1 k2 k3 k4 k5 k6 : Tok) (ds : List Part) (c : Str) (tf tcc : Tok) (nn nl : Nat) (lns : Array Value) (z : Int) (tz k : Tok) (kk : Nat) (p1 p2 : Array Value) (rest : List (Addr × Obj)) (hv : (v, instObj 101 dv) ∈ rest) (hdv : (dv, vfDict w.params mx tm tc ts cv ll x k1 k2 k3 k4 k5 k6) ∈ rest) (hds : PartsIn rest ds) (hA : Apart x dx ll rest) (htr1 : TriplesOk p1.toList) (htr2 : TriplesOk p2.toList) :
  ∀ (dp un : Nat) (gd : Option (List Code)) (cn : Str) (cs : Scope) (a : Addr) (ccd : Value) (cl : List (Str × Addr)) (outer : List Env) (A₀ : Around) (base h₀ : Heap) (L : Addr) (m : Str → Option Value) (s : Shared) (Q E : Value → Shared → Prop) (p : Program) (loose : List Str),
    Below A₀ base outer h₀ → Fr h₀ L s.heap m → (hd.heap_39 w.params).In h₀ → News h₀ L s.heap ((147, tabObj p1) :: (154, tabObj p2) :: (x, accO dx (ds.map fun e => Value.ref e.a).toArray nn) :: (dx, accDict w.params z tz k kk) :: (ll, listOf lns nl) :: rest) → Top p loose mean mg mb h₀ → cs.kind = .function → AllBare s.gens →
    Mk ds → (c = Str.ofString "a" ∨ c = Str.ofString "b") → (ds.length ≤ 20 ∧ lns.size ≤ 90 ∧ 0 ≤ z ∧ z ≤ 1000) → 0 < ds.length → mx < z + 2 * ((ds.length : Int) + 1) → dp + 60 < recursionLimit → un + 8 * 60 < cLine →
    (∀ (s' : Shared) p1' p2' ds' z' nn' nl' tz' lns' rest', Fr h₀ L s'.heap m → News h₀ L s'.heap ((147, tabObj p1') :: (154, tabObj p2') :: (x, accO dx (ds'.map fun e => Value.ref e.a).toArray nn') :: (dx, accDict w.params z' tz' k kk) :: (ll, listOf lns' nl') :: rest') → (∀ q ∈ rest, q ∈ rest') → Apart x dx ll rest' → PartsIn rest' ds' → Mk ds' → Chunk mx ds z lns c ds' z' lns' → TriplesOk p1'.toList → TriplesOk p2'.toList → AllBare s'.gens → s'.os = s.os → s'.drawn = s.drawn → Q .none s') →
      wpAny (model Challenge.rw_sr0083_01.row.prog w) (ktrTop dp un gd cn cs L a ccd cl outer) (call (.ref 98) [.ref v, .str (Str.ofString " ") tf, .str c tcc]) Q E s := by
  k_fill
  intro dp un gd cn cs a ccd cl outer A₀ base h₀ L m s Q E p loose B F X N T hk hbare hm hc hz hne hfit hdp hu hret
  obtain ⟨hz1, hz2, hz3, hz4⟩ := hz
  refine wpAny_call ?_
  k_dflt cell_enter
  repeat' (first | (k_unfold; (try dsimp only)) | ((with_reducible show wpAny _ _ (execs (_ :: _) _) _ _ _); (first | (refine exCons s ?_; intro kS Pq hPq) | (refine exCons0 ?_; intro Pq hPq))) | (with_reducible refine Aft.next (by assumption) ?_) | (with_reducible refine Aft.ret (by assumption) ?_) | (with_reducible refine Aft.brk (by assumption) ?_) | (with_reducible refine Aft.cont (by assumption) ?_) | ((fail_if_success (with_reducible show wpAny _ _ (getMethod (.ref x) _ _) _ _ _)); walk1) | fail "no step")
  have H := heads_of N
  (rename Fr _ _ _ _ => F0); (rename News _ _ _ _ => N0); (rename Frag.In _ _ => lX); (rename Top _ _ _ _ _ _ => lT); (rename Below _ _ _ _ => lB)
  refine accO_meth (f := 129) F0 lX N0 (.tail _ (.tail _ (.head _))) (.tail _ (.tail _ (.tail _ (.head _)))) (by kernel_rfl) (by kernel_rfl) rfl ?_
  repeat' (first | (k_unfold; (try dsimp only)) | ((with_reducible show wpAny _ _ (execs (_ :: _) _) _ _ _); (first | (refine exCons s ?_; intro kS Pq hPq) | (refine exCons0 ?_; intro Pq hPq))) | (with_reducible refine Aft.next (by assumption) ?_) | (with_reducible refine Aft.ret (by assumption) ?_) | (with_reducible refine Aft.brk (by assumption) ?_) | (with_reducible refine Aft.cont (by assumption) ?_) | ((fail_if_success (with_reducible show wpAny _ _ (call _ _) _ _ _)); walk1) | fail "no step")
  refine push_claim w mean mg mb x dx _ (Str.ofString " ") c tf tcc nn z tz k kk _ (.tail _ (.tail _ (.head _))) (ap_x H hA) _ _ _ _ _ _ _ _ _ _ _ _ _ _ _ _ _ _ _ lB F0 lX (rot3 N0) lT rfl (by rw [List.size_toArray, List.length_map]; omega) (by show dp + 1 + 20 < _; omega) (by show un + 3 + 8 * 20 < _; omega) ?_
  intro T h6 tk6 nn6 F6 N6 O6
  have hA6 : Apart x dx ll ((T, pairO (Str.ofString " ") tf c tcc) :: rest) := hA.cons (Nat.ne_of_gt (O6 _ (.tail _ (.head _)))) (Nat.ne_of_gt (O6 _ (.tail _ (.tail _ (.head _))))) (Nat.ne_of_gt (O6 _ (.head _))) (Nat.ne_of_gt (O6 _ (.tail _ (.tail _ (.tail _ (.head _)))))) (Nat.ne_of_gt (O6 _ (.tail _ (.tail _ (.tail _ (.tail _ (.head _)))))))
  replace N6 := arr6 N6
  clear F0 N0
  have hm6 : Mk (ds ++ [⟨T, Str.ofString " ", tf, c, tcc⟩]) := by
    intro e he
    rcases List.mem_append.mp he with he | he
    · exact hm e he
    · rw [List.mem_singleton] at he
      subst he
      exact ⟨rfl, hc⟩
  have hds6 : PartsIn ((T, pairO (Str.ofString " ") tf c tcc) :: rest) (ds ++ [⟨T, Str.ofString " ", tf, c, tcc⟩]) := by
    intro e he
    rcases List.mem_append.mp he with he | he
    · exact .tail _ (hds e he)
    · rw [List.mem_singleton] at he
      subst he
      exact .head _
  have htx : (ds ++ ([⟨T, Str.ofString " ", tf, c, tcc⟩] : List Part)).map (·.p) = ds.map (·.p) ++ [c] := by
    rw [List.map_append]; rfl
  have hl6 : (ds ++ ([⟨T, Str.ofString " ", tf, c, tcc⟩] : List Part)).length = ds.length + 1 := by simp
  rw [push_ref ds ⟨T, Str.ofString " ", tf, c, tcc⟩] at N6
  generalize hD : ds ++ [⟨T, Str.ofString " ", tf, c, tcc⟩] = D6 at *
  (try dsimp only)
  have hbd6 := mk_bound hm6 (by omega)
  have hsum6 := mk_sum hm6
  repeat' (first | (k_unfold; (try dsimp only)) | ((with_reducible show wpAny _ _ (execs (_ :: _) _) _ _ _); (first | (refine exCons s ?_; intro kS Pq hPq) | (refine exCons0 ?_; intro Pq hPq))) | (with_reducible refine Aft.next (by assumption) ?_) | (with_reducible refine Aft.ret (by assumption) ?_) | (with_reducible refine Aft.brk (by assumption) ?_) | (with_reducible refine Aft.cont (by assumption) ?_) | ((fail_if_success (with_reducible show wpAny _ _ (call (.builtin _) _) _ _ _)); walk1) | fail "no step")
  (rename Fr _ _ _ _ => F7); (rename News _ _ _ _ => N7)
  refine PySem.W.len_K (f := 152) F7 lX (acc_inst (ds := D6) N7 (.tail _ (.tail _ (.head _))) (.tail _ (.tail _ (.tail _ (.head _))))) (by kernel_rfl) (by kernel_rfl) ?_
  refine len_claim w mean mg mb x dx D6 _ _ tz k kk p1 _ (.tail _ (.head _)) (.tail _ (.tail _ (.head _))) (fun e h => .tail _ (.tail _ (.tail _ (.tail _ (hds6 e h))))) htr1 (ap_1 H hA6) _ _ _ _ _ _ _ _ _ _ _ _ _ _ _ _ _ _ _ lB F7 lX N7 lT rfl hbare hbd6 (by show dp + 1 + 10 < _; omega) (by show un + 3 + 1 + 8 * 10 < _; omega) ?_
  intro t8 s8 p8 F8 N8 htr8 hb8 ho8 hd8
  dsimp only [PySem.W.LenBack]
  rw [hsum6]
  refine ⟨by omega, ?_⟩
  clear F7 N7
  repeat' (first | (k_unfold; (try dsimp only)) | ((with_reducible show wpAny _ _ (execs (_ :: _) _) _ _ _); (first | (refine exCons s8 ?_; intro kS Pq hPq) | (refine exCons0 ?_; intro Pq hPq))) | (with_reducible refine Aft.next (by assumption) ?_) | (with_reducible refine Aft.ret (by assumption) ?_) | (with_reducible refine Aft.brk (by assumption) ?_) | (with_reducible refine Aft.cont (by assumption) ?_) | ((fail_if_success (with_reducible show wpAny _ _ (exec (PySem.Stmt.For _ _ _ _ _) _) _ _ _)); walk1) | fail "no step")
  (rename Fr _ _ _ _ => F9); (rename News _ _ _ _ => N9)
  refine my_For F9 rfl rfl ?_
  repeat' (first | (k_unfold; (try dsimp only)) | ((with_reducible show wpAny _ _ (execs (_ :: _) _) _ _ _); (first | (refine exCons s8 ?_; intro kS Pq hPq) | (refine exCons0 ?_; intro Pq hPq))) | (with_reducible refine Aft.next (by assumption) ?_) | (with_reducible refine Aft.ret (by assumption) ?_) | (with_reducible refine Aft.brk (by assumption) ?_) | (with_reducible refine Aft.cont (by assumption) ?_) | ((fail_if_success (with_reducible show wpAny _ _ (pyIter _) _ _ _)); walk1) | fail "no step")
  (rename Fr _ _ _ _ => F9); (rename News _ _ _ _ => N9)
  have hsz : ((D6.map fun e => Value.ref e.a).toArray.size : Int) = (ds.length : Int) + 1 := by rw [List.size_toArray, List.length_map, hl6]; rfl
  refine my_strK (fun i => i ≤ 1) [Str.ofString "ch", Str.ofString "i", Str.ofString "prevpart"] rfl F9 N9 hb8 (Nat.zero_le _) ?_ ?_
  · intro I hI i ch u U it s9 hch hi9 hb9 ho9 hd9 F10 N10
    (try clear F9 N9); (try clear F8 N8)
    rcases two_signs hch hi9 with ⟨rfl, rfl⟩ | ⟨rfl, rfl⟩
    · skip
      repeat' (first | (k_unfold; (try dsimp only)) | ((with_reducible show wpAny _ _ (execs (_ :: _) _) _ _ _); (first | (refine exCons s9 ?_; intro kS Pq hPq) | (refine exCons0 ?_; intro Pq hPq))) | (with_reducible refine Aft.next (by assumption) ?_) | (with_reducible refine Aft.ret (by assumption) ?_) | (with_reducible refine Aft.brk (by assumption) ?_) | (with_reducible refine Aft.cont (by assumption) ?_) | ((fail_if_success (with_reducible show wpAny _ _ (exec (PySem.Stmt.For _ _ _ _ _) _) _ _ _)); walk1) | fail "no step")
      (rename Fr _ _ _ _ => F11); (rename News _ _ _ _ => N11)
      refine my_For F11 rfl rfl ?_
      repeat' (first | (k_unfold; (try dsimp only)) | ((with_reducible show wpAny _ _ (execs (_ :: _) _) _ _ _); (first | (refine exCons s9 ?_; intro kS Pq hPq) | (refine exCons0 ?_; intro Pq hPq))) | (with_reducible refine Aft.next (by assumption) ?_) | (with_reducible refine Aft.ret (by assumption) ?_) | (with_reducible refine Aft.brk (by assumption) ?_) | (with_reducible refine Aft.cont (by assumption) ?_) | ((fail_if_success (with_reducible show wpAny _ _ (getMethod (.ref x) _ _) _ _ _)); walk1) | fail "no step")
      (rename Fr _ _ _ _ => F11); (rename News _ _ _ _ => N11)
      refine accO_meth (f := 182) F11 lX N11 (.tail _ (.tail _ (.tail _ (.head _)))) (.tail _ (.tail _ (.tail _ (.tail _ (.head _))))) (by kernel_rfl) (by kernel_rfl) rfl ?_
      repeat' (first | (k_unfold; (try dsimp only)) | ((with_reducible show wpAny _ _ (execs (_ :: _) _) _ _ _); (first | (refine exCons s9 ?_; intro kS Pq hPq) | (refine exCons0 ?_; intro Pq hPq))) | (with_reducible refine Aft.next (by assumption) ?_) | (with_reducible refine Aft.ret (by assumption) ?_) | (with_reducible refine Aft.brk (by assumption) ?_) | (with_reducible refine Aft.cont (by assumption) ?_) | ((fail_if_success (with_reducible show wpAny _ _ (call (.ref 182) _) _ _ _)); walk1) | fail "no step")
      refine pc_claim w mean mg mb x dx _ _ _ _ (.tail _ (.tail _ (.tail _ (.head _)))) _ _ _ _ _ _ _ _ _ _ _ _ _ _ _ _ _ _ _ lB F11 lX (rot4y N11) lT rfl trivial (by show dp + 1 + 10 < _; omega) (by show un + 3 + 8 * 10 < _; omega) ?_
      intro t12 h12 tk12 F12 N12
      replace N12 := tor4y N12
      rw [hsz]
      (try clear F11 N11); (try clear F10 N10)
      repeat' (first | (k_unfold; (try dsimp only)) | ((with_reducible show wpAny _ _ (execs (_ :: _) _) _ _ _); (first | (refine exCons s9 ?_; intro kS Pq hPq) | (refine exCons0 ?_; intro Pq hPq))) | (with_reducible refine Aft.next (by assumption) ?_) | (with_reducible refine Aft.ret (by assumption) ?_) | (with_reducible refine Aft.brk (by assumption) ?_) | (with_reducible refine Aft.cont (by assumption) ?_) | ((fail_if_success (with_reducible show wpAny _ _ (pyIter _) _ _ _)); walk1) | fail "no step")
      (rename Fr _ _ _ _ => F13); (rename News _ _ _ _ => N13); (rename IsRange _ _ _ _ _ _ _ _ => R13)
      have e13 : (ds.length : Int) + 1 - 1 = (ds.length : Int) := by omega
      rw [e13] at R13
      refine my_rangeK (n := ds.length) (fun _ => True) [Str.ofString "i", Str.ofString "prevpart"] rfl R13 (small_down _ (by omega)) (range_down _) F13 N13 hb9 trivial ?_ ?_
      · intro I2 hI2 j tj U2 it2 s14 hj _ hb14 ho14 hd14 F14 N14
        (try clear F13 N13); (try clear F12 N12)
        repeat' (first | (k_unfold; (try dsimp only)) | ((with_reducible show wpAny _ _ (execs (_ :: _) _) _ _ _); (first | (refine exCons s14 ?_; intro kS Pq hPq) | (refine exCons0 ?_; intro Pq hPq))) | (with_reducible refine Aft.next (by assumption) ?_) | (with_reducible refine Aft.ret (by assumption) ?_) | (with_reducible refine Aft.brk (by assumption) ?_) | (with_reducible refine Aft.cont (by assumption) ?_) | ((fail_if_success (with_reducible show wpAny _ _ (subscriptTail _ _ (.ref x) _) _ _ _)); walk1) | fail "no step")
        have hlt : ds.length - 1 - j < D6.length := by omega
        obtain ⟨⟨ea, ef, etf, ep, etp⟩, he⟩ : ∃ e, D6[ds.length - 1 - j]? = some e := ⟨_, List.getElem?_eq_getElem hlt⟩
        have hem := List.mem_of_getElem? he
        have hep := (hm6 _ hem).2
        have hein := hds6 _ hem
        dsimp only at hep hein
        have hix : ((ds.length : Int) + (j : Int) * -1 - 1).toNat = ds.length - 1 - j := by omega
        (rename Fr _ _ _ _ => F15); (rename News _ _ _ _ => N15)
        refine tail_sub F15 lX (accO_inst N15 (.tail _ (.tail _ (.tail _ (.tail _ (.head _))))) (.tail _ (.tail _ (.tail _ (.tail _ (.tail _ (.head _))))))) (by with_unfolding_all rfl) ?_
        refine get_item F15 lX (accO_inst N15 (.tail _ (.tail _ (.tail _ (.tail _ (.head _))))) (.tail _ (.tail _ (.tail _ (.tail _ (.tail _ (.head _))))))) (by omega) (by rw [hix]; exact ref_at he) (by rw [List.size_toArray, List.length_map]; omega) ?_
        repeat' (first | (k_unfold; (try dsimp only)) | ((with_reducible show wpAny _ _ (execs (_ :: _) _) _ _ _); (first | (refine exCons s14 ?_; intro kS Pq hPq) | (refine exCons0 ?_; intro Pq hPq))) | (with_reducible refine Aft.next (by assumption) ?_) | (with_reducible refine Aft.ret (by assumption) ?_) | (with_reducible refine Aft.brk (by assumption) ?_) | (with_reducible refine Aft.cont (by assumption) ?_) | ((fail_if_success (with_reducible show wpAny _ _ (subscriptTail _ _ (.ref _) _) _ _ _)); walk1) | fail "no step")
        refine item_tupleT (l := [.str ef etf, .str ep etp]) (j := 1) ⟨_, (N15 _ (.tail _ (.tail _ (.tail _ (.tail _ (.tail _ (.tail _ (.tail _ hein)))))))).1, rfl, _, rfl⟩ (by decide) (by decide) rfl rfl ?_
        have fin : ∀ y : Str, y ≠ Str.ofString "i" → True := fun _ _ => trivial
        rcases hep with rfl | rfl
        all_goals
          repeat' (first | (k_unfold; (try dsimp only)) | ((with_reducible show wpAny _ _ (execs (_ :: _) _) _ _ _); (first | (refine exCons s14 ?_; intro kS Pq hPq) | (refine exCons0 ?_; intro Pq hPq))) | (with_reducible refine Aft.next (by assumption) ?_) | (with_reducible refine Aft.ret (by assumption) ?_) | (with_reducible refine Aft.brk (by assumption) ?_) | (with_reducible refine Aft.cont (by assumption) ?_) | (k_end; wrow_close) | walk1 | (dsimp only; walk1) | (leave1; try dsimp only) | fail "no step")
          (rename Fr _ _ _ _ => F16); (rename News _ _ _ _ => N16)
          refine JK_ends trivial F16 N16 (fun q hq => hq) (fun q hq => Nat.ne_of_lt (hI2 q hq)) rfl rfl hb14 ?_
          intro y hy
          have hy2 := hy
          simp only [List.contains_cons, List.contains_nil, Bool.or_eq_false_iff, beq_eq_false_iff_ne, ne_eq] at hy2
          simp only [hy2.1, hy2.2.1, hy, Bool.false_eq_true, if_false]
      · intro U2 s14 _ hb14 ho14 hd14 F14 N14
        (try clear F13 N13); (try clear F12 N12)
        repeat' (first | (k_unfold; (try dsimp only)) | ((with_reducible show wpAny _ _ (execs (_ :: _) _) _ _ _); (first | (refine exCons s14 ?_; intro kS Pq hPq) | (refine exCons0 ?_; intro Pq hPq))) | (with_reducible refine Aft.next (by assumption) ?_) | (with_reducible refine Aft.ret (by assumption) ?_) | (with_reducible refine Aft.brk (by assumption) ?_) | (with_reducible refine Aft.cont (by assumption) ?_) | (k_end; wrow_close) | walk1 | (dsimp only; walk1) | (leave1; try dsimp only) | fail "no step")
        refine JK_ends (by decide) F14 N14 (fun q hq => hq) (fun q hq => Nat.ne_of_lt (hI q hq)) ho14 hd14 hb14 ?_
        intro y hy
        have hy2 := hy
        simp only [List.contains_cons, List.contains_nil, Bool.or_eq_false_iff, beq_eq_false_iff_ne, ne_eq] at hy2
        have c1 : ([Str.ofString "i", Str.ofString "prevpart"] : List Str).contains y = false := by simp [hy2.2.1, hy2.2.2]
        simp only [c1, hy2.1, hy, Bool.false_eq_true, if_false]
    · skip
      repeat' (first | (k_unfold; (try dsimp only)) | ((with_reducible show wpAny _ _ (execs (_ :: _) _) _ _ _); (first | (refine exCons s9 ?_; intro kS Pq hPq) | (refine exCons0 ?_; intro Pq hPq))) | (with_reducible refine Aft.next (by assumption) ?_) | (with_reducible refine Aft.ret (by assumption) ?_) | (with_reducible refine Aft.brk (by assumption) ?_) | (with_reducible refine Aft.cont (by assumption) ?_) | ((fail_if_success (with_reducible show wpAny _ _ (exec (PySem.Stmt.For _ _ _ _ _) _) _ _ _)); walk1) | fail "no step")
      (rename Fr _ _ _ _ => F11); (rename News _ _ _ _ => N11)
      refine my_For F11 rfl rfl ?_
      repeat' (first | (k_unfold; (try dsimp only)) | ((with_reducible show wpAny _ _ (execs (_ :: _) _) _ _ _); (first | (refine exCons s9 ?_; intro kS Pq hPq) | (refine exCons0 ?_; intro Pq hPq))) | (with_reducible refine Aft.next (by assumption) ?_) | (with_reducible refine Aft.ret (by assumption) ?_) | (with_reducible refine Aft.brk (by assumption) ?_) | (with_reducible refine Aft.cont (by assumption) ?_) | ((fail_if_success (with_reducible show wpAny _ _ (getMethod (.ref x) _ _) _ _ _)); walk1) | fail "no step")
      (rename Fr _ _ _ _ => F11); (rename News _ _ _ _ => N11)
      refine accO_meth (f := 182) F11 lX N11 (.tail _ (.tail _ (.tail _ (.head _)))) (.tail _ (.tail _ (.tail _ (.tail _ (.head _))))) (by kernel_rfl) (by kernel_rfl) rfl ?_
      repeat' (first | (k_unfold; (try dsimp only)) | ((with_reducible show wpAny _ _ (execs (_ :: _) _) _ _ _); (first | (refine exCons s9 ?_; intro kS Pq hPq) | (refine exCons0 ?_; intro Pq hPq))) | (with_reducible refine Aft.next (by assumption) ?_) | (with_reducible refine Aft.ret (by assumption) ?_) | (with_reducible refine Aft.brk (by assumption) ?_) | (with_reducible refine Aft.cont (by assumption) ?_) | ((fail_if_success (with_reducible show wpAny _ _ (call (.ref 182) _) _ _ _)); walk1) | fail "no step")
      refine pc_claim w mean mg mb x dx _ _ _ _ (.tail _ (.tail _ (.tail _ (.head _)))) _ _ _ _ _ _ _ _ _ _ _ _ _ _ _ _ _ _ _ lB F11 lX (rot4y N11) lT rfl trivial (by show dp + 1 + 10 < _; omega) (by show un + 3 + 8 * 10 < _; omega) ?_
      intro t12 h12 tk12 F12 N12
      replace N12 := tor4y N12
      rw [hsz]
      (try clear F11 N11); (try clear F10 N10)
      repeat' (first | (k_unfold; (try dsimp only)) | ((with_reducible show wpAny _ _ (execs (_ :: _) _) _ _ _); (first | (refine exCons s9 ?_; intro kS Pq hPq) | (refine exCons0 ?_; intro Pq hPq))) | (with_reducible refine Aft.next (by assumption) ?_) | (with_reducible refine Aft.ret (by assumption) ?_) | (with_reducible refine Aft.brk (by assumption) ?_) | (with_reducible refine Aft.cont (by assumption) ?_) | ((fail_if_success (with_reducible show wpAny _ _ (pyIter _) _ _ _)); walk1) | fail "no step")
      (rename Fr _ _ _ _ => F13); (rename News _ _ _ _ => N13); (rename IsRange _ _ _ _ _ _ _ _ => R13)
      have e13 : (ds.length : Int) + 1 - 1 = (ds.length : Int) := by omega
      rw [e13] at R13
      refine my_rangeK (n := ds.length) (fun i => i = 0) [Str.ofString "i"] rfl R13 (small_down _ (by omega)) (range_down _) F13 N13 hb9 rfl ?_ ?_
      · intro I2 hI2 j tj U2 it2 s14 hj hj0 hb14 ho14 hd14 F14 N14
        subst hj0
        (try clear F13 N13); (try clear F12 N12)
        have hs2 : (ds.map fun e => Value.ref e.a).toArray.size = ds.length := by rw [List.size_toArray, List.length_map]
        have e14 : (ds.length : Int) + ((0 : Nat) : Int) * -1 = (((ds.map fun e => Value.ref e.a).toArray.size : Nat) : Int) := by rw [hs2]; omega
        rw [e14] at F14
        have hix : (((ds.map fun e => Value.ref e.a).toArray.size : Nat) : Int).toNat = ds.length := by rw [hs2]; omega
        have he : D6[ds.length]? = some ⟨T, Str.ofString " ", tf, c, tcc⟩ := by rw [← hD]; simp
        repeat' (first | (k_unfold; (try dsimp only)) | ((with_reducible show wpAny _ _ (execs (_ :: _) _) _ _ _); (first | (refine exCons s14 ?_; intro kS Pq hPq) | (refine exCons0 ?_; intro Pq hPq))) | (with_reducible refine Aft.next (by assumption) ?_) | (with_reducible refine Aft.ret (by assumption) ?_) | (with_reducible refine Aft.brk (by assumption) ?_) | (with_reducible refine Aft.cont (by assumption) ?_) | ((fail_if_success (with_reducible show wpAny _ _ (subscriptTail _ _ (.ref x) _) _ _ _)); walk1) | fail "no step")
        (rename Fr _ _ _ _ => F15); (rename News _ _ _ _ => N15)
        refine tail_sub F15 lX (accO_inst N15 (.tail _ (.tail _ (.tail _ (.tail _ (.head _))))) (.tail _ (.tail _ (.tail _ (.tail _ (.tail _ (.head _))))))) (by with_unfolding_all rfl) ?_
        refine get_item F15 lX (accO_inst N15 (.tail _ (.tail _ (.tail _ (.tail _ (.head _))))) (.tail _ (.tail _ (.tail _ (.tail _ (.tail _ (.head _))))))) (by omega) (by rw [hix]; exact ref_at he) (by rw [List.size_toArray, List.length_map]; omega) ?_
        repeat' (first | (k_unfold; (try dsimp only)) | ((with_reducible show wpAny _ _ (execs (_ :: _) _) _ _ _); (first | (refine exCons s14 ?_; intro kS Pq hPq) | (refine exCons0 ?_; intro Pq hPq))) | (with_reducible refine Aft.next (by assumption) ?_) | (with_reducible refine Aft.ret (by assumption) ?_) | (with_reducible refine Aft.brk (by assumption) ?_) | (with_reducible refine Aft.cont (by assumption) ?_) | ((fail_if_success (with_reducible show wpAny _ _ (subscriptTail _ _ (.ref _) _) _ _ _)); walk1) | fail "no step")
        refine item_tupleT (l := [.str (Str.ofString " ") tf, .str c tcc]) (j := 0) ⟨_, (N15 _ (.tail _ (.tail _ (.tail _ (.tail _ (.tail _ (.tail _ (.tail _ (.head _))))))))).1, rfl, _, rfl⟩ (by decide) (by decide) rfl rfl ?_
        (try clear F14 N14)
        repeat' (first | (k_unfold; (try dsimp only)) | ((with_reducible show wpAny _ _ (execs (_ :: _) _) _ _ _); (first | (refine exCons s14 ?_; intro kS Pq hPq) | (refine exCons0 ?_; intro Pq hPq))) | (with_reducible refine Aft.next (by assumption) ?_) | (with_reducible refine Aft.ret (by assumption) ?_) | (with_reducible refine Aft.brk (by assumption) ?_) | (with_reducible refine Aft.cont (by assumption) ?_) | ((fail_if_success (with_reducible show TurnIs _ _ _ _ _ _ _ _ _)); walk1) | fail "no step")
        unfold TurnIs; dsimp only
        repeat' (first | (k_unfold; (try dsimp only)) | ((with_reducible show TurnIs _ _ _ _ _ _ _ _ _); unfold TurnIs; dsimp only) | ((with_reducible show wpAny _ _ (execs (_ :: _) _) _ _ _); (first | (refine exCons s14 ?_; intro kS Pq hPq) | (refine exCons0 ?_; intro Pq hPq))) | (with_reducible refine Aft.next (by assumption) ?_) | (with_reducible refine Aft.ret (by assumption) ?_) | (with_reducible refine Aft.brk (by assumption) ?_) | (with_reducible refine Aft.cont (by assumption) ?_) | ((fail_if_success (with_reducible show wpAny _ _ (getMethod (.ref x) _ _) _ _ _)); walk1) | fail "no step")
        (rename Fr _ _ _ _ => F16); (rename News _ _ _ _ => N16)
        subst hD
        rw [last_of] at N16
        refine accO_meth (f := 137) F16 lX N16 (.tail _ (.tail _ (.tail _ (.tail _ (.head _))))) (.tail _ (.tail _ (.tail _ (.tail _ (.tail _ (.head _)))))) (by kernel_rfl) (by kernel_rfl) rfl ?_
        repeat' (first | (k_unfold; (try dsimp only)) | ((with_reducible show wpAny _ _ (execs (_ :: _) _) _ _ _); (first | (refine exCons s14 ?_; intro kS Pq hPq) | (refine exCons0 ?_; intro Pq hPq))) | (with_reducible refine Aft.next (by assumption) ?_) | (with_reducible refine Aft.ret (by assumption) ?_) | (with_reducible refine Aft.brk (by assumption) ?_) | (with_reducible refine Aft.cont (by assumption) ?_) | ((fail_if_success (with_reducible show wpAny _ _ (call (.ref 137) _) _ _ _)); walk1) | fail "no step")
        (rename Fr _ _ _ _ => F17); (rename News _ _ _ _ => N17)
        refine popfrom_claim w mean mg mb x dx _ _ _ z tz k _ kk _ (.tail _ (.tail _ (.head _))) (ap_x H hA6) _ _ _ _ _ _ _ _ _ _ _ _ _ _ _ _ _ _ _ lB F17 lX (dropII N17) lT rfl (by rw [hs2]; omega) (by show dp + 1 + 20 < _; omega) (by show un + 3 + 8 * 20 < _; omega) ?_
        intro R h18 tk18 nn18 F18 N18 O18
        have hA8 : Apart x dx ll ((R, listOf #[.ref T] 0) :: (T, pairO (Str.ofString " ") tf c tcc) :: rest) := hA6.cons (Nat.ne_of_gt (O18 _ (.tail _ (.head _)))) (Nat.ne_of_gt (O18 _ (.tail _ (.tail _ (.head _))))) (Nat.ne_of_gt (O18 _ (.head _))) (Nat.ne_of_gt (O18 _ (.tail _ (.tail _ (.tail _ (.head _)))))) (Nat.ne_of_gt (O18 _ (.tail _ (.tail _ (.tail _ (.tail _ (.head _)))))))
        replace N18 := arrR N18
        (try clear F17 N17); (try clear F16 N16); (try clear F15 N15)
        repeat' (first | (k_unfold; (try dsimp only)) | ((with_reducible show wpAny _ _ (execs (_ :: _) _) _ _ _); (first | (refine exCons s14 ?_; intro kS Pq hPq) | (refine exCons0 ?_; intro Pq hPq))) | (with_reducible refine Aft.next (by assumption) ?_) | (with_reducible refine Aft.ret (by assumption) ?_) | (with_reducible refine Aft.brk (by assumption) ?_) | (with_reducible refine Aft.cont (by assumption) ?_) | ((fail_if_success (with_reducible show wpAny _ _ (call (.type _) _) _ _ _)); walk1) | fail "no step")
        (rename Fr _ _ _ _ => F20); (rename News _ _ _ _ => N20)
        refine kso_call (K := hd.heap_39 w.params) (f := 159) ?hu9 (lX.keeps F20.keep) (acc_inst (s := { s14 with heap := _, toks := _ }) (ds := ds) N20 (.tail _ (.tail _ (.head _))) (.tail _ (.tail _ (.tail _ (.head _))))) (by kernel_rfl) (by kernel_rfl) ?_
        case hu9 => (show un + 3 + 2 < _; omega)
        refine str_claim w mean mg mb x dx ds _ z tz k kk p2 _ (.tail _ (.head _)) (.tail _ (.tail _ (.head _))) (fun e h => .tail _ (.tail _ (.tail _ (.tail _ (.tail _ (.tail _ (hds e h))))))) htr2 (ap_2 H hA8) _ _ _ _ _ _ _ _ _ _ _ _ _ _ _ _ _ _ _ lB F20 lX (swap2 N20) lT rfl hb14 (mk_bound hm (by omega)) (by show dp + 1 + 10 < _; omega) (by show un + 3 + 2 + 8 * 10 < _; omega) ?_
        intro t21 s21 p21 F21 N21 htr21 hb21 ho21 hd21
        replace N21 := swap2 N21
        (try clear F20 N20); (try clear F18 N18)
        dsimp only [StrBack]
        repeat' (first | (k_unfold; (try dsimp only)) | ((with_reducible show wpAny _ _ (execs (_ :: _) _) _ _ _); (first | (refine exCons s21 ?_; intro kS Pq hPq) | (refine exCons0 ?_; intro Pq hPq))) | (with_reducible refine Aft.next (by assumption) ?_) | (with_reducible refine Aft.ret (by assumption) ?_) | (with_reducible refine Aft.brk (by assumption) ?_) | (with_reducible refine Aft.cont (by assumption) ?_) | ((fail_if_success (with_reducible show wpAny _ _ (call (.builtin _) _) _ _ _)); walk1) | fail "no step")
        (rename Fr _ _ _ _ => F22); (rename News _ _ _ _ => N22)
        refine ll_append F22 (rot5 N22) (ap_l H hA8) (by omega) ?_
        intro h23 nl23 F23 N23
        replace N23 := tor5 N23
        (try clear F22 N22); (try clear F21 N21)
        repeat' (first | (k_unfold; (try dsimp only)) | ((with_reducible show wpAny _ _ (execs (_ :: _) _) _ _ _); (first | (refine exCons s21 ?_; intro kS Pq hPq) | (refine exCons0 ?_; intro Pq hPq))) | (with_reducible refine Aft.next (by assumption) ?_) | (with_reducible refine Aft.ret (by assumption) ?_) | (with_reducible refine Aft.brk (by assumption) ?_) | (with_reducible refine Aft.cont (by assumption) ?_) | ((fail_if_success (with_reducible show wpAny _ _ (getMethod (.ref x) _ _) _ _ _)); walk1) | fail "no step")
        (rename Fr _ _ _ _ => F24); (rename News _ _ _ _ => N24)
        refine accO_meth (f := 167) F24 lX N24 (.tail _ (.tail _ (.head _))) (.tail _ (.tail _ (.tail _ (.head _)))) (by kernel_rfl) (by kernel_rfl) rfl ?_
        repeat' (first | (k_unfold; (try dsimp only)) | ((with_reducible show wpAny _ _ (execs (_ :: _) _) _ _ _); (first | (refine exCons s21 ?_; intro kS Pq hPq) | (refine exCons0 ?_; intro Pq hPq))) | (with_reducible refine Aft.next (by assumption) ?_) | (with_reducible refine Aft.ret (by assumption) ?_) | (with_reducible refine Aft.brk (by assumption) ?_) | (with_reducible refine Aft.cont (by assumption) ?_) | ((fail_if_success (with_reducible show wpAny _ _ (call (.ref 167) _) _ _ _)); walk1) | fail "no step")
        (rename Fr _ _ _ _ => F25); (rename News _ _ _ _ => N25)
        refine reset1_claim w mean mg mb x dx R _ _ _ _ z tz k kk _ (ap_x2 H hA6) (ap_d2 H hA6) _ _ _ _ _ _ _ _ _ _ _ _ _ _ _ _ _ _ _ lB F25 lX (toR N25) lT rfl (by rw [hs2]; omega) (by show dp + 1 + 20 < _; omega) (by show un + 3 + 8 * 20 < _; omega) ?_
        intro h26 tk26 nn26 tz26 F26 N26
        replace N26 := ofR N26
        (try clear F25 N25); (try clear F24 N24); (try clear F23 N23)
        repeat' (first | (k_unfold; (try dsimp only)) | ((with_reducible show wpAny _ _ (execs (_ :: _) _) _ _ _); (first | (refine exCons s21 ?_; intro kS Pq hPq) | (refine exCons0 ?_; intro Pq hPq))) | (with_reducible refine Aft.next (by assumption) ?_) | (with_reducible refine Aft.ret (by assumption) ?_) | (with_reducible refine Aft.brk (by assumption) ?_) | (with_reducible refine Aft.cont (by assumption) ?_) | (k_end; wrow_close) | walk1 | (dsimp only; walk1) | (leave1; try dsimp only) | fail "no step")
        rename News h₀ L _ _ => kN9
        refine hret _ _ _ [⟨T, Str.ofString " ", tf, c, tcc⟩] 0 _ _ _ _ _ (by assumption) kN9 (fun q hq => .tail _ hq) hA6 ?hds9 ?hm9 ?hch htr8 htr21 hb21 (ho21.trans (ho14.trans (ho9.trans ho8))) (hd21.trans (hd14.trans (hd9.trans hd8)))
        case hds9 =>
          intro e he
          rw [List.mem_singleton] at he
          subst he
          exact .head _
        case hm9 =>
          intro e he
          rw [List.mem_singleton] at he
          subst he
          exact ⟨rfl, hc⟩
        case hch =>
          unfold Chunk
          rw [if_neg (by omega)]
          exact ⟨rfl, rfl, t21, rfl⟩
      · intro U2 s14 h0
        exact absurd h0 (Nat.ne_of_gt hne)
  · intro U s9 h9
    rw [signs_two] at h9
    exact absurd h9 (by decide)
end
end Mine
end
section
open PySem PySem.W PyProof.Rows PySem.Calls PySem.Spec
set_option Elab.async false
namespace Mine
noncomputable def lineText (ps : List Str) : Str := Txt.join (Str.ofString "") (ps.map fun p => Txt.join (Str.ofString "") [Str.ofString " ", p])
theorem line_of {ds : List Part} (h : Mk ds) : Txt.join (Str.ofString "") (ds.map partText) = lineText (ds.map (·.p)) := by
  unfold lineText
  rw [List.map_map]
  congr 1
  refine List.map_congr_left fun d hd => ?_
  show partText d = _
  unfold partText
  rw [(h d hd).1]
  rfl
noncomputable abbrev PSt := List Str × Int × List Str
noncomputable def pstep (mx : Int) (st : PSt) (c : Str) : PSt :=
  if st.2.1 + 2 * ((st.1.length : Int) + 1) ≤ mx then (st.1 ++ [c], st.2.1, st.2.2) else ([c], 0, st.2.2 ++ [lineText st.1])
theorem snocS {x : Str} {t : Tok} : ∀ {us : List Value} {ws : List Str}, StrsAre us ws → StrsAre (us ++ [.str x t]) (ws ++ [x])
  | _, _, .nil => .cons _ _ .nil
  | _, _, .cons y u r => .cons y u (snocS r)
theorem join0_len (l : List Str) : (Txt.join (Str.ofString "") l).length = (l.map (·.length)).sum := by
  have h := congrArg List.length (join0_list l)
  rw [List.length_flatten, List.map_map] at h
  have e : (Txt.join (Str.ofString "") l).length = (Txt.join (Str.ofString "") l).cps.toList.length := by simp [Str.length]
  rw [e, h]
  congr 1
theorem line_len {ps : List Str} {n : Nat} (h : ∀ p ∈ ps, p.length ≤ 1) (hn : ps.length ≤ n) : (lineText ps).length ≤ n * 2 := by
  unfold lineText
  rw [join0_len, List.map_map]
  refine Nat.le_trans (sum_le_all (B := 2) ?_) ?_
  · intro x hx
    obtain ⟨p, hp, rfl⟩ := List.mem_map.mp hx
    have h1 := h p hp
    show (Txt.join (Str.ofString "") [Str.ofString " ", p]).length ≤ 2
    rw [join0_len]
    simp only [List.map_cons, List.map_nil, List.sum_cons, List.sum_nil]
    have : (Str.ofString " ").length = 1 := by decide
    omega
  · rw [List.length_map]; exact Nat.mul_le_mul_right _ hn
theorem chunk_step {mx : Int} {ds ds' : List Part} {z z' : Int} {lns lns' : Array Value} {c : Str} {L : List Str} (h : Chunk mx ds z lns c ds' z' lns') (hm : Mk ds) (hl : StrsAre lns.toList L) :
    ds'.map (·.p) = (pstep mx (ds.map (·.p), z, L) c).1 ∧ z' = (pstep mx (ds.map (·.p), z, L) c).2.1 ∧ StrsAre lns'.toList (pstep mx (ds.map (·.p), z, L) c).2.2 := by
  unfold Chunk at h
  unfold pstep
  simp only [List.length_map]
  split at h
  · rename_i hc
    rw [if_pos hc]
    obtain ⟨h1, h2, h3⟩ := h
    exact ⟨h1, h2, h3 ▸ hl⟩
  · rename_i hc
    rw [if_neg hc]
    obtain ⟨h1, h2, t, h3⟩ := h
    refine ⟨h1, h2, ?_⟩
    rw [h3, Array.toList_push, ← line_of hm]
    exact snocS hl
set_option maxRecDepth 100000 in
set_option maxHeartbeats 4000000 in
theorem chunk_claim (w : World) (mean : ExcName → Option Value) (mg mb : Str → Option Value) (v dv x dx ll : Addr) (mx : Int) (tm tc ts : Tok) (cv : Value) (k1 k2 k3 k4 k5 k6 : Tok) (ds : List Part) (c : Str) (tf tcc : Tok) (nn nl : Nat) (lns : Array Value) (z : Int) (tz k : Tok) (kk : Nat) (p1 p2 : Array Value) (rest : List (Addr × Obj)) (hv : (v, instObj 101 dv) ∈ rest) (hdv : (dv, vfDict w.params mx tm tc ts cv ll x k1 k2 k3 k4 k5 k6) ∈ rest) (hds : PartsIn rest ds) (hA : Apart x dx ll rest) (htr1 : TriplesOk p1.toList) (htr2 : TriplesOk p2.toList) :
  ∀ (dp un : Nat) (gd : Option (List Code)) (cn : Str) (cs : Scope) (a : Addr) (ccd : Value) (cl : List (Str × Addr)) (outer : List Env) (A₀ : Around) (base h₀ : Heap) (L : Addr) (m : Str → Option Value) (s : Shared) (Q E : Value → Shared → Prop) (p : Program) (loose : List Str),
    Below A₀ base outer h₀ → Fr h₀ L s.heap m → (hd.heap_39 w.params).In h₀ → News h₀ L s.heap ((147, tabObj p1) :: (154, tabObj p2) :: (x, accO dx (ds.map fun e => Value.ref e.a).toArray nn) :: (dx, accDict w.params z tz k kk) :: (ll, listOf lns nl) :: rest) → Top p loose mean mg mb h₀ → cs.kind = .function → AllBare s.gens →
    Mk ds → (c = Str.ofString "a" ∨ c = Str.ofString "b") → (ds.length ≤ 20 ∧ lns.size ≤ 90 ∧ 0 ≤ z ∧ z ≤ 1000) → (ds = [] → z + 2 ≤ mx ∨ 0 < z) → dp + 60 < recursionLimit → un + 8 * 60 < cLine →
    (∀ (s' : Shared) p1' p2' ds' z' nn' nl' tz' lns' rest', Fr h₀ L s'.heap m → News h₀ L s'.heap ((147, tabObj p1') :: (154, tabObj p2') :: (x, accO dx (ds'.map fun e => Value.ref e.a).toArray nn') :: (dx, accDict w.params z' tz' k kk) :: (ll, listOf lns' nl') :: rest') → (∀ q ∈ rest, q ∈ rest') → Apart x dx ll rest' → PartsIn rest' ds' → Mk ds' → Chunk mx ds z lns c ds' z' lns' → TriplesOk p1'.toList → TriplesOk p2'.toList → AllBare s'.gens → s'.os = s.os → s'.drawn = s.drawn → Q .none s') →
      wpAny (model Challenge.rw_sr0083_01.row.prog w) (ktrTop dp un gd cn cs L a ccd cl outer) (call (.ref 98) [.ref v, .str (Str.ofString " ") tf, .str c tcc]) Q E s := by
  intro dp un gd cn cs a ccd cl outer A₀ base h₀ L m s Q E p loose B F X N T hk hbare hm hc hz hne hdp hu hret
  by_cases hfit : z + 2 * ((ds.length : Int) + 1) ≤ mx
  · exact chunk1_claim w mean mg mb v dv x dx ll mx tm tc ts cv k1 k2 k3 k4 k5 k6 ds c tf tcc nn nl lns z tz k kk p1 p2 rest hv hdv hds hA htr1 htr2 dp un gd cn cs a ccd cl outer A₀ base h₀ L m s Q E p loose B F X N T hk hbare hm hc ⟨hz.1, by omega, hz.2.2.1, hz.2.2.2⟩ hfit hdp hu hret
  · cases ds with
    | nil =>
      have h0 := hne rfl
      rw [List.length_nil] at hfit
      exact chunk0_claim w mean mg mb v dv x dx ll mx tm tc ts cv k1 k2 k3 k4 k5 k6 c tf tcc nn nl lns z tz k kk p1 p2 rest hv hdv hA htr1 htr2 dp un gd cn cs a ccd cl outer A₀ base h₀ L m s Q E p loose B F X N T hk hbare hc ⟨hz.2.1, by omega, hz.2.2.2⟩ (by omega) hdp hu hret
    | cons d r => exact chunk2_claim w mean mg mb v dv x dx ll mx tm tc ts cv k1 k2 k3 k4 k5 k6 (d :: r) c tf tcc nn nl lns z tz k kk p1 p2 rest hv hdv hds hA htr1 htr2 dp un gd cn cs a ccd cl outer A₀ base h₀ L m s Q E p loose B F X N T hk hbare hm hc hz (by simp) (by omega) hdp hu hret
section
set_option maxRecDepth 100000 in
set_option maxHeartbeats 4000000 in
theorem str49_claim (w : World) (mean : ExcName → Option Value) (mg mb : Str → Option Value) (v dv x dx ll : Addr) (mx : Int) (tm tc ts : Tok) (cv : Value) (k1 k2 k3 k4 k5 k6 : Tok) (ds : List Part) (d : Part) (sep : Str) (tsep : Tok) (nn nl : Nat) (lns : Array Value) (tz k : Tok) (kk : Nat) (p1 p2 : Array Value) (ys : List Str) (rest : List (Addr × Obj)) (hv : (v, instObj 101 dv) ∈ rest) (hdv : (dv, vfDict w.params mx tm tc ts cv ll x k1 k2 k3 k4 k5 k6) ∈ rest) (hds : PartsIn rest (ds ++ [d])) (hA : Apart x dx ll rest) (htr1 : TriplesOk p1.toList) (htr2 : TriplesOk p2.toList) (hS : StrsAre lns.toList ys) :
  ∀ (dp un : Nat) (gd : Option (List Code)) (cn : Str) (cs : Scope) (a : Addr) (ccd : Value) (cl : List (Str × Addr)) (outer : List Env) (A₀ : Around) (base h₀ : Heap) (L : Addr) (m : Str → Option Value) (s : Shared) (Q E : Value → Shared → Prop) (p : Program) (loose : List Str),
    Below A₀ base outer h₀ → Fr h₀ L s.heap m → (hd.heap_39 w.params).In h₀ → News h₀ L s.heap ((147, tabObj p1) :: (154, tabObj p2) :: (x, accO dx ((ds.map fun e => Value.ref e.a).toArray.push (.ref d.a)) nn) :: (dx, accDict w.params 0 tz k kk) :: (ll, listOf lns nl) :: rest) → Top p loose mean mg mb h₀ → cs.kind = .function → AllBare s.gens →
    (ds.length ≤ 20 ∧ Mk (ds ++ [d])) → (lns.size ≤ 100 ∧ sep.length ≤ 16 ∧ ∀ y ∈ ys, y.length ≤ 100) → dp + 50 < recursionLimit → un + 8 * 50 < cLine →
    (∀ (s' : Shared) p1' p2' t rest', Fr h₀ L s'.heap m → News h₀ L s'.heap ((147, tabObj p1') :: (154, tabObj p2') :: rest') → (∀ q ∈ rest, q ∈ rest') → (∀ q ∈ rest', q.1 ≠ 147 ∧ q.1 ≠ 154) → TriplesOk p1'.toList → TriplesOk p2'.toList → AllBare s'.gens → s'.os = s.os → s'.drawn = s.drawn → Q (.str (Txt.join sep (ys ++ [lineText ((ds ++ [d]).map (·.p))])) t) s') →
      wpAny (model Challenge.rw_sr0083_01.row.prog w) (ktrTop dp un gd cn cs L a ccd cl outer) (call (.ref 49) [.ref v, .str sep tsep]) Q E s := by
  k_fill
  intro dp un gd cn cs a ccd cl outer A₀ base h₀ L m s Q E p loose B F X N T hk hbare hz hl hdp hu hret
  obtain ⟨hz1, hm⟩ := hz
  obtain ⟨hl1, hl2, hl3⟩ := hl
  refine wpAny_call ?_
  k_dflt cell_enter
  repeat' (first | (k_unfold; (try dsimp only)) | ((with_reducible show wpAny _ _ (execs (_ :: _) _) _ _ _); (first | (refine exCons s ?_; intro kS Pq hPq) | (refine exCons0 ?_; intro Pq hPq))) | (with_reducible refine Aft.next (by assumption) ?_) | (with_reducible refine Aft.ret (by assumption) ?_) | (with_reducible refine Aft.brk (by assumption) ?_) | (with_reducible refine Aft.cont (by assumption) ?_) | ((fail_if_success (with_reducible show wpAny _ _ (call (.ref 63) _) _ _ _)); walk1) | fail "no step")
  have H := heads_of N
  (rename Fr _ _ _ _ => F0); (rename News _ _ _ _ => N0); (rename Frag.In _ _ => lX); (rename Top _ _ _ _ _ _ => lT); (rename Below _ _ _ _ => lB)
  refine newline1_claim w mean mg mb v dv x dx ll mx tm tc ts cv k1 k2 k3 k4 k5 k6 ds d _ _ lns tz k kk p1 p2 _ hv hdv hds hA htr1 htr2 _ _ _ _ _ _ _ _ _ _ _ _ _ _ _ _ _ _ _ lB F0 lX N0 lT rfl hbare ⟨hz1, hm⟩ hl1 (by show dp + 1 + 40 < _; omega) (by show un + 3 + 8 * 40 < _; omega) ?_
  intro s1 q1 q2 nn1 nl1 tz1 t1 rest1 F1 N1 sub1 hA1 htr3 htr4 hb1 ho1 hd1
  rw [line_of hm] at N1
  have hv1 := sub1 _ hv
  have hdv1 := sub1 _ hdv
  have hS1 : StrsAre (lns.push (.str (lineText ((ds ++ [d]).map (·.p))) t1)).toList (ys ++ [lineText ((ds ++ [d]).map (·.p))]) := by rw [Array.toList_push]; exact snocS hS
  (try clear F0 N0)
  repeat' (first | (k_unfold; (try dsimp only)) | ((with_reducible show wpAny _ _ (execs (_ :: _) _) _ _ _); (first | (refine exCons s1 ?_; intro kS Pq hPq) | (refine exCons0 ?_; intro Pq hPq))) | (with_reducible refine Aft.next (by assumption) ?_) | (with_reducible refine Aft.ret (by assumption) ?_) | (with_reducible refine Aft.brk (by assumption) ?_) | (with_reducible refine Aft.cont (by assumption) ?_) | ((fail_if_success (with_reducible show wpAny _ _ (call (.builtin _) _) _ _ _)); walk1) | fail "no step")
  (rename Fr _ _ _ _ => F2); (rename News _ _ _ _ => N2)
  refine join_listW (ys := ys ++ [lineText ((ds ++ [d]).map (·.p))]) ⟨_, (N2 _ (.tail _ (.tail _ (.tail _ (.tail _ (.head _)))))).1, rfl, _, rfl⟩ hS1 hl2 ?hw ?_
  case hw =>
    have hlen : lns.size = ys.length := by have := hS.length; simpa using this
    have h1 := sum_le_all (B := 100) (l := (ys ++ [lineText ((ds ++ [d]).map (·.p))]).map (·.length)) (by
      intro n hn
      obtain ⟨y, hy, rfl⟩ := List.mem_map.mp hn
      rcases List.mem_append.mp hy with hy | hy
      · exact hl3 y hy
      · rw [List.mem_singleton] at hy
        subst hy
        refine Nat.le_trans (line_len (n := 21) ?_ ?_) (by decide)
        · intro p hp
          obtain ⟨e, he, rfl⟩ := List.mem_map.mp hp
          have := mk_len (hm e he)
          omega
        · simp; omega)
    rw [List.length_map] at h1
    simp only [List.length_append, List.length_singleton] at h1 ⊢
    omega
  intro t3 k3'
  (try clear F1 N1)
  repeat' (first | (k_unfold; (try dsimp only)) | ((with_reducible show wpAny _ _ (execs (_ :: _) _) _ _ _); (first | (refine exCons s1 ?_; intro kS Pq hPq) | (refine exCons0 ?_; intro Pq hPq))) | (with_reducible refine Aft.next (by assumption) ?_) | (with_reducible refine Aft.ret (by assumption) ?_) | (with_reducible refine Aft.brk (by assumption) ?_) | (with_reducible refine Aft.cont (by assumption) ?_) | (k_end; wrow_close) | walk1 | (dsimp only; walk1) | (leave1; try dsimp only) | fail "no step")
  rename News h₀ L _ _ => kN9
  refine hret _ _ _ _ _ (by assumption) kN9 (fun q hq => .tail _ (.tail _ (.tail _ (sub1 q hq)))) ?hap htr3 htr4 hb1 ho1 hd1
  case hap =>
    intro q hq
    rcases List.mem_cons.mp hq with rfl | hq
    · exact ⟨H.x1, H.x2⟩
    · rcases List.mem_cons.mp hq with rfl | hq
      · exact ⟨H.d1, H.d2⟩
      · rcases List.mem_cons.mp hq with rfl | hq
        · exact ⟨H.l1, H.l2⟩
        · exact ⟨(hA1 q hq).1, (hA1 q hq).2.1⟩
end
end Mine
end
section
open PySem PySem.W PyProof.Rows PySem.Calls PySem.Spec
set_option Elab.async false
namespace Mine
noncomputable abbrev madeList (ys : Array Value) (n : Nat) : Obj := { cls := .type "list", data := .seq ys n }
inductive LcSrc (prog : Program) (w : World) (A : Around) (env : Env) (scope : Scope) (x : Str) (cl : List (Str × Addr)) (elt : PySem.Expr) (F : Nat → Value → Prop) (Q : Value → Shared → Prop) (it : Value) (s₂ : Shared) : Prop where
  | mk I fp wr n P St (h1 : it = .ref I) (h2 : Walks prog w A I fp wr n P St) (h3 : n ≤ sizeLine) (h4 : St 0 s₂.heap) (h5 : ∀ b ∈ fp, @LT.lt Nat _ b s₂.heap.objs.size)
    (h6 : ∀ C c i v (s₃ : Shared) E', @LE.le Nat _ s₂.heap.objs.size C → @LE.le Nat _ s₂.heap.objs.size c → i < n → P i v → s₃.heap.IsCell c (some v) → s₃.gens = s₂.gens → (∀ b o, b ∉ wr → s₂.heap.get? b = some o → s₃.heap.get? b = some o) →
        wpAny (model prog w) A (eval elt (compEnvC scope ((x, c) :: cl) C env)) (fun y s₄ => F i y ∧ Keeps s₃ s₄) E' s₃)
    (h7 : ∀ D h' tk ys nn, s₂.heap.get? D = none → h'.get? D = some (madeList ys nn) → ys.size = n → (∀ j y, ys[j]? = some y → F j y) → (∀ b o, b ∉ wr → s₂.heap.get? b = some o → h'.get? b = some o) → Q (.ref D) { s₂ with heap := h', toks := tk }) : LcSrc prog w A env scope x cl elt F Q it s₂
inductive LcInv (s₂ : Shared) (n : Nat) (St : Nat → Heap → Prop) (F : Nat → Value → Prop) (wr : List Addr) (k : Nat) (s' : Shared) : Prop where
  | mk h' tk i ys v₀ m' (h1 : s' = { s₂ with heap := h', toks := tk }) (h2 : i ≤ n) (h3 : k = n + 1 - i) (h4 : St i h') (h5 : h'.get? s₂.heap.objs.size = some (madeList ys i)) (h6 : ys.size = i) (h7 : ∀ j y, ys[j]? = some y → F j y)
    (h8 : h'.IsCell (s₂.heap.objs.size + 2) v₀) (h9 : h'.Ns (s₂.heap.objs.size + 1) m') (h10 : ∀ b o, b ∉ wr → s₂.heap.get? b = some o → h'.get? b = some o) : LcInv s₂ n St F wr k s'
section
variable {prog : Program} {w : World} {A : Around} {E : Value → Shared → Prop} {s : Shared} {env : Env}
/-- a comprehension whose target is a cell of its block; its element leaves what stands -/
theorem ListComp_cell {elt iter : PySem.Expr} {x : Str} {px : Pos} {scope : Scope} {cl : List (Str × Addr)} {pos : Pos} {Q : Value → Shared → Prop} (F : Nat → Value → Prop)
    (hclos : closureFor scope env = pure cl) (hkind : scope.kind = .function)
    (hnames : ∀ y ∈ scope.names, y.2 = .local → scope.names.lookup y.1 = some .local)
    (hone : ∀ k, cellsFrom k scope.names cl = (x, k) :: cl) (hpush : ∀ h, pushCells h scope.names = h.push { cls := .type "cell", data := .cell none })
    (hx : (relabel scope env).names.lookup x = some .cell)
    (h : wpAny (model prog w) A (eval iter env) (fun xv s₁ => wpAny (model prog w) A (pyIter xv) (fun it s₂ => LcSrc prog w A env scope x cl elt F Q it s₂) E s₁) E s)
    (hs : ∀ x, foldedSetIterable iter env x = pure x := by intro _; rfl) :
    wpAny (model prog w) A (eval (.ListComp elt [⟨.Name x px, iter, [], 0⟩] scope pos) env) Q E s := by
  rw [eval_ListComp]
  refine wpAny_comprehension_free (use := none) rfl hs hclos hkind hnames (wpAny_mono h (fun xv s₁ h₁ => wpAny_mono h₁ (fun it s₂ h₂ => ?_) fun _ _ e => e) fun _ _ e => e)
  obtain ⟨I, fp, wr, n, P, St, rfl, W, hsz, hst, hfp, helt, hQ⟩ := h₂
  refine wpAny_newObj_type ?_
  simp only [newFunctionEnv, Option.isSome_some, if_true]
  refine wpAny_bind (wpAny_alloc ?_)
  refine wpAny_bind (wpAny_layCells _ (fun name kind cells => by cases hkc : kind == NameKind.cell <;> simp [hkc]) _ _ _ _ ?_)
  simp only [List.forIn_nil]
  refine wpAny_bind (wpAny_pure (wpAny_pure ?_))
  rw [hone, hpush]
  dsimp only
  have lt : ∀ b, @LT.lt Nat _ b s₂.heap.objs.size → b ≠ s₂.heap.objs.size ∧ b ≠ s₂.heap.objs.size + 1 ∧ b ≠ s₂.heap.objs.size + 2 := fun b hb => by
    have hb : @LT.lt Nat _ b s₂.heap.objs.size := hb
    refine ⟨fun e => ?_, fun e => ?_, fun e => ?_⟩ <;> (have e : @Eq Nat b _ := e; omega)
  have hC : (s₂.heap.push { cls := .type "list", dict := none, data := .seq ([] : List Value).toArray }).objs.size = s₂.heap.objs.size + 1 := by rw [Heap.size_push]
  have hc : ((s₂.heap.push { cls := .type "list", dict := none, data := .seq ([] : List Value).toArray }).push { cls := .type "dict", data := .dict #[] }).objs.size = s₂.heap.objs.size + 2 := by rw [Heap.size_push, hC]
  rw [hC, hc]
  generalize hH : ((s₂.heap.push { cls := .type "list", dict := none, data := .seq ([] : List Value).toArray }).push { cls := .type "dict", data := .dict #[] }).push { cls := .type "cell", data := .cell none } = H
  have old : ∀ b o, s₂.heap.get? b = some o → H.get? b = some o := fun b o e => hH ▸ Heap.get?_push_of_some _ (Heap.get?_push_of_some _ (Heap.get?_push_of_some _ e))
  have hD : H.get? s₂.heap.objs.size = some (madeList #[] 0) := hH ▸ Heap.get?_push_of_some _ (Heap.get?_push_of_some _ (Heap.get?_push_size _ rfl))
  have hNs : H.Ns (s₂.heap.objs.size + 1) (fun _ => none) := by
    have z := (Heap.Ns.new (s₂.heap.push { cls := .type "list", dict := none, data := .seq ([] : List Value).toArray }) (.type "dict"))
    rw [hC] at z
    exact hH ▸ z.keeps fun b o e => Heap.get?_push_of_some _ e
  have hcl : H.IsCell (s₂.heap.objs.size + 2) none := hH ▸ ⟨{ cls := .type "cell", data := .cell none }, by rw [← hc]; exact Heap.get?_push_size _ rfl, rfl⟩
  clear hH
  have hIlt : @LT.lt Nat _ I s₂.heap.objs.size ∨ I ∉ wr := by
    by_cases hm : I ∈ wr
    · exact .inl (hfp I (W.sub I hm))
    · exact .inr hm
  have wlt : ∀ b, b ∈ wr → @LT.lt Nat _ b s₂.heap.objs.size := fun b hb => hfp b (W.sub b hb)
  have nD : s₂.heap.objs.size ∉ wr := fun hm => (lt _ (wlt _ hm)).1 rfl
  have nC : s₂.heap.objs.size + 1 ∉ wr := fun hm => (lt _ (wlt _ hm)).2.1 rfl
  have nc : s₂.heap.objs.size + 2 ∉ wr := fun hm => (lt _ (wlt _ hm)).2.2 rfl
  have dDC : s₂.heap.objs.size ≠ s₂.heap.objs.size + 1 := by omega
  have dDc : s₂.heap.objs.size ≠ s₂.heap.objs.size + 2 := by omega
  have dCc : s₂.heap.objs.size + 1 ≠ s₂.heap.objs.size + 2 := by omega
  have hst₁ : St 0 H := W.frame _ _ _ hst fun b _ o e => old b o e
  have loop : codeAny (model prog w) A (.compLoop (.ListComp elt [⟨.Name x px, iter, [], 0⟩] scope pos) 0 (.ref I) (.ref s₂.heap.objs.size) (compEnvC scope ((x, s₂.heap.objs.size + 2) :: cl) (s₂.heap.objs.size + 1) env))
      (compPost (model prog w) A E none Q (.ref s₂.heap.objs.size) (s₂.heap.objs.size + 1)) { s₂ with heap := H } := by
    refine codeAny_compLoop_tests
      (LcInv s₂ n St F wr) ?_ (n + 1)
      ⟨H, _, 0, #[], none, _, rfl, Nat.zero_le _, rfl, hst₁, hD, rfl, (fun j y h => by simp at h), hcl, hNs, fun b o _ e => old b o e⟩
    rintro k s' ⟨h', tk, i, ys, v₀, m', rfl, hi, rfl, hst', hD', hys, hF, hcl', hNs', hk'⟩
    by_cases hlt : i < n
    · refine W.item i _ _ _ hlt hst' fun v h₂ tk₂ hPv hst₂ hk₂ => ?_
      refine wpAny_assign_Name (wpAny_storeName_cell hkind hx (c := s₂.heap.objs.size + 2) (by simp [compEnvC]) (let ⟨o, e, r⟩ := hcl'; ⟨o, hk₂ _ _ nc e, r⟩) fun h₃ hcl₃ hs₃ => ?_)
      refine wpAny_tests_nil ?_
      simp only [if_true]
      have hst₃ : St (i + 1) h₃ := W.frame _ _ _ hst₂ fun b hb o e => hs₃.extBut b o (fun q => by
        have h1 := hfp b hb
        rw [q] at h1
        exact (lt _ h1).2.2 rfl) e
      have up₃ : ∀ b o, b ∉ wr → b ≠ s₂.heap.objs.size + 2 → h'.get? b = some o → h₃.get? b = some o := fun b o hb hn e => hs₃.extBut b o hn (hk₂ b o hb e)
      refine wpAny_mono (helt (s₂.heap.objs.size + 1) (s₂.heap.objs.size + 2) i v _ _ (Nat.le_succ _) (Nat.le_add_right _ _) hlt hPv hcl₃ rfl fun b o hb e => up₃ b o hb (lt b (Heap.lt_size e)).2.2 (hk' b o hb e)) (fun y s₄ h₄ => ?_) fun _ _ e => e
      obtain ⟨hFy, h₄, tk₄, rfl, hk₄⟩ := h₄
      have hst₄ : St (i + 1) h₄ := W.frame _ _ _ hst₃ fun b _ o e => hk₄ b o e
      refine append_at (n := i) (hsz := by rw [hys]; exact Nat.le_trans hi hsz) (hk₄ _ _ (up₃ _ _ nD dDc hD')) fun h₅ hs₅ hD₅ => ?_
      refine ⟨n + 1 - (i + 1), by omega, h₅, tk₄, i + 1, ys.push y, some v, m', rfl, hlt, rfl, ?_, hD₅, by rw [Array.size_push, hys], ?_, ?_, ?_, ?_⟩
      · exact W.frame _ _ _ hst₄ fun b hb o e => hs₅.extBut b o (fun q => by
          have h1 := hfp b hb
          rw [q] at h1
          exact (lt _ h1).1 rfl) e
      · intro j y' hj
        by_cases hji : j < ys.size
        · rw [Array.getElem?_push_lt hji] at hj
          exact hF j y' (by rw [← hj]; exact Array.getElem?_eq_getElem hji)
        · have hj2 := (Array.getElem?_eq_some_iff.mp hj).1
          rw [Array.size_push] at hj2
          have hj3 : j = ys.size := by omega
          subst hj3
          rw [Array.getElem?_push_size] at hj
          cases hj
          rw [hys]; exact hFy
      · obtain ⟨o, e, r⟩ := hcl₃
        exact ⟨o, hs₅.extBut _ _ (Ne.symm dDc) (hk₄ _ _ e), r⟩
      · exact (hNs'.at' fun o e => hk₄ _ _ (up₃ _ o nC dCc e)).sameBut hs₅ (Ne.symm dDC)
      · intro b o hb e
        exact hs₅.extBut b o (lt b (Heap.lt_size e)).1 (hk₄ b o (up₃ b o hb (lt b (Heap.lt_size e)).2.2 (hk' b o hb e)))
    · obtain rfl : i = n := Nat.le_antisymm hi (Nat.not_lt.mp hlt)
      refine W.done _ _ _ hst' fun h₂ tk₂ hk₂ => ?_
      refine ⟨m', hNs'.at' fun o e => hk₂ _ o nC e, fun h'' hs'' => hQ _ h'' tk₂ ys i ?_ (hs''.extBut _ _ dDC (hk₂ _ _ nD hD')) hys hF fun b o hb e => hs''.extBut b o (lt b (Heap.lt_size e)).2.1 (hk₂ b o hb (hk' b o hb e))⟩
      cases e : s₂.heap.get? s₂.heap.objs.size with
      | none => rfl
      | some o => exact absurd rfl (lt _ (Heap.lt_size e)).1
  exact codeAny_compStart_list loop (W.self 0 _ _ _ hst₁ loop)
end
end Mine
end
section
open PySem PySem.W PyProof.Rows PySem.Calls PySem.Spec
set_option Elab.async false
namespace Mine
noncomputable def pageOf (S : Str) (wd hd : Int) : PSt := (signs S).foldl (pstep (2 * wd)) ([], 2 * hd, [])
noncomputable def rowsText (S : Str) (wd hd : Int) : Str := Txt.mul (Str.ofString "  ") hd ++ Txt.join (Str.ofString "|") ((pageOf S wd hd).2.2 ++ [lineText (pageOf S wd hd).1])
noncomputable def rowsOf (S : Str) (wd hd : Int) : List Str := Txt.split (rowsText S wd hd) (Str.ofString "|")
theorem ne_of_obj {h₀ h : Heap} {L a b : Addr} {o1 o2 : Obj} {news : List (Addr × Obj)} (N : News h₀ L h news) (h1 : (a, o1) ∈ news) (h2 : (b, o2) ∈ news) (hc : o1 ≠ o2) : a ≠ b := by
  intro e
  have x := (N _ h1).1
  have y := (N _ h2).1
  subst e
  rw [x] at y
  exact hc (Option.some.inj y)
theorem vf_acc (P : Params) (mx z : Int) (tm tc ts t k : Tok) (cv : Value) (ll x : Addr) (k1 k2 k3 k4 k5 k6 : Tok) (kk : Nat) : vfDict P mx tm tc ts cv ll x k1 k2 k3 k4 k5 k6 ≠ accDict P z t k kk := by
  intro h
  have h2 := congrArg Obj.data h
  simp at h2
/-- what a state of the page may be -/
noncomputable def PInv (hd2 : Int) (i : Nat) (st : PSt) : Prop := st.1.length ≤ i ∧ st.2.2.length ≤ i ∧ (st.2.1 = 0 ∨ st.2.1 = hd2) ∧ ∀ y ∈ st.2.2, y.length ≤ i * 2
theorem pinv_step {mx hd2 : Int} {i : Nat} {st : PSt} {c : Str} (h : PInv hd2 i st) (hc : ∀ p ∈ st.1, p.length ≤ 1) : PInv hd2 (i + 1) (pstep mx st c) := by
  obtain ⟨h1, h2, h3, h4⟩ := h
  unfold pstep
  split
  · exact ⟨by simp; omega, Nat.le_succ_of_le h2, h3, fun y hy => Nat.le_trans (h4 y hy) (by omega)⟩
  · refine ⟨by simp, by simp; omega, .inl rfl, fun y hy => ?_⟩
    rcases List.mem_append.mp hy with hy | hy
    · exact Nat.le_trans (h4 y hy) (by omega)
    · rw [List.mem_singleton] at hy
      subst hy
      exact Nat.le_trans (line_len hc h1) (by omega)
inductive ColJ (P : Params) (S : Str) (mx hd2 : Int) (x dx ll : Addr) (k : Tok) (kk : Nat) (m : Str → Option Value) (rest₀ : List (Addr × Obj)) (i : Nat) (m' : Str → Option Value) (nx : List (Addr × Obj)) (g : Array GenState) : Prop where
  | mk (h1 : (∀ y, y ≠ Str.ofString "sign" → m' y = m y)) (h2 : AllBare g) p1 p2 ds z nn nl tz lns L rest' (h3 : nx = (147, tabObj p1) :: (154, tabObj p2) :: (x, accO dx (List.map (fun e => Value.ref e.a) ds).toArray nn) :: (dx, accDict P z tz k kk) :: (ll, listOf lns nl) :: rest') (h4 : (∀ q ∈ rest₀, q ∈ rest')) (h5 : Apart x dx ll rest') (h6 : PartsIn rest' ds) (h7 : Mk ds) (h8 : TriplesOk p1.toList) (h9 : TriplesOk p2.toList) (h10 : StrsAre lns.toList L) (h11 : (ds.map (·.p), z, L) = ((signs S).take i).foldl (pstep mx) ([], hd2, [])) (h12 : PInv hd2 i (ds.map (·.p), z, L)) : ColJ P S mx hd2 x dx ll k kk m rest₀ i m' nx g
set_option maxHeartbeats 4000000 in
theorem col_end {P : Params} {S : Str} {mx hd2 : Int} {x dx ll I : Addr} {it : Obj} {k : Tok} {kk : Nat} {m m' : Str → Option Value} {rest₀ rest' : List (Addr × Obj)} {i : Nat} {c : Str} {h₀ : Heap} {E : Addr} {s₁ s₃ : Shared} {p1 p2 : Array Value} {ds ds' : List Part} {z z' : Int} {nn nl : Nat} {tz : Tok} {lns lns' : Array Value} {L : List Str}
    (hsig : (signs S)[i]? = some c) (hI : it.cls ≠ .type "tuple") (F : Fr h₀ E s₃.heap m') (N : News h₀ E s₃.heap ((147, tabObj p1) :: (154, tabObj p2) :: (x, accO dx (List.map (fun e => Value.ref e.a) ds').toArray nn) :: (dx, accDict P z' tz k kk) :: (ll, listOf lns' nl) :: rest'))
    (hIr : (I, it) ∈ rest') (hr : ∀ q ∈ rest₀, q ∈ rest' ∧ q.1 ≠ I) (hA : Apart x dx ll rest') (hds : PartsIn rest' ds') (hm : Mk ds) (hm' : Mk ds') (hch : Chunk mx ds z lns c ds' z' lns') (ht1 : TriplesOk p1.toList) (ht2 : TriplesOk p2.toList) (hb : AllBare s₃.gens)
    (hS : StrsAre lns.toList L) (he : (ds.map (·.p), z, L) = ((signs S).take i).foldl (pstep mx) ([], hd2, [])) (hpi : PInv hd2 i (ds.map (·.p), z, L)) (ho : s₃.os = s₁.os) (hd : s₃.drawn = s₁.drawn) (hmap : ∀ y, y ≠ Str.ofString "sign" → m' y = m y) :
    TurnEnds h₀ E I it (ColJ P S mx hd2 x dx ll k kk m rest₀ (i + 1)) s₁ s₃ := by
  obtain ⟨e1, e2, e3⟩ := chunk_step hch hm hS
  have hI2 := hA _ hIr
  have hne : ∀ q ∈ rest'.filter (fun q => decide (q.1 ≠ I)), q ∈ rest' ∧ q.1 ≠ I := fun q hq => by
    have := List.mem_filter.mp hq
    exact ⟨this.1, by simpa using this.2⟩
  have hfil : ∀ q ∈ rest', q.1 ≠ I → q ∈ rest'.filter (fun q => decide (q.1 ≠ I)) := fun q hq hn => List.mem_filter.mpr ⟨hq, by simpa using hn⟩
  refine ⟨m', (147, tabObj p1) :: (154, tabObj p2) :: (x, accO dx (List.map (fun e => Value.ref e.a) ds').toArray nn) :: (dx, accDict P z' tz k kk) :: (ll, listOf lns' nl) :: rest'.filter (fun q => decide (q.1 ≠ I)), F, ?_, ?_, ho, hd, hmap, hb, p1, p2, ds', z', nn, nl, tz, lns', (pstep mx (ds.map (·.p), z, L) c).2.2, _, rfl, fun q hq => hfil q (hr q hq).1 (hr q hq).2, fun q hq => hA q (hne q hq).1, ?_, hm', ht1, ht2, e3, ?_, ?_⟩
  · intro q hq
    refine N q ?_
    simp only [List.mem_cons] at hq ⊢
    rcases hq with h | h | h | h | h | h | h
    · rw [h]; simp [hIr]
    · simp [h]
    · simp [h]
    · simp [h]
    · simp [h]
    · simp [h]
    · simp [(hne q h).1]
  · intro q hq
    simp only [List.mem_cons] at hq
    rcases hq with h | h | h | h | h | h
    · rw [h]; exact (Ne.symm hI2.1)
    · rw [h]; exact (Ne.symm hI2.2.1)
    · rw [h]; exact (Ne.symm hI2.2.2.1)
    · rw [h]; exact (Ne.symm hI2.2.2.2.1)
    · rw [h]; exact (Ne.symm hI2.2.2.2.2)
    · exact (hne q h).2
  · intro d hd
    refine hfil _ (hds d hd) ?_
    intro e
    have h1 := (N _ (.tail _ (.tail _ (.tail _ (.tail _ (.tail _ (hds d hd))))))).1
    have h2 := (N _ (.tail _ (.tail _ (.tail _ (.tail _ (.tail _ hIr)))))).1
    dsimp only at h1 h2
    have e' : d.a = I := e
    rw [e', h2] at h1
    have h3 := Option.some.inj h1
    rw [h3] at hI
    exact hI rfl
  · rw [List.take_add_one, hsig, List.foldl_append, ← he, e1, e2]
    rfl
  · rw [e1, e2]
    exact pinv_step hpi fun p hp => by
      obtain ⟨e, he, rfl⟩ := List.mem_map.mp hp
      have := mk_len (hm e he)
      omega
end Mine
end
section
open PySem PySem.W PyProof.Rows PySem.Calls PySem.Spec
set_option Elab.async false
namespace Mine
noncomputable def colAt (rows : List Str) (k : Int) : Str := Txt.join (Str.ofString "") ((rows.filter fun r => decide (2 * k + 1 < (r.length : Int))).map fun r => Txt.item r (2 * k + 1))
noncomputable def colsOf (S : Str) (wd hd : Int) : List Str := (List.range wd.toNat).map fun (i : Nat) => colAt (rowsOf S wd hd) (i : Int)
section
variable {M : Model} {A : Around} {E : Value → Shared → Prop} {s : Shared}
theorem ldC {env : Env} {x : Str} {pos : Pos} {c : Addr} {v : Value} {Q : Value → Shared → Prop} (hv : s.heap.IsCell c (some v)) (h : Q v s) (hk : env.scope.kind = .function) (hl : env.kindOf x = some .cell) (hc : env.cells.lookup x = some c) (hb : (x == ("__debug__" : Str)) = false := by decide) :
    wpAny M A (eval (.Name x pos) env) Q E s := wpAny_Name (wpAny_loadName_cell hk hl hc hv h) hb
theorem ldF {env : Env} {x : Str} {pos : Pos} {c : Addr} {v : Value} {Q : Value → Shared → Prop} (hv : s.heap.IsCell c (some v)) (h : Q v s) (hk : env.scope.kind = .function) (hl : env.kindOf x = some .free) (hc : env.cells.lookup x = some c) (hb : (x == ("__debug__" : Str)) = false := by decide) (hn : (x == ("__classdict__" : Str)) = false := by decide) :
    wpAny M A (eval (.Name x pos) env) Q E s := wpAny_Name (wpAny_loadName_free hk hl hc hv h hn) hb
theorem ldL {env : Env} {x : Str} {pos : Pos} {m : Str → Option Value} {v : Value} {Q : Value → Shared → Prop} (hn : s.heap.Ns env.locals m) (hv : m x = some v) (h : Q v s) (hk : env.scope.kind = .function) (hl : env.kindOf x = some .local) (hb : (x == ("__debug__" : Str)) = false := by decide) :
    wpAny M A (eval (.Name x pos) env) Q E s := wpAny_Name (wpAny_loadName_local hk hl hn hv h) hb
end
theorem rows_short {S y : Str} {wd hd : Int} {n : Nat} (hy : y ∈ rowsOf S wd hd) (h : (rowsText S wd hd).length ≤ n) : y.length ≤ n := Nat.le_trans (part_short hy) h
theorem rows_le (S : Str) (wd hd : Int) : (rowsOf S wd hd).length ≤ (rowsText S wd hd).length + 2 := by
  have h := StrLaws.occ_length_le (rowsText S wd hd) (Str.ofString "|") 0 (rowsText S wd hd).length ((rowsText S wd hd).length + 1)
  unfold rowsOf Txt.split
  split
  · simp
  · split
    · simp
    · rw [length_partsBetween]
      omega
theorem paired_cols {k : Int} : ∀ {vs : List Value} {rows : List Str} {ys : List Value}, StrsAre vs rows →
    Paired (fun v y => ∃ x t u, v = .str x t ∧ y = .str (Txt.item x (2 * k + 1)) u) (vs.filter fun v => match v with | .str x _ => decide (2 * k + 1 < (x.length : Int)) | _ => false) ys →
    StrsAre ys ((rows.filter fun r => decide (2 * k + 1 < (r.length : Int))).map fun r => Txt.item r (2 * k + 1))
  | _, _, _, .nil, h => by cases h; exact .nil
  | _, _, _, .cons y t r, h => by
    by_cases hc : 2 * k + 1 < (y.length : Int)
    · rw [List.filter_cons_of_pos (by simpa using hc)] at h
      rw [List.filter_cons_of_pos (by simpa using hc), List.map_cons]
      cases h with
      | cons h1 h2 =>
        obtain ⟨x', t', u', e1, e2⟩ := h1
        injection e1 with e3 _
        subst e3
        subst e2
        exact .cons _ _ (paired_cols r h2)
    · rw [List.filter_cons_of_neg (by simpa using hc)] at h
      rw [List.filter_cons_of_neg (by simpa using hc)]
      exact paired_cols r h
theorem fits_small {i : Int} (h0 : 0 ≤ i) (h1 : i ≤ 1000) : fitsSsize i = true := by
  simp only [fitsSsize, Bool.not_eq_true', Bool.or_eq_false_iff, decide_eq_false_iff_not]
  omega
theorem cols_strs : ∀ {vs : List Value} {ns : List Str}, vs.length = ns.length → (∀ (j : Nat) (v : Value), vs[j]? = some v → ∃ n : Str, ns[j]? = some n ∧ ∃ t : Tok, v = Value.str n t) → StrsAre vs ns
  | [], [], _, _ => .nil
  | v :: vs, n :: ns, h, g => by
    obtain ⟨n', e, t, rfl⟩ := g 0 v rfl
    cases e
    exact .cons _ _ (cols_strs (by simpa using h) fun j v hj => g (j + 1) v hj)
  | [], _ :: _, h, _ => by simp at h
  | _ :: _, [], h, _ => by simp at h
theorem news_plus {h₀ h h' : Heap} {L D : Addr} {o : Obj} {m : Str → Option Value} {l : List (Addr × Obj)} (F : Fr h₀ L h m) (N : News h₀ L h' l) (hD : h.get? D = none) (e : h'.get? D = some o) : News h₀ L h' ((D, o) :: l) := by
  intro q hq
  rcases List.mem_cons.mp hq with rfl | hq
  · refine ⟨e, fun e1 => ?_, ?_⟩
    · have e1 : D = L := e1
      subst e1
      obtain ⟨_, _, _, e2, _⟩ := F.ns
      rw [hD] at e2
      cases e2
    · cases e3 : h₀.get? D with
      | none => rfl
      | some o' =>
        have := F.keep _ _ e3
        rw [hD] at this
        cases this
  · exact N q hq
theorem joinS_len (sep : Str) : ∀ l : List Str, (Txt.join sep l).length ≤ (l.map (·.length)).sum + l.length * sep.length := by
  intro l
  show (Builtin.Str.glued sep l).length ≤ _
  rw [StrLaws.glued_eq_join]
  induction l with
  | nil => exact Nat.zero_le _
  | cons a r ih =>
    cases r with
    | nil => simp [Str.join]
    | cons b r =>
      show (a ++ sep ++ Str.join sep (b :: r)).length ≤ _
      rw [Str.length_append, Str.length_append, List.map_cons, List.sum_cons, List.length_cons, Nat.succ_mul]
      omega
noncomputable def absS (mx : Int) (s : Nat × Int) : Nat × Int := if s.2 + 2 * ((s.1 : Int) + 1) ≤ mx then (s.1 + 1, s.2) else (1, 0)
theorem pstep_abs (mx : Int) (st : PSt) (c : Str) : ((pstep mx st c).1.length, (pstep mx st c).2.1) = absS mx (st.1.length, st.2.1) := by
  unfold pstep absS
  dsimp only
  split <;> simp
theorem fold_abs (mx : Int) : ∀ (l : List Str) (st : PSt), ((l.foldl (pstep mx) st).1.length, (l.foldl (pstep mx) st).2.1) = (List.replicate l.length ()).foldl (fun a _ => absS mx a) (st.1.length, st.2.1)
  | [], _ => rfl
  | c :: r, st => by
    rw [List.foldl_cons, fold_abs mx r, pstep_abs]
    rfl
theorem signs_len (S : Str) : (signs S).length = S.length := by unfold signs; rw [List.length_map, Array.length_toList]; rfl
theorem page_end {S : Str} {wd hv : Int} (hS : S.length = 8) (h1 : 1 ≤ wd) (h2 : wd ≤ 7) (h3 : 0 ≤ hv) (h4 : hv ≤ 1) : (pageOf S wd hv).2.1 = 0 ∧ (pageOf S wd hv).1 ≠ [] := by
  have h := fold_abs (2 * wd) (signs S) ([], 2 * hv, [])
  rw [signs_len, hS] at h
  have hd : ∀ w ∈ List.range 8, ∀ k ∈ List.range 2, w ≠ 0 → ((List.replicate 8 ()).foldl (fun a _ => absS (2 * (w : Int)) a) (0, 2 * (k : Int))).2 = 0 ∧ ((List.replicate 8 ()).foldl (fun a _ => absS (2 * (w : Int)) a) (0, 2 * (k : Int))).1 ≠ 0 := by decide
  have hw : ((wd.toNat : Nat) : Int) = wd := by omega
  have hk : ((hv.toNat : Nat) : Int) = hv := by omega
  have e := hd wd.toNat (List.mem_range.mpr (by omega)) hv.toNat (List.mem_range.mpr (by omega)) (by omega)
  rw [hw, hk] at e
  rw [show (([] : List Str).length, 2 * hv) = ((0 : Nat), 2 * hv) from rfl] at h
  rw [← h] at e
  refine ⟨e.1, fun h0 => e.2 ?_⟩
  show ((signs S).foldl (pstep (2 * wd)) ([], 2 * hv, [])).1.length = 0
  unfold pageOf at h0
  rw [h0]; rfl
theorem keep_map0 {x : Str} {v : Option Value} {m m' : Str → Option Value} (hm : ∀ y, y ≠ x → m' y = m y) : (fun y => if y = x then v else m' y) = fun y => if y = x then v else m y := by
  funext y
  by_cases h : y = x
  · simp [h]
  · simp [h, hm y h]
theorem keep_mapU {x : Str} {m m' : Str → Option Value} (hm : ∀ y, y ≠ x → m' y = m y) : m' = fun y => if y = x then m' x else m y := by
  funext y
  by_cases h : y = x
  · simp [h]
  · simp [h, hm y h]
section
variable {h₀ h : Heap} {L : Addr} {a b c d e f g i : Addr × Obj} {l : List (Addr × Obj)}
theorem colArr (N : News h₀ L h (a :: b :: c :: d :: e :: f :: g :: i :: l)) : News h₀ L h (g :: i :: c :: d :: e :: a :: b :: f :: l) := fun q hq => N q (by simp only [List.mem_cons] at hq ⊢; rcases hq with h | h | h | h | h | h | h | h | h <;> simp [h])
theorem colI (N : News h₀ L h (a :: b :: c :: d :: e :: f :: l)) : News h₀ L h (b :: c :: d :: e :: f :: a :: l) := fun q hq => N q (by simp only [List.mem_cons] at hq ⊢; rcases hq with h | h | h | h | h | h | h <;> simp [h])
end
theorem apart0 {h₀ h : Heap} {L x dx ll v dv c : Addr} {oc : Obj} {P : Params} {mx z : Int} {tm tc ts tz k : Tok} {cv : Value} {k1 k2 k3 k4 k5 k6 : Tok} {kk nn nl : Nat} {p1 p2 its lns : Array Value} {rest : List (Addr × Obj)}
    (N : News h₀ L h ((147, tabObj p1) :: (154, tabObj p2) :: (x, accO dx its nn) :: (dx, accDict P z tz k kk) :: (ll, listOf lns nl) :: (v, instObj 101 dv) :: (dv, vfDict P mx tm tc ts cv ll x k1 k2 k3 k4 k5 k6) :: (c, oc) :: rest))
    (hP : ∀ q ∈ rest, q.1 ≠ 147 ∧ q.1 ≠ 154) (h1 : @LT.lt Nat _ 147 c) (h2 : @LT.lt Nat _ 154 c) (O : ∀ q ∈ (c, oc) :: (147, tabObj p1) :: (154, tabObj p2) :: rest, @LT.lt Nat _ q.1 dv ∧ @LT.lt Nat _ q.1 v ∧ @LT.lt Nat _ q.1 x ∧ @LT.lt Nat _ q.1 dx ∧ @LT.lt Nat _ q.1 ll) :
    Apart x dx ll ((v, instObj 101 dv) :: (dv, vfDict P mx tm tc ts cv ll x k1 k2 k3 k4 k5 k6) :: (c, oc) :: rest) := by
  have O1 := O _ (.tail _ (.head _))
  have O2 := O _ (.tail _ (.tail _ (.head _)))
  refine List.forall_mem_cons.mpr ⟨⟨Nat.ne_of_gt O1.2.1, Nat.ne_of_gt O2.2.1, ?_, ?_, ?_⟩, List.forall_mem_cons.mpr ⟨⟨Nat.ne_of_gt O1.1, Nat.ne_of_gt O2.1, ?_, ?_, ?_⟩, List.forall_mem_cons.mpr ⟨?_, ?_⟩⟩⟩
  · exact ne_of_cls N (.tail _ (.tail _ (.tail _ (.tail _ (.tail _ (.head _)))))) (.tail _ (.tail _ (.head _))) (by intro h; cases h)
  · exact ne_of_cls N (.tail _ (.tail _ (.tail _ (.tail _ (.tail _ (.head _)))))) (.tail _ (.tail _ (.tail _ (.head _)))) (by intro h; cases h)
  · exact ne_of_cls N (.tail _ (.tail _ (.tail _ (.tail _ (.tail _ (.head _)))))) (.tail _ (.tail _ (.tail _ (.tail _ (.head _))))) (by intro h; cases h)
  · exact ne_of_cls N (.tail _ (.tail _ (.tail _ (.tail _ (.tail _ (.tail _ (.head _))))))) (.tail _ (.tail _ (.head _))) (by intro h; cases h)
  · exact ne_of_obj N (.tail _ (.tail _ (.tail _ (.tail _ (.tail _ (.tail _ (.head _))))))) (.tail _ (.tail _ (.tail _ (.head _)))) (fun h => vf_acc _ _ _ _ _ _ _ _ _ _ _ _ _ _ _ _ _ _ h)
  · exact ne_of_cls N (.tail _ (.tail _ (.tail _ (.tail _ (.tail _ (.tail _ (.head _))))))) (.tail _ (.tail _ (.tail _ (.tail _ (.head _))))) (by simp)
  · have := O _ (.head _)
    exact ⟨Nat.ne_of_gt h1, Nat.ne_of_gt h2, Nat.ne_of_lt this.2.2.1, Nat.ne_of_lt this.2.2.2.1, Nat.ne_of_lt this.2.2.2.2⟩
  · intro q hq
    have := O q (.tail _ (.tail _ (.tail _ hq)))
    exact ⟨(hP q hq).1, (hP q hq).2, Nat.ne_of_lt this.2.2.1, Nat.ne_of_lt this.2.2.2.1, Nat.ne_of_lt this.2.2.2.2⟩
section
variable {prog : Program} {w : World} {A : Around} {E : Value → Shared → Prop} {s : Shared} {h₀ : Heap} {L c : Addr} {m : Str → Option Value} {rest : List (Addr × Obj)}
/-- a cell at the head of the ledger is stored to -/
theorem store_cell {env : Env} {x : Str} {o : Obj} {v₀ : Option Value} {v : Value} {Q : Unit → Shared → Prop} (F : Fr h₀ L s.heap m) (N : News h₀ L s.heap ((c, o) :: rest)) (hP : ∀ q ∈ rest, q.1 ≠ c) (hd : o.data = .cell v₀)
    (hk : env.scope.kind = .function) (hx : env.kindOf x = some .cell) (hc : env.cells.lookup x = some c)
    (h : ∀ h' o', Fr h₀ L h' m → News h₀ L h' ((c, o') :: rest) → o'.data = .cell (some v) → Q () { s with heap := h' }) : wpAny (model prog w) A (storeName env x v) Q E s := by
  have z := N _ (.head _)
  refine wpAny_storeName_cell hk hx hc ⟨o, z.1, hd⟩ fun h' hv hs => ?_
  obtain ⟨o', ho', hd'⟩ := hv
  refine h h' o' (F.change hs z.2.1 z.2.2) (fun p hp => ?_) hd'
  rcases List.mem_cons.mp hp with rfl | hp
  · exact ⟨ho', z.2⟩
  · have n := N p (.tail _ hp)
    exact ⟨(hs.2 _ (hP p hp)).trans n.1, n.2⟩
end
section
set_option maxRecDepth 100000 in
set_option maxHeartbeats 4000000 in
theorem cols_claim (w : World) (mean : ExcName → Option Value) (mg mb : Str → Option Value) (S : Str) (wd hdv : Int) (t1 t2 t3 : Tok) (p1 p2 : Array Value) (rest : List (Addr × Obj)) (htr1 : TriplesOk p1.toList) (htr2 : TriplesOk p2.toList) (hP : ∀ q ∈ rest, q.1 ≠ 147 ∧ q.1 ≠ 154) :
  ∀ (dp un : Nat) (gd : Option (List Code)) (cn : Str) (cs : Scope) (a : Addr) (ccd : Value) (cl : List (Str × Addr)) (outer : List Env) (A₀ : Around) (base h₀ : Heap) (L : Addr) (m : Str → Option Value) (s : Shared) (Q E : Value → Shared → Prop) (p : Program) (loose : List Str),
    Below A₀ base outer h₀ → Fr h₀ L s.heap m → (hd.heap_39 w.params).In h₀ → News h₀ L s.heap ((147, tabObj p1) :: (154, tabObj p2) :: rest) → Top p loose mean mg mb h₀ → cs.kind = .function → AllBare s.gens →
    (S.length = 8 ∧ ∀ c ∈ signs S, c = Str.ofString "a" ∨ c = Str.ofString "b") → (1 ≤ wd ∧ wd ≤ 7 ∧ 0 ≤ hdv ∧ hdv ≤ 1) → dp + 80 < recursionLimit → un + 8 * 80 < cLine →
    (∀ (s' : Shared) p1' p2' R vs nn, Fr h₀ L s'.heap m → News h₀ L s'.heap ((147, tabObj p1') :: (154, tabObj p2') :: (R, madeList vs nn) :: rest) → StrsAre vs.toList (colsOf S wd hdv) → TriplesOk p1'.toList → TriplesOk p2'.toList → AllBare s'.gens → s'.os = s.os → s'.drawn = s.drawn → Q (.ref R) s') →
      wpAny (model Challenge.rw_sr0083_01.row.prog w) (ktrTop dp un gd cn cs L a ccd cl outer) (call (.ref 260) [.str S t1, .int wd t2, .int hdv t3]) Q E s := by
  k_fill
  intro dp un gd cn cs a ccd cl outer A₀ base h₀ L m s Q E p loose B F X N T hk hbare hS hb hdp hu hret
  obtain ⟨hS1, hS2⟩ := hS
  obtain ⟨hb1, hb2, hb3, hb4⟩ := hb
  refine wpAny_call ?_
  k_dflt (refine' code_defC ?k1 ?k2 ?k3 ?k4 ?k5 ?kA ?kF ?kK ?k6 ?k7 ?k8 ?k9 ?kB ?kD ?_ ?c2 ?c3 ?c4; (case kA => exact rfl); (case kF => exact rfl); (case kK => assumption); (case k1 => k_asm); (case k2 => k_asm); (case k3 => k_asm); (case k4 => k_asm); (case k5 => k_asm); (case k6 => k_is); (case k7 => k_is); (case k8 => ktr_room); (case k9 => first | exact BindsTo.of_eq rfl | exact binds_K (by k_in) rfl (by k_is) rfl rfl rfl); (case kB => exact rfl); (case kD => decide +kernel); (case c2 => exact rfl); (case c3 => exact rfl); (case c4 => exact rfl); k_whole; intro g' L' h' tk' cells' FG' F' N' Y' B' X' T' l1; (try k_lt l1); k_cells Y'; (try simp only [List.cons_append, List.nil_append] at N'); (try dsimp only); (try k_lift B'); (try k_fold))
  repeat' (first | (k_unfold; (try dsimp only)) | ((with_reducible show wpAny _ _ (execs (_ :: _) _) _ _ _); (first | (refine exCons s ?_; intro kS Pq hPq) | (refine exCons0 ?_; intro Pq hPq))) | (with_reducible refine Aft.next (by assumption) ?_) | (with_reducible refine Aft.ret (by assumption) ?_) | (with_reducible refine Aft.brk (by assumption) ?_) | (with_reducible refine Aft.cont (by assumption) ?_) | ((fail_if_success (with_reducible show wpAny _ _ (call (.ref 101) _) _ _ _)); walk1) | fail "no step")
  (rename Fr _ _ _ _ => F0); (rename News _ _ _ _ => N0); (rename Frag.In _ _ => lX); (rename Top _ _ _ _ _ _ => lT); (rename Below _ _ _ _ => lB); (rename (_ ∧ _) => lt0)
  have lt1 := lt0.1
  have lt2 := lt0.2.1
  have lt3 := allLt_mem lt0.2.2
  refine vfmake_claim w mean mg mb (2 * hdv) (2 * wd) _ _ _ _ _ _ _ _ _ _ _ _ _ _ _ _ _ _ _ _ _ _ _ _ lB F0 lX N0 lT rfl (by show dp + 1 + 30 < _; omega) (by show un + 3 + 8 * 30 < _; omega) ?_
  intro v dv x dx ll h5 tk5 cv nn5 nl5 k5 e1 e2 e3 e4 e5 e6 F5 N5 O5
  replace N5 := colArr N5
  (try clear F0 N0)
  have H := heads_of N5
  have hA0 := apart0 N5 hP (Nat.lt_succ_of_lt lt1) (Nat.lt_succ_of_lt lt2) O5
  repeat' (first | (k_unfold; (try dsimp only)) | ((with_reducible show wpAny _ _ (execs (_ :: _) _) _ _ _); (first | (refine exCons s ?_; intro kS Pq hPq) | (refine exCons0 ?_; intro Pq hPq))) | (with_reducible refine Aft.next (by assumption) ?_) | (with_reducible refine Aft.ret (by assumption) ?_) | (with_reducible refine Aft.brk (by assumption) ?_) | (with_reducible refine Aft.cont (by assumption) ?_) | ((fail_if_success (with_reducible show wpAny _ _ (exec (PySem.Stmt.For _ _ _ _ _) _) _ _ _)); walk1) | fail "no step")
  (rename Fr _ _ _ _ => F9); (rename News _ _ _ _ => N9)
  refine my_For F9 rfl rfl ?_
  repeat' (first | (k_unfold; (try dsimp only)) | ((with_reducible show wpAny _ _ (execs (_ :: _) _) _ _ _); (first | (refine exCons s ?_; intro kS Pq hPq) | (refine exCons0 ?_; intro Pq hPq))) | (with_reducible refine Aft.next (by assumption) ?_) | (with_reducible refine Aft.ret (by assumption) ?_) | (with_reducible refine Aft.brk (by assumption) ?_) | (with_reducible refine Aft.cont (by assumption) ?_) | ((fail_if_success (with_reducible show wpAny _ _ (pyIter _) _ _ _)); walk1) | fail "no step")
  (rename Fr _ _ _ _ => F9); (rename News _ _ _ _ => N9)
  refine my_str (ColJ w.params S (2 * wd) (2 * hdv) x dx ll k5 1 _ (_ :: _ :: _ :: rest)) rfl F9 N9 ⟨fun _ _ => rfl, hbare, p1, p2, [], 2 * hdv, nn5, nl5, _, #[], [], _, rfl, fun q h => h, hA0, fun e he => (nomatch he), fun e he => (nomatch he), htr1, htr2, .nil, rfl, ⟨by simp, by simp, .inr rfl, by simp⟩⟩ ?_ ?_
  · rintro I hI i c u m₁ nx it s₁ hc ⟨hm1, hbr1, q1, q2, ds, z, nn, nl, tz, lns, Lx, rest', rfl, hsub, hA', hds, hmk, ht1, ht2, hSA, heq, hpi⟩ ho1 hd1 hoff hcls F1 N1
    (try clear F9 N9)
    rw [keep_map0 hm1] at F1
    have hv := hsub _ (.head _)
    have hdv' := hsub _ (.tail _ (.head _))
    have hcAB := hS2 c (List.mem_of_getElem? hc)
    have hi8 : i < 8 := by
      have := (List.getElem?_eq_some_iff.mp hc).1
      rw [signs_len, hS1] at this
      exact this
    have hlen : lns.size = Lx.length := by have := hSA.length; simpa using this
    have hpi1 := hpi.1
    have hpi2 := hpi.2.1
    have hpi3 := hpi.2.2.1
    dsimp only at hpi1 hpi2 hpi3
    rw [List.length_map] at hpi1
    repeat' (first | (k_unfold; (try dsimp only)) | ((with_reducible show wpAny _ _ (execs (_ :: _) _) _ _ _); (first | (refine exCons s₁ ?_; intro kS Pq hPq) | (refine exCons0 ?_; intro Pq hPq))) | (with_reducible refine Aft.next (by assumption) ?_) | (with_reducible refine Aft.ret (by assumption) ?_) | (with_reducible refine Aft.brk (by assumption) ?_) | (with_reducible refine Aft.cont (by assumption) ?_) | ((fail_if_success (with_reducible show wpAny _ _ (call (.ref 98) _) _ _ _)); walk1) | fail "no step")
    (rename Fr _ _ _ _ => F11); (rename News _ _ _ _ => N11)
    refine chunk_claim w mean mg mb v dv x dx ll (2 * wd) _ _ _ cv _ _ _ _ _ _ ds c _ _ nn nl lns z tz k5 1 q1 q2 ((I, it) :: rest') (.tail _ hv) (.tail _ hdv') (fun e h => .tail _ (hds e h)) (hA'.cons (Ne.symm (hoff _ (.head _))) (Ne.symm (hoff _ (.tail _ (.head _)))) (Ne.symm (hoff _ (.tail _ (.tail _ (.head _))))) (Ne.symm (hoff _ (.tail _ (.tail _ (.tail _ (.head _)))))) (Ne.symm (hoff _ (.tail _ (.tail _ (.tail _ (.tail _ (.head _)))))))) ht1 ht2 _ _ _ _ _ _ _ _ _ _ _ _ _ _ _ _ _ _ _ lB F11 lX (colI N11) lT rfl hbr1 hmk hcAB ⟨by omega, by omega, by omega, by omega⟩ (by intro _; omega) (by show dp + 1 + 60 < _; omega) (by show un + 3 + 8 * 60 < _; omega) ?_
    intro s2 r1 r2 ds2 z2 nn2 nl2 tz2 lns2 rest2 F2 N2 sub2 hA2 hds2 hm2 hch2 ht3 ht4 hbr2 ho2 hd2
    (try clear F11 N11)
    repeat' (first | (k_unfold; (try dsimp only)) | ((with_reducible show wpAny _ _ (execs (_ :: _) _) _ _ _); (first | (refine exCons s2 ?_; intro kS Pq hPq) | (refine exCons0 ?_; intro Pq hPq))) | (with_reducible refine Aft.next (by assumption) ?_) | (with_reducible refine Aft.ret (by assumption) ?_) | (with_reducible refine Aft.brk (by assumption) ?_) | (with_reducible refine Aft.cont (by assumption) ?_) | (k_end; wrow_close) | walk1 | (dsimp only; walk1) | (leave1; try dsimp only) | fail "no step")
    (rename Fr _ _ _ _ => F12); (rename News _ _ _ _ => N12)
    refine col_end (c := c) hc hcls F12 N12 (sub2 _ (.head _)) (fun q hq => ⟨sub2 _ (.tail _ (hsub q hq)), hoff q (.tail _ (.tail _ (.tail _ (.tail _ (.tail _ (hsub q hq))))))⟩) hA2 hds2 hmk hm2 hch2 ht3 ht4 hbr2 hSA heq hpi ho2 hd2 ?_
    intro y hy
    simp only [if_neg hy]
  · rintro m₁ nx s₁ ⟨hm1, hbr1, q1, q2, ds, z, nn, nl, tz, lns, Lx, rest', rfl, hsub, hA', hds, hmk, ht1, ht2, hSA, heq, hpi⟩ ho1 hd1 F1 N1
    rw [keep_mapU hm1] at F1
    rw [List.take_length] at heq
    have hpage : (ds.map (·.p), z, Lx) = pageOf S wd hdv := heq
    have hend := page_end hS1 hb1 hb2 hb3 hb4
    rw [← hpage] at hend
    obtain ⟨hz0, hne⟩ := hend
    dsimp only at hz0 hne
    subst hz0
    rcases List.eq_nil_or_concat ds with rfl | ⟨ds0, d, hcat⟩
    · exact absurd rfl hne
    rw [List.concat_eq_append] at hcat
    subst hcat
    have hv := hsub _ (.head _)
    have hdv' := hsub _ (.tail _ (.head _))
    have hlen : lns.size = Lx.length := by have := hSA.length; simpa using this
    have hpi1 := hpi.1
    have hpi2 := hpi.2.1
    have hpi4 := hpi.2.2.2
    rw [signs_len, hS1] at hpi1 hpi2 hpi4
    dsimp only at hpi1 hpi2 hpi4
    rw [List.length_map, List.length_append, List.length_singleton] at hpi1
    repeat' (first | (k_unfold; (try dsimp only)) | ((with_reducible show wpAny _ _ (execs (_ :: _) _) _ _ _); (first | (refine exCons s₁ ?_; intro kS Pq hPq) | (refine exCons0 ?_; intro Pq hPq))) | (with_reducible refine Aft.next (by assumption) ?_) | (with_reducible refine Aft.ret (by assumption) ?_) | (with_reducible refine Aft.brk (by assumption) ?_) | (with_reducible refine Aft.cont (by assumption) ?_) | ((fail_if_success (with_reducible show wpAny _ _ (call (.ref 49) _) _ _ _)); walk1) | fail "no step")
    (rename Fr _ _ _ _ => F11); (rename News _ _ _ _ => N11)
    rw [last_of] at N11
    refine str49_claim w mean mg mb v dv x dx ll (2 * wd) _ _ _ cv _ _ _ _ _ _ ds0 d (Str.ofString "|") _ nn nl lns tz k5 1 q1 q2 Lx rest' hv hdv' hds hA' ht1 ht2 hSA _ _ _ _ _ _ _ _ _ _ _ _ _ _ _ _ _ _ _ lB F11 lX N11 lT rfl hbr1 ⟨by omega, hmk⟩ ⟨by omega, by decide, fun y hy => by have := hpi4 y hy; omega⟩ (by show dp + 1 + 50 < _; omega) (by show un + 3 + 8 * 50 < _; omega) ?_
    intro s3 r1 r2 t3' rest3 F3 N3 sub3 hap3 ht5 ht6 hbr3 ho3 hd3
    have hL1 : Lx = (pageOf S wd hdv).2.2 := by rw [← hpage]
    have hL2 : (ds0 ++ [d]).map (·.p) = (pageOf S wd hdv).1 := by rw [← hpage]
    rw [hL2, hL1]
    (try clear F11 N11); (try clear F1 N1)
    repeat' (first | (k_unfold; (try dsimp only)) | ((with_reducible show wpAny _ _ (execs (_ :: _) _) _ _ _); (first | (refine exCons s3 ?_; intro kS Pq hPq) | (refine exCons0 ?_; intro Pq hPq))) | (with_reducible refine Aft.next (by assumption) ?_) | (with_reducible refine Aft.ret (by assumption) ?_) | (with_reducible refine Aft.brk (by assumption) ?_) | (with_reducible refine Aft.cont (by assumption) ?_) | ((fail_if_success (with_reducible show wpAny _ _ (binaryOp _ (.str _ _) (.str _ _)) _ _ _)); walk1) | fail "no step")
    have hl1 : (Txt.mul (Str.ofString "  ") hdv).length ≤ 2 * 1 := mul_len (by decide) hb3 (by omega)
    have hl2 : (Txt.join (Str.ofString "|") ((pageOf S wd hdv).2.2 ++ [lineText (pageOf S wd hdv).1])).length ≤ 1000 := by
      rw [← hL1, ← hL2]
      refine Nat.le_trans (joinS_len _ _) ?_
      have h1 := sum_le_all (B := 40) (l := (Lx ++ [lineText ((ds0 ++ [d]).map (·.p))]).map (·.length)) (by
        intro n hn
        obtain ⟨y, hy, rfl⟩ := List.mem_map.mp hn
        rcases List.mem_append.mp hy with hy | hy
        · have := hpi4 y hy
          omega
        · rw [List.mem_singleton] at hy
          subst hy
          refine Nat.le_trans (line_len (n := 20) ?_ ?_) (by decide)
          · intro p hp
            obtain ⟨e, he, rfl⟩ := List.mem_map.mp hp
            have := mk_len (hmk e he)
            omega
          · simp; omega)
      have h2 : (Str.ofString "|").length = 1 := by decide
      rw [List.length_map] at h1
      rw [h2, Nat.mul_one]
      simp only [List.length_append, List.length_singleton] at h1 ⊢
      omega
    refine add_strs' (by omega) ?_
    intro t' k' l'
    have hrl : (rowsText S wd hdv).length ≤ 1002 := by
      show (Txt.mul (Str.ofString "  ") hdv ++ Txt.join (Str.ofString "|") ((pageOf S wd hdv).2.2 ++ [lineText (pageOf S wd hdv).1])).length ≤ _
      omega
    clear l' hl1 hl2
    repeat' (first | (k_unfold; (try dsimp only)) | ((with_reducible show wpAny _ _ (execs (_ :: _) _) _ _ _); (first | (refine exCons s3 ?_; intro kS Pq hPq) | (refine exCons0 ?_; intro Pq hPq))) | (with_reducible refine Aft.next (by assumption) ?_) | (with_reducible refine Aft.ret (by assumption) ?_) | (with_reducible refine Aft.brk (by assumption) ?_) | (with_reducible refine Aft.cont (by assumption) ?_) | ((fail_if_success (with_reducible show wpAny _ _ (call (.builtin "str.split") _) _ _ _)); walk1) | fail "no step")
    (rename Fr _ _ _ _ => F12); (rename News _ _ _ _ => N12)
    refine KSpl.split1 F12 N12 (by decide) ?_ (by rw [sizeLine_eq]; show (rowsText S wd hdv).length + 2 ≤ _; omega)
    intro D l h13 k13 el hSl F13 N13 O13
    have hSr : StrsAre (strValues l) (rowsOf S wd hdv) := by
      have e : l.map (·.1) = rowsOf S wd hdv := el
      rw [e] at hSl
      exact hSl
    have hcellin := sub3 _ (hsub _ (.tail _ (.tail _ (.head _))))
    have hcDn := Nat.ne_of_gt (O13 _ (.tail _ (.tail _ hcellin)))
    have N14 := cb_drop (news := (_, _) :: (D, listOf (strValues l).toArray 0) :: (147, tabObj r1) :: (154, tabObj r2) :: rest) N13 (List.forall_mem_cons.mpr ⟨.tail _ (.tail _ (.tail _ hcellin)), List.forall_mem_cons.mpr ⟨.head _, List.forall_mem_cons.mpr ⟨.tail _ (.head _), List.forall_mem_cons.mpr ⟨.tail _ (.tail _ (.head _)), fun q hq => .tail _ (.tail _ (.tail _ (sub3 _ (hsub _ (.tail _ (.tail _ (.tail _ hq)))))))⟩⟩⟩⟩)
    (try clear F12 N12)
    repeat' (first | (k_unfold; (try dsimp only)) | ((with_reducible show wpAny _ _ (execs (_ :: _) _) _ _ _); (first | (refine exCons s3 ?_; intro kS Pq hPq) | (refine exCons0 ?_; intro Pq hPq))) | (with_reducible refine Aft.next (by assumption) ?_) | (with_reducible refine Aft.ret (by assumption) ?_) | (with_reducible refine Aft.brk (by assumption) ?_) | (with_reducible refine Aft.cont (by assumption) ?_) | ((fail_if_success (with_reducible show wpAny _ _ (storeName _ _ _) _ _ _)); walk1) | fail "no step")
    refine store_cell F13 N14 ?hPc (by assumption) rfl rfl rfl ?_
    case hPc => exact List.forall_mem_cons.mpr ⟨hcDn, List.forall_mem_cons.mpr ⟨Nat.ne_of_lt (Nat.lt_succ_of_lt lt1), List.forall_mem_cons.mpr ⟨Nat.ne_of_lt (Nat.lt_succ_of_lt lt2), fun q hq => Nat.ne_of_lt (Nat.lt_succ_of_lt (lt3 q hq))⟩⟩⟩
    intro h15 oc F15 N15 hoc
    (try clear F13 N13 N14); (try clear F3 N3)
    repeat' (first | (k_unfold; (try dsimp only)) | ((with_reducible show wpAny _ _ (execs (_ :: _) _) _ _ _); (first | (refine exCons s3 ?_; intro kS Pq hPq) | (refine exCons0 ?_; intro Pq hPq))) | (with_reducible refine Aft.next (by assumption) ?_) | (with_reducible refine Aft.ret (by assumption) ?_) | (with_reducible refine Aft.brk (by assumption) ?_) | (with_reducible refine Aft.cont (by assumption) ?_) | ((fail_if_success (with_reducible show wpAny _ _ (eval (PySem.Expr.ListComp _ _ _ _) _) _ _ _)); walk1) | fail "no step")
    refine' ListComp_cell (F := fun i y => ∃ t, y = .str (colAt (rowsOf S wd hdv) (i : Int)) t) (cl := [(Str.ofString "rows", _)]) ?hclos ?hkind ?hnames ?hone ?hpush ?hx ?_
    case hclos => with_unfolding_all rfl
    case hkind => rfl
    case hnames => decide
    case hone => exact fun _ => rfl
    case hpush => exact fun _ => rfl
    case hx => rfl
    repeat' (first | (k_unfold; (try dsimp only)) | ((with_reducible show wpAny _ _ (execs (_ :: _) _) _ _ _); (first | (refine exCons s3 ?_; intro kS Pq hPq) | (refine exCons0 ?_; intro Pq hPq))) | (with_reducible refine Aft.next (by assumption) ?_) | (with_reducible refine Aft.ret (by assumption) ?_) | (with_reducible refine Aft.brk (by assumption) ?_) | (with_reducible refine Aft.cont (by assumption) ?_) | ((fail_if_success (with_reducible show wpAny _ _ (pyIter _) _ _ _)); walk1) | fail "no step")
    (rename Fr _ _ _ _ => F16); (rename News _ _ _ _ => N16); (rename IsRange _ _ _ _ _ _ _ _ => R16)
    have hrs := rangeSize_nat 0 wd
    refine wpAny_pyIter_range R16 (small_one (by omega) (by omega) (by omega) (by omega)) ?_
    have F17 := F16.push (o := { cls := .type "range_iterator", data := .fields #[rawInt 0, rawInt (Builtin.Range.rangeSize 0 wd 1), rawInt 1] })
    have N17 := N16.grown (h' := Heap.push _ { cls := .type "range_iterator", data := .fields #[rawInt 0, rawInt (Builtin.Range.rangeSize 0 wd 1), rawInt 1] }) (fun b o e => Heap.get?_push_of_some _ e)
    refine ⟨_, [_], [_], (wd - 0).toNat, _, _, rfl, Walks.range rfl _ 0 1 (wd - 0).toNat, by rw [sizeLine_eq]; omega, ?hst, ?hfp, ?helt, ?hQ⟩
    case hst =>
      show IsRangeIter _ _ _ _ _
      rw [hrs]
      simpa using Heap.get?_push_size _ rfl
    case hfp =>
      intro b hb
      rw [List.mem_singleton.mp hb]
      show @LT.lt Nat _ _ (Heap.push _ _).objs.size
      rw [Heap.size_push]
      exact Nat.lt_succ_self _
    case helt =>
      rintro C c i v s18 E' hC hc hi ⟨t, rfl⟩ hcell hg hk18
      have F18 := LCg.fr_but F17 hk18 (Nat.ne_of_lt F16.ns.lt) (next_is_new F16)
      have N18 := LCg.news_but N17 hk18 (fun p hp => Nat.ne_of_lt (Heap.lt_size (N16 p hp).1))
      have e18 : (0 : Int) + (i : Int) * 1 = (i : Int) := by omega
      rw [e18] at hcell
      have hi8 : (i : Int) < 8 := by omega
      clear hk18 F17 N17 hC hc
      repeat' (first | (k_unfold; (try dsimp only)) | ((with_reducible show wpAny _ _ (execs (_ :: _) _) _ _ _); (first | (refine exCons s18 ?_; intro kS Pq hPq) | (refine exCons0 ?_; intro Pq hPq))) | (with_reducible refine Aft.next (by assumption) ?_) | (with_reducible refine Aft.ret (by assumption) ?_) | (with_reducible refine Aft.brk (by assumption) ?_) | (with_reducible refine Aft.cont (by assumption) ?_) | ((fail_if_success (with_reducible show wpAny _ _ (eval (PySem.Expr.ListComp _ _ _ _) _) _ _ _)); walk1) | fail "no step")
      refine' wpAny_ListComp_free (fun v => match v with | .str x _ => decide (2 * (i : Int) + 1 < (x.length : Int)) | _ => false) (fun v y => ∃ x t u, v = .str x t ∧ y = .str (Txt.item x (2 * (i : Int) + 1)) u) (cl := [(Str.ofString "k", c)]) ?jclos ?jcell ?jkind ?jnames ?jx ?_
      case jclos => with_unfolding_all rfl
      case jcell => decide
      case jkind => rfl
      case jnames => decide
      case jx => rfl
      refine ldC ⟨_, (N18 _ (.head _)).1, hoc⟩ ?_ rfl rfl rfl
      refine wpAny_pyIter_list ⟨_, (N18 _ (.tail _ (.head _))).1, rfl, _, rfl⟩ ?_
      have F19 := F18.push (o := { cls := .type "list_iterator", data := .fields #[.ref D, .int 0 0] })
      have lt18 : @LT.lt Nat _ c s18.heap.objs.size := let ⟨_, e, _⟩ := hcell; Heap.lt_size e
      have ltD : @LT.lt Nat _ D s18.heap.objs.size := Heap.lt_size (N18 _ (.tail _ (.head _))).1
      have hDl := (N18 _ (.tail _ (.head _))).1
      have hnew := next_is_new F18
      have hLf : @LT.lt Nat _ _ s18.heap.objs.size := F18.ns.lt
      refine ⟨_, [_, D], [_], (strValues l).toArray.size, _, _, rfl, Walks.list rfl _ D (Nat.ne_of_lt ltD) _, ?hsz2, ?hst2, ?hfp2, ⟨?tst, ?elt⟩, ?hQ2⟩
      case hsz2 =>
        rw [List.size_toArray, hSr.length, sizeLine_eq]
        have := rows_le S wd hdv
        omega
      case hst2 => exact ⟨⟨_, Heap.get?_push_size _ rfl, rfl, rfl⟩, ⟨_, Heap.get?_push_of_some _ hDl, rfl, _, rfl⟩⟩
      case hfp2 =>
        intro b hb
        show @LT.lt Nat _ _ (Heap.push _ _).objs.size
        rw [Heap.size_push]
        rcases List.mem_cons.mp hb with rfl | hb
        · exact Nat.lt_succ_self _
        · rw [List.mem_singleton.mp hb]
          exact Nat.lt_succ_of_lt ltD
      case tst =>
        intro C2 j v s19 m19 E2 hC2 hP2 hn2 hm2 hk2 htk2
        obtain ⟨y, t2, rfl, hy⟩ := StrsAre.item hSr j v (by simpa using hP2)
        have hyl := rows_short (List.mem_of_getElem? hy) hrl
        have F20 := LCg.fr_but F19 hk2 (Nat.ne_of_lt hLf) hnew
        have hcell2 : s19.heap.IsCell c (some (.int (i : Int) t)) := let ⟨o, e, r⟩ := hcell; ⟨o, hk2 _ _ (fun hm => Nat.ne_of_lt lt18 (List.mem_singleton.mp hm)) (Heap.get?_push_of_some _ e), r⟩
        refine wpAny_tests_one ?_
        repeat' (first | (k_unfold; (try dsimp only)) | ((with_reducible show wpAny _ _ (execs (_ :: _) _) _ _ _); (first | (refine exCons s19 ?_; intro kS Pq hPq) | (refine exCons0 ?_; intro Pq hPq))) | (with_reducible refine Aft.next (by assumption) ?_) | (with_reducible refine Aft.ret (by assumption) ?_) | (with_reducible refine Aft.brk (by assumption) ?_) | (with_reducible refine Aft.cont (by assumption) ?_) | ((fail_if_success (with_reducible show wpAny _ _ (eval (PySem.Expr.Name _ _) _) _ _ _)); walk1) | fail "no step")
        refine ld_blt (v := .builtin "len") F20 lX lT (by kernel_rfl) (by kernel_rfl) (by decide) rfl rfl rfl rfl (by decide) ?_
        repeat' (first | (k_unfold; (try dsimp only)) | ((with_reducible show wpAny _ _ (execs (_ :: _) _) _ _ _); (first | (refine exCons s19 ?_; intro kS Pq hPq) | (refine exCons0 ?_; intro Pq hPq))) | (with_reducible refine Aft.next (by assumption) ?_) | (with_reducible refine Aft.ret (by assumption) ?_) | (with_reducible refine Aft.brk (by assumption) ?_) | (with_reducible refine Aft.cont (by assumption) ?_) | ((fail_if_success (with_reducible show wpAny _ _ (eval (PySem.Expr.Name _ _) _) _ _ _)); walk1) | fail "no step")
        refine ldL hn2 hm2 ?_ rfl rfl
        repeat' (first | (k_unfold; (try dsimp only)) | ((with_reducible show wpAny _ _ (execs (_ :: _) _) _ _ _); (first | (refine exCons s19 ?_; intro kS Pq hPq) | (refine exCons0 ?_; intro Pq hPq))) | (with_reducible refine Aft.next (by assumption) ?_) | (with_reducible refine Aft.ret (by assumption) ?_) | (with_reducible refine Aft.brk (by assumption) ?_) | (with_reducible refine Aft.cont (by assumption) ?_) | ((fail_if_success (with_reducible show wpAny _ _ (eval (PySem.Expr.Name _ _) _) _ _ _)); walk1) | fail "no step")
        refine ldC (c := c) hcell2 ?_ rfl rfl rfl
        repeat' (first | (k_unfold; (try dsimp only)) | ((with_reducible show wpAny _ _ (execs (_ :: _) _) _ _ _); (first | (refine exCons s19 ?_; intro kS Pq hPq) | (refine exCons0 ?_; intro Pq hPq))) | (with_reducible refine Aft.next (by assumption) ?_) | (with_reducible refine Aft.ret (by assumption) ?_) | (with_reducible refine Aft.brk (by assumption) ?_) | (with_reducible refine Aft.cont (by assumption) ?_) | ((with_reducible show wpAny _ _ _ _ _ _); walk1) | fail "no step")
        exact ⟨rfl, _, _, rfl, fun _ _ e => e⟩
      case elt =>
        intro C2 j v s19 m19 E2 hC2 hP2 hpv hn2 hm2 hk2 htk2
        obtain ⟨y, t2, rfl, hy⟩ := StrsAre.item hSr j v (by simpa using hP2)
        have hyl := rows_short (List.mem_of_getElem? hy) hrl
        have F20 := LCg.fr_but F19 hk2 (Nat.ne_of_lt hLf) hnew
        have hcell2 : s19.heap.IsCell c (some (.int (i : Int) t)) := let ⟨o, e, r⟩ := hcell; ⟨o, hk2 _ _ (fun hm => Nat.ne_of_lt lt18 (List.mem_singleton.mp hm)) (Heap.get?_push_of_some _ e), r⟩
        have hpv2 : 2 * (i : Int) + 1 < (y.length : Int) := by simpa using hpv
        repeat' (first | (k_unfold; (try dsimp only)) | ((with_reducible show wpAny _ _ (execs (_ :: _) _) _ _ _); (first | (refine exCons s19 ?_; intro kS Pq hPq) | (refine exCons0 ?_; intro Pq hPq))) | (with_reducible refine Aft.next (by assumption) ?_) | (with_reducible refine Aft.ret (by assumption) ?_) | (with_reducible refine Aft.brk (by assumption) ?_) | (with_reducible refine Aft.cont (by assumption) ?_) | ((fail_if_success (with_reducible show wpAny _ _ (eval (PySem.Expr.Name _ _) _) _ _ _)); walk1) | fail "no step")
        refine ldL hn2 hm2 ?_ rfl rfl
        repeat' (first | (k_unfold; (try dsimp only)) | ((with_reducible show wpAny _ _ (execs (_ :: _) _) _ _ _); (first | (refine exCons s19 ?_; intro kS Pq hPq) | (refine exCons0 ?_; intro Pq hPq))) | (with_reducible refine Aft.next (by assumption) ?_) | (with_reducible refine Aft.ret (by assumption) ?_) | (with_reducible refine Aft.brk (by assumption) ?_) | (with_reducible refine Aft.cont (by assumption) ?_) | ((fail_if_success (with_reducible show wpAny _ _ (eval (PySem.Expr.Name _ _) _) _ _ _)); walk1) | fail "no step")
        refine ldC (c := c) hcell2 ?_ rfl rfl rfl
        repeat' (first | (k_unfold; (try dsimp only)) | ((with_reducible show wpAny _ _ (execs (_ :: _) _) _ _ _); (first | (refine exCons s19 ?_; intro kS Pq hPq) | (refine exCons0 ?_; intro Pq hPq))) | (with_reducible refine Aft.next (by assumption) ?_) | (with_reducible refine Aft.ret (by assumption) ?_) | (with_reducible refine Aft.brk (by assumption) ?_) | (with_reducible refine Aft.cont (by assumption) ?_) | ((fail_if_success (with_reducible show wpAny _ _ (subscriptTail _ _ _ _) _ _ _)); walk1) | fail "no step")
        refine item_str (fits_small (by omega) (by omega)) (by omega) (by omega) ?_
        intro _
        exact ⟨⟨y, t2, _, rfl, rfl⟩, _, _, rfl, fun _ _ e => e⟩
      case hQ2 =>
        intro D2 h20 tk20 ys vs hD2 hL20 _ hvl hvP hpr hk20
        have hvs : vs = strValues l := by
          refine List.ext_getElem? fun j => ?_
          rcases Nat.lt_or_ge j vs.length with hj | hj
          · have h1 := hvP j _ (List.getElem?_eq_getElem hj)
            rw [List.getElem?_eq_getElem hj]
            rw [List.getElem?_toArray] at h1
            exact h1.symm
          · rw [List.getElem?_eq_none hj, List.getElem?_eq_none (by rw [hvl, List.size_toArray] at hj; exact hj)]
        rw [hvs] at hpr
        have hSc := paired_cols hSr hpr
        have hrl2 := rows_le S wd hdv
        have hcw : (((rowsOf S wd hdv).filter fun r => decide (2 * (i : Int) + 1 < (r.length : Int))).map fun r => Txt.item r (2 * (i : Int) + 1)).length ≤ 1004 := by
          rw [List.length_map]
          refine Nat.le_trans (List.length_filter_le _ _) ?_
          omega
        have hcs := sum_le_all (B := 1) (l := ((((rowsOf S wd hdv).filter fun r => decide (2 * (i : Int) + 1 < (r.length : Int))).map fun r => Txt.item r (2 * (i : Int) + 1))).map (·.length)) (by
          intro n hn
          obtain ⟨y, hy, rfl⟩ := List.mem_map.mp hn
          obtain ⟨r, _, rfl⟩ := List.mem_map.mp hy
          exact Nat.le_of_eq (len_item _ _))
        rw [List.length_map] at hcs
        repeat' (first | (k_unfold; (try dsimp only)) | ((with_reducible show wpAny _ _ (execs (_ :: _) _) _ _ _); (first | (refine exCons s18 ?_; intro kS Pq hPq) | (refine exCons0 ?_; intro Pq hPq))) | (with_reducible refine Aft.next (by assumption) ?_) | (with_reducible refine Aft.ret (by assumption) ?_) | (with_reducible refine Aft.brk (by assumption) ?_) | (with_reducible refine Aft.cont (by assumption) ?_) | ((fail_if_success (with_reducible show wpAny _ _ (call (.builtin _) _) _ _ _)); (with_reducible show wpAny _ _ _ _ _ _); walk1) | fail "no step")
        refine join_listW (ys := ((rowsOf S wd hdv).filter fun r => decide (2 * (i : Int) + 1 < (r.length : Int))).map fun r => Txt.item r (2 * (i : Int) + 1)) hL20 hSc (by decide) (by omega) ?_
        intro t21 k21
        exact ⟨⟨_, rfl⟩, _, _, rfl, fun b o e => hk20 b o (fun hm => Nat.ne_of_lt (Heap.lt_size e) (List.mem_singleton.mp hm)) (Heap.get?_push_of_some _ e)⟩
    case hQ =>
      intro D3 h22 tk22 ys nn22 hD3 hL22 hsz22 hF22 hk22
      have F22 := LCg.fr_but F17 hk22 (Nat.ne_of_lt F16.ns.lt) (next_is_new F16)
      have N22 := LCg.news_but N17 hk22 (fun p hp => Nat.ne_of_lt (Heap.lt_size (N16 p hp).1))
      have hSys : StrsAre ys.toList (colsOf S wd hdv) := by
        refine cols_strs (by rw [Array.length_toList, hsz22]; unfold colsOf; rw [List.length_map, List.length_range]; omega) fun j v hj => ?_
        rw [Array.getElem?_toList] at hj
        obtain ⟨t, rfl⟩ := hF22 j v hj
        have hjl : j < wd.toNat := by
          have := (Array.getElem?_eq_some_iff.mp hj).1
          omega
        refine ⟨colAt (rowsOf S wd hdv) (j : Int), ?_, t, rfl⟩
        unfold colsOf
        rw [List.getElem?_map, List.getElem?_range hjl]
        rfl
      have N23 := cb_drop (news := (147, tabObj r1) :: (154, tabObj r2) :: (D3, madeList ys nn22) :: rest) (news_plus F17 N22 hD3 hL22) (List.forall_mem_cons.mpr ⟨.tail _ (.tail _ (.tail _ (.head _))), List.forall_mem_cons.mpr ⟨.tail _ (.tail _ (.tail _ (.tail _ (.head _)))), List.forall_mem_cons.mpr ⟨.head _, fun q hq => .tail _ (.tail _ (.tail _ (.tail _ (.tail _ hq))))⟩⟩⟩)
      (try clear F17 N17 F16 N16 N22)
      repeat' (first | (k_unfold; (try dsimp only)) | ((with_reducible show wpAny _ _ (execs (_ :: _) _) _ _ _); (first | (refine exCons s3 ?_; intro kS Pq hPq) | (refine exCons0 ?_; intro Pq hPq))) | (with_reducible refine Aft.next (by assumption) ?_) | (with_reducible refine Aft.ret (by assumption) ?_) | (with_reducible refine Aft.brk (by assumption) ?_) | (with_reducible refine Aft.cont (by assumption) ?_) | (k_end; wrow_close) | walk1 | (dsimp only; walk1) | (leave1; try dsimp only) | fail "no step")
      rename News h₀ L _ _ => kN9
      exact hret _ _ _ _ _ _ (by assumption) kN9 hSys ht5 ht6 hbr3 (ho3.trans ho1) (hd3.trans hd1)
end
end Mine
end
section
open PySem PySem.W PyProof.Rows PySem.Calls PySem.Spec
set_option Elab.async false
namespace Mine
noncomputable def StripOk (i : Nat) (S : Str) : Prop := S.length = i ∧ ∀ c ∈ signs S, c = Str.ofString "a" ∨ c = Str.ofString "b"
theorem signs_app (S T : Str) : signs (S ++ T) = signs S ++ signs T := by
  unfold signs
  rw [show (S ++ T).cps = S.cps ++ T.cps from rfl, Array.toList_append, List.map_append]
theorem strip_b {i : Nat} {S : Str} (h : StripOk i S) : StripOk (i + 1) (S ++ Str.ofString "b") := by
  refine ⟨by rw [Str.length_append, h.1]; rfl, fun c hc => ?_⟩
  rw [signs_app] at hc
  rcases List.mem_append.mp hc with hc | hc
  · exact h.2 c hc
  · right
    have e : signs (Str.ofString "b") = [Str.ofString "b"] := by decide
    rw [e] at hc
    exact List.mem_singleton.mp hc
theorem strip_a {i : Nat} {S : Str} (h : StripOk i S) : StripOk (i + 1) (S ++ Str.ofString "a") := by
  refine ⟨by rw [Str.length_append, h.1]; rfl, fun c hc => ?_⟩
  rw [signs_app] at hc
  rcases List.mem_append.mp hc with hc | hc
  · exact h.2 c hc
  · left
    have e : signs (Str.ofString "a") = [Str.ofString "a"] := by decide
    rw [e] at hc
    exact List.mem_singleton.mp hc
theorem strip_nil : StripOk 0 (Str.ofString "") := ⟨rfl, fun c hc => by
  have e : signs (Str.ofString "") = [] := by decide
  rw [e] at hc
  cases hc⟩
inductive J1 (c1 : Addr) (a4 a3 a2 a5 a6 : Addr × Obj) (m : Str → Option Value) (i : Nat) (m' : Str → Option Value) (nx : List (Addr × Obj)) (g : Array GenState) : Prop where
  | mk (h1 : (∀ y, [Str.ofString "place", Str.ofString "number"].contains y = false → m' y = m y)) (h2 : AllBare g) o S t (h3 : nx = [a4, a3, a2, (c1, o), a5, a6]) (h4 : o.data = Data.cell (some (.str S t))) (h5 : StripOk i S) : J1 c1 a4 a3 a2 a5 a6 m i m' nx g
theorem J1_end {c1 : Addr} {a4 a3 a2 a5 a6 : Addr × Obj} {m m' : Str → Option Value} {i : Nat} {h₀ : Heap} {L I : Addr} {it o o₀ : Obj} {s₁ s₃ : Shared} {all : List (Addr × Obj)} {S : Str} {t : Tok} (F : Fr h₀ L s₃.heap m') (N : News h₀ L s₃.heap all) (hs : ∀ p ∈ [(I, it), a4, a3, a2, (c1, o), a5, a6], p ∈ all)
    (hoff : ∀ p ∈ [a4, a3, a2, (c1, o₀), a5, a6], p.1 ≠ I) (ho : s₃.os = s₁.os) (hd : s₃.drawn = s₁.drawn) (hb : AllBare s₃.gens) (hm : ∀ y, [Str.ofString "place", Str.ofString "number"].contains y = false → m' y = m y) (hc : o.data = Data.cell (some (.str S t))) (hS : StripOk (i + 1) S) :
    TurnEnds h₀ L I it (J1 c1 a4 a3 a2 a5 a6 m (i + 1)) s₁ s₃ :=
  ⟨m', [a4, a3, a2, (c1, o), a5, a6], F, fun p hp => N p (hs p hp), by
    intro p hp
    simp only [List.mem_cons, List.mem_nil_iff, or_false] at hp hoff
    rcases hp with rfl | rfl | rfl | rfl | rfl | rfl
    · exact hoff _ (.inl rfl)
    · exact hoff _ (.inr (.inl rfl))
    · exact hoff _ (.inr (.inr (.inl rfl)))
    · exact hoff (c1, o₀) (.inr (.inr (.inr (.inl rfl))))
    · exact hoff _ (.inr (.inr (.inr (.inr (.inl rfl)))))
    · exact hoff _ (.inr (.inr (.inr (.inr (.inr rfl))))), ho, hd, hm, hb, o, S, t, rfl, hc, hS⟩
end Mine
end
section
open PySem PySem.W PyProof.Rows PySem.Calls PySem.Spec
set_option Elab.async false
namespace Mine
theorem fr_butL {h₀ h h' : Heap} {L I : Addr} {m m' : Str → Option Value} (F : Fr h₀ L h m) (hn : h'.Ns L m') (hk : ∀ b o, b ≠ L → b ∉ [I] → h.get? b = some o → h'.get? b = some o) (hI : h₀.get? I = none) : Fr h₀ L h' m' :=
  ⟨hn, fun b o e => hk b o (fun q => by rw [q, Heap.get?_none_of_le F.above] at e; cases e) (fun hm => by rw [List.mem_singleton.mp hm, hI] at e; cases e) (F.keep b o e), F.above⟩
theorem news_butL {h₀ h h' : Heap} {L I : Addr} {news : List (Addr × Obj)} (N : News h₀ L h news) (hk : ∀ b o, b ≠ L → b ∉ [I] → h.get? b = some o → h'.get? b = some o) (off : ∀ p ∈ news, p.1 ≠ I) : News h₀ L h' news :=
  fun p hp => ⟨hk _ _ (N p hp).2.1 (by simpa using off p hp) (N p hp).1, (N p hp).2⟩
section
variable {prog : Program} {w : World} {A : Around} {E : Value → Shared → Prop} {s : Shared} {env : Env} {h₀ : Heap}
/-- what a quiet comprehension walks -/
inductive QSrc (prog : Program) (w : World) (A : Around) (h₀ : Heap) (env : Env) (scope : Scope) (cl : List (Str × Addr)) (x : Str) (ifs : List PySem.Expr) (elt : PySem.Expr) (p : Value → Bool) (G : Value → Value → Prop)
    (Fin : Shared → (Str → Option Value) → List (Addr × Obj) → (Nat → Value → Prop) → Nat → Addr → Heap → Nat → Array Value → Nat → List Value → Prop) (it : Value) (s₂ : Shared) : Prop where
  | mk I fp n P St m news (h1 : it = .ref I) (h2 : Walks prog w A I fp [I] n P St) (h3 : n ≤ sizeLine) (h4 : St 0 s₂.heap) (h5 : (∀ b ∈ fp, @LT.lt Nat _ b s₂.heap.objs.size)) (h6 : Fr h₀ env.locals s₂.heap m) (h7 : News h₀ env.locals s₂.heap news) (h8 : env.locals ≠ I) (h9 : h₀.get? I = none) (h10 : (∀ q ∈ news, q.1 ≠ I)) (h11 : (∀ C i v (s₃ : Shared) m₃ E', P i v → s₃.heap.Ns C m₃ → m₃ x = some v → Fr h₀ env.locals s₃.heap m → News h₀ env.locals s₃.heap news → wpAny (model prog w) A (forIn ifs true fun c r => if r = true then do let ok ← isTrue c (compEnvC scope cl C env) (eval c (compEnvC scope cl C env)); pure (ForInStep.yield ok) else pure (ForInStep.yield r)) (fun ok s₄ => ok = p v ∧ Keeps s₃ s₄) E' s₃)) (h12 : (∀ C i v (s₃ : Shared) m₃ E', P i v → p v = true → s₃.heap.Ns C m₃ → m₃ x = some v → Fr h₀ env.locals s₃.heap m → News h₀ env.locals s₃.heap news → wpAny (model prog w) A (eval elt (compEnvC scope cl C env)) (fun y s₄ => G v y ∧ Keeps s₃ s₄) E' s₃)) (h13 : (∀ D h' tk ys nn vs, s₂.heap.get? D = none → vs.length = n → (∀ j v, vs[j]? = some v → P j v) → Paired G (vs.filter p) ys.toList → Fin s₂ m news P n D h' tk ys nn vs)) : QSrc prog w A h₀ env scope cl x ifs elt p G Fin it s₂
theorem AComp {m₀ : Str → Option Value} (_F₀ : Fr h₀ env.locals s.heap m₀) {elt iter : PySem.Expr} {x y : Str} {px py : Pos} {ifs : List PySem.Expr} {scope : Scope} {cl : List (Str × Addr)} {pos spos : Pos} {Q : Flow → Shared → Prop} (p : Value → Bool) (G : Value → Value → Prop)
    (hclos : closureFor scope env = pure cl) (hcell : ∀ z ∈ scope.names, z.2 ≠ .cell) (hkind : scope.kind = .function)
    (hnames : ∀ z ∈ scope.names, z.2 = .local → scope.names.lookup z.1 = some .local) (hx : scope.names.lookup x = some .local)
    (hy : env.kindOf y = some .local) (hp : (env.scope.kind == .class || (env.scope.kind == .module && env.locals != env.globals)) = false)
    (hsw : swapsWith (.ListComp elt [⟨.Name x px, iter, ifs, 0⟩] scope pos) (some (.Name y py)) spos.line env = pure true)
    (h : wpAny (model prog w) A (eval iter env) (fun xv s₁ => wpAny (model prog w) A (pyIter xv) (QSrc prog w A h₀ env scope cl x ifs elt p G
      (fun s₂ m news _ _ D h' tk ys nn _ => Fr h₀ env.locals h' (fun z => if z = y then some (.ref D) else m z) → News h₀ env.locals h' ((D, madeList ys nn) :: news) → (∀ q ∈ news, @LT.lt Nat _ q.1 D ∨ q.1 ≠ D) → Q .next { s₂ with heap := h', toks := tk })) E s₁) E s)
    (hs : ∀ x, foldedSetIterable iter env x = pure x := by intro _; rfl) :
    wpAny (model prog w) A (exec (.Assign [.Name y py] (.ListComp elt [⟨.Name x px, iter, ifs, 0⟩] scope pos) spos) env) Q E s := by
  refine wpAny_Assign_ListComp_free p G hsw hclos hcell hkind hnames hx hy hp (wpAny_mono h (fun xv s₁ h₁ => wpAny_mono h₁ (fun it s₂ h₂ => ?_) fun _ _ e => e) fun _ _ e => e) hs
  obtain ⟨I, fp, n, P, St, m, news, rfl, W, hsz, hst, hfp, F, N, hLI, hI0, hoff, ht, he, hfin⟩ := h₂
  refine ⟨I, fp, [I], n, P, St, m, rfl, W, hsz, hst, hfp, by simpa using hLI, F.ns, ⟨?_, ?_⟩, ?_⟩
  · intro C i v s₃ m₃ E' _ hP hn hm hk _
    exact ht C i v s₃ m₃ E' hP hn hm (LCg.fr_but F hk hLI hI0) (LCg.news_but N hk hoff)
  · intro C i v s₃ m₃ E' _ hP hpv hn hm hk _
    exact he C i v s₃ m₃ E' hP hpv hn hm (LCg.fr_but F hk hLI hI0) (LCg.news_but N hk hoff)
  · intro D h' tk ys vs hD hl hpl hlen hP hF hn hk
    obtain ⟨nn, hpl⟩ := hpl
    have F' := fr_butL F hn hk hI0
    have N' := news_butL N hk hoff
    refine hfin D h' tk ys nn vs hD hlen hP hF F' (news_plus F N' hD hpl) (fun q hq => .inr fun e => ?_)
    have := (N q hq).1
    rw [e, hD] at this
    cases this
theorem EComp {m₀ : Str → Option Value} (_F₀ : Fr h₀ env.locals s.heap m₀) {elt iter : PySem.Expr} {x : Str} {px : Pos} {ifs : List PySem.Expr} {scope : Scope} {cl : List (Str × Addr)} {pos : Pos} {Q : Value → Shared → Prop} (p : Value → Bool) (G : Value → Value → Prop)
    (hclos : closureFor scope env = pure cl) (hcell : ∀ z ∈ scope.names, z.2 ≠ .cell) (hkind : scope.kind = .function)
    (hnames : ∀ z ∈ scope.names, z.2 = .local → scope.names.lookup z.1 = some .local) (hx : scope.names.lookup x = some .local)
    (h : wpAny (model prog w) A (eval iter env) (fun xv s₁ => wpAny (model prog w) A (pyIter xv) (QSrc prog w A h₀ env scope cl x ifs elt p G
      (fun s₂ m news _ _ D h' tk ys nn _ => Fr h₀ env.locals h' m → News h₀ env.locals h' ((D, madeList ys nn) :: news) → (∀ q ∈ news, q.1 ≠ D) → Q (.ref D) { s₂ with heap := h', toks := tk })) E s₁) E s)
    (hs : ∀ x, foldedSetIterable iter env x = pure x := by intro _; rfl) :
    wpAny (model prog w) A (eval (.ListComp elt [⟨.Name x px, iter, ifs, 0⟩] scope pos) env) Q E s := by
  refine wpAny_ListComp_free p G hclos hcell hkind hnames hx (wpAny_mono h (fun xv s₁ h₁ => wpAny_mono h₁ (fun it s₂ h₂ => ?_) fun _ _ e => e) fun _ _ e => e) hs
  obtain ⟨I, fp, n, P, St, m, news, rfl, W, hsz, hst, hfp, F, N, hLI, hI0, hoff, ht, he, hfin⟩ := h₂
  refine ⟨I, fp, [I], n, P, St, rfl, W, hsz, hst, hfp, ⟨?_, ?_⟩, ?_⟩
  · intro C i v s₃ m₃ E' _ hP hn hm hk _
    exact ht C i v s₃ m₃ E' hP hn hm (LCg.fr_but F hk hLI hI0) (LCg.news_but N hk hoff)
  · intro C i v s₃ m₃ E' _ hP hpv hn hm hk _
    exact he C i v s₃ m₃ E' hP hpv hn hm (LCg.fr_but F hk hLI hI0) (LCg.news_but N hk hoff)
  · intro D h' tk ys vs hD hl hpl hlen hP hF hk
    obtain ⟨nn, hpl⟩ := hpl
    have F' := LCg.fr_but F hk hLI hI0
    have N' := LCg.news_but N hk hoff
    refine hfin D h' tk ys nn vs hD hlen hP hF F' (news_plus F N' hD hpl) (fun q hq e => ?_)
    have := (N q hq).1
    rw [e, hD] at this
    cases this
/-- the source is a range -/
theorem qsrc_range {scope : Scope} {cl : List (Str × Addr)} {x : Str} {ifs : List PySem.Expr} {elt : PySem.Expr} {p : Value → Bool} {G : Value → Value → Prop} {Fin : Shared → (Str → Option Value) → List (Addr × Obj) → (Nat → Value → Prop) → Nat → Addr → Heap → Nat → Array Value → Nat → List Value → Prop}
    {r : Addr} {a b c : Int} {t u v : Tok} {n : Nat} {m : Str → Option Value} {news : List (Addr × Obj)} (hh : A.handled = none) (hr : IsRange s.heap r a b c t u v) (hsmall : Builtin.Range.small a b c = true) (hn : Builtin.Range.rangeSize a b c = (n : Int)) (hsz : n ≤ sizeLine) (F : Fr h₀ env.locals s.heap m) (N : News h₀ env.locals s.heap news)
    (ht : ∀ C i k t (s₃ : Shared) m₃ E', i < n → k = a + (i : Int) * c → s₃.heap.Ns C m₃ → m₃ x = some (.int k t) → Fr h₀ env.locals s₃.heap m → News h₀ env.locals s₃.heap news →
      wpAny (model prog w) A (forIn ifs true fun c r => if r = true then do let ok ← isTrue c (compEnvC scope cl C env) (eval c (compEnvC scope cl C env)); pure (ForInStep.yield ok) else pure (ForInStep.yield r)) (fun ok s₄ => ok = p (.int k t) ∧ Keeps s₃ s₄) E' s₃)
    (he : ∀ C i k t (s₃ : Shared) m₃ E', i < n → k = a + (i : Int) * c → p (.int k t) = true → s₃.heap.Ns C m₃ → m₃ x = some (.int k t) → Fr h₀ env.locals s₃.heap m → News h₀ env.locals s₃.heap news →
      wpAny (model prog w) A (eval elt (compEnvC scope cl C env)) (fun y s₄ => G (.int k t) y ∧ Keeps s₃ s₄) E' s₃)
    (hfin : ∀ D h' tk ys nn vs h₂, (∀ b o, s.heap.get? b = some o → Heap.get? h₂ b = some o) → Fr h₀ env.locals h₂ m → News h₀ env.locals h₂ news → vs.length = n → (∀ (j : Nat) v, vs[j]? = some v → ∃ t, v = Value.int (a + (j : Int) * c) t) → Paired G (vs.filter p) ys.toList → Fin { s with heap := h₂ } m news (fun (i : Nat) (v : Value) => i < n ∧ ∃ t, v = Value.int (a + (i : Int) * c) t) n D h' tk ys nn vs) :
    wpAny (model prog w) A (pyIter (.ref r)) (QSrc prog w A h₀ env scope cl x ifs elt p G Fin) E s := by
  refine wpAny_pyIter_range hr hsmall ?_
  have F' := F.push (o := { cls := .type "range_iterator", data := .fields #[rawInt a, rawInt (Builtin.Range.rangeSize a b c), rawInt c] })
  have N' := N.grown (h' := s.heap.push { cls := .type "range_iterator", data := .fields #[rawInt a, rawInt (Builtin.Range.rangeSize a b c), rawInt c] }) fun b o e => Heap.get?_push_of_some _ e
  refine ⟨_, [_], n, _, _, m, news, rfl, (Walks.range hh _ a c n).bound, hsz, ?_, ?_, F', N', Nat.ne_of_lt F.ns.lt, next_is_new F, fun q hq => Nat.ne_of_lt (Heap.lt_size (N q hq).1), ?_, ?_, ?_⟩
  · show IsRangeIter _ _ _ _ _
    rw [hn]
    simpa using Heap.get?_push_size _ rfl
  · intro b hb
    rw [List.mem_singleton.mp hb]
    show @LT.lt Nat _ _ (Heap.push _ _).objs.size
    rw [Heap.size_push]
    exact Nat.lt_succ_self _
  · rintro C i v s₃ m₃ E' ⟨hi, t, rfl⟩ hn hm F₃ N₃
    exact ht C i _ t s₃ m₃ E' hi rfl hn hm F₃ N₃
  · rintro C i v s₃ m₃ E' ⟨hi, t, rfl⟩ hpv hn hm F₃ N₃
    exact he C i _ t s₃ m₃ E' hi rfl hpv hn hm F₃ N₃
  · intro D h' tk ys nn vs hD hl hP hF
    exact hfin D h' tk ys nn vs _ (fun b o e => Heap.get?_push_of_some _ e) F' N' hl (fun j v hj => (hP j v hj).2) hF
/-- the source is a list -/
theorem qsrc_list {scope : Scope} {cl : List (Str × Addr)} {x : Str} {ifs : List PySem.Expr} {elt : PySem.Expr} {p : Value → Bool} {G : Value → Value → Prop} {Fin : Shared → (Str → Option Value) → List (Addr × Obj) → (Nat → Value → Prop) → Nat → Addr → Heap → Nat → Array Value → Nat → List Value → Prop}
    {l : Addr} {its : Array Value} {m : Str → Option Value} {news : List (Addr × Obj)} (hh : A.handled = none) (hl : s.heap.IsList l its) (hsz : its.size ≤ sizeLine) (F : Fr h₀ env.locals s.heap m) (N : News h₀ env.locals s.heap news)
    (ht : ∀ C (i : Nat) v (s₃ : Shared) m₃ E', its[i]? = some v → s₃.heap.Ns C m₃ → m₃ x = some v → Fr h₀ env.locals s₃.heap m → News h₀ env.locals s₃.heap news →
      wpAny (model prog w) A (forIn ifs true fun c r => if r = true then do let ok ← isTrue c (compEnvC scope cl C env) (eval c (compEnvC scope cl C env)); pure (ForInStep.yield ok) else pure (ForInStep.yield r)) (fun ok s₄ => ok = p v ∧ Keeps s₃ s₄) E' s₃)
    (he : ∀ C (i : Nat) v (s₃ : Shared) m₃ E', its[i]? = some v → p v = true → s₃.heap.Ns C m₃ → m₃ x = some v → Fr h₀ env.locals s₃.heap m → News h₀ env.locals s₃.heap news →
      wpAny (model prog w) A (eval elt (compEnvC scope cl C env)) (fun y s₄ => G v y ∧ Keeps s₃ s₄) E' s₃)
    (hfin : ∀ D h' tk ys nn h₂, (∀ b o, s.heap.get? b = some o → Heap.get? h₂ b = some o) → Fr h₀ env.locals h₂ m → News h₀ env.locals h₂ news → Paired G (its.toList.filter p) ys.toList → Fin { s with heap := h₂ } m news (fun (i : Nat) v => its[i]? = some v) its.size D h' tk ys nn its.toList) :
    wpAny (model prog w) A (pyIter (.ref l)) (QSrc prog w A h₀ env scope cl x ifs elt p G Fin) E s := by
  have hlt : @LT.lt Nat _ l s.heap.objs.size := by obtain ⟨_, e, _⟩ := hl; exact Heap.lt_size e
  refine wpAny_pyIter_list hl ?_
  have F' := F.push (o := { cls := .type "list_iterator", data := .fields #[.ref l, .int 0 0] })
  have N' := N.grown (h' := s.heap.push { cls := .type "list_iterator", data := .fields #[.ref l, .int 0 0] }) fun b o e => Heap.get?_push_of_some _ e
  refine ⟨_, [_, l], its.size, _, _, m, news, rfl, Walks.list hh s.heap.objs.size l (Nat.ne_of_lt hlt) its, hsz, ⟨⟨_, Heap.get?_push_size _ rfl, rfl, rfl⟩, hl.push _⟩, ?_, F', N', Nat.ne_of_lt F.ns.lt, next_is_new F, fun q hq => Nat.ne_of_lt (Heap.lt_size (N q hq).1), ht, he, ?_⟩
  · intro b hb
    show @LT.lt Nat _ b (Heap.push _ _).objs.size
    rw [Heap.size_push]
    rcases List.mem_cons.mp hb with rfl | hb
    · exact Nat.lt_succ_self _
    · rw [List.mem_singleton.mp hb]; exact Nat.lt_succ_of_lt hlt
  · intro D h' tk ys nn vs hD hlen hP hF
    have hvs : vs = its.toList := by
      refine List.ext_getElem? fun j => ?_
      rcases Nat.lt_or_ge j vs.length with hj | hj
      · have h1 := hP j _ (List.getElem?_eq_getElem hj)
        rw [List.getElem?_eq_getElem hj, Array.getElem?_toList]
        exact h1.symm
      · rw [List.getElem?_eq_none hj, List.getElem?_eq_none (by rw [Array.length_toList]; omega)]
    subst hvs
    exact hfin D h' tk ys nn _ (fun b o e => Heap.get?_push_of_some _ e) F' N' hF
end
end Mine
namespace Mine
theorem ints_of_range {a c : Int} : ∀ {n : Nat} {vs : List Value}, vs.length = n → (∀ (j : Nat) v, vs[j]? = some v → ∃ t, v = Value.int (a + (j : Int) * c) t) → IntsAre vs ((List.range n).map fun (i : Nat) => a + (i : Int) * c) := by
  intro n vs hl h
  have key : ∀ {vs : List Value} {ns : List Int}, vs.length = ns.length → (∀ (j : Nat) v, vs[j]? = some v → ∃ k, ns[j]? = some k ∧ ∃ t, v = Value.int k t) → IntsAre vs ns := by
    intro vs
    induction vs with
    | nil => intro ns h1 _; cases ns with
      | nil => exact .nil
      | cons _ _ => simp at h1
    | cons v vs ih => intro ns h1 h2; cases ns with
      | nil => simp at h1
      | cons k ns =>
        obtain ⟨k', e, t, rfl⟩ := h2 0 v rfl
        cases e
        exact .cons _ _ (ih (by simpa using h1) fun j v hj => h2 (j + 1) v hj)
  refine key (by rw [List.length_map, List.length_range, hl]) fun j v hj => ?_
  have hjl : j < n := by rw [← hl]; exact (List.getElem?_eq_some_iff.mp hj).1
  refine ⟨_, ?_, h j v hj⟩
  rw [List.getElem?_map, List.getElem?_range hjl]
  rfl
theorem paired_ints {p : Value → Bool} {q : Int → Bool} (hpq : ∀ k t, p (.int k t) = q k) : ∀ {vs ys : List Value} {ks : List Int}, IntsAre vs ks → Paired (fun v y => y = v) (vs.filter p) ys → IntsAre ys (ks.filter q)
  | _, _, _, .nil, h => by cases h; exact .nil
  | _, _, _, .cons k t r, h => by
    by_cases hc : q k = true
    · rw [List.filter_cons_of_pos (by rw [hpq]; exact hc)] at h
      rw [List.filter_cons_of_pos hc]
      cases h with
      | cons h1 h2 =>
        subst h1
        exact .cons _ _ (paired_ints hpq r h2)
    · rw [List.filter_cons_of_neg (by rw [hpq]; exact hc)] at h
      rw [List.filter_cons_of_neg hc]
      exact paired_ints hpq r h
theorem paired_strs {f : Int → Str} : ∀ {vs ys : List Value} {ks : List Int}, IntsAre vs ks → Paired (fun v y => ∃ k t u, v = .int k t ∧ y = .str (f k) u) (vs.filter fun _ => true) ys → StrsAre ys (ks.map f)
  | _, _, _, .nil, h => by cases h; exact .nil
  | _, _, _, .cons k t r, h => by
    rw [List.filter_cons_of_pos rfl] at h
    rw [List.map_cons]
    cases h with
    | cons h1 h2 =>
      obtain ⟨k', t', u, e1, e2⟩ := h1
      injection e1 with e3 _
      subst e3
      subst e2
      exact .cons _ _ (paired_strs r h2)
noncomputable def coinsOf (S : Str) : List Int := ((List.range 8).map fun (i : Nat) => (0 : Int) + (i : Int) * 1).filter fun k => Txt.item S k == Str.ofString "b"
noncomputable def leadPart (hd k : Int) : Str := Txt.mul (Str.ofString " ") (k + hd) ++ Str.ofString "\t"
noncomputable def leadOf (S : Str) (hd : Int) : Str := Txt.join (Str.ofString "") ((coinsOf S).map (leadPart hd)) ++ Str.ofString "  x \t"
theorem coins_le (S : Str) : (coinsOf S).length ≤ 8 := by
  unfold coinsOf
  refine Nat.le_trans (List.length_filter_le _ _) ?_
  rw [List.length_map, List.length_range]
  exact Nat.le_refl _
theorem coins_mem {S : Str} {k : Int} (h : k ∈ coinsOf S) : 0 ≤ k ∧ k ≤ 7 := by
  unfold coinsOf at h
  obtain ⟨h1, _⟩ := List.mem_filter.mp h
  obtain ⟨i, hi, rfl⟩ := List.mem_map.mp h1
  have := List.mem_range.mp hi
  omega
end Mine
namespace Mine
theorem ints_item : ∀ {vs : List Value} {ns : List Int}, IntsAre vs ns → ∀ (i : Nat) (v : Value), vs[i]? = some v → ∃ k t, v = .int k t ∧ ns[i]? = some k
  | _, _, .nil, i, v, h => by simp at h
  | _, _, .cons k t r, 0, v, h => by cases h; exact ⟨k, t, rfl, rfl⟩
  | _, _, .cons k t r, i + 1, v, h => ints_item r i v h
theorem fmod2 (n : Int) : 0 ≤ n.fmod 2 ∧ n.fmod 2 ≤ 1 := by
  rw [Int.fmod_eq_emod_of_nonneg _ (by decide)]
  omega
theorem leadPart_len {hd k : Int} (h0 : 0 ≤ k) (h1 : k ≤ 7) (h2 : 0 ≤ hd) (h3 : hd ≤ 1) : (leadPart hd k).length ≤ 9 := by
  unfold leadPart
  rw [Str.length_append]
  have h := mul_len (x := Str.ofString " ") (n := k + hd) (a := 1) (b := 8) (by decide) (by omega) (by omega)
  have e : (Str.ofString "\t").length = 1 := by decide
  omega
theorem lead_join_len {S : Str} {hd : Int} (h2 : 0 ≤ hd) (h3 : hd ≤ 1) : (Txt.join (Str.ofString "") ((coinsOf S).map (leadPart hd))).length ≤ 72 ∧ (((coinsOf S).map (leadPart hd)).map (·.length)).sum ≤ 72 := by
  rw [join0_len]
  have h := sum_le_all (B := 9) (l := ((coinsOf S).map (leadPart hd)).map (·.length)) (by
    intro n hn
    obtain ⟨y, hy, rfl⟩ := List.mem_map.mp hn
    obtain ⟨k, hk, rfl⟩ := List.mem_map.mp hy
    have := coins_mem hk
    exact leadPart_len this.1 this.2 h2 h3)
  rw [List.length_map, List.length_map] at h
  have := coins_le S
  omega
end Mine
end
section
open PySem PySem.W PyProof.Rows PySem.Calls PySem.Spec
set_option Elab.async false
namespace Mine
section
variable {prog : Program} {w : World} {A : Around} {E : Value → Shared → Prop} {s : Shared} {env : Env} {h₀ : Heap} {x : Str} {body orelse : List Stmt} {Q : Flow → Shared → Prop}
/-- a loop over a list of the ledger, own rule: the list stands in J -/
theorem list_loop {R : Result → Shared → Prop} {px : Pos} {I l : Addr} {its : Array Value} {nl : Nat} {m : Str → Option Value} {news : List (Addr × Obj)}
    (hh : A.handled = none) (hlI : l ≠ I) (hx : env.kindOf x = some .local) (hp : (env.scope.kind == .class || (env.scope.kind == .module && env.locals != env.globals)) = false)
    (hIL : I ≠ env.locals) (hI0 : h₀.get? I = none) (hit : s.heap.IsListIter I l 0) (F : Fr h₀ env.locals s.heap m) (N : News h₀ env.locals s.heap news) (hoff : ∀ p ∈ news, p.1 ≠ I)
    (J : Nat → (Str → Option Value) → List (Addr × Obj) → Array GenState → Prop) (h0 : J 0 m news s.gens) (hk : ∀ i m₁ nx g, J i m₁ nx g → (l, madeList its nl) ∈ nx)
    (step : ∀ i v m₁ nx it s₁, its[i]? = some v → J i m₁ nx s₁.gens → s₁.os = s.os → s₁.drawn = s.drawn → (∀ p ∈ nx, p.1 ≠ I) → it.cls ≠ .type "tuple" → Fr h₀ env.locals s₁.heap (fun y => if y = x then some v else m₁ y) → News h₀ env.locals s₁.heap ((I, it) :: nx) →
      wpAny (model prog w) A (execs body env) (TurnIs h₀ env.locals I it (J (i + 1)) (fun f s' => R (.ok f) s') s₁) (notedBy (model prog w) A env fun e s' => R (.error e) s') s₁)
    (done : ∀ m₁ nx s₁, J its.size m₁ nx s₁.gens → s₁.os = s.os → s₁.drawn = s.drawn → Fr h₀ env.locals s₁.heap m₁ → News h₀ env.locals s₁.heap nx → wpAny (model prog w) A (execs orelse env) (fun f s' => R (.ok f) s') (notedBy (model prog w) A env fun e s' => R (.error e) s') s₁) :
    codeAny (model prog w) A (.forLoop (.Name x px) (.ref I) body orelse env) R s := by
  have W := Walks.list (prog := prog) (w := w) hh I l hlI its
  refine codeAny_forLoop (InvM (fun i h => h.IsListIter I l i) h₀ env.locals I its.size J s) ?_ (its.size + 1)
    ⟨m, news, 0, hit, F, N, hoff, rfl, rfl, h0, Nat.zero_le _, rfl⟩
  rintro k s' ⟨m', nx, i, hit', F', N', hoff', ho, hd, hJ, hi, rfl⟩
  have hl' : s'.heap.IsList l its := ⟨_, (N' _ (hk _ _ _ _ hJ)).1, rfl, _, rfl⟩
  have next : ∀ h₁ : Heap, (∀ b o, b ∉ [I] → s'.heap.get? b = some o → h₁.get? b = some o) → Fr h₀ env.locals h₁ m' ∧ News h₀ env.locals h₁ nx := by
    intro h₁ hk
    have off : ∀ b : Addr, b ≠ I → b ∉ [I] := fun b hb hm => hb (List.mem_singleton.mp hm)
    refine ⟨⟨F'.ns.at' fun o e => hk _ o (off _ hIL.symm) e, fun b o e => hk b o (off b fun q => ?_) (F'.keep b o e), F'.above⟩, fun p hp => ⟨hk _ _ (off _ (hoff' p hp)) (N' p hp).1, (N' p hp).2⟩⟩
    rw [q, hI0] at e
    cases e
  by_cases hlt : i < its.size
  · refine W.item i _ _ _ hlt ⟨hit', hl'⟩ fun v h₁ tk₁ hP hst₁ hk₁ => ?_
    obtain ⟨F₁, N₁⟩ := next h₁ hk₁
    refine wpAny_assign_Name (wpAny_storeName_local hx F₁.ns (fun h₂ hn₂ hs₂ => ?_) hp)
    have F₂ := F₁.set hn₂ hs₂
    obtain ⟨it, hit₁, hcl, hdt⟩ := hst₁.1
    have hit₂ : h₂.get? I = some it := (hs₂.2 I hIL).trans hit₁
    have hcls : it.cls ≠ .type "tuple" := by rw [hcl]; simp
    have N₂ : News h₀ env.locals h₂ ((I, it) :: nx) := fun p hp => by
      rcases List.mem_cons.mp hp with rfl | hp
      · exact ⟨hit₂, hIL, hI0⟩
      · exact (N₁.set hs₂) p hp
    refine wpAny_mono (step i v m' nx it _ hP hJ ho hd hoff' hcls F₂ N₂) (fun f s₃ h₃ => ?_) fun _ _ e => e
    have fin : TurnEnds h₀ env.locals I it (J (i + 1)) { s' with heap := h₂, toks := tk₁ + 1 } s₃ → ∃ m_1, m_1 < its.size + 1 - i ∧ InvM (fun i h => h.IsListIter I l i) h₀ env.locals I its.size J s m_1 s₃ := by
      rintro ⟨m₂, nx₂, F₃, N₃, ha₃, ho₃, hd₃, hJ₃⟩
      exact ⟨its.size + 1 - (i + 1), by omega, m₂, nx₂, i + 1, ⟨it, (N₃ _ (.head _)).1, hcl, hdt⟩, F₃, fun p hp => N₃ p (.tail _ hp), ha₃, ho₃.trans ho, hd₃.trans hd, hJ₃, hlt, rfl⟩
    cases f with
    | ret v => exact h₃
    | brk => exact h₃
    | next => exact fin h₃
    | cont => exact fin h₃
  · have hin : i = its.size := by omega
    subst hin
    refine W.done _ _ _ ⟨hit', hl'⟩ fun h₁ tk₁ hk₁ => ?_
    obtain ⟨F₁, N₁⟩ := next h₁ hk₁
    exact done m' nx _ hJ ho hd F₁ N₁
inductive LoopL (prog : Program) (w : World) (A : Around) (h₀ : Heap) (env : Env) (x : Str) (body orelse : List Stmt) (Q : Flow → Shared → Prop) (E : Value → Shared → Prop) (itv : Value) (s : Shared) : Prop where
  | mk (I l : Addr) (its : Array Value) (nl : Nat) (m : Str → Option Value) (news : List (Addr × Obj)) (J : Nat → (Str → Option Value) → List (Addr × Obj) → Array GenState → Prop) (h1 : itv = .ref I) (h2 : A.handled = none) (h3 : l ≠ I) (h4 : I ≠ env.locals) (h5 : h₀.get? I = none) (h6 : s.heap.IsListIter I l 0) (h7 : Fr h₀ env.locals s.heap m) (h8 : News h₀ env.locals s.heap news) (h9 : (∀ p ∈ news, p.1 ≠ I)) (h10 : J 0 m news s.gens) (h11 : (∀ i m₁ nx g, J i m₁ nx g → (l, madeList its nl) ∈ nx)) (h12 : (∀ i v m₁ nx it s₁, its[i]? = some v → J i m₁ nx s₁.gens → s₁.os = s.os → s₁.drawn = s.drawn → (∀ p ∈ nx, p.1 ≠ I) → it.cls ≠ .type "tuple" → Fr h₀ env.locals s₁.heap (fun y => if y = x then some v else m₁ y) → News h₀ env.locals s₁.heap ((I, it) :: nx) → wpAny (model prog w) A (execs body env) (TurnIs h₀ env.locals I it (J (i + 1)) Q s₁) E s₁)) (h13 : (∀ m₁ nx s₁, J its.size m₁ nx s₁.gens → s₁.os = s.os → s₁.drawn = s.drawn → Fr h₀ env.locals s₁.heap m₁ → News h₀ env.locals s₁.heap nx → wpAny (model prog w) A (execs orelse env) Q E s₁)) : LoopL prog w A h₀ env x body orelse Q E itv s
theorem my_ForL {iter : PySem.Expr} {px pos : Pos} {m₉ : Str → Option Value} (_F : Fr h₀ env.locals s.heap m₉) (hx : env.kindOf x = some .local) (hp : (env.scope.kind == .class || (env.scope.kind == .module && env.locals != env.globals)) = false)
    (h : wpAny (model prog w) A (eval iter env) (fun xv s₁ => wpAny (model prog w) A (pyIter xv) (fun it s₂ => LoopL prog w A h₀ env x body orelse Q E it s₂) E s₁) E s)
    (hs : ∀ x, foldedSetIterable iter env x = pure x := by intro _; rfl) (hE : PassesOwn (model prog w) A env E := by passes_own) :
    wpAny (model prog w) A (exec (.For (.Name x px) iter body orelse pos) env) Q E s := by
  refine wpAny_For (wpAny_mono h (fun xv s₁ h₁ => wpAny_mono h₁ (fun it s₂ h₂ => ?_) fun _ _ e => e) fun _ _ e => e) hs
  obtain ⟨I, l, its, nl, m, news, J, rfl, hh, hlI, hIL, hI0, hit, F, N, hoff, h0, hk, step, done⟩ := h₂
  exact list_loop (R := fun r s' => match r with | .ok f => Q f s' | .error e => cameBackBy (model prog w) A env E e s') hh hlI hx hp hIL hI0 hit F N hoff J h0 hk
    (fun i v m₁ nx it s₁ a b c d e f g k => wpAny_passesOwn hE (step i v m₁ nx it s₁ a b c d e f g k)) (fun m₁ nx s₁ a b c d e => wpAny_passesOwn hE (done m₁ nx s₁ a b c d e))
theorem my_list {l : Addr} {its : Array Value} {nl : Nat} {m : Str → Option Value} {news : List (Addr × Obj)} (J : Nat → (Str → Option Value) → List (Addr × Obj) → Array GenState → Prop)
    (hh : A.handled = none) (hl : (l, madeList its nl) ∈ news) (F : Fr h₀ env.locals s.heap m) (N : News h₀ env.locals s.heap news) (h0 : J 0 m news s.gens) (hk : ∀ i m₁ nx g, J i m₁ nx g → (l, madeList its nl) ∈ nx)
    (step : ∀ I, (∀ p ∈ news, @LT.lt Nat _ p.1 I) → ∀ i v m₁ nx it s₁, its[i]? = some v → J i m₁ nx s₁.gens → s₁.os = s.os → s₁.drawn = s.drawn → (∀ p ∈ nx, p.1 ≠ I) → it.cls ≠ .type "tuple" → Fr h₀ env.locals s₁.heap (fun y => if y = x then some v else m₁ y) → News h₀ env.locals s₁.heap ((I, it) :: nx) →
      wpAny (model prog w) A (execs body env) (TurnIs h₀ env.locals I it (J (i + 1)) Q s₁) E s₁)
    (done : ∀ m₁ nx s₁, J its.size m₁ nx s₁.gens → s₁.os = s.os → s₁.drawn = s.drawn → Fr h₀ env.locals s₁.heap m₁ → News h₀ env.locals s₁.heap nx → wpAny (model prog w) A (execs orelse env) Q E s₁) :
    wpAny (model prog w) A (pyIter (.ref l)) (fun it s₂ => LoopL prog w A h₀ env x body orelse Q E it s₂) E s := by
  have lt : ∀ p ∈ news, @LT.lt Nat _ p.1 s.heap.objs.size := fun p hp => Heap.lt_size (N p hp).1
  refine wpAny_pyIter_list ⟨_, (N _ hl).1, rfl, _, rfl⟩ ⟨s.heap.objs.size, l, its, nl, m, news, J, rfl, hh, Nat.ne_of_lt (lt _ hl), Nat.ne_of_gt F.ns.lt, next_is_new F, ⟨_, Heap.get?_push_size _ rfl, rfl, rfl⟩, F.push _, (fun p hp => ⟨Heap.get?_push_of_some _ (N p hp).1, (N p hp).2⟩), fun p hp => Nat.ne_of_lt (lt p hp), h0, hk, ?_, done⟩
  intro i v m₁ nx it s₁ a b c d e f g k
  exact step _ lt i v m₁ nx it s₁ a b c d e f g k
/-- a loop over a range whose target is a cell -/
inductive TurnEndsC (h₀ : Heap) (L I c : Addr) (it : Obj) (J : (Str → Option Value) → List (Addr × Obj) → Array GenState → Prop) (s₁ s₃ : Shared) : Prop where
  | mk m' nx' oc v₀ (h1 : Fr h₀ L s₃.heap m') (h2 : News h₀ L s₃.heap ((I, it) :: (c, oc) :: nx')) (h3 : oc.data = .cell v₀) (h4 : (∀ p ∈ nx', p.1 ≠ I ∧ p.1 ≠ c)) (h5 : s₃.os = s₁.os) (h6 : s₃.drawn = s₁.drawn) (h7 : J m' nx' s₃.gens) : TurnEndsC h₀ L I c it J s₁ s₃
noncomputable def TurnIsC (h₀ : Heap) (L I c : Addr) (it : Obj) (J : (Str → Option Value) → List (Addr × Obj) → Array GenState → Prop) (Q : Flow → Shared → Prop) (s₁ : Shared) (f : Flow) (s₃ : Shared) : Prop :=
  match f with
  | .ret v => Q (.ret v) s₃
  | .brk => Q .next s₃
  | _ => TurnEndsC h₀ L I c it J s₁ s₃
inductive LoopC (prog : Program) (w : World) (A : Around) (h₀ : Heap) (env : Env) (x : Str) (body orelse : List Stmt) (Q : Flow → Shared → Prop) (E : Value → Shared → Prop) (itv : Value) (s : Shared) : Prop where
  | mk (I c : Addr) (a d : Int) (n : Nat) (oc : Obj) (v₀ : Option Value) (m : Str → Option Value) (news : List (Addr × Obj)) (J : Nat → (Str → Option Value) → List (Addr × Obj) → Array GenState → Prop) (h1 : itv = .ref I) (h2 : A.handled = none) (h3 : env.cells.lookup x = some c) (h4 : oc.data = .cell v₀) (h5 : I ≠ c) (h6 : I ≠ env.locals) (h7 : h₀.get? I = none) (h8 : IsRangeIter s.heap I a n d) (h9 : Fr h₀ env.locals s.heap m) (h10 : News h₀ env.locals s.heap ((c, oc) :: news)) (h11 : (∀ p ∈ news, p.1 ≠ I ∧ p.1 ≠ c)) (h12 : J 0 m news s.gens) (h13 : (∀ i t m₁ nx it oc s₁, i < n → J i m₁ nx s₁.gens → s₁.os = s.os → s₁.drawn = s.drawn → (∀ p ∈ nx, p.1 ≠ I ∧ p.1 ≠ c) → Fr h₀ env.locals s₁.heap m₁ → News h₀ env.locals s₁.heap ((I, it) :: (c, oc) :: nx) → oc.data = .cell (some (.int (a + (i : Int) * d) t)) → wpAny (model prog w) A (execs body env) (TurnIsC h₀ env.locals I c it (J (i + 1)) Q s₁) E s₁)) (h14 : (∀ m₁ nx oc s₁, J n m₁ nx s₁.gens → s₁.os = s.os → s₁.drawn = s.drawn → Fr h₀ env.locals s₁.heap m₁ → News h₀ env.locals s₁.heap ((c, oc) :: nx) → wpAny (model prog w) A (execs orelse env) Q E s₁)) : LoopC prog w A h₀ env x body orelse Q E itv s
inductive InvC (h₀ : Heap) (L I c : Addr) (a d : Int) (n : Nat) (J : Nat → (Str → Option Value) → List (Addr × Obj) → Array GenState → Prop) (s : Shared) (k : Nat) (s' : Shared) : Prop where
  | mk m' nx i oc v₀ (h1 : IsRangeIter s'.heap I (a + (i : Nat) * d) ((n : Int) - (i : Nat)) d) (h2 : Fr h₀ L s'.heap m') (h3 : News h₀ L s'.heap ((c, oc) :: nx)) (h0 : oc.data = .cell v₀) (h4 : ∀ p ∈ nx, p.1 ≠ I ∧ p.1 ≠ c) (h5 : s'.os = s.os) (h6 : s'.drawn = s.drawn) (h7 : J i m' nx s'.gens) (h8 : i ≤ n) (h9 : k = n + 1 - i) : InvC h₀ L I c a d n J s k s'
theorem my_ForC {iter : PySem.Expr} {px pos : Pos} {m₉ : Str → Option Value} (_F : Fr h₀ env.locals s.heap m₉) (hx : env.kindOf x = some .cell) (hk : env.scope.kind = .function)
    (h : wpAny (model prog w) A (eval iter env) (fun xv s₁ => wpAny (model prog w) A (pyIter xv) (fun it s₂ => LoopC prog w A h₀ env x body orelse Q E it s₂) E s₁) E s)
    (hs : ∀ x, foldedSetIterable iter env x = pure x := by intro _; rfl) (hE : PassesOwn (model prog w) A env E := by passes_own) :
    wpAny (model prog w) A (exec (.For (.Name x px) iter body orelse pos) env) Q E s := by
  refine wpAny_For (wpAny_mono h (fun xv s₁ h₁ => wpAny_mono h₁ (fun it s₂ h₂ => ?_) fun _ _ e => e) fun _ _ e => e) hs
  obtain ⟨I, c, a, d, n, oc, v₀, m, news, J, rfl, hh, hc, hoc, hIc, hIL, hI0, hit, F, N, hoff, h0, step, done⟩ := h₂
  have W := Walks.range (prog := prog) (w := w) hh I a d n
  have hst0 : IsRangeIter s₂.heap I (a + ((0 : Nat) : Int) * d) ((n : Int) - ((0 : Nat) : Int)) d := by simpa using hit
  refine codeAny_forLoop (R := fun r s' => match r with | .ok f => Q f s' | .error e => cameBackBy (model prog w) A env E e s')
    (InvC h₀ env.locals I c a d n J s₂) ?_ (n + 1)
    ⟨m, news, 0, oc, v₀, hst0, F, N, hoc, hoff, rfl, rfl, h0, Nat.zero_le _, rfl⟩
  rintro k s' ⟨m', nx, i, oc, v₀, hst', F', N', hoc', hoff', ho, hd, hJ, hi, rfl⟩
  have next : ∀ h₁ : Heap, (∀ b o, b ∉ [I] → s'.heap.get? b = some o → h₁.get? b = some o) → Fr h₀ env.locals h₁ m' ∧ News h₀ env.locals h₁ ((c, oc) :: nx) := by
    intro h₁ hk
    have off : ∀ b : Addr, b ≠ I → b ∉ [I] := fun b hb hm => hb (List.mem_singleton.mp hm)
    refine ⟨⟨F'.ns.at' fun o e => hk _ o (off _ hIL.symm) e, fun b o e => hk b o (off b fun q => ?_) (F'.keep b o e), F'.above⟩, fun p hp => ⟨hk _ _ (off _ ?_) (N' p hp).1, (N' p hp).2⟩⟩
    · rw [q, hI0] at e
      cases e
    · rcases List.mem_cons.mp hp with rfl | hp
      · exact hIc.symm
      · exact (hoff' p hp).1
  by_cases hlt : i < n
  · refine W.item i _ _ _ hlt hst' fun v h₁ tk₁ hP hst₁ hk₁ => ?_
    obtain ⟨t, rfl⟩ := hP
    obtain ⟨F₁, N₁⟩ := next h₁ hk₁
    have zc := N₁ _ (.head _)
    refine wpAny_assign_Name (wpAny_storeName_cell hk hx hc ⟨oc, zc.1, hoc'⟩ fun h₂ hcell hs₂ => ?_)
    obtain ⟨oc2, hoc2, hod2⟩ := hcell
    have F₂ := F₁.change hs₂ zc.2.1 zc.2.2
    have hst₂ : IsRangeIter h₂ I (a + ((i + 1 : Nat) : Int) * d) ((n : Int) - ((i + 1 : Nat) : Int)) d := W.frame _ _ _ hst₁ fun b hb o e => (hs₂.2 b fun q => hIc ((List.mem_singleton.mp hb).symm.trans q)).trans e
    obtain ⟨itO, hitO⟩ : ∃ o, h₂.get? I = some o := ⟨_, hst₂⟩
    have N₂ : News h₀ env.locals h₂ ((I, itO) :: (c, oc2) :: nx) := fun p hp => by
      rcases List.mem_cons.mp hp with rfl | hp
      · exact ⟨hitO, hIL, hI0⟩
      · rcases List.mem_cons.mp hp with rfl | hp
        · exact ⟨hoc2, zc.2⟩
        · have n := N₁ p (.tail _ hp)
          exact ⟨(hs₂.2 _ (hoff' p hp).2).trans n.1, n.2⟩
    refine wpAny_mono (wpAny_passesOwn hE (step i t m' nx itO oc2 _ hlt hJ ho hd hoff' F₂ N₂ hod2)) (fun f s₃ h₃ => ?_) fun _ _ e => e
    have fin : TurnEndsC h₀ env.locals I c itO (J (i + 1)) { s' with heap := h₂, toks := tk₁ } s₃ → ∃ m_1, m_1 < n + 1 - i ∧ InvC h₀ env.locals I c a d n J s₂ m_1 s₃ := by
      rintro ⟨m₂, nx₂, oc3, v3, F₃, N₃, h3, ha₃, ho₃, hd₃, hJ₃⟩
      have hz : s₃.heap.get? I = some itO := (N₃ _ (.head _)).1
      exact ⟨n + 1 - (i + 1), by omega, m₂, nx₂, i + 1, oc3, v3, by
        have e : h₂.get? I = some _ := hst₂
        show s₃.heap.get? I = some _
        rw [hz, ← hitO]; exact e, F₃, fun p hp => N₃ p (.tail _ hp), h3, ha₃, ho₃.trans ho, hd₃.trans hd, hJ₃, hlt, rfl⟩
    cases f with
    | ret v => exact h₃
    | brk => exact h₃
    | next => exact fin h₃
    | cont => exact fin h₃
  · have hin : i = n := by omega
    subst hin
    refine W.done _ _ _ hst' fun h₁ tk₁ hk₁ => ?_
    obtain ⟨F₁, N₁⟩ := next h₁ hk₁
    exact wpAny_passesOwn hE (done m' nx oc _ hJ ho hd F₁ N₁)
theorem my_rangeC {r c : Addr} {a b d : Int} {t u v : Tok} {n : Nat} {oc : Obj} {v₀ : Option Value} {m : Str → Option Value} {news : List (Addr × Obj)} (J : Nat → (Str → Option Value) → List (Addr × Obj) → Array GenState → Prop)
    (hh : A.handled = none) (hr : IsRange s.heap r a b d t u v) (hsmall : Builtin.Range.small a b d = true) (hn : Builtin.Range.rangeSize a b d = (n : Int)) (hc : env.cells.lookup x = some c) (hoc : oc.data = .cell v₀) (F : Fr h₀ env.locals s.heap m) (N : News h₀ env.locals s.heap ((c, oc) :: news)) (hnc : ∀ p ∈ news, p.1 ≠ c) (h0 : J 0 m news s.gens)
    (step : ∀ I, (∀ p ∈ (c, oc) :: news, @LT.lt Nat _ p.1 I) → ∀ i t m₁ nx it oc s₁, i < n → J i m₁ nx s₁.gens → s₁.os = s.os → s₁.drawn = s.drawn → (∀ p ∈ nx, p.1 ≠ I ∧ p.1 ≠ c) → Fr h₀ env.locals s₁.heap m₁ → News h₀ env.locals s₁.heap ((I, it) :: (c, oc) :: nx) → oc.data = .cell (some (.int (a + (i : Int) * d) t)) →
      wpAny (model prog w) A (execs body env) (TurnIsC h₀ env.locals I c it (J (i + 1)) Q s₁) E s₁)
    (done : ∀ m₁ nx oc s₁, J n m₁ nx s₁.gens → s₁.os = s.os → s₁.drawn = s.drawn → Fr h₀ env.locals s₁.heap m₁ → News h₀ env.locals s₁.heap ((c, oc) :: nx) → wpAny (model prog w) A (execs orelse env) Q E s₁) :
    wpAny (model prog w) A (pyIter (.ref r)) (fun it s₂ => LoopC prog w A h₀ env x body orelse Q E it s₂) E s := by
  have lt : ∀ p ∈ (c, oc) :: news, @LT.lt Nat _ p.1 s.heap.objs.size := fun p hp => Heap.lt_size (N p hp).1
  refine wpAny_pyIter_range hr hsmall ⟨s.heap.objs.size, c, a, d, n, oc, v₀, m, news, J, rfl, hh, hc, hoc, Nat.ne_of_gt (lt _ (.head _)), Nat.ne_of_gt F.ns.lt, next_is_new F, ?_, F.push _, (fun p hp => ⟨Heap.get?_push_of_some _ (N p hp).1, (N p hp).2⟩), fun p hp => ⟨Nat.ne_of_lt (lt p (.tail _ hp)), hnc p hp⟩, h0, ?_, done⟩
  · show IsRangeIter _ _ _ _ _
    rw [hn]
    exact Heap.get?_push_size _ rfl
  · intro i t m₁ nx it oc s₁ h1 h2 h3 h4 h5 h6 h7 h8
    exact step _ lt i t m₁ nx it oc s₁ h1 h2 h3 h4 h5 h6 h7 h8
end
end Mine
end
section
open PySem PySem.W PyProof.Rows PySem.Calls PySem.Spec
set_option Elab.async false
namespace Mine
theorem arrL2 {h₀ h : Heap} {L : Addr} {a1 a2 a3 a4 a5 a6 a7 a8 a9 b1 b2 b3 b4 : Addr × Obj} (N : News h₀ L h [a1, a2, a3, a4, a5, a6, a7, a8, a9, b1, b2, b3, b4]) : News h₀ L h [b3, b4, a1, a2, a3, a4, a6, a8, a9, b1, b2] := fun q hq => N q (by
  simp only [List.mem_cons, List.mem_nil_iff, or_false] at hq ⊢
  rcases hq with h | h | h | h | h | h | h | h | h | h | h <;> simp [h])
noncomputable def wAt (total : Int) (i : Nat) : Int := ([1, 2, 4, ([3, 5, 6, 7] : List Int).getD ((total.fdiv 2).fmod 4).toNat 0] : List Int).getD i 0
theorem wAt_bound {total : Int} {i : Nat} (hi : i < 4) : 1 ≤ wAt total i ∧ wAt total i ≤ 7 := by
  have hq : 0 ≤ (total.fdiv 2).fmod 4 ∧ (total.fdiv 2).fmod 4 < 4 := by
    rw [Int.fmod_eq_emod_of_nonneg _ (by decide)]
    omega
  have hx : 1 ≤ ([3, 5, 6, 7] : List Int).getD ((total.fdiv 2).fmod 4).toNat 0 ∧ ([3, 5, 6, 7] : List Int).getD ((total.fdiv 2).fmod 4).toNat 0 ≤ 7 := by
    have : ((total.fdiv 2).fmod 4).toNat = 0 ∨ ((total.fdiv 2).fmod 4).toNat = 1 ∨ ((total.fdiv 2).fmod 4).toNat = 2 ∨ ((total.fdiv 2).fmod 4).toNat = 3 := by omega
    rcases this with h | h | h | h <;> rw [h] <;> decide
  unfold wAt
  have : i = 0 ∨ i = 1 ∨ i = 2 ∨ i = 3 := by omega
  rcases this with rfl | rfl | rfl | rfl
  · exact ⟨show (1 : Int) ≤ 1 by decide, show (1 : Int) ≤ 7 by decide⟩
  · exact ⟨show (1 : Int) ≤ 2 by decide, show (2 : Int) ≤ 7 by decide⟩
  · exact ⟨show (1 : Int) ≤ 4 by decide, show (4 : Int) ≤ 7 by decide⟩
  · exact hx
noncomputable def countsOf (S : Str) (w hd : Int) : List Int := (colsOf S w hd).map takenOf
noncomputable def aboveIn (c : Int) (y : Str) : Int := c + (Txt.count y (Str.ofString "b") * (Txt.count y (Str.ofString "b") - 1)).fdiv 2
noncomputable def aboveOf (S : Str) (w hd : Int) : Int := (colsOf S w hd).foldl aboveIn (hd * Txt.count ((colsOf S w hd).getD 0 Str.empty) (Str.ofString "b"))
noncomputable def toldOf (S : Str) (hd total : Int) : Nat → Int
  | 0 => 0
  | i + 1 => if i < 3 then toldOf S hd total i + wAt total i * ((countsOf S (wAt total i) hd).sum.fmod 2) else toldOf S hd total i
noncomputable def st2 : List Str := [Str.ofString "k", Str.ofString "width", Str.ofString "columns", Str.ofString "above", Str.ofString "column", Str.ofString "counts", Str.ofString "told"]
inductive J2 (S : Str) (hd total : Int) (m : Str → Option Value) (rest : List (Addr × Obj)) (i : Nat) (m' : Str → Option Value) (nx : List (Addr × Obj)) (g : Array GenState) : Prop where
  | mk (h1 : (∀ y, st2.contains y = false → m' y = m y)) (h2 : AllBare g) p1 p2 tt (h3 : nx = (147, tabObj p1) :: (154, tabObj p2) :: rest) (h4 : TriplesOk p1.toList) (h5 : TriplesOk p2.toList) (h6 : m' (Str.ofString "told") = some (.int (toldOf S hd total i) tt)) : J2 S hd total m rest i m' nx g
theorem map_J2 {m m' : Str → Option Value} {v : Option Value} {td : Value} (hm : ∀ y, st2.contains y = false → m' y = m y) (ht : m' (Str.ofString "told") = some td) :
    (fun y => if y = Str.ofString "k" then v else m' y) = fun y => if y = Str.ofString "k" then v else if y = Str.ofString "told" then some td else if st2.contains y then m' y else m y := by
  funext y
  by_cases h1 : y = Str.ofString "k"
  · simp only [h1, if_true]
  · simp only [if_neg h1]
    by_cases h2 : y = Str.ofString "told"
    · simp only [h2, if_true]; exact ht
    · simp only [if_neg h2]
      cases h3 : st2.contains y with
      | true => simp
      | false => simp [hm y h3]
theorem map_J2e {m m' : Str → Option Value} {td : Value} (hm : ∀ y, st2.contains y = false → m' y = m y) (ht : m' (Str.ofString "told") = some td) :
    m' = fun y => if y = Str.ofString "told" then some td else if st2.contains y then m' y else m y := by
  funext y
  by_cases h2 : y = Str.ofString "told"
  · simp only [h2, if_true]; exact ht
  · simp only [if_neg h2]
    cases h3 : st2.contains y with
    | true => simp
    | false => simp [hm y h3]
end Mine
namespace Mine
theorem arrCol {h₀ h : Heap} {L : Addr} {a b i t1 t2 : Addr × Obj} {l : List (Addr × Obj)} (N : News h₀ L h (a :: b :: i :: t1 :: t2 :: l)) : News h₀ L h (t1 :: t2 :: i :: l) := fun q hq => N q (by
  simp only [List.mem_cons] at hq ⊢
  rcases hq with h | h | h | h <;> simp [h])
noncomputable def isTab (o : Obj) : Bool := match o.data with | .fields _ => true | _ => false
theorem isTab_cell {o : Obj} {v : Option Value} (h : o.data = .cell v) : isTab o = false := by unfold isTab; rw [h]
theorem off_tabs {h₀ h : Heap} {L : Addr} {p1 p2 : Array Value} {rest : List (Addr × Obj)} (N : News h₀ L h ((147, tabObj p1) :: (154, tabObj p2) :: rest)) (ht : ∀ q ∈ rest, isTab q.2 = false) : ∀ q ∈ rest, q.1 ≠ 147 ∧ q.1 ≠ 154 := fun q hq => by
  have h1 := ht q hq
  refine ⟨ne_of_obj N (.tail _ (.tail _ hq)) (.head _) fun e => ?_, ne_of_obj N (.tail _ (.tail _ hq)) (.tail _ (.head _)) fun e => ?_⟩
  · rw [e] at h1; simp [isTab] at h1
  · rw [e] at h1; simp [isTab] at h1
end Mine
namespace Mine
noncomputable def stA : List Str := [Str.ofString "column", Str.ofString "above"]
inductive JA (cols : List Str) (a0 : Int) (m : Str → Option Value) (news : List (Addr × Obj)) (i : Nat) (m' : Str → Option Value) (nx : List (Addr × Obj)) (g : Array GenState) : Prop where
  | mk (h1 : (∀ y, stA.contains y = false → m' y = m y)) (h2 : AllBare g) (h3 : nx = news) t (h4 : m' (Str.ofString "above") = some (.int ((cols.take i).foldl aboveIn a0) t)) : JA cols a0 m news i m' nx g
theorem map_JA {m m' : Str → Option Value} {v : Option Value} {td : Value} (hm : ∀ y, stA.contains y = false → m' y = m y) (ht : m' (Str.ofString "above") = some td) :
    (fun y => if y = Str.ofString "column" then v else m' y) = fun y => if y = Str.ofString "column" then v else if y = Str.ofString "above" then some td else m y := by
  funext y
  by_cases h1 : y = Str.ofString "column"
  · simp only [h1, if_true]
  · simp only [if_neg h1]
    by_cases h2 : y = Str.ofString "above"
    · simp only [h2, if_true]; exact ht
    · simp only [if_neg h2]
      exact hm y (by simp [stA, h1, h2])
theorem map_JAe {m m' : Str → Option Value} {td : Value} (hm : ∀ y, stA.contains y = false → m' y = m y) (ht : m' (Str.ofString "above") = some td) :
    m' = fun y => if y = Str.ofString "above" then some td else if y = Str.ofString "column" then m' y else m y := by
  funext y
  by_cases h2 : y = Str.ofString "above"
  · simp only [h2, if_true]; exact ht
  · simp only [if_neg h2]
    by_cases h1 : y = Str.ofString "column"
    · simp only [h1, if_true]
    · simp only [if_neg h1]
      exact hm y (by simp [stA, h1, h2])
theorem take_fold {cols : List Str} {a0 : Int} {i : Nat} {y : Str} (h : cols[i]? = some y) : (cols.take (i + 1)).foldl aboveIn a0 = aboveIn ((cols.take i).foldl aboveIn a0) y := by
  rw [List.take_add_one, h, List.foldl_append]; rfl
theorem JA_end {cols : List Str} {a0 : Int} {m m' : Str → Option Value} {news all : List (Addr × Obj)} {i : Nat} {y : Str} {h₀ : Heap} {L I : Addr} {it : Obj} {s₁ s₃ : Shared} {c : Int} {t : Tok} (hy : cols[i]? = some y) (F : Fr h₀ L s₃.heap m') (N : News h₀ L s₃.heap all) (hs : ∀ p ∈ (I, it) :: news, p ∈ all) (hoff : ∀ p ∈ news, p.1 ≠ I)
    (ho : s₃.os = s₁.os) (hd : s₃.drawn = s₁.drawn) (hb : AllBare s₃.gens) (hm : ∀ y, stA.contains y = false → m' y = m y) (ha : m' (Str.ofString "above") = some (.int c t)) (hc : c = aboveIn ((cols.take i).foldl aboveIn a0) y) : TurnEnds h₀ L I it (JA cols a0 m news (i + 1)) s₁ s₃ :=
  ⟨m', news, F, fun p hp => N p (hs p hp), hoff, ho, hd, hm, hb, rfl, t, by rw [ha, hc, take_fold hy]⟩
end Mine
namespace Mine
section
variable {prog : Program} {w : World} {A : Around} {E : Value → Shared → Prop} {s : Shared} {a b : Int} {t u : Tok} {Q : Value → Shared → Prop}
theorem mul_small (h0 : 0 ≤ a) (h1 : a ≤ 100000) (h : ∀ t' k, Q (.int (a * b) t') { s with toks := k }) : wpAny (model prog w) A (binaryOp .Mult (.int a t) (.int b u)) Q E s :=
  mul_int (h _ _) (IntMulOk.of_left (intBits_le_64 (by omega) (by omega)))
end
end Mine
end
section
open PySem PySem.W PyProof.Rows PySem.Calls PySem.Spec
set_option Elab.async false
namespace Mine
/-- the end of the call: as the kit's, bare generators may be left -/
noncomputable def GoodB (c : ClaimW) (cl : Str → Option Addr) (args : List WData) (s₁ : Shared) (res : Result) (s' : Shared) : Prop :=
  (∃ v d as, res = .ok (.ret v) ∧ (∀ cls, c.raises args cls = false) ∧ ReadsW c.records cl s'.heap v d as ∧ c.post args d args = true ∧
      (c.unshared = true → as.Nodup ∧ ∀ a ∈ as, s₁.heap.get? a = none)) ∧
  (∀ b o, s₁.heap.get? b = some o → s'.heap.get? b = some o) ∧ s'.os = s₁.os ∧ AllBare s'.gens
theorem my_post {M : Model} {A : Around} {cd : Code} {s s₁ : Shared} {cw : ClaimW} {cl : Str → Option Addr} {mean : ExcName → Option Value} {args : List WData} {tabs : List (Addr × Addr)} (hT : TabsAt tabs s₁.heap)
    (h : codeAny M A cd (fun r s' => GoodB cw cl args { s₁ with heap := ghostOf s₁.heap tabs } r s' ∧ GrownAll tabs s'.heap) s) : codeAny M A cd (GoodWG cw cl mean args s₁) s :=
  codeAny_mono h fun r s' ⟨⟨⟨v, d, as, r1, r2, r3, r4, r5⟩, hk, hos, hg⟩, hgr⟩ => by
    have keep : ∀ b o, b ∉ tabs.map (·.2) → s₁.heap.get? b = some o → s'.heap.get? b = some o := fun b o hb e => hk b o (ghost_ne e hb)
    have grown : ∀ b o, b ∈ tabs.map (·.2) → s₁.heap.get? b = some o → isCodeTable s₁.heap b ∧ o = tabObj #[] ∧ ∃ ps, s'.heap.get? b = some (tabObj ps) := by
      intro b o hb e
      obtain ⟨q, hq, rfl⟩ := List.mem_map.mp hb
      have e2 := (hT q hq).2
      rw [e] at e2
      exact ⟨((hT q hq).1.tab (hT q hq).2).isCodeTable, Option.some.inj e2, hgr.get q hq⟩
    refine ⟨.inl ⟨v, d, as, r1, r2, r3, r4, fun q => ⟨(r5 q).1, fun a ha => ?_⟩⟩, ⟨fun b o e => ?_, fun b o e => ?_⟩, hos, hg⟩
    · cases q1 : s₁.heap.get? a with
      | none => rfl
      | some o =>
        by_cases hb : a ∈ tabs.map (·.2)
        · obtain ⟨_, _, ps, hP⟩ := grown a o hb q1
          exact absurd ha (readsW_apart hP rfl r3)
        · have e3 := (r5 q).2 a ha
          rw [show (ghostOf s₁.heap tabs).get? a = some o from ghost_ne q1 hb] at e3
          cases e3
    · by_cases hb : b ∈ tabs.map (·.2)
      · obtain ⟨ht, rfl, ps, hP⟩ := grown b o hb e
        exact .inr (.inl ⟨ht, rfl, #[], ps, rfl, by rw [Array.empty_append]; exact hP⟩)
      · exact .inl (keep b o hb e)
    · by_cases hb : b ∈ tabs.map (·.2)
      · obtain ⟨_, _, ps, hP⟩ := grown b o hb e
        exact ⟨_, hP⟩
      · exact ⟨o, keep b o hb e⟩
theorem goodB_true {c : ClaimW} {cl : Str → Option Addr} {args : List WData} {s₁ s' : Shared} {L : Addr} {m : Str → Option Value} (F : Fr s₁.heap L s'.heap m) (hg : AllBare s'.gens) (hn : ∀ cls, c.raises args cls = false) (hp : c.post args (.bool true) args = true) (hos : s'.os = s₁.os) :
    GoodB c cl args s₁ (.ok (.ret (.bool true))) s' :=
  ⟨⟨.bool true, .bool true, [], rfl, hn, .bool true, hp, unshared_nil⟩, F.keep, hos, hg⟩
end Mine
end
section
open PySem PySem.W PyProof.Rows PySem.Calls PySem.Spec
set_option Elab.async false
namespace Mine
theorem cols_len (S : Str) (w hd : Int) : (colsOf S w hd).length = w.toNat := by unfold colsOf; rw [List.length_map, List.length_range]
end Mine
end
section
open PySem PySem.W PyProof.Rows PySem.Calls PySem.Spec
set_option Elab.async false
namespace Mine
theorem snocI {k : Int} {t : Tok} : ∀ {us : List Value} {ws : List Int}, IntsAre us ws → IntsAre (us ++ [.int k t]) (ws ++ [k])
  | _, _, .nil => .cons _ _ .nil
  | _, _, .cons y u r => .cons y u (snocI r)
section
variable {prog : Program} {w : World} {A : Around} {h₀ : Heap} {L : Addr} {m : Str → Option Value} {env : Env} {elt : PySem.Expr} {x : Str} {scope : Scope} {cl : List (Str × Addr)} {s : Shared} {S : List (Addr × Obj) → Prop} {Fin : List Value → List (Addr × Obj) → Prop} {its : Array Value} {cols : List Str} {news : List (Addr × Obj)} {f : Str → Int}
/-- a comprehension over texts whose element is a call that answers f -/
theorem compRest_f (hcols : StrsAre its.toList cols) (hS : S news)
    (hturn : ∀ (i : Nat) (y : Str) (t : Tok) (ys : List Value) I oI C oC D m₂ h tk (E' : Value → Shared → Prop) (Q' : Value → Shared → Prop), cols[i]? = some y → LCg.NsObj oC m₂ → m₂ x = some (.str y t) → Fr h₀ L h m → News h₀ L h ((I, oI) :: (C, oC) :: (D, LCg.lst ys) :: news) →
      (∀ h' tk' u, Fr h₀ L h' m → News h₀ L h' ((I, oI) :: (C, oC) :: (D, LCg.lst ys) :: news) → Q' (.int (f y) u) { s with heap := h', toks := tk' }) → wpAny (model prog w) A (eval elt (compEnvC scope cl C env)) Q' E' { s with heap := h, toks := tk })
    (hfin : ∀ ys, IntsAre ys (cols.map f) → Fin ys news) :
    ∀ (k i : Nat) (ys : List Value), i + k = its.size → IntsAre ys ((cols.take i).map f) → LCg.CompRest prog w A h₀ L m env elt x scope cl s S (fun i v => its[i]? = some v) Fin k i ys news
  | 0, i, ys, hk, hI => LCg.CompRest.zero (hfin ys (by
      rw [List.take_of_length_le (by rw [← hcols.length, Array.length_toList]; omega)] at hI
      exact hI))
  | k + 1, i, ys, hk, hI => LCg.CompRest.succ fun v I oI C oC D m₂ h tk E' hP hoC hm F N off _ => by
      obtain ⟨y, t, rfl, hy⟩ := StrsAre.item hcols i v (by simpa using hP)
      refine hturn i y t ys I oI C oC D m₂ h tk E' _ hy hoC hm F N fun h' tk' u F' N' => ?_
      refine LCg.CompEnd.intro F' N' news (fun p hp => hp) off hS (compRest_f hcols hS hturn hfin k (i + 1) _ (by omega) ?_)
      rw [List.take_add_one, hy, List.map_append]
      exact snocI hI
end
end Mine
namespace Mine
theorem any_neg1 {S : Str} {w hd : Int} (h : ∀ n ∈ countsOf S w hd, 0 ≤ n ∧ n ≤ 28) : ((List.map takenOf (colsOf S w hd)).any (· == -1)) = false := by
  rw [List.any_eq_false]
  intro n hn
  have := h n hn
  have e : n ≠ -1 := by omega
  simp [e]
end Mine
namespace Mine
theorem J2_end {S : Str} {hd total : Int} {m m' : Str → Option Value} {rest all : List (Addr × Obj)} {i : Nat} {h₀ : Heap} {L I : Addr} {it : Obj} {s₁ s₃ : Shared} {p1 p2 q1 q2 : Array Value} {v : Int} {t : Tok} (F : Fr h₀ L s₃.heap m') (N : News h₀ L s₃.heap all) (hs : ∀ p ∈ (I, it) :: (147, tabObj q1) :: (154, tabObj q2) :: rest, p ∈ all)
    (hoff : ∀ p ∈ (147, tabObj p1) :: (154, tabObj p2) :: rest, p.1 ≠ I) (h1 : TriplesOk q1.toList) (h2 : TriplesOk q2.toList) (hb : AllBare s₃.gens) (ho : s₃.os = s₁.os) (hdr : s₃.drawn = s₁.drawn) (hm : ∀ y, st2.contains y = false → m' y = m y) (ht : m' (Str.ofString "told") = some (.int v t)) (hv : v = toldOf S hd total (i + 1)) :
    TurnEnds h₀ L I it (J2 S hd total m rest (i + 1)) s₁ s₃ :=
  ⟨m', (147, tabObj q1) :: (154, tabObj q2) :: rest, F, fun p hp => N p (hs p hp), fun p hp => by
    rcases List.mem_cons.mp hp with rfl | hp
    · exact hoff (147, tabObj p1) (.head _)
    · rcases List.mem_cons.mp hp with rfl | hp
      · exact hoff (154, tabObj p2) (.tail _ (.head _))
      · exact hoff p (.tail _ (.tail _ hp)), ho, hdr, hm, hb, q1, q2, t, rfl, h1, h2, by rw [ht, hv]⟩
theorem told_lt {S : Str} {hd total : Int} {i : Nat} (h : i < 3) : toldOf S hd total i + wAt total i * ((List.map takenOf (colsOf S (wAt total i) hd)).sum.fmod 2) = toldOf S hd total (i + 1) := by
  show _ = if i < 3 then _ else _
  rw [if_pos h]
  rfl
theorem told_ge {S : Str} {hd total : Int} {i : Nat} (h : ¬ i < 3) : toldOf S hd total i = toldOf S hd total (i + 1) := by
  show _ = if i < 3 then _ else _
  rw [if_neg h]
end Mine
namespace Mine
theorem arrR3 {h₀ h : Heap} {L : Addr} {a1 a2 a3 a4 a5 a6 a7 a8 a9 b1 b2 : Addr × Obj} (N : News h₀ L h [a1, a2, a3, a4, a5, a6, a7, a8, a9, b1, b2]) : News h₀ L h [a8, a9, b1, b2, a7, a1, a2] := fun q hq => N q (by
  simp only [List.mem_cons, List.mem_nil_iff, or_false] at hq ⊢
  rcases hq with h | h | h | h | h | h | h <;> simp [h])
theorem list_ne_cell {h₀ h : Heap} {L a c : Addr} {ys : Array Value} {nn : Nat} {o : Obj} {v : Option Value} {news : List (Addr × Obj)} (N : News h₀ L h news) (h1 : (a, madeList ys nn) ∈ news) (h2 : (c, o) ∈ news) (hd : o.data = .cell v) : @Ne Nat a c :=
  ne_of_obj N h1 h2 fun e => by rw [← e] at hd; cases hd
end Mine
end
section
open PySem PySem.W PyProof.Rows PySem.Calls PySem.Spec
set_option Elab.async false
namespace Mine
noncomputable def othersOf (S : Str) (st : Int) : List Int := (coinsOf S).filter fun o => o != st
noncomputable def goesAt (S : Str) (pl st : Int) : Bool := Txt.item S pl ++ Txt.item S st == Str.ofString "ab"
noncomputable def reachedTo (S : Str) (st : Int) (j : Nat) : List Int := ((List.range j).filter fun (pl : Nat) => goesAt S (pl : Int) st).map fun (pl : Nat) => worthOf ((pl : Int) :: othersOf S st)
noncomputable def reachedOf (S : Str) : Nat → List Int
  | 0 => []
  | n + 1 => reachedOf S n ++ reachedTo S (n : Int) n
theorem reachedTo_len (S : Str) (st : Int) (j : Nat) : (reachedTo S st j).length ≤ j := by
  unfold reachedTo
  rw [List.length_map]
  refine Nat.le_trans (List.length_filter_le _ _) ?_
  rw [List.length_range]
  exact Nat.le_refl _
theorem reachedOf_len (S : Str) : ∀ n, n ≤ 8 → (reachedOf S n).length ≤ 8 * n
  | 0, _ => Nat.le_refl _
  | n + 1, h => by
    have h1 := reachedOf_len S n (by omega)
    have h2 := reachedTo_len S (n : Int) n
    show (reachedOf S n ++ reachedTo S (n : Int) n).length ≤ _
    rw [List.length_append]
    omega
theorem reachedTo_yes {S : Str} {st : Int} {j : Nat} (h : goesAt S (j : Int) st = true) : reachedTo S st (j + 1) = reachedTo S st j ++ [worthOf ((j : Int) :: othersOf S st)] := by
  unfold reachedTo
  rw [List.range_succ, List.filter_append, List.map_append]
  congr 1
  rw [List.filter_cons_of_pos (by simpa using h)]
  rfl
theorem reachedTo_no {S : Str} {st : Int} {j : Nat} (h : goesAt S (j : Int) st = false) : reachedTo S st (j + 1) = reachedTo S st j := by
  unfold reachedTo
  rw [List.range_succ, List.filter_append, List.map_append]
  rw [List.filter_cons_of_neg (by simp [h])]
  simp
noncomputable def st3 : List Str := [Str.ofString "part", Str.ofString "others", Str.ofString "place", Str.ofString "goes"]
inductive J3 (S : Str) (Rr : Addr) (m : Str → Option Value) (rest : List (Addr × Obj)) (i : Nat) (m' : Str → Option Value) (nx : List (Addr × Obj)) (g : Array GenState) : Prop where
  | mk (h1 : (∀ y, st3.contains y = false → m' y = m y)) (h2 : AllBare g) its nn (h3 : nx = (Rr, madeList its nn) :: rest) (h4 : IntsAre its.toList (reachedOf S i)) : J3 S Rr m rest i m' nx g
noncomputable def st4 : List Str := [Str.ofString "place", Str.ofString "goes"]
inductive J4 (S : Str) (st : Nat) (Rr : Addr) (m : Str → Option Value) (rest : List (Addr × Obj)) (j : Nat) (m' : Str → Option Value) (nx : List (Addr × Obj)) (g : Array GenState) : Prop where
  | mk (h1 : (∀ y, st4.contains y = false → m' y = m y)) (h2 : AllBare g) its nn (h3 : nx = (Rr, madeList its nn) :: rest) (h4 : IntsAre its.toList (reachedOf S st ++ reachedTo S (st : Int) j)) : J4 S st Rr m rest j m' nx g
theorem swapC {h₀ h : Heap} {L : Addr} {a b : Addr × Obj} {l : List (Addr × Obj)} (N : News h₀ L h (a :: b :: l)) : News h₀ L h (b :: a :: l) := fun q hq => N q (by
  simp only [List.mem_cons] at hq ⊢
  rcases hq with h | h | h <;> simp [h])
end Mine
namespace Mine
theorem keep_mapS {m m' : Str → Option Value} (hm : ∀ y, st3.contains y = false → m' y = m y) : m' = fun y => if st3.contains y then m' y else m y := keep_map hm
end Mine
namespace Mine
theorem sl8 {S : Str} (h : S.length = 8) (l u : Option Int) : (Txt.slice S l u).length ≤ 8 := h ▸ Txt.slice_le S l u
theorem len3 {a b c : Str} (ha : a.length ≤ 8) (hb : b.length ≤ 20) (hc : c.length ≤ 8) : (a ++ b ++ c).length ≤ 100 := by
  rw [Str.length_append, Str.length_append]; omega
end Mine
namespace Mine
theorem fmod_pos (total : Int) (i : Nat) : 0 ≤ total.fmod ((i : Int) + 1) ∧ total.fmod ((i : Int) + 1) ≤ (i : Int) := by
  rw [Int.fmod_eq_emod_of_nonneg _ (by omega)]
  have h1 := Int.emod_nonneg total (b := (i : Int) + 1) (by omega)
  have h2 := Int.emod_lt_of_pos total (b := (i : Int) + 1) (by omega)
  omega
end Mine
namespace Mine
theorem dropH {h₀ h : Heap} {L : Addr} {a : Addr × Obj} {l : List (Addr × Obj)} (N : News h₀ L h (a :: l)) : News h₀ L h l := fun q hq => N q (.tail _ hq)
theorem arrJ4 {h₀ h : Heap} {L : Addr} {a b c d : Addr × Obj} {l : List (Addr × Obj)} (N : News h₀ L h (a :: b :: c :: d :: l)) : News h₀ L h (d :: a :: b :: c :: l) := fun q hq => N q (by
  simp only [List.mem_cons] at hq ⊢
  rcases hq with h | h | h | h | h <;> simp [h])
theorem others_mem {S : Str} {st k : Int} (h : k ∈ othersOf S st) : 0 ≤ k ∧ k ≤ 7 := coins_mem (List.mem_filter.mp h).1
theorem others_le (S : Str) {st : Nat} (hs : st < 8) (hc : (coinsOf S).any (· == (st : Int)) = true ∨ True) : (othersOf S st).length ≤ 8 := Nat.le_trans (List.length_filter_le _ _) (coins_le S)
theorem range_to (i : Nat) : Builtin.Range.rangeSize 0 (i : Int) 1 = (i : Int) := by
  rw [rangeSize_nat]; omega
theorem item_len (S : Str) (k : Int) : (Txt.item S k).length = 1 := len_item S k
end Mine
namespace Mine
theorem goes_b {S : Str} {j i : Int} (h : goesAt S j i = true) : (Txt.item S i == Str.ofString "b") = true := by
  unfold goesAt at h
  have e := eq_of_beq h
  unfold Txt.item at e ⊢
  have e2 := congrArg Str.cps e
  have e3 : (#[(Txt.charAt S j).getD 0] ++ #[(Txt.charAt S i).getD 0] : Array Nat) = #[97, 98] := e2
  have e4 := congrArg Array.toList e3
  simp at e4
  rw [e4.2]
  decide
theorem goes_len {S : Str} {i : Nat} {j : Int} (hi : i < 8) (h : goesAt S j (i : Int) = true) : (othersOf S (i : Int)).length ≤ 7 := by
  have hb := goes_b h
  have hm : (i : Int) ∈ coinsOf S := by
    unfold coinsOf
    refine List.mem_filter.mpr ⟨List.mem_map.mpr ⟨i, List.mem_range.mpr hi, by omega⟩, hb⟩
  have hlt : (othersOf S (i : Int)).length < (coinsOf S).length := by
    unfold othersOf
    refine List.length_filter_lt_length_iff_exists.mpr ⟨_, hm, by simp⟩
  have := coins_le S
  omega
end Mine
namespace Mine
theorem ne_nat {a b : Addr} (h : @LT.lt Nat _ a b ∨ a ≠ b) : @Ne Nat b a := by
  intro e
  rcases h with h | h
  · have e : b = a := e
    rw [e] at h; exact absurd h (Nat.lt_irrefl _)
  · exact h e.symm
theorem arrAp {h₀ h : Heap} {L : Addr} {a b c d : Addr × Obj} {l : List (Addr × Obj)} (N : News h₀ L h (a :: b :: c :: d :: l)) : News h₀ L h (d :: c :: l) := fun q hq => N q (by
  simp only [List.mem_cons] at hq ⊢
  rcases hq with h | h | h <;> simp [h])
theorem J4_end {S : Str} {st : Nat} {Rr : Addr} {m m' : Str → Option Value} {rest all : List (Addr × Obj)} {j : Nat} {h₀ : Heap} {L I : Addr} {it : Obj} {s₁ s₃ : Shared} {itsQ its : Array Value} {nnQ nn : Nat} (F : Fr h₀ L s₃.heap m') (N : News h₀ L s₃.heap all) (hs : ∀ p ∈ (I, it) :: (Rr, madeList its nn) :: rest, p ∈ all)
    (hoff : ∀ p ∈ (Rr, madeList itsQ nnQ) :: rest, p.1 ≠ I) (hb : AllBare s₃.gens) (ho : s₃.os = s₁.os) (hdr : s₃.drawn = s₁.drawn) (hm : ∀ y, st4.contains y = false → m' y = m y) (hI : IntsAre its.toList (reachedOf S st ++ reachedTo S (st : Int) (j + 1))) :
    TurnEnds h₀ L I it (J4 S st Rr m rest (j + 1)) s₁ s₃ :=
  ⟨m', (Rr, madeList its nn) :: rest, F, fun p hp => N p (hs p hp), fun p hp => by
    rcases List.mem_cons.mp hp with rfl | hp
    · exact hoff (Rr, madeList itsQ nnQ) (.head _)
    · exact hoff p (.tail _ hp), ho, hdr, hm, hb, its, nn, rfl, hI⟩
theorem ints_yes {S : Str} {st : Nat} {j : Nat} {its : Array Value} {t : Tok} (h : goesAt S (j : Int) (st : Int) = true) (hI : IntsAre its.toList (reachedOf S st ++ reachedTo S (st : Int) j)) :
    IntsAre (its.push (.int (worthOf ([(j : Int)] ++ othersOf S (st : Int))) t)).toList (reachedOf S st ++ reachedTo S (st : Int) (j + 1)) := by
  rw [reachedTo_yes h, Array.toList_push, ← List.append_assoc]
  exact snocI hI
theorem ints_no {S : Str} {st : Nat} {j : Nat} {its : Array Value} (h : goesAt S (j : Int) (st : Int) = false) (hI : IntsAre its.toList (reachedOf S st ++ reachedTo S (st : Int) j)) : IntsAre its.toList (reachedOf S st ++ reachedTo S (st : Int) (j + 1)) := by
  rw [reachedTo_no h]; exact hI
theorem reached_size {S : Str} {st j : Nat} {its : Array Value} (hs : st < 8) (hj : j < st) (hI : IntsAre its.toList (reachedOf S st ++ reachedTo S (st : Int) j)) : its.size ≤ 1000 := by
  have h1 := hI.length
  rw [Array.length_toList, List.length_append] at h1
  have h2 := reachedOf_len S st (by omega)
  have h3 := reachedTo_len S (st : Int) j
  omega
end Mine
namespace Mine
theorem J3_end {S : Str} {Rr : Addr} {m m' : Str → Option Value} {rest all : List (Addr × Obj)} {i : Nat} {h₀ : Heap} {L I c : Addr} {it oc : Obj} {v : Option Value} {s₁ s₃ : Shared} {itsR its : Array Value} {nnR nn : Nat} (F : Fr h₀ L s₃.heap m') (N : News h₀ L s₃.heap all) (hs : ∀ p ∈ (I, it) :: (c, oc) :: (Rr, madeList its nn) :: rest, p ∈ all) (hoc : oc.data = .cell v)
    (hoff : ∀ p ∈ (Rr, madeList itsR nnR) :: rest, p.1 ≠ I ∧ p.1 ≠ c) (hb : AllBare s₃.gens) (ho : s₃.os = s₁.os) (hdr : s₃.drawn = s₁.drawn) (hm : ∀ y, st3.contains y = false → m' y = m y) (hI : IntsAre its.toList (reachedOf S i ++ reachedTo S (i : Int) i)) :
    TurnEndsC h₀ L I c it (J3 S Rr m rest (i + 1)) s₁ s₃ :=
  ⟨m', (Rr, madeList its nn) :: rest, oc, v, F, fun p hp => N p (hs p hp), hoc, fun p hp => by
    rcases List.mem_cons.mp hp with rfl | hp
    · exact hoff (Rr, madeList itsR nnR) (.head _)
    · exact hoff p (.tail _ hp), ho, hdr, hm, hb, its, nn, rfl, hI⟩
theorem paired_none {p : Value → Bool} : ∀ {vs ys : List Value}, (∀ v ∈ vs, p v = false) → Paired (fun v y => y = v) (vs.filter p) ys → ys = [] := by
  intro vs ys h hp
  rw [List.filter_eq_nil_iff.mpr (fun v hv => by rw [h v hv]; exact Bool.false_ne_true)] at hp
  cases hp
  rfl
end Mine
end
section
open PySem PySem.W PyProof.Rows PySem.Calls PySem.Spec
set_option Elab.async false
namespace Mine
section
variable {prog : Program} {w : World} {A : Around} {E : Value → Shared → Prop} {s : Shared} {h₀ : Heap} {L : Addr} {news : List (Addr × Obj)}
theorem item_wAt {value slice : PySem.Expr} {l : Addr} {vs : List Value} {nn i : Nat} {u : Tok} {total : Int} {Q : Value → Shared → Prop} (N : News h₀ L s.heap news) (hm : (l, listOf vs.toArray nn) ∈ news)
    (hI : IntsAre vs [1, 2, 4, ([3, 5, 6, 7] : List Int).getD ((total.fdiv 2).fmod 4).toNat 0]) (hi : i < 4) (h : ∀ t, Q (.int (wAt total i) t) s)
    (hs : subscripted slice false (.ref l) (.int ((0 : Int) + (i : Int) * 1) u) = operate [.ref l, .int ((0 : Int) + (i : Int) * 1) u] (getItem (.ref l) (.int ((0 : Int) + (i : Int) * 1) u)) := by with_unfolding_all rfl) :
    wpAny (model prog w) A (subscriptTail value slice (.ref l) (.int ((0 : Int) + (i : Int) * 1) u)) Q E s := by
  refine item_ints N hm hI (by omega) (by simp; omega) (by omega) ?_ hs
  intro t
  have e : ((0 : Int) + (i : Int) * 1).toNat = i := by omega
  rw [e]
  exact h t
end
end Mine
namespace Mine
theorem hnc_of {R D n : Nat} {o1 o2 o3 o4 o5 o6 o7 : PySem.Obj} (h1 : R ≠ n + 1 + 1 + 1 + 1) (hD : D ≠ n + 1 + 1 + 1 + 1) (ha : 147 < n) (hb : 154 < n) : ∀ p ∈ ([(R, o1), (n + 1 + 1 + 1, o2), (n + 1 + 1, o3), (n + 1, o4), (D, o5), (147, o6), (154, o7)] : List (PySem.Addr × PySem.Obj)), p.1 ≠ n + 1 + 1 + 1 + 1 := by
  intro p hp
  simp only [List.mem_cons, List.mem_nil_iff, or_false] at hp
  rcases hp with rfl | rfl | rfl | rfl | rfl | rfl | rfl
  · exact h1
  · exact (by omega : n + 1 + 1 + 1 ≠ n + 1 + 1 + 1 + 1)
  · exact (by omega : n + 1 + 1 ≠ n + 1 + 1 + 1 + 1)
  · exact (by omega : n + 1 ≠ n + 1 + 1 + 1 + 1)
  · exact hD
  · exact (by omega : 147 ≠ n + 1 + 1 + 1 + 1)
  · exact (by omega : 154 ≠ n + 1 + 1 + 1 + 1)
end Mine
namespace Mine
theorem hpa_of {R I4 D I3 n Dc : Nat} {o1 o2 o3 o4 o5 o6 o7 o8 o9 o10 : PySem.Obj} (h1 : R < I4) (h2 : D ≠ R) (h3 : R < I3) (h4 : n + 1 + 1 + 1 + 1 < R ∧ n + 1 + 1 + 1 < R ∧ n + 1 + 1 < R ∧ n + 1 < R ∧ Dc < R ∧ 147 < R ∧ 154 < R) : ∀ p ∈ ([(I4, o1), (D, o2), (I3, o3), (n + 1 + 1 + 1 + 1, o4), (n + 1 + 1 + 1, o5), (n + 1 + 1, o6), (n + 1, o7), (Dc, o8), (147, o9), (154, o10)] : List (PySem.Addr × PySem.Obj)), p.1 ≠ R := by
  obtain ⟨q1, q2, q3, q4, q5, q6, q7⟩ := h4
  intro p hp
  simp only [List.mem_cons, List.mem_nil_iff, or_false] at hp
  rcases hp with rfl | rfl | rfl | rfl | rfl | rfl | rfl | rfl | rfl | rfl
  · exact (Nat.ne_of_gt h1)
  · exact h2
  · exact (Nat.ne_of_gt h3)
  · exact (Nat.ne_of_lt q1)
  · exact (Nat.ne_of_lt q2)
  · exact (Nat.ne_of_lt q3)
  · exact (Nat.ne_of_lt q4)
  · exact (Nat.ne_of_lt q5)
  · exact (Nat.ne_of_lt q6)
  · exact (Nat.ne_of_lt q7)
end Mine
end
section
open PySem PySem.W PyProof.Rows PySem.Calls PySem.Spec
set_option Elab.async false
namespace Mine
section
variable {M : Model} {A : Around} {s s₁ : Shared} {E : Value → Shared → Prop} {t : Sem Flow} {Q : Flow → Shared → Prop} {h₀ : Heap} {L I c : Addr} {it : Obj} {J : (Str → Option Value) → List (Addr × Obj) → Array GenState → Prop}
/-- what comes behind a block is left out of sight while the block is walked -/
theorem absQ (R : (Flow → Shared → Prop) → Prop) (hR : R Q) (h : ∀ P : Flow → Shared → Prop, R P → wpAny M A t P (fun _ _ => False) s) : wpAny M A t Q E s := wpAny_noRaise (h Q hR)
theorem absT (h : ∀ P : Flow → Shared → Prop, (∀ s₃, TurnEnds h₀ L I it J s₁ s₃ → P .next s₃) → wpAny M A t P (fun _ _ => False) s) : wpAny M A t (TurnIs h₀ L I it J Q s₁) E s := wpAny_noRaise (h _ fun _ h => h)
theorem absTC (h : ∀ P : Flow → Shared → Prop, (∀ s₃, TurnEndsC h₀ L I c it J s₁ s₃ → P .next s₃) → wpAny M A t P (fun _ _ => False) s) : wpAny M A t (TurnIsC h₀ L I c it J Q s₁) E s := wpAny_noRaise (h _ fun _ h => h)
/-- the state of the run said afresh: a heap and a ledger over a state at rest -/
theorem stNorm {α : Type} {t : Sem α} {Q : α → Shared → Prop} {s₀ : Shared} (h : Heap) (e1 : s.heap = h) (e2 : s.gens = s₀.gens) (e3 : s.drawn = s₀.drawn) (e4 : s.os = s₀.os) (H : ∀ k, wpAny M A t Q E { s₀ with heap := h, toks := k }) : wpAny M A t Q E s := by
  subst e1
  have := H s.toks
  obtain ⟨_, _, _, _, _⟩ := s
  obtain ⟨_, _, _, _, _⟩ := s₀
  cases e2; cases e3; cases e4
  exact this
end
theorem two_news {h₀ h : Heap} {L : Addr} {a b : Addr × Obj} {l : List (Addr × Obj)} (N : News h₀ L h l) (h1 : a ∈ l) (h2 : b ∈ l) : News h₀ L h [a, b] := fun q hq => by
  rcases List.mem_cons.mp hq with rfl | hq
  · exact N _ h1
  · rcases List.mem_cons.mp hq with rfl | hq
    · exact N _ h2
    · cases hq
end Mine
end
section
open PySem PySem.W PyProof.Rows PySem.Calls PySem.Spec
set_option Elab.async false
namespace Mine
noncomputable def tl (s : Str) : List Nat := s.cps.toList
theorem tl_len (s : Str) : (tl s).length = s.length := by unfold tl Str.length; rw [Array.length_toList]
theorem tl_app (a b : Str) : tl (a ++ b) = tl a ++ tl b := by
  unfold tl; rw [show (a ++ b).cps = a.cps ++ b.cps from rfl, Array.toList_append]
theorem tl_inj {a b : Str} (h : tl a = tl b) : a = b := Str.ext' (by unfold tl at h; exact Array.toList_inj.mp h)
theorem tl_beq (a b : Str) : (a == b) = (tl a == tl b) := by
  rw [Bool.eq_iff_iff, beq_iff_eq, beq_iff_eq]
  exact ⟨fun h => by rw [h], tl_inj⟩
theorem tl_empty : tl Str.empty = [] := rfl
theorem ble_dec (a b : Nat) : decide (a ≤ b) = Nat.ble a b := by
  rw [Bool.eq_iff_iff, decide_eq_true_iff, Nat.ble_eq]
noncomputable def pre : List Nat → List Nat → Bool
  | [], _ => true
  | _ :: _, [] => false
  | a :: r, b :: q => Nat.beq b a && pre r q
theorem pre_eq : ∀ y l : List Nat, (l.take y.length == y) = pre y l
  | [], l => by simp [pre]
  | a :: r, [] => by simp [pre]
  | a :: r, b :: q => by
    show ((b :: q.take r.length) == (a :: r)) = _
    rw [pre, ← pre_eq r q, List.cons_beq_cons]
    congr 1
    rw [Bool.eq_iff_iff, beq_iff_eq, Nat.beq_eq]
noncomputable def occL (y : List Nat) (ly hi : Nat) : Nat → List Nat → Nat → Nat → Nat → List Nat
  | 0, _, _, _, _ => []
  | n + 1, suf, i, free, lim =>
    bif Nat.ble 1 lim && (Nat.ble free i && (Nat.ble (i + ly) hi && pre y suf)) then i :: occL y ly hi n suf.tail (i + 1) (i + ly) (lim - 1) else occL y ly hi n suf.tail (i + 1) free lim
noncomputable def occA (x y : List Nat) (lo hi lim : Nat) : List Nat := occL y y.length hi (hi + 1 - lo) (x.drop lo) lo lo lim
theorem subAt_L (s sub : Str) (i : Nat) : Builtin.Str.subAt s sub i = pre (tl sub) ((tl s).drop i) := by
  rw [StrLaws.subAt_eq, ← tl_len]
  exact pre_eq _ _
open StrLaws in
theorem occ_L' (s sub : Str) (hi lim : Nat) : ∀ (n i : Nat) (F : Array Nat) (free : Nat), (Id.run (forIn (List.range' i n) (F, free) (occBody s sub hi lim))).fst.toList = F.toList ++ occL (tl sub) (tl sub).length hi n ((tl s).drop i) i free (lim - F.size)
  | 0, i, F, free => by simp [occL]
  | n + 1, i, F, free => by
    rw [List.range'_succ, List.forIn_cons]
    have e : (decide (((F.size < lim ∧ free ≤ i) ∧ i + sub.length ≤ hi) ∧ Builtin.Str.subAt s sub i = true)) = (Nat.ble 1 (lim - F.size) && (Nat.ble free i && (Nat.ble (i + (tl sub).length) hi && pre (tl sub) ((tl s).drop i)))) := by
      have h1 : (1 ≤ lim - F.size) = (F.size < lim) := by rw [eq_iff_iff]; omega
      rw [← ble_dec, ← ble_dec, ← ble_dec, tl_len]
      simp only [subAt_L, h1, Bool.decide_and, Bool.and_assoc, Bool.decide_eq_true]
    have i1 := occ_L' s sub hi lim n (i + 1) (F.push i) (i + sub.length)
    have i2 := occ_L' s sub hi lim n (i + 1) F free
    unfold occBody at i1 i2
    unfold occBody occL
    rw [← e]
    by_cases h : (((F.size < lim ∧ free ≤ i) ∧ i + sub.length ≤ hi) ∧ Builtin.Str.subAt s sub i = true)
    · rw [decide_eq_true h, if_pos h]
      refine Eq.trans i1 ?_
      rw [Array.toList_push, Array.size_push, List.append_assoc, List.tail_drop, tl_len, Nat.sub_sub]
      rfl
    · rw [decide_eq_false h, if_neg h]
      refine Eq.trans i2 ?_
      rw [List.tail_drop]
      rfl
theorem occ_A (s sub : Str) (lo hi lim : Nat) : Builtin.Str.occurrences s sub lo hi lim = occA (tl s) (tl sub) lo hi lim := by
  rw [StrLaws.occ_eq]
  exact (occ_L' s sub hi lim (hi + 1 - lo) lo #[] lo).trans rfl
noncomputable def find4L (x y : List Nat) (i j : Int) : Int := match occA x y (PySem.fromIndex x.length i) (min (PySem.fromIndex x.length j) x.length) 1 with | k :: _ => (k : Int) | [] => -1
theorem find4_L (x y : Str) (i j : Int) : find4 x y i j = find4L (tl x) (tl y) i j := by
  unfold find4 find4L
  rw [occ_A, tl_len]
  all_goals (cases occA (tl x) (tl y) (PySem.fromIndex x.length i) (min (PySem.fromIndex x.length j) x.length) 1 <;> rfl)
noncomputable def startsL (x y : List Nat) : Bool := Nat.ble y.length x.length && pre y x
noncomputable def endsL (x y : List Nat) : Bool := Nat.ble y.length x.length && pre y (x.drop (x.length - y.length))
theorem starts_L (x y : Str) : Txt.startswith x y = startsL (tl x) (tl y) := by
  unfold Txt.startswith startsL
  rw [StrLaws.subAt_eq, ← tl_len, ← tl_len, Nat.zero_add, ble_dec]
  show (_ && ((tl x).take (tl y).length == tl y)) = _
  rw [pre_eq]
theorem ends_L (x y : Str) : Txt.endswith x y = endsL (tl x) (tl y) := by
  unfold Txt.endswith endsL
  rw [StrLaws.subAt_eq, ← tl_len, ← tl_len, Nat.zero_add, ble_dec]
  show (_ && (((tl x).drop _).take (tl y).length == tl y)) = _
  rw [pre_eq]
noncomputable def emGoL (got : List Nat) (e : Int) : List (List Nat) → Int → Bool
  | [], _ => true
  | y :: ys, p => if find4L got y p e < 0 then false else emGoL got e ys (find4L got y p e + y.length)
theorem emGo_L (got : Str) (e : Int) : ∀ (ws : List Str) (p : Int), emGo got e ws p = emGoL (tl got) e (ws.map tl) p
  | [], _ => rfl
  | y :: ys, p => by
    rw [List.map_cons, emGo, emGoL, find4_L, tl_len, emGo_L got e ys]
theorem getD_tl (ws : List Str) (i : Nat) : tl (ws.getD i Str.empty) = (ws.map tl).getD i [] := by
  rw [List.getD_eq_getElem?_getD, List.getD_eq_getElem?_getD, List.getElem?_map]
  cases ws[i]? <;> rfl
theorem erase_tl : ∀ (ws : List Str) (i : Nat), (ws.eraseIdx i).map tl = (ws.map tl).eraseIdx i
  | [], _ => rfl
  | _ :: _, 0 => rfl
  | a :: r, i + 1 => by
    show tl a :: (r.eraseIdx i).map tl = tl a :: (r.map tl).eraseIdx i
    rw [erase_tl r i]
noncomputable def emBL (got : List Nat) (ws : List (List Nat)) (p : Int) : Bool :=
  if ((ws.getD (-1 + (ws.length : Int)).toNat []).length : Int) ≠ 0 then
    if endsL got (ws.getD (-1 + (ws.length : Int)).toNat []) = true then
      if (got.length : Int) - (ws.getD (-1 + (ws.length : Int)).toNat []).length < p then false
      else emGoL got ((got.length : Int) - (ws.getD (-1 + (ws.length : Int)).toNat []).length) (ws.eraseIdx (-1 + (ws.length : Int)).toNat) p
    else false
  else if (got.length : Int) < p then false else emGoL got got.length ws p
noncomputable def emAL (got : List Nat) (ws : List (List Nat)) : Bool :=
  if ((ws.getD (Int.toNat 0) []).length : Int) ≠ 0 then
    if startsL got (ws.getD (Int.toNat 0) []) = true then emBL got (ws.eraseIdx 0) (ws.getD (Int.toNat 0) []).length else false
  else emBL got ws 0
theorem emB_L (got : Str) (ws : List Str) (p : Int) : emB got ws p = emBL (tl got) (ws.map tl) p := by
  unfold emB emBL
  rw [ends_L, emGo_L, emGo_L, erase_tl, ← tl_len, ← tl_len, getD_tl, List.length_map]
theorem emA_L (got : Str) (ws : List Str) : emA got ws = emAL (tl got) (ws.map tl) := by
  unfold emA emAL
  rw [starts_L, emB_L, emB_L, erase_tl, ← tl_len, getD_tl]
noncomputable def partsL (x : List Nat) (w : Nat) : Nat → List Nat → List (List Nat)
  | a, [] => [(x.drop a).take (x.length - a)]
  | a, c :: r => (x.drop a).take (c - a) :: partsL x w (c + w) r
theorem parts_L (x : Str) (w : Nat) : ∀ (cs : List Nat) (a : Nat), (StrLaws.partsFrom x w a cs).map tl = partsL (tl x) w a cs
  | [], a => by
    show [tl (Builtin.Str.strSub x a x.length)] = _
    unfold tl; rw [StrLaws.strSub_toList]
    show _ = [((tl x).drop a).take ((tl x).length - a)]
    rw [tl_len]; rfl
  | c :: r, a => by
    show tl (Builtin.Str.strSub x a c) :: (StrLaws.partsFrom x w (c + w) r).map tl = _
    rw [parts_L x w r (c + w)]
    unfold tl; rw [StrLaws.strSub_toList]; rfl
noncomputable def splitL (x y : List Nat) : List (List Nat) :=
  if Nat.blt x.length y.length = true then [x] else
  if (occA x y 0 x.length (x.length + 1)).isEmpty = true then [x] else partsL x y.length 0 (occA x y 0 x.length (x.length + 1))
theorem split_L (x y : Str) (hk : Builtin.Str.strKind y = 1) : (Txt.split x y).map tl = splitL (tl x) (tl y) := by
  have hx : 1 ≤ Builtin.Str.strKind x := by unfold Builtin.Str.strKind; split <;> (try split) <;> omega
  have e : decide (Builtin.Str.strKind x < Builtin.Str.strKind y) = false := by rw [hk]; exact decide_eq_false (by omega)
  unfold Txt.split splitL
  rw [e, Bool.or_false, occ_A, StrLaws.partsBetween_eq, tl_len, tl_len]
  have e2 : (decide (x.length < y.length)) = Nat.blt x.length y.length := by
    show _ = Nat.ble (x.length + 1) y.length
    rw [← ble_dec]; rfl
  rw [e2]
  split
  · rfl
  · split
    · rfl
    · rw [parts_L]
noncomputable def dotsL : List Nat := [46, 46, 46]
theorem tl_dots : tl (Str.ofString "...") = dotsL := by decide +kernel
noncomputable def emL (want got : List Nat) : Bool :=
  if (occA want dotsL 0 want.length 1).isEmpty = true then want == got else emAL got (splitL want dotsL)
theorem em_L (want got : Str) : em want got = emL (tl want) (tl got) := by
  unfold em emL
  rw [occ_A, tl_dots, ← tl_len, tl_beq, emA_L, split_L _ _ (by decide +kernel), tl_dots]
noncomputable def allL : Nat → List (List Nat)
  | 0 => [[]]
  | n + 1 => (allL n).flatMap fun l => [97 :: l, 98 :: l]
theorem mem_allL : ∀ {n : Nat} {l : List Nat}, l.length = n → (∀ c ∈ l, c = 97 ∨ c = 98) → l ∈ allL n
  | 0, [], _, _ => List.mem_singleton.mpr rfl
  | n + 1, c :: r, h, hc => by
    refine List.mem_flatMap.mpr ⟨r, mem_allL (Nat.succ.inj h) fun x hx => hc x (List.mem_cons_of_mem _ hx), ?_⟩
    rcases hc c (List.mem_cons_self ..) with rfl | rfl
    · exact List.mem_cons_self ..
    · exact List.mem_cons_of_mem _ (List.mem_cons_self ..)
end Mine
end
section
open PySem PySem.W PyProof.Rows PySem.Calls PySem.Spec
set_option Elab.async false
namespace Mine
theorem tl_mk (l : List Nat) : tl ⟨l.toArray⟩ = l := rfl
theorem signs_eq (S : Str) : signs S = (tl S).map fun c => (⟨#[c]⟩ : Str) := rfl
theorem strip_all {S : Str} (h : StripOk 8 S) : tl S ∈ allL 8 := by
  refine mem_allL (by rw [tl_len]; exact h.1) fun c hc => ?_
  have h2 := h.2 ⟨#[c]⟩ (by rw [signs_eq]; exact List.mem_map.mpr ⟨c, hc, rfl⟩)
  have ea : tl (Str.ofString "a") = [97] := by decide +kernel
  have eb : tl (Str.ofString "b") = [98] := by decide +kernel
  rcases h2 with e | e
  · have := congrArg tl e; rw [ea] at this; exact .inl (List.cons.inj this).1
  · have := congrArg tl e; rw [eb] at this; exact .inr (List.cons.inj this).1
theorem slice_to {S : Str} {i : Int} (h0 : 0 ≤ i) (h1 : i ≤ (tl S).length) : tl (Txt.slice S none (some i)) = (tl S).take i.toNat := by
  have h := StrLaws.sliceText_to (x := S) ⟨h0, h1⟩
  have e : Txt.slice S none (some i) = StrLaws.sliceText S none (some i) := rfl
  rw [e, h, tl_mk, List.drop_zero, Int.sub_zero]; rfl
theorem slice_from {S : Str} {i : Int} (h0 : 0 ≤ i) (h1 : i ≤ (tl S).length) : tl (Txt.slice S (some i) none) = (tl S).drop i.toNat := by
  have h := StrLaws.sliceText_from (x := S) ⟨h0, h1⟩
  have e : Txt.slice S (some i) none = StrLaws.sliceText S (some i) none := rfl
  rw [e, h, tl_mk]
  refine List.take_of_length_le ?_
  rw [List.length_drop]
  show (tl S).length - i.toNat ≤ (((tl S).length : Int) - i).toNat
  omega
theorem slice_mid {S : Str} {i j : Int} (h0 : 0 ≤ i) (h1 : i ≤ j) (h2 : j ≤ (tl S).length) : tl (Txt.slice S (some i) (some j)) = ((tl S).drop i.toNat).take (j - i).toNat := by
  have h := StrLaws.sliceText_plain (x := S) ⟨h0, h1, h2⟩
  have e : Txt.slice S (some i) (some j) = StrLaws.sliceText S (some i) (some j) := rfl
  rw [e, h, tl_mk]; rfl
noncomputable def itemL (l : List Nat) (i : Int) : List Nat := [((PySem.seqIndex? i l.length).bind (l[·]?)).getD 0]
theorem item_L (S : Str) (i : Int) : tl (Txt.item S i) = itemL (tl S) i := by
  unfold Txt.item Txt.charAt itemL
  rw [tl_len]
  show [_] = [_]
  congr 3
  funext k
  exact (Array.getElem?_toList ..).symm
noncomputable def countL (x y : List Nat) : Int := ((occA x y 0 x.length (x.length + 1)).length : Nat)
theorem count_L (x y : Str) : Txt.count x y = countL (tl x) (tl y) := by
  unfold Txt.count countL
  rw [occ_A, tl_len]
noncomputable def interL (sep : List Nat) : List (List Nat) → List Nat
  | [] => []
  | x :: r => match r with
    | [] => x
    | _ :: _ => x ++ (sep ++ interL sep r)
theorem inter_L (sep : Str) : ∀ ps : List Str, tl (Str.join sep ps) = interL (tl sep) (ps.map tl)
  | [] => rfl
  | [x] => rfl
  | x :: y :: r => by
    show tl (x ++ sep ++ Str.join sep (y :: r)) = _
    rw [tl_app, tl_app, inter_L sep (y :: r), List.append_assoc]
    rfl
theorem glued_L (sep : Str) (ps : List Str) : tl (Builtin.Str.glued sep ps) = interL (tl sep) (ps.map tl) := by
  rw [StrLaws.glued_eq_join, inter_L]
theorem join_L (sep : Str) (ps : List Str) : tl (Txt.join sep ps) = interL (tl sep) (ps.map tl) := glued_L sep ps
noncomputable def replaceL (x y z : List Nat) : List Nat :=
  if (occA x y 0 x.length (x.length + 1)).isEmpty = true then x else interL z (partsL x y.length 0 (occA x y 0 x.length (x.length + 1)))
theorem replace_L (x y z : Str) (h : (y.length == 0) = false) : tl (Txt.replace x y z) = replaceL (tl x) (tl y) (tl z) := by
  unfold Txt.replace replaceL
  rw [h, Bool.false_and, Bool.or_false, occ_A, tl_len, tl_len]
  split
  · rfl
  · rw [glued_L, StrLaws.partsBetween_eq, parts_L]
noncomputable def mulL (x : List Nat) (n : Int) : List Nat := if n < 1 then [] else (List.replicate n.toNat x).flatten
theorem mul_fold : ∀ (n : Nat) (x a : Array Nat), ((List.replicate n x).foldl (· ++ ·) a).toList = a.toList ++ (List.replicate n x.toList).flatten
  | 0, x, a => by simp
  | n + 1, x, a => by
    rw [List.replicate_succ, List.foldl_cons, mul_fold n x, Array.toList_append, List.replicate_succ, List.flatten_cons, List.append_assoc]
theorem mul_L (x : Str) (n : Int) : tl (Txt.mul x n) = mulL (tl x) n := by
  unfold Txt.mul mulL
  split
  · rfl
  · rename_i h
    split
    · rename_i h2
      rcases Bool.or_eq_true_iff.mp h2 with h3 | h3
      · rw [beq_iff_eq] at h3
        subst h3
        show _ = (List.replicate 1 (tl x)).flatten
        simp
      · have h4 : tl x = [] := List.length_eq_zero_iff.mp (by rw [tl_len]; exact beq_iff_eq.mp h3)
        rw [h4]; simp
    · show ((List.replicate n.toNat x.cps).foldl (· ++ ·) #[]).toList = _
      rw [mul_fold]; rfl
noncomputable def wantL (many more : Int) : List Nat := dotsL ++ mulL [97, 97, 46, 46, 46] many ++ mulL [98, 98, 46, 46, 46] more
theorem want_L (a b : Int) : tl (wantOf a b) = wantL a b := by
  unfold wantOf wantL
  rw [tl_app, tl_app, mul_L, mul_L, tl_dots]
  have e1 : tl (Str.ofString "aa...") = [97, 97, 46, 46, 46] := by decide +kernel
  have e2 : tl (Str.ofString "bb...") = [98, 98, 46, 46, 46] := by decide +kernel
  rw [e1, e2]
theorem tl_a : tl (Str.ofString "a") = [97] := by decide +kernel
theorem tl_b : tl (Str.ofString "b") = [98] := by decide +kernel
noncomputable def twiceL (c : List Nat) : List Nat := replaceL (replaceL c [97] [97, 97]) [98] [98, 98]
theorem twice_L (c : Str) : tl (twiceOf c) = twiceL (tl c) := by
  unfold twiceOf twiceL
  have e1 : tl (Str.ofString "aa") = [97, 97] := by decide +kernel
  have e2 : tl (Str.ofString "bb") = [98, 98] := by decide +kernel
  rw [replace_L _ _ _ (by decide +kernel), replace_L _ _ _ (by decide +kernel), e1, e2, tl_a, tl_b]
noncomputable def tkOneL (tw : List Nat) (many c more : Int) : Int := if emL (wantL many more) tw = true then c + 1 else c
noncomputable def takenL (c : List Nat) : Int := (rangeKs 1 (countL c [97] + 1 - 1).toNat).foldl (fun n many => (rangeKs 1 (countL c [98] + 1 - 1).toNat).foldl (tkOneL (twiceL c) many) n) 0
theorem taken_L (c : Str) : takenOf c = takenL (tl c) := by
  unfold takenOf takenL
  rw [count_L, count_L, tl_a, tl_b]
  congr 1
  funext n many
  unfold tkIn
  congr 1
  funext c' more
  unfold tkOne tkOneL
  rw [em_L, want_L, twice_L]
noncomputable def pairsGo : List Nat → Nat → Nat → Nat
  | [], _, n => n
  | c :: r, a, n => bif Nat.beq c 97 then pairsGo r (a + 1) n else pairsGo r a (n + a)
noncomputable def pairsL (c : List Nat) : Nat := pairsGo c 0 0
noncomputable def coinsL (l : List Nat) : List Int := ((List.range 8).map fun (i : Nat) => (0 : Int) + (i : Int) * 1).filter fun k => itemL l k == [98]
theorem coins_L (S : Str) : coinsOf S = coinsL (tl S) := by
  unfold coinsOf coinsL
  congr 1
  funext k
  rw [tl_beq, item_L, tl_b]
noncomputable def leadPartL (hd k : Int) : List Nat := mulL [32] (k + hd) ++ [9]
noncomputable def leadL (l : List Nat) (hd : Int) : List Nat := interL [] ((coinsL l).map (leadPartL hd)) ++ [32, 32, 120, 32, 9]
theorem lead_L (S : Str) (hd : Int) : tl (leadOf S hd) = leadL (tl S) hd := by
  unfold leadOf leadL
  have e1 : tl (Str.ofString "") = [] := by decide +kernel
  have e2 : tl (Str.ofString "  x \t") = [32, 32, 120, 32, 9] := by decide +kernel
  rw [tl_app, join_L, e1, e2, List.map_map, coins_L]
  congr 2
  refine List.map_congr_left fun k _ => ?_
  show tl (leadPart hd k) = leadPartL hd k
  unfold leadPart leadPartL
  have e3 : tl (Str.ofString " ") = [32] := by decide +kernel
  have e4 : tl (Str.ofString "\t") = [9] := by decide +kernel
  rw [tl_app, mul_L, e3, e4]
noncomputable def wsGoL : List Nat → Int → Int → Int → List Int → Int × Int × Int × List Int
  | [], b, n, nt, cs => (b, n, nt, cs)
  | ch :: r, b, n, nt, cs =>
    if ([ch] == [32]) = true then wsGoL r (b + 1) (n + 1) nt cs
    else if ([ch] == [9]) = true then wsGoL r 0 (n + 1) (nt + 1) (wsBump (if (cs.length : Int) ≤ b then cs ++ List.replicate (b - cs.length + 1).toNat 0 else cs) b)
    else (b, n, nt, cs)
theorem wsGo_L : ∀ (l : List Nat) (b n nt : Int) (cs : List Int), wsGo (l.map fun c => (⟨#[c]⟩ : Str)) b n nt cs = wsGoL l b n nt cs
  | [], _, _, _, _ => rfl
  | ch :: r, b, n, nt, cs => by
    have e3 : tl (Str.ofString " ") = [32] := by decide +kernel
    have e4 : tl (Str.ofString "\t") = [9] := by decide +kernel
    rw [List.map_cons, wsGo, wsGoL, wsGo_L r, wsGo_L r, tl_beq, tl_beq, e3, e4]
    rfl
noncomputable def lineL (ps : List (List Nat)) : List Nat := interL [] (ps.map fun p => interL [] [[32], p])
theorem line_L (ps : List Str) : tl (lineText ps) = lineL (ps.map tl) := by
  unfold lineText lineL
  have e1 : tl (Str.ofString "") = [] := by decide +kernel
  have e3 : tl (Str.ofString " ") = [32] := by decide +kernel
  rw [join_L, e1, List.map_map, List.map_map]
  congr 1
  refine List.map_congr_left fun k _ => ?_
  show tl (Txt.join (Str.ofString "") [Str.ofString " ", k]) = interL [] [[32], tl k]
  rw [join_L, e1, List.map_cons, List.map_cons, e3]
  rfl
noncomputable def pstepL (mx : Int) (st : List (List Nat) × Int × List (List Nat)) (c : List Nat) : List (List Nat) × Int × List (List Nat) :=
  if st.2.1 + 2 * ((st.1.length : Int) + 1) ≤ mx then (st.1 ++ [c], st.2.1, st.2.2) else ([c], 0, st.2.2 ++ [lineL st.1])
noncomputable def stL (st : PSt) : List (List Nat) × Int × List (List Nat) := (st.1.map tl, st.2.1, st.2.2.map tl)
theorem pstep_L (mx : Int) (st : PSt) (c : Str) : stL (pstep mx st c) = pstepL mx (stL st) (tl c) := by
  unfold pstep pstepL stL
  rw [List.length_map]
  split
  · rw [List.map_append]; rfl
  · rw [List.map_append, ← line_L]; rfl
theorem pfold_L (mx : Int) : ∀ (l : List Nat) (st : PSt), stL ((l.map fun c => (⟨#[c]⟩ : Str)).foldl (pstep mx) st) = (l.map fun c => [c]).foldl (pstepL mx) (stL st)
  | [], _ => rfl
  | c :: r, st => by
    rw [List.map_cons, List.foldl_cons, pfold_L mx r, pstep_L]
    rfl
noncomputable def pageL (l : List Nat) (wd hd : Int) : List (List Nat) × Int × List (List Nat) := (l.map fun c => [c]).foldl (pstepL (2 * wd)) ([], 2 * hd, [])
theorem page_L (S : Str) (wd hd : Int) : stL (pageOf S wd hd) = pageL (tl S) wd hd := pfold_L _ _ _
noncomputable def rowsTextL (l : List Nat) (wd hd : Int) : List Nat := mulL [32, 32] hd ++ interL [124] ((pageL l wd hd).2.2 ++ [lineL (pageL l wd hd).1])
theorem rowsText_L (S : Str) (wd hd : Int) : tl (rowsText S wd hd) = rowsTextL (tl S) wd hd := by
  unfold rowsText rowsTextL
  have e1 : tl (Str.ofString "  ") = [32, 32] := by decide +kernel
  have e2 : tl (Str.ofString "|") = [124] := by decide +kernel
  rw [tl_app, mul_L, join_L, e1, e2, ← page_L, List.map_append, List.map_cons, line_L]
  rfl
noncomputable def rowsL (l : List Nat) (wd hd : Int) : List (List Nat) := splitL (rowsTextL l wd hd) [124]
theorem rows_L (S : Str) (wd hd : Int) : (rowsOf S wd hd).map tl = rowsL (tl S) wd hd := by
  unfold rowsOf rowsL
  have e2 : tl (Str.ofString "|") = [124] := by decide +kernel
  rw [split_L _ _ (by decide +kernel), rowsText_L, e2]
noncomputable def colL (rows : List (List Nat)) (k : Int) : List Nat := interL [] ((rows.filter fun r => decide (2 * k + 1 < (r.length : Int))).map fun r => itemL r (2 * k + 1))
theorem col_L (rows : List Str) (k : Int) : tl (colAt rows k) = colL (rows.map tl) k := by
  unfold colAt colL
  have e1 : tl (Str.ofString "") = [] := by decide +kernel
  rw [join_L, e1, List.map_map, List.filter_map, List.map_map]
  have e : ((fun r : List Nat => decide (2 * k + 1 < (r.length : Int))) ∘ tl) = fun r : Str => decide (2 * k + 1 < (r.length : Int)) := by
    funext r; show decide (2 * k + 1 < ((tl r).length : Int)) = _; rw [tl_len]
  rw [e]
  congr 1
  refine List.map_congr_left fun r _ => item_L r _
noncomputable def colsL (l : List Nat) (wd hd : Int) : List (List Nat) := (List.range wd.toNat).map fun (i : Nat) => colL (rowsL l wd hd) (i : Int)
theorem cols_L (S : Str) (wd hd : Int) : (colsOf S wd hd).map tl = colsL (tl S) wd hd := by
  unfold colsOf colsL
  rw [List.map_map]
  refine List.map_congr_left fun i _ => ?_
  show tl (colAt (rowsOf S wd hd) i) = _
  rw [col_L, rows_L]
noncomputable def aboveInL (c : Int) (y : List Nat) : Int := c + (countL y [98] * (countL y [98] - 1)).fdiv 2
theorem aboveIn_L : ∀ (ys : List Str) (c : Int), ys.foldl aboveIn c = (ys.map tl).foldl aboveInL c
  | [], _ => rfl
  | y :: r, c => by
    rw [List.map_cons, List.foldl_cons, List.foldl_cons, aboveIn_L r]
    unfold aboveIn aboveInL
    rw [count_L, tl_b]
noncomputable def aboveL (cols : List (List Nat)) (hd : Int) : Int := cols.foldl aboveInL (hd * countL (cols.getD 0 []) [98])
theorem above_L (S : Str) (wd hd : Int) : aboveOf S wd hd = aboveL (colsL (tl S) wd hd) hd := by
  unfold aboveOf aboveL
  rw [aboveIn_L, cols_L, count_L, getD_tl, cols_L, tl_b]
noncomputable def goesL (l : List Nat) (pl st : Int) : Bool := itemL l pl ++ itemL l st == [97, 98]
theorem goes_L (S : Str) (pl st : Int) : goesAt S pl st = goesL (tl S) pl st := by
  unfold goesAt goesL
  have e : tl (Str.ofString "ab") = [97, 98] := by decide +kernel
  rw [tl_beq, tl_app, item_L, item_L, e]
end Mine
end
section
open PySem PySem.W PyProof.Rows PySem.Calls PySem.Spec
set_option Elab.async false
namespace Mine
theorem occ_zero (y : List Nat) (ly hi : Nat) : ∀ (n : Nat) (s : List Nat) (i free : Nat), occL y ly hi n s i free 0 = []
  | 0, _, _, _ => rfl
  | n + 1, s, i, free => by
    rw [occL]
    exact occ_zero y ly hi n _ _ _
theorem occ_free {h : Nat} {t : List Nat} {ly hi : Nat} : ∀ (p : List Nat), (∀ c ∈ p, c ≠ h) → ∀ (n : Nat) (s : List Nat) (i free lim : Nat), occL (h :: t) ly hi (p.length + n) (p ++ s) i free lim = occL (h :: t) ly hi n s (i + p.length) free lim
  | [], _, n, s, i, free, lim => by rw [List.length_nil, Nat.zero_add, List.nil_append, Nat.add_zero]
  | c :: r, hp, n, s, i, free, lim => by
    have e : Nat.beq c h = false := by
      cases hb : Nat.beq c h with
      | false => rfl
      | true => exact absurd (Nat.eq_of_beq_eq_true hb) (hp c (List.mem_cons_self ..))
    have e2 : (c :: r).length + n = (r.length + n) + 1 := by rw [List.length_cons]; omega
    rw [e2, occL]
    have e3 : pre (h :: t) (c :: r ++ s) = false := by rw [List.cons_append, pre, e, Bool.false_and]
    rw [e3, Bool.and_false, Bool.and_false, Bool.and_false, cond_false]
    have ih := occ_free (ly := ly) (hi := hi) (t := t) r (fun x hx => hp x (List.mem_cons_of_mem _ hx)) n s (i + 1) free lim
    rw [List.cons_append, List.tail_cons, ih, List.length_cons]
    congr 1
    omega
theorem occ_skip (y : List Nat) (ly hi : Nat) : ∀ (k n : Nat) (s : List Nat) (i lim : Nat), occL y ly hi (k + n) s i (i + k) lim = occL y ly hi n (s.drop k) (i + k) (i + k) lim
  | 0, n, s, i, lim => by rw [Nat.zero_add]; rfl
  | k + 1, n, s, i, lim => by
    have e : k + 1 + n = (k + n) + 1 := by omega
    have e2 : Nat.ble (i + (k + 1)) i = false := by
      cases hb : Nat.ble (i + (k + 1)) i with
      | false => rfl
      | true => have := Nat.le_of_ble_eq_true hb; omega
    have e3 : i + (k + 1) = (i + 1) + k := by omega
    rw [e, occL, e2, Bool.false_and, Bool.and_false, cond_false, e3, occ_skip y ly hi k n s.tail (i + 1) lim]
    cases s with
    | nil => rw [List.tail_nil, List.drop_nil, List.drop_nil]
    | cons a r => rfl
theorem pre_app : ∀ y s : List Nat, pre y (y ++ s) = true
  | [], _ => rfl
  | a :: r, s => by
    rw [List.cons_append, pre, pre_app r s, Nat.beq_refl]; rfl
noncomputable def cutsL (ly : Nat) : Nat → List (List Nat) → List Nat
  | _, [] => []
  | i, p :: r => match r with
    | [] => []
    | _ :: _ => (i + p.length) :: cutsL ly (i + p.length + ly) r
theorem ble_true {a b : Nat} (h : a ≤ b) : Nat.ble a b = true := Nat.ble_eq.mpr h
theorem occ_inter {h : Nat} {t : List Nat} : ∀ (ps : List (List Nat)), ps ≠ [] → (∀ p ∈ ps, ∀ c ∈ p, c ≠ h) → ∀ (i free lim : Nat), free ≤ i →
    occL (h :: t) (t.length + 1) (i + (interL (h :: t) ps).length) ((interL (h :: t) ps).length + 1) (interL (h :: t) ps) i free lim = (cutsL (t.length + 1) i ps).take lim
  | [], hn, _, _, _, _, _ => absurd rfl hn
  | [p], _, hp, i, free, lim, hf => by
    show occL (h :: t) (t.length + 1) (i + p.length) (p.length + 1) p i free lim = ([] : List Nat).take lim
    have := occ_free (ly := t.length + 1) (hi := i + p.length) (t := t) p (hp p (List.mem_cons_self ..)) 1 [] i free lim
    rw [List.append_nil] at this
    rw [this, occL, pre, Bool.and_false, Bool.and_false, Bool.and_false, cond_false, occL, List.take_nil]
  | p :: q :: r, _, hp, i, free, lim, hf => by
    have ih := occ_inter (h := h) (t := t) (q :: r) (by simp) (fun x hx => hp x (List.mem_cons_of_mem _ hx)) (i + p.length + (t.length + 1)) (i + p.length + (t.length + 1)) (lim - 1) (Nat.le_refl _)
    have ei : interL (h :: t) (p :: q :: r) = p ++ ((h :: t) ++ interL (h :: t) (q :: r)) := rfl
    have el : (interL (h :: t) (p :: q :: r)).length = p.length + (t.length + 1 + (interL (h :: t) (q :: r)).length) := by rw [ei]; simp; omega
    have en : (interL (h :: t) (p :: q :: r)).length + 1 = p.length + ((t.length + ((interL (h :: t) (q :: r)).length + 1)) + 1) := by rw [el]; omega
    have eh : i + (interL (h :: t) (p :: q :: r)).length = i + p.length + (t.length + 1) + (interL (h :: t) (q :: r)).length := by rw [el]; omega
    rw [en, eh, ei, occ_free p (hp p (List.mem_cons_self ..))]
    cases lim with
    | zero => rw [occ_zero, List.take_zero]
    | succ l =>
      rw [occL, pre_app, ble_true (show 1 ≤ l + 1 by omega), ble_true (show free ≤ i + p.length by omega), ble_true (show i + p.length + (t.length + 1) ≤ i + p.length + (t.length + 1) + (interL (h :: t) (q :: r)).length by omega)]
      show (i + p.length) :: occL (h :: t) (t.length + 1) _ (t.length + ((interL (h :: t) (q :: r)).length + 1)) (t ++ interL (h :: t) (q :: r)) (i + p.length + 1) (i + p.length + (t.length + 1)) (l + 1 - 1) = (i + p.length) :: (cutsL (t.length + 1) (i + p.length + (t.length + 1)) (q :: r)).take l
      congr 1
      have e5 : i + p.length + (t.length + 1) = (i + p.length + 1) + t.length := by omega
      have e6 : (t ++ interL (h :: t) (q :: r)).drop t.length = interL (h :: t) (q :: r) := List.drop_left ..
      rw [Nat.add_sub_cancel] at ih ⊢
      rw [e5] at ih ⊢
      rw [occ_skip, e6]
      exact ih
theorem parts_cuts {y : List Nat} (x : List Nat) : ∀ (ps : List (List Nat)) (a : Nat), ps ≠ [] → x.drop a = interL y ps → partsL x y.length a (cutsL y.length a ps) = ps
  | [], _, hn, _ => absurd rfl hn
  | [p], a, _, h => by
    show [(x.drop a).take (x.length - a)] = [p]
    have h2 : x.drop a = p := h
    rw [← List.length_drop, h2, List.take_length]
  | p :: q :: r, a, _, h => by
    have h2 : x.drop a = p ++ (y ++ interL y (q :: r)) := h
    show (x.drop a).take (a + p.length - a) :: partsL x y.length (a + p.length + y.length) (cutsL y.length (a + p.length + y.length) (q :: r)) = _
    have e : x.drop (a + p.length + y.length) = interL y (q :: r) := by
      rw [← List.drop_drop, ← List.drop_drop, h2, List.drop_left, List.drop_left]
    rw [parts_cuts x (q :: r) _ (by simp) e, h2, Nat.add_sub_cancel_left, List.take_left]
theorem split_inter {h : Nat} {t : List Nat} {ps : List (List Nat)} (hn : ps ≠ []) (hp : ∀ p ∈ ps, ∀ c ∈ p, c ≠ h) : splitL (interL (h :: t) ps) (h :: t) = ps := by
  have ho : ∀ lim, occA (interL (h :: t) ps) (h :: t) 0 (interL (h :: t) ps).length lim = (cutsL (t.length + 1) 0 ps).take lim := by
    intro lim
    have := occ_inter (h := h) (t := t) ps hn hp 0 0 lim (Nat.le_refl _)
    unfold occA
    rw [Nat.zero_add] at this
    exact this
  unfold splitL
  rw [ho]
  cases ps with
  | nil => exact absurd rfl hn
  | cons p r => cases r with
    | nil =>
      show (if _ then [p] else if ([] : List Nat).isEmpty = true then [p] else _) = [p]
      split
      · rfl
      · rfl
    | cons q r =>
      have el : (interL (h :: t) (p :: q :: r)).length = p.length + (t.length + 1 + (interL (h :: t) (q :: r)).length) := by
        show (p ++ ((h :: t) ++ interL (h :: t) (q :: r))).length = _
        simp; omega
      have hc : ∀ (ps : List (List Nat)) (a : Nat), (cutsL (t.length + 1) a ps).length ≤ (interL (h :: t) ps).length := by
        intro ps
        induction ps with
        | nil => intro a; exact Nat.le_refl _
        | cons p r ih => cases r with
          | nil => intro a; exact Nat.zero_le _
          | cons q r =>
            intro a
            have := ih (a + p.length + (t.length + 1))
            show (cutsL (t.length + 1) (a + p.length + (t.length + 1)) (q :: r)).length + 1 ≤ (p ++ ((h :: t) ++ interL (h :: t) (q :: r))).length
            simp
            omega
      have hb : Nat.blt (interL (h :: t) (p :: q :: r)).length (h :: t).length = false := by
        cases hb : Nat.blt (interL (h :: t) (p :: q :: r)).length (h :: t).length with
        | false => rfl
        | true => have := Nat.le_of_ble_eq_true hb; rw [el, List.length_cons] at this; omega
      rw [hb, List.take_of_length_le (Nat.le_succ_of_le (hc _ _))]
      show (if false = true then _ else if (_ :: _ : List Nat).isEmpty = true then _ else partsL _ (h :: t).length 0 (cutsL (h :: t).length 0 (p :: q :: r))) = _
      rw [if_neg (by decide), if_neg (by simp), parts_cuts _ _ _ (by simp) rfl]
theorem em_inter {p q : List Nat} {r : List (List Nat)} (hp : ∀ x ∈ p :: q :: r, ∀ c ∈ x, c ≠ 46) (got : List Nat) : emL (interL dotsL (p :: q :: r)) got = emAL got (p :: q :: r) := by
  unfold emL
  have ho := occ_inter (h := 46) (t := [46, 46]) (p :: q :: r) (by simp) hp 0 0 1 (Nat.le_refl _)
  have e : (occA (interL dotsL (p :: q :: r)) dotsL 0 (interL dotsL (p :: q :: r)).length 1).isEmpty = false := by
    unfold occA
    rw [Nat.zero_add] at ho
    refine Eq.trans (congrArg List.isEmpty ho) ?_
    rfl
  rw [e, if_neg (by decide)]
  exact congrArg (emAL got) (split_inter (h := 46) (t := [46, 46]) (by simp) hp)
noncomputable def cntL (x : Nat) : List Nat → Nat
  | [] => 0
  | c :: r => bif Nat.beq c x then cntL x r + 1 else cntL x r
theorem occ_cnt (x : Nat) : ∀ (s : List Nat) (i free lim : Nat), free ≤ i → s.length ≤ lim → (occL [x] 1 (i + s.length) (s.length + 1) s i free lim).length = cntL x s
  | [], i, free, lim, _, _ => by
    rw [List.length_nil, occL, pre, Bool.and_false, Bool.and_false, Bool.and_false, cond_false]; rfl
  | c :: r, i, free, lim, hf, hl => by
    have hl2 : r.length + 1 ≤ lim := hl
    rw [List.length_cons, occL, ble_true (show 1 ≤ lim by omega), ble_true hf, ble_true (show i + 1 ≤ i + (r.length + 1) by omega), cntL, List.tail_cons]
    have e : i + (r.length + 1) = (i + 1) + r.length := by omega
    rw [e]
    cases hb : Nat.beq c x with
    | true =>
      have : pre [x] (c :: r) = true := by rw [pre, hb]; rfl
      rw [this]
      show (occL [x] 1 _ _ r (i + 1) (i + 1) (lim - 1)).length + 1 = _
      rw [occ_cnt x r (i + 1) (i + 1) (lim - 1) (Nat.le_refl _) (by omega)]
      rfl
    | false =>
      have : pre [x] (c :: r) = false := by rw [pre, hb]; rfl
      rw [this]
      show (occL [x] 1 _ _ r (i + 1) free lim).length = _
      rw [occ_cnt x r (i + 1) free lim (by omega) (by omega)]
      rfl
theorem count_cnt (c : List Nat) (x : Nat) : countL c [x] = (cntL x c : Int) := by
  unfold countL occA
  have := occ_cnt x c 0 0 (c.length + 1) (Nat.le_refl _) (by omega)
  rw [Nat.zero_add] at this
  exact congrArg _ this
end Mine
end
section
open PySem PySem.W PyProof.Rows PySem.Calls PySem.Spec
set_option Elab.async false
namespace Mine
theorem inter_pre (s a : List Nat) : ∀ (x : List Nat) (r : List (List Nat)), a ++ interL s (x :: r) = interL s ((a ++ x) :: r)
  | x, [] => rfl
  | x, y :: r => by
    show a ++ (x ++ (s ++ interL s (y :: r))) = (a ++ x) ++ (s ++ interL s (y :: r))
    rw [List.append_assoc]
theorem inter_nil : ∀ ps : List (List Nat), interL [] ps = ps.flatten
  | [] => rfl
  | [x] => by simp [interL]
  | x :: y :: r => by
    show x ++ ([] ++ interL [] (y :: r)) = _
    rw [inter_nil (y :: r), List.nil_append, List.flatten_cons, List.flatten_cons, List.flatten_cons]
noncomputable def pageRows (l : List Nat) (wd hd : Int) : List (List Nat) := (pageL l wd hd).2.2 ++ [lineL (pageL l wd hd).1]
noncomputable def rowsD (l : List Nat) (wd hd : Int) : List (List Nat) := match pageRows l wd hd with
  | [] => []
  | x :: r => (mulL [32, 32] hd ++ x) :: r
theorem rows_D {l : List Nat} {wd hd : Int} (h : ∀ p ∈ rowsD l wd hd, ∀ c ∈ p, c ≠ 124) : rowsL l wd hd = rowsD l wd hd := by
  unfold rowsL rowsTextL
  show splitL (mulL [32, 32] hd ++ interL [124] (pageRows l wd hd)) [124] = _
  unfold rowsD at h ⊢
  cases e : pageRows l wd hd with
  | nil => unfold pageRows at e; simp at e
  | cons x r =>
    rw [e] at h
    rw [inter_pre]
    exact split_inter (h := 124) (t := []) (by simp) h
noncomputable def colsD (l : List Nat) (wd hd : Int) : List (List Nat) := (List.range wd.toNat).map fun (i : Nat) => colL (rowsD l wd hd) (i : Int)
theorem cols_D {l : List Nat} {wd hd : Int} (h : ∀ p ∈ rowsD l wd hd, ∀ c ∈ p, c ≠ 124) : colsL l wd hd = colsD l wd hd := by
  unfold colsL colsD
  rw [rows_D h]
noncomputable def rest8 (l : List Nat) : Prop := l.length = 8 ∧ ∀ c ∈ l, c = 97 ∨ c = 98
theorem page_in (mx : Int) (P : Nat → Prop) (h32 : P 32) : ∀ (cs : List (List Nat)) (st : List (List Nat) × Int × List (List Nat)), (∀ p ∈ cs, ∀ c ∈ p, P c) → (∀ p ∈ st.1, ∀ c ∈ p, P c) → (∀ p ∈ st.2.2, ∀ c ∈ p, P c) →
    (∀ p ∈ (cs.foldl (pstepL mx) st).1, ∀ c ∈ p, P c) ∧ (∀ p ∈ (cs.foldl (pstepL mx) st).2.2, ∀ c ∈ p, P c)
  | [], _, _, h1, h2 => ⟨h1, h2⟩
  | x :: r, st, hc, h1, h2 => by
    have hx := hc x (List.mem_cons_self ..)
    have hr : ∀ p ∈ r, ∀ c ∈ p, P c := fun p hp => hc p (List.mem_cons_of_mem _ hp)
    rw [List.foldl_cons]
    unfold pstepL
    split
    · refine page_in mx P h32 r _ hr (fun p hp => ?_) h2
      rcases List.mem_append.mp hp with hp | hp
      · exact h1 p hp
      · rw [List.mem_singleton.mp hp]; exact hx
    · refine page_in mx P h32 r _ hr (fun p hp => ?_) (fun p hp => ?_)
      · rw [List.mem_singleton.mp hp]; exact hx
      · rcases List.mem_append.mp hp with hp | hp
        · exact h2 p hp
        · rw [List.mem_singleton.mp hp]
          exact line_in P h32 h1
where
  line_in (P : Nat → Prop) (h32 : P 32) {ps : List (List Nat)} (h : ∀ p ∈ ps, ∀ c ∈ p, P c) : ∀ c ∈ lineL ps, P c := by
    intro c hc
    unfold lineL at hc
    rw [inter_nil] at hc
    obtain ⟨y, hy, hcy⟩ := List.mem_flatten.mp hc
    obtain ⟨p, hp, rfl⟩ := List.mem_map.mp hy
    rw [inter_nil] at hcy
    obtain ⟨z, hz, hcz⟩ := List.mem_flatten.mp hcy
    simp only [List.mem_cons, List.mem_nil_iff, or_false] at hz
    rcases hz with rfl | rfl
    · rw [List.mem_singleton.mp hcz]; exact h32
    · exact h _ hp c hcz
theorem mul_in {P : Nat → Prop} {x : List Nat} {n : Int} (h : ∀ c ∈ x, P c) : ∀ c ∈ mulL x n, P c := by
  intro c hc
  unfold mulL at hc
  split at hc
  · cases hc
  · obtain ⟨y, hy, hcy⟩ := List.mem_flatten.mp hc
    rw [List.eq_of_mem_replicate hy] at hcy
    exact h c hcy
theorem rows_in {l : List Nat} (wd hd : Int) (h : ∀ c ∈ l, c = 97 ∨ c = 98) : ∀ p ∈ rowsD l wd hd, ∀ c ∈ p, c ≠ 124 := by
  have hp : (∀ p ∈ (pageL l wd hd).1, ∀ c ∈ p, c ≠ 124) ∧ (∀ p ∈ (pageL l wd hd).2.2, ∀ c ∈ p, c ≠ 124) := by
    unfold pageL
    refine page_in (2 * wd) (fun c => c ≠ 124) (by decide) _ _ (fun p hp c hc => ?_) (fun p hp => nomatch hp) (fun p hp => nomatch hp)
    obtain ⟨x, hx, rfl⟩ := List.mem_map.mp hp
    rw [List.mem_singleton.mp hc]
    rcases h x hx with rfl | rfl <;> decide
  have hr : ∀ p ∈ pageRows l wd hd, ∀ c ∈ p, c ≠ 124 := by
    intro p hp2
    unfold pageRows at hp2
    rcases List.mem_append.mp hp2 with h2 | h2
    · exact hp.2 p h2
    · rw [List.mem_singleton.mp h2]
      exact page_in.line_in (fun c => c ≠ 124) (by decide) hp.1
  intro p hp2
  unfold rowsD at hp2
  cases e : pageRows l wd hd with
  | nil => rw [e] at hp2; cases hp2
  | cons x r =>
    rw [e] at hp2 hr
    simp only [List.mem_cons] at hp2
    rcases hp2 with rfl | h2
    · intro c hc
      rcases List.mem_append.mp hc with h3 | h3
      · exact mul_in (P := fun c => c ≠ 124) (by decide) c h3
      · exact hr x (List.mem_cons_self ..) c h3
    · exact hr p (List.mem_cons_of_mem _ h2)
noncomputable def padL (cs : List Int) (b : Int) : List Int := if (cs.length : Int) ≤ b then cs ++ List.replicate (b - cs.length + 1).toNat 0 else cs
noncomputable def wsFold (hd : Int) : List Int → List Int → List Int
  | [], cs => cs
  | k :: r, cs => wsFold hd r (wsBump (padL cs (k + hd)) (k + hd))
theorem ws_rep : ∀ (k : Nat) (r : List Nat) (b n nt : Int) (cs : List Int), ∃ n', wsGoL (List.replicate k 32 ++ 9 :: r) b n nt cs = wsGoL r 0 n' (nt + 1) (wsBump (padL cs (b + k)) (b + k))
  | 0, r, b, n, nt, cs => ⟨n + 1, by
    show wsGoL (9 :: r) b n nt cs = _
    rw [wsGoL, if_neg (by decide), if_pos (by decide), show b + ((0 : Nat) : Int) = b by omega]
    rfl⟩
  | k + 1, r, b, n, nt, cs => by
    obtain ⟨n', h⟩ := ws_rep k r (b + 1) (n + 1) nt cs
    refine ⟨n', ?_⟩
    rw [List.replicate_succ, List.cons_append, wsGoL, if_pos (by decide), h]
    rw [show b + 1 + (k : Int) = b + ((k + 1 : Nat) : Int) by omega]
theorem mul_one_sp (n : Int) : mulL [32] n = List.replicate n.toNat 32 := by
  unfold mulL
  split
  · rw [show n.toNat = 0 by omega]; rfl
  · generalize n.toNat = k
    induction k with
    | zero => rfl
    | succ k ih => rw [List.replicate_succ, List.flatten_cons, ih]; rfl
theorem ws_fold (hd : Int) (h0 : 0 ≤ hd) : ∀ (ks : List Int), (∀ k ∈ ks, 0 ≤ k) → ∀ (n nt : Int) (cs : List Int), ∃ n', wsGoL ((ks.map (leadPartL hd)).flatten ++ [32, 32, 120, 32, 9]) 0 n nt cs = (2, n', nt + ks.length, wsFold hd ks cs)
  | [], _, n, nt, cs => ⟨n + 1 + 1, by
    show wsGoL [32, 32, 120, 32, 9] 0 n nt cs = _
    rw [wsGoL, if_pos (by decide), wsGoL, if_pos (by decide), wsGoL, if_neg (by decide), if_neg (by decide)]
    show (_, _, _, _) = (_, _, _, _)
    rw [List.length_nil, show nt + ((0 : Nat) : Int) = nt by omega]
    rfl⟩
  | k :: r, hk, n, nt, cs => by
    have hk0 := hk k (List.mem_cons_self ..)
    obtain ⟨n1, h1⟩ := ws_rep (k + hd).toNat ((r.map (leadPartL hd)).flatten ++ [32, 32, 120, 32, 9]) 0 n nt cs
    obtain ⟨n2, h2⟩ := ws_fold hd h0 r (fun x hx => hk x (List.mem_cons_of_mem _ hx)) n1 (nt + 1) (wsBump (padL cs (k + hd)) (k + hd))
    refine ⟨n2, ?_⟩
    have e : ((k :: r).map (leadPartL hd)).flatten ++ [32, 32, 120, 32, 9] = List.replicate (k + hd).toNat 32 ++ 9 :: ((r.map (leadPartL hd)).flatten ++ [32, 32, 120, 32, 9]) := by
      rw [List.map_cons, List.flatten_cons, leadPartL, mul_one_sp]
      simp
    rw [e, h1, show (0 : Int) + ((k + hd).toNat : Int) = k + hd by omega, h2, List.length_cons]
    congr 3
    omega
theorem ws_lead {l : List Nat} {hd : Int} (h0 : 0 ≤ hd) : ∃ n', wsGoL (leadL l hd) 0 0 0 [] = (2, n', 0 + ((coinsL l).length : Int), wsFold hd (coinsL l) []) := by
  unfold leadL
  rw [inter_nil]
  refine ws_fold hd h0 _ (fun k hk => ?_) 0 0 []
  unfold coinsL at hk
  obtain ⟨h1, _⟩ := List.mem_filter.mp hk
  obtain ⟨i, _, rfl⟩ := List.mem_map.mp h1
  omega
noncomputable def aboveD (cols : List (List Nat)) (hd : Int) : Int := cols.foldl (fun c y => c + ((cntL 98 y : Int) * ((cntL 98 y : Int) - 1)).fdiv 2) (hd * (cntL 98 (cols.getD 0 []) : Int))
theorem above_D (cols : List (List Nat)) (hd : Int) : aboveL cols hd = aboveD cols hd := by
  unfold aboveL aboveD
  rw [count_cnt]
  congr 1
  funext c y
  unfold aboveInL
  rw [count_cnt]
theorem colX_1_0 (a b c d e f g h : Nat) : colsD [a, b, c, d, e, f, g, h] 1 0 = [[a, b, c, d, e, f, g, h]] := by kernel_rfl
theorem colX_2_0 (a b c d e f g h : Nat) : colsD [a, b, c, d, e, f, g, h] 2 0 = [[a, c, e, g], [b, d, f, h]] := by kernel_rfl
theorem colX_3_0 (a b c d e f g h : Nat) : colsD [a, b, c, d, e, f, g, h] 3 0 = [[a, d, g], [b, e, h], [c, f]] := by kernel_rfl
theorem colX_4_0 (a b c d e f g h : Nat) : colsD [a, b, c, d, e, f, g, h] 4 0 = [[a, e], [b, f], [c, g], [d, h]] := by kernel_rfl
theorem colX_5_0 (a b c d e f g h : Nat) : colsD [a, b, c, d, e, f, g, h] 5 0 = [[a, f], [b, g], [c, h], [d], [e]] := by kernel_rfl
theorem colX_6_0 (a b c d e f g h : Nat) : colsD [a, b, c, d, e, f, g, h] 6 0 = [[a, g], [b, h], [c], [d], [e], [f]] := by kernel_rfl
theorem colX_7_0 (a b c d e f g h : Nat) : colsD [a, b, c, d, e, f, g, h] 7 0 = [[a, h], [b], [c], [d], [e], [f], [g]] := by kernel_rfl
theorem colX_1_1 (a b c d e f g h : Nat) : colsD [a, b, c, d, e, f, g, h] 1 1 = [[32, a, b, c, d, e, f, g, h]] := by kernel_rfl
theorem colX_2_1 (a b c d e f g h : Nat) : colsD [a, b, c, d, e, f, g, h] 2 1 = [[32, b, d, f, h], [a, c, e, g]] := by kernel_rfl
theorem colX_3_1 (a b c d e f g h : Nat) : colsD [a, b, c, d, e, f, g, h] 3 1 = [[32, c, f], [a, d, g], [b, e, h]] := by kernel_rfl
theorem colX_4_1 (a b c d e f g h : Nat) : colsD [a, b, c, d, e, f, g, h] 4 1 = [[32, d, h], [a, e], [b, f], [c, g]] := by kernel_rfl
theorem colX_5_1 (a b c d e f g h : Nat) : colsD [a, b, c, d, e, f, g, h] 5 1 = [[32, e], [a, f], [b, g], [c, h], [d]] := by kernel_rfl
theorem colX_6_1 (a b c d e f g h : Nat) : colsD [a, b, c, d, e, f, g, h] 6 1 = [[32, f], [a, g], [b, h], [c], [d], [e]] := by kernel_rfl
theorem colX_7_1 (a b c d e f g h : Nat) : colsD [a, b, c, d, e, f, g, h] 7 1 = [[32, g], [a, h], [b], [c], [d], [e], [f]] := by kernel_rfl
end Mine
end
section
open PySem PySem.W PyProof.Rows PySem.Calls PySem.Spec
set_option Elab.async false
namespace Mine
theorem inter_snoc (s : List Nat) : ∀ (xs : List (List Nat)) (x : List Nat), interL s (x :: (xs ++ [[]])) = x ++ (s ++ (xs.map (· ++ s)).flatten)
  | [], x => by show x ++ (s ++ []) = _; rfl
  | y :: r, x => by
    show x ++ (s ++ interL s (y :: (r ++ [[]]))) = _
    rw [inter_snoc s r y, List.map_cons, List.flatten_cons, List.append_assoc]
noncomputable def wantP (m k : Int) : List (List Nat) := [] :: ((List.replicate m.toNat [97, 97] ++ List.replicate k.toNat [98, 98]) ++ [[]])
theorem mul_any (x : List Nat) (n : Int) : mulL x n = (List.replicate n.toNat x).flatten := by
  unfold mulL
  split
  · rw [show n.toNat = 0 by omega]; rfl
  · rfl
theorem want_P (m k : Int) : wantL m k = interL dotsL (wantP m k) := by
  unfold wantL wantP
  rw [inter_snoc, mul_any, mul_any, List.nil_append, List.append_assoc, List.map_append, List.flatten_append, List.map_replicate, List.map_replicate]
  rfl
theorem em_want (m k : Int) (tw : List Nat) : emL (wantL m k) tw = emAL tw (wantP m k) := by
  rw [want_P]
  have hp : ∀ x ∈ wantP m k, ∀ c ∈ x, c ≠ 46 := by
    intro x hx c hc
    unfold wantP at hx
    simp only [List.mem_cons, List.mem_append, List.mem_nil_iff, or_false, List.mem_replicate] at hx
    rcases hx with rfl | (⟨_, rfl⟩ | ⟨_, rfl⟩) | rfl
    · cases hc
    · simp at hc; omega
    · simp at hc; omega
    · cases hc
  unfold wantP at hp ⊢
  cases e : (List.replicate m.toNat [97, 97] ++ List.replicate k.toNat [98, 98]) ++ [[]] with
  | nil => simp at e
  | cons q r =>
    rw [e] at hp
    exact em_inter hp tw
noncomputable def takenD (c : List Nat) : Int := (rangeKs 1 (cntL 97 c)).foldl (fun n many => (rangeKs 1 (cntL 98 c)).foldl (fun c' more => if emAL (twiceL c) (wantP many more) = true then c' + 1 else c') n) 0
theorem taken_D (c : List Nat) : takenL c = takenD c := by
  unfold takenL takenD
  rw [count_cnt, count_cnt, show ((cntL 97 c : Int) + 1 - 1).toNat = cntL 97 c by omega, show ((cntL 98 c : Int) + 1 - 1).toNat = cntL 98 c by omega]
  congr 1
  funext n many
  congr 1
  funext c' more
  unfold tkOneL
  rw [em_want]
end Mine
end
section
open PySem PySem.W PyProof.Rows PySem.Calls PySem.Spec
set_option Elab.async false
namespace Mine
noncomputable def pairsI (c : List Nat) : Int := (pairsL c : Int)
noncomputable def abs8 (c : List Nat) : Bool := (Nat.ble c.length 4 || Nat.beq c.length 8) && c.all fun n => Nat.beq n 97 || Nat.beq n 98
noncomputable def okc : List Nat → Bool
  | [] => true
  | n :: r => bif Nat.beq n 32 then abs8 r else abs8 (n :: r)
noncomputable def mainB (l : List Nat) (w hd : Int) (cols : List (List Nat)) : Bool :=
  cols.all okc && (decide (0 ≤ aboveD cols hd) && (decide (aboveD cols hd ≤ 1000) && ilOf w 2 (0 + ((coinsL l).length : Int)) (wsFold hd (coinsL l) []) == 2 + w * ((coinsL l).length + aboveD cols hd + (cols.map pairsI).sum)))
noncomputable def colE_1_0 (l : List Nat) : List (List Nat) := match l with | [a, b, c, d, e, f, g, h] => [[a, b, c, d, e, f, g, h]] | _ => []
theorem main_1_0 : ((allL 8).all fun l => mainB l 1 0 (colE_1_0 l)) = true := by decide +kernel
noncomputable def colE_2_0 (l : List Nat) : List (List Nat) := match l with | [a, b, c, d, e, f, g, h] => [[a, c, e, g], [b, d, f, h]] | _ => []
theorem main_2_0 : ((allL 8).all fun l => mainB l 2 0 (colE_2_0 l)) = true := by decide +kernel
noncomputable def colE_3_0 (l : List Nat) : List (List Nat) := match l with | [a, b, c, d, e, f, g, h] => [[a, d, g], [b, e, h], [c, f]] | _ => []
theorem main_3_0 : ((allL 8).all fun l => mainB l 3 0 (colE_3_0 l)) = true := by decide +kernel
noncomputable def colE_4_0 (l : List Nat) : List (List Nat) := match l with | [a, b, c, d, e, f, g, h] => [[a, e], [b, f], [c, g], [d, h]] | _ => []
theorem main_4_0 : ((allL 8).all fun l => mainB l 4 0 (colE_4_0 l)) = true := by decide +kernel
noncomputable def colE_5_0 (l : List Nat) : List (List Nat) := match l with | [a, b, c, d, e, f, g, h] => [[a, f], [b, g], [c, h], [d], [e]] | _ => []
theorem main_5_0 : ((allL 8).all fun l => mainB l 5 0 (colE_5_0 l)) = true := by decide +kernel
noncomputable def colE_6_0 (l : List Nat) : List (List Nat) := match l with | [a, b, c, d, e, f, g, h] => [[a, g], [b, h], [c], [d], [e], [f]] | _ => []
theorem main_6_0 : ((allL 8).all fun l => mainB l 6 0 (colE_6_0 l)) = true := by decide +kernel
noncomputable def colE_7_0 (l : List Nat) : List (List Nat) := match l with | [a, b, c, d, e, f, g, h] => [[a, h], [b], [c], [d], [e], [f], [g]] | _ => []
theorem main_7_0 : ((allL 8).all fun l => mainB l 7 0 (colE_7_0 l)) = true := by decide +kernel
noncomputable def colE_1_1 (l : List Nat) : List (List Nat) := match l with | [a, b, c, d, e, f, g, h] => [[32, a, b, c, d, e, f, g, h]] | _ => []
theorem main_1_1 : ((allL 8).all fun l => mainB l 1 1 (colE_1_1 l)) = true := by decide +kernel
noncomputable def colE_2_1 (l : List Nat) : List (List Nat) := match l with | [a, b, c, d, e, f, g, h] => [[32, b, d, f, h], [a, c, e, g]] | _ => []
theorem main_2_1 : ((allL 8).all fun l => mainB l 2 1 (colE_2_1 l)) = true := by decide +kernel
noncomputable def colE_3_1 (l : List Nat) : List (List Nat) := match l with | [a, b, c, d, e, f, g, h] => [[32, c, f], [a, d, g], [b, e, h]] | _ => []
theorem main_3_1 : ((allL 8).all fun l => mainB l 3 1 (colE_3_1 l)) = true := by decide +kernel
noncomputable def colE_4_1 (l : List Nat) : List (List Nat) := match l with | [a, b, c, d, e, f, g, h] => [[32, d, h], [a, e], [b, f], [c, g]] | _ => []
theorem main_4_1 : ((allL 8).all fun l => mainB l 4 1 (colE_4_1 l)) = true := by decide +kernel
noncomputable def colE_5_1 (l : List Nat) : List (List Nat) := match l with | [a, b, c, d, e, f, g, h] => [[32, e], [a, f], [b, g], [c, h], [d]] | _ => []
theorem main_5_1 : ((allL 8).all fun l => mainB l 5 1 (colE_5_1 l)) = true := by decide +kernel
noncomputable def colE_6_1 (l : List Nat) : List (List Nat) := match l with | [a, b, c, d, e, f, g, h] => [[32, f], [a, g], [b, h], [c], [d], [e]] | _ => []
theorem main_6_1 : ((allL 8).all fun l => mainB l 6 1 (colE_6_1 l)) = true := by decide +kernel
noncomputable def colE_7_1 (l : List Nat) : List (List Nat) := match l with | [a, b, c, d, e, f, g, h] => [[32, g], [a, h], [b], [c], [d], [e], [f]] | _ => []
theorem main_7_1 : ((allL 8).all fun l => mainB l 7 1 (colE_7_1 l)) = true := by decide +kernel
end Mine
end
section
open PySem PySem.W PyProof.Rows PySem.Calls PySem.Spec
set_option Elab.async false
namespace Mine
theorem em_plain {w got : List Nat} (h : ∀ c ∈ w, c ≠ 46) : emL w got = (w == got) := by
  have ho := occ_inter (h := 46) (t := [46, 46]) [w] (by simp) (fun p hp => by rw [List.mem_singleton.mp hp]; exact h) 0 0 1 (Nat.le_refl _)
  have e : (occA w dotsL 0 w.length 1).isEmpty = true := by
    unfold occA
    rw [Nat.zero_add] at ho
    exact congrArg List.isEmpty ho
  unfold emL
  rw [e, if_pos rfl]
theorem len_ne {p : List Nat} (h : p ≠ []) : ((p.length : Nat) : Int) ≠ 0 := by
  have := List.length_pos_iff.mpr h
  omega
theorem starts_app {x p : List Nat} : startsL x p = (x.take p.length == p) := by
  unfold startsL
  rw [← pre_eq]
  by_cases h : p.length ≤ x.length
  · rw [ble_true h, Bool.true_and]
  · cases e : (x.take p.length == p) with
    | false => rw [Bool.and_false]
    | true =>
      have e2 := congrArg List.length (eq_of_beq e)
      rw [List.length_take] at e2
      omega
theorem ends_app {x q : List Nat} (h : q.length ≤ x.length) : endsL x q = (x.drop (x.length - q.length) == q) := by
  unfold endsL
  rw [← pre_eq, ble_true h, Bool.true_and, List.take_of_length_le (by rw [List.length_drop]; omega)]
theorem em_two {p q got : List Nat} (hp : p ≠ []) (hq : q ≠ []) : emAL got [p, q] = (startsL got p && (endsL got q && decide ((p.length : Int) ≤ (got.length : Int) - q.length))) := by
  show (if ((p.length : Nat) : Int) ≠ 0 then if startsL got p = true then emBL got [q] (p.length : Int) else false else emBL got [p, q] 0) = _
  rw [if_pos (len_ne hp)]
  have eb : emBL got [q] (p.length : Int) = if endsL got q = true then if (got.length : Int) - q.length < (p.length : Int) then false else true else false := by
    show (if ((q.length : Nat) : Int) ≠ 0 then if endsL got q = true then if (got.length : Int) - q.length < (p.length : Int) then false else emGoL got ((got.length : Int) - q.length) [] (p.length : Int) else false else _) = _
    rw [if_pos (len_ne hq)]
    rfl
  rw [eb]
  cases startsL got p with
  | false => rfl
  | true => cases endsL got q with
    | false => rfl
    | true =>
      by_cases h : (got.length : Int) - q.length < (p.length : Int)
      · rw [if_pos rfl, if_pos rfl, if_pos h, decide_eq_false (by omega)]; rfl
      · rw [if_pos rfl, if_pos rfl, if_neg h, decide_eq_true (by omega)]; rfl
theorem em_three {p m q got : List Nat} (hp : p ≠ []) (hq : q ≠ []) : emAL got [p, m, q] = (startsL got p && (endsL got q && (decide ((p.length : Int) ≤ (got.length : Int) - q.length) && !decide (find4L got m p.length ((got.length : Int) - q.length) < 0)))) := by
  show (if ((p.length : Nat) : Int) ≠ 0 then if startsL got p = true then emBL got [m, q] (p.length : Int) else false else emBL got [p, m, q] 0) = _
  rw [if_pos (len_ne hp)]
  have eb : emBL got [m, q] (p.length : Int) = if endsL got q = true then if (got.length : Int) - q.length < (p.length : Int) then false else if find4L got m p.length ((got.length : Int) - q.length) < 0 then false else true else false := by
    show (if ((q.length : Nat) : Int) ≠ 0 then if endsL got q = true then if (got.length : Int) - q.length < (p.length : Int) then false else emGoL got ((got.length : Int) - q.length) [m] (p.length : Int) else false else _) = _
    rw [if_pos (len_ne hq)]
    rfl
  rw [eb]
  cases startsL got p with
  | false => rfl
  | true => cases endsL got q with
    | false => rfl
    | true =>
      by_cases h : (got.length : Int) - q.length < (p.length : Int)
      · rw [if_pos rfl, if_pos rfl, if_pos h, decide_eq_false (by omega)]; rfl
      · rw [if_pos rfl, if_pos rfl, if_neg h, decide_eq_true (by omega)]
        by_cases h2 : find4L got m p.length ((got.length : Int) - q.length) < 0
        · rw [if_pos h2, decide_eq_true h2]; rfl
        · rw [if_neg h2, decide_eq_false h2]; rfl
theorem occ_any (x : Nat) : ∀ (n : Nat) (s : List Nat) (i free : Nat), free ≤ i → (occL [x] 1 (i + n) (n + 1) s i free 1).isEmpty = !((s.take n).any fun c => Nat.beq c x)
  | 0, s, i, free, hf => by
    have e : Nat.ble (i + 1) (i + 0) = false := by
      cases hb : Nat.ble (i + 1) (i + 0) with
      | false => rfl
      | true => have := Nat.le_of_ble_eq_true hb; omega
    rw [occL, e, Bool.false_and, Bool.and_false, Bool.and_false, cond_false]; rfl
  | n + 1, [], i, free, hf => by
    have e : i + (n + 1) = (i + 1) + n := by omega
    rw [occL, pre, Bool.and_false, Bool.and_false, Bool.and_false, cond_false, e, List.tail_nil, occ_any x n [] (i + 1) free (by omega), List.take_nil, List.take_nil]
  | n + 1, c :: r, i, free, hf => by
    have e : i + (n + 1) = (i + 1) + n := by omega
    rw [occL, ble_true (show 1 ≤ 1 by omega), ble_true hf, ble_true (show i + 1 ≤ i + (n + 1) by omega), List.take_succ_cons, List.any_cons]
    cases hb : Nat.beq c x with
    | true =>
      have : pre [x] (c :: r) = true := by rw [pre, hb]; rfl
      rw [this]; rfl
    | false =>
      have : pre [x] (c :: r) = false := by rw [pre, hb]; rfl
      rw [this, e]
      show (occL [x] 1 (i + 1 + n) (n + 1) r (i + 1) free 1).isEmpty = _
      rw [occ_any x n r (i + 1) free (by omega), Bool.false_or]
theorem from_nat {n k : Nat} : PySem.fromIndex n (k : Int) = k := by
  unfold PySem.fromIndex
  rw [if_neg (by omega)]
  omega
theorem find_any (l : List Nat) (x : Nat) {a b : Nat} (hab : a ≤ b) (hb : b ≤ l.length) : (!decide (find4L l [x] (a : Int) (b : Int) < 0)) = ((l.drop a).take (b - a)).any fun c => Nat.beq c x := by
  unfold find4L
  rw [from_nat, from_nat, Nat.min_eq_left hb]
  have h := occ_any x (b - a) (l.drop a) a a (Nat.le_refl _)
  have e : occA l [x] a b 1 = occL [x] 1 (a + (b - a)) (b - a + 1) (l.drop a) a a 1 := by
    unfold occA
    rw [show a + (b - a) = b by omega, show b - a + 1 = b + 1 - a by omega]
    rfl
  rw [e]
  cases h2 : occL [x] 1 (a + (b - a)) (b - a + 1) (l.drop a) a a 1 with
  | nil => rw [h2] at h; rw [← Bool.not_not (List.any ..), ← h]; rfl
  | cons k r =>
    rw [h2] at h; rw [← Bool.not_not (List.any ..), ← h]
    show (!decide ((k : Int) < 0)) = !false
    rw [decide_eq_false (by omega)]
theorem any_mid (l : List Nat) (x : Nat) : (occA l [x] 0 l.length 1).isEmpty = !(l.any fun c => Nat.beq c x) := by
  have h := occ_any x l.length l 0 0 (Nat.le_refl _)
  rw [Nat.zero_add, List.take_length] at h
  exact h
noncomputable def abL (l : List Nat) : Prop := ∀ c ∈ l, c = 97 ∨ c = 98
theorem abL.no {l : List Nat} (h : abL l) : ∀ c ∈ l, c ≠ 46 := fun c hc => by rcases h c hc with rfl | rfl <;> decide
theorem abL.take {l : List Nat} (h : abL l) (n : Nat) : abL (l.take n) := fun c hc => h c (List.mem_of_mem_take hc)
theorem abL.drop {l : List Nat} (h : abL l) (n : Nat) : abL (l.drop n) := fun c hc => h c (List.mem_of_mem_drop hc)
theorem abL.app {l r : List Nat} (h : abL l) (h2 : abL r) : abL (l ++ r) := fun c hc => (List.mem_append.mp hc).elim (h c) (h2 c)
theorem abL.a : abL [97] := fun _ hc => .inl (List.mem_singleton.mp hc)
theorem abL.b : abL [98] := fun _ hc => .inr (List.mem_singleton.mp hc)
theorem take_one {l : List Nat} {i : Nat} (hi : i < l.length) : l.take (i + 1) = l.take i ++ [l[i]] := by
  rw [List.take_add_one, List.getElem?_eq_getElem hi]; rfl
theorem split_at {l : List Nat} {i : Nat} (hi : i < l.length) : l = l.take i ++ ([l[i]] ++ l.drop (i + 1)) := by
  rw [← List.append_assoc, ← take_one hi, List.take_append_drop]
theorem app_beq (a b c : List Nat) : (a ++ b == a ++ c) = (b == c) := by
  rw [Bool.eq_iff_iff, beq_iff_eq, beq_iff_eq]
  exact ⟨List.append_cancel_left, fun h => by rw [h]⟩
theorem one_beq (x y : Nat) (r : List Nat) : ([x] ++ r == [y] ++ r) = (x == y) := by
  rw [Bool.eq_iff_iff, beq_iff_eq, beq_iff_eq]
  exact ⟨fun h => (List.cons.inj h).1, fun h => by rw [h]⟩
theorem one_beq' (x y : Nat) : ([x] == [y]) = (x == y) := by
  rw [Bool.eq_iff_iff, beq_iff_eq, beq_iff_eq]
  exact ⟨fun h => (List.cons.inj h).1, fun h => by rw [h]⟩
theorem put_L {l : List Nat} (h : abL l) {i : Nat} (hi : i < l.length) : emL (l.take i ++ [98] ++ l.drop (i + 1)) l = (l[i] == 98) := by
  rw [em_plain ((h.take i).app .b |>.app (h.drop _)).no]
  have e : (l.take i ++ [98] ++ l.drop (i + 1) == l) = (l.take i ++ [98] ++ l.drop (i + 1) == l.take i ++ ([l[i]] ++ l.drop (i + 1))) := by rw [← split_at hi]
  rw [e, List.append_assoc, app_beq, one_beq]
  exact Bool.beq_comm
theorem len_beq {a b : List Nat} (h : a.length ≠ b.length) : (a == b) = false := by
  cases e : (a == b) with
  | false => rfl
  | true => exact absurd (congrArg List.length (eq_of_beq e)) h
theorem pre_L {l : List Nat} (h : abL l) {i : Nat} (hi : i < l.length) : emL (l.take i) l = false := by
  rw [em_plain (h.take i).no]
  exact len_beq (by rw [List.length_take]; omega)
theorem suf_L {l : List Nat} (h : abL l) {i : Nat} (hi : i < l.length) : emL (l.drop (i + 1)) l = false := by
  rw [em_plain (h.drop _).no]
  exact len_beq (by rw [List.length_drop]; omega)
theorem three_in {p m q : List Nat} (hp : abL p) (hm : abL m) (hq : abL q) : ∀ x ∈ [p, m, q], ∀ c ∈ x, c ≠ 46 := by
  intro x hx
  simp only [List.mem_cons, List.mem_nil_iff, or_false] at hx
  rcases hx with rfl | rfl | rfl
  · exact hp.no
  · exact hm.no
  · exact hq.no
theorem two_in {p q : List Nat} (hp : abL p) (hq : abL q) : ∀ x ∈ [p, q], ∀ c ∈ x, c ≠ 46 := by
  intro x hx
  simp only [List.mem_cons, List.mem_nil_iff, or_false] at hx
  rcases hx with rfl | rfl
  · exact hp.no
  · exact hq.no
theorem cut_L {l : List Nat} (h : abL l) {i r : Nat} (hi : i < l.length) (hr : r ≤ i) : emL (l.take (i + 1) ++ dotsL ++ l.drop r) l = false := by
  have e : l.take (i + 1) ++ dotsL ++ l.drop r = interL dotsL [l.take (i + 1), l.drop r] := by rw [List.append_assoc]; rfl
  rw [e, em_inter (two_in (h.take _) (h.drop _))]
  rw [em_two (fun e => by have := congrArg List.length e; rw [List.length_take, List.length_nil] at this; omega) (fun e => by have := congrArg List.length e; rw [List.length_drop, List.length_nil] at this; omega)]
  rw [decide_eq_false (by rw [List.length_take, List.length_drop]; omega), Bool.and_false, Bool.and_false]
theorem ends_L' {l : List Nat} {i : Nat} (hi : i < l.length) : endsL l ([98] ++ l.drop (i + 1)) = (l[i] == 98) := by
  have e1 : ([98] ++ l.drop (i + 1)).length = l.length - i := by rw [List.length_append, List.length_drop]; simp; omega
  rw [ends_app (by rw [e1]; omega), e1, show l.length - (l.length - i) = i by omega]
  have e2 : l.drop i = [l[i]] ++ l.drop (i + 1) := List.drop_eq_getElem_cons hi
  rw [e2, one_beq]
theorem starts_L' {l : List Nat} {j : Nat} (hj : j < l.length) : startsL l (l.take j ++ [97]) = (l[j] == 97) := by
  have e1 : (l.take j ++ [97]).length = j + 1 := by rw [List.length_append, List.length_take]; simp; omega
  rw [starts_app, e1, take_one hj, app_beq, one_beq']
theorem go_lens {l : List Nat} {i j : Nat} (hi : i < l.length) (hj : j < i) : ((l.take j ++ [97]).length : Int) = ((j + 1 : Nat) : Int) ∧ (l.length : Int) - (([98] ++ l.drop (i + 1)).length : Nat) = (i : Nat) := by
  have e1 : ([98] ++ l.drop (i + 1)).length = l.length - i := by rw [List.length_append, List.length_drop]; simp; omega
  have e2 : (l.take j ++ [97]).length = j + 1 := by rw [List.length_append, List.length_take]; simp; omega
  rw [e1, e2]
  omega
theorem go_L {l : List Nat} (h : abL l) {i j : Nat} (hi : i < l.length) (hj : j < i) : emL (l.take j ++ [97, 46, 46, 46, 98] ++ l.drop (i + 1)) l = ((l[j]'(by omega) == 97) && (l[i] == 98)) := by
  have e : l.take j ++ [97, 46, 46, 46, 98] ++ l.drop (i + 1) = interL dotsL [l.take j ++ [97], [98] ++ l.drop (i + 1)] := by
    show _ = (l.take j ++ [97]) ++ (dotsL ++ ([98] ++ l.drop (i + 1)))
    simp [dotsL]
  rw [e, em_inter (two_in ((h.take _).app .a) ((abL.b).app (h.drop _))), em_two (by simp) (by simp), starts_L' (by omega), ends_L' hi, (go_lens hi hj).1, (go_lens hi hj).2, decide_eq_true (by omega), Bool.and_true]
theorem pass_L {l : List Nat} (h : abL l) {i j : Nat} (hi : i < l.length) (hj : j < i) (hg : ((l[j]'(by omega) == 97) && (l[i] == 98)) = true) : emL (l.take j ++ [97, 46, 46, 46, 98, 46, 46, 46, 98] ++ l.drop (i + 1)) l = !(occA ((l.drop (j + 1)).take (i - (j + 1))) [98] 0 ((l.drop (j + 1)).take (i - (j + 1))).length 1).isEmpty := by
  have e : l.take j ++ [97, 46, 46, 46, 98, 46, 46, 46, 98] ++ l.drop (i + 1) = interL dotsL [l.take j ++ [97], [98], [98] ++ l.drop (i + 1)] := by
    show _ = (l.take j ++ [97]) ++ (dotsL ++ ([98] ++ (dotsL ++ ([98] ++ l.drop (i + 1)))))
    simp [dotsL]
  rw [Bool.and_eq_true] at hg
  rw [e, em_inter (three_in ((h.take _).app .a) .b ((abL.b).app (h.drop _))), em_three (by simp) (by simp), starts_L' (by omega), ends_L' hi, (go_lens hi hj).1, (go_lens hi hj).2, decide_eq_true (by omega), hg.1, hg.2, any_mid, Bool.not_not]
  rw [Bool.true_and, Bool.true_and, Bool.true_and]
  exact find_any l 98 (by omega) (by omega)
end Mine
end
section
open PySem PySem.W PyProof.Rows PySem.Calls PySem.Spec
set_option Elab.async false
namespace Mine
noncomputable def othersL (l : List Nat) (st : Int) : List Int := (coinsL l).filter fun o => o != st
noncomputable def reachTo (l : List Nat) (st : Int) (j : Nat) : List Int := ((List.range j).filter fun (pl : Nat) => goesL l (pl : Int) st).map fun (pl : Nat) => worthOf ((pl : Int) :: othersL l st)
noncomputable def reachL (l : List Nat) : Nat → List Int
  | 0 => []
  | n + 1 => reachL l n ++ reachTo l (n : Int) n
theorem reachTo_L (S : Str) (st : Int) (j : Nat) : reachedTo S st j = reachTo (tl S) st j := by
  have e : (fun (pl : Nat) => goesAt S (pl : Int) st) = fun (pl : Nat) => goesL (tl S) (pl : Int) st := funext fun pl => goes_L S _ _
  unfold reachedTo reachTo othersOf othersL
  rw [coins_L, e]
theorem reach_L (S : Str) : ∀ n, reachedOf S n = reachL (tl S) n
  | 0 => rfl
  | n + 1 => (congrArg (· ++ reachedTo S (n : Int) n) (reach_L S n)).trans (congrArg (reachL (tl S) n ++ ·) (reachTo_L S (n : Int) n))
noncomputable def maskOf : List Int → Nat
  | [] => 0
  | e :: r => match e with
    | .ofNat n => Nat.lor (Nat.pow 2 n) (maskOf r)
    | .negSucc _ => maskOf r
theorem mask_bit (k : Nat) : ∀ r : List Int, (maskOf r).testBit k = r.any (· == (k : Int))
  | [] => by rw [maskOf, Nat.zero_testBit]; rfl
  | .ofNat n :: r => by
    show Nat.testBit (2 ^ n ||| maskOf r) k = ((Int.ofNat n == (k : Int)) || r.any (· == (k : Int)))
    rw [Nat.testBit_or, Nat.testBit_two_pow, mask_bit k r]
    congr 1
    rw [Bool.eq_iff_iff, decide_eq_true_iff, beq_iff_eq]
    exact Int.ofNat_inj.symm
  | .negSucc n :: r => by
    show (maskOf r).testBit k = ((Int.negSucc n == (k : Int)) || r.any (· == (k : Int)))
    rw [mask_bit k r]
    have : (Int.negSucc n == (k : Int)) = false := by rw [beq_eq_false_iff_ne]; omega
    rw [this, Bool.false_or]
noncomputable def sumP (cols : List (List Nat)) : Int := (cols.map pairsI).sum.fmod 2
noncomputable def told0 (l : List Nat) : Int := 0 + 1 * sumP (colE_1_0 l) + 2 * sumP (colE_2_0 l) + 4 * sumP (colE_4_0 l)
noncomputable def told1 (l : List Nat) : Int := 0 + 1 * sumP (colE_1_1 l) + 2 * sumP (colE_2_1 l) + 4 * sumP (colE_4_1 l)
noncomputable def finM (m : Nat) : Int → Bool
  | .ofNat t => Nat.ble t 7 && Nat.beq (m % 2 ^ (t + 1)) (2 ^ t - 1)
  | .negSucc _ => false
noncomputable def finB (l : List Nat) : Bool := finM (maskOf (reachL l 8)) (told0 l) && finM (maskOf (reachL l 8)) (told1 l)
theorem finM_parts {r : List Int} {t : Int} (h : finM (maskOf r) t = true) : 0 ≤ t ∧ t ≤ 7 ∧ r.any (· == t) = false ∧ ∀ k, 0 ≤ k → k < t → r.any (· == k) = true := by
  cases t with
  | negSucc n => cases h
  | ofNat t =>
    unfold finM at h
    rw [Bool.and_eq_true] at h
    have h1 := Nat.le_of_ble_eq_true h.1
    have h2 := Nat.eq_of_beq_eq_true h.2
    have bit : ∀ k, k ≤ t → (maskOf r).testBit k = decide (k < t) := fun k hk => by
      have e : Nat.testBit (maskOf r % 2 ^ (t + 1)) k = Nat.testBit (2 ^ t - 1) k := by rw [h2]
      rw [Nat.testBit_mod_two_pow, Nat.testBit_two_pow_sub_one, decide_eq_true (show k < t + 1 by omega), Bool.true_and] at e
      exact e
    refine ⟨Int.natCast_nonneg t, by show ((t : Nat) : Int) ≤ 7; omega, ?_, fun k h0 hk => ?_⟩
    · show r.any (· == ((t : Nat) : Int)) = false
      rw [← mask_bit, bit t (Nat.le_refl _), decide_eq_false (Nat.lt_irrefl _)]
    · obtain ⟨n, rfl⟩ : ∃ n : Nat, k = (n : Int) := ⟨k.toNat, by omega⟩
      have hn : n < t := by have : ((n : Nat) : Int) < ((t : Nat) : Int) := hk; omega
      rw [← mask_bit, bit n (by omega), decide_eq_true hn]
end Mine
end
section
open PySem PySem.W PyProof.Rows PySem.Calls PySem.Spec
set_option Elab.async false
namespace Mine
noncomputable def coinsN (l : List Nat) : List Nat := (List.range 8).filter fun i => Nat.beq (l.getD i 0) 98
noncomputable def gapN (m o : Nat) : Nat := Nat.xor (m - o + (o - m)) (m - o + (o - m) - 1)
noncomputable def worthN (ms : List Nat) : Nat := (List.range ms.length).foldl (fun c k => (ms.take k).foldl (fun c o => Nat.xor c (gapN (ms.getD k 0) o)) (Nat.xor c (ms.getD k 0))) 0
noncomputable def reachToN (l : List Nat) (st j : Nat) : List Nat := ((List.range j).filter fun pl => Nat.beq (l.getD pl 0) 97 && Nat.beq (l.getD st 0) 98).map fun pl => worthN (pl :: (coinsN l).filter fun o => !Nat.beq o st)
noncomputable def maskN (l : List Nat) : Nat → Nat
  | 0 => 0
  | n + 1 => Nat.lor (maskN l n) ((reachToN l n n).foldl (fun m e => Nat.lor m (Nat.pow 2 e)) 0)
theorem xor8 : ∀ a : Nat, a < 8 → ∀ b : Nat, b < 8 → Builtin.bitXor (a : Int) (b : Int) = (Nat.xor a b : Nat) ∧ Nat.xor a b < 8 := by decide +kernel
theorem gap_eq {m o : Nat} (h : m ≠ o) (hm : m < 8) (ho : o < 8) : Builtin.bitXor (absI ((m : Int) - (o : Int))) (absI ((m : Int) - (o : Int)) - 1) = (gapN m o : Nat) ∧ gapN m o < 8 := by
  have e : absI ((m : Int) - (o : Int)) = ((m - o + (o - m) : Nat) : Int) := by unfold absI; split <;> omega
  have e2 : ((m - o + (o - m) : Nat) : Int) - 1 = ((m - o + (o - m) - 1 : Nat) : Int) := by omega
  rw [e, e2]
  exact xor8 _ (by omega) _ (by omega)
theorem map_getD (ms : List Nat) (k : Nat) : (ms.map fun (n : Nat) => (n : Int)).getD k 0 = ((ms.getD k 0 : Nat) : Int) := by
  rw [List.getD_eq_getElem?_getD, List.getD_eq_getElem?_getD, List.getElem?_map]
  cases ms[k]? <;> rfl
theorem getD_lt {ms : List Nat} (h : ∀ m ∈ ms, m < 8) (k : Nat) : ms.getD k 0 < 8 := by
  rw [List.getD_eq_getElem?_getD]
  cases e : ms[k]? with
  | none => decide
  | some x => exact h x (List.mem_of_getElem? e)
theorem worth_in {ms : List Nat} {k : Nat} (hm : ms.getD k 0 < 8) : ∀ (os : List Nat), (∀ o ∈ os, o < 8 ∧ ms.getD k 0 ≠ o) → ∀ c : Nat, c < 8 →
    (os.map fun (n : Nat) => (n : Int)).foldl (woIn (ms.map fun (n : Nat) => (n : Int)) (k : Int)) (c : Int) = ((os.foldl (fun c o => Nat.xor c (gapN (ms.getD k 0) o)) c : Nat) : Int) ∧ os.foldl (fun c o => Nat.xor c (gapN (ms.getD k 0) o)) c < 8
  | [], _, c, hc => ⟨rfl, hc⟩
  | o :: r, h, c, hc => by
    have ho := h o (List.mem_cons_self ..)
    obtain ⟨g1, g2⟩ := gap_eq ho.2 hm ho.1
    obtain ⟨x1, x2⟩ := xor8 c hc _ g2
    have e : woIn (ms.map fun (n : Nat) => (n : Int)) (k : Int) (c : Int) (o : Int) = ((Nat.xor c (gapN (ms.getD k 0) o) : Nat) : Int) := by
      unfold woIn
      rw [Int.toNat_natCast, map_getD, g1, x1]
    rw [List.map_cons, List.foldl_cons, List.foldl_cons, e]
    exact worth_in hm r (fun o' h' => h o' (List.mem_cons_of_mem _ h')) _ x2
theorem take_ne {ms : List Nat} (hd : ms.Nodup) {k : Nat} (hk : k < ms.length) : ∀ o ∈ ms.take k, ms.getD k 0 ≠ o := by
  intro o ho e
  rw [List.getD_eq_getElem?_getD, List.getElem?_eq_getElem hk, Option.getD_some] at e
  obtain ⟨i, hi, rfl⟩ := List.mem_take_iff_getElem.mp ho
  exact List.pairwise_iff_getElem.mp hd i k (by omega) hk (by omega) e.symm
theorem worth_go {ms : List Nat} (hd : ms.Nodup) (h8 : ∀ m ∈ ms, m < 8) : ∀ (ks : List Nat), (∀ k ∈ ks, k < ms.length) → ∀ c : Nat, c < 8 →
    (ks.map fun (i : Nat) => (0 : Int) + (i : Int)).foldl (fun c k => ((ms.map fun (n : Nat) => (n : Int)).take k.toNat).foldl (woIn (ms.map fun (n : Nat) => (n : Int)) k) (Builtin.bitXor c ((ms.map fun (n : Nat) => (n : Int)).getD k.toNat 0))) (c : Int)
      = ((ks.foldl (fun c k => (ms.take k).foldl (fun c o => Nat.xor c (gapN (ms.getD k 0) o)) (Nat.xor c (ms.getD k 0))) c : Nat) : Int)
  | [], _, c, _ => rfl
  | k :: r, hk, c, hc => by
    have hk0 := hk k (List.mem_cons_self ..)
    have hm := getD_lt h8 k
    obtain ⟨x1, x2⟩ := xor8 c hc _ hm
    obtain ⟨w1, w2⟩ := worth_in (ms := ms) (k := k) hm (ms.take k) (fun o ho => ⟨h8 o (List.mem_of_mem_take ho), take_ne hd hk0 o ho⟩) _ x2
    rw [List.map_cons, List.foldl_cons, List.foldl_cons, Int.zero_add, Int.toNat_natCast, map_getD, x1, ← List.map_take, w1]
    exact worth_go hd h8 r (fun k' h' => hk k' (List.mem_cons_of_mem _ h')) _ w2
theorem worth_N {ms : List Nat} (hd : ms.Nodup) (h8 : ∀ m ∈ ms, m < 8) : worthOf (ms.map fun (n : Nat) => (n : Int)) = (worthN ms : Int) := by
  unfold worthOf worthN rangeKs
  rw [List.length_map, show ((ms.length : Int) - 0).toNat = ms.length by omega]
  exact worth_go hd h8 _ (fun k hk => List.mem_range.mp hk) 0 (by decide)
theorem item_getD {l : List Nat} {i : Nat} (hi : i < l.length) : itemL l (i : Int) = [l.getD i 0] := by
  unfold itemL
  rw [seqIndex_at (i := (i : Int)) (by omega) (by omega), Int.toNat_natCast, List.getD_eq_getElem?_getD]
  rfl
theorem item_is {l : List Nat} {i x : Nat} (hi : i < l.length) : (itemL l (i : Int) == [x]) = Nat.beq (l.getD i 0) x := by
  rw [item_getD hi, one_beq', Bool.eq_iff_iff, beq_iff_eq, Nat.beq_eq]
theorem coins_N {l : List Nat} (h : l.length = 8) : coinsL l = (coinsN l).map fun (n : Nat) => (n : Int) := by
  unfold coinsL coinsN
  rw [List.filter_map]
  have e1 : ((List.range 8).map fun (i : Nat) => (0 : Int) + (i : Int) * 1) = (List.range 8).map fun (n : Nat) => (n : Int) := List.map_congr_left fun i _ => by omega
  have e2 : ∀ p : Nat → Bool, (List.filter p (List.range 8)).map (fun (i : Nat) => (0 : Int) + (i : Int) * 1) = (List.filter p (List.range 8)).map fun (n : Nat) => (n : Int) := fun p => List.map_congr_left fun i _ => by omega
  rw [e2]
  congr 1
  refine List.filter_congr fun i hi => ?_
  show (itemL l ((0 : Int) + (i : Int) * 1) == [98]) = _
  have hi8 := List.mem_range.mp hi
  rw [show (0 : Int) + (i : Int) * 1 = (i : Int) by omega, item_is (by omega)]
theorem coinsN_nodup (l : List Nat) : (coinsN l).Nodup := List.Pairwise.filter _ List.nodup_range
theorem goes_N {l : List Nat} {i j : Nat} (hi : i < l.length) (hj : j < l.length) : goesL l (j : Int) (i : Int) = (Nat.beq (l.getD j 0) 97 && Nat.beq (l.getD i 0) 98) := by
  unfold goesL
  rw [item_getD hi, item_getD hj]
  show (([l.getD j 0, l.getD i 0] : List Nat) == [97, 98]) = _
  rw [List.cons_beq_cons, one_beq']
  congr 1 <;> rw [Bool.eq_iff_iff, beq_iff_eq, Nat.beq_eq]
theorem others_N {l : List Nat} (h : l.length = 8) (st : Nat) : othersL l (st : Int) = ((coinsN l).filter fun o => !Nat.beq o st).map fun (n : Nat) => (n : Int) := by
  unfold othersL
  rw [coins_N h, List.filter_map]
  congr 1
  refine List.filter_congr fun o _ => ?_
  show (((o : Nat) : Int) != (st : Int)) = _
  rw [Bool.eq_iff_iff, bne_iff_ne, Bool.not_eq_true', ← Bool.not_eq_true, Nat.beq_eq]
  exact not_congr Int.ofNat_inj
theorem reachTo_N {l : List Nat} (h : l.length = 8) {st j : Nat} (hs : st < 8) (hj : j ≤ st) : reachTo l (st : Int) j = (reachToN l st j).map fun (n : Nat) => (n : Int) := by
  unfold reachTo reachToN
  rw [List.map_map, others_N h]
  have e : (List.range j).filter (fun (pl : Nat) => goesL l (pl : Int) (st : Int)) = (List.range j).filter fun pl => Nat.beq (l.getD pl 0) 97 && Nat.beq (l.getD st 0) 98 :=
    List.filter_congr fun pl hp => by have := List.mem_range.mp hp; exact goes_N (by omega) (by omega)
  rw [e]
  refine List.map_congr_left fun pl hp => ?_
  obtain ⟨h1, h2⟩ := List.mem_filter.mp hp
  rw [Bool.and_eq_true, Nat.beq_eq, Nat.beq_eq] at h2
  have hpl := List.mem_range.mp h1
  refine worth_N (ms := pl :: (coinsN l).filter fun o => !Nat.beq o st) (List.nodup_cons.mpr ⟨fun hm => ?_, List.Pairwise.filter _ (coinsN_nodup l)⟩) (fun m hm => ?_)
  · have := (List.mem_filter.mp (List.mem_filter.mp hm).1).2
    rw [Nat.beq_eq] at this
    rw [h2.1] at this
    cases this
  · rcases List.mem_cons.mp hm with rfl | hm
    · omega
    · exact List.mem_range.mp (List.mem_filter.mp (List.mem_filter.mp hm).1).1
theorem mask_app : ∀ a b : List Int, maskOf (a ++ b) = Nat.lor (maskOf a) (maskOf b)
  | [], b => (Nat.zero_or _).symm
  | .ofNat n :: r, b => by
    show 2 ^ n ||| maskOf (r ++ b) = (2 ^ n ||| maskOf r) ||| maskOf b
    rw [Nat.or_assoc, mask_app r b]; rfl
  | .negSucc n :: r, b => mask_app r b
theorem mask_fold : ∀ (r : List Nat) (m : Nat), r.foldl (fun m e => Nat.lor m (Nat.pow 2 e)) m = Nat.lor m (maskOf (r.map fun (n : Nat) => (n : Int)))
  | [], m => (Nat.or_zero m).symm
  | e :: r, m => by
    rw [List.foldl_cons, mask_fold r]
    show (m ||| 2 ^ e) ||| maskOf _ = m ||| (2 ^ e ||| maskOf _)
    rw [Nat.or_assoc]
theorem mask_N {l : List Nat} (h : l.length = 8) : ∀ n, n ≤ 8 → maskOf (reachL l n) = maskN l n
  | 0, _ => rfl
  | n + 1, hn => by
    show maskOf (reachL l n ++ reachTo l (n : Int) n) = Nat.lor (maskN l n) _
    rw [mask_app, mask_N h n (by omega), reachTo_N h (by omega) (Nat.le_refl _), mask_fold]
    congr 1
    exact (Nat.zero_or _).symm
noncomputable def finN (l : List Nat) : Bool := finM (maskN l 8) (told0 l) && finM (maskN l 8) (told1 l)
theorem fin_N {l : List Nat} (h : l.length = 8) (hf : finN l = true) : finB l = true := by
  unfold finB
  rw [mask_N h 8 (Nat.le_refl _)]
  exact hf
theorem fin_all8 : ((allL 8).all finN) = true := by decide +kernel
end Mine
end
section
open PySem PySem.W PyProof.Rows PySem.Calls PySem.Spec
set_option Elab.async false
namespace Mine
noncomputable def takB (c : List Nat) : Bool := (takenD c == pairsI c) && Nat.ble (pairsL c) 28
noncomputable def takB2 (c : List Nat) : Bool := takB c && takB (32 :: c)
theorem tak0 : ((allL 0).all takB2) = true := by decide +kernel
theorem tak1 : ((allL 1).all takB2) = true := by decide +kernel
theorem tak2 : ((allL 2).all takB2) = true := by decide +kernel
theorem tak3 : ((allL 3).all takB2) = true := by decide +kernel
theorem tak4 : ((allL 4).all takB2) = true := by decide +kernel
theorem tak8_aa : ((allL 6).all fun l => takB2 (97 :: 97 :: l)) = true := by decide +kernel
theorem tak8_ab : ((allL 6).all fun l => takB2 (97 :: 98 :: l)) = true := by decide +kernel
theorem tak8_ba : ((allL 6).all fun l => takB2 (98 :: 97 :: l)) = true := by decide +kernel
theorem tak8_bb : ((allL 6).all fun l => takB2 (98 :: 98 :: l)) = true := by decide +kernel
theorem abs8_in {c : List Nat} (h : abs8 c = true) : (c.length ≤ 4 ∨ c.length = 8) ∧ abL c := by
  unfold abs8 at h
  rw [Bool.and_eq_true, Bool.or_eq_true] at h
  refine ⟨h.1.imp Nat.le_of_ble_eq_true Nat.eq_of_beq_eq_true, fun x hx => ?_⟩
  have := List.all_eq_true.mp h.2 x hx
  rw [Bool.or_eq_true] at this
  exact this.imp Nat.eq_of_beq_eq_true Nat.eq_of_beq_eq_true
theorem tak_abs {c : List Nat} (h : abs8 c = true) : takB2 c = true := by
  obtain ⟨h1, h2⟩ := abs8_in h
  have go : ∀ (n : Nat) {f : List Nat → Bool}, ((allL n).all f) = true → ∀ r : List Nat, r.length = n → abL r → f r = true := fun n f hf r hr ha => List.all_eq_true.mp hf r (mem_allL hr ha)
  rcases h1 with h1 | h1
  · have : c.length = 0 ∨ c.length = 1 ∨ c.length = 2 ∨ c.length = 3 ∨ c.length = 4 := by omega
    rcases this with e | e | e | e | e
    · exact go 0 tak0 c e h2
    · exact go 1 tak1 c e h2
    · exact go 2 tak2 c e h2
    · exact go 3 tak3 c e h2
    · exact go 4 tak4 c e h2
  · match c, h1, h2 with
    | x :: y :: r, h1, h2 =>
      have hr : r.length = 6 := by simpa using h1
      have ha : abL r := fun z hz => h2 z (List.mem_cons_of_mem _ (List.mem_cons_of_mem _ hz))
      rcases h2 x (List.mem_cons_self ..) with rfl | rfl <;> rcases h2 y (List.mem_cons_of_mem _ (List.mem_cons_self ..)) with rfl | rfl
      · exact go 6 tak8_aa r hr ha
      · exact go 6 tak8_ab r hr ha
      · exact go 6 tak8_ba r hr ha
      · exact go 6 tak8_bb r hr ha
theorem okc_shape {c : List Nat} (h : okc c = true) : (c = [] ∨ ∃ r, c = 32 :: r ∧ abs8 r = true) ∨ abs8 c = true := by
  cases c with
  | nil => exact .inl (.inl rfl)
  | cons n r =>
    have h : (bif Nat.beq n 32 then abs8 r else abs8 (n :: r)) = true := h
    cases e : Nat.beq n 32 with
    | true => rw [e] at h; rw [Nat.eq_of_beq_eq_true e]; exact .inl (.inr ⟨r, rfl, h⟩)
    | false => rw [e] at h; exact .inr h
theorem tak_ok {c : List Nat} (h : okc c = true) : takB c = true := by
  have two : ∀ {r : List Nat}, takB2 r = true → takB r = true ∧ takB (32 :: r) = true := fun h => by unfold takB2 at h; rwa [Bool.and_eq_true] at h
  rcases okc_shape h with (rfl | ⟨r, rfl, hr⟩) | h
  · exact (two (tak_abs (c := []) rfl)).1
  · exact (two (tak_abs hr)).2
  · exact (two (tak_abs h)).1
theorem cnt_le (x : Nat) : ∀ c : List Nat, cntL x c ≤ c.length
  | [] => Nat.le_refl _
  | y :: r => by
    have := cnt_le x r
    rw [cntL, List.length_cons]
    cases Nat.beq y x
    · show cntL x r ≤ _; omega
    · show cntL x r + 1 ≤ _; omega
theorem okc_len {c : List Nat} (h : okc c = true) : c.length ≤ 9 ∧ cntL 97 c ≤ 8 ∧ cntL 98 c ≤ 8 := by
  have go : ∀ {r : List Nat}, abs8 r = true → r.length ≤ 8 ∧ cntL 97 r ≤ 8 ∧ cntL 98 r ≤ 8 := fun {r} h => by
    have h1 := (abs8_in h).1
    have h2 := cnt_le 97 r
    have h3 := cnt_le 98 r
    omega
  rcases okc_shape h with (rfl | ⟨r, rfl, hr⟩) | h
  · decide
  · obtain ⟨h1, h2, h3⟩ := go hr
    refine ⟨by rw [List.length_cons]; omega, ?_, ?_⟩
    · exact h2
    · exact h3
  · obtain ⟨h1, h2, h3⟩ := go h
    omega
theorem eight {l : List Nat} (h : l.length = 8) : ∃ a b c d e f g i, l = [a, b, c, d, e, f, g, i] := by
  match l, h with
  | [a, b, c, d, e, f, g, i], _ => exact ⟨a, b, c, d, e, f, g, i, rfl⟩
theorem colY_1_0 {l : List Nat} (h : l.length = 8) (ha : abL l) : colsL l 1 0 = colE_1_0 l := by
  obtain ⟨a, b, c, d, e, f, g, i, rfl⟩ := eight h
  rw [cols_D (rows_in 1 0 ha), colX_1_0]; rfl
theorem colY_2_0 {l : List Nat} (h : l.length = 8) (ha : abL l) : colsL l 2 0 = colE_2_0 l := by
  obtain ⟨a, b, c, d, e, f, g, i, rfl⟩ := eight h
  rw [cols_D (rows_in 2 0 ha), colX_2_0]; rfl
theorem colY_3_0 {l : List Nat} (h : l.length = 8) (ha : abL l) : colsL l 3 0 = colE_3_0 l := by
  obtain ⟨a, b, c, d, e, f, g, i, rfl⟩ := eight h
  rw [cols_D (rows_in 3 0 ha), colX_3_0]; rfl
theorem colY_4_0 {l : List Nat} (h : l.length = 8) (ha : abL l) : colsL l 4 0 = colE_4_0 l := by
  obtain ⟨a, b, c, d, e, f, g, i, rfl⟩ := eight h
  rw [cols_D (rows_in 4 0 ha), colX_4_0]; rfl
theorem colY_5_0 {l : List Nat} (h : l.length = 8) (ha : abL l) : colsL l 5 0 = colE_5_0 l := by
  obtain ⟨a, b, c, d, e, f, g, i, rfl⟩ := eight h
  rw [cols_D (rows_in 5 0 ha), colX_5_0]; rfl
theorem colY_6_0 {l : List Nat} (h : l.length = 8) (ha : abL l) : colsL l 6 0 = colE_6_0 l := by
  obtain ⟨a, b, c, d, e, f, g, i, rfl⟩ := eight h
  rw [cols_D (rows_in 6 0 ha), colX_6_0]; rfl
theorem colY_7_0 {l : List Nat} (h : l.length = 8) (ha : abL l) : colsL l 7 0 = colE_7_0 l := by
  obtain ⟨a, b, c, d, e, f, g, i, rfl⟩ := eight h
  rw [cols_D (rows_in 7 0 ha), colX_7_0]; rfl
theorem colY_1_1 {l : List Nat} (h : l.length = 8) (ha : abL l) : colsL l 1 1 = colE_1_1 l := by
  obtain ⟨a, b, c, d, e, f, g, i, rfl⟩ := eight h
  rw [cols_D (rows_in 1 1 ha), colX_1_1]; rfl
theorem colY_2_1 {l : List Nat} (h : l.length = 8) (ha : abL l) : colsL l 2 1 = colE_2_1 l := by
  obtain ⟨a, b, c, d, e, f, g, i, rfl⟩ := eight h
  rw [cols_D (rows_in 2 1 ha), colX_2_1]; rfl
theorem colY_3_1 {l : List Nat} (h : l.length = 8) (ha : abL l) : colsL l 3 1 = colE_3_1 l := by
  obtain ⟨a, b, c, d, e, f, g, i, rfl⟩ := eight h
  rw [cols_D (rows_in 3 1 ha), colX_3_1]; rfl
theorem colY_4_1 {l : List Nat} (h : l.length = 8) (ha : abL l) : colsL l 4 1 = colE_4_1 l := by
  obtain ⟨a, b, c, d, e, f, g, i, rfl⟩ := eight h
  rw [cols_D (rows_in 4 1 ha), colX_4_1]; rfl
theorem colY_5_1 {l : List Nat} (h : l.length = 8) (ha : abL l) : colsL l 5 1 = colE_5_1 l := by
  obtain ⟨a, b, c, d, e, f, g, i, rfl⟩ := eight h
  rw [cols_D (rows_in 5 1 ha), colX_5_1]; rfl
theorem colY_6_1 {l : List Nat} (h : l.length = 8) (ha : abL l) : colsL l 6 1 = colE_6_1 l := by
  obtain ⟨a, b, c, d, e, f, g, i, rfl⟩ := eight h
  rw [cols_D (rows_in 6 1 ha), colX_6_1]; rfl
theorem colY_7_1 {l : List Nat} (h : l.length = 8) (ha : abL l) : colsL l 7 1 = colE_7_1 l := by
  obtain ⟨a, b, c, d, e, f, g, i, rfl⟩ := eight h
  rw [cols_D (rows_in 7 1 ha), colX_7_1]; rfl
theorem main_L {l : List Nat} (h : l.length = 8) (ha : abL l) {w hd : Int} (h1 : 1 ≤ w) (h2 : w ≤ 7) (h3 : 0 ≤ hd) (h4 : hd ≤ 1) : mainB l w hd (colsL l w hd) = true := by
  have hl := mem_allL h ha
  have hw : w = 1 ∨ w = 2 ∨ w = 3 ∨ w = 4 ∨ w = 5 ∨ w = 6 ∨ w = 7 := by omega
  have hh : hd = 0 ∨ hd = 1 := by omega
  rcases hh with rfl | rfl <;> rcases hw with rfl | rfl | rfl | rfl | rfl | rfl | rfl
  · rw [colY_1_0 h ha]; exact List.all_eq_true.mp main_1_0 l hl
  · rw [colY_2_0 h ha]; exact List.all_eq_true.mp main_2_0 l hl
  · rw [colY_3_0 h ha]; exact List.all_eq_true.mp main_3_0 l hl
  · rw [colY_4_0 h ha]; exact List.all_eq_true.mp main_4_0 l hl
  · rw [colY_5_0 h ha]; exact List.all_eq_true.mp main_5_0 l hl
  · rw [colY_6_0 h ha]; exact List.all_eq_true.mp main_6_0 l hl
  · rw [colY_7_0 h ha]; exact List.all_eq_true.mp main_7_0 l hl
  · rw [colY_1_1 h ha]; exact List.all_eq_true.mp main_1_1 l hl
  · rw [colY_2_1 h ha]; exact List.all_eq_true.mp main_2_1 l hl
  · rw [colY_3_1 h ha]; exact List.all_eq_true.mp main_3_1 l hl
  · rw [colY_4_1 h ha]; exact List.all_eq_true.mp main_4_1 l hl
  · rw [colY_5_1 h ha]; exact List.all_eq_true.mp main_5_1 l hl
  · rw [colY_6_1 h ha]; exact List.all_eq_true.mp main_6_1 l hl
  · rw [colY_7_1 h ha]; exact List.all_eq_true.mp main_7_1 l hl
theorem main_parts {l : List Nat} {w hd : Int} {cols : List (List Nat)} (h : mainB l w hd cols = true) : (∀ c ∈ cols, okc c = true) ∧ 0 ≤ aboveD cols hd ∧ aboveD cols hd ≤ 1000 ∧ ilOf w 2 (0 + ((coinsL l).length : Int)) (wsFold hd (coinsL l) []) = 2 + w * ((coinsL l).length + aboveD cols hd + (cols.map pairsI).sum) := by
  unfold mainB at h
  rw [Bool.and_eq_true, Bool.and_eq_true, Bool.and_eq_true, List.all_eq_true, decide_eq_true_iff, decide_eq_true_iff, beq_iff_eq] at h
  exact h
theorem strip_ab {S : Str} (h : StripOk 8 S) : (tl S).length = 8 ∧ abL (tl S) := by
  refine ⟨by rw [tl_len]; exact h.1, fun c hc => ?_⟩
  have h2 := h.2 ⟨#[c]⟩ (by rw [signs_eq]; exact List.mem_map.mpr ⟨c, hc, rfl⟩)
  rcases h2 with e | e
  · have := congrArg tl e; rw [tl_a] at this; exact .inl (List.cons.inj this).1
  · have := congrArg tl e; rw [tl_b] at this; exact .inr (List.cons.inj this).1
theorem facts {S : Str} {w hd : Int} (hS : StripOk 8 S) (h1 : 1 ≤ w) (h2 : w ≤ 7) (h3 : 0 ≤ hd) (h4 : hd ≤ 1) : (∀ c ∈ colsL (tl S) w hd, okc c = true) ∧ 0 ≤ aboveD (colsL (tl S) w hd) hd ∧ aboveD (colsL (tl S) w hd) hd ≤ 1000 ∧ ilOf w 2 (0 + ((coinsL (tl S)).length : Int)) (wsFold hd (coinsL (tl S)) []) = 2 + w * ((coinsL (tl S)).length + aboveD (colsL (tl S) w hd) hd + ((colsL (tl S) w hd).map pairsI).sum) := main_parts (main_L (strip_ab hS).1 (strip_ab hS).2 h1 h2 h3 h4)
theorem cols_ok {S : Str} {w hd : Int} (hS : StripOk 8 S) (h1 : 1 ≤ w) (h2 : w ≤ 7) (h3 : 0 ≤ hd) (h4 : hd ≤ 1) : ∀ c ∈ colsOf S w hd, okc (tl c) = true := fun c hc =>
  (facts hS h1 h2 h3 h4).1 (tl c) (by rw [← cols_L]; exact List.mem_map_of_mem hc)
theorem taken_ok {c : Str} (h : okc (tl c) = true) : takenOf c = pairsI (tl c) ∧ pairsL (tl c) ≤ 28 := by
  have := tak_ok h
  unfold takB at this
  rw [Bool.and_eq_true, beq_iff_eq] at this
  rw [taken_L, taken_D]
  exact ⟨this.1, Nat.le_of_ble_eq_true this.2⟩
theorem counts_P {S : Str} {w hd : Int} (hS : StripOk 8 S) (h1 : 1 ≤ w) (h2 : w ≤ 7) (h3 : 0 ≤ hd) (h4 : hd ≤ 1) : countsOf S w hd = (colsL (tl S) w hd).map pairsI := by
  unfold countsOf
  rw [← cols_L, List.map_map]
  exact List.map_congr_left fun c hc => (taken_ok (cols_ok hS h1 h2 h3 h4 c hc)).1
theorem cols_short {S : Str} {w hd : Int} (hS : StripOk 8 S) (h1 : 1 ≤ w) (h2 : w ≤ 7) (h3 : 0 ≤ hd) (h4 : hd ≤ 1) : ∀ c ∈ colsOf S w hd, c.length ≤ 9 ∧ Txt.count c (Str.ofString "a") ≤ 8 ∧ Txt.count c (Str.ofString "b") ≤ 8 := fun c hc => by
  obtain ⟨a1, a2, a3⟩ := okc_len (cols_ok hS h1 h2 h3 h4 c hc)
  rw [count_L, count_L, tl_a, tl_b, count_cnt, count_cnt, ← tl_len]
  omega
theorem counts_bound {S : Str} {w hd : Int} (hS : StripOk 8 S) (h1 : 1 ≤ w) (h2 : w ≤ 7) (h3 : 0 ≤ hd) (h4 : hd ≤ 1) : ∀ n ∈ countsOf S w hd, 0 ≤ n ∧ n ≤ 28 := fun n hn => by
  unfold countsOf at hn
  obtain ⟨c, hc, rfl⟩ := List.mem_map.mp hn
  obtain ⟨e, h⟩ := taken_ok (cols_ok hS h1 h2 h3 h4 c hc)
  rw [e]
  unfold pairsI
  omega
theorem above_bound {S : Str} {w hd : Int} (hS : StripOk 8 S) (h1 : 1 ≤ w) (h2 : w ≤ 7) (h3 : 0 ≤ hd) (h4 : hd ≤ 1) : 0 ≤ aboveOf S w hd ∧ aboveOf S w hd ≤ 1000 := by
  rw [above_L, above_D]
  exact ⟨(facts hS h1 h2 h3 h4).2.1, (facts hS h1 h2 h3 h4).2.2.1⟩
theorem main_eq {S : Str} {w hd b n nt : Int} {cs : List Int} (hS : StripOk 8 S) (h1 : 1 ≤ w) (h2 : w ≤ 7) (h3 : 0 ≤ hd) (h4 : hd ≤ 1) (hg : (b, n, nt, cs) = wsGo (signs (leadOf S hd)) 0 0 0 []) :
    ilOf w b nt cs = 2 + w * ((coinsOf S).length + aboveOf S w hd + (countsOf S w hd).sum) := by
  rw [signs_eq, wsGo_L, lead_L] at hg
  obtain ⟨n', hn⟩ := ws_lead (l := tl S) h3
  rw [hn] at hg
  obtain ⟨rfl, _, rfl, rfl⟩ : b = 2 ∧ n = n' ∧ nt = 0 + ((coinsL (tl S)).length : Int) ∧ cs = wsFold hd (coinsL (tl S)) [] := by simpa using hg
  rw [counts_P hS h1 h2 h3 h4, coins_L, above_L, above_D]
  exact (facts hS h1 h2 h3 h4).2.2.2
theorem sum_P {S : Str} {w hd : Int} (hS : StripOk 8 S) (h1 : 1 ≤ w) (h2 : w ≤ 7) (h3 : 0 ≤ hd) (h4 : hd ≤ 1) : (countsOf S w hd).sum.fmod 2 = sumP (colsL (tl S) w hd) := by rw [counts_P hS h1 h2 h3 h4]; rfl
theorem told_L {S : Str} (hS : StripOk 8 S) {hd : Int} (h3 : 0 ≤ hd) (h4 : hd ≤ 1) (total : Int) : toldOf S hd total 4 = 0 + 1 * sumP (colsL (tl S) 1 hd) + 2 * sumP (colsL (tl S) 2 hd) + 4 * sumP (colsL (tl S) 4 hd) := by
  rw [← sum_P hS (by decide) (by decide) h3 h4, ← sum_P hS (by decide) (by decide) h3 h4, ← sum_P hS (by decide) (by decide) h3 h4]
  rfl
theorem fin_all {l : List Nat} (h : l.length = 8) (ha : abL l) : finB l = true := fin_N h (List.all_eq_true.mp fin_all8 l (mem_allL h ha))
theorem fin_S {S : Str} (hS : StripOk 8 S) {total : Int} : finM (maskOf (reachedOf S 8)) (toldOf S (total.fmod 2) total 4) = true := by
  obtain ⟨hl, ha⟩ := strip_ab hS
  have hf := fin_all hl ha
  unfold finB at hf
  rw [Bool.and_eq_true] at hf
  have hm : total.fmod 2 = 0 ∨ total.fmod 2 = 1 := by rw [Int.fmod_eq_emod_of_nonneg _ (by decide)]; omega
  rw [reach_L]
  rcases hm with e | e <;> rw [e, told_L hS (by decide) (by decide)]
  · rw [colY_1_0 hl ha, colY_2_0 hl ha, colY_4_0 hl ha]; exact hf.1
  · rw [colY_1_1 hl ha, colY_2_1 hl ha, colY_4_1 hl ha]; exact hf.2
theorem e_fin {S : Str} (hS : StripOk 8 S) {total : Int} : (reachedOf S 8).any (· == toldOf S (total.fmod 2) total 4) = false ∧ ∀ k, 0 ≤ k → k < toldOf S (total.fmod 2) total 4 → (reachedOf S 8).any (· == k) = true := (finM_parts (fin_S hS)).2.2
theorem told_bound {S : Str} (hS : StripOk 8 S) {total : Int} : 0 ≤ toldOf S (total.fmod 2) total 4 ∧ toldOf S (total.fmod 2) total 4 ≤ 7 := ⟨(finM_parts (fin_S hS)).1, (finM_parts (fin_S hS)).2.1⟩
theorem item_nat {l : List Nat} {i : Nat} (hi : i < l.length) : itemL l (i : Int) = [l[i]] := by
  unfold itemL
  rw [seqIndex_at (i := (i : Int)) (by omega) (by omega), Int.toNat_natCast]
  show [(l[i]?).getD 0] = _
  rw [List.getElem?_eq_getElem hi]; rfl
theorem coins_any {l : List Nat} {i : Nat} (hi : i < l.length) (h8 : l.length = 8) : (coinsL l).any (· == (i : Int)) = (l[i] == 98) := by
  rw [Bool.eq_iff_iff, List.any_eq_true]
  unfold coinsL
  constructor
  · rintro ⟨k, hk, e⟩
    rw [beq_iff_eq] at e
    subst e
    have := (List.mem_filter.mp hk).2
    rw [item_nat hi, one_beq'] at this
    exact this
  · intro h
    refine ⟨(i : Int), List.mem_filter.mpr ⟨List.mem_map.mpr ⟨i, List.mem_range.mpr (by omega), by omega⟩, ?_⟩, beq_self_eq_true _⟩
    rw [item_nat hi, one_beq']; exact h
theorem e_put {S : Str} (hS : StripOk 8 S) {i : Nat} (hi : i < 8) : em (Txt.slice S none (some (i : Int)) ++ Str.ofString "b" ++ Txt.slice S (some ((i : Int) + 1)) none) S = (coinsOf S).any (· == (i : Int)) := by
  obtain ⟨hl, ha⟩ := strip_ab hS
  rw [em_L, tl_app, tl_app, slice_to (by omega) (by omega), slice_from (by omega) (by omega), tl_b, coins_L, coins_any (by omega) hl, show ((i : Int) + 1).toNat = i + 1 by omega, Int.toNat_natCast]
  exact put_L ha (by omega)
theorem e_pre {S : Str} (hS : StripOk 8 S) {i : Nat} (hi : i < 8) : em (Txt.slice S none (some (i : Int))) S = false := by
  obtain ⟨hl, ha⟩ := strip_ab hS
  rw [em_L, slice_to (by omega) (by omega), Int.toNat_natCast]
  exact pre_L ha (by omega)
theorem e_suf {S : Str} (hS : StripOk 8 S) {i : Nat} (hi : i < 8) : em (Txt.slice S (some ((i : Int) + 1)) none) S = false := by
  obtain ⟨hl, ha⟩ := strip_ab hS
  rw [em_L, slice_from (by omega) (by omega), show ((i : Int) + 1).toNat = i + 1 by omega]
  exact suf_L ha (by omega)
theorem e_cut {S : Str} (hS : StripOk 8 S) {i : Nat} (hi : i < 8) {r : Int} (h0 : 0 ≤ r) (h1 : r ≤ i) : em (Txt.slice S none (some ((i : Int) + 1)) ++ Str.ofString "..." ++ Txt.slice S (some r) none) S = false := by
  obtain ⟨hl, ha⟩ := strip_ab hS
  rw [em_L, tl_app, tl_app, slice_to (by omega) (by omega), slice_from (by omega) (by omega), tl_dots, show ((i : Int) + 1).toNat = i + 1 by omega]
  exact cut_L ha (by omega) (by omega)
theorem goes_nat {l : List Nat} {i j : Nat} (hi : i < l.length) (hj : j < l.length) : goesL l (j : Int) (i : Int) = ((l[j] == 97) && (l[i] == 98)) := by
  unfold goesL
  rw [item_nat hi, item_nat hj]
  show (([l[j], l[i]] : List Nat) == [97, 98]) = _
  rw [List.cons_beq_cons, one_beq']
theorem e_go {S : Str} (hS : StripOk 8 S) {i j : Nat} (hi : i < 8) (hj : j < i) : em (Txt.slice S none (some (j : Int)) ++ Str.ofString "a...b" ++ Txt.slice S (some ((i : Int) + 1)) none) S = goesAt S (j : Int) (i : Int) := by
  obtain ⟨hl, ha⟩ := strip_ab hS
  have e : tl (Str.ofString "a...b") = [97, 46, 46, 46, 98] := by decide +kernel
  rw [em_L, tl_app, tl_app, slice_to (by omega) (by omega), slice_from (by omega) (by omega), e, goes_L, goes_nat (by omega) (by omega), show ((i : Int) + 1).toNat = i + 1 by omega, Int.toNat_natCast]
  exact go_L ha (by omega) hj
theorem e_pass {S : Str} (hS : StripOk 8 S) {i j : Nat} (hi : i < 8) (hj : j < i) (hg : goesAt S (j : Int) (i : Int) = true) : em (Txt.slice S none (some (j : Int)) ++ Str.ofString "a...b...b" ++ Txt.slice S (some ((i : Int) + 1)) none) S = !(Builtin.Str.occurrences (Txt.slice S (some ((j : Int) + 1)) (some (i : Int))) (Str.ofString "b") 0 (Txt.slice S (some ((j : Int) + 1)) (some (i : Int))).length 1).isEmpty := by
  obtain ⟨hl, ha⟩ := strip_ab hS
  have e : tl (Str.ofString "a...b...b") = [97, 46, 46, 46, 98, 46, 46, 46, 98] := by decide +kernel
  rw [goes_L, goes_nat (by omega) (by omega)] at hg
  rw [em_L, tl_app, tl_app, slice_to (by omega) (by omega), slice_from (by omega) (by omega), e, occ_A, ← tl_len, slice_mid (by omega) (by omega) (by omega), tl_b, show ((i : Int) + 1).toNat = i + 1 by omega, show ((j : Int) + 1).toNat = j + 1 by omega, show ((i : Int) - ((j : Int) + 1)).toNat = i - (j + 1) by omega, Int.toNat_natCast]
  exact pass_L ha (by omega) hj hg
end Mine
end
section
open PySem PySem.W PyProof.Rows
set_option Elab.async false
namespace Mine
/-- the text's top, run through with its checks met -/
theorem top_done {tb : String → Option Builtin} {p : Program} {w : World} {N : Nat} {s₀ s₁ : Shared} (z : (s₀.heap.isNs mainGlobals && s₀.gens.size == 0) = true)
    (r : topRun tb p w s₀.heap.objs.size (s₀.heap.nsMap mainGlobals "__annotations__") N s₀ (topStub p) = some s₁)
    (c : (staticsOk (importedModules p.main.body) s₀.heap s₁.heap && namesBound p s₁.heap && gensDone s₁ && laidKept s₀.heap s₁.heap) = true) : topFrom tb p w N s₀ = some s₁ := by
  simp only [topFrom, z, r, Option.bind_some, c]
theorem left_of {p q : Program} {loose : List Str} {Xt : Shared → Bool} {α : Type} {Yf : Shared → α} {Ya : World → α} {N : Nat} {g0 : Bool} {H₀ : Params → Heap} {gs₀ : Array GenState} {d₀ : Drawn} {k₀ m₀ : Nat} {ann : Option Value}
    (opn : ∀ w : World, (fencedOpening treeTable p w N).map (fun s => (s.heap, s.gens, s.drawn, s.toks)) = some (H₀ w.params, gs₀, d₀, k₀))
    (size : ∀ w : World, ((H₀ w.params).isNs mainGlobals && gs₀.size == 0, (H₀ w.params).objs.size, (H₀ w.params).nsMap mainGlobals "__annotations__") = (true, m₀, ann))
    (run : ∀ (w : World), (fun os : OsState => (topRun treeTable p w m₀ ann N ⟨H₀ w.params, gs₀, d₀, k₀, os⟩ (topStub p)).map fun s => ((staticsOk (importedModules p.main.body) (H₀ w.params) s.heap && namesBound p s.heap && gensDone s && laidKept (H₀ w.params) s.heap), openSeen q loose (importedModules p.main.body) Xt g0 s, Yf s)) = fun _ => some (true, openGood q loose, Ya w)) : LeftO p q loose Xt Yf Ya N g0 := fun w => by
  have o := opn w
  cases e : fencedOpening treeTable p w N with
  | none => rw [e] at o; cases o
  | some s₀ =>
    rw [e] at o
    have o := Option.some.inj o
    have h1 : s₀.heap = H₀ w.params := congrArg (·.1) o
    have h2 : s₀.gens = gs₀ := congrArg (·.2.1) o
    have h3 : s₀ = ⟨H₀ w.params, gs₀, d₀, k₀, s₀.os⟩ := by
      rw [← h1, ← h2, ← show s₀.drawn = d₀ from congrArg (·.2.2.1) o, ← show s₀.toks = k₀ from congrArg (·.2.2.2) o]
    have l := congrFun (run w) s₀.os
    rw [← h3] at l
    cases r : topRun treeTable p w m₀ ann N s₀ (topStub p) with
    | none => rw [r] at l; cases l
    | some s₁ =>
      rw [r] at l
      have l := Option.some.inj l
      have z := size w
      have t : topFrom treeTable p w N s₀ = some s₁ := by
        refine top_done ?_ ?_ ?_
        · rw [h1, h2]; exact congrArg (·.1) z
        · rw [h1, show (H₀ w.params).objs.size = m₀ from congrArg (·.2.1) z, show (H₀ w.params).nsMap mainGlobals "__annotations__" = ann from congrArg (·.2.2) z]; exact r
        · rw [h1]; exact congrArg (·.1) l
      unfold openEnds
      rw [e, Option.bind_some, t]
      exact congrArg some (congrArg (·.2) l)
section
set_option maxRecDepth 100000
set_option maxHeartbeats 0
noncomputable def as9 : List Addr := [2, 3, 15, 17, 18, 20, 21, 22, 24, 25, 27, 28, 36, 38, 39, 41, 42, 43, 45, 46, 48, 49, 50, 52, 53, 55, 56, 57, 59, 60, 62, 63, 64, 66, 67, 69, 70, 71, 73, 74, 76, 77, 78, 80, 81, 83, 84, 85, 87, 88, 90, 91, 92, 94, 95, 97, 98, 99, 100, 101, 102, 103, 106, 109, 114, 115, 116, 118, 119, 121, 122, 123, 125, 126, 128, 129, 130, 131, 133, 134, 136, 137, 138, 139, 141, 142, 144, 145, 146, 148, 149, 151, 152, 153, 155, 156, 158, 159, 160, 161, 163, 164, 166, 167, 168, 170, 171, 173, 174, 175, 176, 178, 179, 181, 182, 183, 184, 185, 186, 187, 200, 202, 203, 205, 206, 207, 209, 210, 212, 213, 214, 216, 217, 219, 220, 221, 223, 224, 226, 227, 228, 230, 231, 233, 234, 235, 237, 238, 240, 241, 242, 244, 245, 247, 248, 249, 250, 251, 252, 253, 256, 259, 260, 261, 263, 264, 266, 267, 268, 270, 271, 273, 274, 275, 278, 279]
theorem as9_eq (P : Params) : as9 = (hd.heap_39 P).map (·.1) := by kernel_rfl
noncomputable def hook9 : Hook := kmHook hd.heap_39 as9 as9_eq [147, 154]
noncomputable def loose9 : List Str := [Str.ofString "_Accumulator", Str.ofString "Whitespace"]
noncomputable def xt9 (s : Shared) : Bool := xlAt hd.view_39 [] s && recOk (RowW.records Challenge.rw_sr0083_01.row.toRowW) s
theorem size9 (w : World) : ((boot_heap w.params).isNs mainGlobals && (#[] : Array GenState).size == 0, (boot_heap w.params).objs.size, (boot_heap w.params).nsMap mainGlobals "__annotations__") = (true, 11, some (.ref 6)) := by kernel_rfl
theorem opn9 : ∀ w : World, (fencedOpening treeTable Challenge.pw_sr0083_01 w 3584).map (fun s => (s.heap, s.gens, s.drawn, s.toks)) = some (boot_heap w.params, Array.mk [], boot_drawn, boot_toks) :=
  boot_open (by kernel_rfl) (by decide) (fun s => by kernel_rfl)
noncomputable def Run9 (w : World) : Prop := (fun os : OsState => (topRun treeTable Challenge.pw_sr0083_01 w 11 (some (.ref 6)) 3584 ⟨boot_heap w.params, #[], boot_drawn, boot_toks, os⟩ (topStub Challenge.pw_sr0083_01)).map fun s => ((staticsOk (importedModules Challenge.pw_sr0083_01.main.body) (boot_heap w.params) s.heap && namesBound Challenge.pw_sr0083_01 s.heap && gensDone s && laidKept (boot_heap w.params) s.heap), openSeen hd.view_39 loose9 (importedModules Challenge.pw_sr0083_01.main.body) xt9 true s, hook9.obs s)) = fun _ => some (true, openGood hd.view_39 loose9, hook9.val w)
theorem run9f (w : World) : Run9 (w.withFollow "special-get-raises" false) := by
  unfold Run9
  rw [PySem.W.Fast.te14082659384304107361, PySem.W.Fast.te4187177175401517315, PySem.W.Fast.te5923862056798008813, PySem.W.Fast.te14364793385576792824]
  kernel_rfl
theorem run9t (w : World) : Run9 (w.withFollow "special-get-raises" true) := by
  unfold Run9
  rw [PySem.W.Fast.te14082659384304107361, PySem.W.Fast.te4187177175401517315, PySem.W.Fast.te5923862056798008813, PySem.W.Fast.te14364793385576792824]
  kernel_rfl
theorem left9 : LeftO Challenge.rw_sr0083_01.row.toRowW.prog hd.view_39 [Str.ofString "_Accumulator", Str.ofString "Whitespace"] (fun s => xlAt hd.view_39 [] s && recOk (RowW.records Challenge.rw_sr0083_01.row.toRowW) s) (Hook.obs (kmHook hd.heap_39 as9 as9_eq [147, 154])) (Hook.val (kmHook hd.heap_39 as9 as9_eq [147, 154])) 3584 :=
  left_of opn9 size9 (fun w => byRow2 "special-get-raises" (P := Run9) run9f run9t w)
theorem said9 : OpenLaw.wellSaid Challenge.rw_sr0083_01 = true := by
  rw [PySem.W.Fast.te9446332074065402090]
  kernel_rfl
end
end Mine
end
section
open PySem PySem.W PyProof.Rows PySem.Calls PySem.Spec
set_option Elab.async false
namespace Mine
section
local macro_rules | `(tactic| walk_at "binaryOp Mult int int") => `(tactic| (k_dflt (refine mul_small (by omega) (by omega) ?_); intro t' k'))
local macro_rules | `(tactic| walk_at "binaryOp Add str str") => `(tactic| (k_dflt (refine add_strs' (by omega) ?_); intro t' k' l'))
set_option maxRecDepth 100000 in
set_option maxHeartbeats 0 in
theorem law_holds : PySem.Challenge.rw_sr0083_01.Holds := by
  w_on
  refine holds_law said9 fun said => ?_
  clear said
  refine holds_open (q := hd.view_39) (loose := [Str.ofString "_Accumulator", Str.ofString "Whitespace"]) (Xt := fun s => xlAt hd.view_39 [] s && recOk (RowW.records Challenge.rw_sr0083_01.row.toRowW) s) (XP := XL hd.view_39 []) (Yf := Hook.obs (kmHook hd.heap_39 as9 as9_eq [147, 154])) (Ya := Hook.val (kmHook hd.heap_39 as9 as9_eq [147, 154])) (YP := Hook.says (kmHook hd.heap_39 as9 as9_eq [147, 154])) (N := 3584) left9 (Hook.of (kmHook hd.heap_39 as9 as9_eq [147, 154])) (Hook.keeps (kmHook hd.heap_39 as9 as9_eq [147, 154])) (fun s e => xl_of s (Bool.and_eq_true_iff.mp e).1) XL.keeps (by rfl) (by rfl) (by rfl) (fun s e => recFacts_of (Bool.and_eq_true_iff.mp e).2) (by first | rfl | fail "open_line: no head takes a call that writes beside a table") (by first | assumption | decide +kernel) (by decide +kernel) ⟨rfl, rfl, rfl, rfl, rfl, by decide +kernel⟩ ?hw9 ?hc9
  (case hw9 => w_witness2)
  w_strict (
    k_fill
    intro w s₀ s₁ mg mb G Y fa o pm cd doc dV kV ho hd hcd hD hmg hg args vals as hpre hlay hrd hwl hlo
    have KX := km_in_of Y
    have hT8 := km_tabs_of Y
    have X := (Ground.X G).1
    have V := (Ground.X G).2
    refine Ground.open G ?_
    intro T B D TE TW
    try (refine guard_noD D (by decide +kernel) ?_; clear D)
    have hT9 : TabsAt [(151, 147), (158, 154)] _ := List.forall_mem_cons.mpr ⟨⟨codeHd_of_K KX (by kernel_rfl), hT8 147 (.head _)⟩, List.forall_mem_cons.mpr ⟨⟨codeHd_of_K KX (by kernel_rfl), hT8 154 (.tail _ (.head _))⟩, fun _ h => nomatch h⟩⟩
    clear hmg
    wrow_args hpre hlay hrd hwl hlo
    all_goals (
      first | refine callC_kw (enter_call ?_) | refine enter_call ?_
      w_top on
      refine my_post hT9 ?_
      w_call any ho hd hcd hD T F
      clear hd
      kn_ghosts F T
      k_drop
      skip))
  (try clear Y); (try clear hcd); (try clear hT8); (try clear hD)
  (try (rename CellsAre _ _ _ => z1; clear z1))
  (try clear TE); (try clear TW); (try clear B); (try clear X); (try clear V); (try clear G); (try clear hT9)
  (rename (Obj.data _ = _) => cd3); revert cd3; (rename (Obj.data _ = _) => cd2); revert cd2; (rename (Obj.data _ = _) => cd1); revert cd1; (rename (Obj.data _ = _) => cd0); intro cd1 cd2 cd3
  generalize hd.view_39 = qv at *
  generalize looseW qv [Str.ofString "_Accumulator", Str.ofString "Whitespace"] = lv at *
  (rename Fr _ _ _ _ => F0); (rename News _ _ _ _ => N0); (rename Frag.In _ _ => lawX); (rename Top _ _ _ _ _ _ => lawT); (rename Below _ _ _ _ => lawB)
  rename IntsAre _ _ => hI0
  rename (_ = (#[] : Array GenState)) => hgens
  rename (147 < _ ∧ 154 < _) => lt0
  rename List Int => ns0
  have hbare := AllBare.of_eq hgens
  rename (¬ (63 : Int) < _) => h63
  repeat (k_unfold; (try dsimp only))
  refine absQ (fun P => ∀ (s' : Shared) (m' : Str → Option Value) (p1 p2 : Array Value), Fr (ghostOf s₁.heap [(151, 147), (158, 154)]) s₁.heap.objs.size s'.heap m' → News (ghostOf s₁.heap [(151, 147), (158, 154)]) s₁.heap.objs.size s'.heap [(147, tabObj p1), (154, tabObj p2)] → AllBare s'.gens → s'.os = s₁.os → P (.ret (.bool true)) s') ?hR ?_
  case hR =>
    intro s' m' p1 p2 F N hb ho
    refine ⟨goodB_true F hb (fun _ => rfl) ?hpo ho, ⟨_, (N _ (.head _)).1⟩, ⟨_, (N _ (.tail _ (.head _))).1⟩, trivial⟩
    refine postW_of (X := true) ?pa ?pb rfl
    case pa => first | rfl | kernel_rfl
    case pb => first | rfl | with_unfolding_all rfl | kernel_rfl
  intro P0 hP0
  repeat' (first | (k_unfold; (try dsimp only)) | ((with_reducible show wpAny _ _ (execs (_ :: _) _) _ _ _); (refine exCons0 ?_; intro Pq hPq)) | (with_reducible refine Aft.next (by assumption) ?_) | (with_reducible refine Aft.ret (by assumption) ?_) | (with_reducible refine Aft.brk (by assumption) ?_) | (with_reducible refine Aft.cont (by assumption) ?_) | ((fail_if_success (with_reducible show wpAny _ _ (exec (PySem.Stmt.For _ _ _ _ _) _) _ _ _)); walk1) | fail "no step")
  (rename Fr _ _ _ _ => F1); (rename News _ _ _ _ => N1)
  refine my_For F1 rfl rfl ?_
  repeat' (first | (k_unfold; (try dsimp only)) | ((with_reducible show wpAny _ _ (execs (_ :: _) _) _ _ _); (refine exCons0 ?_; intro Pq hPq)) | (with_reducible refine Aft.next (by assumption) ?_) | (with_reducible refine Aft.ret (by assumption) ?_) | (with_reducible refine Aft.brk (by assumption) ?_) | (with_reducible refine Aft.cont (by assumption) ?_) | ((fail_if_success (with_reducible show wpAny _ _ (pyIter _) _ _ _)); walk1) | fail "no step")
  (rename Fr _ _ _ _ => F1); (rename News _ _ _ _ => N1); (rename IsRange _ _ _ _ _ _ _ _ => R1)
  refine my_range (n := 8) (J1 _ _ _ _ _ _ _) rfl R1 (by decide) (by decide) F1 N1 ⟨fun _ _ => rfl, hbare, _, _, _, rfl, by assumption, strip_nil⟩ ?step ?_
  case step =>
    rintro I hI i t m₁ nx it s₂ hi8 ⟨hm1, hbr, oS, S, tS, rfl, hoS, hS⟩ ho1 hd1 hoff hcls F2 N2
    rw [keep_map1 hm1] at F2
    have hSl := hS.1
    (try clear F1 N1)
    k_lt hI
    refine absT ?_; intro P1 hP1
    refine exCons0 ?_; intro Pq hPq
    repeat' (first | (k_unfold; (try dsimp only)) | ((with_reducible show wpAny _ _ (execs (_ :: _) _) _ _ _); (first | (refine exCons s₂ ?_; intro kS Pq hPq) | (refine exCons0 ?_; intro Pq hPq))) | (with_reducible refine Aft.next (by assumption) ?_) | (with_reducible refine Aft.ret (by assumption) ?_) | (with_reducible refine Aft.brk (by assumption) ?_) | (with_reducible refine Aft.cont (by assumption) ?_) | ((fail_if_success (with_reducible show wpAny _ _ (subscriptTail _ _ (.ref _) (.int _ _)) _ _ _)); walk1) | fail "no step")
    (rename Fr _ _ _ _ => F3); (rename News _ _ _ _ => N3)
    refine item_ints (ns := [0, 1, 0, 1, 1, 0, 0, 1]) N3 (.head _) (.cons _ _ (.cons _ _ (.cons _ _ (.cons _ _ (.cons _ _ (.cons _ _ (.cons _ _ (.cons _ _ .nil)))))))) (by omega) (by simp; omega) (by omega) ?_
    intro t3
    (try clear F2 N2)
    generalize ([0, 1, 0, 1, 1, 0, 0, 1] : List Int).getD (0 + (i : Int) * 1).toNat 0 = num
    repeat' (first | (k_unfold; (try dsimp only)) | ((with_reducible show wpAny _ _ (execs (_ :: _) _) _ _ _); (first | (refine exCons s₂ ?_; intro kS Pq hPq) | (refine exCons0 ?_; intro Pq hPq))) | (with_reducible refine Aft.next (by assumption) ?_) | (with_reducible refine Aft.ret (by assumption) ?_) | (with_reducible refine Aft.brk (by assumption) ?_) | (with_reducible refine Aft.cont (by assumption) ?_) | ((fail_if_success (with_reducible show P1 _ _)); walk1) | fail "no step")
    all_goals
      (rename Fr _ _ _ _ => F9); (rename News _ _ _ _ => N9)
      refine hP1 _ ?_
      refine' J1_end F9 N9 ?hs hoff rfl rfl hbr ?hm ?hc ?hS
      case hc => assumption
      case hS => first | exact strip_b hS | exact strip_a hS
      case hs => k_allIn
      case hm =>
        intro y hy
        have hy2 := hy
        simp only [List.contains_cons, List.contains_nil, Bool.or_eq_false_iff, beq_eq_false_iff_ne, ne_eq] at hy2
        simp only [hy2.1, hy2.2.1, hy, Bool.false_eq_true, if_false]
  rintro m₁ nx s₂ ⟨hm1, hbr, oS, S, tS, rfl, hoS, hS⟩ ho1 hd1 F2 N2
  rw [keep_map hm1] at F2
  have hSl := hS.1
  (try clear F1 N1)
  repeat' (first | (k_unfold; (try dsimp only)) | ((with_reducible show wpAny _ _ (execs (_ :: _) _) _ _ _); (first | (refine exCons s₂ ?_; intro kS Pq hPq) | (refine exCons0 ?_; intro Pq hPq))) | (with_reducible refine Aft.next (by assumption) ?_) | (with_reducible refine Aft.ret (by assumption) ?_) | (with_reducible refine Aft.brk (by assumption) ?_) | (with_reducible refine Aft.cont (by assumption) ?_) | ((fail_if_success (with_reducible show wpAny _ _ (eval (PySem.Expr.ListComp _ _ _ _) _) _ _ _)); walk1) | fail "no step")
  k_dflt (refine LCg.ListComp_U (F₀ := by k_asm) (by rfl) (by decide) (by rfl) (by decide) (by rfl) ?_)
  k_dflt walk1
  refine LCg.CompSrc.base (by rfl) (by k_asm) (by k_asm) (by assumption) (by size_fits) ?_
  intro g'
  refine' kcf_list _ (by assumption) (fun k' t' I' oI' C' oC' D' m' ys' h' tk' E' hk' hC' hx' F' N' off' ne' hMark' => ?_) ?_
  all_goals (try (simp only [LCg.Off3, and_true] at off'))
  kcf_last
  repeat' (first | (k_unfold; (try dsimp only)) | ((with_reducible show wpAny _ _ (execs (_ :: _) _) _ _ _); (first | (refine exCons s₂ ?_; intro kS Pq hPq) | (refine exCons0 ?_; intro Pq hPq))) | (with_reducible refine Aft.next (by assumption) ?_) | (with_reducible refine Aft.ret (by assumption) ?_) | (with_reducible refine Aft.brk (by assumption) ?_) | (with_reducible refine Aft.cont (by assumption) ?_) | ((fail_if_success (with_reducible show wpAny _ _ (exec (PySem.Stmt.Assign _ (PySem.Expr.ListComp _ _ _ _) _) _) _ _ _)); walk1) | fail "no step")
  (rename Fr _ _ _ _ => F3); (rename News _ _ _ _ => N3)
  generalize hTot : (1 + (List.map (fun k' => Int.fmod k' (10 ^ Int.toNat 6)) ns0).sum : Int) = total at *
  refine' AComp F3 (fun v => match v with | .int k _ => (Txt.item S k == Str.ofString "b") | _ => false) (fun v y => y = v) (cl := [(Str.ofString "strip", _)]) ?hclos ?hcell ?hkind ?hnames ?hx ?hy ?hp ?hsw ?_
  case hclos => with_unfolding_all rfl
  case hcell => decide
  case hkind => rfl
  case hnames => decide
  case hx => rfl
  case hy => rfl
  case hp => rfl
  case hsw => with_unfolding_all rfl
  repeat' (first | (k_unfold; (try dsimp only)) | ((with_reducible show wpAny _ _ (execs (_ :: _) _) _ _ _); (first | (refine exCons s₂ ?_; intro kS Pq hPq) | (refine exCons0 ?_; intro Pq hPq))) | (with_reducible refine Aft.next (by assumption) ?_) | (with_reducible refine Aft.ret (by assumption) ?_) | (with_reducible refine Aft.brk (by assumption) ?_) | (with_reducible refine Aft.cont (by assumption) ?_) | ((fail_if_success (with_reducible show wpAny _ _ (pyIter _) _ _ _)); walk1) | fail "no step")
  (rename Fr _ _ _ _ => F4); (rename News _ _ _ _ => N4); (rename IsRange _ _ _ _ _ _ _ _ => R4)
  refine qsrc_range (n := 8) rfl R4 (by decide) (by decide) (by rw [sizeLine_eq]; omega) F4 N4 ?ht ?he ?_
  case ht =>
    intro C i k t s5 m5 E' hi hk hn hm F5 N5
    refine wpAny_tests_one ?_
    repeat' (first | (k_unfold; (try dsimp only)) | ((with_reducible show wpAny _ _ (execs (_ :: _) _) _ _ _); (first | (refine exCons s5 ?_; intro kS Pq hPq) | (refine exCons0 ?_; intro Pq hPq))) | (with_reducible refine Aft.next (by assumption) ?_) | (with_reducible refine Aft.ret (by assumption) ?_) | (with_reducible refine Aft.brk (by assumption) ?_) | (with_reducible refine Aft.cont (by assumption) ?_) | ((fail_if_success (with_reducible show wpAny _ _ (eval (PySem.Expr.Name _ _) _) _ _ _)); walk1) | fail "no step")
    refine ldC ⟨_, (N5 _ (.tail _ (.tail _ (.tail _ (.tail _ (.head _)))))).1, hoS⟩ ?_ rfl rfl rfl
    repeat' (first | (k_unfold; (try dsimp only)) | ((with_reducible show wpAny _ _ (execs (_ :: _) _) _ _ _); (first | (refine exCons s5 ?_; intro kS Pq hPq) | (refine exCons0 ?_; intro Pq hPq))) | (with_reducible refine Aft.next (by assumption) ?_) | (with_reducible refine Aft.ret (by assumption) ?_) | (with_reducible refine Aft.brk (by assumption) ?_) | (with_reducible refine Aft.cont (by assumption) ?_) | ((fail_if_success (with_reducible show wpAny _ _ (eval (PySem.Expr.Name _ _) _) _ _ _)); walk1) | fail "no step")
    refine ldL hn hm ?_ rfl rfl
    repeat' (first | (k_unfold; (try dsimp only)) | ((with_reducible show wpAny _ _ (execs (_ :: _) _) _ _ _); (first | (refine exCons s5 ?_; intro kS Pq hPq) | (refine exCons0 ?_; intro Pq hPq))) | (with_reducible refine Aft.next (by assumption) ?_) | (with_reducible refine Aft.ret (by assumption) ?_) | (with_reducible refine Aft.brk (by assumption) ?_) | (with_reducible refine Aft.cont (by assumption) ?_) | ((fail_if_success (with_reducible show wpAny _ _ (subscriptTail _ _ _ _) _ _ _)); walk1) | fail "no step")
    refine item_str (fits_small (by omega) (by omega)) (by omega) (by omega) ?_
    intro _
    repeat' (first | (k_unfold; (try dsimp only)) | ((with_reducible show wpAny _ _ (execs (_ :: _) _) _ _ _); (first | (refine exCons s5 ?_; intro kS Pq hPq) | (refine exCons0 ?_; intro Pq hPq))) | (with_reducible refine Aft.next (by assumption) ?_) | (with_reducible refine Aft.ret (by assumption) ?_) | (with_reducible refine Aft.brk (by assumption) ?_) | (with_reducible refine Aft.cont (by assumption) ?_) | ((with_reducible show wpAny _ _ _ _ _ _); walk1) | fail "no step")
    exact ⟨rfl, _, _, rfl, fun _ _ e => e⟩
  case he =>
    intro C i k t s5 m5 E' hi hk hpv hn hm F5 N5
    exact ldL hn hm ⟨rfl, _, _, rfl, fun _ _ e => e⟩ rfl rfl
  intro Dc h' tk ysC nnC vs h2 hk2 F5 N5 hvl hvs hpr F6 N6 hDc
  have hCo : IntsAre ysC.toList (coinsOf S) := paired_ints (fun _ _ => rfl) (ints_of_range hvl hvs) hpr
  have hcl := coins_le S
  (try clear hpr); (try clear hvs); (try clear hvl); (try clear vs); (try clear F5); (try clear N5); (try clear F4); (try clear N4); (try clear F3); (try clear N3); (try clear R4); (try clear R1); (try clear F2); (try clear N2); (try clear hk2); (try clear hgens)
  repeat' (first | (k_unfold; (try dsimp only)) | ((with_reducible show wpAny _ _ (execs (_ :: _) _) _ _ _); (first | (refine exCons s₂ ?_; intro kS Pq hPq) | (refine exCons0 ?_; intro Pq hPq))) | (with_reducible refine Aft.next (by assumption) ?_) | (with_reducible refine Aft.ret (by assumption) ?_) | (with_reducible refine Aft.brk (by assumption) ?_) | (with_reducible refine Aft.cont (by assumption) ?_) | ((fail_if_success (with_reducible show wpAny _ _ (eval (PySem.Expr.ListComp _ _ _ _) _) _ _ _)); walk1) | fail "no step")
  (rename Fr _ _ _ _ => F4); (rename News _ _ _ _ => N4)
  have hfm := fmod2 total
  refine' EComp F4 (fun _ => true) (fun v y => ∃ k t u, v = .int k t ∧ y = .str (leadPart (total.fmod 2) k) u) (cl := [(Str.ofString "head", _)]) ?hclos ?hcell ?hkind ?hnames ?hx ?_
  case hclos => with_unfolding_all rfl
  case hcell => decide
  case hkind => rfl
  case hnames => decide
  case hx => rfl
  repeat' (first | (k_unfold; (try dsimp only)) | ((with_reducible show wpAny _ _ (execs (_ :: _) _) _ _ _); (first | (refine exCons s₂ ?_; intro kS Pq hPq) | (refine exCons0 ?_; intro Pq hPq))) | (with_reducible refine Aft.next (by assumption) ?_) | (with_reducible refine Aft.ret (by assumption) ?_) | (with_reducible refine Aft.brk (by assumption) ?_) | (with_reducible refine Aft.cont (by assumption) ?_) | ((fail_if_success (with_reducible show wpAny _ _ (pyIter _) _ _ _)); walk1) | fail "no step")
  (rename Fr _ _ _ _ => F4); (rename News _ _ _ _ => N4)
  refine qsrc_list (l := Dc) (its := ysC) rfl ⟨_, (N4 _ (.head _)).1, rfl, _, rfl⟩ (by rw [← Array.length_toList, hCo.length, sizeLine_eq]; omega) F4 N4 ?ht ?he ?_
  case ht =>
    intro C i v s5 m5 E' hi hn hm F5 N5
    exact wpAny_tests_nil ⟨rfl, _, _, rfl, fun _ _ e => e⟩
  case he =>
    intro C i v s5 m5 E' hi _ hn hm F5 N5
    obtain ⟨k, t, rfl, hk⟩ := ints_item hCo i v (by simpa using hi)
    have hkm := coins_mem (List.mem_of_getElem? hk)
    repeat' (first | (k_unfold; (try dsimp only)) | ((with_reducible show wpAny _ _ (execs (_ :: _) _) _ _ _); (first | (refine exCons s5 ?_; intro kS Pq hPq) | (refine exCons0 ?_; intro Pq hPq))) | (with_reducible refine Aft.next (by assumption) ?_) | (with_reducible refine Aft.ret (by assumption) ?_) | (with_reducible refine Aft.brk (by assumption) ?_) | (with_reducible refine Aft.cont (by assumption) ?_) | ((fail_if_success (with_reducible show wpAny _ _ (eval (PySem.Expr.Name _ _) _) _ _ _)); walk1) | fail "no step")
    refine ldL hn hm ?_ rfl rfl
    repeat' (first | (k_unfold; (try dsimp only)) | ((with_reducible show wpAny _ _ (execs (_ :: _) _) _ _ _); (first | (refine exCons s5 ?_; intro kS Pq hPq) | (refine exCons0 ?_; intro Pq hPq))) | (with_reducible refine Aft.next (by assumption) ?_) | (with_reducible refine Aft.ret (by assumption) ?_) | (with_reducible refine Aft.brk (by assumption) ?_) | (with_reducible refine Aft.cont (by assumption) ?_) | ((fail_if_success (with_reducible show wpAny _ _ (eval (PySem.Expr.Name _ _) _) _ _ _)); walk1) | fail "no step")
    refine ldC ⟨_, (N5 _ (.tail _ (.tail _ (.tail _ (.tail _ (.head _)))))).1, by assumption⟩ ?_ rfl rfl rfl
    repeat' (first | (k_unfold; (try dsimp only)) | ((with_reducible show wpAny _ _ (execs (_ :: _) _) _ _ _); (first | (refine exCons s5 ?_; intro kS Pq hPq) | (refine exCons0 ?_; intro Pq hPq))) | (with_reducible refine Aft.next (by assumption) ?_) | (with_reducible refine Aft.ret (by assumption) ?_) | (with_reducible refine Aft.brk (by assumption) ?_) | (with_reducible refine Aft.cont (by assumption) ?_) | ((fail_if_success (with_reducible show wpAny _ _ (binaryOp .Mult (.str _ _) _) _ _ _)); walk1) | fail "no step")
    refine mul_strs 1 9 (by decide) (by omega) (by omega) (by decide) (by decide) ?_
    intro t5 k5 l5
    repeat' (first | (k_unfold; (try dsimp only)) | ((with_reducible show wpAny _ _ (execs (_ :: _) _) _ _ _); (first | (refine exCons s5 ?_; intro kS Pq hPq) | (refine exCons0 ?_; intro Pq hPq))) | (with_reducible refine Aft.next (by assumption) ?_) | (with_reducible refine Aft.ret (by assumption) ?_) | (with_reducible refine Aft.brk (by assumption) ?_) | (with_reducible refine Aft.cont (by assumption) ?_) | ((with_reducible show wpAny _ _ _ _ _ _); (fail_if_success (with_reducible show wpAny _ _ (binaryOp .Add (.str _ _) (.str _ _)) _ _ _)); walk1) | fail "no step")
    refine add_strs' ?_ ?_
    · have : (Str.ofString "\t").length = 1 := by decide
      omega
    intro t6 k6 l6
    exact ⟨⟨k, t, _, rfl, rfl⟩, _, _, rfl, fun _ _ e => e⟩
  intro Dl h7 tk7 ysL nnL h2 hk2 F5 N5 hpr F6 N6 hDl
  have hLs : StrsAre ysL.toList ((coinsOf S).map (leadPart (total.fmod 2))) := paired_strs hCo hpr
  have hjl := lead_join_len (S := S) hfm.1 hfm.2
  (try clear F5); (try clear N5); (try clear F4); (try clear N4); (try clear hk2); (try clear hpr)
  repeat' (first | (k_unfold; (try dsimp only)) | ((with_reducible show wpAny _ _ (execs (_ :: _) _) _ _ _); (first | (refine exCons s₂ ?_; intro kS Pq hPq) | (refine exCons0 ?_; intro Pq hPq))) | (with_reducible refine Aft.next (by assumption) ?_) | (with_reducible refine Aft.ret (by assumption) ?_) | (with_reducible refine Aft.brk (by assumption) ?_) | (with_reducible refine Aft.cont (by assumption) ?_) | ((fail_if_success (with_reducible show wpAny _ _ (call (.builtin "str.join") _) _ _ _)); walk1) | fail "no step")
  (rename Fr _ _ _ _ => F4); (rename News _ _ _ _ => N4)
  refine join_listW ⟨_, (N4 _ (.head _)).1, rfl, _, rfl⟩ hLs (by decide) (by rw [List.length_map]; omega) ?_
  intro t8 k8
  repeat' (first | (k_unfold; (try dsimp only)) | ((with_reducible show wpAny _ _ (execs (_ :: _) _) _ _ _); (first | (refine exCons s₂ ?_; intro kS Pq hPq) | (refine exCons0 ?_; intro Pq hPq))) | (with_reducible refine Aft.next (by assumption) ?_) | (with_reducible refine Aft.ret (by assumption) ?_) | (with_reducible refine Aft.brk (by assumption) ?_) | (with_reducible refine Aft.cont (by assumption) ?_) | ((fail_if_success (with_reducible show wpAny _ _ (binaryOp .Add (.str _ _) (.str _ _)) _ _ _)); walk1) | fail "no step")
  have l5 : (Str.ofString "  x \t").length = 5 := by decide
  refine add_strs' (by omega) ?_
  intro t9 k9 l9
  repeat' (first | (k_unfold; (try dsimp only)) | ((with_reducible show wpAny _ _ (execs (_ :: _) _) _ _ _); (first | (refine exCons s₂ ?_; intro kS Pq hPq) | (refine exCons0 ?_; intro Pq hPq))) | (with_reducible refine Aft.next (by assumption) ?_) | (with_reducible refine Aft.ret (by assumption) ?_) | (with_reducible refine Aft.brk (by assumption) ?_) | (with_reducible refine Aft.cont (by assumption) ?_) | ((fail_if_success (with_reducible show wpAny _ _ (call (.ref 251) _) _ _ _)); walk1) | fail "no step")
  (rename Fr _ _ _ _ => F4); (rename News _ _ _ _ => N4)
  refine ws_make _ _ _ _ (leadOf S (total.fmod 2)) _ _ _ _ _ _ _ _ _ _ _ _ _ _ _ _ _ _ _ _ _ lawB F4 lawX N4 lawT rfl ?hrl ?hdp ?hun ?_
  case hrl => (show (Txt.join (Str.ofString "") ((coinsOf S).map (leadPart (total.fmod 2))) ++ Str.ofString "  x \t").length ≤ 100; omega)
  case hdp => decide +kernel
  case hun => decide +kernel
  intro xl dxl Tl Cl usL bL nL ntL tbL tnL ttL csL vL e1 e2 e3 e4 e5 nnW h9 tk9 hgo hIL hLl hb0 O1 O2 O3 O4 F7 N7
  clear l9 l5
  (try clear F4); (try clear N4); (try clear F6); (try clear N6)
  repeat' (first | (k_unfold; (try dsimp only)) | ((with_reducible show wpAny _ _ (execs (_ :: _) _) _ _ _); (first | (refine exCons s₂ ?_; intro kS Pq hPq) | (refine exCons0 ?_; intro Pq hPq))) | (with_reducible refine Aft.next (by assumption) ?_) | (with_reducible refine Aft.ret (by assumption) ?_) | (with_reducible refine Aft.brk (by assumption) ?_) | (with_reducible refine Aft.cont (by assumption) ?_) | ((fail_if_success (with_reducible show wpAny _ _ (exec (PySem.Stmt.For _ _ _ _ _) _) _ _ _)); walk1) | fail "no step")
  (rename Fr _ _ _ _ => F10); (rename News _ _ _ _ => N10)
  replace N10 := arrL2 N10
  (try clear F4); (try clear N4); (try clear F6); (try clear N6); (try clear F7); (try clear N7); (try clear nD'); (try clear O1); (try clear O2); (try clear O3); (try clear O4); (try clear hLs); (try clear ysL); (try clear hjl); (try clear hDl)
  refine my_For F10 rfl rfl ?_
  repeat' (first | (k_unfold; (try dsimp only)) | ((with_reducible show wpAny _ _ (execs (_ :: _) _) _ _ _); (first | (refine exCons s₂ ?_; intro kS Pq hPq) | (refine exCons0 ?_; intro Pq hPq))) | (with_reducible refine Aft.next (by assumption) ?_) | (with_reducible refine Aft.ret (by assumption) ?_) | (with_reducible refine Aft.brk (by assumption) ?_) | (with_reducible refine Aft.cont (by assumption) ?_) | ((fail_if_success (with_reducible show wpAny _ _ (pyIter _) _ _ _)); walk1) | fail "no step")
  (rename Fr _ _ _ _ => F10); (rename News _ _ _ _ => N10); (rename IsRange _ _ _ _ _ _ _ _ => R10)
  have hPr := off_tabs N10 (List.forall_mem_cons.mpr ⟨rfl, List.forall_mem_cons.mpr ⟨rfl, List.forall_mem_cons.mpr ⟨rfl, List.forall_mem_cons.mpr ⟨rfl, List.forall_mem_cons.mpr ⟨rfl, List.forall_mem_cons.mpr ⟨isTab_cell (by assumption), List.forall_mem_cons.mpr ⟨isTab_cell (by assumption), List.forall_mem_cons.mpr ⟨isTab_cell (by assumption), List.forall_mem_cons.mpr ⟨isTab_cell (by assumption), fun _ h => nomatch h⟩⟩⟩⟩⟩⟩⟩⟩⟩)
  have hrest := N10
  refine my_range (n := 4) (J2 S (total.fmod 2) total _ _) rfl R10 (by decide) (by decide) F10 N10 ⟨fun _ _ => rfl, hbr, #[], #[], _, rfl, by trivial, by trivial, rfl⟩ ?step ?_
  case' step =>
    rintro I hI i t m₃ nx it s₃ hi4 ⟨hm3, hbr3, p1, p2, tt, rfl, htr1, htr2, htold⟩ ho3 hd3 hoff3 hcls3 F11 N11
    rw [map_J2 hm3 htold] at F11
    refine absT ?_; intro P2 hP2
    have hwb := wAt_bound (total := total) hi4
    have hq4 : 0 ≤ (total.fdiv 2).fmod 4 ∧ (total.fdiv 2).fmod 4 < 4 := by
      rw [Int.fmod_eq_emod_of_nonneg _ (by decide)]
      omega
    (try clear F10); (try clear N10)
    refine exCons0 ?_; intro Pq hPq
    repeat' (first | (k_unfold; (try dsimp only)) | ((with_reducible show wpAny _ _ (execs (_ :: _) _) _ _ _); (first | (refine exCons s₃ ?_; intro kS Pq hPq) | (refine exCons0 ?_; intro Pq hPq))) | (with_reducible refine Aft.next (by assumption) ?_) | (with_reducible refine Aft.ret (by assumption) ?_) | (with_reducible refine Aft.brk (by assumption) ?_) | (with_reducible refine Aft.cont (by assumption) ?_) | ((fail_if_success (with_reducible show wpAny _ _ (subscriptTail _ _ (.ref _) (.int _ _)) _ _ _)); walk1) | fail "no step")
    (rename Fr _ _ _ _ => F12); (rename News _ _ _ _ => N12)
    refine item_ints (ns := [3, 5, 6, 7]) N12 (.head _) (.cons _ _ (.cons _ _ (.cons _ _ (.cons _ _ .nil)))) (by omega) (by simp; omega) (by omega) ?_
    intro t12
    repeat' (first | (k_unfold; (try dsimp only)) | ((with_reducible show wpAny _ _ (execs (_ :: _) _) _ _ _); (first | (refine exCons s₃ ?_; intro kS Pq hPq) | (refine exCons0 ?_; intro Pq hPq))) | (with_reducible refine Aft.next (by assumption) ?_) | (with_reducible refine Aft.ret (by assumption) ?_) | (with_reducible refine Aft.brk (by assumption) ?_) | (with_reducible refine Aft.cont (by assumption) ?_) | ((fail_if_success (with_reducible show wpAny _ _ (subscriptTail _ _ (.ref _) (.int _ _)) _ _ _)); walk1) | fail "no step")
    (rename Fr _ _ _ _ => F12); (rename News _ _ _ _ => N12)
    refine item_wAt (i := i) N12 (.head _) (.cons _ _ (.cons _ _ (.cons _ _ (.cons _ _ .nil)))) hi4 ?_
    intro t13
    repeat' (first | (k_unfold; (try dsimp only)) | ((with_reducible show wpAny _ _ (execs (_ :: _) _) _ _ _); (first | (refine exCons s₃ ?_; intro kS Pq hPq) | (refine exCons0 ?_; intro Pq hPq))) | (with_reducible refine Aft.next (by assumption) ?_) | (with_reducible refine Aft.ret (by assumption) ?_) | (with_reducible refine Aft.brk (by assumption) ?_) | (with_reducible refine Aft.cont (by assumption) ?_) | ((fail_if_success (with_reducible show wpAny _ _ (call (.ref 260) _) _ _ _)); walk1) | fail "no step")
    (rename Fr _ _ _ _ => F13); (rename News _ _ _ _ => N13)
    have N14 := arrCol N13
    refine cols_claim _ _ _ _ S (wAt total i) (total.fmod 2) _ _ _ p1 p2 _ htr1 htr2 (List.forall_mem_cons.mpr ⟨⟨(hoff3 _ (.head _)).symm, (hoff3 _ (.tail _ (.head _))).symm⟩, hPr⟩) _ _ _ _ _ _ _ _ _ _ _ _ _ _ _ _ _ _ _ lawB F13 lawX N14 lawT rfl hbr3 ⟨hS.1, hS.2⟩ ⟨hwb.1, hwb.2, hfm.1, hfm.2⟩ (by decide +kernel) (by decide +kernel) ?_
    intro s4 q1 q2 R vsR nnR F15 N15 hSR htr3 htr4 hbr4 ho4 hd4
    have hclen := cols_len S (wAt total i) (total.fmod 2)
    have hcsh := cols_short hS hwb.1 hwb.2 hfm.1 hfm.2
    (try clear F13); (try clear N13); (try clear N14); (try clear F12); (try clear N12); (try clear F11); (try clear N11)
    repeat' (first | (k_unfold; (try dsimp only)) | ((with_reducible show wpAny _ _ (execs (_ :: _) _) _ _ _); (first | (refine exCons s4 ?_; intro kS Pq hPq) | (refine exCons0 ?_; intro Pq hPq))) | (with_reducible refine Aft.next (by assumption) ?_) | (with_reducible refine Aft.ret (by assumption) ?_) | (with_reducible refine Aft.brk (by assumption) ?_) | (with_reducible refine Aft.cont (by assumption) ?_) | ((fail_if_success (with_reducible show wpAny _ _ (subscriptTail _ _ (.ref _) (.int _ _)) _ _ _)); walk1) | fail "no step")
    (rename Fr _ _ _ _ => F16); (rename News _ _ _ _ => N16)
    refine item_strs (vs := vsR.toList) N16 (.tail _ (.tail _ (.head _))) hSR (by decide) (by rw [hclen]; omega) (by decide) ?_
    intro t16
    repeat' (first | (k_unfold; (try dsimp only)) | ((with_reducible show wpAny _ _ (execs (_ :: _) _) _ _ _); (first | (refine exCons s4 ?_; intro kS Pq hPq) | (refine exCons0 ?_; intro Pq hPq))) | (with_reducible refine Aft.next (by assumption) ?_) | (with_reducible refine Aft.ret (by assumption) ?_) | (with_reducible refine Aft.brk (by assumption) ?_) | (with_reducible refine Aft.cont (by assumption) ?_) | ((fail_if_success (with_reducible show wpAny _ _ (exec (PySem.Stmt.For _ _ _ _ _) _) _ _ _)); walk1) | fail "no step")
    (rename Fr _ _ _ _ => F17); (rename News _ _ _ _ => N17)
    (try clear F16); (try clear N16); (try clear F15); (try clear N15); (try clear F10); (try clear N10)
    refine my_ForL F17 rfl rfl ?_
    repeat' (first | (k_unfold; (try dsimp only)) | ((with_reducible show wpAny _ _ (execs (_ :: _) _) _ _ _); (first | (refine exCons s4 ?_; intro kS Pq hPq) | (refine exCons0 ?_; intro Pq hPq))) | (with_reducible refine Aft.next (by assumption) ?_) | (with_reducible refine Aft.ret (by assumption) ?_) | (with_reducible refine Aft.brk (by assumption) ?_) | (with_reducible refine Aft.cont (by assumption) ?_) | ((fail_if_success (with_reducible show wpAny _ _ (pyIter _) _ _ _)); walk1) | fail "no step")
    (rename Fr _ _ _ _ => F17); (rename News _ _ _ _ => N17)
    refine my_list (JA (colsOf S (wAt total i) (total.fmod 2)) (total.fmod 2 * Txt.count ((colsOf S (wAt total i) (total.fmod 2)).getD (Int.toNat 0) Str.empty) (Str.ofString "b")) _ _) rfl (.tail _ (.tail _ (.head _))) F17 N17 ⟨fun _ _ => rfl, hbr4, rfl, _, rfl⟩ (fun _ _ _ _ h => by obtain ⟨_, _, rfl, _⟩ := h; exact .tail _ (.tail _ (.head _))) ?stp ?_
    case stp =>
      rintro I2 hI2 j v m₅ nx it2 s5 hj ⟨hm5, hbr5, rfl, ta, hta⟩ ho5 hd5 hoff5 hcls5 F18 N18
      obtain ⟨y, ty, rfl, hyc⟩ := StrsAre.item hSR j v (by simpa using hj)
      have hyl := (hcsh y (List.mem_of_getElem? hyc)).1
      have hcb := count_le y (Str.ofString "b")
      rw [map_JA hm5 hta] at F18
      refine absT ?_; intro PA hPA
      (try clear F17); (try clear N17)
      repeat' (first | (k_unfold; (try dsimp only)) | ((with_reducible show wpAny _ _ (execs (_ :: _) _) _ _ _); (first | (refine exCons s5 ?_; intro kS Pq hPq) | (refine exCons0 ?_; intro Pq hPq))) | (with_reducible refine Aft.next (by assumption) ?_) | (with_reducible refine Aft.ret (by assumption) ?_) | (with_reducible refine Aft.brk (by assumption) ?_) | (with_reducible refine Aft.cont (by assumption) ?_) | ((fail_if_success (with_reducible show wpAny _ _ (execs [] _) _ _ _)); walk1) | fail "no step")
      refine wpAny_execs_nil ?_
      repeat (first | (with_reducible refine Aft.next (by assumption) ?_) | (with_reducible refine Aft.ret (by assumption) ?_) | (with_reducible refine Aft.brk (by assumption) ?_) | (with_reducible refine Aft.cont (by assumption) ?_))
      (rename Fr _ _ _ _ => F19); (rename News _ _ _ _ => N19)
      refine hPA _ ?_
      refine JA_end hyc F19 N19 (fun q hq => hq) hoff5 rfl rfl hbr5 ?hm rfl rfl
      case hm =>
        intro z hz
        have hz2 := hz
        simp only [stA, List.contains_cons, List.contains_nil, Bool.or_eq_false_iff, beq_eq_false_iff_ne, ne_eq] at hz2
        simp only [hz2.1, hz2.2.1, if_false]
    rintro m₅ nx s5 ⟨hm5, hbr5, rfl, ta, hta⟩ ho5 hd5 F18 N18
    rw [map_JAe hm5 hta] at F18
    have hab : ((colsOf S (wAt total i) (total.fmod 2)).take vsR.size).foldl aboveIn (total.fmod 2 * Txt.count ((colsOf S (wAt total i) (total.fmod 2)).getD (Int.toNat 0) Str.empty) (Str.ofString "b")) = aboveOf S (wAt total i) (total.fmod 2) := by
      rw [List.take_of_length_le (by rw [← hSR.length, Array.length_toList]; exact Nat.le_refl _)]
      rfl
    rw [hab] at F18
    clear hab
    (try clear F17); (try clear N17)
    repeat' (first | (k_unfold; (try dsimp only)) | ((with_reducible show wpAny _ _ (execs (_ :: _) _) _ _ _); (first | (refine exCons s5 ?_; intro kS Pq hPq) | (refine exCons0 ?_; intro Pq hPq))) | (with_reducible refine Aft.next (by assumption) ?_) | (with_reducible refine Aft.ret (by assumption) ?_) | (with_reducible refine Aft.brk (by assumption) ?_) | (with_reducible refine Aft.cont (by assumption) ?_) | ((fail_if_success (with_reducible show wpAny _ _ (exec (PySem.Stmt.Assign _ (PySem.Expr.ListComp _ _ _ _) _) _) _ _ _)); walk1) | fail "no step")
    (rename Fr _ _ _ _ => F20); (rename News _ _ _ _ => N20)
    refine LCg.Assign_ListComp_U F20 rfl (by with_unfolding_all rfl) (by with_unfolding_all rfl) (by decide) rfl (by decide) rfl rfl rfl ?_
    repeat' (first | (k_unfold; (try dsimp only)) | ((with_reducible show wpAny _ _ (execs (_ :: _) _) _ _ _); (first | (refine exCons s5 ?_; intro kS Pq hPq) | (refine exCons0 ?_; intro Pq hPq))) | (with_reducible refine Aft.next (by assumption) ?_) | (with_reducible refine Aft.ret (by assumption) ?_) | (with_reducible refine Aft.brk (by assumption) ?_) | (with_reducible refine Aft.cont (by assumption) ?_) | ((fail_if_success (with_reducible show LCg.CompSrc _ _ _ _ _ _ _ _ _ _ _ _ _ _)); walk1) | fail "no step")
    (rename Fr _ _ _ _ => F20); (rename News _ _ _ _ => N20)
    have hvl : vsR.size = (colsOf S (wAt total i) (total.fmod 2)).length := by rw [← hSR.length, Array.length_toList]
    refine LCg.CompSrc.ledger (its := vsR) (k := nnR) rfl F20 N20 (.tail _ (.tail _ (.head _))) (by rw [hvl, hclen, sizeLine_eq]; omega) (fun g => ?_)
    refine compRest_f (cols := colsOf S (wAt total i) (total.fmod 2)) (f := takenOf) hSR (.inr ⟨_, .tail _ (.tail _ (.head _)), rfl, _, rfl⟩) ?hturn ?_ vsR.size 0 [] (by omega) .nil
    case hturn =>
      intro j y t ys I5 oI C5 oC D5 m₅ h5 tk5 E' Q' hy hoC hm5 F21 N21 hq
      have hyl := hcsh y (List.mem_of_getElem? hy)
      repeat' (first | (k_unfold; (try dsimp only)) | ((with_reducible show wpAny _ _ (execs (_ :: _) _) _ _ _); (first | (refine exCons s5 ?_; intro kS Pq hPq) | (refine exCons0 ?_; intro Pq hPq))) | (with_reducible refine Aft.next (by assumption) ?_) | (with_reducible refine Aft.ret (by assumption) ?_) | (with_reducible refine Aft.brk (by assumption) ?_) | (with_reducible refine Aft.cont (by assumption) ?_) | ((fail_if_success (with_reducible show wpAny _ _ (eval (PySem.Expr.Name _ _) _) _ _ _)); walk1) | fail "no step")
      refine ld_glob F21 lawX lawT (by k_is) rfl rfl rfl (by decide) ?_
      repeat' (first | (k_unfold; (try dsimp only)) | ((with_reducible show wpAny _ _ (execs (_ :: _) _) _ _ _); (first | (refine exCons s5 ?_; intro kS Pq hPq) | (refine exCons0 ?_; intro Pq hPq))) | (with_reducible refine Aft.next (by assumption) ?_) | (with_reducible refine Aft.ret (by assumption) ?_) | (with_reducible refine Aft.brk (by assumption) ?_) | (with_reducible refine Aft.cont (by assumption) ?_) | ((fail_if_success (with_reducible show wpAny _ _ (eval (PySem.Expr.Name _ _) _) _ _ _)); walk1) | fail "no step")
      refine ldL (hoC.ns (N21 _ (.tail _ (.head _))).1) hm5 ?_ rfl rfl
      repeat' (first | (k_unfold; (try dsimp only)) | ((with_reducible show wpAny _ _ (execs (_ :: _) _) _ _ _); (first | (refine exCons s5 ?_; intro kS Pq hPq) | (refine exCons0 ?_; intro Pq hPq))) | (with_reducible refine Aft.next (by assumption) ?_) | (with_reducible refine Aft.ret (by assumption) ?_) | (with_reducible refine Aft.brk (by assumption) ?_) | (with_reducible refine Aft.cont (by assumption) ?_) | ((fail_if_success (with_reducible show wpAny _ _ (call (.ref 267) _) _ _ _)); walk1) | fail "no step")
      refine taken_claim _ _ _ _ y _ _ _ _ _ _ _ _ _ _ _ _ _ _ _ _ _ _ _ _ _ lawB F21 lawX N21 lawT rfl hyl (by decide +kernel) (by decide +kernel) ?_
      intro u6 h6 tk6 F22 N22
      exact hq h6 tk6 _ F22 N22
    intro ysT hIT D7 h7 tk7 F23 N23 hD7
    (try clear F20); (try clear N20); (try clear F18); (try clear N18)
    have hcnb := counts_bound hS hwb.1 hwb.2 hfm.1 hfm.2
    have habb := above_bound hS hwb.1 hwb.2 hfm.1 hfm.2
    repeat' (first | (k_unfold; (try dsimp only)) | ((with_reducible show wpAny _ _ (execs (_ :: _) _) _ _ _); (first | (refine exCons s5 ?_; intro kS Pq hPq) | (refine exCons0 ?_; intro Pq hPq))) | (with_reducible refine Aft.next (by assumption) ?_) | (with_reducible refine Aft.ret (by assumption) ?_) | (with_reducible refine Aft.brk (by assumption) ?_) | (with_reducible refine Aft.cont (by assumption) ?_) | ((fail_if_success (with_reducible show wpAny _ _ (compareOp .In _ _) _ _ _)); walk1) | fail "no step")
    (rename Fr _ _ _ _ => F24); (rename News _ _ _ _ => N24)
    refine in_list_ints (vs := ysT) ⟨_, (N24 _ (.head _)).1, rfl, _, rfl⟩ hIT ?_
    rw [any_neg1 hcnb]
    (try clear F23); (try clear N23)
    repeat' (first | (k_unfold; (try dsimp only)) | ((with_reducible show wpAny _ _ (execs (_ :: _) _) _ _ _); (first | (refine exCons s5 ?_; intro kS Pq hPq) | (refine exCons0 ?_; intro Pq hPq))) | (with_reducible refine Aft.next (by assumption) ?_) | (with_reducible refine Aft.ret (by assumption) ?_) | (with_reducible refine Aft.brk (by assumption) ?_) | (with_reducible refine Aft.cont (by assumption) ?_) | ((fail_if_success (with_reducible show wpAny _ _ (call (.ref 220) _) _ _ _)); walk1) | fail "no step")
    (rename Fr _ _ _ _ => F25); (rename News _ _ _ _ => N25)
    rename IntsAre _ csL => hIL
    refine il_claim _ _ _ _ _ _ _ _ _ _ _ _ _ _ _ _ _ _ _ _ _ _ _ _ _ _ _ _ (.tail _ (.tail _ (.tail _ (.tail _ (.tail _ (.tail _ (.tail _ (.head _)))))))) (.tail _ (.tail _ (.tail _ (.tail _ (.tail _ (.tail _ (.tail _ (.tail _ (.head _))))))))) (.tail _ (.tail _ (.tail _ (.tail _ (.tail _ (.head _)))))) (.tail _ (.tail _ (.tail _ (.tail _ (.tail _ (.tail _ (.head _))))))) hIL _ _ _ _ _ _ _ _ _ _ _ _ _ _ _ _ _ _ _ lawB F25 lawX N25 lawT rfl ⟨hwb.1, by omega, hLl⟩ (by decide +kernel) (by decide +kernel) ?_
    intro t26 h26 tk26 F26 N26
    rw [main_eq hS hwb.1 hwb.2 hfm.1 hfm.2 hgo, countsOf]
    (try clear F25); (try clear N25)
    repeat' (first | (k_unfold; (try dsimp only)) | ((with_reducible show wpAny _ _ (execs (_ :: _) _) _ _ _); (first | (refine exCons s5 ?_; intro kS Pq hPq) | (refine exCons0 ?_; intro Pq hPq))) | (with_reducible refine Aft.next (by assumption) ?_) | (with_reducible refine Aft.ret (by assumption) ?_) | (with_reducible refine Aft.brk (by assumption) ?_) | (with_reducible refine Aft.cont (by assumption) ?_) | ((fail_if_success (with_reducible show wpAny _ _ (call (.builtin "len") _) _ _ _)); walk1) | fail "no step")
    (rename Fr _ _ _ _ => F27); (rename News _ _ _ _ => N27)
    refine len_vals (vs := ysC.toList) N27 (.tail _ (.tail _ (.tail _ (.tail _ (.tail _ (.tail _ (.tail _ (.tail _ (.tail _ (.head _)))))))))) (by rw [hCo.length]; omega) ?_
    intro t27 k27
    rw [hCo.length]
    repeat' (first | (k_unfold; (try dsimp only)) | ((with_reducible show wpAny _ _ (execs (_ :: _) _) _ _ _); (first | (refine exCons s5 ?_; intro kS Pq hPq) | (refine exCons0 ?_; intro Pq hPq))) | (with_reducible refine Aft.next (by assumption) ?_) | (with_reducible refine Aft.ret (by assumption) ?_) | (with_reducible refine Aft.brk (by assumption) ?_) | (with_reducible refine Aft.cont (by assumption) ?_) | ((fail_if_success (with_reducible show wpAny _ _ (call (.builtin "sum") _) _ _ _)); walk1) | fail "no step")
    (rename Fr _ _ _ _ => F28); (rename News _ _ _ _ => N28)
    refine LSm.sum_ints (vs := ysT) F28 N28 rfl ⟨_, (N28 _ (.head _)).1, rfl, _, rfl⟩ hIT ?_
    intro h29 tk29 t29 F29 N29
    (try clear F28); (try clear N28); (try clear F27); (try clear N27); (try clear F26); (try clear N26)
    repeat' (first | (k_unfold; (try dsimp only)) | ((with_reducible show wpAny _ _ (execs (_ :: _) _) _ _ _); (first | (refine exCons s5 ?_; intro kS Pq hPq) | (refine exCons0 ?_; intro Pq hPq))) | (with_reducible refine Aft.next (by assumption) ?_) | (with_reducible refine Aft.ret (by assumption) ?_) | (with_reducible refine Aft.brk (by assumption) ?_) | (with_reducible refine Aft.cont (by assumption) ?_) | ((fail_if_success (with_reducible show wpAny _ _ (truthy _) _ _ _)); walk1) | fail "no step")
    rw [bne_self_eq_false]
    repeat' (first | (k_unfold; (try dsimp only)) | ((with_reducible show wpAny _ _ (execs (_ :: _) _) _ _ _); (first | (refine exCons s5 ?_; intro kS Pq hPq) | (refine exCons0 ?_; intro Pq hPq))) | (with_reducible refine Aft.next (by assumption) ?_) | (with_reducible refine Aft.ret (by assumption) ?_) | (with_reducible refine Aft.brk (by assumption) ?_) | (with_reducible refine Aft.cont (by assumption) ?_) | ((fail_if_success (with_reducible show wpAny _ _ (execs [] _) _ _ _)); walk1) | fail "no step")
    refine wpAny_execs_nil ?_
    repeat (first | (with_reducible refine Aft.next (by assumption) ?_) | (with_reducible refine Aft.ret (by assumption) ?_) | (with_reducible refine Aft.brk (by assumption) ?_) | (with_reducible refine Aft.cont (by assumption) ?_))
    repeat' (first | (k_unfold; (try dsimp only)) | ((with_reducible show wpAny _ _ (execs (_ :: _) _) _ _ _); (first | (refine exCons s5 ?_; intro kS Pq hPq) | (refine exCons0 ?_; intro Pq hPq))) | (with_reducible refine Aft.next (by assumption) ?_) | (with_reducible refine Aft.ret (by assumption) ?_) | (with_reducible refine Aft.brk (by assumption) ?_) | (with_reducible refine Aft.cont (by assumption) ?_) | ((fail_if_success (with_reducible show wpAny _ _ (call (.builtin "sum") _) _ _ _)); (fail_if_success (with_reducible show wpAny _ _ (execs [] _) _ _ _)); walk1) | fail "no step")
    · (rename Fr _ _ _ _ => F30); (rename News _ _ _ _ => N30)
      refine LSm.sum_ints (vs := ysT) F30 N30 rfl ⟨_, (N30 _ (.head _)).1, rfl, _, rfl⟩ hIT ?_
      intro h31 tk31 t31 F31 N31
      (try clear F30); (try clear N30); (try clear F29); (try clear N29)
      repeat' (first | (k_unfold; (try dsimp only)) | ((with_reducible show wpAny _ _ (execs (_ :: _) _) _ _ _); (first | (refine exCons s5 ?_; intro kS Pq hPq) | (refine exCons0 ?_; intro Pq hPq))) | (with_reducible refine Aft.next (by assumption) ?_) | (with_reducible refine Aft.ret (by assumption) ?_) | (with_reducible refine Aft.brk (by assumption) ?_) | (with_reducible refine Aft.cont (by assumption) ?_) | ((fail_if_success (with_reducible show wpAny _ _ (execs [] _) _ _ _)); walk1) | fail "no step")
      refine wpAny_execs_nil ?_
      repeat (first | (with_reducible refine Aft.next (by assumption) ?_) | (with_reducible refine Aft.ret (by assumption) ?_) | (with_reducible refine Aft.brk (by assumption) ?_) | (with_reducible refine Aft.cont (by assumption) ?_))
      repeat' (first | (k_unfold; (try dsimp only)) | ((with_reducible show wpAny _ _ (execs (_ :: _) _) _ _ _); (first | (refine exCons s5 ?_; intro kS Pq hPq) | (refine exCons0 ?_; intro Pq hPq))) | (with_reducible refine Aft.next (by assumption) ?_) | (with_reducible refine Aft.ret (by assumption) ?_) | (with_reducible refine Aft.brk (by assumption) ?_) | (with_reducible refine Aft.cont (by assumption) ?_) | ((fail_if_success (with_reducible show wpAny _ _ (execs [] _) _ _ _)); walk1) | fail "no step")
      refine wpAny_execs_nil ?_
      repeat (first | (with_reducible refine Aft.next (by assumption) ?_) | (with_reducible refine Aft.ret (by assumption) ?_) | (with_reducible refine Aft.brk (by assumption) ?_) | (with_reducible refine Aft.cont (by assumption) ?_))
      (rename Fr _ _ _ _ => F32); (rename News _ _ _ _ => N32)
      refine hP2 _ ?_
      refine J2_end F32 N32 (by k_allIn) hoff3 htr3 htr4 hbr5 (ho5.trans ho4) (hd5.trans hd4) ?hm rfl ?hv
      case hv => first | exact told_lt (by omega) | exact told_ge (by omega)
      case hm =>
        intro z hz
        have hz2 := hz
        simp only [st2, List.contains_cons, List.contains_nil, Bool.or_eq_false_iff, beq_eq_false_iff_ne, ne_eq] at hz2
        obtain ⟨z1, z2, z3, z4, z5, z6, z7, _⟩ := hz2
        simp only [z1, z2, z3, z4, z5, z6, z7, hz, Bool.false_eq_true, if_false]
    · refine wpAny_execs_nil ?_
      repeat' (first | (k_unfold; (try dsimp only)) | ((with_reducible show wpAny _ _ (execs (_ :: _) _) _ _ _); (first | (refine exCons s5 ?_; intro kS Pq hPq) | (refine exCons0 ?_; intro Pq hPq))) | (with_reducible refine Aft.next (by assumption) ?_) | (with_reducible refine Aft.ret (by assumption) ?_) | (with_reducible refine Aft.brk (by assumption) ?_) | (with_reducible refine Aft.cont (by assumption) ?_) | ((fail_if_success (with_reducible show wpAny _ _ (execs [] _) _ _ _)); walk1) | fail "no step")
      refine wpAny_execs_nil ?_
      repeat (first | (with_reducible refine Aft.next (by assumption) ?_) | (with_reducible refine Aft.ret (by assumption) ?_) | (with_reducible refine Aft.brk (by assumption) ?_) | (with_reducible refine Aft.cont (by assumption) ?_))
      (rename Fr _ _ _ _ => F32); (rename News _ _ _ _ => N32)
      refine hP2 _ ?_
      refine J2_end F32 N32 (by k_allIn) hoff3 htr3 htr4 hbr5 (ho5.trans ho4) (hd5.trans hd4) ?hm rfl ?hv
      case hv => first | exact told_lt (by omega) | exact told_ge (by omega)
      case hm =>
        intro z hz
        have hz2 := hz
        simp only [st2, List.contains_cons, List.contains_nil, Bool.or_eq_false_iff, beq_eq_false_iff_ne, ne_eq] at hz2
        obtain ⟨z1, z2, z3, z4, z5, z6, z7, _⟩ := hz2
        simp only [z1, z2, z3, z4, z5, z6, z7, hz, Bool.false_eq_true, if_false]
  rintro m₃ nx s₃ ⟨hm3, hbr3, p1, p2, tt, rfl, htr1, htr2, htold⟩ ho3 hd3 F11 N11
  rw [map_J2e hm3 htold] at F11
  replace N11 := arrR3 N11
  have hne4 := list_ne_cell N11 (.tail _ (.tail _ (.tail _ (.tail _ (.head _))))) (.head _) (by assumption)
  have hne3 := list_ne_cell N11 (.tail _ (.tail _ (.tail _ (.tail _ (.head _))))) (.tail _ (.head _)) (by assumption)
  (try clear F10); (try clear N10); (try clear R10); (try clear hPr); (try clear hrest)
  repeat' (first | (k_unfold; (try dsimp only)) | ((with_reducible show wpAny _ _ (execs (_ :: _) _) _ _ _); (first | (refine exCons s₃ ?_; intro kS Pq hPq) | (refine exCons0 ?_; intro Pq hPq))) | (with_reducible refine Aft.next (by assumption) ?_) | (with_reducible refine Aft.ret (by assumption) ?_) | (with_reducible refine Aft.brk (by assumption) ?_) | (with_reducible refine Aft.cont (by assumption) ?_) | ((fail_if_success (with_reducible show wpAny _ _ (exec (PySem.Stmt.For _ _ _ _ _) _) _ _ _)); walk1) | fail "no step")
  (rename Fr _ _ _ _ => F12); (rename News _ _ _ _ => N12)
  (rename (s₁.heap.objs.size + 1 + 1 + 1 + 1 < _ ∧ _) => l1R)
  refine my_ForC F12 rfl rfl ?_
  repeat' (first | (k_unfold; (try dsimp only)) | ((with_reducible show wpAny _ _ (execs (_ :: _) _) _ _ _); (first | (refine exCons s₃ ?_; intro kS Pq hPq) | (refine exCons0 ?_; intro Pq hPq))) | (with_reducible refine Aft.next (by assumption) ?_) | (with_reducible refine Aft.ret (by assumption) ?_) | (with_reducible refine Aft.brk (by assumption) ?_) | (with_reducible refine Aft.cont (by assumption) ?_) | ((fail_if_success (with_reducible show wpAny _ _ (pyIter _) _ _ _)); walk1) | fail "no step")
  (rename Fr _ _ _ _ => F12); (rename News _ _ _ _ => N12); (rename IsRange _ _ _ _ _ _ _ _ => R12)
  refine my_rangeC (n := 8) (J3 S _ _ _) rfl R12 ?q1 ?q2 rfl cd0 F12 (swapC N12) ?hnc ⟨fun _ _ => rfl, hbr3, #[], 0, rfl, .nil⟩ ?step3 ?_
  case q1 => decide
  case q2 => decide
  case hnc => exact hnc_of (list_ne_cell N12 (.head _) (.tail _ (.head _)) cd0) hne4 lt0.1 lt0.2
  case' step3 =>
    rintro I3 hI3 i t3 m₄ nx it3 oc3 s₄ hi8 ⟨hm4, hbr4, itsR, nnR, rfl, hIR⟩ ho4 hd4 hoff4 F13 N13 hoc3
    have e3 : (0 : Int) + (i : Int) * 1 = (i : Int) := by omega
    rw [e3] at hoc3
    rw [keep_mapS hm4] at F13
    refine absTC ?_; intro P3 hP3
    k_lt hI3
    (try clear F12); (try clear N12); (try clear F11); (try clear N11)
    repeat' (first | (k_unfold; (try dsimp only)) | ((with_reducible show wpAny _ _ (execs (_ :: _) _) _ _ _); (first | (refine exCons s₄ ?_; intro kS Pq hPq) | (refine exCons0 ?_; intro Pq hPq))) | (with_reducible refine Aft.next (by assumption) ?_) | (with_reducible refine Aft.ret (by assumption) ?_) | (with_reducible refine Aft.brk (by assumption) ?_) | (with_reducible refine Aft.cont (by assumption) ?_) | ((fail_if_success (with_reducible show wpAny _ _ (call (.ref 28) _) _ _ _)); walk1) | fail "no step")
    (rename Fr _ _ _ _ => F14); (rename News _ _ _ _ => N14)
    refine em_claim _ _ _ _ _ _ _ _ _ _ _ _ _ _ _ _ _ _ _ _ _ _ _ _ _ _ _ _ lawB F14 lawX N14 lawT rfl ⟨len3 (sl8 hS.1 _ _) (by decide) (sl8 hS.1 _ _), by have := hS.1; omega⟩ (by decide +kernel) (by decide +kernel) ?_
    intro t15 h15 k15 F15 N15
    refine stNorm (s₀ := s₄) h15 ?e1 ?e2 ?e3 ?e4 ?_; (case e1 => rfl); (case e2 => rfl); (case e3 => rfl); (case e4 => rfl); intro kS
    rw [e_put hS hi8]
    (try clear F14); (try clear N14); (try clear F13); (try clear N13)
    repeat' (first | (k_unfold; (try dsimp only)) | ((with_reducible show wpAny _ _ (execs (_ :: _) _) _ _ _); (first | (refine exCons s₄ ?_; intro kS Pq hPq) | (refine exCons0 ?_; intro Pq hPq))) | (with_reducible refine Aft.next (by assumption) ?_) | (with_reducible refine Aft.ret (by assumption) ?_) | (with_reducible refine Aft.brk (by assumption) ?_) | (with_reducible refine Aft.cont (by assumption) ?_) | ((fail_if_success (with_reducible show wpAny _ _ (compareOp .In _ _) _ _ _)); walk1) | fail "no step")
    (rename Fr _ _ _ _ => F16); (rename News _ _ _ _ => N16)
    refine in_list_ints (vs := ysC.toList) ⟨_, (N16 _ (.tail _ (.tail _ (.tail _ (.tail _ (.tail _ (.tail _ (.head _)))))))).1, rfl, _, rfl⟩ hCo ?_
    dsimp only
    repeat' (first | (k_unfold; (try dsimp only)) | ((with_reducible show wpAny _ _ (execs (_ :: _) _) _ _ _); (first | (refine exCons s₄ ?_; intro kS Pq hPq) | (refine exCons0 ?_; intro Pq hPq))) | (with_reducible refine Aft.next (by assumption) ?_) | (with_reducible refine Aft.ret (by assumption) ?_) | (with_reducible refine Aft.brk (by assumption) ?_) | (with_reducible refine Aft.cont (by assumption) ?_) | ((fail_if_success (with_reducible show wpAny _ _ (truthy _) _ _ _)); walk1) | fail "no step")
    rw [bne_self_eq_false]
    repeat' (first | (k_unfold; (try dsimp only)) | ((with_reducible show wpAny _ _ (execs (_ :: _) _) _ _ _); (first | (refine exCons s₄ ?_; intro kS Pq hPq) | (refine exCons0 ?_; intro Pq hPq))) | (with_reducible refine Aft.next (by assumption) ?_) | (with_reducible refine Aft.ret (by assumption) ?_) | (with_reducible refine Aft.brk (by assumption) ?_) | (with_reducible refine Aft.cont (by assumption) ?_) | ((fail_if_success (with_reducible show wpAny _ _ (execs [] _) _ _ _)); walk1) | fail "no step")
    refine wpAny_execs_nil ?_
    repeat (first | (with_reducible refine Aft.next (by assumption) ?_) | (with_reducible refine Aft.ret (by assumption) ?_) | (with_reducible refine Aft.brk (by assumption) ?_) | (with_reducible refine Aft.cont (by assumption) ?_))
    repeat' (first | (k_unfold; (try dsimp only)) | ((with_reducible show wpAny _ _ (execs (_ :: _) _) _ _ _); (first | (refine exCons s₄ ?_; intro kS Pq hPq) | (refine exCons0 ?_; intro Pq hPq))) | (with_reducible refine Aft.next (by assumption) ?_) | (with_reducible refine Aft.ret (by assumption) ?_) | (with_reducible refine Aft.brk (by assumption) ?_) | (with_reducible refine Aft.cont (by assumption) ?_) | ((fail_if_success (with_reducible show wpAny _ _ (pyIter _) _ _ _)); walk1) | fail "no step")
    ktu_seq
    repeat' (first | (k_unfold; (try dsimp only)) | ((with_reducible show wpAny _ _ (execs (_ :: _) _) _ _ _); (first | (refine exCons s₄ ?_; intro kS Pq hPq) | (refine exCons0 ?_; intro Pq hPq))) | (with_reducible refine Aft.next (by assumption) ?_) | (with_reducible refine Aft.ret (by assumption) ?_) | (with_reducible refine Aft.brk (by assumption) ?_) | (with_reducible refine Aft.cont (by assumption) ?_) | ((fail_if_success (with_reducible show wpAny _ _ (call (.ref 28) _) _ _ _)); walk1) | fail "no step")
    (rename Fr _ _ _ _ => F17); (rename News _ _ _ _ => N17)
    refine em_claim _ _ _ _ _ _ _ _ _ _ _ _ _ _ _ _ _ _ _ _ _ _ _ _ _ _ _ _ lawB F17 lawX N17 lawT rfl ⟨by have := sl8 hS.1 none (some (i : Int)); omega, by have := hS.1; omega⟩ (by decide +kernel) (by decide +kernel) ?_
    intro t27 h27 k27 F27 N27
    refine stNorm (s₀ := s₄) h27 ?e1 ?e2 ?e3 ?e4 ?_; (case e1 => rfl); (case e2 => rfl); (case e3 => rfl); (case e4 => rfl); intro kS
    rw [e_pre hS hi8]
    repeat' (first | (k_unfold; (try dsimp only)) | ((with_reducible show wpAny _ _ (execs (_ :: _) _) _ _ _); (first | (refine exCons s₄ ?_; intro kS Pq hPq) | (refine exCons0 ?_; intro Pq hPq))) | (with_reducible refine Aft.next (by assumption) ?_) | (with_reducible refine Aft.ret (by assumption) ?_) | (with_reducible refine Aft.brk (by assumption) ?_) | (with_reducible refine Aft.cont (by assumption) ?_) | ((fail_if_success (with_reducible show wpAny _ _ (execs [] _) _ _ _)); walk1) | fail "no step")
    refine wpAny_execs_nil ?_
    repeat (first | (with_reducible refine Aft.next (by assumption) ?_) | (with_reducible refine Aft.ret (by assumption) ?_) | (with_reducible refine Aft.brk (by assumption) ?_) | (with_reducible refine Aft.cont (by assumption) ?_))
    repeat' (first | (k_unfold; (try dsimp only)) | ((with_reducible show wpAny _ _ (execs (_ :: _) _) _ _ _); (first | (refine exCons s₄ ?_; intro kS Pq hPq) | (refine exCons0 ?_; intro Pq hPq))) | (with_reducible refine Aft.next (by assumption) ?_) | (with_reducible refine Aft.ret (by assumption) ?_) | (with_reducible refine Aft.brk (by assumption) ?_) | (with_reducible refine Aft.cont (by assumption) ?_) | ((fail_if_success (with_reducible show wpAny _ _ (execs [] _) _ _ _)); walk1) | fail "no step")
    refine wpAny_execs_nil ?_
    repeat (first | (with_reducible refine Aft.next (by assumption) ?_) | (with_reducible refine Aft.ret (by assumption) ?_) | (with_reducible refine Aft.brk (by assumption) ?_) | (with_reducible refine Aft.cont (by assumption) ?_))
    repeat' (first | (k_unfold; (try dsimp only)) | ((with_reducible show wpAny _ _ (execs (_ :: _) _) _ _ _); (first | (refine exCons s₄ ?_; intro kS Pq hPq) | (refine exCons0 ?_; intro Pq hPq))) | (with_reducible refine Aft.next (by assumption) ?_) | (with_reducible refine Aft.ret (by assumption) ?_) | (with_reducible refine Aft.brk (by assumption) ?_) | (with_reducible refine Aft.cont (by assumption) ?_) | ((fail_if_success (with_reducible show wpAny _ _ (call (.ref 28) _) _ _ _)); (fail_if_success (with_reducible show wpAny _ _ (execs [] _) _ _ _)); walk1) | fail "no step")
    (rename Fr _ _ _ _ => F18); (rename News _ _ _ _ => N18)
    refine em_claim _ _ _ _ _ _ _ _ _ _ _ _ _ _ _ _ _ _ _ _ _ _ _ _ _ _ _ _ lawB F18 lawX N18 lawT rfl ⟨by have := sl8 hS.1 (some ((i : Int) + 1)) none; omega, by have := hS.1; omega⟩ (by decide +kernel) (by decide +kernel) ?_
    intro t28 h28 k28 F28 N28
    refine stNorm (s₀ := s₄) h28 ?e1 ?e2 ?e3 ?e4 ?_; (case e1 => rfl); (case e2 => rfl); (case e3 => rfl); (case e4 => rfl); intro kS
    rw [e_suf hS hi8]
    repeat' (first | (k_unfold; (try dsimp only)) | ((with_reducible show wpAny _ _ (execs (_ :: _) _) _ _ _); (first | (refine exCons s₄ ?_; intro kS Pq hPq) | (refine exCons0 ?_; intro Pq hPq))) | (with_reducible refine Aft.next (by assumption) ?_) | (with_reducible refine Aft.ret (by assumption) ?_) | (with_reducible refine Aft.brk (by assumption) ?_) | (with_reducible refine Aft.cont (by assumption) ?_) | ((fail_if_success (with_reducible show wpAny _ _ (execs [] _) _ _ _)); walk1) | fail "no step")
    refine wpAny_execs_nil ?_
    repeat (first | (with_reducible refine Aft.next (by assumption) ?_) | (with_reducible refine Aft.ret (by assumption) ?_) | (with_reducible refine Aft.brk (by assumption) ?_) | (with_reducible refine Aft.cont (by assumption) ?_))
    repeat' (first | (k_unfold; (try dsimp only)) | ((with_reducible show wpAny _ _ (execs (_ :: _) _) _ _ _); (first | (refine exCons s₄ ?_; intro kS Pq hPq) | (refine exCons0 ?_; intro Pq hPq))) | (with_reducible refine Aft.next (by assumption) ?_) | (with_reducible refine Aft.ret (by assumption) ?_) | (with_reducible refine Aft.brk (by assumption) ?_) | (with_reducible refine Aft.cont (by assumption) ?_) | ((fail_if_success (with_reducible show wpAny _ _ (execs [] _) _ _ _)); walk1) | fail "no step")
    refine wpAny_execs_nil ?_
    repeat (first | (with_reducible refine Aft.next (by assumption) ?_) | (with_reducible refine Aft.ret (by assumption) ?_) | (with_reducible refine Aft.brk (by assumption) ?_) | (with_reducible refine Aft.cont (by assumption) ?_))
    repeat' (first | (k_unfold; (try dsimp only)) | ((with_reducible show wpAny _ _ (execs (_ :: _) _) _ _ _); (first | (refine exCons s₄ ?_; intro kS Pq hPq) | (refine exCons0 ?_; intro Pq hPq))) | (with_reducible refine Aft.next (by assumption) ?_) | (with_reducible refine Aft.ret (by assumption) ?_) | (with_reducible refine Aft.brk (by assumption) ?_) | (with_reducible refine Aft.cont (by assumption) ?_) | ((fail_if_success (with_reducible show wpAny _ _ (call (.ref 28) _) _ _ _)); (fail_if_success (with_reducible show wpAny _ _ (execs [] _) _ _ _)); walk1) | fail "no step")
    (rename Fr _ _ _ _ => F19); (rename News _ _ _ _ => N19)
    refine em_claim _ _ _ _ _ _ _ _ _ _ _ _ _ _ _ _ _ _ _ _ _ _ _ _ _ _ _ _ lawB F19 lawX N19 lawT rfl ⟨len3 (sl8 hS.1 _ _) (by decide) (sl8 hS.1 _ _), by have := hS.1; omega⟩ (by decide +kernel) (by decide +kernel) ?_
    intro t29 h29 k29 F29 N29
    refine stNorm (s₀ := s₄) h29 ?e1 ?e2 ?e3 ?e4 ?_; (case e1 => rfl); (case e2 => rfl); (case e3 => rfl); (case e4 => rfl); intro kS
    rw [e_cut hS hi8 (fmod_pos total i).1 (fmod_pos total i).2]
    repeat' (first | (k_unfold; (try dsimp only)) | ((with_reducible show wpAny _ _ (execs (_ :: _) _) _ _ _); (first | (refine exCons s₄ ?_; intro kS Pq hPq) | (refine exCons0 ?_; intro Pq hPq))) | (with_reducible refine Aft.next (by assumption) ?_) | (with_reducible refine Aft.ret (by assumption) ?_) | (with_reducible refine Aft.brk (by assumption) ?_) | (with_reducible refine Aft.cont (by assumption) ?_) | ((fail_if_success (with_reducible show wpAny _ _ (execs [] _) _ _ _)); walk1) | fail "no step")
    refine wpAny_execs_nil ?_
    repeat (first | (with_reducible refine Aft.next (by assumption) ?_) | (with_reducible refine Aft.ret (by assumption) ?_) | (with_reducible refine Aft.brk (by assumption) ?_) | (with_reducible refine Aft.cont (by assumption) ?_))
    repeat' (first | (k_unfold; (try dsimp only)) | ((with_reducible show wpAny _ _ (execs (_ :: _) _) _ _ _); (first | (refine exCons s₄ ?_; intro kS Pq hPq) | (refine exCons0 ?_; intro Pq hPq))) | (with_reducible refine Aft.next (by assumption) ?_) | (with_reducible refine Aft.ret (by assumption) ?_) | (with_reducible refine Aft.brk (by assumption) ?_) | (with_reducible refine Aft.cont (by assumption) ?_) | ((fail_if_success (with_reducible show wpAny _ _ (execs [] _) _ _ _)); walk1) | fail "no step")
    refine wpAny_execs_nil ?_
    repeat (first | (with_reducible refine Aft.next (by assumption) ?_) | (with_reducible refine Aft.ret (by assumption) ?_) | (with_reducible refine Aft.brk (by assumption) ?_) | (with_reducible refine Aft.cont (by assumption) ?_))
    (try clear F17); (try clear N17); (try clear F27); (try clear N27); (try clear F18); (try clear N18); (try clear F28); (try clear N28); (try clear F15); (try clear N15); (try clear F16); (try clear N16); (try clear F14); (try clear N14)
    repeat' (first | (k_unfold; (try dsimp only)) | ((with_reducible show wpAny _ _ (execs (_ :: _) _) _ _ _); (first | (refine exCons s₄ ?_; intro kS Pq hPq) | (refine exCons0 ?_; intro Pq hPq))) | (with_reducible refine Aft.next (by assumption) ?_) | (with_reducible refine Aft.ret (by assumption) ?_) | (with_reducible refine Aft.brk (by assumption) ?_) | (with_reducible refine Aft.cont (by assumption) ?_) | ((fail_if_success (with_reducible show wpAny _ _ (exec (PySem.Stmt.Assign _ (PySem.Expr.ListComp _ _ _ _) _) _) _ _ _)); walk1) | fail "no step")
    (rename Fr _ _ _ _ => F30); (rename News _ _ _ _ => N30)
    replace N30 := dropH N30
    refine' AComp F30 (fun v => match v with | .int k _ => (k != (i : Int)) | _ => false) (fun v y => y = v) (cl := [(Str.ofString "start", _)]) ?hclos ?hcell ?hkind ?hnames ?hx ?hy ?hp ?hsw ?_
    case hclos => with_unfolding_all rfl
    case hcell => decide
    case hkind => rfl
    case hnames => decide
    case hx => rfl
    case hy => rfl
    case hp => rfl
    case hsw => with_unfolding_all rfl
    repeat' (first | (k_unfold; (try dsimp only)) | ((with_reducible show wpAny _ _ (execs (_ :: _) _) _ _ _); (first | (refine exCons s₄ ?_; intro kS Pq hPq) | (refine exCons0 ?_; intro Pq hPq))) | (with_reducible refine Aft.next (by assumption) ?_) | (with_reducible refine Aft.ret (by assumption) ?_) | (with_reducible refine Aft.brk (by assumption) ?_) | (with_reducible refine Aft.cont (by assumption) ?_) | ((fail_if_success (with_reducible show wpAny _ _ (pyIter _) _ _ _)); walk1) | fail "no step")
    (rename Fr _ _ _ _ => F31); (rename News _ _ _ _ => N31)
    refine qsrc_list (l := Dc) (its := ysC) rfl ⟨_, (N31 _ (.tail _ (.tail _ (.tail _ (.tail _ (.tail _ (.tail _ (.head _)))))))).1, rfl, _, rfl⟩ (by rw [← Array.length_toList, hCo.length, sizeLine_eq]; omega) F31 N31 ?hto ?heo ?_
    case hto =>
      intro C j v s5 m5 E' hj hn hm F5 N5
      obtain ⟨k, t, rfl, hk⟩ := ints_item hCo j v (by simpa using hj)
      refine wpAny_tests_one ?_
      repeat' (first | (k_unfold; (try dsimp only)) | ((with_reducible show wpAny _ _ (execs (_ :: _) _) _ _ _); (first | (refine exCons s5 ?_; intro kS Pq hPq) | (refine exCons0 ?_; intro Pq hPq))) | (with_reducible refine Aft.next (by assumption) ?_) | (with_reducible refine Aft.ret (by assumption) ?_) | (with_reducible refine Aft.brk (by assumption) ?_) | (with_reducible refine Aft.cont (by assumption) ?_) | ((fail_if_success (with_reducible show wpAny _ _ (eval (PySem.Expr.Name _ _) _) _ _ _)); walk1) | fail "no step")
      refine ldL hn hm ?_ rfl rfl
      repeat' (first | (k_unfold; (try dsimp only)) | ((with_reducible show wpAny _ _ (execs (_ :: _) _) _ _ _); (first | (refine exCons s5 ?_; intro kS Pq hPq) | (refine exCons0 ?_; intro Pq hPq))) | (with_reducible refine Aft.next (by assumption) ?_) | (with_reducible refine Aft.ret (by assumption) ?_) | (with_reducible refine Aft.brk (by assumption) ?_) | (with_reducible refine Aft.cont (by assumption) ?_) | ((fail_if_success (with_reducible show wpAny _ _ (eval (PySem.Expr.Name _ _) _) _ _ _)); walk1) | fail "no step")
      refine ldC ⟨_, (N5 _ (.tail _ (.head _))).1, hoc3⟩ ?_ rfl rfl rfl
      repeat' (first | (k_unfold; (try dsimp only)) | ((with_reducible show wpAny _ _ (execs (_ :: _) _) _ _ _); (first | (refine exCons s5 ?_; intro kS Pq hPq) | (refine exCons0 ?_; intro Pq hPq))) | (with_reducible refine Aft.next (by assumption) ?_) | (with_reducible refine Aft.ret (by assumption) ?_) | (with_reducible refine Aft.brk (by assumption) ?_) | (with_reducible refine Aft.cont (by assumption) ?_) | ((with_reducible show wpAny _ _ _ _ _ _); walk1) | fail "no step")
      exact ⟨rfl, _, _, rfl, fun _ _ e => e⟩
    case heo =>
      intro C j v s5 m5 E' hj hpv hn hm F5 N5
      exact ldL hn hm ⟨rfl, _, _, rfl, fun _ _ e => e⟩ rfl rfl
    intro Do h32 tk32 ysO nnO h33 hk33 F33 N33 hprO F32 N32 hDo
    have hDoR := ne_nat (hDo _ (.tail _ (.tail _ (.head _))))
    have hOt : IntsAre ysO.toList (othersOf S (i : Int)) := paired_ints (fun _ _ => rfl) hCo hprO
    have hol := Nat.le_trans (List.length_filter_le (fun o => o != (i : Int)) (coinsOf S)) hcl
    (try clear hprO); (try clear F33); (try clear N33); (try clear F31); (try clear N31); (try clear F30); (try clear N30)
    repeat' (first | (k_unfold; (try dsimp only)) | ((with_reducible show wpAny _ _ (execs (_ :: _) _) _ _ _); (first | (refine exCons s₄ ?_; intro kS Pq hPq) | (refine exCons0 ?_; intro Pq hPq))) | (with_reducible refine Aft.next (by assumption) ?_) | (with_reducible refine Aft.ret (by assumption) ?_) | (with_reducible refine Aft.brk (by assumption) ?_) | (with_reducible refine Aft.cont (by assumption) ?_) | ((fail_if_success (with_reducible show wpAny _ _ (exec (PySem.Stmt.For _ _ _ _ _) _) _ _ _)); walk1) | fail "no step")
    (rename Fr _ _ _ _ => F34); (rename News _ _ _ _ => N34)
    refine my_For F34 rfl rfl ?_
    repeat' (first | (k_unfold; (try dsimp only)) | ((with_reducible show wpAny _ _ (execs (_ :: _) _) _ _ _); (first | (refine exCons s₄ ?_; intro kS Pq hPq) | (refine exCons0 ?_; intro Pq hPq))) | (with_reducible refine Aft.next (by assumption) ?_) | (with_reducible refine Aft.ret (by assumption) ?_) | (with_reducible refine Aft.brk (by assumption) ?_) | (with_reducible refine Aft.cont (by assumption) ?_) | ((fail_if_success (with_reducible show wpAny _ _ (pyIter _) _ _ _)); walk1) | fail "no step")
    (rename Fr _ _ _ _ => F34); (rename News _ _ _ _ => N34); (rename IsRange _ _ _ _ _ _ _ _ => R34)
    refine my_range (n := i) (J4 S i _ _ _) rfl R34 (small_one (by omega) (by omega) (by omega) (by omega)) (range_to i) F34 (arrJ4 N34) ⟨fun _ _ => rfl, hbr4, _, _, rfl, by simpa [reachedTo] using hIR⟩ ?step4 ?_
    case' step4 =>
      rintro I4 hI4 j t4 m₅ nx it4 s₅ hj8 ⟨hm5, hbr5, itsQ, nnQ, rfl, hIQ⟩ ho5 hd5 hoff5 hcls5 F35 N35
      have e4 : (0 : Int) + (j : Int) * 1 = (j : Int) := by omega
      rw [e4, keep_map1 hm5] at F35
      refine absT ?_; intro P4 hP4
      k_lt hI4
      (try clear F34); (try clear N34); (try clear F32); (try clear N32)
      repeat' (first | (k_unfold; (try dsimp only)) | ((with_reducible show wpAny _ _ (execs (_ :: _) _) _ _ _); (first | (refine exCons s₅ ?_; intro kS Pq hPq) | (refine exCons0 ?_; intro Pq hPq))) | (with_reducible refine Aft.next (by assumption) ?_) | (with_reducible refine Aft.ret (by assumption) ?_) | (with_reducible refine Aft.brk (by assumption) ?_) | (with_reducible refine Aft.cont (by assumption) ?_) | ((fail_if_success (with_reducible show wpAny _ _ (subscriptTail _ _ (.str _ _) (.int _ _)) _ _ _)); walk1) | fail "no step")
      refine item_str (fits_small (by omega) (by omega)) (by omega) (by omega) ?_
      intro _
      repeat' (first | (k_unfold; (try dsimp only)) | ((with_reducible show wpAny _ _ (execs (_ :: _) _) _ _ _); (first | (refine exCons s₅ ?_; intro kS Pq hPq) | (refine exCons0 ?_; intro Pq hPq))) | (with_reducible refine Aft.next (by assumption) ?_) | (with_reducible refine Aft.ret (by assumption) ?_) | (with_reducible refine Aft.brk (by assumption) ?_) | (with_reducible refine Aft.cont (by assumption) ?_) | ((fail_if_success (with_reducible show wpAny _ _ (subscriptTail _ _ (.str _ _) (.int _ _)) _ _ _)); walk1) | fail "no step")
      refine item_str (fits_small (by omega) (by omega)) (by omega) (by omega) ?_
      intro _
      repeat' (first | (k_unfold; (try dsimp only)) | ((with_reducible show wpAny _ _ (execs (_ :: _) _) _ _ _); (first | (refine exCons s₅ ?_; intro kS Pq hPq) | (refine exCons0 ?_; intro Pq hPq))) | (with_reducible refine Aft.next (by assumption) ?_) | (with_reducible refine Aft.ret (by assumption) ?_) | (with_reducible refine Aft.brk (by assumption) ?_) | (with_reducible refine Aft.cont (by assumption) ?_) | ((fail_if_success (with_reducible show wpAny _ _ (binaryOp .Add (.str _ _) (.str _ _)) _ _ _)); walk1) | fail "no step")
      refine add_strs' (by rw [item_len, item_len]; decide) ?_
      intro t36 k36 l36
      repeat' (first | (k_unfold; (try dsimp only)) | ((with_reducible show wpAny _ _ (execs (_ :: _) _) _ _ _); (first | (refine exCons s₅ ?_; intro kS Pq hPq) | (refine exCons0 ?_; intro Pq hPq))) | (with_reducible refine Aft.next (by assumption) ?_) | (with_reducible refine Aft.ret (by assumption) ?_) | (with_reducible refine Aft.brk (by assumption) ?_) | (with_reducible refine Aft.cont (by assumption) ?_) | ((fail_if_success (with_reducible show wpAny _ _ (call (.ref 28) _) _ _ _)); walk1) | fail "no step")
      (rename Fr _ _ _ _ => F37); (rename News _ _ _ _ => N37)
      refine em_claim _ _ _ _ _ _ _ _ _ _ _ _ _ _ _ _ _ _ _ _ _ _ _ _ _ _ _ _ lawB F37 lawX N37 lawT rfl ⟨len3 (sl8 hS.1 _ _) (by decide) (sl8 hS.1 _ _), by have := hS.1; omega⟩ (by decide +kernel) (by decide +kernel) ?_
      intro t38 h38 k38 F38 N38
      refine stNorm (s₀ := s₅) h38 ?e1 ?e2 ?e3 ?e4 ?_; (case e1 => rfl); (case e2 => rfl); (case e3 => rfl); (case e4 => rfl); intro kS
      rw [e_go hS hi8 hj8, goesAt]
      dsimp only
      (try clear F37); (try clear N37); (try clear F35); (try clear N35)
      repeat' (first | (k_unfold; (try dsimp only)) | ((with_reducible show wpAny _ _ (execs (_ :: _) _) _ _ _); (first | (refine exCons s₅ ?_; intro kS Pq hPq) | (refine exCons0 ?_; intro Pq hPq))) | (with_reducible refine Aft.next (by assumption) ?_) | (with_reducible refine Aft.ret (by assumption) ?_) | (with_reducible refine Aft.brk (by assumption) ?_) | (with_reducible refine Aft.cont (by assumption) ?_) | ((fail_if_success (with_reducible show wpAny _ _ (truthy _) _ _ _)); walk1) | fail "no step")
      rw [bne_self_eq_false]
      repeat' (first | (k_unfold; (try dsimp only)) | ((with_reducible show wpAny _ _ (execs (_ :: _) _) _ _ _); (first | (refine exCons s₅ ?_; intro kS Pq hPq) | (refine exCons0 ?_; intro Pq hPq))) | (with_reducible refine Aft.next (by assumption) ?_) | (with_reducible refine Aft.ret (by assumption) ?_) | (with_reducible refine Aft.brk (by assumption) ?_) | (with_reducible refine Aft.cont (by assumption) ?_) | ((fail_if_success (with_reducible show wpAny _ _ (execs [] _) _ _ _)); walk1) | fail "no step")
      refine wpAny_execs_nil ?_
      repeat (first | (with_reducible refine Aft.next (by assumption) ?_) | (with_reducible refine Aft.ret (by assumption) ?_) | (with_reducible refine Aft.brk (by assumption) ?_) | (with_reducible refine Aft.cont (by assumption) ?_))
      repeat' (first | (k_unfold; (try dsimp only)) | ((with_reducible show wpAny _ _ (execs (_ :: _) _) _ _ _); (first | (refine exCons s₅ ?_; intro kS Pq hPq) | (refine exCons0 ?_; intro Pq hPq))) | (with_reducible refine Aft.next (by assumption) ?_) | (with_reducible refine Aft.ret (by assumption) ?_) | (with_reducible refine Aft.brk (by assumption) ?_) | (with_reducible refine Aft.cont (by assumption) ?_) | ((fail_if_success (with_reducible show wpAny _ _ (call (.ref 28) _) _ _ _)); (fail_if_success (with_reducible show wpAny _ _ (execs [] _) _ _ _)); walk1) | fail "no step")
      · skip
        (rename Fr _ _ _ _ => F39); (rename News _ _ _ _ => N39)
        refine em_claim _ _ _ _ _ _ _ _ _ _ _ _ _ _ _ _ _ _ _ _ _ _ _ _ _ _ _ _ lawB F39 lawX N39 lawT rfl ⟨len3 (sl8 hS.1 _ _) (by decide) (sl8 hS.1 _ _), by have := hS.1; omega⟩ (by decide +kernel) (by decide +kernel) ?_
        intro t40 h40 k40 F40 N40
        refine stNorm (s₀ := s₅) h40 ?e1 ?e2 ?e3 ?e4 ?_; (case e1 => rfl); (case e2 => rfl); (case e3 => rfl); (case e4 => rfl); intro kS
        rw [e_pass hS hi8 hj8 (by unfold goesAt; assumption)]
        dsimp only
        (try clear F39); (try clear N39)
        repeat' (first | (k_unfold; (try dsimp only)) | ((with_reducible show wpAny _ _ (execs (_ :: _) _) _ _ _); (first | (refine exCons s₅ ?_; intro kS Pq hPq) | (refine exCons0 ?_; intro Pq hPq))) | (with_reducible refine Aft.next (by assumption) ?_) | (with_reducible refine Aft.ret (by assumption) ?_) | (with_reducible refine Aft.brk (by assumption) ?_) | (with_reducible refine Aft.cont (by assumption) ?_) | ((fail_if_success (with_reducible show wpAny _ _ (truthy _) _ _ _)); walk1) | fail "no step")
        rw [bne_self_eq_false]
        repeat' (first | (k_unfold; (try dsimp only)) | ((with_reducible show wpAny _ _ (execs (_ :: _) _) _ _ _); (first | (refine exCons s₅ ?_; intro kS Pq hPq) | (refine exCons0 ?_; intro Pq hPq))) | (with_reducible refine Aft.next (by assumption) ?_) | (with_reducible refine Aft.ret (by assumption) ?_) | (with_reducible refine Aft.brk (by assumption) ?_) | (with_reducible refine Aft.cont (by assumption) ?_) | ((fail_if_success (with_reducible show wpAny _ _ (execs [] _) _ _ _)); walk1) | fail "no step")
        refine wpAny_execs_nil ?_
        repeat (first | (with_reducible refine Aft.next (by assumption) ?_) | (with_reducible refine Aft.ret (by assumption) ?_) | (with_reducible refine Aft.brk (by assumption) ?_) | (with_reducible refine Aft.cont (by assumption) ?_))
        repeat' (first | (k_unfold; (try dsimp only)) | ((with_reducible show wpAny _ _ (execs (_ :: _) _) _ _ _); (first | (refine exCons s₅ ?_; intro kS Pq hPq) | (refine exCons0 ?_; intro Pq hPq))) | (with_reducible refine Aft.next (by assumption) ?_) | (with_reducible refine Aft.ret (by assumption) ?_) | (with_reducible refine Aft.brk (by assumption) ?_) | (with_reducible refine Aft.cont (by assumption) ?_) | ((fail_if_success (with_reducible show wpAny _ _ (call (.ref 274) _) _ _ _)); (fail_if_success (with_reducible show wpAny _ _ (binaryOp .Add (.ref _) (.ref _)) _ _ _)); walk1) | fail "no step")
        have hgo' : goesAt S (j : Int) (i : Int) = true := by unfold goesAt; assumption
        have hol7 := goes_len hi8 hgo'
        (rename Fr _ _ _ _ => F41); (rename News _ _ _ _ => N41)
        refine add_arrays_ints (ns := [(j : Int)]) (ms := othersOf S (i : Int)) F41 N41 ⟨_, (N41 _ (.head _)).1, rfl, _, rfl⟩ ⟨_, (N41 _ (.tail _ (.tail _ (.tail _ (.head _))))).1, rfl, _, rfl⟩ (.cons _ _ .nil) hOt ?_ (by rw [sizeLine_eq, List.length_singleton]; omega)
        intro h42 F42 N42 hI42
        (try clear F41); (try clear N41); (try clear F40); (try clear N40)
        repeat' (first | (k_unfold; (try dsimp only)) | ((with_reducible show wpAny _ _ (execs (_ :: _) _) _ _ _); (first | (refine exCons s₅ ?_; intro kS Pq hPq) | (refine exCons0 ?_; intro Pq hPq))) | (with_reducible refine Aft.next (by assumption) ?_) | (with_reducible refine Aft.ret (by assumption) ?_) | (with_reducible refine Aft.brk (by assumption) ?_) | (with_reducible refine Aft.cont (by assumption) ?_) | ((fail_if_success (with_reducible show wpAny _ _ (call (.ref 274) _) _ _ _)); walk1) | fail "no step")
        (rename Fr _ _ _ _ => F43); (rename News _ _ _ _ => N43)
        refine worth_claim _ _ _ _ _ _ ([(j : Int)] ++ othersOf S (i : Int)) 0 _ (.head _) hI42 _ _ _ _ _ _ _ _ _ _ _ _ _ _ _ _ _ _ _ lawB F43 lawX N43 lawT rfl ⟨by rw [List.length_append, List.length_singleton]; omega, ?hbd⟩ (by decide +kernel) (by decide +kernel) ?_
        case hbd =>
          intro n hn
          rcases List.mem_append.mp hn with hn | hn
          · rw [List.mem_singleton.mp hn]; omega
          · have := others_mem hn; omega
        intro t44 h44 k44 F44 N44
        refine stNorm (s₀ := s₅) h44 ?e1 ?e2 ?e3 ?e4 ?_; (case e1 => rfl); (case e2 => rfl); (case e3 => rfl); (case e4 => rfl); intro kS
        (try clear F43); (try clear N43); (try clear F42); (try clear N42)
        repeat' (first | (k_unfold; (try dsimp only)) | ((with_reducible show wpAny _ _ (execs (_ :: _) _) _ _ _); (first | (refine exCons s₅ ?_; intro kS Pq hPq) | (refine exCons0 ?_; intro Pq hPq))) | (with_reducible refine Aft.next (by assumption) ?_) | (with_reducible refine Aft.ret (by assumption) ?_) | (with_reducible refine Aft.brk (by assumption) ?_) | (with_reducible refine Aft.cont (by assumption) ?_) | ((fail_if_success (with_reducible show wpAny _ _ (call (.builtin "list.append") _) _ _ _)); (fail_if_success (with_reducible show wpAny _ _ (execs [] _) _ _ _)); walk1) | fail "no step")
        (rename Fr _ _ _ _ => F46); (rename News _ _ _ _ => N46)
        refine ll_append F46 (arrAp N46) ?hPa (reached_size hi8 hj8 hIQ) ?_
        case hPa => exact hpa_of hI4.1 hDoR hI3.2.1 l1R
        intro h47 nl47 F47 N47
        (try clear F46); (try clear N46); (try clear F44); (try clear N44)
        repeat' (first | (k_unfold; (try dsimp only)) | ((with_reducible show wpAny _ _ (execs (_ :: _) _) _ _ _); (first | (refine exCons s₅ ?_; intro kS Pq hPq) | (refine exCons0 ?_; intro Pq hPq))) | (with_reducible refine Aft.next (by assumption) ?_) | (with_reducible refine Aft.ret (by assumption) ?_) | (with_reducible refine Aft.brk (by assumption) ?_) | (with_reducible refine Aft.cont (by assumption) ?_) | ((fail_if_success (with_reducible show wpAny _ _ (execs [] _) _ _ _)); walk1) | fail "no step")
        refine wpAny_execs_nil ?_
        repeat (first | (with_reducible refine Aft.next (by assumption) ?_) | (with_reducible refine Aft.ret (by assumption) ?_) | (with_reducible refine Aft.brk (by assumption) ?_) | (with_reducible refine Aft.cont (by assumption) ?_))
        repeat' (first | (k_unfold; (try dsimp only)) | ((with_reducible show wpAny _ _ (execs (_ :: _) _) _ _ _); (first | (refine exCons s₅ ?_; intro kS Pq hPq) | (refine exCons0 ?_; intro Pq hPq))) | (with_reducible refine Aft.next (by assumption) ?_) | (with_reducible refine Aft.ret (by assumption) ?_) | (with_reducible refine Aft.brk (by assumption) ?_) | (with_reducible refine Aft.cont (by assumption) ?_) | ((fail_if_success (with_reducible show wpAny _ _ (execs [] _) _ _ _)); walk1) | fail "no step")
        refine wpAny_execs_nil ?_
        repeat (first | (with_reducible refine Aft.next (by assumption) ?_) | (with_reducible refine Aft.ret (by assumption) ?_) | (with_reducible refine Aft.brk (by assumption) ?_) | (with_reducible refine Aft.cont (by assumption) ?_))
        (rename Fr _ _ _ _ => F48); (rename News _ _ _ _ => N48)
        refine hP4 _ ?_
        refine J4_end (nn := nl47) F48 N48 ?hs4 hoff5 hbr5 rfl rfl ?hm (ints_yes (t := t44) hgo' hIQ)
        case hs4 =>
          intro p hp
          simp only [List.mem_cons] at hp ⊢
          rcases hp with h | h | h
          · exact .inr (.inl h)
          · exact .inl h
          · exact .inr (.inr h)
        case hm =>
          intro z hz
          have hz2 := hz
          simp only [st4, List.contains_cons, List.contains_nil, Bool.or_eq_false_iff, beq_eq_false_iff_ne, ne_eq] at hz2
          obtain ⟨z1, z2, _⟩ := hz2
          simp only [z1, z2, hz, Bool.false_eq_true, if_false]
      · skip
        refine wpAny_execs_nil ?_
        repeat (first | (with_reducible refine Aft.next (by assumption) ?_) | (with_reducible refine Aft.ret (by assumption) ?_) | (with_reducible refine Aft.brk (by assumption) ?_) | (with_reducible refine Aft.cont (by assumption) ?_))
        repeat' (first | (k_unfold; (try dsimp only)) | ((with_reducible show wpAny _ _ (execs (_ :: _) _) _ _ _); (first | (refine exCons s₅ ?_; intro kS Pq hPq) | (refine exCons0 ?_; intro Pq hPq))) | (with_reducible refine Aft.next (by assumption) ?_) | (with_reducible refine Aft.ret (by assumption) ?_) | (with_reducible refine Aft.brk (by assumption) ?_) | (with_reducible refine Aft.cont (by assumption) ?_) | ((fail_if_success (with_reducible show wpAny _ _ (execs [] _) _ _ _)); walk1) | fail "no step")
        refine wpAny_execs_nil ?_
        repeat (first | (with_reducible refine Aft.next (by assumption) ?_) | (with_reducible refine Aft.ret (by assumption) ?_) | (with_reducible refine Aft.brk (by assumption) ?_) | (with_reducible refine Aft.cont (by assumption) ?_))
        (rename Fr _ _ _ _ => F48); (rename News _ _ _ _ => N48)
        refine hP4 _ ?_
        refine J4_end (nn := nnQ) F48 N48 (fun q hq => hq) hoff5 hbr5 rfl rfl ?hm (ints_no (by unfold goesAt; assumption) hIQ)
        case hm =>
          intro z hz
          have hz2 := hz
          simp only [st4, List.contains_cons, List.contains_nil, Bool.or_eq_false_iff, beq_eq_false_iff_ne, ne_eq] at hz2
          obtain ⟨z1, z2, _⟩ := hz2
          simp only [z1, z2, hz, Bool.false_eq_true, if_false]
    rintro m₅ nx s₅ ⟨hm5, hbr5, itsQ, nnQ, rfl, hIQ⟩ ho5 hd5 F35 N35
    rw [keep_map hm5] at F35
    (try clear F34); (try clear N34); (try clear F32); (try clear N32)
    repeat' (first | (k_unfold; (try dsimp only)) | ((with_reducible show wpAny _ _ (execs (_ :: _) _) _ _ _); (first | (refine exCons s₅ ?_; intro kS Pq hPq) | (refine exCons0 ?_; intro Pq hPq))) | (with_reducible refine Aft.next (by assumption) ?_) | (with_reducible refine Aft.ret (by assumption) ?_) | (with_reducible refine Aft.brk (by assumption) ?_) | (with_reducible refine Aft.cont (by assumption) ?_) | ((fail_if_success (with_reducible show wpAny _ _ (execs [] _) _ _ _)); walk1) | fail "no step")
    refine wpAny_execs_nil ?_
    repeat (first | (with_reducible refine Aft.next (by assumption) ?_) | (with_reducible refine Aft.ret (by assumption) ?_) | (with_reducible refine Aft.brk (by assumption) ?_) | (with_reducible refine Aft.cont (by assumption) ?_))
    repeat' (first | (k_unfold; (try dsimp only)) | ((with_reducible show wpAny _ _ (execs (_ :: _) _) _ _ _); (first | (refine exCons s₅ ?_; intro kS Pq hPq) | (refine exCons0 ?_; intro Pq hPq))) | (with_reducible refine Aft.next (by assumption) ?_) | (with_reducible refine Aft.ret (by assumption) ?_) | (with_reducible refine Aft.brk (by assumption) ?_) | (with_reducible refine Aft.cont (by assumption) ?_) | ((fail_if_success (with_reducible show wpAny _ _ (execs [] _) _ _ _)); walk1) | fail "no step")
    refine wpAny_execs_nil ?_
    repeat (first | (with_reducible refine Aft.next (by assumption) ?_) | (with_reducible refine Aft.ret (by assumption) ?_) | (with_reducible refine Aft.brk (by assumption) ?_) | (with_reducible refine Aft.cont (by assumption) ?_))
    (rename Fr _ _ _ _ => F36); (rename News _ _ _ _ => N36)
    refine hP3 _ ?_
    refine J3_end (nn := nnQ) F36 N36 ?hs3 hoc3 hoff4 hbr5 ho5 hd5 ?hm3 hIQ
    case hs3 =>
      intro p hp
      simp only [List.mem_cons] at hp ⊢
      rcases hp with h | h | h | h
      · exact .inr (.inr (.inl h))
      · exact .inr (.inr (.inr (.inl h)))
      · exact .inl h
      · exact .inr (.inr (.inr (.inr h)))
    case hm3 =>
      intro z hz
      have hz2 := hz
      simp only [st3, List.contains_cons, List.contains_nil, Bool.or_eq_false_iff, beq_eq_false_iff_ne, ne_eq] at hz2
      obtain ⟨z1, z2, z3, z4, _⟩ := hz2
      have hz4 : st4.contains z = false := by simp [st4, z3, z4]
      simp only [z1, z2, z3, z4, hz, hz4, Bool.false_eq_true, if_false]
  rintro m₄ nx oc4 s₄ ⟨hm4, hbr4, itsR, nnR, rfl, hIR⟩ ho4 hd4 F13 N13
  rw [keep_mapS hm4] at F13
  have hef := e_fin hS (total := total)
  have htb := told_bound hS (total := total)
  (try clear F12); (try clear N12); (try clear F11); (try clear N11)
  repeat' (first | (k_unfold; (try dsimp only)) | ((with_reducible show wpAny _ _ (execs (_ :: _) _) _ _ _); (first | (refine exCons s₄ ?_; intro kS Pq hPq) | (refine exCons0 ?_; intro Pq hPq))) | (with_reducible refine Aft.next (by assumption) ?_) | (with_reducible refine Aft.ret (by assumption) ?_) | (with_reducible refine Aft.brk (by assumption) ?_) | (with_reducible refine Aft.cont (by assumption) ?_) | ((fail_if_success (with_reducible show wpAny _ _ (compareOp .NotIn _ _) _ _ _)); walk1) | fail "no step")
  (rename Fr _ _ _ _ => F40); (rename News _ _ _ _ => N40)
  refine notin_list_ints (vs := itsR.toList) ⟨_, (N40 _ (.tail _ (.head _))).1, rfl, _, rfl⟩ hIR ?_
  rw [hef.1]
  repeat' (first | (k_unfold; (try dsimp only)) | ((with_reducible show wpAny _ _ (execs (_ :: _) _) _ _ _); (first | (refine exCons s₄ ?_; intro kS Pq hPq) | (refine exCons0 ?_; intro Pq hPq))) | (with_reducible refine Aft.next (by assumption) ?_) | (with_reducible refine Aft.ret (by assumption) ?_) | (with_reducible refine Aft.brk (by assumption) ?_) | (with_reducible refine Aft.cont (by assumption) ?_) | ((fail_if_success (with_reducible show wpAny _ _ (eval (PySem.Expr.ListComp _ _ _ _) _) _ _ _)); walk1) | fail "no step")
  (rename Fr _ _ _ _ => F41); (rename News _ _ _ _ => N41)
  refine' EComp (s := { s₄ with toks := kS }) F41 (fun v => match v with | .int k _ => !((reachedOf S 8).any (· == k)) | _ => false) (fun v y => y = v) (cl := [(Str.ofString "reached", _)]) ?hclos ?hcell ?hkind ?hnames ?hx ?_
  case hclos => with_unfolding_all rfl
  case hcell => decide
  case hkind => rfl
  case hnames => decide
  case hx => rfl
  repeat' (first | (k_unfold; (try dsimp only)) | ((with_reducible show wpAny _ _ (execs (_ :: _) _) _ _ _); (first | (refine exCons s₄ ?_; intro kS Pq hPq) | (refine exCons0 ?_; intro Pq hPq))) | (with_reducible refine Aft.next (by assumption) ?_) | (with_reducible refine Aft.ret (by assumption) ?_) | (with_reducible refine Aft.brk (by assumption) ?_) | (with_reducible refine Aft.cont (by assumption) ?_) | ((fail_if_success (with_reducible show wpAny _ _ (pyIter _) _ _ _)); walk1) | fail "no step")
  (rename Fr _ _ _ _ => F42); (rename News _ _ _ _ => N42); (rename IsRange _ _ _ _ _ _ _ _ => R42)
  refine qsrc_range (n := (toldOf S (total.fmod 2) total 4 - 0).toNat) rfl R42 (small_one (by omega) (by omega) (by omega) (by omega)) (rangeSize_nat _ _) (by rw [sizeLine_eq]; omega) F42 N42 ?htl ?hel ?_
  case htl =>
    intro C j k t s5 m5 E' hj hk hn hm F5 N5
    refine wpAny_tests_one ?_
    repeat' (first | (k_unfold; (try dsimp only)) | ((with_reducible show wpAny _ _ (execs (_ :: _) _) _ _ _); (first | (refine exCons s5 ?_; intro kS Pq hPq) | (refine exCons0 ?_; intro Pq hPq))) | (with_reducible refine Aft.next (by assumption) ?_) | (with_reducible refine Aft.ret (by assumption) ?_) | (with_reducible refine Aft.brk (by assumption) ?_) | (with_reducible refine Aft.cont (by assumption) ?_) | ((fail_if_success (with_reducible show wpAny _ _ (eval (PySem.Expr.Name _ _) _) _ _ _)); walk1) | fail "no step")
    refine ldL hn hm ?_ rfl rfl
    repeat' (first | (k_unfold; (try dsimp only)) | ((with_reducible show wpAny _ _ (execs (_ :: _) _) _ _ _); (first | (refine exCons s5 ?_; intro kS Pq hPq) | (refine exCons0 ?_; intro Pq hPq))) | (with_reducible refine Aft.next (by assumption) ?_) | (with_reducible refine Aft.ret (by assumption) ?_) | (with_reducible refine Aft.brk (by assumption) ?_) | (with_reducible refine Aft.cont (by assumption) ?_) | ((fail_if_success (with_reducible show wpAny _ _ (eval (PySem.Expr.Name _ _) _) _ _ _)); walk1) | fail "no step")
    refine ldC ⟨_, (N5 _ (.tail _ (.tail _ (.head _)))).1, by assumption⟩ ?_ rfl rfl rfl
    repeat' (first | (k_unfold; (try dsimp only)) | ((with_reducible show wpAny _ _ (execs (_ :: _) _) _ _ _); (first | (refine exCons s5 ?_; intro kS Pq hPq) | (refine exCons0 ?_; intro Pq hPq))) | (with_reducible refine Aft.next (by assumption) ?_) | (with_reducible refine Aft.ret (by assumption) ?_) | (with_reducible refine Aft.brk (by assumption) ?_) | (with_reducible refine Aft.cont (by assumption) ?_) | ((fail_if_success (with_reducible show wpAny _ _ (compareOp .NotIn _ _) _ _ _)); walk1) | fail "no step")
    (rename IntsAre itsR.toList _ => hIR)
    refine notin_list_ints (vs := itsR.toList) ⟨_, (N5 _ (.tail _ (.head _))).1, rfl, _, rfl⟩ hIR ?_
    repeat' (first | (k_unfold; (try dsimp only)) | ((with_reducible show wpAny _ _ (execs (_ :: _) _) _ _ _); (first | (refine exCons s5 ?_; intro kS Pq hPq) | (refine exCons0 ?_; intro Pq hPq))) | (with_reducible refine Aft.next (by assumption) ?_) | (with_reducible refine Aft.ret (by assumption) ?_) | (with_reducible refine Aft.brk (by assumption) ?_) | (with_reducible refine Aft.cont (by assumption) ?_) | ((with_reducible show wpAny _ _ _ _ _ _); walk1) | fail "no step")
    exact ⟨rfl, _, _, rfl, fun _ _ e => e⟩
  case hel =>
    intro C j k t s5 m5 E' hj hk hpv hn hm F5 N5
    exact ldL hn hm ⟨rfl, _, _, rfl, fun _ _ e => e⟩ rfl rfl
  intro De h43 tk43 ysE nnE vsE h44 hk44 F44 N44 hvlE hvsE hprE F43 N43 hDe
  have hyE := paired_none (fun v hv => by
    obtain ⟨j, hj⟩ := List.mem_iff_getElem?.mp hv
    obtain ⟨t, rfl⟩ := hvsE j v hj
    have hjl : j < (toldOf S (total.fmod 2) total 4 - 0).toNat := by rw [← hvlE]; exact (List.getElem?_eq_some_iff.mp hj).1
    have := hef.2 (0 + (j : Int) * 1) (by omega) (by omega)
    dsimp only
    rw [this]
    rfl) hprE
  have hyE2 : ysE = #[] := by rw [← Array.toList_inj, hyE]
  subst hyE2
  (try clear F44); (try clear N44); (try clear F42); (try clear N42); (try clear F41); (try clear N41); (try clear F40); (try clear N40)
  repeat' (first | (k_unfold; (try dsimp only)) | ((with_reducible show wpAny _ _ (execs (_ :: _) _) _ _ _); (first | (refine exCons s₄ ?_; intro kS Pq hPq) | (refine exCons0 ?_; intro Pq hPq))) | (with_reducible refine Aft.next (by assumption) ?_) | (with_reducible refine Aft.ret (by assumption) ?_) | (with_reducible refine Aft.brk (by assumption) ?_) | (with_reducible refine Aft.cont (by assumption) ?_) | ((fail_if_success (with_reducible show wpAny _ _ (compareOp _ _ _) _ _ _)); walk1) | fail "no step")
  walk1
  (rename Fr _ _ _ _ => FZ); (rename News _ _ _ _ => NZ)
  repeat (first | (with_reducible refine Aft.next (by assumption) ?_) | (with_reducible refine Aft.ret (by assumption) ?_) | (with_reducible refine Aft.brk (by assumption) ?_) | (with_reducible refine Aft.cont (by assumption) ?_) | (k_unfold; (try dsimp only)))
  exact hP0 _ _ _ _ FZ (two_news NZ (.tail _ (.tail _ (.tail _ (.tail _ (.tail _ (.tail _ (.tail _ (.tail _ (.head _))))))))) (.tail _ (.tail _ (.tail _ (.tail _ (.tail _ (.tail _ (.tail _ (.tail _ (.tail _ (.head _))))))))))) hbr4 (ho4.trans (ho3.trans ho1))
end
end Mine
end
theorem PySem.Challenge.cw_sr0083_01_holds : PySem.Challenge.rw_sr0083_01.Holds :=
  Mine.law_holds
