import PyProof.Rows.All
import Wide.All
import OpenK.AllK
import Wide.FinOn
import PySem.Challenge.RW_to0006_01
set_option Elab.async false
set_option compiler.extract_closed false
set_option maxRecDepth 100000
set_option linter.unusedVariables false
set_option linter.unusedSimpArgs false
section
open PySem PySem.W PyProof.Rows
set_option maxHeartbeats 8000000
namespace Mine
/-! The head without open_top: the written part K (the same list of objects that open_top writes), the program's text taken by projection, one look by the kernel. -/
noncomputable def prm : Option Stmt → Arguments
  | some (.FunctionDef _ a _ _ _ _ _ _ _ _) => a
  | _ => ⟨[], [], none, [], [], none, []⟩
noncomputable def bdy : Option Stmt → List Stmt
  | some (.FunctionDef _ _ b _ _ _ _ _ _ _) => b
  | _ => []
noncomputable def scp : Option Stmt → Scope
  | some (.FunctionDef _ _ _ _ _ _ s _ _ _) => s
  | _ => { kind := .function, names := [], isGenerator := false, isCoroutine := false }
noncomputable def clsB : Option Stmt → List Stmt
  | some (.ClassDef _ _ _ b _ _ _ _ _ _ _) => b
  | _ => []
noncomputable def ptop (i : Nat) : Option Stmt := (PySem.Challenge.pw_to0006_01.main.body.drop i).head?
noncomputable def pmem (i j : Nat) : Option Stmt := ((clsB (ptop i)).drop j).head?
noncomputable def KK : Params → Frag := fun P => by
  refine' (fun (p0 : Arguments) (b0 : List Stmt) (s0 : Scope) (p1 : Arguments) (b1 : List Stmt) (s1 : Scope) (p2 : Arguments) (b2 : List Stmt) (s2 : Scope) (p3 : Arguments) (b3 : List Stmt) (s3 : Scope) (p4 : Arguments) (b4 : List Stmt) (s4 : Scope) (p5 : Arguments) (b5 : List Stmt) (s5 : Scope) (p6 : Arguments) (b6 : List Stmt) (s6 : Scope) (p7 : Arguments) (b7 : List Stmt) (s7 : Scope) (p8 : Arguments) (b8 : List Stmt) (s8 : Scope) (p9 : Arguments) (b9 : List Stmt) (s9 : Scope) (p10 : Arguments) (b10 : List Stmt) (s10 : Scope) (p11 : Arguments) (b11 : List Stmt) (s11 : Scope) (p12 : Arguments) (b12 : List Stmt) (s12 : Scope) (p13 : Arguments) (b13 : List Stmt) (s13 : Scope) (_ : (prm (ptop 2), bdy (ptop 2), scp (ptop 2)) = (p0, b0, s0)) (_ : (prm (ptop 3), bdy (ptop 3), scp (ptop 3)) = (p1, b1, s1)) (_ : (prm (ptop 5), bdy (ptop 5), scp (ptop 5)) = (p2, b2, s2)) (_ : (prm (ptop 7), bdy (ptop 7), scp (ptop 7)) = (p3, b3, s3)) (_ : (prm (pmem 9 0), bdy (pmem 9 0), scp (pmem 9 0)) = (p4, b4, s4)) (_ : (prm (pmem 9 1), bdy (pmem 9 1), scp (pmem 9 1)) = (p5, b5, s5)) (_ : (prm (pmem 9 2), bdy (pmem 9 2), scp (pmem 9 2)) = (p6, b6, s6)) (_ : (prm (pmem 9 3), bdy (pmem 9 3), scp (pmem 9 3)) = (p7, b7, s7)) (_ : (prm (ptop 11), bdy (ptop 11), scp (ptop 11)) = (p8, b8, s8)) (_ : (prm (ptop 12), bdy (ptop 12), scp (ptop 12)) = (p9, b9, s9)) (_ : (prm (ptop 13), bdy (ptop 13), scp (ptop 13)) = (p10, b10, s10)) (_ : (prm (ptop 14), bdy (ptop 14), scp (ptop 14)) = (p11, b11, s11)) (_ : (prm (ptop 15), bdy (ptop 15), scp (ptop 15)) = (p12, b12, s12)) (_ : (prm (ptop 16), bdy (ptop 16), scp (ptop 16)) = (p13, b13, s13)) => ((nat_lit 2, { «cls» := PySem.Value.none, dict := (none : Option Nat), data := PySem.Data.dict #[] }) ::
(nat_lit 3, { «cls» := PySem.Value.type "dict", dict := (none : Option Nat), data := PySem.Data.dict #[{ hash := PySem.PyData.keyHash P (PySem.Str.ofString "__name__"), key := PySem.Value.str (PySem.Str.ofString "__name__") (165 : Nat), val := PySem.Value.str (PySem.Str.ofString "law_to0006_01") (314 : Nat) }, { hash := PySem.PyData.keyHash P (PySem.Str.ofString "__doc__"), key := PySem.Value.str (PySem.Str.ofString "__doc__") (166 : Nat), val := PySem.Value.none }, { hash := PySem.PyData.keyHash P (PySem.Str.ofString "__package__"), key := PySem.Value.str (PySem.Str.ofString "__package__") (167 : Nat), val := PySem.Value.none }, { hash := PySem.PyData.keyHash P (PySem.Str.ofString "__loader__"), key := PySem.Value.str (PySem.Str.ofString "__loader__") (168 : Nat), val := PySem.Value.builtin "__main__.__loader__#opaque" }, { hash := PySem.PyData.keyHash P (PySem.Str.ofString "__spec__"), key := PySem.Value.str (PySem.Str.ofString "__spec__") (169 : Nat), val := PySem.Value.none }, { hash := PySem.PyData.keyHash P (PySem.Str.ofString "__annotations__"), key := PySem.Value.str (PySem.Str.ofString "__annotations__") (170 : Nat), val := PySem.Value.ref (6 : Nat) }, { hash := PySem.PyData.keyHash P (PySem.Str.ofString "__builtins__"), key := PySem.Value.str (PySem.Str.ofString "__builtins__") (171 : Nat), val := PySem.Value.ref (4 : Nat) }, { hash := PySem.PyData.keyHash P (PySem.Str.ofString "__file__"), key := PySem.Value.str (PySem.Str.ofString "__file__") (173 : Nat), val := PySem.Value.str (PySem.Str.ofString "/claim/cut.py") (172 : Nat) }, { hash := PySem.PyData.keyHash P (PySem.Str.ofString "__cached__"), key := PySem.Value.str (PySem.Str.ofString "__cached__") (174 : Nat), val := PySem.Value.none }, { hash := PySem.PyData.keyHash P (PySem.Str.ofString "_DIV_LIMIT"), key := PySem.Value.str (PySem.Str.ofString "_DIV_LIMIT") (190 : Nat), val := PySem.Value.int (4000 : Int) (189 : Nat) }, { hash := PySem.PyData.keyHash P (PySem.Str.ofString "_div2n1n"), key := PySem.Value.str (PySem.Str.ofString "_div2n1n") (207 : Nat), val := PySem.Value.ref (21 : Nat) }, { hash := PySem.PyData.keyHash P (PySem.Str.ofString "_div3n2n"), key := PySem.Value.str (PySem.Str.ofString "_div3n2n") (221 : Nat), val := PySem.Value.ref (28 : Nat) }, { hash := PySem.PyData.keyHash P (PySem.Str.ofString "rgb_to_hsv"), key := PySem.Value.str (PySem.Str.ofString "rgb_to_hsv") (241 : Nat), val := PySem.Value.ref (35 : Nat) }, { hash := PySem.PyData.keyHash P (PySem.Str.ofString "_iter_escaped_chars"), key := PySem.Value.str (PySem.Str.ofString "_iter_escaped_chars") (253 : Nat), val := PySem.Value.ref (42 : Nat) }, { hash := PySem.PyData.keyHash P (PySem.Str.ofString "_netrclex"), key := PySem.Value.str (PySem.Str.ofString "_netrclex") (313 : Nat), val := PySem.Value.ref (80 : Nat) }, { hash := PySem.PyData.keyHash P (PySem.Str.ofString "_law_lexer"), key := PySem.Value.str (PySem.Str.ofString "_law_lexer") (326 : Nat), val := PySem.Value.ref (91 : Nat) }, { hash := PySem.PyData.keyHash P (PySem.Str.ofString "_law_fraction"), key := PySem.Value.str (PySem.Str.ofString "_law_fraction") (336 : Nat), val := PySem.Value.ref (98 : Nat) }, { hash := PySem.PyData.keyHash P (PySem.Str.ofString "_law_nearest"), key := PySem.Value.str (PySem.Str.ofString "_law_nearest") (352 : Nat), val := PySem.Value.ref (105 : Nat) }, { hash := PySem.PyData.keyHash P (PySem.Str.ofString "_law_fewest"), key := PySem.Value.str (PySem.Str.ofString "_law_fewest") (369 : Nat), val := PySem.Value.ref (112 : Nat) }, { hash := PySem.PyData.keyHash P (PySem.Str.ofString "_law_ladder"), key := PySem.Value.str (PySem.Str.ofString "_law_ladder") (375 : Nat), val := PySem.Value.ref (117 : Nat) }, { hash := PySem.PyData.keyHash P (PySem.Str.ofString "law"), key := PySem.Value.str (PySem.Str.ofString "law") (381 : Nat), val := PySem.Value.ref (122 : Nat) }] (21 : Nat) }) ::
(nat_lit 6, { «cls» := PySem.Value.type "dict", dict := (none : Option Nat), data := PySem.Data.dict #[] }) ::
(nat_lit 15, { «cls» := PySem.Value.type "tuple", dict := (none : Option Nat), data := PySem.Data.seq #[] }) ::
(nat_lit 17, { «cls» := PySem.Value.type "tuple", dict := (none : Option Nat), data := PySem.Data.seq #[PySem.Value.str (PySem.Str.ofString "a") (194 : Nat), PySem.Value.str (PySem.Str.ofString "b") (195 : Nat), PySem.Value.str (PySem.Str.ofString "n") (196 : Nat), PySem.Value.str (PySem.Str.ofString "pad") (197 : Nat), PySem.Value.str (PySem.Str.ofString "half_n") (198 : Nat), PySem.Value.str (PySem.Str.ofString "mask") (199 : Nat), PySem.Value.str (PySem.Str.ofString "b1") (200 : Nat), PySem.Value.str (PySem.Str.ofString "b2") (201 : Nat), PySem.Value.str (PySem.Str.ofString "q1") (202 : Nat), PySem.Value.str (PySem.Str.ofString "r") (203 : Nat), PySem.Value.str (PySem.Str.ofString "q2") (204 : Nat)] }) ::
(nat_lit 18, { «cls» := PySem.Value.type "tuple", dict := (none : Option Nat), data := PySem.Data.seq #[] }) ::
(nat_lit 20, { «cls» := PySem.Value.type "code", dict := (none : Option Nat), data := PySem.Data.fields #[PySem.Value.str (PySem.Str.ofString "_div2n1n") (191 : Nat), PySem.Value.str (PySem.Str.ofString "_div2n1n") (192 : Nat), PySem.Value.str (PySem.Str.ofString "/claim/cut.py") (193 : Nat), PySem.Value.int (3 : Int) (0 : Nat), PySem.Value.int (3 : Int) (0 : Nat), PySem.Value.int (0 : Int) (0 : Nat), PySem.Value.int (0 : Int) (0 : Nat), PySem.Value.int (3 : Int) (0 : Nat), PySem.Value.ref (15 : Nat), PySem.Value.bool true, PySem.Value.int (181 : Int) (0 : Nat), PySem.Value.ref (16 : Nat), PySem.Value.none, PySem.Value.ref (17 : Nat), PySem.Value.ref (18 : Nat), PySem.Value.ref (19 : Nat), PySem.Value.int (205 : Int) (0 : Nat), PySem.Value.int (3 : Int) (0 : Nat), PySem.Value.str (PySem.Str.ofString "/claim/cut.py") (206 : Nat)] }) ::
(nat_lit 21, { «cls» := PySem.Value.type "function", dict := (none : Option Nat), data := PySem.Data.func { name := PySem.Str.ofString "_div2n1n", qualname := PySem.Str.ofString "_div2n1n", params := p0, body := .stmts (b0), scope := s0, globals := (3 : Nat), closure := ([] : List (Str × Nat)), defaults := PySem.Value.none, kwdefaults := PySem.Value.none, pyModule := PySem.Value.str (PySem.Str.ofString "cpy313._pylong") (187 : Nat), annotations := (none : Option Nat), code := PySem.Value.ref (20 : Nat), builtins := (0 : Nat) } }) ::
(nat_lit 22, { «cls» := PySem.Value.type "tuple", dict := (none : Option Nat), data := PySem.Data.seq #[] }) ::
(nat_lit 24, { «cls» := PySem.Value.type "tuple", dict := (none : Option Nat), data := PySem.Data.seq #[PySem.Value.str (PySem.Str.ofString "a12") (211 : Nat), PySem.Value.str (PySem.Str.ofString "a3") (212 : Nat), PySem.Value.str (PySem.Str.ofString "b") (213 : Nat), PySem.Value.str (PySem.Str.ofString "b1") (214 : Nat), PySem.Value.str (PySem.Str.ofString "b2") (215 : Nat), PySem.Value.str (PySem.Str.ofString "n") (216 : Nat), PySem.Value.str (PySem.Str.ofString "q") (217 : Nat), PySem.Value.str (PySem.Str.ofString "r") (218 : Nat)] }) ::
(nat_lit 25, { «cls» := PySem.Value.type "tuple", dict := (none : Option Nat), data := PySem.Data.seq #[] }) ::
(nat_lit 27, { «cls» := PySem.Value.type "code", dict := (none : Option Nat), data := PySem.Data.fields #[PySem.Value.str (PySem.Str.ofString "_div3n2n") (208 : Nat), PySem.Value.str (PySem.Str.ofString "_div3n2n") (209 : Nat), PySem.Value.str (PySem.Str.ofString "/claim/cut.py") (210 : Nat), PySem.Value.int (19 : Int) (0 : Nat), PySem.Value.int (6 : Int) (0 : Nat), PySem.Value.int (0 : Int) (0 : Nat), PySem.Value.int (0 : Int) (0 : Nat), PySem.Value.int (3 : Int) (0 : Nat), PySem.Value.ref (22 : Nat), PySem.Value.bool true, PySem.Value.int (181 : Int) (0 : Nat), PySem.Value.ref (23 : Nat), PySem.Value.none, PySem.Value.ref (24 : Nat), PySem.Value.ref (25 : Nat), PySem.Value.ref (26 : Nat), PySem.Value.int (219 : Int) (0 : Nat), PySem.Value.int (19 : Int) (0 : Nat), PySem.Value.str (PySem.Str.ofString "/claim/cut.py") (220 : Nat)] }) ::
(nat_lit 28, { «cls» := PySem.Value.type "function", dict := (none : Option Nat), data := PySem.Data.func { name := PySem.Str.ofString "_div3n2n", qualname := PySem.Str.ofString "_div3n2n", params := p1, body := .stmts (b1), scope := s1, globals := (3 : Nat), closure := ([] : List (Str × Nat)), defaults := PySem.Value.none, kwdefaults := PySem.Value.none, pyModule := PySem.Value.str (PySem.Str.ofString "cpy313._pylong") (187 : Nat), annotations := (none : Option Nat), code := PySem.Value.ref (27 : Nat), builtins := (0 : Nat) } }) ::
(nat_lit 29, { «cls» := PySem.Value.type "tuple", dict := (none : Option Nat), data := PySem.Data.seq #[] }) ::
(nat_lit 31, { «cls» := PySem.Value.type "tuple", dict := (none : Option Nat), data := PySem.Data.seq #[PySem.Value.str (PySem.Str.ofString "r") (227 : Nat), PySem.Value.str (PySem.Str.ofString "g") (228 : Nat), PySem.Value.str (PySem.Str.ofString "b") (229 : Nat), PySem.Value.str (PySem.Str.ofString "maxc") (230 : Nat), PySem.Value.str (PySem.Str.ofString "minc") (231 : Nat), PySem.Value.str (PySem.Str.ofString "rangec") (232 : Nat), PySem.Value.str (PySem.Str.ofString "v") (233 : Nat), PySem.Value.str (PySem.Str.ofString "s") (234 : Nat), PySem.Value.str (PySem.Str.ofString "rc") (235 : Nat), PySem.Value.str (PySem.Str.ofString "gc") (236 : Nat), PySem.Value.str (PySem.Str.ofString "bc") (237 : Nat), PySem.Value.str (PySem.Str.ofString "h") (238 : Nat)] }) ::
(nat_lit 32, { «cls» := PySem.Value.type "tuple", dict := (none : Option Nat), data := PySem.Data.seq #[] }) ::
(nat_lit 34, { «cls» := PySem.Value.type "code", dict := (none : Option Nat), data := PySem.Data.fields #[PySem.Value.str (PySem.Str.ofString "rgb_to_hsv") (224 : Nat), PySem.Value.str (PySem.Str.ofString "rgb_to_hsv") (225 : Nat), PySem.Value.str (PySem.Str.ofString "/claim/cut.py") (226 : Nat), PySem.Value.int (30 : Int) (0 : Nat), PySem.Value.int (3 : Int) (0 : Nat), PySem.Value.int (0 : Int) (0 : Nat), PySem.Value.int (0 : Int) (0 : Nat), PySem.Value.int (3 : Int) (0 : Nat), PySem.Value.ref (29 : Nat), PySem.Value.bool true, PySem.Value.int (181 : Int) (0 : Nat), PySem.Value.ref (30 : Nat), PySem.Value.none, PySem.Value.ref (31 : Nat), PySem.Value.ref (32 : Nat), PySem.Value.ref (33 : Nat), PySem.Value.int (239 : Int) (0 : Nat), PySem.Value.int (30 : Int) (0 : Nat), PySem.Value.str (PySem.Str.ofString "/claim/cut.py") (240 : Nat)] }) ::
(nat_lit 35, { «cls» := PySem.Value.type "function", dict := (none : Option Nat), data := PySem.Data.func { name := PySem.Str.ofString "rgb_to_hsv", qualname := PySem.Str.ofString "rgb_to_hsv", params := p2, body := .stmts (b2), scope := s2, globals := (3 : Nat), closure := ([] : List (Str × Nat)), defaults := PySem.Value.none, kwdefaults := PySem.Value.none, pyModule := PySem.Value.str (PySem.Str.ofString "cpy313.colorsys") (222 : Nat), annotations := (none : Option Nat), code := PySem.Value.ref (34 : Nat), builtins := (0 : Nat) } }) ::
(nat_lit 36, { «cls» := PySem.Value.type "tuple", dict := (none : Option Nat), data := PySem.Data.seq #[] }) ::
(nat_lit 38, { «cls» := PySem.Value.type "tuple", dict := (none : Option Nat), data := PySem.Data.seq #[PySem.Value.str (PySem.Str.ofString "addr") (247 : Nat), PySem.Value.str (PySem.Str.ofString "pos") (248 : Nat), PySem.Value.str (PySem.Str.ofString "escape") (249 : Nat), PySem.Value.str (PySem.Str.ofString "ch") (250 : Nat)] }) ::
(nat_lit 39, { «cls» := PySem.Value.type "tuple", dict := (none : Option Nat), data := PySem.Data.seq #[] }) ::
(nat_lit 41, { «cls» := PySem.Value.type "code", dict := (none : Option Nat), data := PySem.Data.fields #[PySem.Value.str (PySem.Str.ofString "_iter_escaped_chars") (244 : Nat), PySem.Value.str (PySem.Str.ofString "_iter_escaped_chars") (245 : Nat), PySem.Value.str (PySem.Str.ofString "/claim/cut.py") (246 : Nat), PySem.Value.int (50 : Int) (0 : Nat), PySem.Value.int (1 : Int) (0 : Nat), PySem.Value.int (0 : Int) (0 : Nat), PySem.Value.int (0 : Int) (0 : Nat), PySem.Value.int (35 : Int) (0 : Nat), PySem.Value.ref (36 : Nat), PySem.Value.bool true, PySem.Value.int (181 : Int) (0 : Nat), PySem.Value.ref (37 : Nat), PySem.Value.none, PySem.Value.ref (38 : Nat), PySem.Value.ref (39 : Nat), PySem.Value.ref (40 : Nat), PySem.Value.int (251 : Int) (0 : Nat), PySem.Value.int (50 : Int) (0 : Nat), PySem.Value.str (PySem.Str.ofString "/claim/cut.py") (252 : Nat)] }) ::
(nat_lit 42, { «cls» := PySem.Value.type "function", dict := (none : Option Nat), data := PySem.Data.func { name := PySem.Str.ofString "_iter_escaped_chars", qualname := PySem.Str.ofString "_iter_escaped_chars", params := p3, body := .stmts (b3), scope := s3, globals := (3 : Nat), closure := ([] : List (Str × Nat)), defaults := PySem.Value.none, kwdefaults := PySem.Value.none, pyModule := PySem.Value.str (PySem.Str.ofString "cpy313.email.utils") (242 : Nat), annotations := (none : Option Nat), code := PySem.Value.ref (41 : Nat), builtins := (0 : Nat) } }) ::
(nat_lit 50, { «cls» := PySem.Value.type "tuple", dict := (none : Option Nat), data := PySem.Data.seq #[] }) ::
(nat_lit 52, { «cls» := PySem.Value.type "tuple", dict := (none : Option Nat), data := PySem.Data.seq #[PySem.Value.str (PySem.Str.ofString "self") (271 : Nat), PySem.Value.str (PySem.Str.ofString "fp") (272 : Nat)] }) ::
(nat_lit 53, { «cls» := PySem.Value.type "tuple", dict := (none : Option Nat), data := PySem.Data.seq #[] }) ::
(nat_lit 55, { «cls» := PySem.Value.type "code", dict := (none : Option Nat), data := PySem.Data.fields #[PySem.Value.str (PySem.Str.ofString "__init__") (268 : Nat), PySem.Value.str (PySem.Str.ofString "_netrclex.__init__") (269 : Nat), PySem.Value.str (PySem.Str.ofString "/claim/cut.py") (270 : Nat), PySem.Value.int (66 : Int) (0 : Nat), PySem.Value.int (2 : Int) (0 : Nat), PySem.Value.int (0 : Int) (0 : Nat), PySem.Value.int (0 : Int) (0 : Nat), PySem.Value.int (3 : Int) (0 : Nat), PySem.Value.ref (50 : Nat), PySem.Value.bool true, PySem.Value.int (181 : Int) (0 : Nat), PySem.Value.ref (51 : Nat), PySem.Value.none, PySem.Value.ref (52 : Nat), PySem.Value.ref (53 : Nat), PySem.Value.ref (54 : Nat), PySem.Value.int (273 : Int) (0 : Nat), PySem.Value.int (66 : Int) (0 : Nat), PySem.Value.str (PySem.Str.ofString "/claim/cut.py") (274 : Nat)] }) ::
(nat_lit 56, { «cls» := PySem.Value.type "function", dict := (none : Option Nat), data := PySem.Data.func { name := PySem.Str.ofString "__init__", qualname := PySem.Str.ofString "_netrclex.__init__", params := p4, body := .stmts (b4), scope := s4, globals := (3 : Nat), closure := ([] : List (Str × Nat)), defaults := PySem.Value.none, kwdefaults := PySem.Value.none, pyModule := PySem.Value.str (PySem.Str.ofString "cpy313.netrc") (254 : Nat), annotations := (none : Option Nat), code := PySem.Value.ref (55 : Nat), builtins := (0 : Nat) } }) ::
(nat_lit 57, { «cls» := PySem.Value.type "tuple", dict := (none : Option Nat), data := PySem.Data.seq #[] }) ::
(nat_lit 59, { «cls» := PySem.Value.type "tuple", dict := (none : Option Nat), data := PySem.Data.seq #[PySem.Value.str (PySem.Str.ofString "self") (279 : Nat), PySem.Value.str (PySem.Str.ofString "ch") (280 : Nat)] }) ::
(nat_lit 60, { «cls» := PySem.Value.type "tuple", dict := (none : Option Nat), data := PySem.Data.seq #[] }) ::
(nat_lit 62, { «cls» := PySem.Value.type "code", dict := (none : Option Nat), data := PySem.Data.fields #[PySem.Value.str (PySem.Str.ofString "_read_char") (276 : Nat), PySem.Value.str (PySem.Str.ofString "_netrclex._read_char") (277 : Nat), PySem.Value.str (PySem.Str.ofString "/claim/cut.py") (278 : Nat), PySem.Value.int (72 : Int) (0 : Nat), PySem.Value.int (1 : Int) (0 : Nat), PySem.Value.int (0 : Int) (0 : Nat), PySem.Value.int (0 : Int) (0 : Nat), PySem.Value.int (3 : Int) (0 : Nat), PySem.Value.ref (57 : Nat), PySem.Value.bool true, PySem.Value.int (181 : Int) (0 : Nat), PySem.Value.ref (58 : Nat), PySem.Value.none, PySem.Value.ref (59 : Nat), PySem.Value.ref (60 : Nat), PySem.Value.ref (61 : Nat), PySem.Value.int (281 : Int) (0 : Nat), PySem.Value.int (72 : Int) (0 : Nat), PySem.Value.str (PySem.Str.ofString "/claim/cut.py") (282 : Nat)] }) ::
(nat_lit 63, { «cls» := PySem.Value.type "function", dict := (none : Option Nat), data := PySem.Data.func { name := PySem.Str.ofString "_read_char", qualname := PySem.Str.ofString "_netrclex._read_char", params := p5, body := .stmts (b5), scope := s5, globals := (3 : Nat), closure := ([] : List (Str × Nat)), defaults := PySem.Value.none, kwdefaults := PySem.Value.none, pyModule := PySem.Value.str (PySem.Str.ofString "cpy313.netrc") (254 : Nat), annotations := (none : Option Nat), code := PySem.Value.ref (62 : Nat), builtins := (0 : Nat) } }) ::
(nat_lit 64, { «cls» := PySem.Value.type "tuple", dict := (none : Option Nat), data := PySem.Data.seq #[] }) ::
(nat_lit 66, { «cls» := PySem.Value.type "tuple", dict := (none : Option Nat), data := PySem.Data.seq #[PySem.Value.str (PySem.Str.ofString "self") (287 : Nat), PySem.Value.str (PySem.Str.ofString "token") (288 : Nat), PySem.Value.str (PySem.Str.ofString "fiter") (289 : Nat), PySem.Value.str (PySem.Str.ofString "ch") (290 : Nat)] }) ::
(nat_lit 67, { «cls» := PySem.Value.type "tuple", dict := (none : Option Nat), data := PySem.Data.seq #[] }) ::
(nat_lit 69, { «cls» := PySem.Value.type "code", dict := (none : Option Nat), data := PySem.Data.fields #[PySem.Value.str (PySem.Str.ofString "get_token") (284 : Nat), PySem.Value.str (PySem.Str.ofString "_netrclex.get_token") (285 : Nat), PySem.Value.str (PySem.Str.ofString "/claim/cut.py") (286 : Nat), PySem.Value.int (78 : Int) (0 : Nat), PySem.Value.int (1 : Int) (0 : Nat), PySem.Value.int (0 : Int) (0 : Nat), PySem.Value.int (0 : Int) (0 : Nat), PySem.Value.int (3 : Int) (0 : Nat), PySem.Value.ref (64 : Nat), PySem.Value.bool true, PySem.Value.int (181 : Int) (0 : Nat), PySem.Value.ref (65 : Nat), PySem.Value.none, PySem.Value.ref (66 : Nat), PySem.Value.ref (67 : Nat), PySem.Value.ref (68 : Nat), PySem.Value.int (291 : Int) (0 : Nat), PySem.Value.int (78 : Int) (0 : Nat), PySem.Value.str (PySem.Str.ofString "/claim/cut.py") (292 : Nat)] }) ::
(nat_lit 70, { «cls» := PySem.Value.type "function", dict := (none : Option Nat), data := PySem.Data.func { name := PySem.Str.ofString "get_token", qualname := PySem.Str.ofString "_netrclex.get_token", params := p6, body := .stmts (b6), scope := s6, globals := (3 : Nat), closure := ([] : List (Str × Nat)), defaults := PySem.Value.none, kwdefaults := PySem.Value.none, pyModule := PySem.Value.str (PySem.Str.ofString "cpy313.netrc") (254 : Nat), annotations := (none : Option Nat), code := PySem.Value.ref (69 : Nat), builtins := (0 : Nat) } }) ::
(nat_lit 71, { «cls» := PySem.Value.type "tuple", dict := (none : Option Nat), data := PySem.Data.seq #[] }) ::
(nat_lit 73, { «cls» := PySem.Value.type "tuple", dict := (none : Option Nat), data := PySem.Data.seq #[PySem.Value.str (PySem.Str.ofString "self") (297 : Nat), PySem.Value.str (PySem.Str.ofString "token") (298 : Nat)] }) ::
(nat_lit 74, { «cls» := PySem.Value.type "tuple", dict := (none : Option Nat), data := PySem.Data.seq #[] }) ::
(nat_lit 76, { «cls» := PySem.Value.type "code", dict := (none : Option Nat), data := PySem.Data.fields #[PySem.Value.str (PySem.Str.ofString "push_token") (294 : Nat), PySem.Value.str (PySem.Str.ofString "_netrclex.push_token") (295 : Nat), PySem.Value.str (PySem.Str.ofString "/claim/cut.py") (296 : Nat), PySem.Value.int (105 : Int) (0 : Nat), PySem.Value.int (2 : Int) (0 : Nat), PySem.Value.int (0 : Int) (0 : Nat), PySem.Value.int (0 : Int) (0 : Nat), PySem.Value.int (3 : Int) (0 : Nat), PySem.Value.ref (71 : Nat), PySem.Value.bool true, PySem.Value.int (181 : Int) (0 : Nat), PySem.Value.ref (72 : Nat), PySem.Value.none, PySem.Value.ref (73 : Nat), PySem.Value.ref (74 : Nat), PySem.Value.ref (75 : Nat), PySem.Value.int (299 : Int) (0 : Nat), PySem.Value.int (105 : Int) (0 : Nat), PySem.Value.str (PySem.Str.ofString "/claim/cut.py") (300 : Nat)] }) ::
(nat_lit 77, { «cls» := PySem.Value.type "function", dict := (none : Option Nat), data := PySem.Data.func { name := PySem.Str.ofString "push_token", qualname := PySem.Str.ofString "_netrclex.push_token", params := p7, body := .stmts (b7), scope := s7, globals := (3 : Nat), closure := ([] : List (Str × Nat)), defaults := PySem.Value.none, kwdefaults := PySem.Value.none, pyModule := PySem.Value.str (PySem.Str.ofString "cpy313.netrc") (254 : Nat), annotations := (none : Option Nat), code := PySem.Value.ref (76 : Nat), builtins := (0 : Nat) } }) ::
(nat_lit 78, { «cls» := PySem.Value.type "tuple", dict := (none : Option Nat), data := PySem.Data.seq #[PySem.Value.str (PySem.Str.ofString "instream") (302 : Nat), PySem.Value.str (PySem.Str.ofString "lineno") (303 : Nat), PySem.Value.str (PySem.Str.ofString "pushback") (304 : Nat), PySem.Value.str (PySem.Str.ofString "whitespace") (305 : Nat)] }) ::
(nat_lit 79, { «cls» := PySem.Value.type "dict", dict := (none : Option Nat), data := PySem.Data.dict #[{ hash := PySem.PyData.keyHash P (PySem.Str.ofString "__module__"), key := PySem.Value.str (PySem.Str.ofString "__module__") (263 : Nat), val := PySem.Value.str (PySem.Str.ofString "cpy313.netrc") (254 : Nat) }, { hash := PySem.PyData.keyHash P (PySem.Str.ofString "__firstlineno__"), key := PySem.Value.str (PySem.Str.ofString "__firstlineno__") (267 : Nat), val := PySem.Value.int (64 : Int) (266 : Nat) }, { hash := PySem.PyData.keyHash P (PySem.Str.ofString "__init__"), key := PySem.Value.str (PySem.Str.ofString "__init__") (275 : Nat), val := PySem.Value.ref (56 : Nat) }, { hash := PySem.PyData.keyHash P (PySem.Str.ofString "_read_char"), key := PySem.Value.str (PySem.Str.ofString "_read_char") (283 : Nat), val := PySem.Value.ref (63 : Nat) }, { hash := PySem.PyData.keyHash P (PySem.Str.ofString "get_token"), key := PySem.Value.str (PySem.Str.ofString "get_token") (293 : Nat), val := PySem.Value.ref (70 : Nat) }, { hash := PySem.PyData.keyHash P (PySem.Str.ofString "push_token"), key := PySem.Value.str (PySem.Str.ofString "push_token") (301 : Nat), val := PySem.Value.ref (77 : Nat) }, { hash := PySem.PyData.keyHash P (PySem.Str.ofString "__static_attributes__"), key := PySem.Value.str (PySem.Str.ofString "__static_attributes__") (306 : Nat), val := PySem.Value.ref (78 : Nat) }, { hash := PySem.PyData.keyHash P (PySem.Str.ofString "__dict__"), key := PySem.Value.str (PySem.Str.ofString "__dict__") (308 : Nat), val := PySem.Value.ref (81 : Nat) }, { hash := PySem.PyData.keyHash P (PySem.Str.ofString "__weakref__"), key := PySem.Value.str (PySem.Str.ofString "__weakref__") (310 : Nat), val := PySem.Value.ref (82 : Nat) }, { hash := PySem.PyData.keyHash P (PySem.Str.ofString "__doc__"), key := PySem.Value.str (PySem.Str.ofString "__doc__") (311 : Nat), val := PySem.Value.none }] (4 : Nat) }) ::
(nat_lit 80, { «cls» := PySem.Value.type "type", dict := (none : Option Nat), data := PySem.Data.cls { name := PySem.Str.ofString "_netrclex", bases := [PySem.Value.type "object"], mro := [PySem.Value.ref (80 : Nat), PySem.Value.type "object"], ns := (79 : Nat), qualname := PySem.Str.ofString "_netrclex" }, slots := #[none, none, some (PySem.Value.str (PySem.Str.ofString "_netrclex") (256 : Nat)), some (PySem.Value.str (PySem.Str.ofString "_netrclex") (264 : Nat)), some (PySem.Value.builtin "object.__new__"), some (PySem.Value.bool true)] }) ::
(nat_lit 81, { «cls» := PySem.Value.type "getset_descriptor", dict := (none : Option Nat), data := PySem.Data.fields #[PySem.Value.str (PySem.Str.ofString "__dict__") (307 : Nat), PySem.Value.ref (80 : Nat), PySem.Value.builtin "function.__dict__", PySem.Value.builtin "function.__dict__#set"] }) ::
(nat_lit 82, { «cls» := PySem.Value.type "getset_descriptor", dict := (none : Option Nat), data := PySem.Data.fields #[PySem.Value.str (PySem.Str.ofString "__weakref__") (309 : Nat), PySem.Value.ref (80 : Nat), PySem.Value.builtin "ExceptionGroup.__weakref__", PySem.Value.none] }) ::
(nat_lit 85, { «cls» := PySem.Value.type "tuple", dict := (none : Option Nat), data := PySem.Data.seq #[] }) ::
(nat_lit 87, { «cls» := PySem.Value.type "tuple", dict := (none : Option Nat), data := PySem.Data.seq #[PySem.Value.str (PySem.Str.ofString "text") (319 : Nat), PySem.Value.str (PySem.Str.ofString "_law_read_on") (320 : Nat), PySem.Value.str (PySem.Str.ofString "stream") (321 : Nat)] }) ::
(nat_lit 88, { «cls» := PySem.Value.type "tuple", dict := (none : Option Nat), data := PySem.Data.seq #[PySem.Value.str (PySem.Str.ofString "text") (322 : Nat), PySem.Value.str (PySem.Str.ofString "at") (323 : Nat)] }) ::
(nat_lit 90, { «cls» := PySem.Value.type "code", dict := (none : Option Nat), data := PySem.Data.fields #[PySem.Value.str (PySem.Str.ofString "_law_lexer") (316 : Nat), PySem.Value.str (PySem.Str.ofString "_law_lexer") (317 : Nat), PySem.Value.str (PySem.Str.ofString "/claim/cut.py") (318 : Nat), PySem.Value.int (108 : Int) (0 : Nat), PySem.Value.int (1 : Int) (0 : Nat), PySem.Value.int (0 : Int) (0 : Nat), PySem.Value.int (0 : Int) (0 : Nat), PySem.Value.int (3 : Int) (0 : Nat), PySem.Value.ref (85 : Nat), PySem.Value.bool true, PySem.Value.int (181 : Int) (0 : Nat), PySem.Value.ref (86 : Nat), PySem.Value.none, PySem.Value.ref (87 : Nat), PySem.Value.ref (88 : Nat), PySem.Value.ref (89 : Nat), PySem.Value.int (324 : Int) (0 : Nat), PySem.Value.int (108 : Int) (0 : Nat), PySem.Value.str (PySem.Str.ofString "/claim/cut.py") (325 : Nat)] }) ::
(nat_lit 91, { «cls» := PySem.Value.type "function", dict := (none : Option Nat), data := PySem.Data.func { name := PySem.Str.ofString "_law_lexer", qualname := PySem.Str.ofString "_law_lexer", params := p8, body := .stmts (b8), scope := s8, globals := (3 : Nat), closure := ([] : List (Str × Nat)), defaults := PySem.Value.none, kwdefaults := PySem.Value.none, pyModule := PySem.Value.str (PySem.Str.ofString "law_to0006_01") (314 : Nat), annotations := (none : Option Nat), code := PySem.Value.ref (90 : Nat), builtins := (0 : Nat) } }) ::
(nat_lit 92, { «cls» := PySem.Value.type "tuple", dict := (none : Option Nat), data := PySem.Data.seq #[] }) ::
(nat_lit 94, { «cls» := PySem.Value.type "tuple", dict := (none : Option Nat), data := PySem.Data.seq #[PySem.Value.str (PySem.Str.ofString "row") (330 : Nat), PySem.Value.str (PySem.Str.ofString "upper") (331 : Nat), PySem.Value.str (PySem.Str.ofString "lower") (332 : Nat), PySem.Value.str (PySem.Str.ofString "part") (333 : Nat)] }) ::
(nat_lit 95, { «cls» := PySem.Value.type "tuple", dict := (none : Option Nat), data := PySem.Data.seq #[] }) ::
(nat_lit 97, { «cls» := PySem.Value.type "code", dict := (none : Option Nat), data := PySem.Data.fields #[PySem.Value.str (PySem.Str.ofString "_law_fraction") (327 : Nat), PySem.Value.str (PySem.Str.ofString "_law_fraction") (328 : Nat), PySem.Value.str (PySem.Str.ofString "/claim/cut.py") (329 : Nat), PySem.Value.int (118 : Int) (0 : Nat), PySem.Value.int (1 : Int) (0 : Nat), PySem.Value.int (0 : Int) (0 : Nat), PySem.Value.int (0 : Int) (0 : Nat), PySem.Value.int (3 : Int) (0 : Nat), PySem.Value.ref (92 : Nat), PySem.Value.bool true, PySem.Value.int (181 : Int) (0 : Nat), PySem.Value.ref (93 : Nat), PySem.Value.none, PySem.Value.ref (94 : Nat), PySem.Value.ref (95 : Nat), PySem.Value.ref (96 : Nat), PySem.Value.int (334 : Int) (0 : Nat), PySem.Value.int (118 : Int) (0 : Nat), PySem.Value.str (PySem.Str.ofString "/claim/cut.py") (335 : Nat)] }) ::
(nat_lit 98, { «cls» := PySem.Value.type "function", dict := (none : Option Nat), data := PySem.Data.func { name := PySem.Str.ofString "_law_fraction", qualname := PySem.Str.ofString "_law_fraction", params := p9, body := .stmts (b9), scope := s9, globals := (3 : Nat), closure := ([] : List (Str × Nat)), defaults := PySem.Value.none, kwdefaults := PySem.Value.none, pyModule := PySem.Value.str (PySem.Str.ofString "law_to0006_01") (314 : Nat), annotations := (none : Option Nat), code := PySem.Value.ref (97 : Nat), builtins := (0 : Nat) } }) ::
(nat_lit 99, { «cls» := PySem.Value.type "tuple", dict := (none : Option Nat), data := PySem.Data.seq #[] }) ::
(nat_lit 101, { «cls» := PySem.Value.type "tuple", dict := (none : Option Nat), data := PySem.Data.seq #[PySem.Value.str (PySem.Str.ofString "upper") (340 : Nat), PySem.Value.str (PySem.Str.ofString "lower") (341 : Nat), PySem.Value.str (PySem.Str.ofString "runs") (342 : Nat), PySem.Value.str (PySem.Str.ofString "sign") (343 : Nat), PySem.Value.str (PySem.Str.ofString "moved") (344 : Nat), PySem.Value.str (PySem.Str.ofString "above") (345 : Nat), PySem.Value.str (PySem.Str.ofString "below") (346 : Nat), PySem.Value.str (PySem.Str.ofString "quotient") (347 : Nat), PySem.Value.str (PySem.Str.ofString "left") (348 : Nat), PySem.Value.str (PySem.Str.ofString "rest") (349 : Nat)] }) ::
(nat_lit 102, { «cls» := PySem.Value.type "tuple", dict := (none : Option Nat), data := PySem.Data.seq #[] }) ::
(nat_lit 104, { «cls» := PySem.Value.type "code", dict := (none : Option Nat), data := PySem.Data.fields #[PySem.Value.str (PySem.Str.ofString "_law_nearest") (337 : Nat), PySem.Value.str (PySem.Str.ofString "_law_nearest") (338 : Nat), PySem.Value.str (PySem.Str.ofString "/claim/cut.py") (339 : Nat), PySem.Value.int (123 : Int) (0 : Nat), PySem.Value.int (2 : Int) (0 : Nat), PySem.Value.int (0 : Int) (0 : Nat), PySem.Value.int (0 : Int) (0 : Nat), PySem.Value.int (3 : Int) (0 : Nat), PySem.Value.ref (99 : Nat), PySem.Value.bool true, PySem.Value.int (181 : Int) (0 : Nat), PySem.Value.ref (100 : Nat), PySem.Value.none, PySem.Value.ref (101 : Nat), PySem.Value.ref (102 : Nat), PySem.Value.ref (103 : Nat), PySem.Value.int (350 : Int) (0 : Nat), PySem.Value.int (123 : Int) (0 : Nat), PySem.Value.str (PySem.Str.ofString "/claim/cut.py") (351 : Nat)] }) ::
(nat_lit 105, { «cls» := PySem.Value.type "function", dict := (none : Option Nat), data := PySem.Data.func { name := PySem.Str.ofString "_law_nearest", qualname := PySem.Str.ofString "_law_nearest", params := p10, body := .stmts (b10), scope := s10, globals := (3 : Nat), closure := ([] : List (Str × Nat)), defaults := PySem.Value.none, kwdefaults := PySem.Value.none, pyModule := PySem.Value.str (PySem.Str.ofString "law_to0006_01") (314 : Nat), annotations := (none : Option Nat), code := PySem.Value.ref (104 : Nat), builtins := (0 : Nat) } }) ::
(nat_lit 106, { «cls» := PySem.Value.type "tuple", dict := (none : Option Nat), data := PySem.Data.seq #[] }) ::
(nat_lit 108, { «cls» := PySem.Value.type "tuple", dict := (none : Option Nat), data := PySem.Data.seq #[PySem.Value.str (PySem.Str.ofString "machine") (356 : Nat), PySem.Value.str (PySem.Str.ofString "upper") (357 : Nat), PySem.Value.str (PySem.Str.ofString "lower") (358 : Nat), PySem.Value.str (PySem.Str.ofString "rounds") (359 : Nat), PySem.Value.str (PySem.Str.ofString "waiting") (360 : Nat), PySem.Value.str (PySem.Str.ofString "ended") (361 : Nat), PySem.Value.str (PySem.Str.ofString "fresh") (362 : Nat), PySem.Value.str (PySem.Str.ofString "k") (363 : Nat), PySem.Value.str (PySem.Str.ofString "pair") (364 : Nat), PySem.Value.str (PySem.Str.ofString "divisor") (365 : Nat), PySem.Value.str (PySem.Str.ofString "rest") (366 : Nat)] }) ::
(nat_lit 109, { «cls» := PySem.Value.type "tuple", dict := (none : Option Nat), data := PySem.Data.seq #[] }) ::
(nat_lit 111, { «cls» := PySem.Value.type "code", dict := (none : Option Nat), data := PySem.Data.fields #[PySem.Value.str (PySem.Str.ofString "_law_fewest") (353 : Nat), PySem.Value.str (PySem.Str.ofString "_law_fewest") (354 : Nat), PySem.Value.str (PySem.Str.ofString "/claim/cut.py") (355 : Nat), PySem.Value.int (136 : Int) (0 : Nat), PySem.Value.int (3 : Int) (0 : Nat), PySem.Value.int (0 : Int) (0 : Nat), PySem.Value.int (0 : Int) (0 : Nat), PySem.Value.int (3 : Int) (0 : Nat), PySem.Value.ref (106 : Nat), PySem.Value.bool true, PySem.Value.int (181 : Int) (0 : Nat), PySem.Value.ref (107 : Nat), PySem.Value.none, PySem.Value.ref (108 : Nat), PySem.Value.ref (109 : Nat), PySem.Value.ref (110 : Nat), PySem.Value.int (367 : Int) (0 : Nat), PySem.Value.int (136 : Int) (0 : Nat), PySem.Value.str (PySem.Str.ofString "/claim/cut.py") (368 : Nat)] }) ::
(nat_lit 112, { «cls» := PySem.Value.type "function", dict := (none : Option Nat), data := PySem.Data.func { name := PySem.Str.ofString "_law_fewest", qualname := PySem.Str.ofString "_law_fewest", params := p11, body := .stmts (b11), scope := s11, globals := (3 : Nat), closure := ([] : List (Str × Nat)), defaults := PySem.Value.none, kwdefaults := PySem.Value.none, pyModule := PySem.Value.str (PySem.Str.ofString "law_to0006_01") (314 : Nat), annotations := (none : Option Nat), code := PySem.Value.ref (111 : Nat), builtins := (0 : Nat) } }) ::
(nat_lit 113, { «cls» := PySem.Value.type "tuple", dict := (none : Option Nat), data := PySem.Data.seq #[] }) ::
(nat_lit 116, { «cls» := PySem.Value.type "code", dict := (none : Option Nat), data := PySem.Data.fields #[PySem.Value.str (PySem.Str.ofString "_law_ladder") (370 : Nat), PySem.Value.str (PySem.Str.ofString "_law_ladder") (371 : Nat), PySem.Value.str (PySem.Str.ofString "/claim/cut.py") (372 : Nat), PySem.Value.int (154 : Int) (0 : Nat), PySem.Value.int (2 : Int) (0 : Nat), PySem.Value.int (0 : Int) (0 : Nat), PySem.Value.int (0 : Int) (0 : Nat), PySem.Value.int (3 : Int) (0 : Nat), PySem.Value.ref (113 : Nat), PySem.Value.bool true, PySem.Value.int (181 : Int) (0 : Nat), PySem.Value.ref (114 : Nat), PySem.Value.none, PySem.Value.none, PySem.Value.none, PySem.Value.ref (115 : Nat), PySem.Value.int (373 : Int) (0 : Nat), PySem.Value.int (154 : Int) (0 : Nat), PySem.Value.str (PySem.Str.ofString "/claim/cut.py") (374 : Nat)] }) ::
(nat_lit 117, { «cls» := PySem.Value.type "function", dict := (none : Option Nat), data := PySem.Data.func { name := PySem.Str.ofString "_law_ladder", qualname := PySem.Str.ofString "_law_ladder", params := p12, body := .stmts (b12), scope := s12, globals := (3 : Nat), closure := ([] : List (Str × Nat)), defaults := PySem.Value.none, kwdefaults := PySem.Value.none, pyModule := PySem.Value.str (PySem.Str.ofString "law_to0006_01") (314 : Nat), annotations := (none : Option Nat), code := PySem.Value.ref (116 : Nat), builtins := (0 : Nat) } }) ::
(nat_lit 118, { «cls» := PySem.Value.type "tuple", dict := (none : Option Nat), data := PySem.Data.seq #[] }) ::
(nat_lit 121, { «cls» := PySem.Value.type "code", dict := (none : Option Nat), data := PySem.Data.fields #[PySem.Value.str (PySem.Str.ofString "law") (376 : Nat), PySem.Value.str (PySem.Str.ofString "law") (377 : Nat), PySem.Value.str (PySem.Str.ofString "/claim/cut.py") (378 : Nat), PySem.Value.int (168 : Int) (0 : Nat), PySem.Value.int (1 : Int) (0 : Nat), PySem.Value.int (0 : Int) (0 : Nat), PySem.Value.int (0 : Int) (0 : Nat), PySem.Value.int (3 : Int) (0 : Nat), PySem.Value.ref (118 : Nat), PySem.Value.bool true, PySem.Value.int (181 : Int) (0 : Nat), PySem.Value.ref (119 : Nat), PySem.Value.none, PySem.Value.none, PySem.Value.none, PySem.Value.ref (120 : Nat), PySem.Value.int (379 : Int) (0 : Nat), PySem.Value.int (168 : Int) (0 : Nat), PySem.Value.str (PySem.Str.ofString "/claim/cut.py") (380 : Nat)] }) ::
(nat_lit 122, { «cls» := PySem.Value.type "function", dict := (none : Option Nat), data := PySem.Data.func { name := PySem.Str.ofString "law", qualname := PySem.Str.ofString "law", params := p13, body := .stmts (b13), scope := s13, globals := (3 : Nat), closure := ([] : List (Str × Nat)), defaults := PySem.Value.none, kwdefaults := PySem.Value.none, pyModule := PySem.Value.str (PySem.Str.ofString "law_to0006_01") (314 : Nat), annotations := (none : Option Nat), code := PySem.Value.ref (121 : Nat), builtins := (0 : Nat) } }) :: [] : Frag)) _ _ _ _ _ _ _ _ _ _ _ _ _ _ _ _ _ _ _ _ _ _ _ _ _ _ _ _ _ _ _ _ _ _ _ _ _ _ _ _ _ _ ?h0 ?h1 ?h2 ?h3 ?h4 ?h5 ?h6 ?h7 ?h8 ?h9 ?h10 ?h11 ?h12 ?h13
  case h0 => (dsimp only [prm, bdy, scp, clsB, ptop, pmem, PySem.Challenge.pw_to0006_01, List.drop, List.head?]; exact rfl)
  case h1 => (dsimp only [prm, bdy, scp, clsB, ptop, pmem, PySem.Challenge.pw_to0006_01, List.drop, List.head?]; exact rfl)
  case h2 => (dsimp only [prm, bdy, scp, clsB, ptop, pmem, PySem.Challenge.pw_to0006_01, List.drop, List.head?]; exact rfl)
  case h3 => (dsimp only [prm, bdy, scp, clsB, ptop, pmem, PySem.Challenge.pw_to0006_01, List.drop, List.head?]; exact rfl)
  case h4 => (dsimp only [prm, bdy, scp, clsB, ptop, pmem, PySem.Challenge.pw_to0006_01, List.drop, List.head?]; exact rfl)
  case h5 => (dsimp only [prm, bdy, scp, clsB, ptop, pmem, PySem.Challenge.pw_to0006_01, List.drop, List.head?]; exact rfl)
  case h6 => (dsimp only [prm, bdy, scp, clsB, ptop, pmem, PySem.Challenge.pw_to0006_01, List.drop, List.head?]; exact rfl)
  case h7 => (dsimp only [prm, bdy, scp, clsB, ptop, pmem, PySem.Challenge.pw_to0006_01, List.drop, List.head?]; exact rfl)
  case h8 => (dsimp only [prm, bdy, scp, clsB, ptop, pmem, PySem.Challenge.pw_to0006_01, List.drop, List.head?]; exact rfl)
  case h9 => (dsimp only [prm, bdy, scp, clsB, ptop, pmem, PySem.Challenge.pw_to0006_01, List.drop, List.head?]; exact rfl)
  case h10 => (dsimp only [prm, bdy, scp, clsB, ptop, pmem, PySem.Challenge.pw_to0006_01, List.drop, List.head?]; exact rfl)
  case h11 => (dsimp only [prm, bdy, scp, clsB, ptop, pmem, PySem.Challenge.pw_to0006_01, List.drop, List.head?]; exact rfl)
  case h12 => (dsimp only [prm, bdy, scp, clsB, ptop, pmem, PySem.Challenge.pw_to0006_01, List.drop, List.head?]; exact rfl)
  case h13 => (dsimp only [prm, bdy, scp, clsB, ptop, pmem, PySem.Challenge.pw_to0006_01, List.drop, List.head?]; exact rfl)
noncomputable def QQ : Program := by
  refine' (fun (l : List Stmt) (_ : (PySem.Challenge.pw_to0006_01.main.body.drop 1).take 3 ++ ((PySem.Challenge.pw_to0006_01.main.body.drop 5).take 1 ++ ((PySem.Challenge.pw_to0006_01.main.body.drop 7).take 1 ++ ((PySem.Challenge.pw_to0006_01.main.body.drop 9).take 1 ++ PySem.Challenge.pw_to0006_01.main.body.drop 11))) = l) => ({ PySem.Challenge.pw_to0006_01 with main := { PySem.Challenge.pw_to0006_01.main with body := l } } : Program)) _ ?h
  case h => (dsimp only [PySem.Challenge.pw_to0006_01, List.drop, List.take, List.cons_append, List.nil_append]; exact rfl)
noncomputable def kA : List Addr := 2 :: 3 :: 6 :: 15 :: 17 :: 18 :: 20 :: 21 :: 22 :: 24 :: 25 :: 27 :: 28 :: 29 :: 31 :: 32 :: 34 :: 35 :: 36 :: 38 :: 39 :: 41 :: 42 :: 50 :: 52 :: 53 :: 55 :: 56 :: 57 :: 59 :: 60 :: 62 :: 63 :: 64 :: 66 :: 67 :: 69 :: 70 :: 71 :: 73 :: 74 :: 76 :: 77 :: 78 :: 79 :: 80 :: 81 :: 82 :: 85 :: 87 :: 88 :: 90 :: 91 :: 92 :: 94 :: 95 :: 97 :: 98 :: 99 :: 101 :: 102 :: 104 :: 105 :: 106 :: 108 :: 109 :: 111 :: 112 :: 113 :: 116 :: 117 :: 118 :: 121 :: 122 :: []
theorem K_at : ∀ P, kA = (KK P).map (·.1) := fun _ => by kernel_rfl
theorem said0 : OpenLaw.wellSaid PySem.Challenge.rw_to0006_01 = true := by
  unfold OpenLaw.wellSaid
  with_reducible repeat' (refine Bool.and_eq_true_iff.mpr ⟨?_, ?_⟩)
  · unfold OpenRow.wellSaid OpenRow.partSaid looksOpen
    with_reducible repeat' (refine Bool.and_eq_true_iff.mpr ⟨?_, ?_⟩)
    all_goals decide +kernel
  all_goals decide +kernel
namespace TopRun
noncomputable def o43 : Params → Obj := fun P => { «cls» := PySem.Value.type "tuple", data := PySem.Data.seq #[] }
noncomputable def o44 : Params → Obj := fun P => { «cls» := PySem.Value.none, data := PySem.Data.fields #[] }
noncomputable def o45 : Params → Obj := fun P => { «cls» := PySem.Value.type "code", data := PySem.Data.fields #[PySem.Value.str (PySem.Str.ofString "<module>") (182 : Nat), PySem.Value.str (PySem.Str.ofString "<module>") (183 : Nat), PySem.Value.str (PySem.Str.ofString "/claim/cut.py") (184 : Nat), PySem.Value.int (1 : Int) (0 : Nat), PySem.Value.int (0 : Int) (0 : Nat), PySem.Value.int (0 : Int) (0 : Nat), PySem.Value.int (0 : Int) (0 : Nat), PySem.Value.int (0 : Int) (0 : Nat), PySem.Value.ref (11 : Nat), PySem.Value.bool false, PySem.Value.int (181 : Int) (0 : Nat), PySem.Value.ref (12 : Nat), PySem.Value.none, PySem.Value.none, PySem.Value.none, PySem.Value.none, PySem.Value.int (185 : Int) (0 : Nat), PySem.Value.int (1 : Int) (0 : Nat), PySem.Value.str (PySem.Str.ofString "/claim/cut.py") (186 : Nat)] }
noncomputable def o46 : Params → Obj := fun P => { «cls» := PySem.Value.type "frame", slots := #[some (PySem.Value.ref (13 : Nat)), some (PySem.Value.ref (3 : Nat)), some (PySem.Value.ref (3 : Nat)), none, some (PySem.Value.str (PySem.Str.ofString "__main__") (164 : Nat)), none, some (PySem.Value.ref (0 : Nat))] }
noncomputable def o49 : Params → Obj := fun P => { «cls» := PySem.Value.type "dict", data := PySem.Data.dict #[{ hash := PySem.PyData.keyHash P (PySem.Str.ofString "__name__"), key := PySem.Value.str (PySem.Str.ofString "__name__") (165 : Nat), val := PySem.Value.str (PySem.Str.ofString "cpy313.netrc") (254 : Nat) }, { hash := PySem.PyData.keyHash P (PySem.Str.ofString "__doc__"), key := PySem.Value.str (PySem.Str.ofString "__doc__") (166 : Nat), val := PySem.Value.none }, { hash := PySem.PyData.keyHash P (PySem.Str.ofString "__package__"), key := PySem.Value.str (PySem.Str.ofString "__package__") (167 : Nat), val := PySem.Value.none }, { hash := PySem.PyData.keyHash P (PySem.Str.ofString "__loader__"), key := PySem.Value.str (PySem.Str.ofString "__loader__") (168 : Nat), val := PySem.Value.builtin "__main__.__loader__#opaque" }, { hash := PySem.PyData.keyHash P (PySem.Str.ofString "__spec__"), key := PySem.Value.str (PySem.Str.ofString "__spec__") (169 : Nat), val := PySem.Value.none }, { hash := PySem.PyData.keyHash P (PySem.Str.ofString "__annotations__"), key := PySem.Value.str (PySem.Str.ofString "__annotations__") (170 : Nat), val := PySem.Value.ref (6 : Nat) }, { hash := PySem.PyData.keyHash P (PySem.Str.ofString "__builtins__"), key := PySem.Value.str (PySem.Str.ofString "__builtins__") (171 : Nat), val := PySem.Value.ref (4 : Nat) }, { hash := PySem.PyData.keyHash P (PySem.Str.ofString "__file__"), key := PySem.Value.str (PySem.Str.ofString "__file__") (173 : Nat), val := PySem.Value.str (PySem.Str.ofString "/claim/cut.py") (172 : Nat) }, { hash := PySem.PyData.keyHash P (PySem.Str.ofString "__cached__"), key := PySem.Value.str (PySem.Str.ofString "__cached__") (174 : Nat), val := PySem.Value.none }, { hash := PySem.PyData.keyHash P (PySem.Str.ofString "_DIV_LIMIT"), key := PySem.Value.str (PySem.Str.ofString "_DIV_LIMIT") (190 : Nat), val := PySem.Value.int (4000 : Int) (189 : Nat) }, { hash := PySem.PyData.keyHash P (PySem.Str.ofString "_div2n1n"), key := PySem.Value.str (PySem.Str.ofString "_div2n1n") (207 : Nat), val := PySem.Value.ref (21 : Nat) }, { hash := PySem.PyData.keyHash P (PySem.Str.ofString "_div3n2n"), key := PySem.Value.str (PySem.Str.ofString "_div3n2n") (221 : Nat), val := PySem.Value.ref (28 : Nat) }, { hash := PySem.PyData.keyHash P (PySem.Str.ofString "rgb_to_hsv"), key := PySem.Value.str (PySem.Str.ofString "rgb_to_hsv") (241 : Nat), val := PySem.Value.ref (35 : Nat) }, { hash := PySem.PyData.keyHash P (PySem.Str.ofString "_iter_escaped_chars"), key := PySem.Value.str (PySem.Str.ofString "_iter_escaped_chars") (253 : Nat), val := PySem.Value.ref (42 : Nat) }] (14 : Nat) }
noncomputable def o50 : Params → Obj := fun P => { «cls» := PySem.Value.none, data := PySem.Data.fields #[PySem.Value.int (3 : Int) (0 : Nat), PySem.Value.int (0 : Int) (0 : Nat), PySem.Value.ref (20 : Nat), PySem.Value.int (19 : Int) (0 : Nat), PySem.Value.int (0 : Int) (0 : Nat), PySem.Value.ref (27 : Nat), PySem.Value.int (30 : Int) (0 : Nat), PySem.Value.int (0 : Int) (0 : Nat), PySem.Value.ref (34 : Nat), PySem.Value.int (50 : Int) (0 : Nat), PySem.Value.int (0 : Int) (0 : Nat), PySem.Value.ref (41 : Nat)] }
noncomputable def o51 : Params → Obj := fun P => { «cls» := PySem.Value.type "tuple", data := PySem.Data.seq #[] }
noncomputable def o52 : Params → Obj := fun P => { «cls» := PySem.Value.none, data := PySem.Data.fields #[] }
noncomputable def o53 : Params → Obj := fun P => { «cls» := PySem.Value.type "tuple", data := PySem.Data.seq #[PySem.Value.str (PySem.Str.ofString "a") (194 : Nat), PySem.Value.str (PySem.Str.ofString "b") (195 : Nat), PySem.Value.str (PySem.Str.ofString "n") (196 : Nat), PySem.Value.str (PySem.Str.ofString "pad") (197 : Nat), PySem.Value.str (PySem.Str.ofString "half_n") (198 : Nat), PySem.Value.str (PySem.Str.ofString "mask") (199 : Nat), PySem.Value.str (PySem.Str.ofString "b1") (200 : Nat), PySem.Value.str (PySem.Str.ofString "b2") (201 : Nat), PySem.Value.str (PySem.Str.ofString "q1") (202 : Nat), PySem.Value.str (PySem.Str.ofString "r") (203 : Nat), PySem.Value.str (PySem.Str.ofString "q2") (204 : Nat)] }
noncomputable def o54 : Params → Obj := fun P => { «cls» := PySem.Value.type "tuple", data := PySem.Data.seq #[] }
noncomputable def o55 : Params → Obj := fun P => { «cls» := PySem.Value.none, data := PySem.Data.func { name := PySem.Str.ofString "_div2n1n", qualname := PySem.Str.ofString "_div2n1n", params := prm (ptop 2), body := .stmts (bdy (ptop 2)), scope := scp (ptop 2), globals := (0 : Nat), closure := [], defaults := PySem.Value.none, kwdefaults := PySem.Value.none } }
noncomputable def o56 : Params → Obj := fun P => { «cls» := PySem.Value.type "code", data := PySem.Data.fields #[PySem.Value.str (PySem.Str.ofString "_div2n1n") (191 : Nat), PySem.Value.str (PySem.Str.ofString "_div2n1n") (192 : Nat), PySem.Value.str (PySem.Str.ofString "/claim/cut.py") (193 : Nat), PySem.Value.int (3 : Int) (0 : Nat), PySem.Value.int (3 : Int) (0 : Nat), PySem.Value.int (0 : Int) (0 : Nat), PySem.Value.int (0 : Int) (0 : Nat), PySem.Value.int (3 : Int) (0 : Nat), PySem.Value.ref (15 : Nat), PySem.Value.bool true, PySem.Value.int (181 : Int) (0 : Nat), PySem.Value.ref (16 : Nat), PySem.Value.none, PySem.Value.ref (17 : Nat), PySem.Value.ref (18 : Nat), PySem.Value.ref (19 : Nat), PySem.Value.int (205 : Int) (0 : Nat), PySem.Value.int (3 : Int) (0 : Nat), PySem.Value.str (PySem.Str.ofString "/claim/cut.py") (206 : Nat)] }
noncomputable def o57 : Params → Obj := fun P => { «cls» := PySem.Value.type "function", data := PySem.Data.func { name := PySem.Str.ofString "_div2n1n", qualname := PySem.Str.ofString "_div2n1n", params := prm (ptop 2), body := .stmts (bdy (ptop 2)), scope := scp (ptop 2), globals := (3 : Nat), closure := [], defaults := PySem.Value.none, kwdefaults := PySem.Value.none, pyModule := PySem.Value.str (PySem.Str.ofString "cpy313._pylong") (187 : Nat), code := PySem.Value.ref (20 : Nat) } }
noncomputable def o58 : Params → Obj := fun P => { «cls» := PySem.Value.type "tuple", data := PySem.Data.seq #[] }
noncomputable def o59 : Params → Obj := fun P => { «cls» := PySem.Value.none, data := PySem.Data.fields #[] }
noncomputable def o60 : Params → Obj := fun P => { «cls» := PySem.Value.type "tuple", data := PySem.Data.seq #[PySem.Value.str (PySem.Str.ofString "a12") (211 : Nat), PySem.Value.str (PySem.Str.ofString "a3") (212 : Nat), PySem.Value.str (PySem.Str.ofString "b") (213 : Nat), PySem.Value.str (PySem.Str.ofString "b1") (214 : Nat), PySem.Value.str (PySem.Str.ofString "b2") (215 : Nat), PySem.Value.str (PySem.Str.ofString "n") (216 : Nat), PySem.Value.str (PySem.Str.ofString "q") (217 : Nat), PySem.Value.str (PySem.Str.ofString "r") (218 : Nat)] }
noncomputable def o61 : Params → Obj := fun P => { «cls» := PySem.Value.type "tuple", data := PySem.Data.seq #[] }
noncomputable def o62 : Params → Obj := fun P => { «cls» := PySem.Value.none, data := PySem.Data.func { name := PySem.Str.ofString "_div3n2n", qualname := PySem.Str.ofString "_div3n2n", params := prm (ptop 3), body := .stmts (bdy (ptop 3)), scope := scp (ptop 3), globals := (0 : Nat), closure := [], defaults := PySem.Value.none, kwdefaults := PySem.Value.none } }
noncomputable def o63 : Params → Obj := fun P => { «cls» := PySem.Value.type "code", data := PySem.Data.fields #[PySem.Value.str (PySem.Str.ofString "_div3n2n") (208 : Nat), PySem.Value.str (PySem.Str.ofString "_div3n2n") (209 : Nat), PySem.Value.str (PySem.Str.ofString "/claim/cut.py") (210 : Nat), PySem.Value.int (19 : Int) (0 : Nat), PySem.Value.int (6 : Int) (0 : Nat), PySem.Value.int (0 : Int) (0 : Nat), PySem.Value.int (0 : Int) (0 : Nat), PySem.Value.int (3 : Int) (0 : Nat), PySem.Value.ref (22 : Nat), PySem.Value.bool true, PySem.Value.int (181 : Int) (0 : Nat), PySem.Value.ref (23 : Nat), PySem.Value.none, PySem.Value.ref (24 : Nat), PySem.Value.ref (25 : Nat), PySem.Value.ref (26 : Nat), PySem.Value.int (219 : Int) (0 : Nat), PySem.Value.int (19 : Int) (0 : Nat), PySem.Value.str (PySem.Str.ofString "/claim/cut.py") (220 : Nat)] }
noncomputable def o64 : Params → Obj := fun P => { «cls» := PySem.Value.type "function", data := PySem.Data.func { name := PySem.Str.ofString "_div3n2n", qualname := PySem.Str.ofString "_div3n2n", params := prm (ptop 3), body := .stmts (bdy (ptop 3)), scope := scp (ptop 3), globals := (3 : Nat), closure := [], defaults := PySem.Value.none, kwdefaults := PySem.Value.none, pyModule := PySem.Value.str (PySem.Str.ofString "cpy313._pylong") (187 : Nat), code := PySem.Value.ref (27 : Nat) } }
noncomputable def o65 : Params → Obj := fun P => { «cls» := PySem.Value.type "tuple", data := PySem.Data.seq #[] }
noncomputable def o66 : Params → Obj := fun P => { «cls» := PySem.Value.none, data := PySem.Data.fields #[] }
noncomputable def o67 : Params → Obj := fun P => { «cls» := PySem.Value.type "tuple", data := PySem.Data.seq #[PySem.Value.str (PySem.Str.ofString "r") (227 : Nat), PySem.Value.str (PySem.Str.ofString "g") (228 : Nat), PySem.Value.str (PySem.Str.ofString "b") (229 : Nat), PySem.Value.str (PySem.Str.ofString "maxc") (230 : Nat), PySem.Value.str (PySem.Str.ofString "minc") (231 : Nat), PySem.Value.str (PySem.Str.ofString "rangec") (232 : Nat), PySem.Value.str (PySem.Str.ofString "v") (233 : Nat), PySem.Value.str (PySem.Str.ofString "s") (234 : Nat), PySem.Value.str (PySem.Str.ofString "rc") (235 : Nat), PySem.Value.str (PySem.Str.ofString "gc") (236 : Nat), PySem.Value.str (PySem.Str.ofString "bc") (237 : Nat), PySem.Value.str (PySem.Str.ofString "h") (238 : Nat)] }
noncomputable def o68 : Params → Obj := fun P => { «cls» := PySem.Value.type "tuple", data := PySem.Data.seq #[] }
noncomputable def o69 : Params → Obj := fun P => { «cls» := PySem.Value.none, data := PySem.Data.func { name := PySem.Str.ofString "rgb_to_hsv", qualname := PySem.Str.ofString "rgb_to_hsv", params := prm (ptop 5), body := .stmts (bdy (ptop 5)), scope := scp (ptop 5), globals := (0 : Nat), closure := [], defaults := PySem.Value.none, kwdefaults := PySem.Value.none } }
noncomputable def o70 : Params → Obj := fun P => { «cls» := PySem.Value.type "code", data := PySem.Data.fields #[PySem.Value.str (PySem.Str.ofString "rgb_to_hsv") (224 : Nat), PySem.Value.str (PySem.Str.ofString "rgb_to_hsv") (225 : Nat), PySem.Value.str (PySem.Str.ofString "/claim/cut.py") (226 : Nat), PySem.Value.int (30 : Int) (0 : Nat), PySem.Value.int (3 : Int) (0 : Nat), PySem.Value.int (0 : Int) (0 : Nat), PySem.Value.int (0 : Int) (0 : Nat), PySem.Value.int (3 : Int) (0 : Nat), PySem.Value.ref (29 : Nat), PySem.Value.bool true, PySem.Value.int (181 : Int) (0 : Nat), PySem.Value.ref (30 : Nat), PySem.Value.none, PySem.Value.ref (31 : Nat), PySem.Value.ref (32 : Nat), PySem.Value.ref (33 : Nat), PySem.Value.int (239 : Int) (0 : Nat), PySem.Value.int (30 : Int) (0 : Nat), PySem.Value.str (PySem.Str.ofString "/claim/cut.py") (240 : Nat)] }
noncomputable def o71 : Params → Obj := fun P => { «cls» := PySem.Value.type "function", data := PySem.Data.func { name := PySem.Str.ofString "rgb_to_hsv", qualname := PySem.Str.ofString "rgb_to_hsv", params := prm (ptop 5), body := .stmts (bdy (ptop 5)), scope := scp (ptop 5), globals := (3 : Nat), closure := [], defaults := PySem.Value.none, kwdefaults := PySem.Value.none, pyModule := PySem.Value.str (PySem.Str.ofString "cpy313.colorsys") (222 : Nat), code := PySem.Value.ref (34 : Nat) } }
noncomputable def o72 : Params → Obj := fun P => { «cls» := PySem.Value.type "tuple", data := PySem.Data.seq #[] }
noncomputable def o73 : Params → Obj := fun P => { «cls» := PySem.Value.none, data := PySem.Data.fields #[] }
noncomputable def o74 : Params → Obj := fun P => { «cls» := PySem.Value.type "tuple", data := PySem.Data.seq #[PySem.Value.str (PySem.Str.ofString "addr") (247 : Nat), PySem.Value.str (PySem.Str.ofString "pos") (248 : Nat), PySem.Value.str (PySem.Str.ofString "escape") (249 : Nat), PySem.Value.str (PySem.Str.ofString "ch") (250 : Nat)] }
noncomputable def o75 : Params → Obj := fun P => { «cls» := PySem.Value.type "tuple", data := PySem.Data.seq #[] }
noncomputable def o76 : Params → Obj := fun P => { «cls» := PySem.Value.none, data := PySem.Data.func { name := PySem.Str.ofString "_iter_escaped_chars", qualname := PySem.Str.ofString "_iter_escaped_chars", params := prm (ptop 7), body := .stmts (bdy (ptop 7)), scope := scp (ptop 7), globals := (0 : Nat), closure := [], defaults := PySem.Value.none, kwdefaults := PySem.Value.none } }
noncomputable def o77 : Params → Obj := fun P => { «cls» := PySem.Value.type "code", data := PySem.Data.fields #[PySem.Value.str (PySem.Str.ofString "_iter_escaped_chars") (244 : Nat), PySem.Value.str (PySem.Str.ofString "_iter_escaped_chars") (245 : Nat), PySem.Value.str (PySem.Str.ofString "/claim/cut.py") (246 : Nat), PySem.Value.int (50 : Int) (0 : Nat), PySem.Value.int (1 : Int) (0 : Nat), PySem.Value.int (0 : Int) (0 : Nat), PySem.Value.int (0 : Int) (0 : Nat), PySem.Value.int (35 : Int) (0 : Nat), PySem.Value.ref (36 : Nat), PySem.Value.bool true, PySem.Value.int (181 : Int) (0 : Nat), PySem.Value.ref (37 : Nat), PySem.Value.none, PySem.Value.ref (38 : Nat), PySem.Value.ref (39 : Nat), PySem.Value.ref (40 : Nat), PySem.Value.int (251 : Int) (0 : Nat), PySem.Value.int (50 : Int) (0 : Nat), PySem.Value.str (PySem.Str.ofString "/claim/cut.py") (252 : Nat)] }
noncomputable def o78 : Params → Obj := fun P => { «cls» := PySem.Value.type "function", data := PySem.Data.func { name := PySem.Str.ofString "_iter_escaped_chars", qualname := PySem.Str.ofString "_iter_escaped_chars", params := prm (ptop 7), body := .stmts (bdy (ptop 7)), scope := scp (ptop 7), globals := (3 : Nat), closure := [], defaults := PySem.Value.none, kwdefaults := PySem.Value.none, pyModule := PySem.Value.str (PySem.Str.ofString "cpy313.email.utils") (242 : Nat), code := PySem.Value.ref (41 : Nat) } }
noncomputable def o79 : Params → Obj := fun P => { «cls» := PySem.Value.type "dict", data := PySem.Data.dict #[{ hash := PySem.PyData.keyHash P (PySem.Str.ofString "__name__"), key := PySem.Value.str (PySem.Str.ofString "__name__") (165 : Nat), val := PySem.Value.str (PySem.Str.ofString "law_to0006_01") (314 : Nat) }, { hash := PySem.PyData.keyHash P (PySem.Str.ofString "__doc__"), key := PySem.Value.str (PySem.Str.ofString "__doc__") (166 : Nat), val := PySem.Value.none }, { hash := PySem.PyData.keyHash P (PySem.Str.ofString "__package__"), key := PySem.Value.str (PySem.Str.ofString "__package__") (167 : Nat), val := PySem.Value.none }, { hash := PySem.PyData.keyHash P (PySem.Str.ofString "__loader__"), key := PySem.Value.str (PySem.Str.ofString "__loader__") (168 : Nat), val := PySem.Value.builtin "__main__.__loader__#opaque" }, { hash := PySem.PyData.keyHash P (PySem.Str.ofString "__spec__"), key := PySem.Value.str (PySem.Str.ofString "__spec__") (169 : Nat), val := PySem.Value.none }, { hash := PySem.PyData.keyHash P (PySem.Str.ofString "__annotations__"), key := PySem.Value.str (PySem.Str.ofString "__annotations__") (170 : Nat), val := PySem.Value.ref (6 : Nat) }, { hash := PySem.PyData.keyHash P (PySem.Str.ofString "__builtins__"), key := PySem.Value.str (PySem.Str.ofString "__builtins__") (171 : Nat), val := PySem.Value.ref (4 : Nat) }, { hash := PySem.PyData.keyHash P (PySem.Str.ofString "__file__"), key := PySem.Value.str (PySem.Str.ofString "__file__") (173 : Nat), val := PySem.Value.str (PySem.Str.ofString "/claim/cut.py") (172 : Nat) }, { hash := PySem.PyData.keyHash P (PySem.Str.ofString "__cached__"), key := PySem.Value.str (PySem.Str.ofString "__cached__") (174 : Nat), val := PySem.Value.none }, { hash := PySem.PyData.keyHash P (PySem.Str.ofString "_DIV_LIMIT"), key := PySem.Value.str (PySem.Str.ofString "_DIV_LIMIT") (190 : Nat), val := PySem.Value.int (4000 : Int) (189 : Nat) }, { hash := PySem.PyData.keyHash P (PySem.Str.ofString "_div2n1n"), key := PySem.Value.str (PySem.Str.ofString "_div2n1n") (207 : Nat), val := PySem.Value.ref (21 : Nat) }, { hash := PySem.PyData.keyHash P (PySem.Str.ofString "_div3n2n"), key := PySem.Value.str (PySem.Str.ofString "_div3n2n") (221 : Nat), val := PySem.Value.ref (28 : Nat) }, { hash := PySem.PyData.keyHash P (PySem.Str.ofString "rgb_to_hsv"), key := PySem.Value.str (PySem.Str.ofString "rgb_to_hsv") (241 : Nat), val := PySem.Value.ref (35 : Nat) }, { hash := PySem.PyData.keyHash P (PySem.Str.ofString "_iter_escaped_chars"), key := PySem.Value.str (PySem.Str.ofString "_iter_escaped_chars") (253 : Nat), val := PySem.Value.ref (42 : Nat) }, { hash := PySem.PyData.keyHash P (PySem.Str.ofString "_netrclex"), key := PySem.Value.str (PySem.Str.ofString "_netrclex") (313 : Nat), val := PySem.Value.ref (80 : Nat) }, { hash := PySem.PyData.keyHash P (PySem.Str.ofString "_law_lexer"), key := PySem.Value.str (PySem.Str.ofString "_law_lexer") (326 : Nat), val := PySem.Value.ref (91 : Nat) }, { hash := PySem.PyData.keyHash P (PySem.Str.ofString "_law_fraction"), key := PySem.Value.str (PySem.Str.ofString "_law_fraction") (336 : Nat), val := PySem.Value.ref (98 : Nat) }] (17 : Nat) }
noncomputable def o80 : Params → Obj := fun P => { «cls» := PySem.Value.none, data := PySem.Data.fields #[PySem.Value.int (3 : Int) (0 : Nat), PySem.Value.int (0 : Int) (0 : Nat), PySem.Value.ref (20 : Nat), PySem.Value.int (19 : Int) (0 : Nat), PySem.Value.int (0 : Int) (0 : Nat), PySem.Value.ref (27 : Nat), PySem.Value.int (30 : Int) (0 : Nat), PySem.Value.int (0 : Int) (0 : Nat), PySem.Value.ref (34 : Nat), PySem.Value.int (50 : Int) (0 : Nat), PySem.Value.int (0 : Int) (0 : Nat), PySem.Value.ref (41 : Nat), PySem.Value.int (64 : Int) (0 : Nat), PySem.Value.int (0 : Int) (0 : Nat), PySem.Value.ref (48 : Nat), PySem.Value.int (108 : Int) (0 : Nat), PySem.Value.int (0 : Int) (0 : Nat), PySem.Value.ref (90 : Nat), PySem.Value.int (118 : Int) (0 : Nat), PySem.Value.int (0 : Int) (0 : Nat), PySem.Value.ref (97 : Nat)] }
noncomputable def o81 : Params → Obj := fun P => { «cls» := PySem.Value.type "tuple", data := PySem.Data.seq #[] }
noncomputable def o82 : Params → Obj := fun P => { «cls» := PySem.Value.type "builtin_function_or_method", data := PySem.Data.fields #[PySem.Value.builtin "type.__prepare__", PySem.Value.type "type"] }
noncomputable def o83 : Params → Obj := fun P => { «cls» := PySem.Value.type "dict", data := PySem.Data.dict #[{ hash := PySem.PyData.keyHash P (PySem.Str.ofString "__module__"), key := PySem.Value.str (PySem.Str.ofString "__module__") (263 : Nat), val := PySem.Value.str (PySem.Str.ofString "cpy313.netrc") (254 : Nat) }, { hash := PySem.PyData.keyHash P (PySem.Str.ofString "__qualname__"), key := PySem.Value.str (PySem.Str.ofString "__qualname__") (265 : Nat), val := PySem.Value.str (PySem.Str.ofString "_netrclex") (264 : Nat) }, { hash := PySem.PyData.keyHash P (PySem.Str.ofString "__firstlineno__"), key := PySem.Value.str (PySem.Str.ofString "__firstlineno__") (267 : Nat), val := PySem.Value.int (64 : Int) (266 : Nat) }, { hash := PySem.PyData.keyHash P (PySem.Str.ofString "__init__"), key := PySem.Value.str (PySem.Str.ofString "__init__") (275 : Nat), val := PySem.Value.ref (56 : Nat) }, { hash := PySem.PyData.keyHash P (PySem.Str.ofString "_read_char"), key := PySem.Value.str (PySem.Str.ofString "_read_char") (283 : Nat), val := PySem.Value.ref (63 : Nat) }, { hash := PySem.PyData.keyHash P (PySem.Str.ofString "get_token"), key := PySem.Value.str (PySem.Str.ofString "get_token") (293 : Nat), val := PySem.Value.ref (70 : Nat) }, { hash := PySem.PyData.keyHash P (PySem.Str.ofString "push_token"), key := PySem.Value.str (PySem.Str.ofString "push_token") (301 : Nat), val := PySem.Value.ref (77 : Nat) }, { hash := PySem.PyData.keyHash P (PySem.Str.ofString "__static_attributes__"), key := PySem.Value.str (PySem.Str.ofString "__static_attributes__") (306 : Nat), val := PySem.Value.ref (78 : Nat) }] (8 : Nat) }
noncomputable def o84 : Params → Obj := fun P => { «cls» := PySem.Value.type "tuple", data := PySem.Data.seq #[] }
noncomputable def o85 : Params → Obj := fun P => { «cls» := PySem.Value.none, data := PySem.Data.fields #[PySem.Value.int (66 : Int) (0 : Nat), PySem.Value.int (4 : Int) (0 : Nat), PySem.Value.ref (55 : Nat), PySem.Value.int (72 : Int) (0 : Nat), PySem.Value.int (4 : Int) (0 : Nat), PySem.Value.ref (62 : Nat), PySem.Value.int (78 : Int) (0 : Nat), PySem.Value.int (4 : Int) (0 : Nat), PySem.Value.ref (69 : Nat), PySem.Value.int (105 : Int) (0 : Nat), PySem.Value.int (4 : Int) (0 : Nat), PySem.Value.ref (76 : Nat)] }
noncomputable def o86 : Params → Obj := fun P => { «cls» := PySem.Value.type "code", data := PySem.Data.fields #[PySem.Value.str (PySem.Str.ofString "_netrclex") (258 : Nat), PySem.Value.str (PySem.Str.ofString "_netrclex") (259 : Nat), PySem.Value.str (PySem.Str.ofString "/claim/cut.py") (260 : Nat), PySem.Value.int (64 : Int) (0 : Nat), PySem.Value.int (0 : Int) (0 : Nat), PySem.Value.int (0 : Int) (0 : Nat), PySem.Value.int (0 : Int) (0 : Nat), PySem.Value.int (0 : Int) (0 : Nat), PySem.Value.ref (46 : Nat), PySem.Value.bool false, PySem.Value.int (181 : Int) (0 : Nat), PySem.Value.ref (47 : Nat), PySem.Value.none, PySem.Value.none, PySem.Value.none, PySem.Value.none, PySem.Value.int (261 : Int) (0 : Nat), PySem.Value.int (64 : Int) (0 : Nat), PySem.Value.str (PySem.Str.ofString "/claim/cut.py") (262 : Nat)] }
noncomputable def o87 : Params → Obj := fun P => { «cls» := PySem.Value.type "frame", slots := #[some (PySem.Value.ref (48 : Nat)), some (PySem.Value.ref (3 : Nat)), some (PySem.Value.ref (45 : Nat)), none, some (PySem.Value.str (PySem.Str.ofString "cpy313.netrc") (254 : Nat)), none, some (PySem.Value.ref (0 : Nat))] }
noncomputable def o88 : Params → Obj := fun P => { «cls» := PySem.Value.type "tuple", data := PySem.Data.seq #[] }
noncomputable def o89 : Params → Obj := fun P => { «cls» := PySem.Value.none, data := PySem.Data.fields #[] }
noncomputable def o90 : Params → Obj := fun P => { «cls» := PySem.Value.type "tuple", data := PySem.Data.seq #[PySem.Value.str (PySem.Str.ofString "self") (271 : Nat), PySem.Value.str (PySem.Str.ofString "fp") (272 : Nat)] }
noncomputable def o91 : Params → Obj := fun P => { «cls» := PySem.Value.type "tuple", data := PySem.Data.seq #[] }
noncomputable def o92 : Params → Obj := fun P => { «cls» := PySem.Value.none, data := PySem.Data.func { name := PySem.Str.ofString "__init__", qualname := PySem.Str.ofString "_netrclex.__init__", params := prm (pmem 9 0), body := .stmts (bdy (pmem 9 0)), scope := scp (pmem 9 0), globals := (0 : Nat), closure := [], defaults := PySem.Value.none, kwdefaults := PySem.Value.none } }
noncomputable def o93 : Params → Obj := fun P => { «cls» := PySem.Value.type "code", data := PySem.Data.fields #[PySem.Value.str (PySem.Str.ofString "__init__") (268 : Nat), PySem.Value.str (PySem.Str.ofString "_netrclex.__init__") (269 : Nat), PySem.Value.str (PySem.Str.ofString "/claim/cut.py") (270 : Nat), PySem.Value.int (66 : Int) (0 : Nat), PySem.Value.int (2 : Int) (0 : Nat), PySem.Value.int (0 : Int) (0 : Nat), PySem.Value.int (0 : Int) (0 : Nat), PySem.Value.int (3 : Int) (0 : Nat), PySem.Value.ref (50 : Nat), PySem.Value.bool true, PySem.Value.int (181 : Int) (0 : Nat), PySem.Value.ref (51 : Nat), PySem.Value.none, PySem.Value.ref (52 : Nat), PySem.Value.ref (53 : Nat), PySem.Value.ref (54 : Nat), PySem.Value.int (273 : Int) (0 : Nat), PySem.Value.int (66 : Int) (0 : Nat), PySem.Value.str (PySem.Str.ofString "/claim/cut.py") (274 : Nat)] }
noncomputable def o94 : Params → Obj := fun P => { «cls» := PySem.Value.type "function", data := PySem.Data.func { name := PySem.Str.ofString "__init__", qualname := PySem.Str.ofString "_netrclex.__init__", params := prm (pmem 9 0), body := .stmts (bdy (pmem 9 0)), scope := scp (pmem 9 0), globals := (3 : Nat), closure := [], defaults := PySem.Value.none, kwdefaults := PySem.Value.none, pyModule := PySem.Value.str (PySem.Str.ofString "cpy313.netrc") (254 : Nat), code := PySem.Value.ref (55 : Nat) } }
noncomputable def o95 : Params → Obj := fun P => { «cls» := PySem.Value.type "tuple", data := PySem.Data.seq #[] }
noncomputable def o96 : Params → Obj := fun P => { «cls» := PySem.Value.none, data := PySem.Data.fields #[] }
noncomputable def o97 : Params → Obj := fun P => { «cls» := PySem.Value.type "tuple", data := PySem.Data.seq #[PySem.Value.str (PySem.Str.ofString "self") (279 : Nat), PySem.Value.str (PySem.Str.ofString "ch") (280 : Nat)] }
noncomputable def o98 : Params → Obj := fun P => { «cls» := PySem.Value.type "tuple", data := PySem.Data.seq #[] }
noncomputable def o99 : Params → Obj := fun P => { «cls» := PySem.Value.none, data := PySem.Data.func { name := PySem.Str.ofString "_read_char", qualname := PySem.Str.ofString "_netrclex._read_char", params := prm (pmem 9 1), body := .stmts (bdy (pmem 9 1)), scope := scp (pmem 9 1), globals := (0 : Nat), closure := [], defaults := PySem.Value.none, kwdefaults := PySem.Value.none } }
noncomputable def o100 : Params → Obj := fun P => { «cls» := PySem.Value.type "code", data := PySem.Data.fields #[PySem.Value.str (PySem.Str.ofString "_read_char") (276 : Nat), PySem.Value.str (PySem.Str.ofString "_netrclex._read_char") (277 : Nat), PySem.Value.str (PySem.Str.ofString "/claim/cut.py") (278 : Nat), PySem.Value.int (72 : Int) (0 : Nat), PySem.Value.int (1 : Int) (0 : Nat), PySem.Value.int (0 : Int) (0 : Nat), PySem.Value.int (0 : Int) (0 : Nat), PySem.Value.int (3 : Int) (0 : Nat), PySem.Value.ref (57 : Nat), PySem.Value.bool true, PySem.Value.int (181 : Int) (0 : Nat), PySem.Value.ref (58 : Nat), PySem.Value.none, PySem.Value.ref (59 : Nat), PySem.Value.ref (60 : Nat), PySem.Value.ref (61 : Nat), PySem.Value.int (281 : Int) (0 : Nat), PySem.Value.int (72 : Int) (0 : Nat), PySem.Value.str (PySem.Str.ofString "/claim/cut.py") (282 : Nat)] }
noncomputable def o101 : Params → Obj := fun P => { «cls» := PySem.Value.type "function", data := PySem.Data.func { name := PySem.Str.ofString "_read_char", qualname := PySem.Str.ofString "_netrclex._read_char", params := prm (pmem 9 1), body := .stmts (bdy (pmem 9 1)), scope := scp (pmem 9 1), globals := (3 : Nat), closure := [], defaults := PySem.Value.none, kwdefaults := PySem.Value.none, pyModule := PySem.Value.str (PySem.Str.ofString "cpy313.netrc") (254 : Nat), code := PySem.Value.ref (62 : Nat) } }
noncomputable def o102 : Params → Obj := fun P => { «cls» := PySem.Value.type "tuple", data := PySem.Data.seq #[] }
noncomputable def o103 : Params → Obj := fun P => { «cls» := PySem.Value.none, data := PySem.Data.fields #[] }
noncomputable def o104 : Params → Obj := fun P => { «cls» := PySem.Value.type "tuple", data := PySem.Data.seq #[PySem.Value.str (PySem.Str.ofString "self") (287 : Nat), PySem.Value.str (PySem.Str.ofString "token") (288 : Nat), PySem.Value.str (PySem.Str.ofString "fiter") (289 : Nat), PySem.Value.str (PySem.Str.ofString "ch") (290 : Nat)] }
noncomputable def o105 : Params → Obj := fun P => { «cls» := PySem.Value.type "tuple", data := PySem.Data.seq #[] }
noncomputable def o106 : Params → Obj := fun P => { «cls» := PySem.Value.none, data := PySem.Data.func { name := PySem.Str.ofString "get_token", qualname := PySem.Str.ofString "_netrclex.get_token", params := prm (pmem 9 2), body := .stmts (bdy (pmem 9 2)), scope := scp (pmem 9 2), globals := (0 : Nat), closure := [], defaults := PySem.Value.none, kwdefaults := PySem.Value.none } }
noncomputable def o107 : Params → Obj := fun P => { «cls» := PySem.Value.type "code", data := PySem.Data.fields #[PySem.Value.str (PySem.Str.ofString "get_token") (284 : Nat), PySem.Value.str (PySem.Str.ofString "_netrclex.get_token") (285 : Nat), PySem.Value.str (PySem.Str.ofString "/claim/cut.py") (286 : Nat), PySem.Value.int (78 : Int) (0 : Nat), PySem.Value.int (1 : Int) (0 : Nat), PySem.Value.int (0 : Int) (0 : Nat), PySem.Value.int (0 : Int) (0 : Nat), PySem.Value.int (3 : Int) (0 : Nat), PySem.Value.ref (64 : Nat), PySem.Value.bool true, PySem.Value.int (181 : Int) (0 : Nat), PySem.Value.ref (65 : Nat), PySem.Value.none, PySem.Value.ref (66 : Nat), PySem.Value.ref (67 : Nat), PySem.Value.ref (68 : Nat), PySem.Value.int (291 : Int) (0 : Nat), PySem.Value.int (78 : Int) (0 : Nat), PySem.Value.str (PySem.Str.ofString "/claim/cut.py") (292 : Nat)] }
noncomputable def o108 : Params → Obj := fun P => { «cls» := PySem.Value.type "function", data := PySem.Data.func { name := PySem.Str.ofString "get_token", qualname := PySem.Str.ofString "_netrclex.get_token", params := prm (pmem 9 2), body := .stmts (bdy (pmem 9 2)), scope := scp (pmem 9 2), globals := (3 : Nat), closure := [], defaults := PySem.Value.none, kwdefaults := PySem.Value.none, pyModule := PySem.Value.str (PySem.Str.ofString "cpy313.netrc") (254 : Nat), code := PySem.Value.ref (69 : Nat) } }
noncomputable def o109 : Params → Obj := fun P => { «cls» := PySem.Value.type "tuple", data := PySem.Data.seq #[] }
noncomputable def o110 : Params → Obj := fun P => { «cls» := PySem.Value.none, data := PySem.Data.fields #[] }
noncomputable def o111 : Params → Obj := fun P => { «cls» := PySem.Value.type "tuple", data := PySem.Data.seq #[PySem.Value.str (PySem.Str.ofString "self") (297 : Nat), PySem.Value.str (PySem.Str.ofString "token") (298 : Nat)] }
noncomputable def o112 : Params → Obj := fun P => { «cls» := PySem.Value.type "tuple", data := PySem.Data.seq #[] }
noncomputable def o113 : Params → Obj := fun P => { «cls» := PySem.Value.none, data := PySem.Data.func { name := PySem.Str.ofString "push_token", qualname := PySem.Str.ofString "_netrclex.push_token", params := prm (pmem 9 3), body := .stmts (bdy (pmem 9 3)), scope := scp (pmem 9 3), globals := (0 : Nat), closure := [], defaults := PySem.Value.none, kwdefaults := PySem.Value.none } }
noncomputable def o114 : Params → Obj := fun P => { «cls» := PySem.Value.type "code", data := PySem.Data.fields #[PySem.Value.str (PySem.Str.ofString "push_token") (294 : Nat), PySem.Value.str (PySem.Str.ofString "_netrclex.push_token") (295 : Nat), PySem.Value.str (PySem.Str.ofString "/claim/cut.py") (296 : Nat), PySem.Value.int (105 : Int) (0 : Nat), PySem.Value.int (2 : Int) (0 : Nat), PySem.Value.int (0 : Int) (0 : Nat), PySem.Value.int (0 : Int) (0 : Nat), PySem.Value.int (3 : Int) (0 : Nat), PySem.Value.ref (71 : Nat), PySem.Value.bool true, PySem.Value.int (181 : Int) (0 : Nat), PySem.Value.ref (72 : Nat), PySem.Value.none, PySem.Value.ref (73 : Nat), PySem.Value.ref (74 : Nat), PySem.Value.ref (75 : Nat), PySem.Value.int (299 : Int) (0 : Nat), PySem.Value.int (105 : Int) (0 : Nat), PySem.Value.str (PySem.Str.ofString "/claim/cut.py") (300 : Nat)] }
noncomputable def o115 : Params → Obj := fun P => { «cls» := PySem.Value.type "function", data := PySem.Data.func { name := PySem.Str.ofString "push_token", qualname := PySem.Str.ofString "_netrclex.push_token", params := prm (pmem 9 3), body := .stmts (bdy (pmem 9 3)), scope := scp (pmem 9 3), globals := (3 : Nat), closure := [], defaults := PySem.Value.none, kwdefaults := PySem.Value.none, pyModule := PySem.Value.str (PySem.Str.ofString "cpy313.netrc") (254 : Nat), code := PySem.Value.ref (76 : Nat) } }
noncomputable def o116 : Params → Obj := fun P => { «cls» := PySem.Value.type "tuple", data := PySem.Data.seq #[PySem.Value.str (PySem.Str.ofString "instream") (302 : Nat), PySem.Value.str (PySem.Str.ofString "lineno") (303 : Nat), PySem.Value.str (PySem.Str.ofString "pushback") (304 : Nat), PySem.Value.str (PySem.Str.ofString "whitespace") (305 : Nat)] }
noncomputable def o117 : Params → Obj := fun P => { «cls» := PySem.Value.type "dict", data := PySem.Data.dict #[{ hash := PySem.PyData.keyHash P (PySem.Str.ofString "__module__"), key := PySem.Value.str (PySem.Str.ofString "__module__") (263 : Nat), val := PySem.Value.str (PySem.Str.ofString "cpy313.netrc") (254 : Nat) }, { hash := PySem.PyData.keyHash P (PySem.Str.ofString "__firstlineno__"), key := PySem.Value.str (PySem.Str.ofString "__firstlineno__") (267 : Nat), val := PySem.Value.int (64 : Int) (266 : Nat) }, { hash := PySem.PyData.keyHash P (PySem.Str.ofString "__init__"), key := PySem.Value.str (PySem.Str.ofString "__init__") (275 : Nat), val := PySem.Value.ref (56 : Nat) }, { hash := PySem.PyData.keyHash P (PySem.Str.ofString "_read_char"), key := PySem.Value.str (PySem.Str.ofString "_read_char") (283 : Nat), val := PySem.Value.ref (63 : Nat) }, { hash := PySem.PyData.keyHash P (PySem.Str.ofString "get_token"), key := PySem.Value.str (PySem.Str.ofString "get_token") (293 : Nat), val := PySem.Value.ref (70 : Nat) }, { hash := PySem.PyData.keyHash P (PySem.Str.ofString "push_token"), key := PySem.Value.str (PySem.Str.ofString "push_token") (301 : Nat), val := PySem.Value.ref (77 : Nat) }, { hash := PySem.PyData.keyHash P (PySem.Str.ofString "__static_attributes__"), key := PySem.Value.str (PySem.Str.ofString "__static_attributes__") (306 : Nat), val := PySem.Value.ref (78 : Nat) }, { hash := PySem.PyData.keyHash P (PySem.Str.ofString "__dict__"), key := PySem.Value.str (PySem.Str.ofString "__dict__") (308 : Nat), val := PySem.Value.ref (81 : Nat) }, { hash := PySem.PyData.keyHash P (PySem.Str.ofString "__weakref__"), key := PySem.Value.str (PySem.Str.ofString "__weakref__") (310 : Nat), val := PySem.Value.ref (82 : Nat) }, { hash := PySem.PyData.keyHash P (PySem.Str.ofString "__doc__"), key := PySem.Value.str (PySem.Str.ofString "__doc__") (311 : Nat), val := PySem.Value.none }] (4 : Nat) }
noncomputable def o118 : Params → Obj := fun P => { «cls» := PySem.Value.type "type", data := PySem.Data.cls { name := PySem.Str.ofString "_netrclex", bases := [PySem.Value.type "object"], mro := [PySem.Value.ref (80 : Nat), PySem.Value.type "object"], ns := (79 : Nat), qualname := PySem.Str.ofString "_netrclex" }, slots := #[none, none, some (PySem.Value.str (PySem.Str.ofString "_netrclex") (256 : Nat)), some (PySem.Value.str (PySem.Str.ofString "_netrclex") (264 : Nat)), some (PySem.Value.builtin "object.__new__"), some (PySem.Value.bool true)] }
noncomputable def o119 : Params → Obj := fun P => { «cls» := PySem.Value.type "getset_descriptor", data := PySem.Data.fields #[PySem.Value.str (PySem.Str.ofString "__dict__") (307 : Nat), PySem.Value.ref (80 : Nat), PySem.Value.builtin "function.__dict__", PySem.Value.builtin "function.__dict__#set"] }
noncomputable def o120 : Params → Obj := fun P => { «cls» := PySem.Value.type "getset_descriptor", data := PySem.Data.fields #[PySem.Value.str (PySem.Str.ofString "__weakref__") (309 : Nat), PySem.Value.ref (80 : Nat), PySem.Value.builtin "ExceptionGroup.__weakref__", PySem.Value.none] }
noncomputable def o121 : Params → Obj := fun P => { «cls» := PySem.Value.type "super", data := PySem.Data.fields #[PySem.Value.ref (80 : Nat), PySem.Value.ref (80 : Nat), PySem.Value.ref (80 : Nat)] }
noncomputable def o122 : Params → Obj := fun P => { «cls» := PySem.Value.type "builtin_function_or_method", data := PySem.Data.fields #[PySem.Value.builtin "object.__init_subclass__", PySem.Value.ref (80 : Nat)] }
noncomputable def o123 : Params → Obj := fun P => { «cls» := PySem.Value.type "tuple", data := PySem.Data.seq #[] }
noncomputable def o124 : Params → Obj := fun P => { «cls» := PySem.Value.none, data := PySem.Data.fields #[] }
noncomputable def o125 : Params → Obj := fun P => { «cls» := PySem.Value.type "tuple", data := PySem.Data.seq #[PySem.Value.str (PySem.Str.ofString "text") (319 : Nat), PySem.Value.str (PySem.Str.ofString "_law_read_on") (320 : Nat), PySem.Value.str (PySem.Str.ofString "stream") (321 : Nat)] }
noncomputable def o126 : Params → Obj := fun P => { «cls» := PySem.Value.type "tuple", data := PySem.Data.seq #[PySem.Value.str (PySem.Str.ofString "text") (322 : Nat), PySem.Value.str (PySem.Str.ofString "at") (323 : Nat)] }
noncomputable def o127 : Params → Obj := fun P => { «cls» := PySem.Value.none, data := PySem.Data.func { name := PySem.Str.ofString "_law_lexer", qualname := PySem.Str.ofString "_law_lexer", params := prm (ptop 11), body := .stmts (bdy (ptop 11)), scope := scp (ptop 11), globals := (0 : Nat), closure := [], defaults := PySem.Value.none, kwdefaults := PySem.Value.none } }
noncomputable def o128 : Params → Obj := fun P => { «cls» := PySem.Value.type "code", data := PySem.Data.fields #[PySem.Value.str (PySem.Str.ofString "_law_lexer") (316 : Nat), PySem.Value.str (PySem.Str.ofString "_law_lexer") (317 : Nat), PySem.Value.str (PySem.Str.ofString "/claim/cut.py") (318 : Nat), PySem.Value.int (108 : Int) (0 : Nat), PySem.Value.int (1 : Int) (0 : Nat), PySem.Value.int (0 : Int) (0 : Nat), PySem.Value.int (0 : Int) (0 : Nat), PySem.Value.int (3 : Int) (0 : Nat), PySem.Value.ref (85 : Nat), PySem.Value.bool true, PySem.Value.int (181 : Int) (0 : Nat), PySem.Value.ref (86 : Nat), PySem.Value.none, PySem.Value.ref (87 : Nat), PySem.Value.ref (88 : Nat), PySem.Value.ref (89 : Nat), PySem.Value.int (324 : Int) (0 : Nat), PySem.Value.int (108 : Int) (0 : Nat), PySem.Value.str (PySem.Str.ofString "/claim/cut.py") (325 : Nat)] }
noncomputable def o129 : Params → Obj := fun P => { «cls» := PySem.Value.type "function", data := PySem.Data.func { name := PySem.Str.ofString "_law_lexer", qualname := PySem.Str.ofString "_law_lexer", params := prm (ptop 11), body := .stmts (bdy (ptop 11)), scope := scp (ptop 11), globals := (3 : Nat), closure := [], defaults := PySem.Value.none, kwdefaults := PySem.Value.none, pyModule := PySem.Value.str (PySem.Str.ofString "law_to0006_01") (314 : Nat), code := PySem.Value.ref (90 : Nat) } }
noncomputable def o130 : Params → Obj := fun P => { «cls» := PySem.Value.type "tuple", data := PySem.Data.seq #[] }
noncomputable def o131 : Params → Obj := fun P => { «cls» := PySem.Value.none, data := PySem.Data.fields #[] }
noncomputable def o132 : Params → Obj := fun P => { «cls» := PySem.Value.type "tuple", data := PySem.Data.seq #[PySem.Value.str (PySem.Str.ofString "row") (330 : Nat), PySem.Value.str (PySem.Str.ofString "upper") (331 : Nat), PySem.Value.str (PySem.Str.ofString "lower") (332 : Nat), PySem.Value.str (PySem.Str.ofString "part") (333 : Nat)] }
noncomputable def o133 : Params → Obj := fun P => { «cls» := PySem.Value.type "tuple", data := PySem.Data.seq #[] }
noncomputable def o134 : Params → Obj := fun P => { «cls» := PySem.Value.none, data := PySem.Data.func { name := PySem.Str.ofString "_law_fraction", qualname := PySem.Str.ofString "_law_fraction", params := prm (ptop 12), body := .stmts (bdy (ptop 12)), scope := scp (ptop 12), globals := (0 : Nat), closure := [], defaults := PySem.Value.none, kwdefaults := PySem.Value.none } }
noncomputable def o135 : Params → Obj := fun P => { «cls» := PySem.Value.type "code", data := PySem.Data.fields #[PySem.Value.str (PySem.Str.ofString "_law_fraction") (327 : Nat), PySem.Value.str (PySem.Str.ofString "_law_fraction") (328 : Nat), PySem.Value.str (PySem.Str.ofString "/claim/cut.py") (329 : Nat), PySem.Value.int (118 : Int) (0 : Nat), PySem.Value.int (1 : Int) (0 : Nat), PySem.Value.int (0 : Int) (0 : Nat), PySem.Value.int (0 : Int) (0 : Nat), PySem.Value.int (3 : Int) (0 : Nat), PySem.Value.ref (92 : Nat), PySem.Value.bool true, PySem.Value.int (181 : Int) (0 : Nat), PySem.Value.ref (93 : Nat), PySem.Value.none, PySem.Value.ref (94 : Nat), PySem.Value.ref (95 : Nat), PySem.Value.ref (96 : Nat), PySem.Value.int (334 : Int) (0 : Nat), PySem.Value.int (118 : Int) (0 : Nat), PySem.Value.str (PySem.Str.ofString "/claim/cut.py") (335 : Nat)] }
noncomputable def o136 : Params → Obj := fun P => { «cls» := PySem.Value.type "function", data := PySem.Data.func { name := PySem.Str.ofString "_law_fraction", qualname := PySem.Str.ofString "_law_fraction", params := prm (ptop 12), body := .stmts (bdy (ptop 12)), scope := scp (ptop 12), globals := (3 : Nat), closure := [], defaults := PySem.Value.none, kwdefaults := PySem.Value.none, pyModule := PySem.Value.str (PySem.Str.ofString "law_to0006_01") (314 : Nat), code := PySem.Value.ref (97 : Nat) } }
noncomputable def o137 : Params → Obj := fun P => { «cls» := PySem.Value.type "dict", data := PySem.Data.dict #[{ hash := PySem.PyData.keyHash P (PySem.Str.ofString "__name__"), key := PySem.Value.str (PySem.Str.ofString "__name__") (165 : Nat), val := PySem.Value.str (PySem.Str.ofString "law_to0006_01") (314 : Nat) }, { hash := PySem.PyData.keyHash P (PySem.Str.ofString "__doc__"), key := PySem.Value.str (PySem.Str.ofString "__doc__") (166 : Nat), val := PySem.Value.none }, { hash := PySem.PyData.keyHash P (PySem.Str.ofString "__package__"), key := PySem.Value.str (PySem.Str.ofString "__package__") (167 : Nat), val := PySem.Value.none }, { hash := PySem.PyData.keyHash P (PySem.Str.ofString "__loader__"), key := PySem.Value.str (PySem.Str.ofString "__loader__") (168 : Nat), val := PySem.Value.builtin "__main__.__loader__#opaque" }, { hash := PySem.PyData.keyHash P (PySem.Str.ofString "__spec__"), key := PySem.Value.str (PySem.Str.ofString "__spec__") (169 : Nat), val := PySem.Value.none }, { hash := PySem.PyData.keyHash P (PySem.Str.ofString "__annotations__"), key := PySem.Value.str (PySem.Str.ofString "__annotations__") (170 : Nat), val := PySem.Value.ref (6 : Nat) }, { hash := PySem.PyData.keyHash P (PySem.Str.ofString "__builtins__"), key := PySem.Value.str (PySem.Str.ofString "__builtins__") (171 : Nat), val := PySem.Value.ref (4 : Nat) }, { hash := PySem.PyData.keyHash P (PySem.Str.ofString "__file__"), key := PySem.Value.str (PySem.Str.ofString "__file__") (173 : Nat), val := PySem.Value.str (PySem.Str.ofString "/claim/cut.py") (172 : Nat) }, { hash := PySem.PyData.keyHash P (PySem.Str.ofString "__cached__"), key := PySem.Value.str (PySem.Str.ofString "__cached__") (174 : Nat), val := PySem.Value.none }, { hash := PySem.PyData.keyHash P (PySem.Str.ofString "_DIV_LIMIT"), key := PySem.Value.str (PySem.Str.ofString "_DIV_LIMIT") (190 : Nat), val := PySem.Value.int (4000 : Int) (189 : Nat) }, { hash := PySem.PyData.keyHash P (PySem.Str.ofString "_div2n1n"), key := PySem.Value.str (PySem.Str.ofString "_div2n1n") (207 : Nat), val := PySem.Value.ref (21 : Nat) }, { hash := PySem.PyData.keyHash P (PySem.Str.ofString "_div3n2n"), key := PySem.Value.str (PySem.Str.ofString "_div3n2n") (221 : Nat), val := PySem.Value.ref (28 : Nat) }, { hash := PySem.PyData.keyHash P (PySem.Str.ofString "rgb_to_hsv"), key := PySem.Value.str (PySem.Str.ofString "rgb_to_hsv") (241 : Nat), val := PySem.Value.ref (35 : Nat) }, { hash := PySem.PyData.keyHash P (PySem.Str.ofString "_iter_escaped_chars"), key := PySem.Value.str (PySem.Str.ofString "_iter_escaped_chars") (253 : Nat), val := PySem.Value.ref (42 : Nat) }, { hash := PySem.PyData.keyHash P (PySem.Str.ofString "_netrclex"), key := PySem.Value.str (PySem.Str.ofString "_netrclex") (313 : Nat), val := PySem.Value.ref (80 : Nat) }, { hash := PySem.PyData.keyHash P (PySem.Str.ofString "_law_lexer"), key := PySem.Value.str (PySem.Str.ofString "_law_lexer") (326 : Nat), val := PySem.Value.ref (91 : Nat) }, { hash := PySem.PyData.keyHash P (PySem.Str.ofString "_law_fraction"), key := PySem.Value.str (PySem.Str.ofString "_law_fraction") (336 : Nat), val := PySem.Value.ref (98 : Nat) }, { hash := PySem.PyData.keyHash P (PySem.Str.ofString "_law_nearest"), key := PySem.Value.str (PySem.Str.ofString "_law_nearest") (352 : Nat), val := PySem.Value.ref (105 : Nat) }, { hash := PySem.PyData.keyHash P (PySem.Str.ofString "_law_fewest"), key := PySem.Value.str (PySem.Str.ofString "_law_fewest") (369 : Nat), val := PySem.Value.ref (112 : Nat) }, { hash := PySem.PyData.keyHash P (PySem.Str.ofString "_law_ladder"), key := PySem.Value.str (PySem.Str.ofString "_law_ladder") (375 : Nat), val := PySem.Value.ref (117 : Nat) }, { hash := PySem.PyData.keyHash P (PySem.Str.ofString "law"), key := PySem.Value.str (PySem.Str.ofString "law") (381 : Nat), val := PySem.Value.ref (122 : Nat) }] (21 : Nat) }
noncomputable def o138 : Params → Obj := fun P => { «cls» := PySem.Value.none, data := PySem.Data.fields #[PySem.Value.int (3 : Int) (0 : Nat), PySem.Value.int (0 : Int) (0 : Nat), PySem.Value.ref (20 : Nat), PySem.Value.int (19 : Int) (0 : Nat), PySem.Value.int (0 : Int) (0 : Nat), PySem.Value.ref (27 : Nat), PySem.Value.int (30 : Int) (0 : Nat), PySem.Value.int (0 : Int) (0 : Nat), PySem.Value.ref (34 : Nat), PySem.Value.int (50 : Int) (0 : Nat), PySem.Value.int (0 : Int) (0 : Nat), PySem.Value.ref (41 : Nat), PySem.Value.int (64 : Int) (0 : Nat), PySem.Value.int (0 : Int) (0 : Nat), PySem.Value.ref (48 : Nat), PySem.Value.int (108 : Int) (0 : Nat), PySem.Value.int (0 : Int) (0 : Nat), PySem.Value.ref (90 : Nat), PySem.Value.int (118 : Int) (0 : Nat), PySem.Value.int (0 : Int) (0 : Nat), PySem.Value.ref (97 : Nat), PySem.Value.int (123 : Int) (0 : Nat), PySem.Value.int (0 : Int) (0 : Nat), PySem.Value.ref (104 : Nat), PySem.Value.int (136 : Int) (0 : Nat), PySem.Value.int (0 : Int) (0 : Nat), PySem.Value.ref (111 : Nat), PySem.Value.int (154 : Int) (0 : Nat), PySem.Value.int (0 : Int) (0 : Nat), PySem.Value.ref (116 : Nat), PySem.Value.int (168 : Int) (0 : Nat), PySem.Value.int (0 : Int) (0 : Nat), PySem.Value.ref (121 : Nat)] }
noncomputable def o139 : Params → Obj := fun P => { «cls» := PySem.Value.type "tuple", data := PySem.Data.seq #[] }
noncomputable def o140 : Params → Obj := fun P => { «cls» := PySem.Value.none, data := PySem.Data.fields #[] }
noncomputable def o141 : Params → Obj := fun P => { «cls» := PySem.Value.type "tuple", data := PySem.Data.seq #[PySem.Value.str (PySem.Str.ofString "upper") (340 : Nat), PySem.Value.str (PySem.Str.ofString "lower") (341 : Nat), PySem.Value.str (PySem.Str.ofString "runs") (342 : Nat), PySem.Value.str (PySem.Str.ofString "sign") (343 : Nat), PySem.Value.str (PySem.Str.ofString "moved") (344 : Nat), PySem.Value.str (PySem.Str.ofString "above") (345 : Nat), PySem.Value.str (PySem.Str.ofString "below") (346 : Nat), PySem.Value.str (PySem.Str.ofString "quotient") (347 : Nat), PySem.Value.str (PySem.Str.ofString "left") (348 : Nat), PySem.Value.str (PySem.Str.ofString "rest") (349 : Nat)] }
noncomputable def o142 : Params → Obj := fun P => { «cls» := PySem.Value.type "tuple", data := PySem.Data.seq #[] }
noncomputable def o143 : Params → Obj := fun P => { «cls» := PySem.Value.none, data := PySem.Data.func { name := PySem.Str.ofString "_law_nearest", qualname := PySem.Str.ofString "_law_nearest", params := prm (ptop 13), body := .stmts (bdy (ptop 13)), scope := scp (ptop 13), globals := (0 : Nat), closure := [], defaults := PySem.Value.none, kwdefaults := PySem.Value.none } }
noncomputable def o144 : Params → Obj := fun P => { «cls» := PySem.Value.type "code", data := PySem.Data.fields #[PySem.Value.str (PySem.Str.ofString "_law_nearest") (337 : Nat), PySem.Value.str (PySem.Str.ofString "_law_nearest") (338 : Nat), PySem.Value.str (PySem.Str.ofString "/claim/cut.py") (339 : Nat), PySem.Value.int (123 : Int) (0 : Nat), PySem.Value.int (2 : Int) (0 : Nat), PySem.Value.int (0 : Int) (0 : Nat), PySem.Value.int (0 : Int) (0 : Nat), PySem.Value.int (3 : Int) (0 : Nat), PySem.Value.ref (99 : Nat), PySem.Value.bool true, PySem.Value.int (181 : Int) (0 : Nat), PySem.Value.ref (100 : Nat), PySem.Value.none, PySem.Value.ref (101 : Nat), PySem.Value.ref (102 : Nat), PySem.Value.ref (103 : Nat), PySem.Value.int (350 : Int) (0 : Nat), PySem.Value.int (123 : Int) (0 : Nat), PySem.Value.str (PySem.Str.ofString "/claim/cut.py") (351 : Nat)] }
noncomputable def o145 : Params → Obj := fun P => { «cls» := PySem.Value.type "function", data := PySem.Data.func { name := PySem.Str.ofString "_law_nearest", qualname := PySem.Str.ofString "_law_nearest", params := prm (ptop 13), body := .stmts (bdy (ptop 13)), scope := scp (ptop 13), globals := (3 : Nat), closure := [], defaults := PySem.Value.none, kwdefaults := PySem.Value.none, pyModule := PySem.Value.str (PySem.Str.ofString "law_to0006_01") (314 : Nat), code := PySem.Value.ref (104 : Nat) } }
noncomputable def o146 : Params → Obj := fun P => { «cls» := PySem.Value.type "tuple", data := PySem.Data.seq #[] }
noncomputable def o147 : Params → Obj := fun P => { «cls» := PySem.Value.none, data := PySem.Data.fields #[] }
noncomputable def o148 : Params → Obj := fun P => { «cls» := PySem.Value.type "tuple", data := PySem.Data.seq #[PySem.Value.str (PySem.Str.ofString "machine") (356 : Nat), PySem.Value.str (PySem.Str.ofString "upper") (357 : Nat), PySem.Value.str (PySem.Str.ofString "lower") (358 : Nat), PySem.Value.str (PySem.Str.ofString "rounds") (359 : Nat), PySem.Value.str (PySem.Str.ofString "waiting") (360 : Nat), PySem.Value.str (PySem.Str.ofString "ended") (361 : Nat), PySem.Value.str (PySem.Str.ofString "fresh") (362 : Nat), PySem.Value.str (PySem.Str.ofString "k") (363 : Nat), PySem.Value.str (PySem.Str.ofString "pair") (364 : Nat), PySem.Value.str (PySem.Str.ofString "divisor") (365 : Nat), PySem.Value.str (PySem.Str.ofString "rest") (366 : Nat)] }
noncomputable def o149 : Params → Obj := fun P => { «cls» := PySem.Value.type "tuple", data := PySem.Data.seq #[] }
noncomputable def o150 : Params → Obj := fun P => { «cls» := PySem.Value.none, data := PySem.Data.func { name := PySem.Str.ofString "_law_fewest", qualname := PySem.Str.ofString "_law_fewest", params := prm (ptop 14), body := .stmts (bdy (ptop 14)), scope := scp (ptop 14), globals := (0 : Nat), closure := [], defaults := PySem.Value.none, kwdefaults := PySem.Value.none } }
noncomputable def o151 : Params → Obj := fun P => { «cls» := PySem.Value.type "code", data := PySem.Data.fields #[PySem.Value.str (PySem.Str.ofString "_law_fewest") (353 : Nat), PySem.Value.str (PySem.Str.ofString "_law_fewest") (354 : Nat), PySem.Value.str (PySem.Str.ofString "/claim/cut.py") (355 : Nat), PySem.Value.int (136 : Int) (0 : Nat), PySem.Value.int (3 : Int) (0 : Nat), PySem.Value.int (0 : Int) (0 : Nat), PySem.Value.int (0 : Int) (0 : Nat), PySem.Value.int (3 : Int) (0 : Nat), PySem.Value.ref (106 : Nat), PySem.Value.bool true, PySem.Value.int (181 : Int) (0 : Nat), PySem.Value.ref (107 : Nat), PySem.Value.none, PySem.Value.ref (108 : Nat), PySem.Value.ref (109 : Nat), PySem.Value.ref (110 : Nat), PySem.Value.int (367 : Int) (0 : Nat), PySem.Value.int (136 : Int) (0 : Nat), PySem.Value.str (PySem.Str.ofString "/claim/cut.py") (368 : Nat)] }
noncomputable def o152 : Params → Obj := fun P => { «cls» := PySem.Value.type "function", data := PySem.Data.func { name := PySem.Str.ofString "_law_fewest", qualname := PySem.Str.ofString "_law_fewest", params := prm (ptop 14), body := .stmts (bdy (ptop 14)), scope := scp (ptop 14), globals := (3 : Nat), closure := [], defaults := PySem.Value.none, kwdefaults := PySem.Value.none, pyModule := PySem.Value.str (PySem.Str.ofString "law_to0006_01") (314 : Nat), code := PySem.Value.ref (111 : Nat) } }
noncomputable def o153 : Params → Obj := fun P => { «cls» := PySem.Value.type "tuple", data := PySem.Data.seq #[] }
noncomputable def o154 : Params → Obj := fun P => { «cls» := PySem.Value.none, data := PySem.Data.fields #[] }
noncomputable def o155 : Params → Obj := fun P => { «cls» := PySem.Value.none, data := PySem.Data.func { name := PySem.Str.ofString "_law_ladder", qualname := PySem.Str.ofString "_law_ladder", params := prm (ptop 15), body := .stmts (bdy (ptop 15)), scope := scp (ptop 15), globals := (0 : Nat), closure := [], defaults := PySem.Value.none, kwdefaults := PySem.Value.none } }
noncomputable def o156 : Params → Obj := fun P => { «cls» := PySem.Value.type "code", data := PySem.Data.fields #[PySem.Value.str (PySem.Str.ofString "_law_ladder") (370 : Nat), PySem.Value.str (PySem.Str.ofString "_law_ladder") (371 : Nat), PySem.Value.str (PySem.Str.ofString "/claim/cut.py") (372 : Nat), PySem.Value.int (154 : Int) (0 : Nat), PySem.Value.int (2 : Int) (0 : Nat), PySem.Value.int (0 : Int) (0 : Nat), PySem.Value.int (0 : Int) (0 : Nat), PySem.Value.int (3 : Int) (0 : Nat), PySem.Value.ref (113 : Nat), PySem.Value.bool true, PySem.Value.int (181 : Int) (0 : Nat), PySem.Value.ref (114 : Nat), PySem.Value.none, PySem.Value.none, PySem.Value.none, PySem.Value.ref (115 : Nat), PySem.Value.int (373 : Int) (0 : Nat), PySem.Value.int (154 : Int) (0 : Nat), PySem.Value.str (PySem.Str.ofString "/claim/cut.py") (374 : Nat)] }
noncomputable def o157 : Params → Obj := fun P => { «cls» := PySem.Value.type "function", data := PySem.Data.func { name := PySem.Str.ofString "_law_ladder", qualname := PySem.Str.ofString "_law_ladder", params := prm (ptop 15), body := .stmts (bdy (ptop 15)), scope := scp (ptop 15), globals := (3 : Nat), closure := [], defaults := PySem.Value.none, kwdefaults := PySem.Value.none, pyModule := PySem.Value.str (PySem.Str.ofString "law_to0006_01") (314 : Nat), code := PySem.Value.ref (116 : Nat) } }
noncomputable def o158 : Params → Obj := fun P => { «cls» := PySem.Value.type "tuple", data := PySem.Data.seq #[] }
noncomputable def o159 : Params → Obj := fun P => { «cls» := PySem.Value.none, data := PySem.Data.fields #[] }
noncomputable def o160 : Params → Obj := fun P => { «cls» := PySem.Value.none, data := PySem.Data.func { name := PySem.Str.ofString "law", qualname := PySem.Str.ofString "law", params := prm (ptop 16), body := .stmts (bdy (ptop 16)), scope := scp (ptop 16), globals := (0 : Nat), closure := [], defaults := PySem.Value.none, kwdefaults := PySem.Value.none } }
noncomputable def o161 : Params → Obj := fun P => { «cls» := PySem.Value.type "code", data := PySem.Data.fields #[PySem.Value.str (PySem.Str.ofString "law") (376 : Nat), PySem.Value.str (PySem.Str.ofString "law") (377 : Nat), PySem.Value.str (PySem.Str.ofString "/claim/cut.py") (378 : Nat), PySem.Value.int (168 : Int) (0 : Nat), PySem.Value.int (1 : Int) (0 : Nat), PySem.Value.int (0 : Int) (0 : Nat), PySem.Value.int (0 : Int) (0 : Nat), PySem.Value.int (3 : Int) (0 : Nat), PySem.Value.ref (118 : Nat), PySem.Value.bool true, PySem.Value.int (181 : Int) (0 : Nat), PySem.Value.ref (119 : Nat), PySem.Value.none, PySem.Value.none, PySem.Value.none, PySem.Value.ref (120 : Nat), PySem.Value.int (379 : Int) (0 : Nat), PySem.Value.int (168 : Int) (0 : Nat), PySem.Value.str (PySem.Str.ofString "/claim/cut.py") (380 : Nat)] }
noncomputable def o162 : Params → Obj := fun P => { «cls» := PySem.Value.type "function", data := PySem.Data.func { name := PySem.Str.ofString "law", qualname := PySem.Str.ofString "law", params := prm (ptop 16), body := .stmts (bdy (ptop 16)), scope := scp (ptop 16), globals := (3 : Nat), closure := [], defaults := PySem.Value.none, kwdefaults := PySem.Value.none, pyModule := PySem.Value.str (PySem.Str.ofString "law_to0006_01") (314 : Nat), code := PySem.Value.ref (121 : Nat) } }
noncomputable def t0 : Params → BT := fun P => (.node (boot_o_0 P) (.node (boot_o_1 P) (.node (boot_o_3 P) (.node (boot_o_7 P) .nil .nil) (.node (o43 P) .nil .nil)) (.node (boot_o_5 P) (.node (boot_o_9 P) .nil .nil) (.node (o45 P) .nil .nil))) (.node (boot_o_2 P) (.node (boot_o_4 P) (.node (boot_o_8 P) .nil .nil) (.node (o44 P) .nil .nil)) (.node (boot_o_6 P) (.node (boot_o_10 P) .nil .nil) (.node (o46 P) .nil .nil))))
noncomputable def t1 : Params → BT := fun P => (.node (boot_o_0 P) (.node (boot_o_1 P) (.node (o49 P) (.node (boot_o_7 P) (.node (o51 P) (.node (o67 P) .nil .nil) .nil) (.node (o59 P) (.node (o75 P) .nil .nil) .nil)) (.node (o43 P) (.node (o55 P) (.node (o71 P) .nil .nil) .nil) (.node (o63 P) .nil .nil))) (.node (boot_o_5 P) (.node (boot_o_9 P) (.node (o53 P) (.node (o69 P) .nil .nil) .nil) (.node (o61 P) (.node (o77 P) .nil .nil) .nil)) (.node (o45 P) (.node (o57 P) (.node (o73 P) .nil .nil) .nil) (.node (o65 P) .nil .nil)))) (.node (boot_o_2 P) (.node (boot_o_4 P) (.node (boot_o_8 P) (.node (o52 P) (.node (o68 P) .nil .nil) .nil) (.node (o60 P) (.node (o76 P) .nil .nil) .nil)) (.node (o50 P) (.node (o56 P) (.node (o72 P) .nil .nil) .nil) (.node (o64 P) .nil .nil))) (.node (boot_o_6 P) (.node (boot_o_10 P) (.node (o54 P) (.node (o70 P) .nil .nil) .nil) (.node (o62 P) (.node (o78 P) .nil .nil) .nil)) (.node (o46 P) (.node (o58 P) (.node (o74 P) .nil .nil) .nil) (.node (o66 P) .nil .nil)))))
noncomputable def t2 : Params → BT := fun P => (.node (boot_o_0 P) (.node (boot_o_1 P) (.node (o79 P) (.node (boot_o_7 P) (.node (o51 P) (.node (o67 P) (.node (o101 P) .nil .nil) (.node (o133 P) .nil .nil)) (.node (o85 P) (.node (o117 P) .nil .nil) .nil)) (.node (o59 P) (.node (o75 P) (.node (o109 P) .nil .nil) .nil) (.node (o93 P) (.node (o125 P) .nil .nil) .nil))) (.node (o43 P) (.node (o55 P) (.node (o71 P) (.node (o105 P) .nil .nil) .nil) (.node (o89 P) (.node (o121 P) .nil .nil) .nil)) (.node (o63 P) (.node (o81 P) (.node (o113 P) .nil .nil) .nil) (.node (o97 P) (.node (o129 P) .nil .nil) .nil)))) (.node (boot_o_5 P) (.node (boot_o_9 P) (.node (o53 P) (.node (o69 P) (.node (o103 P) .nil .nil) (.node (o135 P) .nil .nil)) (.node (o87 P) (.node (o119 P) .nil .nil) .nil)) (.node (o61 P) (.node (o77 P) (.node (o111 P) .nil .nil) .nil) (.node (o95 P) (.node (o127 P) .nil .nil) .nil))) (.node (o45 P) (.node (o57 P) (.node (o73 P) (.node (o107 P) .nil .nil) .nil) (.node (o91 P) (.node (o123 P) .nil .nil) .nil)) (.node (o65 P) (.node (o83 P) (.node (o115 P) .nil .nil) .nil) (.node (o99 P) (.node (o131 P) .nil .nil) .nil))))) (.node (boot_o_2 P) (.node (boot_o_4 P) (.node (boot_o_8 P) (.node (o52 P) (.node (o68 P) (.node (o102 P) .nil .nil) (.node (o134 P) .nil .nil)) (.node (o86 P) (.node (o118 P) .nil .nil) .nil)) (.node (o60 P) (.node (o76 P) (.node (o110 P) .nil .nil) .nil) (.node (o94 P) (.node (o126 P) .nil .nil) .nil))) (.node (o80 P) (.node (o56 P) (.node (o72 P) (.node (o106 P) .nil .nil) .nil) (.node (o90 P) (.node (o122 P) .nil .nil) .nil)) (.node (o64 P) (.node (o82 P) (.node (o114 P) .nil .nil) .nil) (.node (o98 P) (.node (o130 P) .nil .nil) .nil)))) (.node (boot_o_6 P) (.node (boot_o_10 P) (.node (o54 P) (.node (o70 P) (.node (o104 P) .nil .nil) (.node (o136 P) .nil .nil)) (.node (o88 P) (.node (o120 P) .nil .nil) .nil)) (.node (o62 P) (.node (o78 P) (.node (o112 P) .nil .nil) .nil) (.node (o96 P) (.node (o128 P) .nil .nil) .nil))) (.node (o46 P) (.node (o58 P) (.node (o74 P) (.node (o108 P) .nil .nil) .nil) (.node (o92 P) (.node (o124 P) .nil .nil) .nil)) (.node (o66 P) (.node (o84 P) (.node (o116 P) .nil .nil) .nil) (.node (o100 P) (.node (o132 P) .nil .nil) .nil))))))
noncomputable def t3 : Params → BT := fun P => (.node (boot_o_0 P) (.node (boot_o_1 P) (.node (o137 P) (.node (boot_o_7 P) (.node (o51 P) (.node (o67 P) (.node (o101 P) .nil .nil) (.node (o133 P) .nil .nil)) (.node (o85 P) (.node (o117 P) .nil .nil) (.node (o151 P) .nil .nil))) (.node (o59 P) (.node (o75 P) (.node (o109 P) .nil .nil) (.node (o143 P) .nil .nil)) (.node (o93 P) (.node (o125 P) .nil .nil) (.node (o159 P) .nil .nil)))) (.node (o43 P) (.node (o55 P) (.node (o71 P) (.node (o105 P) .nil .nil) (.node (o139 P) .nil .nil)) (.node (o89 P) (.node (o121 P) .nil .nil) (.node (o155 P) .nil .nil))) (.node (o63 P) (.node (o81 P) (.node (o113 P) .nil .nil) (.node (o147 P) .nil .nil)) (.node (o97 P) (.node (o129 P) .nil .nil) .nil)))) (.node (boot_o_5 P) (.node (boot_o_9 P) (.node (o53 P) (.node (o69 P) (.node (o103 P) .nil .nil) (.node (o135 P) .nil .nil)) (.node (o87 P) (.node (o119 P) .nil .nil) (.node (o153 P) .nil .nil))) (.node (o61 P) (.node (o77 P) (.node (o111 P) .nil .nil) (.node (o145 P) .nil .nil)) (.node (o95 P) (.node (o127 P) .nil .nil) (.node (o161 P) .nil .nil)))) (.node (o45 P) (.node (o57 P) (.node (o73 P) (.node (o107 P) .nil .nil) (.node (o141 P) .nil .nil)) (.node (o91 P) (.node (o123 P) .nil .nil) (.node (o157 P) .nil .nil))) (.node (o65 P) (.node (o83 P) (.node (o115 P) .nil .nil) (.node (o149 P) .nil .nil)) (.node (o99 P) (.node (o131 P) .nil .nil) .nil))))) (.node (boot_o_2 P) (.node (boot_o_4 P) (.node (boot_o_8 P) (.node (o52 P) (.node (o68 P) (.node (o102 P) .nil .nil) (.node (o134 P) .nil .nil)) (.node (o86 P) (.node (o118 P) .nil .nil) (.node (o152 P) .nil .nil))) (.node (o60 P) (.node (o76 P) (.node (o110 P) .nil .nil) (.node (o144 P) .nil .nil)) (.node (o94 P) (.node (o126 P) .nil .nil) (.node (o160 P) .nil .nil)))) (.node (o138 P) (.node (o56 P) (.node (o72 P) (.node (o106 P) .nil .nil) (.node (o140 P) .nil .nil)) (.node (o90 P) (.node (o122 P) .nil .nil) (.node (o156 P) .nil .nil))) (.node (o64 P) (.node (o82 P) (.node (o114 P) .nil .nil) (.node (o148 P) .nil .nil)) (.node (o98 P) (.node (o130 P) .nil .nil) .nil)))) (.node (boot_o_6 P) (.node (boot_o_10 P) (.node (o54 P) (.node (o70 P) (.node (o104 P) .nil .nil) (.node (o136 P) .nil .nil)) (.node (o88 P) (.node (o120 P) .nil .nil) (.node (o154 P) .nil .nil))) (.node (o62 P) (.node (o78 P) (.node (o112 P) .nil .nil) (.node (o146 P) .nil .nil)) (.node (o96 P) (.node (o128 P) .nil .nil) (.node (o162 P) .nil .nil)))) (.node (o46 P) (.node (o58 P) (.node (o74 P) (.node (o108 P) .nil .nil) (.node (o142 P) .nil .nil)) (.node (o92 P) (.node (o124 P) .nil .nil) (.node (o158 P) .nil .nil))) (.node (o66 P) (.node (o84 P) (.node (o116 P) .nil .nil) (.node (o150 P) .nil .nil)) (.node (o100 P) (.node (o132 P) .nil .nil) .nil))))))
noncomputable def g0 : Params → Heap := fun P => Heap.mk (Array.mk [boot_o_0 P, boot_o_1 P, boot_o_2 P, boot_o_3 P, boot_o_4 P, boot_o_5 P, boot_o_6 P, boot_o_7 P, boot_o_8 P, boot_o_9 P, boot_o_10 P, o43 P, o44 P, o45 P, o46 P]) {}
noncomputable def g3 : Params → Heap := fun P => Heap.mk (Array.mk [boot_o_0 P, boot_o_1 P, boot_o_2 P, o137 P, boot_o_4 P, boot_o_5 P, boot_o_6 P, boot_o_7 P, boot_o_8 P, boot_o_9 P, boot_o_10 P, o43 P, o138 P, o45 P, o46 P, o51 P, o52 P, o53 P, o54 P, o55 P, o56 P, o57 P, o58 P, o59 P, o60 P, o61 P, o62 P, o63 P, o64 P, o65 P, o66 P, o67 P, o68 P, o69 P, o70 P, o71 P, o72 P, o73 P, o74 P, o75 P, o76 P, o77 P, o78 P, o81 P, o82 P, o83 P, o84 P, o85 P, o86 P, o87 P, o88 P, o89 P, o90 P, o91 P, o92 P, o93 P, o94 P, o95 P, o96 P, o97 P, o98 P, o99 P, o100 P, o101 P, o102 P, o103 P, o104 P, o105 P, o106 P, o107 P, o108 P, o109 P, o110 P, o111 P, o112 P, o113 P, o114 P, o115 P, o116 P, o117 P, o118 P, o119 P, o120 P, o121 P, o122 P, o123 P, o124 P, o125 P, o126 P, o127 P, o128 P, o129 P, o130 P, o131 P, o132 P, o133 P, o134 P, o135 P, o136 P, o139 P, o140 P, o141 P, o142 P, o143 P, o144 P, o145 P, o146 P, o147 P, o148 P, o149 P, o150 P, o151 P, o152 P, o153 P, o154 P, o155 P, o156 P, o157 P, o158 P, o159 P, o160 P, o161 P, o162 P]) {}
noncomputable abbrev pw : Program := PySem.Challenge.pw_to0006_01
noncomputable def bd : List Stmt := behindTheImports pw
noncomputable def ev : Env := { scope := pw.main.scope, locals := mainNs, globals := mainNs, cells := [], code := Value.ref 13, frame := some 14 }
noncomputable def cE : Code := Code.body bd ev
noncomputable def at0 : Pos := { line := 0, col := 0, endLine := 0, endCol := 0 }
noncomputable def at1 : Pos := { line := 63, col := 0, endLine := 63, endCol := 8 }
noncomputable def at2 : Pos := { line := 118, col := 0, endLine := 122, endCol := 25 }
noncomputable def at3 : Pos := { line := 168, col := 0, endLine := 187, endCol := 78 }
noncomputable def b0 (w : World) (os : OsState) : Shared := ⟨boot_heap w.params, Array.mk [], boot_drawn, boot_toks, os⟩
noncomputable def sa (w : World) (os : OsState) : Shared := ⟨g0 w.params, Array.mk [], boot_drawn, 187, os⟩
noncomputable def u0 (w : World) (os : OsState) : SharedT := ⟨t0 w.params, 15, {}, Array.mk [], boot_drawn, 187, os⟩
noncomputable def u1 (w : World) (os : OsState) : SharedT := ⟨t1 w.params, 43, {}, Array.mk [], boot_drawn, 256, os⟩
noncomputable def u2 (w : World) (os : OsState) : SharedT := ⟨t2 w.params, 99, {}, Array.mk [], boot_drawn, 337, os⟩
noncomputable def u3 (w : World) (os : OsState) : SharedT := ⟨t3 w.params, 123, {}, Array.mk [], boot_drawn, 382, os⟩
theorem run0 (w : World) : (fun os => topGo treeTable pw w 11 (some (Value.ref 6)) 12 (b0 w os) (topStub pw)) = fun os => some (sa w os, ⟨denote treeTable cE, cE, at0, [topFrame at0]⟩) := by kernel_rfl
theorem run1 (w : World) : (fun os => segRun treeTable pw w 11 (some (Value.ref 6)) 1 1 (sa w os) (blockOf bd ev cE at0 [topFrame at0])) = fun os => some (Flow.next, (u0 w os).abs, cE, at0) := by kernel_rfl
theorem run2 (w : World) : (fun os => segRunT treeTable pw w 11 (some (Value.ref 6)) 1 193 (u0 w os) (piecesOf (bd.take 9) ev cE at0 [topFrame at0])) = fun os => some (Flow.next, u1 w os, cE, at1) := by kernel_rfl
theorem run3 (w : World) : (fun os => segRunT treeTable pw w 11 (some (Value.ref 6)) 1 398 (u1 w os) (piecesOf ((bd.drop 9).take 4) ev cE at1 [topFrame at0])) = fun os => some (Flow.next, u2 w os, cE, at2) := by kernel_rfl
theorem run4 (w : World) : (fun os => segRunT treeTable pw w 11 (some (Value.ref 6)) 1 130 (u2 w os) (piecesOf ((bd.drop 9).drop 4) ev cE at2 [topFrame at0])) = fun os => some (Flow.next, u3 w os, cE, at3) := by kernel_rfl
noncomputable def sz (w : World) (os : OsState) : Shared := ⟨g3 w.params, Array.mk [], boot_drawn, 382, os⟩
theorem run5 (w : World) : (fun os => topRun treeTable pw w 11 (some (Value.ref 6)) 2 (u3 w os).abs ⟨doneF .next, cE, at3, [topFrame at0]⟩) = fun os => some (sz w os) := by kernel_rfl
theorem bd_cut : bd = bd.take 9 ++ ((bd.drop 9).take 4 ++ ((bd.drop 9).drop 4 ++ [])) := by rw [List.append_nil, List.take_append_drop, List.take_append_drop]
theorem runAll (w : World) (os : OsState) : topRun treeTable pw w 11 (some (Value.ref 6)) (12 + (1 + (193 + (398 + (130 + 2))))) (b0 w os) (topStub pw) = some (sz w os) := by
  refine go_top (congrFun (run0 w) os) ?_
  refine piece_block (congrFun (run1 w) os) ?_
  have k : topRun treeTable pw w 11 (some (Value.ref 6)) (193 + (398 + (130 + 2))) (u0 w os).abs (restOf (bd.take 9 ++ ((bd.drop 9).take 4 ++ ((bd.drop 9).drop 4 ++ []))) ev cE at0 [topFrame at0]) = some (sz w os) :=
    piece_app (segRun_of (congrFun (run2 w) os)) (piece_app (segRun_of (congrFun (run3 w) os)) (piece_app (segRun_of (congrFun (run4 w) os)) (congrFun (run5 w) os)))
  rw [← bd_cut] at k
  exact k
theorem see1 (w : World) (os : OsState) : (staticsOk (importedModules pw.main.body) (boot_heap w.params) (g3 w.params) && namesBound pw (g3 w.params) && gensDone (sz w os) && laidKept (boot_heap w.params) (g3 w.params)) = true := by kernel_rfl
theorem see2 (w : World) (os : OsState) : openSeen QQ [] (importedModules pw.main.body) (fun s => xlAt QQ [] s && recOk [] s) true (sz w os) = openGood QQ [] := by kernel_rfl
theorem see3 (w : World) (os : OsState) : Hook.obs (kmHook KK kA K_at [86]) (sz w os) = Hook.val (kmHook KK kA K_at [86]) w := by kernel_rfl
end TopRun
open TopRun in
theorem hleft : LeftO PySem.Challenge.pw_to0006_01 QQ [] (fun s => xlAt QQ [] s && recOk [] s) (Hook.obs (kmHook KK kA K_at [86])) (Hook.val (kmHook KK kA K_at [86])) 1562 :=
  LeftO.of_pieces (boot_open (by kernel_rfl) (by decide) (fun s => by kernel_rfl)) (fun w => by kernel_rfl) runAll (by decide) (fun w => funext fun os => looks_pair (see1 w os) (looks_pair (see2 w os) (see3 w os)))
theorem ok6 : (chainsOk QQ && opensWell PySem.Challenge.pw_to0006_01 && (frees PySem.Challenge.rw_to0006_01.row.toRowW && PySem.Challenge.rw_to0006_01.row.within.isEmpty)) = true := by decide +kernel
theorem head0 {d : DefRec} {kwd : List (Str × PySem.Expr)} (h1 : defOf QQ PySem.Challenge.rw_to0006_01.row.name = some (d, kwd))
    (h2 : PySem.Challenge.pw_to0006_01.theDef PySem.Challenge.rw_to0006_01.row.name = some (d.params, d.body, d.scope)) (h3 : kwWritten? d.params.kwonlyargs d.params.kw_defaults = some kwd)
    (walk : WalkO QQ [] (XL QQ []) (kmHook KK kA K_at [86]).says PySem.Challenge.rw_to0006_01.row.toRowW d kwd fun f vs => PySem.call f vs) : PySem.Challenge.rw_to0006_01.Holds := by
  refine holds_law said0 fun said => ?_
  refine PySem.W.holds_open (q := QQ) (loose := []) (Xt := fun s => xlAt QQ [] s && recOk [] s) (XP := XL QQ []) (Yf := Hook.obs (kmHook KK kA K_at [86])) (Ya := Hook.val (kmHook KK kA K_at [86])) (YP := Hook.says (kmHook KK kA K_at [86])) (N := 1562) hleft (Hook.of _) (Hook.keeps _) (fun s e => xl_of s (Bool.and_eq_true_iff.mp e).1) XL.keeps h1 h2 h3 (fun s e => recFacts_of (Bool.and_eq_true_iff.mp e).2) ?h4 said ok6 ?h7 ?hw walk
  case h4 => rfl
  case h7 => exact ⟨rfl, rfl, rfl, rfl, rfl, by decide +kernel⟩
  case hw => w_witness2
end Mine
end
section
open PySem PySem.W PyProof.Rows PySem.Calls
namespace Mine
/-- the frame's map, let stand by a name of its own: the proof term stays small -/
theorem fr_let {g h : Heap} {L : Addr} {m : PySem.Str → Option Value} {P : Prop} (F : Fr g L h m) (k : let m' := m; Fr g L h m' → P) : P := k F
noncomputable def CutQ (Q : Flow → Shared → Prop) (f : Flow) (s' : Shared) : Prop := Q f s'
theorem q_let {M : Model} {A : Around} {t : Sem Flow} {Q : Flow → Shared → Prop} {E : Value → Shared → Prop} {s : Shared} (k : let Q' := Q; wpAny M A t (CutQ Q') E s) : wpAny M A t Q E s := k
theorem execs_let {M : Model} {A : Around} {st : Stmt} {rest : List Stmt} {env : Env} {Q : Flow → Shared → Prop} {E : Value → Shared → Prop} {s : Shared} {g : Heap} {L : Addr} {m : PySem.Str → Option Value} (F : Fr g L s.heap m)
    (k : let m' := m; Fr g L s.heap m' → let Q' : Flow → Shared → Prop := fun f s' => match f with | .next => wpAny M A (execs rest env) Q E s' | f => Q f s'; wpAny M A (exec st env) (CutQ Q') E s) : wpAny M A (execs (st :: rest) env) Q E s :=
  wpAny_execs_cons (k F)
end Mine
end
section
open PySem PySem.W PyProof.Rows PySem.Calls
namespace Mine
theorem fill : PySem.Challenge.rw_to0006_01 = PySem.Challenge.rw_to0006_01 ∧ KK = KK := by
  k_fill
  exact ⟨rfl, rfl⟩
variable {prog : Program} {w : World} {p : Program} {loose : List Str} {mean : ExcName → Option Value} {mg mb : Str → Option Value}
  {dp un : Nat} {gd : Option (List Code)} {cn : Str} {cs : Scope} {a : Addr} {ccd : Value} {cl : List (Str × Addr)} {outer : List Env} {A₀ : Around} {base h₀ : Heap} {L : Addr} {m : Str → Option Value} {s : Shared} {Q E : Value → Shared → Prop} {news : List (Addr × Obj)}
noncomputable abbrev tup (vs : List Value) : Obj := { cls := .type "tuple", data := .seq vs.toArray }

theorem news_lt {g h : Heap} {L : Addr} {news : List (Addr × Obj)} (N : News g L h news) : ∀ p ∈ news, p.1 < h.objs.size := fun p hp => Heap.lt_size (N p hp).1

set_option maxHeartbeats 2000000 in
theorem div21 (B : Below A₀ base outer h₀) (F : Fr h₀ L s.heap m) (X : (KK w.params).In h₀) (N : News h₀ L s.heap news) (T : Top p loose mean mg mb h₀) (hk : cs.kind = .function) (hdp : dp + 1 < recursionLimit) (hu : un + 8 < cLine)
  (x y n : Int) (tx ty tn : Tok) (hy : 0 < y) (hy2 : y < 2 ^ 30) (hx0 : 0 ≤ x)  (hx : (Builtin.Int.intBits x : Int) - n ≤ 4000)
  (ret : ∀ (c : Addr) (t1 t2 : Tok) (h' : Heap) (tk' : Nat), Fr h₀ L h' m → News h₀ L h' ((c, tup [Value.int (x.fdiv y) t1, Value.int (x.fmod y) t2]) :: news) → (∀ p ∈ news, p.1 < c) → Q (.ref c) {s with heap := h', toks := tk'}) :
  wpAny (model prog w) (ktrTop dp un gd cn cs L a ccd cl outer) (call (.ref 21) [.int x tx, .int y ty, .int n tn]) Q E s := by
  refine wpAny_call ?_
  k_dflt cell_enter
  k_steps
  exact ret _ _ _ _ _ (by assumption) (by assumption) (news_lt (by assumption))
end Mine
end
section
open PySem PySem.W PyProof.Rows PySem.Calls
namespace Mine
variable {prog : Program} {w : World} {p : Program} {loose : List Str} {mean : ExcName → Option Value} {mg mb : Str → Option Value}
  {dp un : Nat} {gd : Option (List Code)} {cn : Str} {cs : Scope} {a : Addr} {ccd : Value} {cl : List (Str × Addr)} {outer : List Env} {A₀ : Around} {base h₀ : Heap} {L : Addr} {m : Str → Option Value} {s : Shared} {Q E : Value → Shared → Prop} {news : List (Addr × Obj)}
local macro_rules | `(tactic| walk_at "call ref") => `(tactic| (k_here; (with_reducible show wpAny _ _ (call (Value.ref 21) _) _ _ _); k_dflt (refine' div21 ?k1 ?k2 ?k3 ?k4 ?k5 ?k6 ?k7 ?k8 _ _ _ _ _ _ ?a1 ?a2 ?a3 ?a4 ?_; (case k1 => k_asm); (case k2 => k_asm); (case k3 => k_asm); (case k4 => k_asm); (case k5 => k_asm); (case k6 => first | exact rfl | assumption); (case k7 => ((try dsimp only [ktrTop, Around.deeper]); omega)); (case k8 => ((try dsimp only [ktrTop, Around.deeper]); omega)); (case a1 => l_fact); (case a2 => l_fact); (case a3 => l_fact); (case a4 => l_fact)); intro c9 t9 u9 h9 tk9 F9 N9 l9; (try k_lt l9); (try dsimp only)))

theorem allLt_to {d : Addr} : ∀ {l : List (Addr × Obj)}, AllLt d l → ∀ p ∈ l, p.1 < d
  | [], _ => fun _ h => nomatch h
  | _ :: _, ⟨a, b⟩ => fun p h => by
    rcases List.mem_cons.mp h with rfl | h
    · exact a
    · exact allLt_to b p h
theorem or_low (x y : Int) (hx : 0 ≤ x) (hy : 0 ≤ y) (hy' : y < 64) : Builtin.bitOr (x * 2 ^ Int.toNat 6) y = x * 64 + y := by
  have e : (2 : Int) ^ Int.toNat 6 = 64 := by decide
  rw [e, bitOr_and, bitAnd_pp (by omega) hy]
  have h1 := nat_or_add_and (x * 64).toNat y.toNat
  have h2 := Nat.two_pow_add_eq_or_of_lt (b := y.toNat) (i := 6) (by omega) x.toNat
  have h3 : (x * 64).toNat = 2 ^ 6 * x.toNat := by omega
  rw [h3] at h1 ⊢
  rw [← h2] at h1
  omega
theorem acc_is (b q0 r0 : Int) (n : Nat) : accDown (fun (_ : Int) (x : Int) => x + b) q0 r0 (q0 - n) = r0 + n * b := by
  induction n with
  | zero => rw [show q0 - ((0 : Nat) : Int) = q0 by omega, accDown_start]; simp
  | succ n ih =>
    rw [show q0 - ((n + 1 : Nat) : Int) = (q0 - n) - 1 by omega, accDown_succ (by omega), ih]
    rw [show ((n + 1 : Nat) : Int) = (n : Int) + 1 by omega, Int.add_mul, Int.one_mul]; omega
theorem acc_at {b q0 r0 k : Int} (h : k ≤ q0) : accDown (fun (_ : Int) (x : Int) => x + b) q0 r0 k = r0 + (q0 - k) * b := by
  have := acc_is b q0 r0 (q0 - k).toNat
  rw [show ((q0 - k).toNat : Int) = q0 - k by omega, show q0 - (q0 - k) = k by omega] at this
  exact this
theorem stop_ok {b q0 r0 A : Int} (hA : A = q0 * b + r0) (hb : 0 < b) (hr : r0 < b) : StopDown (fun k => decide (accDown (fun (_ : Int) (x : Int) => x + b) q0 r0 k < 0)) q0 (A / b) := by
  have h1 := Int.mul_ediv_add_emod A b
  have h2 := Int.emod_nonneg A (Int.ne_of_gt hb)
  have h3 := Int.emod_lt_of_pos A hb
  have hle : A / b ≤ q0 := by
    have : A / b < q0 + 1 := Int.ediv_lt_of_lt_mul hb (by rw [Int.add_mul, Int.one_mul]; omega)
    omega
  refine ⟨hle, ?_⟩
  dsimp only
  rw [acc_at hle, Int.sub_mul, decide_eq_false_iff_not, Int.mul_comm (A / b) b]
  omega
theorem stop_end {b q0 r0 k A : Int} (hA : A = q0 * b + r0) (hb : 0 < b) (hr : r0 < b) (hk : k ≤ q0) (hall : ∀ j, k < j → j ≤ q0 → decide (accDown (fun (_ : Int) (x : Int) => x + b) q0 r0 j < 0) = true)
    (hend : decide (accDown (fun (_ : Int) (x : Int) => x + b) q0 r0 k < 0) = false) : k = A / b ∧ accDown (fun (_ : Int) (x : Int) => x + b) q0 r0 k = A % b := by
  rw [acc_at hk] at hend ⊢
  have h0 : 0 ≤ r0 + (q0 - k) * b := by simpa using hend
  have h1 : r0 + (q0 - k) * b < b := by
    by_cases e : k = q0
    · subst e; simpa using hr
    · have := hall (k + 1) (by omega) (by omega)
      rw [acc_at (by omega)] at this
      have t : r0 + (q0 - (k + 1)) * b < 0 := by simpa using this
      rw [show q0 - (k + 1) = (q0 - k) - 1 by omega, Int.sub_mul, Int.one_mul] at t
      omega
  have := (Int.ediv_emod_unique (a := A) (r := r0 + (q0 - k) * b) (q := k) hb).mpr ⟨by rw [hA, Int.sub_mul, Int.mul_comm b k]; omega, h0, h1⟩
  exact ⟨this.1.symm, this.2.symm⟩
theorem nums1 {a12 a3 b1 b2 b : Int} (hb : b = b1 * 64 + b2) (hb1 : 0 < b1) (hb2 : 0 ≤ b2) (h12 : 0 ≤ a12) (h3 : 0 ≤ a3) (h3' : a3 < 64) (hlt : a12 * 64 + a3 < 64 * b) (e : a12.fdiv (2 ^ Int.toNat 6) = b1) :
    0 < b ∧ a12 * 64 + a3 = (1 * 2 ^ Int.toNat 6 - 1) * b + (Builtin.bitOr ((a12 - b1 * 2 ^ Int.toNat 6 + b1) * 2 ^ Int.toNat 6) a3 - (1 * 2 ^ Int.toNat 6 - 1) * b2) ∧
    Builtin.bitOr ((a12 - b1 * 2 ^ Int.toNat 6 + b1) * 2 ^ Int.toNat 6) a3 - (1 * 2 ^ Int.toNat 6 - 1) * b2 < b := by
  have e6 : (2 : Int) ^ Int.toNat 6 = 64 := by decide
  have e0 : a12 / 64 = b1 := by rw [← e, e6, Int.fdiv_eq_ediv_of_nonneg _ (by decide)]
  have k0 : 0 ≤ a12 - b1 * 2 ^ Int.toNat 6 + b1 := by rw [e6]; omega
  rw [or_low _ _ k0 h3 h3', e6]
  omega
theorem nums2 {a12 a3 b1 b2 b : Int} (hb : b = b1 * 64 + b2) (hb1 : 0 < b1) (hb2 : 0 ≤ b2) (h12 : 0 ≤ a12) (h3 : 0 ≤ a3) (h3' : a3 < 64) :
    0 < b ∧ a12 * 64 + a3 = a12.fdiv b1 * b + (Builtin.bitOr (a12.fmod b1 * 2 ^ Int.toNat 6) a3 - a12.fdiv b1 * b2) ∧
    Builtin.bitOr (a12.fmod b1 * 2 ^ Int.toNat 6) a3 - a12.fdiv b1 * b2 < b := by
  have hb0 : (0 : Int) ≤ b1 := by omega
  rw [Int.fdiv_eq_ediv_of_nonneg _ hb0, Int.fmod_eq_emod_of_nonneg _ hb0]
  have h1 := Int.mul_ediv_add_emod a12 b1
  have h2 := Int.emod_nonneg a12 (Int.ne_of_gt hb1)
  have h4 := Int.emod_lt_of_pos a12 hb1
  have h5 : 0 ≤ a12 / b1 := Int.ediv_nonneg h12 hb0
  rw [or_low _ _ h2 h3 h3']
  have h6 : 0 ≤ a12 / b1 * b2 := Int.mul_nonneg h5 hb2
  refine ⟨by omega, ?_, by omega⟩
  rw [hb, Int.mul_add, ← Int.mul_assoc, Int.mul_comm (a12 / b1) b1]
  omega

set_option maxHeartbeats 4000000 in
theorem div32 (B : Below A₀ base outer h₀) (F : Fr h₀ L s.heap m) (X : (KK w.params).In h₀) (N : News h₀ L s.heap news) (T : Top p loose mean mg mb h₀) (hk : cs.kind = .function) (hdp : dp + 2 < recursionLimit) (hu : un + 16 < cLine)
  (a12 a3 b b1 b2 : Int) (t1 t2 t3 t4 t5 t6 : Tok) (hb : b = b1 * 64 + b2) (hb1 : 0 < b1) (hb1' : b1 < 2 ^ 24) (hb2 : 0 ≤ b2) (hb2' : b2 < 64) (h12 : 0 ≤ a12) (h12' : a12 < 2 ^ 30) (h3 : 0 ≤ a3) (h3' : a3 < 64) (hlt : a12 * 64 + a3 < 64 * b)
  (hbits : (Builtin.Int.intBits a12 : Int) - 6 ≤ 4000)
  (ret : ∀ (c : Addr) (u1 u2 : Tok) (h' : Heap) (tk' : Nat), Fr h₀ L h' m → News h₀ L h' ((c, tup [Value.int ((a12 * 64 + a3) / b) u1, Value.int ((a12 * 64 + a3) % b) u2]) :: news) → (∀ p ∈ news, p.1 < c) → Q (.ref c) {s with heap := h', toks := tk'}) :
  wpAny (model prog w) (ktrTop dp un gd cn cs L a ccd cl outer) (call (.ref 28) [.int a12 t1, .int a3 t2, .int b t3, .int b1 t4, .int b2 t5, .int 6 t6]) Q E s := by
  refine wpAny_call ?_
  k_dflt cell_enter
  k_steps
  all_goals (try exact stop_ok (nums1 hb hb1 hb2 h12 h3 h3' hlt (by assumption)).2.1 (nums1 hb hb1 hb2 h12 h3 h3' hlt (by assumption)).1 (nums1 hb hb1 hb2 h12 h3 h3' hlt (by assumption)).2.2)
  all_goals (try exact stop_ok (nums2 hb hb1 hb2 h12 h3 h3').2.1 (nums2 hb hb1 hb2 h12 h3 h3').1 (nums2 hb hb1 hb2 h12 h3 h3').2.2)
  · have e := stop_end (nums1 hb hb1 hb2 h12 h3 h3' hlt (by assumption)).2.1 (nums1 hb hb1 hb2 h12 h3 h3' hlt (by assumption)).1 (nums1 hb hb1 hb2 h12 h3 h3' hlt (by assumption)).2.2 (by assumption) (by assumption) (by assumption)
    rename News h₀ L _ _ => kN
    rw [e.1, ← e.1, e.2, e.1] at kN
    rename _ ∧ AllLt _ _ => hl
    exact ret _ _ _ _ _ (by assumption) (cb_drop kN (by kcj_all)) (allLt_to hl.2)
  all_goals (try exact stop_ok (nums2 hb hb1 hb2 h12 h3 h3').2.1 (nums2 hb hb1 hb2 h12 h3 h3').1 (nums2 hb hb1 hb2 h12 h3 h3').2.2)
  · have e := stop_end (nums2 hb hb1 hb2 h12 h3 h3').2.1 (nums2 hb hb1 hb2 h12 h3 h3').1 (nums2 hb hb1 hb2 h12 h3 h3').2.2 (by assumption) (by assumption) (by assumption)
    rename News h₀ L _ _ => kN
    rw [e.1, ← e.1, e.2, e.1] at kN
    rename _ ∧ AllLt _ _ => hl
    exact ret _ _ _ _ _ (by assumption) (cb_drop kN (by kcj_all)) (allLt_to hl.2)
end Mine
end
section
open PySem PySem.W PyProof.Rows PySem.Calls
namespace Mine
variable {prog : Program} {w : World} {p : Program} {loose : List Str} {mean : ExcName → Option Value} {mg mb : Str → Option Value}
  {dp un : Nat} {gd : Option (List Code)} {cn : Str} {cs : Scope} {a : Addr} {ccd : Value} {cl : List (Str × Addr)} {outer : List Env} {A₀ : Around} {base h₀ : Heap} {L : Addr} {m : Str → Option Value} {s : Shared} {Q E : Value → Shared → Prop} {news : List (Addr × Obj)}

noncomputable def over : List (PySem.Str × Value) → (PySem.Str → Option Value) → PySem.Str → Option Value
  | [], m => m
  | (x, v) :: r, m => fun y => if y = x then some v else over r m y
noncomputable def Reads (m : PySem.Str → Option Value) : List (PySem.Str × Value) → Prop
  | [] => True
  | (x, v) :: r => m x = some v ∧ Reads m r
theorem over_self {m : PySem.Str → Option Value} : ∀ {ps : List (PySem.Str × Value)}, Reads m ps → m = over ps m
  | [], _ => rfl
  | (x, v) :: r, ⟨h, hr⟩ => by
    funext y
    show m y = if y = x then some v else over r m y
    rw [← over_self hr]
    by_cases e : y = x
    · subst e; rw [if_pos rfl, h]
    · rw [if_neg e]
noncomputable def nearF : Nat → Int → Int → Int → Option (List (Int × Int))
  | 0, _, _, _ => none
  | k + 1, u, l, sg =>
    if l = 0 then some [] else
    let mv : Int := 12 - (Builtin.Int.intBits (2 * l) : Int)
    let above := (2 * u + l - 1) * 2 ^ mv.toNat
    let below := 2 * l * 2 ^ mv.toNat
    if 0 < l ∧ l < 2 ^ 20 ∧ 0 < u ∧ u < 2 ^ 20 ∧ 0 ≤ mv ∧ mv ≤ 12 ∧ above < 64 * below ∧ 64 ≤ below ∧ below < 2 ^ 20 ∧ 0 ≤ above ∧ above < 2 ^ 26 then
      let rest := ((above % below).fdiv (2 ^ mv.toNat) - l + 1).fdiv 2
      (nearF k l (if rest < 0 then -rest else rest) (if rest < 0 then -1 else 1)).map ((sg, above / below) :: ·)
    else none
inductive PairsIn (T : List (Addr × Obj)) : List Value → List (Int × Int) → Prop
  | nil : PairsIn T [] []
  | cons {c : Addr} {a b : Int} {ta tb : Tok} {vs : List Value} {ps : List (Int × Int)} : (c, tup [.int a ta, .int b tb]) ∈ T → PairsIn T vs ps → PairsIn T (.ref c :: vs) ((a, b) :: ps)
theorem PairsIn.mono {T T' : List (Addr × Obj)} (h : ∀ p ∈ T, p ∈ T') : ∀ {vs : List Value} {ps : List (Int × Int)}, PairsIn T vs ps → PairsIn T' vs ps
  | _, _, .nil => .nil
  | _, _, .cons hm r => .cons (h _ hm) (r.mono h)
theorem PairsIn.snoc {T : List (Addr × Obj)} {c : Addr} {a b : Int} {ta tb : Tok} (hm : (c, tup [.int a ta, .int b tb]) ∈ T) : ∀ {vs : List Value} {ps : List (Int × Int)}, PairsIn T vs ps → PairsIn T (vs ++ [.ref c]) (ps ++ [(a, b)])
  | _, _, .nil => .cons hm .nil
  | _, _, .cons hm' r => .cons hm' (r.snoc hm)
theorem PairsIn.length {T : List (Addr × Obj)} : ∀ {vs : List Value} {ps : List (Int × Int)}, PairsIn T vs ps → vs.length = ps.length
  | _, _, .nil => rfl
  | _, _, .cons _ r => congrArg (· + 1) r.length
theorem near_succ {k : Nat} {u l sg : Int} {todo : List (Int × Int)} (h : nearF (k + 1) u l sg = some todo) (hl : l ≠ 0) :
    (0 < l ∧ l < 2 ^ 20 ∧ 0 < u ∧ u < 2 ^ 20 ∧ 0 ≤ 12 - (Builtin.Int.intBits (2 * l) : Int) ∧ 12 - (Builtin.Int.intBits (2 * l) : Int) ≤ 12 ∧ (2 * u + l - 1) * 2 ^ (12 - (Builtin.Int.intBits (2 * l) : Int)).toNat < 64 * (2 * l * 2 ^ (12 - (Builtin.Int.intBits (2 * l) : Int)).toNat) ∧ 64 ≤ 2 * l * 2 ^ (12 - (Builtin.Int.intBits (2 * l) : Int)).toNat ∧ 2 * l * 2 ^ (12 - (Builtin.Int.intBits (2 * l) : Int)).toNat < 2 ^ 20 ∧ 0 ≤ (2 * u + l - 1) * 2 ^ (12 - (Builtin.Int.intBits (2 * l) : Int)).toNat ∧ (2 * u + l - 1) * 2 ^ (12 - (Builtin.Int.intBits (2 * l) : Int)).toNat < 2 ^ 26) ∧
    ∃ more, todo = (sg, (2 * u + l - 1) * 2 ^ (12 - (Builtin.Int.intBits (2 * l) : Int)).toNat / (2 * l * 2 ^ (12 - (Builtin.Int.intBits (2 * l) : Int)).toNat)) :: more ∧ nearF k l (if (((2 * u + l - 1) * 2 ^ (12 - (Builtin.Int.intBits (2 * l) : Int)).toNat % (2 * l * 2 ^ (12 - (Builtin.Int.intBits (2 * l) : Int)).toNat)).fdiv (2 ^ (12 - (Builtin.Int.intBits (2 * l) : Int)).toNat) - l + 1).fdiv 2 < 0 then -(((2 * u + l - 1) * 2 ^ (12 - (Builtin.Int.intBits (2 * l) : Int)).toNat % (2 * l * 2 ^ (12 - (Builtin.Int.intBits (2 * l) : Int)).toNat)).fdiv (2 ^ (12 - (Builtin.Int.intBits (2 * l) : Int)).toNat) - l + 1).fdiv 2 else (((2 * u + l - 1) * 2 ^ (12 - (Builtin.Int.intBits (2 * l) : Int)).toNat % (2 * l * 2 ^ (12 - (Builtin.Int.intBits (2 * l) : Int)).toNat)).fdiv (2 ^ (12 - (Builtin.Int.intBits (2 * l) : Int)).toNat) - l + 1).fdiv 2) (if (((2 * u + l - 1) * 2 ^ (12 - (Builtin.Int.intBits (2 * l) : Int)).toNat % (2 * l * 2 ^ (12 - (Builtin.Int.intBits (2 * l) : Int)).toNat)).fdiv (2 ^ (12 - (Builtin.Int.intBits (2 * l) : Int)).toNat) - l + 1).fdiv 2 < 0 then -1 else 1) = some more := by
  simp only [nearF, if_neg hl] at h
  split at h
  · rename_i hc
    refine ⟨hc, ?_⟩
    obtain ⟨more, h1, h2⟩ := Option.map_eq_some_iff.mp h
    exact ⟨more, h2.symm, h1⟩
  · cases h
theorem near_sg {P : Prop} [Decidable P] {n : Nat} {u l : Int} {more : List (Int × Int)} (h : nearF n u l (if P then -1 else 1) = some more) : (P → nearF n u l (-1) = some more) ∧ (¬ P → nearF n u l 1 = some more) :=
  ⟨fun p => by rwa [if_pos p] at h, fun p => by rwa [if_neg p] at h⟩
noncomputable def NearJ (lr : Addr) (news : List (Addr × Obj)) (res : List (Int × Int)) (n : Nat) (m₁ : PySem.Str → Option Value) (news₁ : List (Addr × Obj)) : Prop :=
  ∃ (u l sg : Int) (tu tl ts : Tok) (rest : PySem.Str → Option Value) (items : List Value) (done todo : List (Int × Int)) (tups : List (Addr × Obj)) (e : Nat),
    m₁ = over [(Str.ofString "upper", Value.int u tu), (Str.ofString "lower", Value.int l tl), (Str.ofString "sign", Value.int sg ts), (Str.ofString "runs", Value.ref lr)] rest ∧
    news₁ = (lr, W.listOf items.toArray e) :: (tups ++ news) ∧ PairsIn tups items done ∧ (∀ p ∈ tups ++ news, p.1 ≠ lr) ∧ items.length + n ≤ 100 ∧ nearF n u l sg = some todo ∧ done ++ todo = res
theorem near_zero {k : Nat} {u sg : Int} {todo : List (Int × Int)} (h : nearF (k + 1) u 0 sg = some todo) : todo = [] := by
  simp only [nearF, if_true] at h
  exact (Option.some.inj h).symm
theorem near_next {g h' : Heap} {L lr D c c9 : Addr} {o o9 : Obj} {sg sg' q u' l' : Int} {ts tq tu tl ts' : Tok} {items : List Value} {e n tk : Nat} {tups : List (Addr × Obj)} {m' : PySem.Str → Option Value} {done more res : List (Int × Int)} {s : Shared} {Q : Flow → Shared → Prop}
    (N9 : News g L h' ((D, o) :: (c, tup [.int sg ts, .int q tq]) :: (c9, o9) :: (lr, W.listOf (items.toArray.push (Value.ref c)) (e + 1)) :: (tups ++ news))) (F9 : Fr g L h' m')
    (hR : Reads m' [(Str.ofString "upper", Value.int u' tu), (Str.ofString "lower", Value.int l' tl), (Str.ofString "sign", Value.int sg' ts'), (Str.ofString "runs", Value.ref lr)])
    (hP : PairsIn tups items done) (hne : ∀ p ∈ tups ++ news, p.1 ≠ lr) (hc : c ≠ lr) (hlen : items.length + (n + 1) ≤ 100) (hmore : nearF n u' l' sg' = some more) (hdone : done ++ (sg, q) :: more = res) :
    WhileStep2 g L s (NearJ lr news res) Q (n + 1) .next { s with heap := h', toks := tk } := by
  rw [List.push_toArray] at N9
  refine ⟨_, _, _, (lr, W.listOf (items ++ [Value.ref c]).toArray (e + 1)) :: (((c, tup [.int sg ts, .int q tq]) :: tups) ++ news), n, rfl, F9, cb_drop N9 ?_, Nat.lt_succ_self n, u', l', sg', tu, tl, ts', m', items ++ [Value.ref c], done ++ [(sg, q)], more, (c, tup [.int sg ts, .int q tq]) :: tups, e + 1, over_self hR, rfl, PairsIn.snoc List.mem_cons_self (hP.mono fun p hp => List.mem_cons_of_mem _ hp), ?_, ?_, hmore, ?_⟩
  · intro p hp
    simp only [List.cons_append, List.mem_cons] at hp ⊢
    rcases hp with rfl | rfl | hp
    · simp
    · simp
    · exact .inr (.inr (.inr (.inr hp)))
  · intro p hp
    rw [List.cons_append] at hp
    rcases List.mem_cons.mp hp with rfl | hp
    · exact hc
    · exact hne p hp
  · simp only [List.length_append, List.length_cons, List.length_nil]; omega
  · rw [List.append_assoc]; exact hdone
theorem div32' (B : Below A₀ base outer h₀) (F : Fr h₀ L s.heap m) (X : (KK w.params).In h₀) (N : News h₀ L s.heap news) (T : Top p loose mean mg mb h₀) (hk : cs.kind = .function) (hdp : dp + 2 < recursionLimit) (hu : un + 16 < cLine)
  (x b : Int) (t1 t2 t3 t4 t5 t6 : Tok) (hlt : x < 64 * b) (hb : 64 ≤ b) (hb' : b < 2 ^ 20) (hx : 0 ≤ x) (hx' : x < 2 ^ 26)
  (ret : ∀ (c : Addr) (u1 u2 : Tok) (h' : Heap) (tk' : Nat), Fr h₀ L h' m → News h₀ L h' ((c, tup [Value.int (x / b) u1, Value.int (x % b) u2]) :: news) → (∀ p ∈ news, p.1 < c) → Q (.ref c) {s with heap := h', toks := tk'}) :
  wpAny (model prog w) (ktrTop dp un gd cn cs L a ccd cl outer) (call (.ref 28) [.int (x.fdiv (2 ^ Int.toNat 6)) t1, .int (Builtin.bitAnd x 63) t2, .int b t3, .int (b.fdiv (2 ^ Int.toNat 6)) t4, .int (Builtin.bitAnd b 63) t5, .int 6 t6]) Q E s := by
  have e6 : (2 : Int) ^ Int.toNat 6 = 64 := by decide
  rw [e6, bitAnd_m6, bitAnd_m6, Int.fdiv_eq_ediv_of_nonneg _ (by decide), Int.fdiv_eq_ediv_of_nonneg _ (by decide)]
  have e : x / 64 * 64 + x % 64 = x := by omega
  refine div32 B F X N T hk hdp hu (x / 64) (x % 64) b (b / 64) (b % 64) t1 t2 t3 t4 t5 t6 (by omega) (by omega) (by omega) (by omega) (by omega) (by omega) (by omega) (by omega) (by omega) (by omega) ?_ ?_
  · have := intBits_le_64 (k := x / 64) (by omega) (by omega)
    omega
  · rw [e]
    exact ret
structure Hold (P : Prop) : Prop where
  out : P
local macro_rules | `(tactic| walk_at "call ref") => `(tactic| (k_here; (with_reducible show wpAny _ _ (call (Value.ref 28) _) _ _ _); k_dflt (refine' div32' ?k1 ?k2 ?k3 ?k4 ?k5 ?k6 ?k7 ?k8 _ _ _ _ _ _ _ _ ?a1 ?a2 ?a3 ?a4 ?a5 ?_; (case k1 => k_asm); (case k2 => k_asm); (case k3 => k_asm); (case k4 => k_asm); (case k5 => k_asm); (case k6 => first | exact rfl | assumption); (case k7 => ((try dsimp only [ktrTop, Around.deeper]); omega)); (case k8 => ((try dsimp only [ktrTop, Around.deeper]); omega)); (case a1 => assumption); (case a2 => assumption); (case a3 => assumption); (case a4 => assumption); (case a5 => assumption)); intro c9 t9 u9 h9 tk9 F9 N9 l9; (try k_lt l9); (try dsimp only)))
local macro_rules | `(tactic| walk_at "exec While Name cons nil") => `(tactic| (k_here; refine Hold.out ?_))
local macro_rules | `(tactic| walk_at "WhileStep2") => `(tactic| (refine Hold.out ?_))
local macro_rules | `(tactic| k_all) => `(tactic| assumption)
local macro_rules | `(tactic| walk_at "binaryOp LShift int int") => `(tactic| (k_here; (with_reducible refine lshift_int_small ?kb1 ?kb2 ?kb3 ?_); (case kb1 => assumption); (case kb2 => omega); (case kb3 => omega)))
local macro_rules | `(tactic| walk_at "binaryOp RShift int int") => `(tactic| (k_here; (with_reducible refine rshift_int ?kb1 ?_); (case kb1 => assumption)))
local macro_rules | `(tactic| walk_at $_:str) => `(tactic| (k_here; first | dsimp only | k_gentoks))
local macro_rules | `(tactic| walk_at "CutQ") => `(tactic| (unfold CutQ; with_reducible conv => whnf))
local macro_rules | `(tactic| walk_at "execs cons") => `(tactic| (k_here; (try dsimp only); (try k_gentoks); (with_reducible rename Fr _ _ _ _ => lF'); (with_reducible refine execs_let lF' ?_); clear lF'; intro m' F' Q'; (try dsimp only)))
set_option maxHeartbeats 4000000 in
theorem nearest (B : Below A₀ base outer h₀) (F : Fr h₀ L s.heap m) (X : (KK w.params).In h₀) (N : News h₀ L s.heap news) (T : Top p loose mean mg mb h₀) (hk : cs.kind = .function) (hdp : dp + 3 < recursionLimit) (hu : un + 24 < cLine)
  (u l : Int) (t1 t2 : Tok) (n₀ : Nat) (hn₀ : n₀ ≤ 100) (res : List (Int × Int)) (hres : nearF n₀ u l 1 = some res)
  (ret : ∀ (lr : Addr) (items : List Value) (e : Nat) (tups : List (Addr × Obj)) (h' : Heap) (tk' : Nat), Fr h₀ L h' m → News h₀ L h' ((lr, W.listOf items.toArray e) :: (tups ++ news)) → PairsIn tups items res → (∀ p ∈ tups ++ news, p.1 ≠ lr) → (∀ p ∈ news, p.1 < lr) → Q (.ref lr) {s with heap := h', toks := tk'}) :
  wpAny (model prog w) (ktrTop dp un gd cn cs L a ccd cl outer) (call (.ref 105) [.int u t1, .int l t2]) Q E s := by
  refine wpAny_call ?_
  k_dflt cell_enter
  show let A' : Around := _; let env' : Env := _; wpAny _ A' (execs _ env') _ _ _
  intro A' env'
  k_steps
  refine ⟨?_⟩
  rename Fr _ _ _ _ => F1
  rename News _ _ _ _ => N1
  rename (∀ _ ∈ _, _ < _) => l1
  refine While_inv2 (J := NearJ _ news res) (n₀ := n₀) F1 N1 ⟨u, l, 1, _, _, _, _, [], [], res, [], _, over_self ⟨rfl, rfl, rfl, rfl, trivial⟩, rfl, .nil, fun p hp => Nat.ne_of_lt (l1 p hp), by simpa using hn₀, hres, rfl⟩ ?_
  rintro n m₁ news₁ h₁ tk₁ F2 N2 ⟨u, l, sg, tu, tl, ts, rest, items, done, todo, tups, e, rfl, rfl, hP, hne, hlen, hnear, hdone⟩
  simp only [over] at F2
  clear F1 N1
  cases n with
  | zero => cases hnear
  | succ n =>
  by_cases hl : l = 0
  · subst hl
    have := near_zero hnear
    subst this
    k_steps
    rw [List.append_nil] at hdone
    exact ret _ items e tups _ _ (by assumption) (by assumption) (hdone ▸ hP) hne l1
  · obtain ⟨⟨c1, c2, c3, c4, c5, c6, c7, c8, c9, c10, c11⟩, more, rfl, hmore⟩ := near_succ hnear hl
    clear hnear
    have hmp := (near_sg hmore).1
    have hmn := (near_sg hmore).2
    clear hmore
    k_steps
    · refine ⟨?_⟩
      rename News _ _ _ _ => N9
      rename Fr _ _ _ _ => F9
      exact near_next N9 F9 ⟨rfl, rfl, rfl, rfl, trivial⟩ hP hne (neN (by omega)) hlen (hmp (by assumption)) hdone
    · refine ⟨?_⟩
      rename News _ _ _ _ => N9
      rename Fr _ _ _ _ => F9
      exact near_next N9 F9 ⟨rfl, rfl, rfl, rfl, trivial⟩ hP hne (neN (by omega)) hlen (hmn (by omega)) hdone
    · exact absurd (by assumption) hl
end Mine
end
section
open PySem PySem.W PyProof.Rows PySem.Calls
namespace Mine
theorem sub_skip {α : Type} {x : α} {l r : List α} (h : ∀ p ∈ l, p ∈ r) : ∀ p ∈ l, p ∈ x :: r := fun p hp => List.mem_cons_of_mem _ (h p hp)
theorem sub_keep {α : Type} {x : α} {l r : List α} (h : ∀ p ∈ l, p ∈ r) : ∀ p ∈ x :: l, p ∈ x :: r := fun p hp => (List.mem_cons.mp hp).elim (fun e => e ▸ List.mem_cons_self) fun hp => List.mem_cons_of_mem _ (h p hp)
theorem sub_refl {α : Type} {l : List α} : ∀ p ∈ l, p ∈ l := fun _ h => h
open PyProof.Rows.LCg PyProof.Rows.LCt
noncomputable def CompTup (prog : Program) (w : World) (A : Around) (h₀ : Heap) (L : Addr) (m : PySem.Str → Option Value) (env : Env) (ct elt : PySem.Expr) (x : PySem.Str) (scope : Scope) (cl : List (PySem.Str × Addr)) (Fin : Shared → List Value → List (Addr × Obj) → Prop) (xv : Value) (s₁ : Shared) : Prop :=
  ∃ (ax : Addr) (its : Array Value) (n e : Nat) (news : List (Addr × Obj)), xv = .ref ax ∧ A.handled = none ∧ Fr h₀ L s₁.heap m ∧ News h₀ L s₁.heap news ∧ (ax, ({ cls := .type "tuple", data := .seq its e } : Obj)) ∈ news ∧ its.size = n ∧ n ≤ sizeLine ∧
    ∀ g : Heap, CompRestT prog w A h₀ L m env ct elt x scope cl { s₁ with heap := g } (fun nw => (ax, ({ cls := .type "tuple", data := .seq its e } : Obj)) ∈ nw) (fun i v => its[i]? = some v) (Fin { s₁ with heap := g }) n 0 [] news
section
variable {prog : Program} {w : World} {A : Around} {E : Value → Shared → Prop} {s : Shared} {h₀ : Heap} {L : Addr} {m : PySem.Str → Option Value} {env : Env}
theorem CompTup.of {ct elt : PySem.Expr} {x : PySem.Str} {scope : Scope} {cl : List (PySem.Str × Addr)} {Fin : Shared → List Value → List (Addr × Obj) → Prop} {ax : Addr} {its : Array Value} {n e : Nat} {news : List (Addr × Obj)} {s₁ : Shared}
    (hh : A.handled = none) (F : Fr h₀ L s₁.heap m) (N : News h₀ L s₁.heap news) (hm : (ax, ({ cls := .type "tuple", data := .seq its e } : Obj)) ∈ news) (hn : its.size = n) (hsz : n ≤ sizeLine)
    (h : ∀ g : Heap, CompRestT prog w A h₀ L m env ct elt x scope cl { s₁ with heap := g } (fun nw => (ax, ({ cls := .type "tuple", data := .seq its e } : Obj)) ∈ nw) (fun i v => its[i]? = some v) (Fin { s₁ with heap := g }) n 0 [] news) :
    CompTup prog w A h₀ L m env ct elt x scope cl Fin (.ref ax) s₁ := ⟨ax, its, n, e, news, rfl, hh, F, N, hm, hn, hsz, h⟩
theorem tup_st {ax I : Addr} {its : Array Value} {e : Nat} : ∀ i (h h' : Heap) (o : Obj) (nw : List (Addr × Obj)), (h.IsTupleIter I ax i ∧ h.IsTuple ax its) → h.get? I = some o → h'.get? I = some o → (∀ b o, h₀.get? b = some o → h'.get? b = some o) → News h₀ L h' nw → (ax, ({ cls := .type "tuple", data := .seq its e } : Obj)) ∈ nw → (h'.IsTupleIter I ax i ∧ h'.IsTuple ax its) :=
  fun i h h' o nw st e e' k N S => ⟨by obtain ⟨o', q, r⟩ := st.1; rw [e] at q; cases q; exact ⟨o, e', r⟩, ⟨_, (N _ S).1, rfl, _, rfl⟩⟩
theorem ListComp_tup {ct elt iter : PySem.Expr} {x : PySem.Str} {px : Pos} {scope : Scope} {cl : List (PySem.Str × Addr)} {pos : Pos} {Q : Value → Shared → Prop} (F₀ : Fr h₀ L s.heap m)
    (hclos : closureFor scope env = pure cl) (hcell : ∀ y ∈ scope.names, y.2 ≠ .cell) (hkind : scope.kind = .function)
    (hnames : ∀ y ∈ scope.names, y.2 = .local → scope.names.lookup y.1 = some .local) (hx : scope.names.lookup x = some .local)
    (h : wpAny (model prog w) A (eval iter env) (CompTup prog w A h₀ L m env ct elt x scope cl (fun s₂ => FinE h₀ L m s₂ Q)) E s)
    (hs : ∀ x, foldedSetIterable iter env x = pure x := by intro _; rfl) :
    wpAny (model prog w) A (eval (.ListComp elt [⟨.Name x px, iter, [ct], 0⟩] scope pos) env) Q E s := by
  rw [eval_ListComp]
  refine wpAny_comprehension_free (use := none) rfl hs hclos hkind hnames (wpAny_mono h (fun xv s₁ h₁ => ?_) fun _ _ e => e)
  obtain ⟨ax, its, n, e, news, rfl, hh, F, N, S, rfl, hsz, R⟩ := h₁
  have hl : s₁.heap.IsTuple ax its := ⟨_, (N _ S).1, rfl, _, rfl⟩
  have hlt : ax < s₁.heap.objs.size := Heap.lt_size (N _ S).1
  refine wpAny_pyIter_tuple hl ?_
  have up : ∀ b o, s₁.heap.get? b = some o → (s₁.heap.push { cls := .type "tuple_iterator", data := .fields #[.ref ax, .int 0 0] }).get? b = some o := fun b o e => Heap.get?_push_of_some _ e
  refine block_T (Walks.tuple hh s₁.heap.objs.size ax (Nat.ne_of_lt hlt) its) hsz (fun i h st => by obtain ⟨o, e, _⟩ := st.1; exact ⟨o, e⟩) tup_st hcell hkind hx ⟨⟨_, Heap.get?_push_size _ rfl, rfl, rfl⟩, hl.push _⟩ (fun b hb => ?_)
    (F.keeps up) (N.grown up) (Nat.ne_of_lt F.ns.lt) (next_is_new F) (fun p hp => Nat.ne_of_lt (Heap.lt_size (N p hp).1)) S (R _) ?_
  · show b < (s₁.heap.push _).objs.size
    rw [Heap.size_push]
    rcases List.mem_cons.mp hb with rfl | hb
    · exact Nat.lt_succ_self _
    · rw [List.mem_singleton.mp hb]; exact Nat.lt_succ_of_lt hlt
  · intro D C h tk m' ys news' F' N' o1 hn hC₀ hD₀ hCL hDL hCD offC fin
    refine ⟨m', hn, fun h'' hs'' => fin D h'' tk (F'.change hs'' hCL hC₀) (fun p hp => ?_) o1⟩
    refine ⟨hs''.extBut _ _ ?_ (N' p hp).1, (N' p hp).2⟩
    rcases List.mem_cons.mp hp with rfl | hp
    · exact Ne.symm hCD
    · exact offC p hp
end
end Mine
end
section
open PySem PySem.W PyProof.Rows PySem.Calls
open PySem.Flt
namespace Mine
variable {prog : Program} {w : World} {p : Program} {loose : List Str} {mean : ExcName → Option Value} {mg mb : Str → Option Value}
  {dp un : Nat} {gd : Option (List Code)} {cn : Str} {cs : Scope} {a : Addr} {ccd : Value} {cl : List (Str × Addr)} {outer : List Env} {A₀ : Around} {base h₀ : Heap} {L : Addr} {m : Str → Option Value} {s : Shared} {Q E : Value → Shared → Prop} {news : List (Addr × Obj)}

theorem max3 {A : Around} {a b c : Value} (hh : A.handled = none) (ha : NumV a) (hb : NumV b) (hc : NumV c) (h1 : ltV a b = false) (h2 : ltV a c = false) (F : Fr h₀ L s.heap m) (N : News h₀ L s.heap news)
    (h : ∀ h' tk, Fr h₀ L h' m → News h₀ L h' news → Q a { s with heap := h', toks := tk }) :
    wpAny (model prog w) A (call (.builtin "max") [a, b, c]) Q E s := by
  have hT : (s.heap.push { cls := .type "tuple", data := .seq #[a, b, c] }).IsTuple s.heap.objs.size #[a, b, c] := ⟨_, Heap.get?_push_size _ rfl, rfl, 0, rfl⟩
  refine call_max_three (wpAny_pyIter_tuple hT ?_)
  have hsz : (s.heap.push { cls := .type "tuple", data := .seq #[a, b, c] }).objs.size = s.heap.objs.size + 1 := Heap.size_push ..
  refine ⟨_, [_, s.heap.objs.size], [_], _, _, _, _, rfl, Walks.tuple (A := A.in1) hh _ s.heap.objs.size (by rw [hsz]; exact Nat.ne_of_lt (Nat.lt_succ_self _)) #[a, b, c],
    ⟨⟨_, Heap.get?_push_size _ rfl, rfl, rfl⟩, hT.push _⟩, fun d hd => ?_, by simp, cmpOf_gt #[a, b, c] (by simp [ha, hb, hc]), fun v h' tk hP hk => ?_⟩
  · show d < ((s.heap.push _).push _).objs.size
    rw [Heap.size_push, hsz]
    rcases List.mem_cons.mp hd with rfl | hd
    · rw [hsz]; exact Nat.lt_succ_self _
    · rcases List.mem_cons.mp hd with rfl | hd
      · exact Nat.lt_succ_of_lt (Nat.lt_succ_self _)
      · cases hd
  · have hold : ∀ d o, s.heap.get? d = some o → h'.get? d = some o := fun d o e => by
      refine hk d o (fun hm => ?_) (Heap.get?_push_of_some _ (Heap.get?_push_of_some _ e))
      rcases List.mem_cons.mp hm with e1 | hm
      · have := Heap.lt_size e; rw [e1, hsz] at this; exact Nat.lt_irrefl _ (Nat.lt_of_succ_lt this)
      · cases hm
    have hv : v = a := by
      simp [argBest, h1, h2] at hP
      exact hP.symm
    rw [hv]
    exact h h' tk (F.grownK hold) (N.grown hold)
theorem min3 {A : Around} {a b c : Value} (hh : A.handled = none) (ha : NumV a) (hb : NumV b) (hc : NumV c) (h1 : ltV c b = true) (h2 : ltV c a = true) (F : Fr h₀ L s.heap m) (N : News h₀ L s.heap news)
    (h : ∀ h' tk, Fr h₀ L h' m → News h₀ L h' news → Q c { s with heap := h', toks := tk }) :
    wpAny (model prog w) A (call (.builtin "min") [a, b, c]) Q E s := by
  have hT : (s.heap.push { cls := .type "tuple", data := .seq #[a, b, c] }).IsTuple s.heap.objs.size #[a, b, c] := ⟨_, Heap.get?_push_size _ rfl, rfl, 0, rfl⟩
  refine call_min_three (wpAny_pyIter_tuple hT ?_)
  have hsz : (s.heap.push { cls := .type "tuple", data := .seq #[a, b, c] }).objs.size = s.heap.objs.size + 1 := Heap.size_push ..
  refine ⟨_, [_, s.heap.objs.size], [_], _, _, _, _, rfl, Walks.tuple (A := A.in1) hh _ s.heap.objs.size (by rw [hsz]; exact Nat.ne_of_lt (Nat.lt_succ_self _)) #[a, b, c],
    ⟨⟨_, Heap.get?_push_size _ rfl, rfl, rfl⟩, hT.push _⟩, fun d hd => ?_, by simp, cmpOf_lt #[a, b, c] (by simp [ha, hb, hc]), fun v h' tk hP hk => ?_⟩
  · show d < ((s.heap.push _).push _).objs.size
    rw [Heap.size_push, hsz]
    rcases List.mem_cons.mp hd with rfl | hd
    · rw [hsz]; exact Nat.lt_succ_self _
    · rcases List.mem_cons.mp hd with rfl | hd
      · exact Nat.lt_succ_of_lt (Nat.lt_succ_self _)
      · cases hd
  · have hold : ∀ d o, s.heap.get? d = some o → h'.get? d = some o := fun d o e => by
      refine hk d o (fun hm => ?_) (Heap.get?_push_of_some _ (Heap.get?_push_of_some _ e))
      rcases List.mem_cons.mp hm with e1 | hm
      · have := Heap.lt_size e; rw [e1, hsz] at this; exact Nat.lt_irrefl _ (Nat.lt_of_succ_lt this)
      · cases hm
    have hv : v = c := by
      cases hk1 : ltV b a <;> simp [argBest, hk1, h1, h2] at hP <;> exact hP.symm
    rw [hv]
    exact h h' tk (F.grownK hold) (N.grown hold)
local macro_rules | `(tactic| walk_at "call builtin:max") => `(tactic| ((rename News _ _ _ _ => N'); (rename Fr _ _ _ _ => F'); (with_reducible show wpAny _ _ (call _ [Value.float _ _, Value.float _ _, Value.float _ _]) _ _ _); refine max3 rfl (.float _ _) (.float _ _) (.float _ _) (by assumption) (by assumption) F' N' ?_; intro _ _ _ _))
local macro_rules | `(tactic| walk_at "call builtin:min") => `(tactic| ((rename News _ _ _ _ => N'); (rename Fr _ _ _ _ => F'); (with_reducible show wpAny _ _ (call _ [Value.float _ _, Value.float _ _, Value.float _ _]) _ _ _); refine min3 rfl (.float _ _) (.float _ _) (.float _ _) (by assumption) (by assumption) F' N' ?_; intro _ _ _ _))
noncomputable def hueF (r g : UInt64) : UInt64 :=
  (Float64.divmod (Float64.div (Float64.sub (Float64.div (Float64.sub r 0) (Float64.sub r 0)) (Float64.div (Float64.sub r g) (Float64.sub r 0))) 4618441417868443648) 4607182418800017408).snd
structure HueOk (r g : UInt64) : Prop where
  rg : (Float64.cmp r g == some .lt) = false
  r0 : (Float64.cmp r 0 == some .lt) = false
  g0 : (Float64.cmp 0 g == some .lt) = true
  lt : (Float64.cmp 0 r == some .lt) = true
  ne : (Float64.cmp 0 r == some .eq) = false
  z : Float64.isZero r = false
  zs : Float64.isZero (Float64.sub r 0) = false
  rr : (Float64.cmp r r == some .eq) = true
set_option maxHeartbeats 4000000 in
theorem hsv (B : Below A₀ base outer h₀) (F : Fr h₀ L s.heap m) (X : (KK w.params).In h₀) (N : News h₀ L s.heap news) (T : Top p loose mean mg mb h₀) (hk : cs.kind = .function) (hdp : dp + 3 < recursionLimit) (hu : un + 24 < cLine)
  (r g : UInt64) (t1 t2 t3 : Tok) (hok : HueOk r g)
  (ret : ∀ (c : Addr) (x : UInt64) (u1 u2 u3 : Tok) (h' : Heap) (tk' : Nat), Fr h₀ L h' m → News h₀ L h' ((c, tup [Value.float (hueF r g) u1, Value.float x u2, Value.float r u3]) :: news) → (∀ p ∈ news, p.1 < c) → Q (.ref c) {s with heap := h', toks := tk'}) :
  wpAny (model prog w) (ktrTop dp un gd cn cs L a ccd cl outer) (call (.ref 35) [.float r t1, .float g t2, .float 0 t3]) Q E s := by
  have hrg : ltV (.float r t1) (.float g t2) = false := hok.rg
  have hr0 : ltV (.float r t1) (.float 0 t3) = false := hok.r0
  have h0g : ltV (.float 0 t3) (.float g t2) = true := hok.g0
  have h0r : ltV (.float 0 t3) (.float r t1) = true := hok.lt
  have e1 := hok.ne
  have e2 := hok.rr
  have e3 := hok.zs
  refine wpAny_call ?_
  k_dflt cell_enter
  k_steps
  all_goals (try (exfalso; simp_all; done))
  exact ret _ _ _ _ _ _ _ (by assumption) (by assumption) (by assumption)
end Mine
end
section
open PySem PySem.W PyProof.Rows PySem.Calls
open PySem.Flt
namespace Mine
variable {prog : Program} {w : World} {p : Program} {loose : List Str} {mean : ExcName → Option Value} {mg mb : Str → Option Value}
  {dp un : Nat} {gd : Option (List Code)} {cn : Str} {cs : Scope} {a : Addr} {ccd : Value} {cl : List (Str × Addr)} {outer : List Env} {A₀ : Around} {base h₀ : Heap} {L : Addr} {m : Str → Option Value} {s : Shared} {Q E : Value → Shared → Prop} {news : List (Addr × Obj)}
local macro_rules | `(tactic| walk_at $_:str) => `(tactic| (k_here; first | dsimp only | k_gentoks))
local macro_rules | `(tactic| walk_at "CutQ") => `(tactic| (unfold CutQ; with_reducible conv => whnf))
local macro_rules | `(tactic| walk_at "execs cons") => `(tactic| (k_here; (try dsimp only); (try k_gentoks); (with_reducible rename Fr _ _ _ _ => lF'); (with_reducible refine execs_let lF' ?_); clear lF'; intro m' F' Q'; (try dsimp only)))

local macro_rules | `(tactic| walk_at "call ref") => `(tactic| (k_here; (with_reducible show wpAny _ _ (call (Value.ref 35) _) _ _ _); k_dflt (refine' hsv ?k1 ?k2 ?k3 ?k4 ?k5 ?k6 ?k7 ?k8 _ _ _ _ _ ?a1 ?_; (case k1 => k_asm); (case k2 => k_asm); (case k3 => k_asm); (case k4 => k_asm); (case k5 => k_asm); (case k6 => first | exact rfl | assumption); (case k7 => ((try dsimp +zetaDelta only [ktrTop, Around.deeper]); omega)); (case k8 => ((try dsimp +zetaDelta only [ktrTop, Around.deeper]); omega)); (case a1 => assumption)); intro c9 x9 t9 u9 v9 h9 tk9 F9 N9 l9; (try k_lt l9); (try dsimp only)))
local macro_rules | `(tactic| walk_at "exec While Constant cons nil") => `(tactic| (k_here; (try dsimp only); refine Hold.out ?_))
local macro_rules | `(tactic| walk_at "WhileStep2") => `(tactic| ((try dsimp only); refine Hold.out ?_))
noncomputable def flF (u : Int) : UInt64 := Float64.ofFrac (decide (u < 0) != decide ((8192 : Int) < 0)) u.natAbs (Int.natAbs 8192)
local macro_rules | `(tactic| k_all) => `(tactic| assumption)
local macro_rules | `(tactic| walk_at "eval ListComp") => `(tactic| (k_here; k_dflt (refine ListComp_tup (F₀ := by k_asm) (by with_unfolding_all rfl) (by decide) (by rfl) (by decide) (by rfl) ?_)))
local macro_rules | `(tactic| walk_at "CompEnd") => `(tactic| ((try dsimp only); k_dflt (refine LCg.CompEnd.intro (by assumption) (by assumption) _ (fun p hp => hp) (by first | assumption | (simp only [LCg.Off3, and_true]; assumption)) (by k_mem) ?_)))
local macro_rules | `(tactic| walk_at "exec Assign cons Call") => `(tactic| (k_here; (try dsimp only); refine Hold.out ?_))
local macro_rules | `(tactic| walk_at "CutTo") => `(tactic| ((try dsimp only); refine Hold.out ?_))
local macro_rules | `(tactic| walk_at "CompTup") => `(tactic| (k_here; k_dflt (refine CompTup.of (n := 2) (by rfl) (by k_asm) (by k_asm) (by k_mem) (by rfl) (by exact Nat.le_of_ble_eq_true rfl) ?_; intro g')))
theorem cut {α : Type} {M : Model} {A : Around} {t : Sem α} {R Q : α → Shared → Prop} {E : Value → Shared → Prop} {s : Shared} (h : wpAny M A t R E s) (k : ∀ a s', R a s' → Q a s') : wpAny M A t Q E s := wpAny_mono h k fun _ _ e => e
noncomputable def CutTo (g : Heap) (L : Addr) (news : List (Addr × Obj)) (m : PySem.Str → Option Value) (x : PySem.Str) (W : Int) (s : Shared) (fl : Flow) (s' : Shared) : Prop :=
  ∃ (h' : Heap) (tk : Nat) (t : Tok), fl = .next ∧ s' = { s with heap := h', toks := tk } ∧ Fr g L h' (fun y => if y = x then some (.int W t) else m y) ∧ News g L h' news
theorem CutTo.mk {g h' : Heap} {L : Addr} {news news' : List (Addr × Obj)} {m : PySem.Str → Option Value} {x : PySem.Str} {W W' : Int} {s : Shared} {tk : Nat} {t : Tok} (F : Fr g L h' (fun y => if y = x then some (.int W' t) else m y)) (N : News g L h' news') (hW : W' = W) (hs : ∀ p ∈ news, p ∈ news') :
    CutTo g L news m x W s .next { s with heap := h', toks := tk } := ⟨h', tk, t, rfl, rfl, hW ▸ F, cb_drop N hs⟩
theorem cutTo {M : Model} {A : Around} {g : Heap} {L : Addr} {m : PySem.Str → Option Value} {news : List (Addr × Obj)} {t : Sem Flow} {Q : Flow → Shared → Prop} {E : Value → Shared → Prop} {s : Shared} (F : Fr g L s.heap m) (N : News g L s.heap news) (x : PySem.Str) (W : Int)
    (h : wpAny M A t (CutTo g L news m x W s) E s) (k : ∀ h' tk u, Fr g L h' (fun y => if y = x then some (.int W u) else m y) → News g L h' news → Q .next { s with heap := h', toks := tk }) : wpAny M A t Q E s :=
  cut h fun fl s' ⟨h', tk, u, e1, e2, F', N'⟩ => by subst e1 e2; exact k h' tk u F' N'
structure LadV where
  a1 : Int
  b1 : Int
  s1 : Int
  w1 : Int
  a2 : Int
  b2 : Int
  s2 : Int
  w2 : Int
noncomputable def hueOkB (r g : UInt64) : Bool := !(Float64.cmp r g == some .lt) && !(Float64.cmp r 0 == some .lt) && (Float64.cmp 0 g == some .lt) && (Float64.cmp 0 r == some .lt) && !(Float64.cmp 0 r == some .eq) && !(Float64.isZero r) && !(Float64.isZero (Float64.sub r 0)) && (Float64.cmp r r == some .eq)
theorem hueOk_of {r g : UInt64} (h : hueOkB r g = true) : HueOk r g := by
  simp only [hueOkB, Bool.and_eq_true, Bool.not_eq_true'] at h
  obtain ⟨⟨⟨⟨⟨⟨⟨h1, h2⟩, h3⟩, h4⟩, h5⟩, h6⟩, h7⟩, h8⟩ := h
  exact ⟨h1, h2, h3, h4, h5, h6, h7, h8⟩
noncomputable def ladF : Nat → UInt64 → LadV → Option (Int × Int)
  | 0, _, _ => none
  | n + 1, gl, v =>
    if Float64.isInf (Float64.ofFrac (decide (v.a1 + v.a2 < 0) != decide ((8192 : Int) < 0)) (v.a1 + v.a2).natAbs (Int.natAbs 8192)) = false ∧ Float64.isInf (Float64.ofFrac (decide (v.b1 + v.b2 < 0) != decide ((8192 : Int) < 0)) (v.b1 + v.b2).natAbs (Int.natAbs 8192)) = false ∧ hueOkB (Float64.ofFrac (decide (v.a1 + v.a2 < 0) != decide ((8192 : Int) < 0)) (v.a1 + v.a2).natAbs (Int.natAbs 8192)) (Float64.ofFrac (decide (v.b1 + v.b2 < 0) != decide ((8192 : Int) < 0)) (v.b1 + v.b2).natAbs (Int.natAbs 8192)) = true then
      if (Float64.cmp (hueF (Float64.ofFrac (decide (v.a1 + v.a2 < 0) != decide ((8192 : Int) < 0)) (v.a1 + v.a2).natAbs (Int.natAbs 8192)) (Float64.ofFrac (decide (v.b1 + v.b2 < 0) != decide ((8192 : Int) < 0)) (v.b1 + v.b2).natAbs (Int.natAbs 8192))) gl == some .eq) = true then some (1 + (if v.s2 < v.s1 then v.s2 else v.s1), (if v.s1 < 1 + (if v.s2 < v.s1 then v.s2 else v.s1) then v.w1 else 0) + (if v.s2 < 1 + (if v.s2 < v.s1 then v.s2 else v.s1) then v.w2 else 0))
      else if (Float64.cmp (hueF (Float64.ofFrac (decide (v.a1 + v.a2 < 0) != decide ((8192 : Int) < 0)) (v.a1 + v.a2).natAbs (Int.natAbs 8192)) (Float64.ofFrac (decide (v.b1 + v.b2 < 0) != decide ((8192 : Int) < 0)) (v.b1 + v.b2).natAbs (Int.natAbs 8192))) gl == some .lt) = true then ladF n gl ⟨v.a1, v.b1, v.s1, v.w1, v.a1 + v.a2, v.b1 + v.b2, 1 + (if v.s2 < v.s1 then v.s2 else v.s1), (if v.s1 < 1 + (if v.s2 < v.s1 then v.s2 else v.s1) then v.w1 else 0) + (if v.s2 < 1 + (if v.s2 < v.s1 then v.s2 else v.s1) then v.w2 else 0)⟩
      else ladF n gl ⟨v.a1 + v.a2, v.b1 + v.b2, 1 + (if v.s2 < v.s1 then v.s2 else v.s1), (if v.s1 < 1 + (if v.s2 < v.s1 then v.s2 else v.s1) then v.w1 else 0) + (if v.s2 < 1 + (if v.s2 < v.s1 then v.s2 else v.s1) then v.w2 else 0), v.a2, v.b2, v.s2, v.w2⟩
    else none
theorem lad_succ {n : Nat} {gl : UInt64} {v : LadV} {res : Int × Int} (h : ladF (n + 1) gl v = some res) :
    Float64.isInf (Float64.ofFrac (decide (v.a1 + v.a2 < 0) != decide ((8192 : Int) < 0)) (v.a1 + v.a2).natAbs (Int.natAbs 8192)) = false ∧ Float64.isInf (Float64.ofFrac (decide (v.b1 + v.b2 < 0) != decide ((8192 : Int) < 0)) (v.b1 + v.b2).natAbs (Int.natAbs 8192)) = false ∧ HueOk (Float64.ofFrac (decide (v.a1 + v.a2 < 0) != decide ((8192 : Int) < 0)) (v.a1 + v.a2).natAbs (Int.natAbs 8192)) (Float64.ofFrac (decide (v.b1 + v.b2 < 0) != decide ((8192 : Int) < 0)) (v.b1 + v.b2).natAbs (Int.natAbs 8192)) ∧
    ((Float64.cmp (hueF (Float64.ofFrac (decide (v.a1 + v.a2 < 0) != decide ((8192 : Int) < 0)) (v.a1 + v.a2).natAbs (Int.natAbs 8192)) (Float64.ofFrac (decide (v.b1 + v.b2 < 0) != decide ((8192 : Int) < 0)) (v.b1 + v.b2).natAbs (Int.natAbs 8192))) gl == some .eq) = true → res = (1 + (if v.s2 < v.s1 then v.s2 else v.s1), (if v.s1 < 1 + (if v.s2 < v.s1 then v.s2 else v.s1) then v.w1 else 0) + (if v.s2 < 1 + (if v.s2 < v.s1 then v.s2 else v.s1) then v.w2 else 0))) ∧
    ((Float64.cmp (hueF (Float64.ofFrac (decide (v.a1 + v.a2 < 0) != decide ((8192 : Int) < 0)) (v.a1 + v.a2).natAbs (Int.natAbs 8192)) (Float64.ofFrac (decide (v.b1 + v.b2 < 0) != decide ((8192 : Int) < 0)) (v.b1 + v.b2).natAbs (Int.natAbs 8192))) gl == some .eq) = false → (Float64.cmp (hueF (Float64.ofFrac (decide (v.a1 + v.a2 < 0) != decide ((8192 : Int) < 0)) (v.a1 + v.a2).natAbs (Int.natAbs 8192)) (Float64.ofFrac (decide (v.b1 + v.b2 < 0) != decide ((8192 : Int) < 0)) (v.b1 + v.b2).natAbs (Int.natAbs 8192))) gl == some .lt) = true → ladF n gl ⟨v.a1, v.b1, v.s1, v.w1, v.a1 + v.a2, v.b1 + v.b2, 1 + (if v.s2 < v.s1 then v.s2 else v.s1), (if v.s1 < 1 + (if v.s2 < v.s1 then v.s2 else v.s1) then v.w1 else 0) + (if v.s2 < 1 + (if v.s2 < v.s1 then v.s2 else v.s1) then v.w2 else 0)⟩ = some res) ∧
    ((Float64.cmp (hueF (Float64.ofFrac (decide (v.a1 + v.a2 < 0) != decide ((8192 : Int) < 0)) (v.a1 + v.a2).natAbs (Int.natAbs 8192)) (Float64.ofFrac (decide (v.b1 + v.b2 < 0) != decide ((8192 : Int) < 0)) (v.b1 + v.b2).natAbs (Int.natAbs 8192))) gl == some .eq) = false → (Float64.cmp (hueF (Float64.ofFrac (decide (v.a1 + v.a2 < 0) != decide ((8192 : Int) < 0)) (v.a1 + v.a2).natAbs (Int.natAbs 8192)) (Float64.ofFrac (decide (v.b1 + v.b2 < 0) != decide ((8192 : Int) < 0)) (v.b1 + v.b2).natAbs (Int.natAbs 8192))) gl == some .lt) = false → ladF n gl ⟨v.a1 + v.a2, v.b1 + v.b2, 1 + (if v.s2 < v.s1 then v.s2 else v.s1), (if v.s1 < 1 + (if v.s2 < v.s1 then v.s2 else v.s1) then v.w1 else 0) + (if v.s2 < 1 + (if v.s2 < v.s1 then v.s2 else v.s1) then v.w2 else 0), v.a2, v.b2, v.s2, v.w2⟩ = some res) := by
  unfold ladF at h
  split at h
  · rename_i hc
    refine ⟨hc.1, hc.2.1, hueOk_of hc.2.2, fun e => ?_, fun e e' => ?_, fun e e' => ?_⟩
    · rw [if_pos e] at h; exact (Option.some.inj h).symm
    · rw [if_neg (by rw [e]; exact Bool.false_ne_true), if_pos e'] at h; exact h
    · rw [if_neg (by rw [e]; exact Bool.false_ne_true), if_neg (by rw [e']; exact Bool.false_ne_true)] at h; exact h
  · cases h
noncomputable def LadJ (lc : Addr) (gl : UInt64) (news : List (Addr × Obj)) (res : Int × Int) (n : Nat) (m₁ : PySem.Str → Option Value) (news₁ : List (Addr × Obj)) : Prop :=
  ∃ (v : LadV) (tg t1 t2 t3 t4 t5 t6 t7 t8 : Tok) (c1 c2 : Addr) (o : Obj) (v₀ : Option Value) (rest : PySem.Str → Option Value),
    m₁ = over [(Str.ofString "goal", Value.float gl tg), (Str.ofString "low", Value.ref c1), (Str.ofString "high", Value.ref c2)] rest ∧
    news₁ = (c1, tup [.int v.a1 t1, .int v.b1 t2, .int v.s1 t3, .int v.w1 t4]) :: (c2, tup [.int v.a2 t5, .int v.b2 t6, .int v.s2 t7, .int v.w2 t8]) :: (lc, o) :: news ∧ o.data = .cell v₀ ∧ @LT.lt Nat _ lc c1 ∧ @LT.lt Nat _ lc c2 ∧ ladF n gl v = some res
theorem lad_next {g h' : Heap} {L lc c1 c2 : Addr} {gl : UInt64} {v : LadV} {tg t1 t2 t3 t4 t5 t6 t7 t8 : Tok} {o : Obj} {v₀ : Option Value} {n tk : Nat} {all : List (Addr × Obj)} {m' : PySem.Str → Option Value} {res : Int × Int} {s : Shared} {Q : Flow → Shared → Prop}
    (F9 : Fr g L h' m') (N9 : News g L h' all) (hl : ladF n gl v = some res)
    (hR : Reads m' [(Str.ofString "goal", Value.float gl tg), (Str.ofString "low", Value.ref c1), (Str.ofString "high", Value.ref c2)])
    (h1 : (c1, tup [.int v.a1 t1, .int v.b1 t2, .int v.s1 t3, .int v.w1 t4]) ∈ all) (h2 : (c2, tup [.int v.a2 t5, .int v.b2 t6, .int v.s2 t7, .int v.w2 t8]) ∈ all) (h3 : (lc, o) ∈ all) (h4 : ∀ p ∈ news, p ∈ all)
    (ho : o.data = .cell v₀) (k1 : @LT.lt Nat _ lc c1) (k2 : @LT.lt Nat _ lc c2) :
    WhileStep2 g L s (LadJ lc gl news res) Q (n + 1) .next { s with heap := h', toks := tk } :=
  ⟨_, _, _, (c1, tup [.int v.a1 t1, .int v.b1 t2, .int v.s1 t3, .int v.w1 t4]) :: (c2, tup [.int v.a2 t5, .int v.b2 t6, .int v.s2 t7, .int v.w2 t8]) :: (lc, o) :: news, n, rfl, F9, cb_drop N9 (List.forall_mem_cons.mpr ⟨h1, List.forall_mem_cons.mpr ⟨h2, List.forall_mem_cons.mpr ⟨h3, h4⟩⟩⟩), Nat.lt_succ_self n,
    v, tg, t1, t2, t3, t4, t5, t6, t7, t8, c1, c2, o, v₀, m', over_self hR, rfl, ho, k1, k2, hl⟩
theorem lad_start {g h : Heap} {L D c1 c2 c9 lc : Addr} {od x1 x2 o9 o : Obj} (N1 : News g L h ((D, od) :: (c2, x2) :: (c1, x1) :: (c9, o9) :: (lc, o) :: news)) : News g L h ((c1, x1) :: (c2, x2) :: (lc, o) :: news) := by
  refine cb_drop N1 ?_
  intro p hp
  simp only [List.mem_cons] at hp ⊢
  rcases hp with hp | hp | hp | hp
  · exact .inr (.inr (.inl hp))
  · exact .inr (.inl hp)
  · exact .inr (.inr (.inr (.inr (.inl hp))))
  · exact .inr (.inr (.inr (.inr (.inr hp))))
theorem ne_succ {L : Addr} (h : ∀ p ∈ news, p.1 < L) : ∀ p ∈ news, p.1 ≠ L + 1 := fun p hp => Nat.ne_of_lt (Nat.lt_succ_of_lt (h p hp))
set_option maxHeartbeats 4000000 in
theorem ladder (B : Below A₀ base outer h₀) (F : Fr h₀ L s.heap m) (X : (KK w.params).In h₀) (N : News h₀ L s.heap news) (T : Top p loose mean mg mb h₀) (hk : cs.kind = .function) (hdp : dp + 5 < recursionLimit) (hu : un + 40 < cLine)
  (u l : Int) (t1 t2 : Tok) (hiu : Float64.isInf (Float64.ofFrac (decide (u < 0) != decide ((8192 : Int) < 0)) u.natAbs (Int.natAbs 8192)) = false) (hil : Float64.isInf (Float64.ofFrac (decide (l < 0) != decide ((8192 : Int) < 0)) l.natAbs (Int.natAbs 8192)) = false) (hok : HueOk (Float64.ofFrac (decide (u < 0) != decide ((8192 : Int) < 0)) u.natAbs (Int.natAbs 8192)) (Float64.ofFrac (decide (l < 0) != decide ((8192 : Int) < 0)) l.natAbs (Int.natAbs 8192)))
  (n₀ : Nat) (res : Int × Int) (hres : ladF n₀ (hueF (Float64.ofFrac (decide (u < 0) != decide ((8192 : Int) < 0)) (u).natAbs (Int.natAbs 8192)) (Float64.ofFrac (decide (l < 0) != decide ((8192 : Int) < 0)) (l).natAbs (Int.natAbs 8192))) ⟨0, 1, 1, 1, 1, 0, 0, 1⟩ = some res)
  (ret : ∀ (c : Addr) (u1 u2 : Tok) (h' : Heap) (tk' : Nat), Fr h₀ L h' m → News h₀ L h' ((c, tup [Value.int res.1 u1, Value.int res.2 u2]) :: news) → (∀ p ∈ news, p.1 < c) → Q (.ref c) {s with heap := h', toks := tk'}) :
  wpAny (model prog w) (ktrTop dp un gd cn cs L a ccd cl outer) (call (.ref 117) [.int u t1, .int l t2]) Q E s := by
  refine wpAny_call ?_
  k_dflt (refine' code_defC ?k1 ?k2 ?k3 ?k4 ?k5 ?kA ?kF ?kK ?k6 ?k7 ?k8 ?k9 ?kB ?kD ?_ ?c2 ?c3 ?c4; (case kA => exact rfl); (case kF => exact rfl); (case kK => assumption); (case k1 => k_asm); (case k2 => k_asm); (case k3 => k_asm); (case k4 => k_asm); (case k5 => k_asm); (case k6 => k_is); (case k7 => k_is); (case k8 => ((try dsimp +zetaDelta only [ktrTop, Around.deeper]); omega)); (case k9 => exact BindsTo.of_eq rfl); (case kB => exact rfl); (case kD => decide +kernel); (case c2 => exact rfl); (case c3 => exact rfl); (case c4 => exact rfl); k_whole; intro g' L' h' tk' cells' FG' F' N' Y' B' X' T' l1; (try k_lt l1); k_cells Y'; (try simp only [List.cons_append, List.nil_append] at N'); (try dsimp only); (try k_lift B'); (try k_fold))
  show let A' : Around := _; let env' : Env := _; wpAny _ A' (execs _ env') _ _ _
  intro A' env'
  k_steps
  refine ⟨?_⟩
  rename Fr _ _ _ _ => F1
  rename News _ _ _ _ => N1
  rename (∀ _ ∈ _, _ < _) => l1
  have N3 := lad_start N1
  have hne := ne_succ l1
  refine While_inv2 (J := LadJ _ _ news res) (n₀ := n₀) F1 N3 ⟨⟨0, 1, 1, 1, 1, 0, 0, 1⟩, _, _, _, _, _, _, _, _, _, _, _, _, _, _, over_self ⟨rfl, rfl, rfl, trivial⟩, rfl, by assumption, ltN (by omega), ltN (by omega), hres⟩ ?_
  rintro n m₁ news₁ h₁ tk₁ F2 N2 ⟨⟨a1, b1, s1, w1, a2, b2, s2, w2⟩, tg, t1, t2, t3, t4, t5, t6, t7, t8, c1, c2, o, v₀, rest, rfl, rfl, ho, hc1, hc2, hlad⟩
  simp only [over] at F2
  dsimp only [tup] at N2
  clear F1 N1 N3 l1
  cases n with
  | zero => cases hlad
  | succ n =>
  obtain ⟨hia, hib, hokl, hk1, hk2, hk3⟩ := lad_succ hlad
  clear hlad
  dsimp only at hia hib hokl hk1 hk2 hk3
  k_steps
  refine ⟨?_⟩
  rename Fr _ _ _ _ => F3
  rename News _ _ _ _ => N3
  refine cutTo F3 N3 (Str.ofString "ways") ((if s1 < 1 + (if s2 < s1 then s2 else s1) then w1 else 0) + (if s2 < 1 + (if s2 < s1 then s2 else s1) then w2 else 0)) ?_ ?_
  · have F4 := F3
    have N4 := N3
    clear F3 N3
    refine wpAny_Assign_Name ?_
    k_steps
    all_goals (refine ⟨?_⟩)
    all_goals (refine CutTo.mk (by assumption) (by assumption) ?_ (by repeat (first | with_reducible exact sub_refl | with_reducible refine sub_keep ?_ | with_reducible refine sub_skip ?_)))
    · rw [if_pos (by assumption), if_pos (by assumption), Int.add_zero]
    · rw [if_pos (by assumption), if_neg (by assumption)]
    · rw [if_neg (by assumption), if_pos (by assumption), Int.add_zero, Int.zero_add]
    · rw [if_neg (by assumption), if_neg (by assumption)]; rfl
  clear F3 N3
  intro h5 tk5 u5 F5 N5
  k_steps
  · refine ⟨?_⟩
    dsimp only [WhileStep2]
    k_steps
    have e := hk1 (by assumption)
    subst e
    rename News h₀ L _ _ => kN
    refine ret _ _ _ _ _ (by assumption) (cb_drop kN (by repeat (first | with_reducible exact sub_refl | with_reducible refine sub_keep ?_ | with_reducible refine sub_skip ?_))) (allLt_to ?_)
    simp_all only [AllLt]
  · refine ⟨?_⟩
    rename Fr _ _ _ _ => F9
    rename News _ _ _ _ => N9
    exact lad_next F9 N9 (hk2 (by assumption) (by assumption)) ⟨rfl, rfl, rfl, trivial⟩ (by k_mem) (by k_mem) (by k_mem) (by intro p hp; repeat (first | exact hp | apply List.mem_cons_of_mem)) (by assumption) (ltN (by omega)) (ltN (by omega))
  · refine ⟨?_⟩
    rename Fr _ _ _ _ => F9
    rename News _ _ _ _ => N9
    exact lad_next F9 N9 (hk3 (by assumption) (by assumption)) ⟨rfl, rfl, rfl, trivial⟩ (by k_mem) (by k_mem) (by k_mem) (by intro p hp; repeat (first | exact hp | apply List.mem_cons_of_mem)) (by assumption) (ltN (by omega)) (ltN (by omega))
end Mine
end
section
open PySem PySem.W PyProof.Rows PySem.Calls
open PySem.Flt
namespace Mine
variable {prog : Program} {w : World} {p : Program} {loose : List Str} {mean : ExcName → Option Value} {mg mb : Str → Option Value}
  {dp un : Nat} {gd : Option (List Code)} {cn : Str} {cs : Scope} {a : Addr} {ccd : Value} {cl : List (Str × Addr)} {outer : List Env} {A₀ : Around} {base h₀ : Heap} {L : Addr} {m : Str → Option Value} {s : Shared} {Q E : Value → Shared → Prop} {news : List (Addr × Obj)}

local macro_rules | `(tactic| walk_at "RevRest") => `(tactic| ((try dsimp only); refine Hold.out ?_))
local macro_rules | `(tactic| walk_at "UnrEnd") => `(tactic| ((try dsimp only); refine Hold.out ?_))
noncomputable def fracF (rs : List Int) : Int × Int := rs.foldr (fun r p => (r * p.1 + p.2, p.1)) (1, 0)
/-- the same, from the list's end -/
noncomputable def fracV : List Value → Int × Int → Int × Int
  | .int r _ :: vs, p => fracV vs (r * p.1 + p.2, p.1)
  | _, p => p
theorem revRest_inv {A : Around} {E : Value → Shared → Prop} {env : Env} {x : PySem.Str} {body : List Stmt} {Q : Flow → Shared → Prop} {I : Addr} {lp : Addr × Obj} (J : List Value → (PySem.Str → Option Value) → List (Addr × Obj) → Prop)
    (fin : ∀ m n, J [] m n → ∀ h tk, Fr h₀ env.locals h m → News h₀ env.locals h n → Q .next { s with heap := h, toks := tk })
    (turn : ∀ v r m n, J (v :: r) m n → ∀ (it : Obj) h tk, it.cls = .type "list_reverseiterator" → Fr h₀ env.locals h (fun y => if y = x then some v else m y) → News h₀ env.locals h ((I, it) :: n) →
      wpAny (model prog w) A (execs body env) (UnrPost h₀ env.locals { s with heap := h, toks := tk } I it (fun m' n' => lp ∈ n' ∧ J r m' n') Q) E { s with heap := h, toks := tk }) :
    ∀ vs m n, J vs m n → RevRest prog w A E h₀ env x body Q s I lp vs m n
  | [], m, n, hJ => fin m n hJ
  | v :: r, m, n, hJ => fun it h tk hc F N => wpAny_mono (turn v r m n hJ it h tk hc F N) (fun f s' hq => by
      have ih := revRest_inv (lp := lp) J fin turn r
      have e : ∀ {s'}, UnrEnd h₀ env.locals { s with heap := h, toks := tk } I it (fun m' n' => lp ∈ n' ∧ J r m' n') s' → UnrEnd h₀ env.locals { s with heap := h, toks := tk } I it (fun m' n' => lp ∈ n' ∧ RevRest prog w A E h₀ env x body Q s I lp r m' n') s' :=
        fun ⟨h', t', m', n', e, F, N, o, hl, hj⟩ => ⟨h', t', m', n', e, F, N, o, hl, ih m' n' hj⟩
      cases f <;> first | exact hq | exact e hq) (fun _ _ h => h)
noncomputable def FracB (n : Nat) (u l : Int) : Prop := ∃ k, k + n = 7 ∧ 0 ≤ u ∧ u < 2 * 9 ^ k ∧ 0 ≤ l ∧ l < 2 * 9 ^ k
theorem FracB.six {n : Nat} {u l : Int} : FracB (n + 1) u l → (0 ≤ u ∧ u < 1062882) ∧ 0 ≤ l ∧ l < 1062882
  | ⟨k, hk, a, b, c, d⟩ => by
    have hp : (9 : Int) ^ k ≤ 9 ^ 6 := by
      have : (9 : Nat) ^ k ≤ 9 ^ 6 := Nat.pow_le_pow_right (by decide) (by omega)
      exact_mod_cast this
    have e : (9 : Int) ^ 6 = 531441 := by decide
    rw [e] at hp
    exact ⟨⟨a, by omega⟩, c, by omega⟩
theorem FracB.next {n : Nat} {u l x : Int} (h0 : 0 < x) (h1 : x < 8) : FracB (n + 1) u l → FracB n (x * u + l) u
  | ⟨k, hk, a, b, c, d⟩ => by
    have e : (9 : Int) ^ (k + 1) = 9 ^ k * 9 := Int.pow_succ 9 k
    have f : x * u ≤ 7 * u := Int.mul_le_mul_of_nonneg_right (by omega) a
    have g : 0 ≤ x * u := Int.mul_nonneg (Int.le_of_lt h0) a
    exact ⟨k + 1, by omega, by omega, by rw [e]; omega, a, by rw [e]; omega⟩
noncomputable def FracJ (lr d1 : Addr) (LO o1 : Obj) (res : Int × Int) (vs : List Value) (m₁ : PySem.Str → Option Value) (n₁ : List (Addr × Obj)) : Prop :=
  ∃ (u l : Int) (tu tl : Tok) (rest : PySem.Str → Option Value), m₁ = over [(Str.ofString "row", Value.ref lr), (Str.ofString "upper", Value.int u tu), (Str.ofString "lower", Value.int l tl)] rest ∧ (∀ p ∈ [(lr, LO), (d1, o1)], p ∈ n₁) ∧ (∀ v ∈ vs, ∃ r t, v = Value.int r t ∧ 0 < r ∧ r < 8) ∧ fracV vs (u, l) = res ∧ FracB vs.length u l
theorem frac_end {g h' : Heap} {L I lr d1 : Addr} {LO o1 it : Obj} {res : Int × Int} {r : List Value} {u l : Int} {tu tl : Tok} {m' : PySem.Str → Option Value} {all : List (Addr × Obj)} {tk : Nat} {s : Shared}
    (F : Fr g L h' m') (N : News g L h' all) (hR : Reads m' [(Str.ofString "row", Value.ref lr), (Str.ofString "upper", Value.int u tu), (Str.ofString "lower", Value.int l tl)]) (hi : (I, it) ∈ all) (h1 : (lr, LO) ∈ all) (h2 : (d1, o1) ∈ all) (n1 : @LT.lt Nat _ lr I) (n2 : @LT.lt Nat _ d1 I)
    (hv : ∀ v ∈ r, ∃ r t, v = Value.int r t ∧ 0 < r ∧ r < 8) (hf : fracV r (u, l) = res) (hb : FracB r.length u l) :
    UnrEnd g L s I it (fun m' n' => (lr, LO) ∈ n' ∧ FracJ lr d1 LO o1 res r m' n') { s with heap := h', toks := tk } :=
  UnrEnd.intro F N [(lr, LO), (d1, o1)] (List.forall_mem_cons.mpr ⟨hi, List.forall_mem_cons.mpr ⟨h1, List.forall_mem_cons.mpr ⟨h2, fun _ h => nomatch h⟩⟩⟩) (List.forall_mem_cons.mpr ⟨Nat.ne_of_lt n1, List.forall_mem_cons.mpr ⟨Nat.ne_of_lt n2, fun _ h => nomatch h⟩⟩)
    ⟨List.mem_cons_self, u, l, tu, tl, m', over_self hR, fun _ h => h, hv, hf, hb⟩
set_option maxHeartbeats 4000000 in
theorem fraction {lr d1 : Addr} {o1 : Obj} {r0 r1 r2 r3 r4 r5 r6 : Int} {u0 u1 u2 u3 u4 u5 u6 : Tok} {e : Nat} (B : Below A₀ base outer h₀) (F : Fr h₀ L s.heap m) (X : (KK w.params).In h₀) (N : News h₀ L s.heap ((lr, W.listOf [Value.int r0 u0, Value.int r1 u1, Value.int r2 u2, Value.int r3 u3, Value.int r4 u4, Value.int r5 u5, Value.int r6 u6].toArray e) :: [(d1, o1)])) (T : Top p loose mean mg mb h₀) (hk : cs.kind = .function) (hdp : dp + 3 < recursionLimit) (hu : un + 24 < cLine)
  (hne : @LT.lt Nat _ d1 lr)
  (b0 : 0 < r0 ∧ r0 < 8) (b1 : 0 < r1 ∧ r1 < 8) (b2 : 0 < r2 ∧ r2 < 8) (b3 : 0 < r3 ∧ r3 < 8) (b4 : 0 < r4 ∧ r4 < 8) (b5 : 0 < r5 ∧ r5 < 8) (b6 : 0 < r6 ∧ r6 < 8)
  (ret : ∀ (c : Addr) (v1 v2 : Tok) (h' : Heap) (tk' : Nat), Fr h₀ L h' m → News h₀ L h' [(c, tup [Value.int (fracF [r0, r1, r2, r3, r4, r5, r6]).1 v1, Value.int (fracF [r0, r1, r2, r3, r4, r5, r6]).2 v2]), (lr, W.listOf [Value.int r0 u0, Value.int r1 u1, Value.int r2 u2, Value.int r3 u3, Value.int r4 u4, Value.int r5 u5, Value.int r6 u6].toArray e), (d1, o1)] → @LT.lt Nat _ lr c → Q (.ref c) {s with heap := h', toks := tk'}) :
  wpAny (model prog w) (ktrTop dp un gd cn cs L a ccd cl outer) (call (.ref 98) [.ref lr]) Q E s := by
  refine wpAny_call ?_
  k_dflt cell_enter
  k_steps
  refine ⟨?_⟩
  rename Fr _ _ _ _ => F1
  rename News _ _ _ _ => N1
  refine revRest_inv (FracJ lr d1 _ o1 (fracF [r0, r1, r2, r3, r4, r5, r6])) ?_ ?_ _ _ _ ⟨1, 0, _, _, _, over_self ⟨rfl, rfl, rfl, trivial⟩, fun _ h => List.mem_cons_of_mem _ h, ?_, rfl, 0, rfl, by decide, by decide, by decide, by decide⟩
  · rintro m' n' ⟨u, l, tu, tl, rest, rfl, hn, _, hf, _⟩ h2 tk2 F2 N2
    simp only [over] at F2
    dsimp only [fracV] at hf
    replace N2 := cb_drop N2 hn
    clear F1 N1 hn
    dsimp only
    k_steps
    rw [← hf] at ret
    rename News h₀ L _ _ => kN
    exact ret _ _ _ _ _ (by assumption) kN (ltN (by omega))
  · rintro v r m' n' ⟨u, l, tu, tl, rest, rfl, hn, hv, hf, hb⟩ it h2 tk2 hit F2 N2
    obtain ⟨x, t, rfl, hx0, hx8⟩ := hv v List.mem_cons_self
    have hb2 := hb.next hx0 hx8
    obtain ⟨⟨hu0, hu1⟩, hl0, hl1⟩ := hb.six
    clear hb
    simp only [over] at F2
    dsimp only [fracV] at hf
    replace N2 := cb_drop N2 (List.forall_mem_cons.mpr ⟨List.mem_cons_self, fun p h => List.mem_cons_of_mem _ (hn p h)⟩)
    clear F1 N1 hn
    k_steps
    refine ⟨?_⟩
    rename Fr _ _ _ _ => F3
    rename News _ _ _ _ => N3
    exact frac_end F3 N3 ⟨rfl, rfl, rfl, trivial⟩ (by k_mem) (by k_mem) (by k_mem) (ltN (by omega)) (ltN (by omega)) (fun v h => hv v (List.mem_cons_of_mem _ h)) hf hb2
  · intro v hv
    simp only [List.mem_cons, List.not_mem_nil, or_false] at hv
    rcases hv with rfl | rfl | rfl | rfl | rfl | rfl | rfl <;> exact ⟨_, _, rfl, by assumption⟩
end Mine
end
section
open PySem PySem.W PyProof.Rows PySem.Calls
namespace Mine
open PySem.Builtin PySem.Builtin.ObjectAttr
theorem looks_fn {M : Model} {h : Heap} {f : Addr} {fo : Obj} (ho : h.get? f = some fo) (hc : fo.cls = .type "function") : Looks M h (typeOf (.ref f)) (.type "function") := hc ▸ (Looks.ld ho).andThen .now
theorem fn_setattr : typeLookup (.type "function") "__setattr__" = pure (some (.builtin "object.__setattr__")) := by rw [typeLookup_type, builtinLookup_eq_fast]; kernel_rfl
theorem fn_read : typeLookup (.type "function") "read" = pure none := by rw [typeLookup_type, builtinLookup_eq_fast]; kernel_rfl
theorem fn_isobj : isSubtype (.type "function") (.type "object") = pure true := by rw [isSubtype_type]; kernel_rfl
theorem fn_mro : mroOf (.type "function") = pure [.type "function", .type "object"] := by rw [mroOf_type]; kernel_rfl
section
variable {prog : Program} {w : World} {A : Around} {E : Value → Shared → Prop} {s : Shared} {h₀ : Heap} {L : Addr} {m : PySem.Str → Option Value} {news : List (Addr × Obj)} {Q : Unit → Shared → Prop}
theorem fn_refuse (f : Addr) {Q : Unit → Shared → Prop} {fo : Obj} (ho : s.heap.get? f = some fo) (hc : fo.cls = .type "function") (h : Q () s) : wpAny (model prog w) A (refuseIfOverridden (.ref f) "__setattr__") Q E s := by
  unfold refuseIfOverridden
  refine wpAny_bind ((looks_fn ho hc).here ?_)
  rw [fn_mro]
  refine wpAny_bind (wpAny_pure ?_)
  refine wpAny_bind (wpAny_of_eq (a := (some (), ())) (by kernel_rfl) ?_)
  exact wpAny_pure h
theorem set_fn {f : Addr} {fo : Obj} {fd : FuncData} {v : Value} {pre post : List (Addr × Obj)} (F : Fr h₀ L s.heap m) (N : News h₀ L s.heap (pre ++ (f, fo) :: post)) (h1 : ∀ p ∈ pre, p.1 ≠ f) (h2 : ∀ p ∈ post, p.1 ≠ f)
    (hc : fo.cls = .type "function") (hd : fo.dict = none) (hf : fo.data = .func fd)
    (h : ∀ d h' tk, Fr h₀ L h' m → News h₀ L h' ((d, dictOf [⟨PyData.keyHash w.params "read", .str "read" tk, v⟩] 1) :: (pre ++ (f, { fo with dict := some d }) :: post)) → (∀ p ∈ pre ++ (f, fo) :: post, p.1 < d) → Q () { s with heap := h', toks := tk + 1 }) :
    wpAny (model prog w) A (setAttr (.ref f) "read" v) Q E s := by
  have ho : s.heap.get? f = some fo := (N (f, fo) (by simp)).1
  have SF := PySem.F.store_object
  refine wpAny_bind (wpAny_mkText (wpAny_bind (wpAny_bind (wpAny_bind (looks_fn ho hc _ _ _ _ (fun _ _ e => e) ?_)))))
  rw [fn_setattr]
  refine wpAny_pure (wpAny_holding ?_)
  rw [SF.slot.bind]
  refine wpAny_bind (wpAny_pure (wpAny_bind (wpAny_call ?_)))
  have sub : Looks (model prog w) s.heap (isInstance (.ref f) (.type "object")) true := (looks_fn ho hc).andThen (Looks.of_pure fn_isobj)
  refine codeAny_call_builtin SF.slot.plain SF.entry (@check_slot (model prog w) _ _ { s with toks := s.toks + 1 } "object.__setattr__" "object" "__setattr__" (.ref f) [.str "read" s.toks, v] [] _ SF.kind SF.split sub (SF.args (.ref f) (.str "read" s.toks) v) ?_)
  simp only [List.cons_append, List.nil_append]
  rw [osa_eq]
  refine wpAny_bind (fn_refuse f ho hc ?_)
  refine wpAny_bind (looks_fn ho hc _ _ _ _ (fun _ _ e => e) ?_)
  rw [fn_read]
  refine wpAny_bind (wpAny_pure (wpAny_bind (wpAny_pure ?_)))
  obtain ⟨oc, od, oda, osl⟩ := fo
  dsimp only at hc hd hf
  subst hc hd hf
  refine wpAny_bind (wpAny_pure (wpAny_bind (wpAny_bind (wpAny_loadPart ho ?_))))
  show wpAny _ _ (alloc { cls := .type "dict", data := .dict #[] } >>= _) _ _ _
  refine wpAny_bind (wpAny_alloc ?_)
  have F1 := F.push { cls := .type "dict", data := .dict #[] }
  have N1 := News.push F N { cls := .type "dict", data := .dict #[] }
  have hfd : f ≠ s.heap.objs.size := Nat.ne_of_lt (Heap.lt_size ho)
  obtain ⟨F2, N2⟩ := news_upd (d := f) (pre := (s.heap.objs.size, { cls := .type "dict", data := .dict #[] }) :: pre) (post := post) (f := fun o => { o with dict := some s.heap.objs.size }) F1 N1 (fun p hp => by
    rcases List.mem_cons.mp hp with rfl | hp
    · exact Ne.symm hfd
    · exact h1 p hp) h2 rfl rfl
  have ho1 := Heap.get?_push_of_some { cls := .type "dict", data := .dict #[] } ho
  refine wpAny_bind (wpAny_update ho1 ?_)
  refine wpAny_pure (a := some s.heap.objs.size) (wpAny_bind (wpAny_pure (wpAny_bind ?_)))
  have e0 : Obj.putName "read" (PyData.keyHash w.params "read") (.str "read" (s.toks + 1)) v (dictOf [] 0) = dictOf [⟨PyData.keyHash w.params "read", .str "read" (s.toks + 1), v⟩] 1 := putName_dict _ _ _ _ [] 0
  obtain ⟨F3, N3⟩ := news_upd (d := s.heap.objs.size) (pre := []) (f := Obj.putName "read" (PyData.keyHash w.params "read") (.str "read" (s.toks + 1)) v) (o' := dictOf [⟨PyData.keyHash w.params "read", .str "read" (s.toks + 1), v⟩] 1) F2 N2 (fun p hp => nomatch hp) (fun p hp => by
    have hp : p ∈ pre ++ (f, { cls := .type "function", dict := some s.heap.objs.size, data := .func fd, slots := osl }) :: post := hp
    rcases List.mem_append.mp hp with hp | hp
    · exact Nat.ne_of_lt (Heap.lt_size (N p (List.mem_append_left _ hp)).1)
    · rcases List.mem_cons.mp hp with rfl | hp
      · exact hfd
      · exact Nat.ne_of_lt (Heap.lt_size (N p (List.mem_append_right _ (.tail _ hp))).1)) e0 rfl
  have D := (N2 (s.heap.objs.size, _) (List.mem_cons_self)).1
  have D' := (N3 (s.heap.objs.size, _) (List.mem_cons_self)).1
  unfold nsSet
  refine wpAny_bind (wpAny_bind (wpAny_askSetting (wpAny_pure (wpAny_bind (wpAny_mkText (wpAny_bind (wpAny_loadPart D ?_)))))))
  dsimp only
  refine wpAny_updatePart D ?_
  refine wpAny_bind (wpAny_lookBehind D' (pastItsLine_dict (by rw [sizeLine_eq]; exact Nat.le_of_ble_eq_true rfl)) ?_)
  exact wpAny_pure (wpAny_pure (wpAny_pure (h _ _ _ F3 N3 fun p hp => Heap.lt_size (N p hp).1)))
end
end Mine
end
section
open PySem PySem.W PyProof.Rows PySem.Calls
namespace Mine
theorem slice_at {x : PySem.Str} {k c : Nat} (hc : x.cps[k]? = some c) : Txt.slice x (some (k : Int)) (some ((k : Int) + 1)) = ⟨#[c]⟩ := by
  obtain ⟨hk, e⟩ := Array.getElem?_eq_some_iff.mp hc
  have hl : k < x.cps.toList.length := by simpa using hk
  rw [eq_of_beq (slice_closes (x := x) (i := (k : Int)) (j := (k : Int) + 1) ⟨by omega, by omega, by omega⟩)]
  rw [show ((k : Int) + 1 - (k : Int)).toNat = 1 by omega, Int.toNat_natCast, List.drop_eq_getElem_cons hl]
  simp [e]
theorem slice_past {x : PySem.Str} : Txt.slice x (some (x.cps.size : Int)) (some ((x.cps.size : Int) + 1)) = ⟨#[]⟩ := by
  have e : Builtin.Str.strSliceIndices (some (x.cps.size : Int)) (some ((x.cps.size : Int) + 1)) 1 x.length = [] := by
    unfold Builtin.Str.strSliceIndices sliceRange
    have hx : x.length = x.cps.size := rfl
    rw [hx]
    generalize x.cps.size = n
    rw [List.map_eq_nil_iff, List.range_eq_nil]
    simp only [show (1 : Int) > 0 from by decide, if_true, show ¬ ((n : Int) < 0) by omega, show ¬ ((n : Int) + 1 < 0) by omega, if_false]
    rw [if_neg (by omega)]
    rfl
  unfold Txt.slice
  rw [e]
  split
  · rename_i h
    have h0 : x.cps.size = 0 := by
      have : ([] : List Nat).length = x.length := by simpa using h
      exact this.symm
    obtain ⟨c⟩ := x
    have : c = #[] := Array.eq_empty_of_size_eq_zero h0
    subst this
    rfl
  · rfl
section
variable {prog : Program} {w : World} {A : Around} {E : Value → Shared → Prop} {s : Shared} {h₀ : Heap} {L : Addr} {m : PySem.Str → Option Value} {news : List (Addr × Obj)} {Q : Value → Shared → Prop} {value slice : PySem.Expr} {x y : PySem.Str} {t : Tok}
theorem slice_to {i j : Int} {ui uj : Tok} (hF : Fr h₀ L s.heap m) (hN : News h₀ L s.heap news) (hy : Txt.slice x (some i) (some j) = y) (hsz : x.length ≤ sizeLine) (h : ∀ h' t' k, Fr h₀ L h' m → News h₀ L h' news → Q (.str y t') { s with heap := h', toks := k })
    (hs : subscripted slice false (.str x t) (.ref s.heap.objs.size) = operate [.ref s.heap.objs.size, .str x t] (getItem (.str x t) (.ref s.heap.objs.size)) := by with_unfolding_all rfl)
    (ht : ∀ r, letTemporaryGo value (.str x t) r = pure () := by intro _; with_unfolding_all rfl) :
    wpAny (model prog w) A (subscriptTail value slice (.str x t) (.ref s.heap.objs.size)) Q E { s with heap := s.heap.push { cls := .type "slice", data := .fields #[.int i ui, .int j uj, .none] } } :=
  slice_strN_ss (hsz := hsz) hF hN (fun h' t' k a b => by rw [hy]; exact h h' t' k a b) hs ht
end
end Mine
end
section
open PySem PySem.W PyProof.Rows PySem.Calls
open PySem.Flt
namespace Mine
variable {prog : Program} {w : World} {p : Program} {loose : List Str} {mean : ExcName → Option Value} {mg mb : Str → Option Value}
  {dp un : Nat} {gd : Option (List Code)} {cn : Str} {cs : Scope} {a : Addr} {ccd : Value} {cl : List (Str × Addr)} {outer : List Env} {A₀ : Around} {base h₀ : Heap} {L : Addr} {m : Str → Option Value} {s : Shared} {Q E : Value → Shared → Prop} {news : List (Addr × Obj)}

local macro_rules | `(tactic| walk_at "setAttr ref") => `(tactic| (k_here; k_dflt (refine' set_fn (pre := []) ?F ?N (fun _ h => nomatch h) ?h2 ?c1 ?c2 ?c3 ?_; (case F => k_asm); (case N => k_asm); (case c1 => exact rfl); (case c2 => exact rfl); (case c3 => exact rfl); (case h2 => k_all)); intro d' h' tk' F' N' l1; (try simp only [List.nil_append] at N' l1); (try k_lt l1); (try k_sweep)))
local macro_rules | `(tactic| walk_at "my enter") => `(tactic| (refine' code_def ?k1 ?k2 ?k3 ?k4 ?k5 ?kA ?kF ?kK ?k6 ?k7 ?k8 ?k9 ?kB ?_ ?c2 ?c3 ?c4 ?c5; (case kA => exact rfl); (case kF => exact rfl); (case kK => first | exact rfl | assumption); (case k1 => k_asm); (case k2 => k_asm); (case k3 => k_asm); (case k4 => k_asm); (case k5 => k_asm); (case k6 => k_is); (case k7 => k_is); (case k8 => ((try simp only [depth_under_make, depth_under_kw, depth_in1, depth_deeper, depth_caller]); (try dsimp only [ktrTop, Around.deeper]); omega)); (case k9 => first | exact BindsTo.of_eq rfl | exact binds_K (by k_in) rfl (by k_is) rfl rfl rfl); (case c5 => decide); (case kB => exact locs rfl); (case c2 => exact rfl); (case c3 => exact rfl); (case c4 => exact rfl); k_whole; intro g' L' h' FG' F' N' B' X' T'; (try dsimp only); (try k_lift B'); (try k_fold)))
local macro_rules | `(tactic| walk_at "call ref") => `(tactic| (k_here; k_dflt (first
  | (refine' call_cls ?k1 ?k2 ?k3 ?k4 ?k5 ?k6 ?_; (case k1 => k_asm); (case k2 => k_asm); (case k3 => k_asm); (case k4 => k_is); (case k5 => k_is); (case k6 => k_is); k_whole; intro x' d' h' F' N' l1 l2; (try k_lt l1); (try k_lt2 l2); (try k_sweep); walk_at "my enter")
  | (refine wpAny_call ?_; walk_at "my enter"))))
noncomputable abbrev instD (w : World) (st lp : Addr) (k1 k2 k3 k4 v1 v3 : Tok) : Obj := dictOf [⟨PyData.keyHash w.params "lineno", .str "lineno" k1, .int 1 v1⟩, ⟨PyData.keyHash w.params "instream", .str "instream" k2, .ref st⟩,
  ⟨PyData.keyHash w.params "whitespace", .str "whitespace" k3, .str "\n\t\r " v3⟩, ⟨PyData.keyHash w.params "pushback", .str "pushback" k4, .ref lp⟩] 4
noncomputable abbrev readD (w : World) (rd : Addr) (kr : Tok) : Obj := dictOf [⟨PyData.keyHash w.params "read", .str "read" kr, .ref rd⟩] 1
theorem lex_led {h₀ h : Heap} {L lp x dx sd st c2 rd c1 lat a1 a2 d1 : Addr} {k1 k2 k3 k4 v1 v3 kr t0 : Tok} {oSt oc2 oRd oc1 o1' o2' o1 : Obj} {ps : Array Value}
    (N : News h₀ L h [(lp, W.listOf #[] 0), (x, instObj 80 dx), (dx, instD w st lp k1 k2 k3 k4 v1 v3), (sd, readD w rd kr), (st, oSt), (c2, oc2), (rd, oRd), (c1, oc1), (lat, W.listOf #[.int 0 t0] 0), (a1, o1'), (a2, o2'), (d1, o1), (86, tabObj ps)]) :
    News h₀ L h ((x, instObj 80 dx) :: (dx, instD w st lp k1 k2 k3 k4 v1 v3) :: (lp, W.listOf #[] 0) :: (lat, W.listOf #[.int 0 t0] 0) :: (st, oSt) :: (sd, readD w rd kr) :: ([(c2, oc2), (rd, oRd), (c1, oc1), (a1, o1'), (a2, o2')] ++ [(d1, o1), (86, tabObj ps)])) := fun p hp => N p (by
  simp only [List.cons_append, List.nil_append, List.mem_cons, List.not_mem_nil, or_false] at hp ⊢
  rcases hp with h | h | h | h | h | h | h | h | h | h | h | h | h <;> simp only [h, true_or, or_true])
theorem lex_ne {lp x dx sd st c2 rd c1 lat a1 a2 d1 : Nat} {O1 O2 O3 O4 oc2 oRd oc1 o1' o2' o1 o86 : Obj} (h1 : lat < c1) (h2 : c1 < rd) (h3 : rd < c2) (h4 : c2 < st) (h5 : st < sd) (h6 : sd < dx) (h7 : dx < x) (h8 : x < lp) (h9 : a1 < lat) (h10 : a2 < lat) (h11 : d1 < lat) (h12 : 86 < lat) :
    ∀ p ∈ (((x, O1) :: (dx, O2) :: (st, O3) :: (sd, O4) :: ([(c2, oc2), (rd, oRd), (c1, oc1), (a1, o1'), (a2, o2')] ++ [(d1, o1), (86, o86)])) : List (Addr × Obj)), p.1 ≠ lp ∧ p.1 ≠ lat := by
  intro p hp
  simp only [List.cons_append, List.nil_append, List.mem_cons, List.not_mem_nil, or_false] at hp
  rcases hp with h | h | h | h | h | h | h | h | h | h | h <;> subst h <;> exact ⟨neN (by omega), neN (by omega)⟩
noncomputable def ReadSpec (prog : Program) (w : World) (p : Program) (loose : List PySem.Str) (mean : ExcName → Option Value) (mg mb : PySem.Str → Option Value) (rd lat : Addr) (objs : List (Addr × Obj)) (x : PySem.Str) : Prop :=
  ∀ (dp un : Nat) (gd : Option (List Code)) (cn : PySem.Str) (cs : Scope) (a : Addr) (ccd : Value) (cl : List (PySem.Str × Addr)) (outer : List Env) (A₀ : Around) (base h₀ : Heap) (L : Addr) (m : PySem.Str → Option Value) (s : Shared) (Q E : Value → Shared → Prop) (news : List (Addr × Obj)) (k : Nat) (tk t1 : Tok) (e : Nat) (y : PySem.Str),
    Below A₀ base outer h₀ → Fr h₀ L s.heap m → (KK w.params).In h₀ → News h₀ L s.heap ((lat, W.listOf #[.int k tk] e) :: (objs ++ news)) → Top p loose mean mg mb h₀ → cs.kind = .function → dp + 2 < recursionLimit → un + 12 < cLine → k < 1000 →
    Txt.slice x (some (k : Int)) (some ((k : Int) + 1)) = y → y.length ≤ 1 → (∀ p ∈ objs ++ news, p.1 ≠ lat) →
    (∀ t' tk2 h' tk', Fr h₀ L h' m → News h₀ L h' ((lat, W.listOf #[.int ((k : Int) + y.length) tk2] e) :: (objs ++ news)) → Q (.str y t') { s with heap := h', toks := tk' }) →
    wpAny (model prog w) (ktrTop dp un gd cn cs L a ccd cl outer) (call (.ref rd) [.int 1 t1]) Q E s
local macro_rules | `(tactic| k_all) => `(tactic| assumption)
local macro_rules | `(tactic| walk_at "eval Name") => `(tactic| (k_here; k_dflt (refine' nameX_F ?N ?c ?m ?d ?_ ?a ?b; (case a => rfl); (case b => rfl); (case N => k_asm); (case c => rfl); (case m => k_mem); (case d => k_asm); k_whole)))
local macro_rules | `(tactic| walk_at "subscriptTail Name Slice str ref") => `(tactic| (k_here; (with_reducible rename Fr _ _ _ _ => F'); (with_reducible rename News _ _ _ _ => N'); refine slice_to (s := ⟨_, _, _, _, _⟩) F' N' (by with_unfolding_all assumption) (by assumption) ?_; intro _ _ _ _ _))
set_option maxHeartbeats 4000000 in
theorem lexer {x : PySem.Str} {tx : Tok} {d1 : Addr} {o1 : Obj} (B : Below A₀ base outer h₀) (F : Fr h₀ L s.heap m) (X : (KK w.params).In h₀) (N : News h₀ L s.heap [(d1, o1), (86, tabObj #[])]) (T : Top p loose mean mg mb h₀) (C : CodeHd base 90 86) (hne : @Ne Nat d1 86) (hk : cs.kind = .function) (hdp : dp + 3 < recursionLimit) (hu : un + 24 < cLine)
  (hx : x.length ≤ sizeLine)
  (ret : ∀ (x' dx lp st sd rd lat : Addr) (oSt : Obj) (fd : FuncData) (objs : List (Addr × Obj)) (ps : Array Value) (k1 k2 k3 k4 v1 v3 kr t0 : Tok) (h' : Heap) (tk' : Nat), Fr h₀ L h' m →
    News h₀ L h' ((x', instObj 80 dx) :: (dx, instD w st lp k1 k2 k3 k4 v1 v3) :: (lp, W.listOf #[] 0) :: (lat, W.listOf #[.int 0 t0] 0) :: (st, oSt) :: (sd, readD w rd kr) :: (objs ++ [(d1, o1), (86, tabObj ps)])) →
    oSt.cls = .type "function" → oSt.dict = some sd → oSt.data = .func fd → @Ne Nat lp lat →
    (∀ p ∈ (x', instObj 80 dx) :: (dx, instD w st lp k1 k2 k3 k4 v1 v3) :: (st, oSt) :: (sd, readD w rd kr) :: (objs ++ [(d1, o1), (86, tabObj ps)]), p.1 ≠ lp ∧ p.1 ≠ lat) →
    (∃ oc od fd' sl, (rd, (⟨oc, od, .func fd', sl⟩ : Obj)) ∈ objs) → ReadSpec prog w p loose mean mg mb rd lat objs x → Q (.ref x') { s with heap := h', toks := tk' }) :
  wpAny (model prog w) (ktrTop dp un gd cn cs L a ccd cl outer) (call (.ref 91) [.str x tx]) Q E s := by
  refine wpAny_call ?_
  k_dflt (refine' code_defC ?k1 ?k2 ?k3 ?k4 ?k5 ?kA ?kF ?kK ?k6 ?k7 ?k8 ?k9 ?kB ?kD ?_ ?c2 ?c3 ?c4; (case kA => exact rfl); (case kF => exact rfl); (case kK => assumption); (case k1 => k_asm); (case k2 => k_asm); (case k3 => k_asm); (case k4 => k_asm); (case k5 => k_asm); (case k6 => k_is); (case k7 => k_is); (case k8 => ((try dsimp only [ktrTop, Around.deeper]); omega)); (case k9 => exact BindsTo.of_eq rfl); (case kB => exact rfl); (case kD => decide +kernel); (case c2 => exact rfl); (case c3 => exact rfl); (case c4 => exact rfl); k_whole; intro g' L' h' tk' cells' FG' F' N' Y' B' X' T' l1; (try k_lt l1); k_cells Y'; (try simp only [List.cons_append, List.nil_append] at N'); (try dsimp only); (try k_lift B'); (try k_fold))
  k_steps
  rename News h₀ L _ _ => kN
  rename Fr h₀ L _ _ => kF
  have kN2 := lex_led kN
  refine ret _ _ _ _ _ _ _ _ _ _ _ _ _ _ _ _ _ _ _ _ _ kF kN2 rfl rfl rfl ?_ ?_ ⟨_, _, _, _, List.mem_cons_of_mem _ List.mem_cons_self⟩ ?_
  · exact neN (by omega)
  · exact lex_ne (by omega) (by omega) (by omega) (by omega) (by omega) (by omega) (by omega) (by omega) (by omega) (by omega) (by omega) (by omega)
  · clear kN kN2 kF ret
    intro dp2 un2 gd2 cn2 cs2 a2 ccd2 cl2 outer2 A02 base2 h02 L2 m2 s2 Q2 E2 news2 k tk2 t1 e y B2 F2 X2 N2 T2 hk2 hdp2 hun2 hk1000 hy hyl hoff ret2
    simp only [List.cons_append, List.nil_append] at N2 hoff
    refine wpAny_call ?_
    k_dflt (refine' code_nest ?k1 ?k2 ?k3 ?k4 ?k5 ?kA ?kF ?kK ?k6 ?k7 ?k8 ?k9 ?kB ?_ ?c2 ?c3 ?c4 ?c5; (case kA => exact rfl); (case kF => exact rfl); (case kK => first | exact rfl | assumption); (case k1 => k_asm); (case k2 => k_asm); (case k3 => k_asm); (case k4 => k_asm); (case k5 => k_asm); (case k6 => k_mem); (case k7 => exact codeRec_news (by k_asm) (by k_mem) (by assumption) (by assumption)); (case k8 => ((try dsimp only [ktrTop, Around.deeper]); omega)); (case k9 => exact BindsTo.of_eq rfl); (case c5 => decide); (case kB => exact locs rfl); (case c2 => exact rfl); (case c3 => exact rfl); (case c4 => exact rfl); k_whole; intro g' L' h' FG' F' N' B' X' T'; (try dsimp only); (try k_lift B'); (try k_fold))
    k_steps
    rename News h02 L2 _ _ => kN9
    exact ret2 _ _ _ _ (by assumption) kN9
end Mine
end
section
open PySem PySem.W PyProof.Rows PySem.Calls
namespace Mine
section
variable {prog : Program} {w : World} {A : Around} {E : Value → Shared → Prop} {s : Shared} {env : Env} {h₀ : Heap} {x : PySem.Str} {body : List Stmt} {Q : Flow → Shared → Prop}
theorem iter_rangeJ {r : Addr} {b₀ : Int} {t₀ u₀ v₀ : Tok} {n : Nat} {m₀ : PySem.Str → Option Value} {news : List (Addr × Obj)} (J : Nat → (PySem.Str → Option Value) → List (Addr × Obj) → Prop)
    (hh : A.handled = none) (hr : IsRange s.heap r 0 b₀ 1 t₀ u₀ v₀) (hsmall : Builtin.Range.small 0 b₀ 1 = true) (hn : Builtin.Range.rangeSize 0 b₀ 1 = (n : Int)) (F : Fr h₀ env.locals s.heap m₀) (N : News h₀ env.locals s.heap news) (hj : J 0 m₀ news)
    (turn : ∀ (i : Nat) t m₁ news₁ h tk own, i < n → news₁.map (·.1) = news.map (·.1) → OwnOff own (news.map (·.1)) → J i m₁ news₁ → Fr h₀ env.locals h (fun y => if y = x then some (.int (i : Int) t) else m₁ y) → News h₀ env.locals h (news₁ ++ own) →
      wpAny (model prog w) A (execs body env) (InvPostN h₀ env.locals (J (i + 1)) own (news.map (·.1)) { s with heap := h, toks := tk } Q) E { s with heap := h, toks := tk })
    (done : ∀ m₁ news₁ h tk, J n m₁ news₁ → Fr h₀ env.locals h m₁ → News h₀ env.locals h news₁ → Q .next { s with heap := h, toks := tk }) :
    wpAny (model prog w) A (pyIter (.ref r)) (fun it s₂ => LoopAtV prog w A h₀ env x body Q E it s₂) E s := by
  refine wpAny_pyIter_range hr hsmall ?_
  have W : Walks prog w A s.heap.objs.size [s.heap.objs.size] [s.heap.objs.size] n (fun i v => i < n ∧ ∃ t, v = .int (0 + i * 1) t)
      (fun i h => IsRangeIter h s.heap.objs.size (0 + (i : Nat) * 1) ((n : Int) - (i : Nat)) 1) := (Walks.range hh _ 0 1 n).bound
  refine loop_invN J W ?_ ?_ ?_ ?_ (by show IsRangeIter _ _ _ _ _; rw [hn]; simpa using Heap.get?_push_size _ rfl) (F.push _) (fun p hp => ⟨Heap.get?_push_of_some _ (N p hp).1, (N p hp).2⟩) hj ?_ ?_
  · intro hm
    exact absurd F.ns.lt ((List.mem_singleton.mp hm) ▸ Nat.lt_irrefl _)
  · intro b hb
    rw [List.mem_singleton.mp hb]
    exact next_is_new F
  · intro p hp hI
    exact absurd (Heap.lt_size (N p hp).1) ((List.mem_singleton.mp hI) ▸ Nat.lt_irrefl _)
  · intro p hp hI
    exact absurd (Heap.lt_size (N p hp).1) ((List.mem_singleton.mp hI) ▸ Nat.lt_irrefl _)
  · rintro i v m₁ news₁ h tk own hi ⟨_, t, rfl⟩ hadr hoff hJ F' N'
    rw [show (0 : Int) + (i : Int) * 1 = (i : Int) by omega] at F'
    exact turn i t m₁ news₁ h tk own hi hadr hoff hJ F' N'
  · exact done
end
section
variable {prog : Program} {w : World} {A : Around} {E : Value → Shared → Prop} {s : Shared} {h₀ : Heap} {L D : Addr} {m : PySem.Str → Option Value} {news news' : List (Addr × Obj)} {v : Value} {r : List Value} {n : Nat} {u : Tok}
theorem seq_zero (k : Nat) : seqIndex? 0 (k + 1) = some 0 := by
  unfold seqIndex?
  simp
theorem pop_first {Q : Value → Shared → Prop} (F : Fr h₀ L s.heap m) (N : News h₀ L s.heap news) (U : Upd D (W.listOf (v :: r).toArray n) (W.listOf r.toArray (n + 1)) news news') (hz : r.length + 1 ≤ sizeLine)
    (h : ∀ h', Fr h₀ L h' m → News h₀ L h' news' → Q v { s with heap := h' }) : wpAny (model prog w) A (call (.builtin "list.pop") [.ref D, .int 0 u]) Q E s :=
  kl_popAt (k := 0) (p := []) (q := r) (y := v) F N (by rfl) (by rw [List.size_toArray, List.length_cons]; exact seq_zero _) rfl U hz h
theorem truthy_first {Q : Bool → Shared → Prop} (N : News h₀ L s.heap news) (hm : (D, W.listOf (v :: r).toArray n) ∈ news) (hz : r.length + 1 ≤ sizeLine) (h : Q true { s with toks := s.toks + 1 + 1 }) : wpAny (model prog w) A (truthy (.ref D)) Q E s := by
  refine wpAny_truthy_list (items := (v :: r).toArray) ⟨_, (N _ hm).1, rfl, _, rfl⟩ ?_ (by simpa using h)
  rw [List.size_toArray, List.length_cons]
  rw [sizeLine_eq] at hz
  omega
theorem truthy_empty {Q : Bool → Shared → Prop} (N : News h₀ L s.heap news) (hm : (D, W.listOf [].toArray n) ∈ news) (h : Q false { s with toks := s.toks + 1 + 1 }) : wpAny (model prog w) A (truthy (.ref D)) Q E s :=
  wpAny_truthy_list (items := #[]) ⟨_, (N _ hm).1, rfl, _, rfl⟩ (by decide) (by simpa using h)
end
/-- the waiting pairs -/
noncomputable def QIn : List Value → List (Nat × Nat) → Prop
  | [], [] => True
  | .str s _ :: vs, (a, b) :: ps => s = ⟨#[a, b]⟩ ∧ QIn vs ps
  | _, _ => False
theorem QIn.length : ∀ {vs : List Value} {ps : List (Nat × Nat)}, QIn vs ps → vs.length = ps.length
  | [], [], _ => rfl
  | .str _ _ :: _, (_, _) :: _, h => congrArg (· + 1) (QIn.length h.2)
theorem QIn.snoc {a b : Nat} {s : PySem.Str} {t : Tok} (hs : s = ⟨#[a, b]⟩) : ∀ {vs : List Value} {ps : List (Nat × Nat)}, QIn vs ps → QIn (vs ++ [.str s t]) (ps ++ [(a, b)])
  | [], [], _ => ⟨hs, trivial⟩
  | .str _ _ :: _, (_, _) :: _, h => ⟨h.1, QIn.snoc hs h.2⟩
theorem QIn.head : ∀ {vs : List Value} {a b : Nat} {ps : List (Nat × Nat)}, QIn vs ((a, b) :: ps) → ∃ t r, vs = .str ⟨#[a, b]⟩ t :: r ∧ QIn r ps
  | .str s t :: r, _, _, _, h => ⟨t, r, by rw [h.1], h.2⟩
noncomputable def pairOk (p : Nat × Nat) : Prop := 48 ≤ p.1 ∧ p.1 < 20000 ∧ 48 < p.2 ∧ p.2 < 20000
/-- one pair: an end, or two more -/
noncomputable def pairStep (st : Nat × List (Nat × Nat)) (p : Nat × Nat) : Nat × List (Nat × Nat) :=
  if (p.1 - 48) % (p.2 - 48) = 0 then (st.1 + 1, st.2) else (st.1, st.2 ++ [(p.2, 48 + (p.1 - 48) % (p.2 - 48)), (p.2, 48 + (p.2 - 48) - (p.1 - 48) % (p.2 - 48))])
noncomputable def fewF : Nat → Nat → List (Nat × Nat) → Option (Int × Int)
  | 0, _, _ => none
  | n + 1, r, ps =>
    if ps.length ≤ 1000 then
      let st := ps.foldl pairStep (0, [])
      if st.1 = 0 then fewF n (r + 1) st.2 else some ((r + 1 : Nat), st.1)
    else none
theorem pairStep_ok {en : Nat} {new : List (Nat × Nat)} {p : Nat × Nat} (hn : ∀ q ∈ new, pairOk q) (hp : pairOk p) : ∀ q ∈ (pairStep (en, new) p).2, pairOk q := by
  obtain ⟨h1, h2, h3, h4⟩ := hp
  unfold pairStep
  split
  · exact hn
  · rename_i hc
    have hlt := Nat.mod_lt (p.1 - 48) (show 0 < p.2 - 48 by omega)
    intro q hq
    rcases List.mem_append.mp hq with hq | hq
    · exact hn q hq
    · simp only [List.mem_cons, List.not_mem_nil, or_false] at hq
      rcases hq with rfl | rfl
      · exact ⟨by dsimp only; omega, by dsimp only; omega, by dsimp only; omega, by dsimp only; omega⟩
      · exact ⟨by dsimp only; omega, by dsimp only; omega, by dsimp only; omega, by dsimp only; omega⟩
section
variable {prog : Program} {w : World} {A : Around} {E : Value → Shared → Prop} {s : Shared} {value slice : PySem.Expr} {ca cb : Nat} {t u : Tok} {Q : Value → Shared → Prop}
theorem pair0 (h : Q (.str ⟨#[ca]⟩ s.toks) { s with toks := s.toks + 1 })
    (hs : subscripted slice false (.str ⟨#[ca, cb]⟩ t) (.int 0 u) = operate [.str ⟨#[ca, cb]⟩ t, .int 0 u] (getItem (.str ⟨#[ca, cb]⟩ t) (.int 0 u)) := by with_unfolding_all rfl)
    (ht : ∀ r, letTemporaryGo value (.str ⟨#[ca, cb]⟩ t) r = pure () := by intro _; with_unfolding_all rfl) :
    wpAny (model prog w) A (subscriptTail value slice (.str ⟨#[ca, cb]⟩ t) (.int 0 u)) Q E s :=
  KXi.item (n := 2) rfl (by omega) (by omega) (by decide) (fun _ => by rw [PyProof.Rows.item_meets (n := ca) (by decide) rfl]; exact h) hs ht
theorem pair1 (h : Q (.str ⟨#[cb]⟩ s.toks) { s with toks := s.toks + 1 })
    (hs : subscripted slice false (.str ⟨#[ca, cb]⟩ t) (.int 1 u) = operate [.str ⟨#[ca, cb]⟩ t, .int 1 u] (getItem (.str ⟨#[ca, cb]⟩ t) (.int 1 u)) := by with_unfolding_all rfl)
    (ht : ∀ r, letTemporaryGo value (.str ⟨#[ca, cb]⟩ t) r = pure () := by intro _; with_unfolding_all rfl) :
    wpAny (model prog w) A (subscriptTail value slice (.str ⟨#[ca, cb]⟩ t) (.int 1 u)) Q E s :=
  KXi.item (n := 2) rfl (by omega) (by omega) (by decide) (fun _ => by rw [PyProof.Rows.item_meets (n := cb) (by decide) rfl]; exact h) hs ht
end
theorem pair_mod {ca cb : Nat} (hp : pairOk (ca, cb)) : Int.fmod ((ca : Int) - 48) ((cb : Int) - 48) = (((ca - 48) % (cb - 48) : Nat) : Int) ∧ (ca - 48) % (cb - 48) < cb - 48 := by
  obtain ⟨h1, h2, h3, h4⟩ := hp
  dsimp only at h1 h2 h3 h4
  refine ⟨?_, Nat.mod_lt _ (by omega)⟩
  rw [show (ca : Int) - 48 = ((ca - 48 : Nat) : Int) by omega, show (cb : Int) - 48 = ((cb - 48 : Nat) : Int) by omega]
  exact (Int.ofNat_fmod _ _).symm
end Mine
end
section
open PySem PySem.W PyProof.Rows PySem.Calls
open PySem.Flt
namespace Mine
variable {prog : Program} {w : World} {p : Program} {loose : List Str} {mean : ExcName → Option Value} {mg mb : Str → Option Value}
  {dp un : Nat} {gd : Option (List Code)} {cn : Str} {cs : Scope} {a : Addr} {ccd : Value} {cl : List (Str × Addr)} {outer : List Env} {A₀ : Around} {base h₀ : Heap} {L : Addr} {m : Str → Option Value} {s : Shared} {Q E : Value → Shared → Prop} {news : List (Addr × Obj)}
local macro_rules | `(tactic| walk_at $_:str) => `(tactic| (k_here; first | dsimp only | k_gentoks))
local macro_rules | `(tactic| walk_at "CutQ") => `(tactic| (unfold CutQ; with_reducible conv => whnf))
local macro_rules | `(tactic| walk_at "execs cons") => `(tactic| (k_here; (try dsimp only); (try k_gentoks); (with_reducible rename Fr _ _ _ _ => lF'); (with_reducible refine execs_let lF' ?_); clear lF'; intro m' F' Q'; (try dsimp only)))

local macro_rules | `(tactic| walk_at "call ref") => `(tactic| (k_here; (try dsimp only); refine Hold.out ?_))

local macro_rules | `(tactic| walk_at "exec While UnaryOp cons nil") => `(tactic| (k_here; (try dsimp only); refine Hold.out ?_))
local macro_rules | `(tactic| k_all) => `(tactic| assumption)
local macro_rules | `(tactic| walk_at "pyIter ref") => `(tactic| (k_here; (try dsimp only); refine Hold.out ?_))
local macro_rules | `(tactic| walk_at "WhileStep2") => `(tactic| ((try dsimp only); refine Hold.out ?_))
local macro_rules | `(tactic| walk_at "InvPostN") => `(tactic| ((try dsimp only); refine Hold.out ?_))
noncomputable abbrev fewLed (w : World) (x dx lp st : Addr) (k1 k2 k3 k4 v1 v3 : Tok) (items : List Value) (e : Nat) (news : List (Addr × Obj)) : List (Addr × Obj) := (x, instObj 80 dx) :: (dx, instD w st lp k1 k2 k3 k4 v1 v3) :: (lp, W.listOf items.toArray e) :: news
noncomputable def FewJ (w : World) (x dx lp st : Addr) (k1 k2 k3 k4 v1 v3 : Tok) (news : List (Addr × Obj)) (res : Int × Int) (n : Nat) (m₁ : PySem.Str → Option Value) (news₁ : List (Addr × Obj)) : Prop :=
  ∃ (r wt en : Int) (t1 t2 t3 : Tok) (ps : List (Nat × Nat)) (items : List Value) (e : Nat) (rest : PySem.Str → Option Value),
    m₁ = over [(Str.ofString "machine", Value.ref x), (Str.ofString "rounds", Value.int r t1), (Str.ofString "waiting", Value.int wt t2), (Str.ofString "ended", Value.int en t3)] rest ∧
    news₁ = fewLed w x dx lp st k1 k2 k3 k4 v1 v3 items e news ∧ QIn items ps ∧ (∀ q ∈ ps, pairOk q) ∧ wt = (ps.length : Int) ∧
    ((en = 0 ∧ ∃ k : Nat, r = (k : Int) ∧ fewF n k ps = some res) ∨ (en ≠ 0 ∧ res = (r, en)))
noncomputable def InJ (w : World) (x dx lp st : Addr) (k1 k2 k3 k4 v1 v3 : Tok) (news : List (Addr × Obj)) (r : Int) (ps : List (Nat × Nat)) (i : Nat) (m₁ : PySem.Str → Option Value) (news₁ : List (Addr × Obj)) : Prop :=
  ∃ (t1 t2 t3 t4 : Tok) (en : Nat) (new : List (Nat × Nat)) (items : List Value) (e : Nat) (rest : PySem.Str → Option Value),
    m₁ = over [(Str.ofString "machine", Value.ref x), (Str.ofString "rounds", Value.int r t1), (Str.ofString "waiting", Value.int (ps.length : Int) t2), (Str.ofString "ended", Value.int (en : Int) t3), (Str.ofString "fresh", Value.int (new.length : Int) t4)] rest ∧
    news₁ = fewLed w x dx lp st k1 k2 k3 k4 v1 v3 items e news ∧ QIn items (ps.drop i ++ new) ∧ (ps.take i).foldl pairStep (0, []) = (en, new) ∧ (∀ q ∈ new, pairOk q) ∧ new.length ≤ 2 * i
local macro_rules | `(tactic| walk_at "truthy ref") => `(tactic| (k_here; (with_reducible show wpAny _ _ (truthy (Value.ref _)) _ _ _); k_dflt (refine' truthy_first ?N ?m ?z ?_; (case N => k_asm); (case m => k_mem); (case z => (rw [sizeLine_eq]; omega)))))
local macro_rules | `(tactic| walk_at "call builtin:list.pop") => `(tactic| (k_here; k_dflt (refine' pop_first ?F ?N ?U ?z ?_; (case F => k_asm); (case N => k_asm); (case U => k_upd); (case z => (rw [sizeLine_eq]; omega))); (intro h' F' N'; (try dsimp only [List.nil_append, List.cons_append] at N'); (try k_sweep))))
local macro_rules | `(tactic| walk_at "subscriptTail Name Constant str int") => `(tactic| (k_here; first | (with_reducible refine pair0 ?_) | (with_reducible refine pair1 ?_)))
local macro_rules | `(tactic| walk_at "call builtin:ord") => `(tactic| (k_here; refine PySem.P.ord_of_char ?_))
theorem few_start {g h : Heap} {L D x dx lp st : Addr} {od : Obj} {k1 k2 k3 k4 v1 v3 : Tok} {u l : Int} {e : Nat} {t : Tok} (N1 : News g L h ((D, od) :: fewLed w x dx lp st k1 k2 k3 k4 v1 v3 ([] ++ [Value.str ({ cps := #[(48 + u).toNat] } ++ { cps := #[(48 + l).toNat] }) t]) e news)) :
    News g L h (fewLed w x dx lp st k1 k2 k3 k4 v1 v3 [Value.str ⟨#[(48 + u).toNat, (48 + l).toNat]⟩ t] e news) := fun p hp => N1 p (List.mem_cons_of_mem _ hp)
theorem few_end {g h' : Heap} {L x dx lp st : Addr} {k1 k2 k3 k4 v1 v3 : Tok} {s₁ : Shared} {tk' : Nat} {own : List (Addr × Obj)} {r ev fv : Int} {t1 t2 t3 t4 : Tok} {m' : PySem.Str → Option Value} {A : Array Value} {items' : List Value} {e' en' i : Nat} {o : Obj} {ps new' : List (Nat × Nat)}
    (F9 : Fr g L h' m') (N9 : News g L h' ((x, instObj 80 dx) :: (dx, instD w st lp k1 k2 k3 k4 v1 v3) :: (lp, W.listOf A e') :: (news ++ own))) (hA : A = items'.toArray)
    (hR : Reads m' [(Str.ofString "machine", Value.ref x), (Str.ofString "rounds", Value.int r t1), (Str.ofString "waiting", Value.int (ps.length : Int) t2), (Str.ofString "ended", Value.int ev t3), (Str.ofString "fresh", Value.int fv t4)])
    (hev : ev = (en' : Int)) (hfv : fv = (new'.length : Int)) (hQ : QIn items' (ps.drop (i + 1) ++ new')) (hst : (ps.take (i + 1)).foldl pairStep (0, []) = (en', new')) (hok : ∀ q ∈ new', pairOk q) (hlen : new'.length ≤ 2 * (i + 1)) :
    InvEndN g L (InJ w x dx lp st k1 k2 k3 k4 v1 v3 news r ps (i + 1)) own (List.map (·.1) ((x, instObj 80 dx) :: (dx, instD w st lp k1 k2 k3 k4 v1 v3) :: (lp, o) :: news)) s₁ { s₁ with heap := h', toks := tk' } := by
  subst hA hev hfv
  refine InvEndN.intro (nx := fewLed w x dx lp st k1 k2 k3 k4 v1 v3 items' e' news) F9 N9 ⟨t1, t2, t3, t4, en', new', items', e', m', over_self hR, rfl, hQ, hst, hok, hlen⟩ rfl ?_ ?_
  · intro p hp
    simp only [fewLed, List.mem_cons, List.mem_append] at hp ⊢
    rcases hp with h | h | h | h
    · exact .inl h
    · exact .inr (.inl h)
    · exact .inr (.inr (.inl h))
    · exact .inr (.inr (.inr (.inl h)))
  · intro p hp
    simp only [List.mem_cons, List.mem_append]
    exact .inr (.inr (.inr (.inr hp)))
theorem few_next {g h' : Heap} {L x dx lp st : Addr} {k1 k2 k3 k4 v1 v3 : Tok} {s : Shared} {tk' : Nat} {ev fv : Int} {t1 t2 t3 : Tok} {m' : PySem.Str → Option Value} {items' : List Value} {e' en' k n : Nat} {ps new' : List (Nat × Nat)} {res : Int × Int} {Q : Flow → Shared → Prop}
    (F9 : Fr g L h' m') (N9 : News g L h' (fewLed w x dx lp st k1 k2 k3 k4 v1 v3 items' e' news))
    (hR : Reads m' [(Str.ofString "machine", Value.ref x), (Str.ofString "rounds", Value.int ((k : Int) + 1) t1), (Str.ofString "waiting", Value.int fv t2), (Str.ofString "ended", Value.int ev t3)])
    (hev : ev = (en' : Int)) (hfv : fv = (new'.length : Int)) (hQ : QIn items' (ps.drop ps.length ++ new')) (hst : (ps.take ps.length).foldl pairStep (0, []) = (en', new')) (hok : ∀ q ∈ new', pairOk q) (hf : fewF (n + 1) k ps = some res) :
    WhileStep2 g L s (FewJ w x dx lp st k1 k2 k3 k4 v1 v3 news res) Q (n + 1) .next { s with heap := h', toks := tk' } := by
  subst hev hfv
  rw [List.drop_length, List.nil_append] at hQ
  rw [List.take_length] at hst
  refine ⟨_, _, _, _, n, rfl, F9, N9, Nat.lt_succ_self n, (k : Int) + 1, (new'.length : Int), (en' : Int), t1, t2, t3, new', items', e', m', over_self hR, rfl, hQ, hok, rfl, ?_⟩
  unfold fewF at hf
  split at hf
  · rw [hst] at hf
    dsimp only at hf
    by_cases h0 : en' = 0
    · rw [if_pos h0] at hf
      subst h0
      exact .inl ⟨rfl, k + 1, rfl, hf⟩
    · rw [if_neg h0] at hf
      refine .inr ⟨by omega, ?_⟩
      exact (Option.some.inj hf).symm
  · cases hf
set_option maxHeartbeats 4000000 in
theorem push_tok {x dx lp st : Addr} {k1 k2 k3 k4 v1 v3 : Tok} {items : List Value} {e : Nat} {y : PySem.Str} {ty : Tok} (B : Below A₀ base outer h₀) (F : Fr h₀ L s.heap m) (X : (KK w.params).In h₀)
  (N : News h₀ L s.heap (fewLed w x dx lp st k1 k2 k3 k4 v1 v3 items e news)) (T : Top p loose mean mg mb h₀) (hk : cs.kind = .function) (hdp : dp + 4 < recursionLimit) (hu : un + 30 < cLine)
  (hxl : @Ne Nat x lp) (hdl : @Ne Nat dx lp) (hne : ∀ p ∈ news, p.1 ≠ lp) (hz : items.length + 1 ≤ 5000)
  (ret : ∀ (e' : Nat) (h' : Heap) (tk' : Nat), Fr h₀ L h' m → News h₀ L h' (fewLed w x dx lp st k1 k2 k3 k4 v1 v3 (items ++ [.str y ty]) e' news) → Q .none {s with heap := h', toks := tk'}) :
  wpAny (model prog w) (ktrTop dp un gd cn cs L a ccd cl outer) (call (.ref 77) [.ref x, .str y ty]) Q E s := by
  dsimp only [fewLed] at N
  refine wpAny_call ?_
  k_dflt (refine' code_def ?k1 ?k2 ?k3 ?k4 ?k5 ?kA ?kF ?kK ?k6 ?k7 ?k8 ?k9 ?kB ?_ ?c2 ?c3 ?c4 ?c5; (case kA => exact rfl); (case kF => exact rfl); (case kK => first | exact rfl | assumption); (case k1 => k_asm); (case k2 => k_asm); (case k3 => k_asm); (case k4 => k_asm); (case k5 => k_asm); (case k6 => k_is); (case k7 => k_is); (case k8 => ((try simp only [depth_under_make, depth_under_kw, depth_in1, depth_deeper, depth_caller]); (try dsimp +zetaDelta only [ktrTop, Around.deeper]); omega)); (case k9 => first | exact BindsTo.of_eq rfl | exact binds_K (by k_in) rfl (by k_is) rfl rfl rfl); (case c5 => decide); (case kB => exact locs rfl); (case c2 => exact rfl); (case c3 => exact rfl); (case c4 => exact rfl); k_whole; intro g' L' h' FG' F' N' B' X' T'; (try dsimp only); (try k_lift B'); (try k_fold))
  k_steps
  rename News h₀ L _ _ => kN
  rw [List.push_toArray] at kN
  exact ret _ _ _ (by assumption) kN
set_option maxHeartbeats 4000000 in
theorem pop_tok {x dx lp st : Addr} {k1 k2 k3 k4 v1 v3 : Tok} {v : Value} {items : List Value} {e : Nat} (B : Below A₀ base outer h₀) (F : Fr h₀ L s.heap m) (X : (KK w.params).In h₀)
  (N : News h₀ L s.heap (fewLed w x dx lp st k1 k2 k3 k4 v1 v3 (v :: items) e news)) (T : Top p loose mean mg mb h₀) (hk : cs.kind = .function) (hdp : dp + 4 < recursionLimit) (hu : un + 30 < cLine)
  (hxl : @Ne Nat x lp) (hdl : @Ne Nat dx lp) (hne : ∀ p ∈ news, p.1 ≠ lp) (hz : items.length + 1 ≤ 5000)
  (ret : ∀ (e' : Nat) (h' : Heap) (tk' : Nat), Fr h₀ L h' m → News h₀ L h' (fewLed w x dx lp st k1 k2 k3 k4 v1 v3 items e' news) → Q v {s with heap := h', toks := tk'}) :
  wpAny (model prog w) (ktrTop dp un gd cn cs L a ccd cl outer) (call (.ref 70) [.ref x]) Q E s := by
  dsimp only [fewLed] at N
  refine wpAny_call ?_
  k_dflt (refine' code_def ?k1 ?k2 ?k3 ?k4 ?k5 ?kA ?kF ?kK ?k6 ?k7 ?k8 ?k9 ?kB ?_ ?c2 ?c3 ?c4 ?c5; (case kA => exact rfl); (case kF => exact rfl); (case kK => first | exact rfl | assumption); (case k1 => k_asm); (case k2 => k_asm); (case k3 => k_asm); (case k4 => k_asm); (case k5 => k_asm); (case k6 => k_is); (case k7 => k_is); (case k8 => ((try simp only [depth_under_make, depth_under_kw, depth_in1, depth_deeper, depth_caller]); (try dsimp +zetaDelta only [ktrTop, Around.deeper]); omega)); (case k9 => first | exact BindsTo.of_eq rfl | exact binds_K (by k_in) rfl (by k_is) rfl rfl rfl); (case c5 => decide); (case kB => exact locs rfl); (case c2 => exact rfl); (case c3 => exact rfl); (case c4 => exact rfl); k_whole; intro g' L' h' FG' F' N' B' X' T'; (try dsimp only); (try k_lift B'); (try k_fold))
  k_steps
  rename News h₀ L _ _ => kN
  exact ret _ _ _ (by assumption) kN
set_option maxHeartbeats 4000000 in
theorem fewest {x dx lp st : Addr} {k1 k2 k3 k4 v1 v3 : Tok} {u l : Int} {tu tl : Tok} {e : Nat} (B : Below A₀ base outer h₀) (F : Fr h₀ L s.heap m) (X : (KK w.params).In h₀)
  (N : News h₀ L s.heap (fewLed w x dx lp st k1 k2 k3 k4 v1 v3 [] e news)) (T : Top p loose mean mg mb h₀) (hk : cs.kind = .function) (hdp : dp + 5 < recursionLimit) (hu : un + 40 < cLine)
  (hxl : @Ne Nat x lp) (hdl : @Ne Nat dx lp) (hne : ∀ p ∈ news, p.1 ≠ lp) (hu0 : 0 ≤ u) (hu1 : u < 10000) (hl0 : 0 < l) (hl1 : l < 10000) (n₀ : Nat) (res : Int × Int) (hres : fewF n₀ 0 [((48 + u).toNat, (48 + l).toNat)] = some res)
  (ret : ∀ (c : Addr) (u1 u2 : Tok) (items : List Value) (e' : Nat) (h' : Heap) (tk' : Nat), Fr h₀ L h' m → News h₀ L h' ((c, tup [Value.int res.1 u1, Value.int res.2 u2]) :: fewLed w x dx lp st k1 k2 k3 k4 v1 v3 items e' news) → @LT.lt Nat _ x c → Q (.ref c) {s with heap := h', toks := tk'}) :
  wpAny (model prog w) (ktrTop dp un gd cn cs L a ccd cl outer) (call (.ref 112) [.ref x, .int u tu, .int l tl]) Q E s := by
  refine wpAny_call ?_
  k_dflt (refine' code_def ?k1 ?k2 ?k3 ?k4 ?k5 ?kA ?kF ?kK ?k6 ?k7 ?k8 ?k9 ?kB ?_ ?c2 ?c3 ?c4 ?c5; (case kA => exact rfl); (case kF => exact rfl); (case kK => first | exact rfl | assumption); (case k1 => k_asm); (case k2 => k_asm); (case k3 => k_asm); (case k4 => k_asm); (case k5 => k_asm); (case k6 => k_is); (case k7 => k_is); (case k8 => ((try simp only [depth_under_make, depth_under_kw, depth_in1, depth_deeper, depth_caller]); (try dsimp +zetaDelta only [ktrTop, Around.deeper]); omega)); (case k9 => first | exact BindsTo.of_eq rfl | exact binds_K (by k_in) rfl (by k_is) rfl rfl rfl); (case c5 => decide); (case kB => exact locs rfl); (case c2 => exact rfl); (case c3 => exact rfl); (case c4 => exact rfl); k_whole; intro g' L' h' FG' F' N' B' X' T'; (try dsimp only); (try k_lift B'); (try k_fold))
  show let A' : Around := _; let env' : Env := _; wpAny _ A' (execs _ env') _ _ _
  intro A' env'
  k_steps
  refine ⟨?_⟩
  k_dflt (refine' push_tok (items := []) (e := e) (news := news) ?k1 ?k2 ?k3 ?k4 ?k5 ?k6 ?k7 ?k8 hxl hdl hne (Nat.succ_le_of_lt (Nat.zero_lt_succ _)) ?_; (case k1 => k_asm); (case k2 => k_asm); (case k3 => k_asm); (case k4 => k_asm); (case k5 => k_asm); (case k6 => first | exact rfl | assumption); (case k7 => ((try dsimp +zetaDelta only [ktrTop, Around.deeper]); omega)); (case k8 => ((try dsimp +zetaDelta only [ktrTop, Around.deeper]); omega)))
  intro e0 h0 tk0 F0 N0
  (try dsimp only at F0 N0 ⊢)
  k_steps
  refine ⟨?_⟩
  rename Fr _ _ _ _ => F1
  rename News _ _ _ _ => N1
  have N3 := few_start N1
  clear N1
  refine While_inv2 (J := FewJ w x dx lp st k1 k2 k3 k4 v1 v3 news res) (n₀ := n₀) F1 N3 ⟨0, 1, 0, _, _, _, [((48 + u).toNat, (48 + l).toNat)], _, _, _, over_self ⟨rfl, rfl, rfl, rfl, trivial⟩, rfl, ⟨rfl, trivial⟩, ?_, rfl, .inl ⟨rfl, 0, rfl, hres⟩⟩ ?_
  · intro q hq
    rw [List.mem_singleton.mp hq]
    exact ⟨by dsimp only; omega, by dsimp only; omega, by dsimp only; omega, by dsimp only; omega⟩
  rintro n m₁ news₁ h₁ tk₁ F2 N2 ⟨r, wt, en, t1, t2, t3, ps, items, e1, rest, rfl, rfl, hQ, hok, hwt, hst⟩
  simp only [over] at F2
  dsimp only [fewLed] at N2
  clear F1 N3
  rcases hst with ⟨rfl, k, rfl, hf⟩ | ⟨hen, rfl⟩
  · subst hwt
    have hps : ps.length ≤ 1000 := by
      cases n with
      | zero => cases hf
      | succ n =>
        unfold fewF at hf
        split at hf
        · assumption
        · cases hf
    k_steps
    refine ⟨?_⟩
    rename IsRange _ _ _ _ _ _ _ _ => hr
    rename Fr _ _ _ _ => F5
    rename News _ _ _ _ => N5
    refine iter_rangeJ (InJ w x dx lp st k1 k2 k3 k4 v1 v3 news ((k : Int) + 1) ps) (by rfl) hr (small_one (by omega) (by omega) (by omega) (by omega)) (show _ = ((ps.length : Nat) : Int) by rw [rangeSize_one]; split <;> omega) F5 N5 ⟨_, _, _, _, 0, [], items, _, _, over_self ⟨rfl, rfl, rfl, rfl, rfl, trivial⟩, rfl, by simpa using hQ, rfl, (fun _ h => nomatch h), Nat.zero_le _⟩ ?_ ?_
    · rintro i ti m₁ news₁ h5 tk5 own hi hadr hoff ⟨t1, t2, t3, t4, en, new, items, e, rest, rfl, rfl, hQ, hfold, hnew, hlen⟩ F6 N6
      have hd : ps.drop i = ps[i] :: ps.drop (i + 1) := List.drop_eq_getElem_cons hi
      have hp := hok ps[i] (List.getElem_mem hi)
      have hst : (ps.take (i + 1)).foldl pairStep (0, []) = pairStep (en, new) ps[i] := by
        rw [← List.take_append_getElem hi, List.foldl_append, hfold]; rfl
      generalize ps[i] = pr at hd hp hst
      obtain ⟨ca, cb⟩ := pr
      rw [hd, List.cons_append] at hQ
      obtain ⟨tq, items, rfl, hQ2⟩ := hQ.head
      clear hQ
      have hll := hQ2.length
      rw [List.length_append, List.length_drop] at hll
      have hne6 : ∀ p ∈ news ++ own, p.1 ≠ lp := fun p hp => (List.mem_append.mp hp).elim (hne p) fun h => hoff p h lp (by simp [fewLed])
      simp only [fewLed, List.cons_append] at N6
      simp only [over] at F6
      (try clear F5); (try clear N5); clear hadr hfold hoff hd
      obtain ⟨hmod, hmlt⟩ := pair_mod hp
      have ⟨hp1, hp2, hp3, hp4⟩ := hp
      dsimp only at hp1 hp2 hp3 hp4
      k_steps
      refine ⟨?_⟩
      k_dflt (refine' pop_tok (items := items) (e := e) (news := news ++ own) ?k1 ?k2 ?k3 ?k4 ?k5 ?k6 ?k7 ?k8 hxl hdl hne6 (by omega) ?_; (case k1 => k_asm); (case k2 => k_asm); (case k3 => k_asm); (case k4 => k_asm); (case k5 => k_asm); (case k6 => first | exact rfl | assumption); (case k7 => ((try dsimp +zetaDelta only [ktrTop, Around.deeper]); omega)); (case k8 => ((try dsimp +zetaDelta only [ktrTop, Around.deeper]); omega)))
      intro e7 h7 tk7 F7 N7
      (try dsimp only at F7 N7 ⊢)
      k_steps
      · refine ⟨?_⟩
        rename (Int.fmod _ _ = 0) => hz
        rename Fr _ _ _ _ => F9
        rename News _ _ _ _ => N9
        have hm0 : (ca - 48) % (cb - 48) = 0 := by omega
        (try dsimp only at F9)
        refine few_end (en' := en + 1) (new' := new) (items' := items) F9 N9 rfl ⟨rfl, rfl, rfl, rfl, rfl, trivial⟩ (by omega) rfl hQ2 ?_ hnew (by omega)
        rw [hst]; unfold pairStep; dsimp only; rw [if_pos hm0]
      · refine ⟨?_⟩
        k_dflt (refine' push_tok (items := items) (e := e7) (news := news ++ own) ?k1 ?k2 ?k3 ?k4 ?k5 ?k6 ?k7 ?k8 hxl hdl hne6 (by omega) ?_; (case k1 => k_asm); (case k2 => k_asm); (case k3 => k_asm); (case k4 => k_asm); (case k5 => k_asm); (case k6 => first | exact rfl | assumption); (case k7 => ((try dsimp +zetaDelta only [ktrTop, Around.deeper]); omega)); (case k8 => ((try dsimp +zetaDelta only [ktrTop, Around.deeper]); omega)))
        intro e8 h8 tk8 F8 N8
        (try dsimp only at F8 N8 ⊢)
        k_steps
        refine ⟨?_⟩
        k_dflt (refine' push_tok (e := e8) (news := news ++ own) ?k1 ?k2 ?k3 ?k4 ?k5 ?k6 ?k7 ?k8 hxl hdl hne6 ?hz ?_; (case k1 => k_asm); (case k2 => k_asm); (case k3 => k_asm); (case k4 => k_asm); (case k5 => k_asm); (case k6 => first | exact rfl | assumption); (case k7 => ((try dsimp +zetaDelta only [ktrTop, Around.deeper]); omega)); (case k8 => ((try dsimp +zetaDelta only [ktrTop, Around.deeper]); omega)); (case hz => (rw [List.length_append, List.length_singleton]; omega)))
        intro e9 h9 tk9 F9 N9
        (try dsimp only at F9 N9 ⊢)
        k_steps
        refine ⟨?_⟩
        rename (¬ (Int.fmod _ _ = 0)) => hz
        rename Fr _ _ _ _ => F9
        rename News _ _ _ _ => N9
        have hm0 : ¬ (ca - 48) % (cb - 48) = 0 := by omega
        (try dsimp only at F9)
        have hpn := pairStep_ok (en := en) hnew hp
        have hps : pairStep (en, new) (ca, cb) = (en, new ++ [(cb, 48 + (ca - 48) % (cb - 48)), (cb, 48 + (cb - 48) - (ca - 48) % (cb - 48))]) := by
          unfold pairStep; dsimp only; rw [if_neg hm0]
        rw [hps] at hst hpn
        refine few_end (en' := en) (new' := _) (items' := items ++ [_] ++ [_]) F9 N9 rfl ⟨rfl, rfl, rfl, rfl, rfl, trivial⟩ rfl ?_ ?_ hst hpn ?_
        · simp only [List.length_append, List.length_cons, List.length_nil]; omega
        · have q2 : ∀ ta tb : Tok, QIn (items ++ [.str ({ cps := #[cb] } ++ { cps := #[(48 + Int.fmod ((ca : Int) - 48) ((cb : Int) - 48)).toNat] }) ta] ++ [.str ({ cps := #[cb] } ++ { cps := #[(48 + ((cb : Int) - 48) - Int.fmod ((ca : Int) - 48) ((cb : Int) - 48)).toNat] }) tb]) (ps.drop (i + 1) ++ new ++ [(cb, 48 + (ca - 48) % (cb - 48))] ++ [(cb, 48 + (cb - 48) - (ca - 48) % (cb - 48))]) := fun ta tb =>
            QIn.snoc (by rw [hmod, show (48 + ((cb : Int) - 48) - (((ca - 48) % (cb - 48) : Nat) : Int)).toNat = 48 + (cb - 48) - (ca - 48) % (cb - 48) by omega]; rfl) (QIn.snoc (by rw [hmod, show (48 + (((ca - 48) % (cb - 48) : Nat) : Int)).toNat = 48 + (ca - 48) % (cb - 48) by omega]; rfl) hQ2)
          simp only [List.append_assoc, List.cons_append, List.nil_append] at q2 ⊢
          exact q2 _ _
        · simp only [List.length_append, List.length_cons, List.length_nil]; omega
    · rintro m₁ news₁ h9 tk9 ⟨t1, t2, t3, t4, en, new, items, e, rest, rfl, rfl, hQ, hfold, hnew, hlen⟩ F6 N6
      simp only [over] at F6
      dsimp only [fewLed] at N6
      (try clear F5); (try clear N5)
      dsimp only
      k_steps
      refine ⟨?_⟩
      rename Fr _ _ _ _ => F9
      rename News _ _ _ _ => N9
      cases n with
      | zero => cases hf
      | succ n => exact few_next F9 N9 ⟨rfl, rfl, rfl, rfl, trivial⟩ rfl rfl hQ hfold hnew hf
  · k_steps
    · rename News h₀ L _ _ => kN
      exact ret _ _ _ _ _ _ _ (by assumption) kN (ltN (by omega))
    · exact absurd (by assumption) hen
end Mine
end
section
open PySem PySem.W PyProof.Rows PySem.Calls
namespace Mine
section
variable {M : Model} {A : Around} {R : GenEnd} {Y : Protocol} {n : Nat} {s₀ : Shared} {c : Code} {fs : List Frame} {s : Shared} {env : Env}
  {K : Flow → Sem Fin} {H : Value → Sem Fin} {gd : Bool → Bool} {lv : List Value → List Value}
theorem seg_stmt {st : Stmt} (h : wpAny M (A.over c fs) (exec st env) (fun f s' => Seg M A R Y n s₀ c (K f) fs s') (fun x s' => Seg M A R Y n s₀ c (H x) fs s') s) :
    Seg M A R Y n s₀ c ((exec st env).wrap K H gd lv) fs s := seg_wrap h
theorem seg_If {test : PySem.Expr} {body orelse : List Stmt} {pos : Pos}
    (h : wpAny M (A.over c fs) (isTrue test env (eval test env)) (fun b s' => if b = true then Seg M A R Y n s₀ c ((execs body env).wrap K H gd lv) fs s' else Seg M A R Y n s₀ c ((execs orelse env).wrap K H gd lv) fs s') (fun x s' => Seg M A R Y n s₀ c (H x) fs s') s) :
    Seg M A R Y n s₀ c ((exec (.If test body orelse pos) env).wrap K H gd lv) fs s := by
  rw [arm_exec_If]
  refine seg_bind_wrap (wpAny_standAt ?_)
  refine seg_bind_wrap (wpAny_mono h (fun b s' hb => ?_) fun _ _ e => e)
  cases b with
  | true => rw [if_pos rfl] at hb ⊢; exact hb
  | false => rw [if_neg Bool.false_ne_true] at hb ⊢; exact hb
theorem seg_For {target iter : PySem.Expr} {body orelse : List Stmt} {pos : Pos}
    (h : wpAny M (A.over c fs) (eval iter env) (fun x s₁ => wpAny M (A.over c fs) (pyIter x) (fun it s₂ => ∀ p, Seg M A R Y n s₀ (.forLoop target it body orelse env) (M.den (.forLoop target it body orelse env))
      (.ret (fun r => ((match r with | .ok f => (.pure f : Sem Flow) | .error e => .raise e).onRaise fun (x : Value) => do
        if (← field x 1) == Value.none then unsupported "frame.own-activation:exception-without-traceback"
        setFlight x env.frame).wrap K H gd lv) none (gd false) (lv []) c p [] :: fs) s₂) (fun x s' => Seg M A R Y n s₀ c (H x) fs s') s₁) (fun x s' => Seg M A R Y n s₀ c (H x) fs s') s)
    (hs : ∀ x, foldedSetIterable iter env x = pure x := by intro _; rfl) :
    Seg M A R Y n s₀ c ((exec (.For target iter body orelse pos) env).wrap K H gd lv) fs s := by
  rw [arm_exec_For]
  refine seg_bind_wrap (wpAny_standAt ?_)
  refine seg_bind_wrap (wpAny_mono h (fun x s₁ h₁ => ?_) fun _ _ e => e)
  refine seg_bind_wrap (wpAny_of_eq (hs x) ?_)
  refine seg_bind_wrap (wpAny_standAt ?_)
  refine seg_bind_wrap (wpAny_holding (wpAny_mono h₁ (fun it s₂ h₂ => ?_) fun _ _ e => e))
  exact seg_call h₂
theorem seg_ind {t : Sem Fin} (J : Nat → Nat → Shared → Shared → Prop)
    (turn : ∀ k n s₀ s, (∀ k' n' s₀' s', k' < k → J k' n' s₀' s' → Seg M A R Y n' s₀' c t fs s') → J k n s₀ s → Seg M A R Y n s₀ c t fs s) : ∀ k n s₀ s, J k n s₀ s → Seg M A R Y n s₀ c t fs s := by
  intro k
  induction k using Nat.strongRecOn with
  | ind k ih => exact fun n s₀ s hJ => turn k n s₀ s (fun k' n' s₀' s' hk hJ' => ih k' hk n' s₀' s' hJ') hJ
end
section
variable {prog : Program} {w : World} {A : Around} {R : GenEnd} {Y : Protocol} {n : Nat} {s₀ : Shared} {fs : List Frame} {s : Shared} {env : Env}
noncomputable def noted (env : Env) (e : Value) : Sem Fin := (do noteFrame e env; theTreesLotGoes e : Sem Unit).bind fun _ => .raise e
noncomputable def turnEnd (L : Code) : Flow → Sem Fin
  | .next | .cont => .pure (.again L)
  | .brk => .pure (.done .next)
  | .ret v => .pure (.done (.ret v))
theorem seg_forTurn {target : PySem.Expr} {it : Value} {body orelse : List Stmt}
    (h : wpAny (model prog w) (A.over (.forLoop target it body orelse env) fs) (pyNext it) (fun r s₁ => match r with
      | none => Seg (model prog w) A R Y n s₀ (.block orelse env) ((model prog w).den (.block orelse env)) fs s₁
      | some v => wpAny (model prog w) (A.over (.forLoop target it body orelse env) fs) (letOwnedTupleGo target it v) (fun _ s₂ => wpAny (model prog w) (A.over (.forLoop target it body orelse env) fs) (assign target env v) (fun _ s₃ =>
          Seg (model prog w) A R Y n s₀ (.forLoop target it body orelse env) ((execs body env).wrap (turnEnd (.forLoop target it body orelse env)) (noted env) id id) fs s₃)
        (fun x s' => Seg (model prog w) A R Y n s₀ (.forLoop target it body orelse env) (noted env x) fs s') s₂)
        (fun x s' => Seg (model prog w) A R Y n s₀ (.forLoop target it body orelse env) (noted env x) fs s') s₁)
      (fun x s' => Seg (model prog w) A R Y n s₀ (.forLoop target it body orelse env) (noted env x) fs s') s) :
    Seg (model prog w) A R Y n s₀ (.forLoop target it body orelse env) ((model prog w).den (.forLoop target it body orelse env)) fs s := by
  show Seg _ A R Y n s₀ _ ((forTurn target it body orelse env).onRaise (fun x => do noteFrame x env; theTreesLotGoes x)) fs s
  unfold forTurn
  rw [Sem.onRaise_eq_wrap]
  refine seg_bind_wrap (wpAny_standAt ?_)
  refine seg_bind_wrap (wpAny_onRaise (wpAny_mono h (fun r s₁ h₁ => ?_) fun x s' hx => wpAny_standAt hx))
  cases r with
  | none => exact seg_again rfl h₁
  | some v =>
    refine seg_bind_wrap (wpAny_mono h₁ (fun _ s₂ h₂ => ?_) fun x s' hx => hx)
    refine seg_bind_wrap (wpAny_mono h₂ (fun _ s₃ h₃ => ?_) fun x s' hx => hx)
    rw [Sem.bind_eq_wrap', Sem.wrap_wrap]
    refine (Sem.wrap_congr (execs body env) _ _ (fun f => ?_) (fun e => rfl)) ▸ h₃
    cases f <;> rfl
theorem seg_block {stmts : List Stmt}
    (h : Seg (model prog w) A R Y n s₀ (.block stmts env) ((execs stmts env).wrap (fun f => .pure (.done f)) (noted env) id id) fs s) :
    Seg (model prog w) A R Y n s₀ (.block stmts env) ((model prog w).den (.block stmts env)) fs s := by
  show Seg _ A R Y n s₀ _ (((execs stmts env).onRaise (fun x => do noteFrame x env; theTreesLotGoes x)) >>= fun f => pure (.done f)) fs s
  rw [Sem.onRaise_eq_wrap, Sem.bind_eq_wrap', Sem.wrap_wrap]
  refine (Sem.wrap_congr (execs stmts env) _ _ (fun f => ?_) (fun e => ?_)) ▸ h
  · rfl
  · show noted env e = _
    unfold noted
    rw [Sem.bind_eq_wrap, Sem.bind_eq_wrap, Sem.wrap_wrap]
    rfl
end
end Mine
end
section
open PySem PySem.W PyProof.Rows PySem.Calls
namespace Mine
section
variable {prog : Program} {w : World} {A A₀ : Around} {E : Value → Shared → Prop} {s : Shared} {base h₀ : Heap} {L : Addr} {m : PySem.Str → Option Value} {news : List (Addr × Obj)} {K : Frag} {p : Program} {loose : List PySem.Str} {mean : ExcName → Option Value} {mg mb : PySem.Str → Option Value}
/-- the call of a generator function: the object alone -/
theorem code_gen {R : Result → Shared → Prop} {name qual : PySem.Str} {params : Arguments} {body : List Stmt} {scope : Scope} {dV kV doc pm cdv ct oc : Value} {an od : Option Addr} {osl : Array (Option Value)} {f : Addr} {args : Args} {binds : List (PySem.Str × Value)}
    (F : Fr h₀ L s.heap m) (X₀ : K.In h₀) (T : Top p loose mean mg mb h₀)
    (ho : K.lookup f = some ⟨oc, od, .func (fnOf name qual params body scope dV kV doc pm an cdv ct), osl⟩) (hcd : codeIn K cdv qual = true) (hroom : A.depth < recursionLimit)
    (hbind : BindsTo s (fnOf name qual params body scope dV kV doc pm an cdv ct) args binds) (hloc : ∀ y ∈ binds, scope.names.lookup y.1 = some .local)
    (hcell : ∀ x ∈ scope.names, x.2 ≠ .cell) (hk : scope.kind = .function) (hco : scope.isCoroutine = false) (hgen : scope.isGenerator = true)
    (h : ∀ (h₁ : Heap) (tk : Tok) (nm qn : Value), h₁.Ns s.heap.objs.size (fun y => binds.reverse.lookup y) → (∀ b o, s.heap.get? b = some o → h₁.get? b = some o) → h₁.objs.size = s.heap.objs.size + 1 →
      R (.ok (.ret (.ref h₁.objs.size))) { s with gens := s.gens.push (.fresh (.func body (envOf qual scope s.heap.objs.size f cdv))), toks := tk, heap := h₁.push { cls := .type "generator", data := .fields #[.int s.gens.size 0, nm, qn] } }) :
    codeAny (model prog w) A (.call (.ref f) args) R s := by
  have hlim : s.heap.NoLimit := T.nolimit.keeps F.keep
  refine codeAny_call_generator hroom ((X₀.keeps F.keep) _ _ ho) rfl hco hgen rfl (codeRec_of (X₀.keeps F.keep) hcd) (hbind _ _ _ _ ?_)
  refine wpAny_newFunctionEnv hcell hloc (fun h₁ hns hsb => ⟨hlim.fresh _ hsb, ?_⟩) hk
  exact h h₁ _ _ _ hns (fun b o e => hsb.extBut b o (Nat.ne_of_lt (Heap.lt_size e)) (Heap.get?_push_of_some _ e)) (by rw [hsb.1]; exact Heap.size_push ..)
/-- the next item of a generator function -/
theorem next_gen {a : Addr} {g n : Nat} {gs : GenState} {P : Nat → Shared → Shared → Prop} {Y : Protocol} {Q : Option Value → Shared → Prop} (hh : A.handled = none)
    (hl : s.heap.NoLimit) (hroom : A.depth < recursionLimit)
    (hg : s.heap.IsGen a g) (hgs : s.gens[g]? = some gs)
    (hgo : gs.Goes (model prog w) A.in1 (fun n s₀ r s₁ => r = .ok (.ret .none) ∧ P n s₀ s₁) Y n (.send .none) (s.setGen g .running))
    (hY : ∀ v s₁ gs', gs'.bare = true → Y (n - 1) (s.setGen g .running) v s₁ (fun r' s'' => match n with
        | 0 => False
        | m + 1 => gs'.Goes (model prog w) A.in1 (fun n s₀ r s₁ => r = .ok (.ret .none) ∧ P n s₀ s₁) Y m r' s'') → Q (some v) (s₁.setGen g gs'))
    (hP : ∀ s₁, P n (s.setGen g .running) s₁ → ∀ h', (∀ b o, s₁.heap.get? b = some o → h'.get? b = some o) → Q none { s₁.setGen g .finished with heap := h' }) :
    wpAny (model prog w) A (pyNext (.ref a)) Q E s := by
  unfold pyNext
  refine wpAny_bind (wpAny_attempt (wpAny_callSpecial?_slot (name := Str.ofString "__next__") hg.typeIs slot_gen_next
    (wpAny_call_entry slot_gen_next hg.typeIs entry_gen_next ?_ (args_gen_next _))))
  show wpAny _ A.in1 (Builtin.Generator.genWake (.ref a) (.send .none)) _ _ s
  unfold Builtin.Generator.genWake
  refine wpAny_bind (wpAny_holding (wpAny_genNumber hg (wpAny_bind (wpAny_genState hgs ?_))))
  cases gs with
  | running => exact hgo.elim
  | finished => exact hgo.elim
  | _ =>
    refine wpAny_bind (wpAny_roomToWake hl hroom ?_)
    show wpAny _ A.in1 (.resume g (.send .none) [] _) _ _ s
    refine wpAny_resumeQ hgs hgo (fun x s₁ hx => ?_) (fun v s₁ gs' hb hv => ?_)
    · obtain ⟨rfl, hp⟩ := hx
      show wpAny _ A.in1 (newExc (.type "StopIteration") [] >>= _) _ _ _
      refine wpAny_bind ?_
      simp only [newExc, newTuple]
      refine wpAny_bind (wpAny_newObj_type ?_ (by size_fits))
      refine wpAny_bind (m := firstArgMember _ _) (wpAny_of_eq (a := Value.none) (by first | rfl | (simp only [firstArgMember]; rfl)) ?_)
      refine wpAny_newObj_type ?_ (by size_fits)
      simp only [raiseNew]
      refine wpAny_bind (wpAny_bind (wpAny_handled ?_))
      first | rw [show A.in1.handled = none from hh] | rw [hh]
      refine wpAny_throw ?_
      refine wpAny_bind (wpAny_isInstance (T := "StopIteration") (b := true) ⟨_, Heap.get?_push_size _ rfl, rfl⟩ isSubtype_stop ?_)
      exact wpAny_pure (hP s₁ hp _ fun b o hb => Heap.get?_push_of_some _ (Heap.get?_push_of_some _ hb))
    · exact wpAny_pure ⟨v, rfl, wpAny_pure (hY v s₁ gs' hb hv)⟩
end
/-- the units of the signs that are left -/
noncomputable def unitsF : Bool → List Nat → List (List Nat)
  | _, [] => []
  | true, c :: r => [92, c] :: unitsF false r
  | false, c :: r => if c = 92 then unitsF true r else [c] :: unitsF false r
noncomputable def pendF : Bool → List Nat → Bool
  | e, [] => e
  | true, _ :: r => pendF false r
  | false, c :: r => pendF (c == 92) r
noncomputable def unitGo (lim C : Nat) (wr : List Addr) (U : List (List Nat)) : Protocol := fun m s₀ v s kap =>
  (∃ (c : Addr) (i : Int) (ti : Tok) (u : List Nat) (tu : Tok), v = .ref c ∧ U[U.length - 1 - m]? = some u ∧ s.heap.get? c = some { cls := .type "tuple", data := .seq #[.int i ti, .str ⟨u.toArray⟩ tu] }) ∧
  (∃ (h' : Heap) (tk : Tok), s = { s₀ with heap := h', toks := tk } ∧ ∀ b o, b < lim → b ≠ C → s₀.heap.get? b = some o → h'.get? b = some o) ∧
  ∀ s'' : Shared, (∀ b o, b ∉ wr → s.heap.get? b = some o → s''.heap.get? b = some o) → kap (.send .none) s''
noncomputable def genEnd (lim C : Nat) : GenEnd := fun n s₀ r s₁ => r = .ok (.ret .none) ∧ (n = 0 ∧ ∃ (h' : Heap) (tk : Tok), s₁ = { s₀ with heap := h', toks := tk } ∧ ∀ b o, b < lim → b ≠ C → s₀.heap.get? b = some o → h'.get? b = some o)
end Mine
end
section
open PySem PySem.W PyProof.Rows PySem.Calls
namespace Mine
variable {prog : Program} {w : World} {p : Program} {loose : List Str} {mean : ExcName → Option Value} {mg mb : Str → Option Value}
  {dp un : Nat} {gd : Option (List Code)} {cn : Str} {cs : Scope} {a : Addr} {ccd : Value} {cl : List (Str × Addr)} {outer : List Env} {A₀ : Around} {base h₀ : Heap} {L : Addr} {m : Str → Option Value} {s : Shared} {Q E : Value → Shared → Prop} {news : List (Addr × Obj)}
noncomputable abbrev low (lim C : Nat) : List Addr := (List.range lim).filter (· ≠ C)
noncomputable def Covers (hg : Heap) (C lim : Nat) (h : Heap) (ow : List (Addr × Obj)) : Prop := (∀ b o, b < lim → b ≠ C → h.get? b = some o → hg.get? b = none → (b, o) ∈ ow) ∧ ∀ p ∈ ow, p.1 < lim
theorem covers_own (hg : Heap) (C lim : Nat) (h : Heap) : Covers hg C lim h (ownOf hg (low lim C) h) ∧ News hg C h (ownOf hg (low lim C) h) := by
  refine ⟨⟨fun b o hb hne e hn => mem_ownOf (List.mem_filter.mpr ⟨List.mem_range.mpr hb, by simpa using hne⟩) hn e, fun p hp => List.mem_range.mp (List.mem_filter.mp (ownOf_sub p hp)).1⟩, news_ownOf fun hm => ?_⟩
  have := (List.mem_filter.mp hm).2
  simp at this
theorem kept_of {hg h h' : Heap} {C lim : Nat} {m' : PySem.Str → Option Value} {ow ow' : List (Addr × Obj)} (k : ∀ b o, hg.get? b = some o → h.get? b = some o) (F : Fr hg C h' m') (Cv : Covers hg C lim h ow) (N : News hg C h' ow') (hs : ∀ p ∈ ow, p ∈ ow') :
    ∀ b o, b < lim → b ≠ C → h.get? b = some o → h'.get? b = some o := fun b o hb hne e => by
  cases hn : hg.get? b with
  | none => exact (N _ (hs _ (Cv.1 b o hb hne e hn))).1
  | some o₀ =>
    have := k b o₀ hn
    rw [e] at this
    cases this
    exact F.keep b o hn
theorem enum_walks {prog : Program} {w : World} {it n : Nat} {h : Heap} {i : Int} {old : Value} {P : Nat → Value → Prop} {St : Nat → Heap → Prop} (hD : ∀ A : Around, A.handled = none → Draws prog w A it [it] n P St) (_he : IsEnum h (it + 1) it i old) (A : Around) (hA : A.handled = none) :
    WalksT prog w A (it + 1) [it + 1, it] [it + 1, it] n (fun i vals => ∃ t x, P i x ∧ vals = #[.int i t, x]) (fun i h => (∃ old, IsEnum h (it + 1) it i old) ∧ St i h) (fun i T h => (∃ x, IsEnumOut h (it + 1) it ((i : Int) + 1) x T) ∧ St (i + 1) h ∧ T ≠ it + 1 ∧ T ≠ it) :=
  WalksT.enumerateD (hD A.in1 hA) (it + 1) (Nat.succ_ne_self _) (fun hm => Nat.succ_ne_self _ (List.mem_singleton.mp hm)) (List.mem_singleton.mpr rfl)
theorem off2 {b lim it : Nat} (hb : b < lim) (h : lim - 1 < it) : b ∉ [it + 1, it] := fun hm => by
  rcases List.mem_cons.mp hm with e | hm
  · omega
  · have := List.mem_singleton.mp hm; omega
theorem lt_pre {c lim : Nat} (h : c < lim - 1) : c < lim := by omega
theorem off3 {b C lim it : Nat} (hb : b ∈ [it + 1, it]) (hC : C < lim - 1) (h : lim - 1 < it) : b ≠ C := by
  rcases List.mem_cons.mp hb with e | hm
  · omega
  · have := List.mem_singleton.mp hm; omega
theorem own_pack {prog : Program} {w : World} {A : Around} {I : Addr} {fp wr : List Addr} {n : Nat} {Pt : Nat → Array Value → Prop} {St : Nat → Heap → Prop} {Mid : Nat → Addr → Heap → Prop} {hg h : Heap} {C : Addr} {ow : List (Addr × Obj)} {m : PySem.Str → Option Value} {j : Nat}
    (W : WalksT prog w A I fp wr n Pt St Mid) (hC : C ∉ fp) (F : Fr hg C h m) (N : News hg C h ow) (hst : St j h) :
    ∃ own, News hg C h (own ++ ow) ∧ ∀ h' m' ow', Fr hg C h' m' → News hg C h' ow' → (∀ p ∈ own, p ∈ ow') → St j h' :=
  ⟨_, (news_ownOf hC).append N, fun h' m' ow' F' N' hs => W.frame _ _ _ hst fun b hb o e => by
    cases hn : hg.get? b with
    | some o₀ =>
      have : o₀ = o := by have q := F.keep b o₀ hn; rw [e] at q; exact (Option.some.inj q).symm
      exact this ▸ F'.keep b o₀ hn
    | none => exact (N' _ (hs _ (mem_ownOf hb hn e))).1⟩
theorem drop_at {x : PySem.Str} {i c : Nat} (hc : x.cps[i]? = some c) : x.cps.toList.drop i = c :: x.cps.toList.drop (i + 1) := by
  obtain ⟨h, e⟩ := Array.getElem?_eq_some_iff.mp hc
  rw [List.drop_eq_getElem_cons (by simpa using h), Array.getElem_toList, e]
theorem unit_out {hg h' : Heap} {C lim D m it tk : Nat} {wr : List Addr} {U done more : List (List Nat)} {u : List Nat} {s₀ : Shared} {i : Int} {ti tu : Tok} {y : PySem.Str} {own ow : List (Addr × Obj)} {m' : PySem.Str → Option Value} {kap : Resume → Shared → Prop} {St : Heap → Prop}
    (hU : U = done ++ u :: more) (hm : m = more.length) (hy : y = ⟨u.toArray⟩) (F : Fr hg C h' m') (N : News hg C h' ((D, { cls := .type "tuple", data := .seq #[.int i ti, .str y tu] }) :: (own ++ ow))) (Cv : Covers hg C lim s₀.heap ow) (k0 : ∀ b o, hg.get? b = some o → s₀.heap.get? b = some o)
    (hwr : ∀ b ∈ wr, b ≠ C ∧ C < b ∧ b < lim) (hit : lim - 1 < it) (hfr : ∀ g : Heap, (∀ b ∈ [it + 1, it], ∀ o, h'.get? b = some o → g.get? b = some o) → St g)
    (resume : ∀ s'' ow'', Fr hg C s''.heap m' → Covers hg C lim s''.heap ow'' → News hg C s''.heap ow'' → (∀ b o, hg.get? b = some o → s''.heap.get? b = some o) → St s''.heap → kap (.send .none) s'') :
    unitGo lim C wr U m s₀ (.ref D) { heap := h', gens := s₀.gens, drawn := s₀.drawn, toks := tk, os := s₀.os } kap := by
  subst hm hy
  refine ⟨⟨D, i, ti, u, tu, rfl, ?_, (N _ List.mem_cons_self).1⟩, ⟨h', tk, rfl, kept_of k0 F Cv N fun p hp => List.mem_cons_of_mem _ (List.mem_append_right _ hp)⟩, fun s'' hal => ?_⟩
  · subst hU
    rw [List.length_append, List.length_cons, show done.length + (more.length + 1) - 1 - more.length = done.length by omega, List.getElem?_append_right (Nat.le_refl _), Nat.sub_self]
    rfl
  · obtain ⟨Cv2, N2⟩ := covers_own hg C lim s''.heap
    have hk : ∀ b o, hg.get? b = some o → s''.heap.get? b = some o := fun b o e => hal b o (fun hb => by
      have := Heap.lt_size e
      have h2 := (hwr b hb).2.1
      have h3 := F.above
      exact absurd (Nat.lt_of_lt_of_le this h3) (Nat.not_lt.mpr (Nat.le_of_lt h2))) (F.keep b o e)
    refine resume s'' _ ⟨F.ns.at' fun o e => hal _ o (fun hb => (hwr _ hb).1 rfl) e, hk, F.above⟩ Cv2 N2 hk (hfr _ fun b hb o e => hal b o (fun hw => ?_) e)
    exact off2 (hwr b hw).2.2 hit hb
theorem str_one {c d : Nat} (h : ((⟨#[c]⟩ : PySem.Str) == ⟨#[d]⟩) = true) : c = d := by
  have := eq_of_beq h
  injection this with e
  injection e with e
  injection e
theorem fr_over {h₀ h : Heap} {L : Addr} {m : PySem.Str → Option Value} {ps : List (PySem.Str × Value)} (F : Fr h₀ L h m) (hR : Reads m ps) : Fr h₀ L h (over ps m) := by
  rw [← over_self hR]; exact F
noncomputable def GenJ (hg : Heap) (C e it : Addr) (x : PySem.Str) (lim : Nat) (St : Nat → Heap → Prop) (k n : Nat) (s₀ s : Shared) : Prop :=
  ∃ (i : Nat) (esc : Bool) (rest : PySem.Str → Option Value) (ow : List (Addr × Obj)), i ≤ x.cps.toList.length ∧ k = x.cps.toList.length - i ∧ n = (unitsF esc (x.cps.toList.drop i)).length ∧
    (∃ done, unitsF false x.cps.toList = done ++ unitsF esc (x.cps.toList.drop i)) ∧ pendF esc (x.cps.toList.drop i) = false ∧
    Fr hg C s.heap (over [(Str.ofString "escape", Value.bool esc)] rest) ∧ ((∃ old, IsEnum s.heap e it i old) ∧ St i s.heap) ∧
    Covers hg C lim s₀.heap ow ∧ News hg C s.heap ow ∧ (∀ b o, hg.get? b = some o → s₀.heap.get? b = some o) ∧ ∃ (h' : Heap) (tk : Tok), s = { s₀ with heap := h', toks := tk }
theorem str_draws (prog : Program) (w : World) (x : PySem.Str) (t : Tok) (it : Addr) (h : Heap) (hi : h.IsStrIter it (strIterType x) x t 0) :
    ∃ St : Nat → Heap → Prop, (∀ A : Around, A.handled = none → Draws prog w A it [it] x.cps.size (fun i v => ∃ c u, x.cps[i]? = some c ∧ v = .str ⟨#[c]⟩ u) St) ∧ St 0 h := by
  unfold strIterType at hi
  split at hi
  · exact ⟨_, fun A hA => Draws.strAscii hA it x t, hi⟩
  · exact ⟨_, fun A hA => Draws.strWide hA it x t, hi⟩
local macro_rules | `(tactic| walk_at "call type:enumerate") => `(tactic| (refine call_enumerate_str ?_; refine Hold.out ?_))
set_option maxHeartbeats 4000000 in
theorem gen_call {x : PySem.Str} {tx : Tok} (F : Fr h₀ L s.heap m) (X : (KK w.params).In h₀) (T : Top p loose mean mg mb h₀) (hdp : dp + 3 < recursionLimit) (hu : un + 24 < cLine)
  (hpend : pendF false x.cps.toList = false)
  (ret : ∀ (a C : Addr) (gs : GenState) (h' : Heap) (tk' : Tok), C = s.heap.objs.size → a = C + 1 → h'.objs.size = C + 2 → h'.IsGen a s.gens.size → (∀ b o, s.heap.get? b = some o → h'.get? b = some o) → gs.bare = true →
    (∀ (A : Around) (lim : Nat) (wr : List Addr) (s'' : Shared), A.handled = none → A.depth + 5 < recursionLimit → (∃ o, s''.heap.get? (lim - 1) = some o) → C < lim - 1 → (∀ b ∈ wr, b ≠ C ∧ C < b ∧ b < lim) → (∀ b o, b ∉ wr → h'.get? b = some o → s''.heap.get? b = some o) →
      gs.Goes (model prog w) A (genEnd lim C) (unitGo lim C wr (unitsF false x.cps.toList)) (unitsF false x.cps.toList).length (.send .none) s'') →
    Q (.ref a) {s with gens := s.gens.push gs, heap := h', toks := tk'}) :
  wpAny (model prog w) (ktrTop dp un gd cn cs L a ccd cl outer) (call (.ref 42) [.str x tx]) Q E s := by
  refine wpAny_call ?_
  refine' code_gen ?k1 ?k2 ?k3 ?k6 ?k7 ?k8 ?k9 ?kB ?kC ?c2 ?c3 ?c4 ?_
  case k1 => k_asm
  case k2 => k_asm
  case k3 => k_asm
  case k6 => k_is
  case k7 => k_is
  case k8 => (try dsimp only [ktrTop, Around.deeper]); omega
  case k9 => exact BindsTo.of_eq rfl
  case kB => exact locs rfl
  case kC => decide
  case c2 => exact rfl
  case c3 => exact rfl
  case c4 => exact rfl
  intro h₁ tk nm qn hns hkeep hsz
  dsimp only
  refine ret _ s.heap.objs.size _ _ _ rfl hsz (by rw [Heap.size_push, hsz]) ⟨_, _, _, Heap.get?_push_size _ rfl, rfl, rfl, rfl⟩ (fun b o e => Heap.get?_push_of_some _ (hkeep b o e)) rfl ?_
  intro A lim wr s'' hh hroom hlim hC hwr hk''
  refine ⟨rfl, ?_⟩
  have hk2 : ∀ b o, s.heap.get? b = some o → s''.heap.get? b = some o := fun b o e => hk'' b o (fun hb => absurd (Heap.lt_size e) (Nat.not_lt.mpr (Nat.le_of_lt (hwr b hb).2.1))) (Heap.get?_push_of_some _ (hkeep b o e))
  have hns2 : s''.heap.Ns s.heap.objs.size (fun y => [((Str.ofString "addr" : PySem.Str), Value.str x tx)].reverse.lookup y) := by
    refine Heap.Ns.at' (h := h₁) hns fun o e => hk'' _ o (fun hb => (hwr _ hb).1 rfl) (Heap.get?_push_of_some _ e)
  have F1 : Fr s.heap s.heap.objs.size s''.heap (fun y => if y = Str.ofString "addr" then some (Value.str x tx) else none) := by
    refine ⟨?_, hk2, Nat.le_refl _⟩
    have e : (fun y : PySem.Str => [((Str.ofString "addr" : PySem.Str), Value.str x tx)].reverse.lookup y) = fun y => if y = Str.ofString "addr" then some (Value.str x tx) else none := by
      funext y
      by_cases hy : y = Str.ofString "addr"
      · subst hy; simp
      · have : (y == Str.ofString "addr") = false := by simpa using hy
        simp [List.lookup, this, hy]
    rw [e] at hns2
    exact hns2
  clear hns2
  have T1 : Top p loose mean mg mb s.heap := T.keeps (fun b o e => F.keep b o e)
  have X1 : (KK w.params).In s.heap := X.keeps F.keep
  clear ret
  obtain ⟨Cv, N1⟩ := covers_own s.heap s.heap.objs.size lim s''.heap
  generalize ownOf s.heap (low lim s.heap.objs.size) s''.heap = ow at Cv N1
  obtain ⟨hp, g, d, tk, os⟩ := s''
  refine seg_func ?_
  refine seg_execs_cons (seg_stmt ?_)
  k_steps
  refine seg_execs_cons (seg_stmt ?_)
  k_steps
  refine seg_execs_cons (seg_For ?_)
  k_steps
  refine ⟨?_⟩
  intro h5 he hit hz5 hk5
  dsimp only at he hit hz5 hk5 ⊢
  rename Fr _ _ _ _ => F3
  obtain ⟨St, hD, st0⟩ := str_draws prog w x tx _ h5 hit
  have W := enum_walks hD he
  refine wpAny_pyIter_enum he ?_
  intro pp
  rename News _ _ _ _ => N3
  obtain ⟨ol, hlim⟩ := hlim
  dsimp only at hlim hk2 Cv
  have hl1 : lim - 1 < lim := Nat.sub_one_lt fun e => by rw [e] at hC; exact absurd hC (Nat.not_lt_zero _)
  have hlim3 := Heap.lt_size (kept_of hk2 F3 Cv N3 (fun _ h => h) (lim - 1) ol hl1 (Nat.ne_of_gt hC) hlim)
  have hCs := F3.ns.lt
  have F5 := fr_over (ps := [(Str.ofString "escape", Value.bool false)]) (F3.keeps hk5) ⟨rfl, trivial⟩
  have N5 := N3.grown hk5
  generalize hnn : (unitsF false x.cps.toList).length = nn
  have hCn : s.heap.objs.size ∉ [_] := fun hm => absurd (List.mem_singleton.mp hm) (Nat.ne_of_lt hCs)
  refine seg_ind (J := GenJ s.heap s.heap.objs.size _ _ x lim St) ?_ _ _ _ _ ⟨0, false, _, ow, Nat.zero_le _, rfl, hnn.symm, ⟨[], rfl⟩, hpend, F5, ⟨⟨_, he⟩, st0⟩, Cv, N5, hk2, h5, _, rfl⟩
  rintro k n s₀ s2 ih ⟨i, esc, rest, ow, hi, rfl, rfl, ⟨done, hU⟩, hpe, Fg, hst, Cv, Ng, hk0, h6, tk6, rfl⟩
  refine seg_forTurn ?_
  by_cases hlt : i < x.cps.size
  · refine (W _ ?hA).item i _ _ _ hlt hst fun T vals h7 tk7 hvals hT htup hmid hk7 => ?_
    case hA => exact hh
    obtain ⟨ti, v, ⟨c, u, hc, rfl⟩, rfl⟩ := hvals
    refine (W _ ?hA).go _ _ _ i T _ _ _ hmid fun h8 hst8 hk8 => ?_
    case hA => exact hh
    have ht8 := htup.at fun o e => hk8 T o ((W A hh).apart i T h7 hmid) e
    refine wpAny_assign_Tuple hh ht8 rfl rfl fun h9 hx9 => ?_
    dsimp only at hk7 hk8 hx9 ⊢
    have hlt' : i < x.cps.toList.length := by simpa using hlt
    have hdec : x.cps.toList.length - (i + 1) < x.cps.toList.length - i := Nat.sub_lt_sub_left hlt' (Nat.lt_succ_self i)
    have up9 : ∀ b o, b < lim → h6.get? b = some o → h9.get? b = some o := fun b o hb e => by
      have nb := off2 hb hlim3
      have e8 := hk8 b o nb (hk7 b o nb e)
      exact hx9 b o (Nat.ne_of_lt (Heap.lt_size e8)) e8
    have F9 : Fr s.heap s.heap.objs.size h9 (over [(Str.ofString "escape", Value.bool esc)] rest) := ⟨Fg.ns.at' fun o e => up9 _ o (lt_pre hC) e, fun b o e => up9 b o (Nat.lt_trans (Heap.lt_size e) (lt_pre hC)) (Fg.keep b o e), Fg.above⟩
    have N9 : News s.heap s.heap.objs.size h9 ow := fun p hp => ⟨up9 _ _ (Cv.2 p hp) (Ng p hp).1, (Ng p hp).2⟩
    show wpAny _ _ (do holding _ (assign _ _ _); do holding _ (assign _ _ _); pure ()) _ _ _
    refine wpAny_bind (wpAny_holding (wpAny_assign_Name (wpAny_storeName_local rfl F9.ns (fun h10 hn10 hs10 => ?_) rfl)))
    have F10 := F9.set hn10 hs10
    have N10 := N9.set hs10
    refine wpAny_bind (wpAny_holding (wpAny_assign_Name (wpAny_storeName_local rfl F10.ns (fun h11 hn11 hs11 => wpAny_pure ?_) rfl)))
    have F11 := F10.set hn11 hs11
    have N11 := N10.set hs11
    dsimp only at F11 N11 ⊢
    have st11 := (W A hh).frame _ _ h11 hst8 fun b hb o e => hs11.extBut b o (off3 hb hC hlim3) (hs10.extBut b o (off3 hb hC hlim3) (hx9 b o (Nat.ne_of_lt (Heap.lt_size e)) e))
    obtain ⟨own, N12, hback⟩ := own_pack (W A hh) (fun hm => off3 hm hC hlim3 rfl) F11 N11 st11
    simp only [over] at F11
    clear Fg F9 F10 N9 N10 N11 Ng hs10 hs11 hn10 hn11 up9 hx9 hk8 hk7 hst hst8 st11 ht8 htup hmid hT F3 N3 F5 N5
    cases esc with
    | true =>
      rw [show (unitsF true (List.drop i x.cps.toList)).length = (unitsF false (List.drop (i+1) x.cps.toList)).length + 1 from by rw [drop_at hc]; rfl]
      refine seg_execs_cons (seg_If ?_)
      k_steps
      refine seg_execs_cons (seg_Expr_Yield rfl rfl rfl ?_)
      k_steps
      rename Fr _ _ _ _ => F13
      rename News _ _ _ _ => N13
      rename (∀ (_ : Value) (_ : Shared), _) => hkap
      refine unit_out (St := fun g => (∃ old, IsEnum g _ _ _ old) ∧ St (i + 1) g) (by rw [hU, drop_at hc]; rfl) rfl rfl F13 N13 Cv hk0 hwr hlim3 (fun g hg => (W A hh).frame (i + 1) _ _ (hback _ _ _ F13 N13 (fun p hp => by simp [hp])) hg) ?_
      intro s14 ow14 F14 Cv14 N14 hk14 st14
      refine hkap .none s14 ?_
      obtain ⟨own2, N15, hback2⟩ := own_pack (W A hh) (fun hm => off3 hm hC hlim3 rfl) F14 N14 st14
      clear F13 N13 N14 st14 hkap hback
      (try clear F11); (try clear N12)
      obtain ⟨hp14, g14, d14, tk14, os14⟩ := s14
      dsimp only at F14 Cv14 N15 hk14
      refine seg_execs_cons (seg_stmt ?_)
      k_steps
      rename Fr _ _ _ _ => F16
      rename News _ _ _ _ => N16
      refine seg_again rfl (ih _ _ _ _ hdec ⟨i + 1, false, _, ow14, hlt', rfl, rfl, ⟨done ++ [[92, c]], by rw [hU, drop_at hc, List.append_assoc]; rfl⟩, by rw [drop_at hc] at hpe; exact hpe, fr_over F16 ⟨rfl, trivial⟩, hback2 _ _ _ F16 N16 (fun p hp => List.mem_append_left _ hp), Cv14, N16.right, hk14, _, _, rfl⟩)
    | false =>
      refine seg_execs_cons (seg_If ?_)
      k_steps
      refine seg_execs_cons (seg_If ?_)
      by_cases h92 : c = 92
      · subst h92
        k_steps
        rw [show (unitsF false (List.drop i x.cps.toList)).length = (unitsF true (List.drop (i+1) x.cps.toList)).length from by rw [drop_at hc]; rfl]
        refine seg_execs_cons (seg_stmt ?_)
        k_steps
        rename Fr _ _ _ _ => F16
        rename News _ _ _ _ => N16
        exact seg_again rfl (ih _ _ _ _ hdec ⟨i + 1, true, _, ow, hlt', rfl, rfl, ⟨done, by rw [hU, drop_at hc]; rfl⟩, by rw [drop_at hc] at hpe; exact hpe, fr_over F16 ⟨rfl, trivial⟩, hback _ _ _ F16 N16 (fun p hp => List.mem_append_left _ hp), Cv, N16.right, hk0, _, _, rfl⟩)
      · k_steps
        · exact absurd (str_one (by assumption)) h92
        · have hun : unitsF false (List.drop i x.cps.toList) = [c] :: unitsF false (List.drop (i+1) x.cps.toList) := by
            rw [drop_at hc]; exact if_neg h92
          rw [hun] at hU ⊢
          rw [List.length_cons]
          refine seg_execs_cons (seg_Expr_Yield rfl rfl rfl ?_)
          k_steps
          rename Fr _ _ _ _ => F13
          rename News _ _ _ _ => N13
          rename (∀ (_ : Value) (_ : Shared), _) => hkap
          refine unit_out (u := [c]) (St := fun g => (∃ old, IsEnum g _ _ _ old) ∧ St (i + 1) g) hU rfl rfl F13 N13 Cv hk0 hwr hlim3 (fun g hg => (W A hh).frame (i + 1) _ _ (hback _ _ _ F13 N13 (fun p hp => by simp [hp])) hg) ?_
          intro s14 ow14 F14 Cv14 N14 hk14 st14
          refine hkap .none s14 ?_
          obtain ⟨hp14, g14, d14, tk14, os14⟩ := s14
          exact seg_again rfl (ih _ _ _ _ hdec ⟨i + 1, false, _, ow14, hlt', rfl, rfl, ⟨done ++ [[c]], by rw [hU, List.append_assoc]; rfl⟩, by rw [drop_at hc] at hpe; unfold pendF at hpe; rw [show (c == 92) = false from by simpa using h92] at hpe; exact hpe, fr_over F14 ⟨rfl, trivial⟩, st14, Cv14, N14, hk14, _, _, rfl⟩)
  · have hie : i = x.cps.toList.length := Nat.le_antisymm hi (by simpa using hlt)
    have hie' : i = x.cps.size := by simpa using hie
    subst hie'
    rw [List.drop_of_length_le (Nat.le_of_eq hie.symm)] at hpe ⊢
    have hesc : esc = false := hpe
    subst hesc
    refine (W _ ?hA).done _ _ _ hst fun h7 tk7 hk7 => ?_
    case hA => exact hh
    dsimp only at hk7 ⊢
    have up9 : ∀ b o, b < lim → h6.get? b = some o → h7.get? b = some o := fun b o hb e => hk7 b o (off2 hb hlim3) e
    have F9 : Fr s.heap s.heap.objs.size h7 (over [(Str.ofString "escape", Value.bool false)] rest) := ⟨Fg.ns.at' fun o e => up9 _ o (lt_pre hC) e, fun b o e => up9 b o (Nat.lt_trans (Heap.lt_size e) (lt_pre hC)) (Fg.keep b o e), Fg.above⟩
    have N9 : News s.heap s.heap.objs.size h7 ow := fun p hp => ⟨up9 _ _ (Cv.2 p hp) (Ng p hp).1, (Ng p hp).2⟩
    simp only [over] at F9
    clear Fg Ng F3 N3 F5 N5
    refine seg_block ?_
    refine seg_leaf (.ok .next) ?_
    refine seg_execs_cons (seg_If ?_)
    k_steps
    rename Fr _ _ _ _ => F16
    rename News _ _ _ _ => N16
    refine seg_end (.ok (.ret .none)) ⟨rfl, rfl, _, _, rfl, ?_⟩
    exact kept_of hk0 F16 Cv N16 fun _ h => h
end Mine
end
section
open PySem PySem.W PyProof.Rows PySem.Calls
namespace Mine
section
variable {prog : Program} {w : World} {A : Around} {R : Result → Shared → Prop} {E : Value → Shared → Prop} {s : Shared} {env : Env} {h₀ : Heap} {L : Addr} {m : PySem.Str → Option Value}
theorem compLoop_go {elt target iter : PySem.Expr} {scope : Scope} {pos : Pos} {it acc : Value} (I : Nat → Shared → Prop)
    (turn : ∀ (E' : Value → Shared → Prop) n s, I n s → wpAny (model prog w) A (pyNext it) (fun r s₁ => match r with
      | none => R (.ok .next) s₁
      | some v => wpAny (model prog w) A (letOwnedTupleGo target it v) (fun _ s₁' => wpAny (model prog w) A (assign target env v) (fun _ s₂ => wpAny (model prog w) A (eval elt env) (fun x s₄ =>
              wpAny (model prog w) A (call (.builtin "list.append") [acc, x]) (fun _ s₅ => ∃ m, m < n ∧ I m s₅) E' s₄) E' s₂) E' s₁') E' s₁) E' s)
    (n : Nat) (h : I n s) : codeAny (model prog w) A (.compLoop (.ListComp elt [⟨target, iter, [], 0⟩] scope pos) 0 it acc env) R s := by
  refine codeAny_loop rfl I (fun n s hI => ?_) n h
  show wpAny _ A ((compTurn (.ListComp elt [⟨target, iter, [], 0⟩] scope pos) 0 it acc env).onRaise (fun x => do noteFrame x env; theTreesLotGoes x)) _ _ s
  refine wpAny_noted ?_
  rw [compTurn_list]
  refine wpAny_bind (wpAny_standAt (wpAny_bind (wpAny_mono (turn _ n s hI) (fun r s₁ h₁ => ?_) fun _ _ h' => h')))
  cases r with
  | none => exact wpAny_pure h₁
  | some v =>
    refine wpAny_bind (wpAny_mono h₁ (fun _ s₁' h₁' => ?_) fun _ _ h' => h')
    refine wpAny_bind (wpAny_mono h₁' (fun _ s₂ h₂ => wpAny_bind (wpAny_tests_nil ?_)) fun _ _ h' => h')
    exact wpAny_bind (wpAny_bind (wpAny_mono h₂ (fun x s₄ h₄ => wpAny_bind (wpAny_mono h₄ (fun _ s₅ h₅ => wpAny_pure (wpAny_pure ⟨rfl, h₅⟩)) fun _ _ h' => h')) fun _ _ h' => h'))
theorem go_gen {elts : List PySem.Expr} {k : Nat} {pos : Pos} {a c g : Addr} {Q : Unit → Shared → Prop} (hg : s.heap.IsGen a g) (h : Q () s) : wpAny (model prog w) A (letOwnedTupleGo (.Tuple elts k pos) (.ref a) (.ref c)) Q E s := by
  obtain ⟨o, nm, qn, ho, hc, hd, hs⟩ := hg
  unfold letOwnedTupleGo
  refine wpAny_bind (wpAny_load ho ?_)
  rw [hc, hd]
  show wpAny _ A (if (["enumerate", "zip", "dict_itemiterator", "dict_reverseitemiterator", "odict_iterator", "itertools.zip_longest", "itertools.pairwise"].contains "generator" && _) = true then _ else _) Q E s
  rw [if_neg (by
    rw [show ["enumerate", "zip", "dict_itemiterator", "dict_reverseitemiterator", "odict_iterator", "itertools.zip_longest", "itertools.pairwise"].contains "generator" = false from by decide +kernel]
    exact Bool.false_ne_true)]
  exact wpAny_pure h
end
theorem wr2 {b C : Nat} (hb : b ∈ [C + 2, C + 3]) : b ≠ C ∧ C < b ∧ b < C + 4 := by
  rcases List.mem_cons.mp hb with e | hm
  · omega
  · have := List.mem_singleton.mp hm; omega
theorem b4 {b C : Nat} (h : b < C) : b < C + 4 := by omega
theorem b0 {b C : Nat} (h : b < C) : b ≠ C := by omega
theorem b3 {b C : Nat} (h : b < C) : b ≠ C + 3 := by omega
theorem b2 {b C : Nat} (h : b < C) : b < C + 2 := by omega
theorem c24 {C : Nat} : C + 2 < C + 4 := by omega
theorem c34 {C : Nat} : C + 3 < C + 4 := by omega
theorem c14 {C a : Nat} (h : a = C + 1) : a < C + 4 ∧ a ≠ C ∧ a ∉ [C + 2, C + 3] := by
  refine ⟨by omega, by omega, fun hm => ?_⟩
  rcases List.mem_cons.mp hm with e | hm
  · omega
  · have := List.mem_singleton.mp hm; omega
theorem c20 {C : Nat} : C + 2 ≠ C := by omega
theorem c30 {C : Nat} : C + 3 ≠ C := by omega
theorem c23 {C : Nat} : C + 2 ≠ C + 3 := by omega
noncomputable def UnitsIn : List Value → List (List Nat) → Prop
  | [], [] => True
  | .str s _ :: vs, u :: us => s = ⟨u.toArray⟩ ∧ UnitsIn vs us
  | _, _ => False
theorem UnitsIn.snoc {u : List Nat} {s : PySem.Str} {t : Tok} (hs : s = ⟨u.toArray⟩) : ∀ {vs : List Value} {us : List (List Nat)}, UnitsIn vs us → UnitsIn (vs ++ [.str s t]) (us ++ [u])
  | [], [], _ => ⟨hs, trivial⟩
  | .str _ _ :: _, _ :: _, h => ⟨h.1, UnitsIn.snoc hs h.2⟩
theorem UnitsIn.length : ∀ {vs : List Value} {us : List (List Nat)}, UnitsIn vs us → vs.length = us.length
  | [], [], _ => rfl
  | .str _ _ :: _, _ :: _, h => congrArg (· + 1) (UnitsIn.length h.2)
section
variable {prog : Program} {w : World} {A : Around} {R : Result → Shared → Prop} {E : Value → Shared → Prop} {s : Shared} {env : Env} {h₀ : Heap} {L : Addr} {m : PySem.Str → Option Value}
noncomputable def GenPack (prog : Program) (w : World) (h₀ : Heap) (L : Addr) (m : PySem.Str → Option Value) (y : PySem.Str) (Q : Flow → Shared → Prop) (xv : Value) (s₁ : Shared) : Prop :=
  ∃ (a C g : Nat) (gs : GenState) (hb : Heap) (news : List (Addr × Obj)) (U : List (List Nat)), xv = .ref a ∧ Fr h₀ L hb m ∧ News h₀ L hb news ∧ C = hb.objs.size ∧ a = C + 1 ∧ s₁.heap.objs.size = C + 2 ∧ s₁.heap.IsGen a g ∧ s₁.gens[g]? = some gs ∧ AllBare s₁.gens ∧ hb.NoLimit ∧ U.length ≤ sizeLine ∧
    (∀ b o, hb.get? b = some o → s₁.heap.get? b = some o) ∧
    (∀ (A : Around) (lim : Nat) (wr : List Addr) (s'' : Shared), A.handled = none → A.depth + 5 < recursionLimit → (∃ o, s''.heap.get? (lim - 1) = some o) → C < lim - 1 → (∀ b ∈ wr, b ≠ C ∧ C < b ∧ b < lim) → (∀ b o, b ∉ wr → s₁.heap.get? b = some o → s''.heap.get? b = some o) →
      gs.Goes (model prog w) A (genEnd lim C) (unitGo lim C wr U) U.length (.send .none) s'') ∧
    (∀ (D : Addr) (h' : Heap) (tk : Tok) (gens' : Array GenState) (ys : List Value), AllBare gens' → Fr h₀ L h' (fun z => if z = y then some (.ref D) else m z) → News h₀ L h' ((D, W.listOf ys.toArray ys.length) :: news) → UnitsIn ys U → (∀ p ∈ news, p.1 < D) → Q .next { s₁ with heap := h', toks := tk, gens := gens' })
theorem Assign_ListComp_gen {iter : PySem.Expr} {xp xu y : PySem.Str} {pp pu pt pe py : Pos} {kt : Nat} {scope : Scope} {cl : List (PySem.Str × Addr)} {pos spos : Pos} {Q : Flow → Shared → Prop} (_F₀ : Fr h₀ L s.heap m) (hLe : env.locals = L)
    (hh : A.handled = none) (hroom : A.depth + 8 < recursionLimit)
    (hsw : swapsWith (.ListComp (.Name xu pe) [⟨.Tuple [.Name xp pp, .Name xu pu] kt pt, iter, [], 0⟩] scope pos) (some (.Name y py)) spos.line env = pure true)
    (hclos : closureFor scope env = pure cl) (hcell : ∀ y ∈ scope.names, y.2 ≠ .cell) (hkind : scope.kind = .function)
    (hnames : ∀ y ∈ scope.names, y.2 = .local → scope.names.lookup y.1 = some .local) (hxp : scope.names.lookup xp = some .local) (hxu : scope.names.lookup xu = some .local) (hdb : (xu == ("__debug__" : PySem.Str)) = false)
    (hy : env.kindOf y = some .local) (hp : (env.scope.kind == .class || (env.scope.kind == .module && env.locals != env.globals)) = false)
    (h : wpAny (model prog w) A (eval iter env) (GenPack prog w h₀ L m y Q) E s)
    (hs : ∀ x, foldedSetIterable iter env x = pure x := by intro _; rfl) :
    wpAny (model prog w) A (exec (.Assign [.Name y py] (.ListComp (.Name xu pe) [⟨.Tuple [.Name xp pp, .Name xu pu] kt pt, iter, [], 0⟩] scope pos) spos) env) Q E s := by
  subst hLe
  rw [exec_Assign_Name_used _ _ _ _ hsw]
  refine wpAny_bind (wpAny_standAt (wpAny_bind ?_))
  show wpAny _ A (do let _ ← comprehension (.ListComp (.Name xu pe) [⟨.Tuple [.Name xp pp, .Name xu pu] kt pt, iter, [], 0⟩] scope pos) scope env _ (newList []) false (eval iter env) (some (assign (.Name y py) env))) _ _ s
  refine wpAny_bind (wpAny_mono (wpAny_comprehension_free (use := some (assign (.Name y py) env)) (Q := fun _ s' => Q .next s') rfl hs hclos hkind hnames
    (wpAny_mono h (fun xv s₁ h₁ => ?_) fun _ _ e => e)) (fun _ s' hq => wpAny_pure (wpAny_pure hq)) fun _ _ e => e)
  obtain ⟨a, C, g, gs, hb, news, U, rfl, Fb, Nb, hC, ha, hsz, hgen, hgs, hbare, hlim, hUl, hkb, start, fin⟩ := h₁
  refine wpAny_pyIter_gen hgen ?_
  refine wpAny_newObj_type (wpAny_newFunctionEnv hcell (by intro y hy; simp at hy) (fun h₁ hns₁ hsb₁ => ?_) hkind)
  dsimp only at hns₁ hsb₁ ⊢
  generalize hH2 : s₁.heap.push { cls := .type "list", dict := none, data := .seq ([] : List Value).toArray } = H2 at hns₁ hsb₁ ⊢
  have hC2 : H2.objs.size = C + 3 := by rw [← hH2, Heap.size_push, hsz]
  have up₁ : ∀ b o, b < C + 3 → H2.get? b = some o → h₁.get? b = some o := fun b o hb e => hsb₁.extBut b o (by rw [hC2]; exact Nat.ne_of_lt hb) (Heap.get?_push_of_some _ e)
  have up₂ : ∀ b o, s₁.heap.get? b = some o → h₁.get? b = some o := fun b o e => up₁ b o (by have := Heap.lt_size e; rw [hsz] at this; exact Nat.lt_succ_of_lt this) (by rw [← hH2]; exact Heap.get?_push_of_some _ e)
  have hD₁ : h₁.get? (C + 2) = some { cls := .type "list", dict := none, data := .seq ([] : List Value).toArray } := by
    refine up₁ _ _ (Nat.lt_succ_self _) ?_
    rw [← hH2, ← hsz]; exact Heap.get?_push_size _ rfl
  rw [hC2] at hns₁ ⊢
  rw [hsz] at ⊢
  have hgen₁ : h₁.IsGen a g := hgen.keeps up₂
  have noC : ∀ b, b < C → b ∉ [C + 2, C + 3] := fun b hb hm => by
    rcases List.mem_cons.mp hm with e | hm
    · omega
    · have := List.mem_singleton.mp hm; omega
  have loop : ∀ s₃ : Shared, s₃ = { s₁ with heap := h₁, toks := s₁.toks + ([] : List (PySem.Str × Value)).length } →
      codeAny (model prog w) A (.compLoop (.ListComp (.Name xu pe) [⟨.Tuple [.Name xp pp, .Name xu pu] kt pt, iter, [], 0⟩] scope pos) 0 (.ref a) (.ref (C + 2)) (compEnvC scope cl (C + 3) env)) (compPost (model prog w) A E (some (assign (.Name y py) env)) (fun _ s' => Q .next s') (.ref (C + 2)) (C + 3)) s₃ := by
    rintro s₃ rfl
    refine compLoop_go (fun k s' => ∃ (h' : Heap) (tk : Tok) (gens' : Array GenState) (j : Nat) (ys : List Value) (gs' : GenState) (m' : PySem.Str → Option Value), s' = { s₁ with heap := h', toks := tk, gens := gens' } ∧ j ≤ U.length ∧ k = U.length + 1 - j ∧ UnitsIn ys (U.take j) ∧
        AllBare gens' ∧ gens'[g]? = some gs' ∧ h'.IsGen a g ∧ h'.Ns (C + 3) m' ∧ h'.get? (C + 2) = some (W.listOf ys.toArray ys.length) ∧ (∀ b o, hb.get? b = some o → h'.get? b = some o) ∧
        (∀ s'' : Shared, (∃ o, s''.heap.get? (C + 3) = some o) → (∀ b o, b ∉ [C + 2, C + 3] → h'.get? b = some o → s''.heap.get? b = some o) → gs'.Goes (model prog w) A.in1 (genEnd (C + 4) C) (unitGo (C + 4) C [C + 2, C + 3] U) (U.length - j) (.send .none) s'')) ?_ (U.length + 1)
      ⟨h₁, _, s₁.gens, 0, [], gs, _, rfl, Nat.zero_le _, rfl, trivial, hbare, hgs, hgen₁, hns₁, hD₁, fun b o e => up₂ b o (hkb b o e), fun s'' ho hk => start A.in1 (C + 4) [C + 2, C + 3] s'' hh (by simp only [depth_in1]; omega) ho (by omega) (fun b hb => wr2 hb) fun b o hb e => hk b o hb (up₂ b o e)⟩
    rintro E' k s' ⟨h', tk, gens', j, ys, gs', m', rfl, hj, rfl, hys, hbare', hgs', hgen', hns', hD', hkb', goes⟩
    have hlim' : h'.NoLimit := hlim.keeps hkb'
    obtain ⟨oC, heC⟩ : ∃ o, h'.get? (C + 3) = some o := let ⟨o, _, _, e, _⟩ := hns'; ⟨o, e⟩
    have goes' := goes (Shared.setGen { s₁ with heap := h', toks := tk, gens := gens' } g .running) ⟨oC, heC⟩ fun b o _ e => e
    refine next_gen (P := fun n s₀ s₁ => n = 0 ∧ ∃ (h' : Heap) (tk : Tok), s₁ = { s₀ with heap := h', toks := tk } ∧ ∀ b o, b < C + 4 → b ≠ C → s₀.heap.get? b = some o → h'.get? b = some o) hh hlim' (by omega) hgen' hgs' goes' (fun v s2 gs2 hb2 hv => ?_) (fun s2 hp h2 hk2 => ?_)
    · obtain ⟨⟨c, i, ti, u, tu, rfl, hu, hget⟩, ⟨h2, tk2, rfl, hk2⟩, hkap⟩ := hv
      rcases Nat.lt_or_ge j U.length with hjl | hge
      · obtain ⟨mm, hmm⟩ : ∃ mm, U.length - j = mm + 1 := ⟨U.length - j - 1, by omega⟩
        rw [hmm] at hkap hu
        have hu : U[j]? = some u := by rw [show U.length - 1 - (mm + 1 - 1) = j by omega] at hu; exact hu
        dsimp only [Shared.setGen] at hk2 hget hkap ⊢
        have hk2 : ∀ b o, b < C + 4 → b ≠ C → h'.get? b = some o → h2.get? b = some o := hk2
        refine go_gen (g := g) (let ⟨o, nm, qn, ho, r⟩ := hgen'; ⟨o, nm, qn, hk2 a o (c14 ha).1 (c14 ha).2.1 ho, r⟩) ?_
        refine wpAny_assign_Tuple hh ⟨_, hget, rfl, _, rfl⟩ rfl rfl fun h3 hx3 => ?_
        show wpAny _ A (do holding _ (assign (.Name xp _) _ _); do holding _ (assign (.Name xu _) _ _); pure ()) _ _ _
        dsimp only at hx3
        have hn3 : h3.Ns (C + 3) m' := hns'.at' fun o e => by
          have e2 := hk2 (C + 3) o c34 c30 e
          exact hx3 _ o (Nat.ne_of_lt (Heap.lt_size e2)) e2
        refine wpAny_bind (wpAny_holding (wpAny_assign_Name (wpAny_storeName_local (lookup_relabel_local hxp) hn3 (fun h4 hn4 hs4 => ?_) (by simp [compEnvC, relabel, hkind]))))
        refine wpAny_bind (wpAny_holding (wpAny_assign_Name (wpAny_storeName_local (lookup_relabel_local hxu) hn4 (fun h5 hn5 hs5 => wpAny_pure ?_) (by simp [compEnvC, relabel, hkind]))))
        refine wpAny_Name (wpAny_loadName_local (by simp [compEnvC, relabel, hkind]) (lookup_relabel_local hxu) hn5 (if_pos rfl) ?_) hdb
        have hs4 : Heap.SameBut (C + 3) h3 h4 := hs4
        have hs5 : Heap.SameBut (C + 3) h4 h5 := hs5
        have up5 : ∀ b o, b ≠ C + 3 → h2.get? b = some o → h5.get? b = some o := fun b o hb e => hs5.extBut b o hb (hs4.extBut b o hb (hx3 b o (Nat.ne_of_lt (Heap.lt_size e)) e))
        have hD5 : h5.get? (C + 2) = some { cls := .type "list", data := .seq ys.toArray ys.length } := up5 _ _ c23 (hk2 _ _ c24 c20 hD')
        have hyl := hys.length
        rw [List.length_take] at hyl
        refine append_at (hsz := by rw [List.size_toArray]; omega) hD5 fun h6 hs6 hD6 => ?_
        have hs6 : Heap.SameBut (C + 2) h5 h6 := hs6
        have up6 : ∀ b o, b ∉ [C + 2, C + 3] → h2.get? b = some o → h6.get? b = some o := fun b o hb e => hs6.extBut b o (fun q => hb (q ▸ List.mem_cons_self)) (up5 b o (fun q => hb (q ▸ List.mem_cons_of_mem _ List.mem_cons_self)) e)
        have hn5 : h5.Ns (C + 3) _ := hn5
        refine ⟨U.length + 1 - (j + 1), by omega, h6, _, _, j + 1, ys ++ [.str ⟨u.toArray⟩ tu], gs2, _, rfl, hjl, rfl, ?_, ?_, setGen_self (s := Shared.setGen { s₁ with heap := h', toks := tk, gens := gens' } g .running) (setGen_self (s := { s₁ with heap := h', toks := tk, gens := gens' }) hgs'), ?_, hn5.sameBut hs6 (Ne.symm c23), ?_, fun b o e => ?_, fun s'' _ hk => ?_⟩
        · rw [List.take_add_one, hu]
          exact hys.snoc rfl
        · exact (GenOnlyQ.of ((GenOnly.setGen { s₁ with heap := h', toks := tk, gens := gens' } g .running).trans (GenOnly.setGen _ g gs2)) (setGen_self (s := Shared.setGen { s₁ with heap := h', toks := tk, gens := gens' } g .running) (setGen_self (s := { s₁ with heap := h', toks := tk, gens := gens' }) hgs')) hb2).bare hbare'
        · exact let ⟨o, nm, qn, ho, r⟩ := hgen'; ⟨o, nm, qn, up6 a o (c14 ha).2.2 (hk2 a o (c14 ha).1 (c14 ha).2.1 ho), r⟩
        · rw [List.push_toArray] at hD6
          rw [List.length_append]
          exact hD6
        · have hbC : b < C := hC ▸ Heap.lt_size e
          exact up6 b o (noC b hbC) (hk2 b o (b4 hbC) (b0 hbC) (hkb' b o e))
        · rw [show U.length - (j + 1) = mm by omega]
          exact hkap s'' fun b o hb e => hk b o hb (up6 b o hb e)
      · rw [Nat.sub_eq_zero_of_le hge] at hkap
        exact (hkap _ fun _ _ _ e => e).elim
    · obtain ⟨h0, h3, tk3, rfl, hk3⟩ := hp
      have hk3 : ∀ b o, b < C + 4 → b ≠ C → h'.get? b = some o → h3.get? b = some o := hk3
      have hjU : j = U.length := by omega
      subst hjU
      rw [List.take_length] at hys
      have hk2 : ∀ b o, h3.get? b = some o → h2.get? b = some o := hk2
      have upA : ∀ b o, hb.get? b = some o → h2.get? b = some o := fun b o e => by
        have hbC : b < C := hC ▸ Heap.lt_size e
        exact hk2 b o (hk3 b o (b4 hbC) (b0 hbC) (hkb' b o e))
      have F2 : Fr h₀ env.locals h2 m := Fb.keeps upA
      have hLC : env.locals < C := hC ▸ Fb.ns.lt
      show wpAny _ A (assign (.Name y py) env (.ref (C + 2))) _ _ _
      refine wpAny_assign_Name (wpAny_storeName_local hy F2.ns (fun hq hn₂ hs₂ => ?_) hp)
      have hL₀ : h₀.get? env.locals = none := Heap.get?_none_of_le F2.above
      have Fq : Fr h₀ env.locals hq (fun z => if z = y then some (.ref (C + 2)) else m z) := ⟨hn₂, fun b o e => hs₂.extBut b o (fun q => by rw [q, hL₀] at e; cases e) (F2.keep b o e), F2.above⟩
      refine ⟨m', (hns'.at' fun o e => hk2 _ o (hk3 _ o c34 c30 e)).sameBut hs₂ (Ne.symm (b3 hLC)), fun h4 hs4 => ?_⟩
      have hs4 : Heap.SameBut (C + 3) hq h4 := hs4
      have hs₂ : Heap.SameBut env.locals h2 hq := hs₂
      have hC3 : h₀.get? (C + 3) = none := by
        cases e : h₀.get? (C + 3) with
        | none => rfl
        | some o => have h1 := Heap.lt_size e; have h2 := Fb.above; exact absurd (Nat.lt_of_lt_of_le h1 h2) (Nat.not_lt.mpr (Nat.le_trans (Nat.le_of_lt hLC) (Nat.le_add_right _ _)))
      have up4 : ∀ b o, b ≠ env.locals → hb.get? b = some o → h4.get? b = some o := fun b o hbl e => by
        have hbC : b < C := hC ▸ Heap.lt_size e
        exact hs4.extBut b o (b3 hbC) (hs₂.extBut b o hbl (upA b o e))
      refine fin (C + 2) h4 _ _ ys ?_ (Fq.change hs4 (b3 hLC).symm hC3) ?_ hys ?_
      · exact (GenOnlyQ.of ((GenOnly.setGen { s₁ with heap := h', toks := tk, gens := gens' } g .running).trans (GenOnly.setGen _ g .finished)) (setGen_self (s := Shared.setGen { s₁ with heap := h', toks := tk, gens := gens' } g .running) (setGen_self (s := { s₁ with heap := h', toks := tk, gens := gens' }) hgs')) rfl).bare hbare'
      · intro p hp
        rcases List.mem_cons.mp hp with rfl | hp
        · have hL : env.locals < C := hC ▸ Fb.ns.lt
          refine ⟨hs4.extBut _ _ c23 (hs₂.extBut _ _ (Ne.symm (Nat.ne_of_lt (b2 hL))) (hk2 _ _ (hk3 _ _ c24 c20 hD'))), Ne.symm (Nat.ne_of_lt (b2 hL)), ?_⟩
          cases e : h₀.get? (C + 2) with
          | none => rfl
          | some o => have h1 := Heap.lt_size e; have h2 := Fb.above; exact absurd (Nat.lt_of_lt_of_le h1 h2) (Nat.not_lt.mpr (Nat.le_of_lt (b2 hL)))
        · exact ⟨up4 _ _ (Nb p hp).2.1 (Nb p hp).1, (Nb p hp).2⟩
      · intro p hp
        have := Heap.lt_size (Nb p hp).1
        rw [← hC] at this
        exact b2 this
  exact codeAny_compStart_list (loop _ rfl) (wpAny_pyIter_gen hgen₁ (loop _ rfl))
end
end Mine
end
section
open PySem PySem.W PyProof.Rows PySem.Calls
namespace Mine
theorem slot_ci_next : Slot "callable_iterator" "__next__" "callable_iterator.__next__" :=
  .of (owner := "callable_iterator") (n := "__next__") (by rw [typeLookup_type, builtinLookup_eq_fast]; kernel_rfl) (by decide +kernel) (by decide +kernel) (by decide +kernel)
    (by first | exact .inl (by decide +kernel) | exact .inr (by decide +kernel)) (by rw [isSubtype_type]; kernel_rfl)
theorem entry_ci_next : entryFor table "callable_iterator.__next__" = some Builtin.«callable_iterator.__next__» := entryFor_of_fast (by kernel_rfl)
theorem args_ci_next (a : Value) : argsOk "callable_iterator.__next__" ⟨[a], []⟩ := by unfold argsOk; kernel_rfl
theorem slot_ci_iter : Slot "callable_iterator" "__iter__" "callable_iterator.__iter__" :=
  .of (owner := "callable_iterator") (n := "__iter__") (by rw [typeLookup_type, builtinLookup_eq_fast]; kernel_rfl) (by decide +kernel) (by decide +kernel) (by decide +kernel)
    (by first | exact .inl (by decide +kernel) | exact .inr (by decide +kernel)) (by rw [isSubtype_type]; kernel_rfl)
theorem entry_ci_iter : entryFor table "callable_iterator.__iter__" = some Builtin.«dict_keyiterator.__iter__» :=
  entryFor_alias (id' := "dict_keyiterator.__iter__") (by kernel_rfl) rfl (by decide +kernel) (by kernel_rfl)
theorem args_ci_iter (a : Value) : argsOk "callable_iterator.__iter__" ⟨[a], []⟩ := by unfold argsOk; kernel_rfl
theorem entry_iter2 : entryFor table "iter" = some Builtin.«iter» := entryFor_of_fast (by kernel_rfl)
theorem args_iter2 (a b : Value) : argsOk "iter" ⟨[a, b], []⟩ := by unfold argsOk; kernel_rfl
theorem meth_call : typeLookup (.type "method") "__call__" = pure (some (.builtin "method.__call__")) := by rw [typeLookup_type, builtinLookup_eq_fast]; kernel_rfl
noncomputable abbrev ciObj (q : Addr) (t : Tok) (b : Bool) : Obj := { cls := .type "callable_iterator", data := .fields #[.ref q, .str (Str.ofString "") t, .bool b] }
noncomputable abbrev ciEnd : Obj := { cls := .type "callable_iterator", data := .fields #[.none, .none, .bool true] }
section
variable {M : Model} {A : Around} {E : Value → Shared → Prop} {s : Shared}
theorem wpAny_callBorrowed {f : Value} {pos : List Value} {Q : Value → Shared → Prop} (h : wpAny M A (call f pos) Q E s) : wpAny M A (callBorrowed f pos) Q E s := fun Γ p hΓ => by
  obtain ⟨r, s₁, hret, hw⟩ := h Γ p hΓ
  refine ⟨r, s₁, hret, ?_⟩
  match r, hw with
  | .ok (.ret v), hw => exact hw
  | .ok .next, hw => exact hw
  | .ok .brk, hw => exact hw
  | .ok .cont, hw => exact hw
  | .error e, hw => exact hw
end
section
variable {prog : Program} {w : World} {A : Around} {E : Value → Shared → Prop} {s : Shared}
theorem call_iter2 {q : Addr} {f x : Value} {t : Tok} {Q : Value → Shared → Prop} (hq : s.heap.get? q = some (methodObj f x)) (h : Q (.ref s.heap.objs.size) { s with heap := s.heap.push (ciObj q t false) }) :
    wpAny (model prog w) A (call (.builtin "iter") [.ref q, .str (Str.ofString "") t]) Q E s := by
  refine call_function_entry (by decide +kernel) (by decide +kernel) entry_iter2 (args_iter2 _ _) ?_
  unfold Builtin.«iter»
  refine wpAny_bind (m := someArgs "iter" 1 2 _) (wpAny_of_eq (a := [Value.ref q, .str (Str.ofString "") t]) (by first | rfl | kernel_rfl!) ?_)
  dsimp only
  unfold specialOf
  have L : Looks (model prog w) s.heap (typeOf (.ref q)) (.type "method") := (Looks.ld hq).andThen .now
  refine wpAny_bind (wpAny_bind (L _ _ _ _ (fun _ _ e => e) ?_))
  rw [meth_call]
  refine wpAny_pure ?_
  refine wpAny_bind (wpAny_rule ?_)
  refine wpAny_bind ?_
  simp only [newFields]
  exact wpAny_newObj_type (wpAny_pure ⟨_, rfl, h⟩) (by size_fits)
theorem iter_ci {ci : Addr} {o : Obj} {Q : Value → Shared → Prop} (ho : s.heap.get? ci = some o) (hc : o.cls = .type "callable_iterator") (h : Q (.ref ci) s) : wpAny (model prog w) A (pyIter (.ref ci)) Q E s := by
  have hT : s.TypeIs (.ref ci) "callable_iterator" := ⟨_, ho, hc⟩
  refine wpAny_pyIter_slot hT slot_ci_iter (wpAny_call_entry slot_ci_iter hT entry_ci_iter ?_ (args_ci_iter _))
  show wpAny _ _ (ret (.ref ci)) _ _ s
  exact wpAny_pure ⟨_, rfl, "callable_iterator", _, hT, slot_ci_next.lookup, h⟩
theorem fields_set {o : Obj} {c : Value} {vs : Array Value} (ho : o = { cls := c, data := .fields vs }) (i : Nat) (v : Value) : Obj.mapFields (fun xs => xs.setIfInBounds i v) o = { cls := c, data := .fields (vs.setIfInBounds i v) } := by
  subst ho; rfl
theorem borrows {q fa : Addr} {x : Value} {fo : Obj} {fd : FuncData} {Q : Bool → Shared → Prop} (hq : s.heap.get? q = some (methodObj (.ref fa) x)) (hf : s.heap.get? fa = some fo) (hd : fo.data = .func fd) (h : Q true s) : wpAny (model prog w) A (borrowsExactly (.ref q)) Q E s := by
  unfold borrowsExactly
  refine wpAny_bind (wpAny_load hq ?_)
  dsimp only [methodObj]
  rw [if_pos (by rfl)]
  show wpAny _ _ (load fa >>= _) _ _ s
  refine wpAny_bind (wpAny_load hf ?_)
  rw [hd]
  exact wpAny_pure h
theorem next_ci {ci q fa : Addr} {t : Tok} {x : Value} {fo : Obj} {fd : FuncData} {Q : Option Value → Shared → Prop} (hh : A.handled = none) (hci : s.heap.get? ci = some (ciObj q t false)) (hq : s.heap.get? q = some (methodObj (.ref fa) x)) (hf : s.heap.get? fa = some fo) (hd : fo.data = .func fd)
    (hcall : ∀ E', wpAny (model prog w) A.in1 (call (.ref q) []) (fun r s₁ => ∃ y ty, r = .str y ty ∧ s₁.heap.get? ci = some (ciObj q t false) ∧ s₁.heap.get? q = some (methodObj (.ref fa) x) ∧ s₁.heap.get? fa = some fo ∧
      (y ≠ Str.ofString "" → Q (some (.str y ty)) s₁) ∧ (y = Str.ofString "" → ∀ h₁ h₂, Heap.SameBut ci s₁.heap h₁ → h₁.get? ci = some ciEnd → (∀ b o, h₁.get? b = some o → h₂.get? b = some o) → Q none { s₁ with heap := h₂ })) E' s) :
    wpAny (model prog w) A (pyNext (.ref ci)) Q E s := by
  have hT : s.TypeIs (.ref ci) "callable_iterator" := ⟨_, hci, rfl⟩
  unfold pyNext
  refine wpAny_bind (wpAny_attempt (wpAny_callSpecial?_slot (name := Str.ofString "__next__") hT slot_ci_next (wpAny_call_entry slot_ci_next hT entry_ci_next ?_ (args_ci_next _))))
  show wpAny _ _ (field (.ref ci) 2 >>= _) _ _ s
  refine wpAny_bind (wpAny_field hci rfl (x := .bool false) rfl ?_)
  rw [if_neg (by decide)]
  show wpAny _ _ (field (.ref ci) 0 >>= _) _ _ s
  refine wpAny_bind (wpAny_field hci rfl (x := .ref q) rfl ?_)
  refine wpAny_bind (wpAny_attempt ?_)
  unfold callOutOfASlot
  refine wpAny_bind (borrows hq hf hd ?_)
  rw [if_pos rfl]
  refine wpAny_callBorrowed (wpAny_mono (hcall _) (fun r s₁ hr => ?_) fun _ _ e => e)
  obtain ⟨y, ty, rfl, hci1, hq1, hf1, hy1, hy2⟩ := hr
  dsimp only
  refine wpAny_bind (wpAny_field hci1 rfl (x := .bool false) rfl ?_)
  rw [if_neg (by decide)]
  refine wpAny_bind (wpAny_field hci1 rfl (x := .str (Str.ofString "") t) rfl ?_)
  refine wpAny_bind (wpAny_holding ?_)
  refine wpAny_eqBool_str ?_
  by_cases he : Str.ofString "" = y
  · rw [decide_eq_true he]
    rw [if_neg (by decide)]
    refine wpAny_bind (wpAny_rule ?_)
    refine wpAny_bind ?_
    refine wpAny_bind (m := field (.ref ci) 0) (wpAny_field hci1 rfl (x := .ref q) rfl ?_)
    refine wpAny_bind ?_
    · unfold slotLetsGo
      refine wpAny_bind (borrows hq1 hf1 hd ?_)
      rw [if_pos rfl]
      refine wpAny_pure ?_
      refine wpAny_bind (wpAny_setField_rec hci1 (by simp) fun h₂ he₂ hs₂ => ?_)
      refine wpAny_bind (wpAny_setField_rec he₂ (by simp) fun h₃ he₃ hs₃ => ?_)
      refine wpAny_setField_rec he₃ (by simp) fun h₄ he₄ hs₄ => ?_
      show wpAny _ _ (newExc (.type "StopIteration") [] >>= _) _ _ _
      refine wpAny_bind ?_
      simp only [newExc, newTuple]
      refine wpAny_bind (wpAny_newObj_type ?_ (by size_fits))
      refine wpAny_bind (m := firstArgMember _ _) (wpAny_of_eq (a := Value.none) (by first | rfl | (simp only [firstArgMember]; rfl)) ?_)
      refine wpAny_newObj_type ?_ (by size_fits)
      simp only [raiseNew]
      refine wpAny_bind (wpAny_handled ?_)
      rw [show A.in1.handled = none from hh]
      refine wpAny_bind (wpAny_pure (wpAny_throw ?_))
      refine wpAny_bind (wpAny_isInstance (T := "StopIteration") (b := true) ⟨_, Heap.get?_push_size _ rfl, rfl⟩ isSubtype_stop ?_)
      refine wpAny_pure (hy2 he.symm h₄ _ ?_ he₄ fun b o e => Heap.get?_push_of_some _ (Heap.get?_push_of_some _ e))
      exact ⟨hs₄.1.trans (hs₃.1.trans hs₂.1), fun b hb => (hs₄.2 b hb).trans ((hs₃.2 b hb).trans (hs₂.2 b hb))⟩
  · rw [decide_eq_false he]
    rw [if_pos (by decide)]
    exact wpAny_pure ⟨_, rfl, wpAny_pure (hy1 fun e => he e.symm)⟩
theorem next_end {ci : Addr} {Q : Option Value → Shared → Prop} (hh : A.handled = none) (hci : s.heap.get? ci = some ciEnd) (h : ∀ h₂ : Heap, (∀ b o, s.heap.get? b = some o → h₂.get? b = some o) → Q none { s with heap := h₂ }) : wpAny (model prog w) A (pyNext (.ref ci)) Q E s := by
  have hT : s.TypeIs (.ref ci) "callable_iterator" := ⟨_, hci, rfl⟩
  unfold pyNext
  refine wpAny_bind (wpAny_attempt (wpAny_callSpecial?_slot (name := Str.ofString "__next__") hT slot_ci_next (wpAny_call_entry slot_ci_next hT entry_ci_next ?_ (args_ci_next _))))
  show wpAny _ _ (field (.ref ci) 2 >>= _) _ _ s
  refine wpAny_bind (wpAny_field hci rfl (x := .bool true) rfl ?_)
  rw [if_pos (by decide)]
  refine wpAny_bind (wpAny_rule ?_)
  refine wpAny_bind ?_
  show wpAny _ _ (newExc (.type "StopIteration") [] >>= _) _ _ _
  refine wpAny_bind ?_
  simp only [newExc, newTuple]
  refine wpAny_bind (wpAny_newObj_type ?_ (by size_fits))
  refine wpAny_bind (m := firstArgMember _ _) (wpAny_of_eq (a := Value.none) (by first | rfl | (simp only [firstArgMember]; rfl)) ?_)
  refine wpAny_newObj_type ?_ (by size_fits)
  simp only [raiseNew]
  refine wpAny_bind (wpAny_handled ?_)
  rw [show A.in1.handled = none from hh]
  refine wpAny_bind (wpAny_pure (wpAny_throw ?_))
  refine wpAny_bind (wpAny_isInstance (T := "StopIteration") (b := true) ⟨_, Heap.get?_push_size _ rfl, rfl⟩ isSubtype_stop ?_)
  exact wpAny_pure (h _ fun b o e => Heap.get?_push_of_some _ (Heap.get?_push_of_some _ e))
end
end Mine
end
section
open PySem PySem.W PyProof.Rows PySem.Calls PySem.Flt
namespace Mine
theorem fn_getattr : typeLookup (.type "function") "__getattr__" = pure none := by rw [typeLookup_type, builtinLookup_eq_fast]; kernel_rfl
theorem slot_fn_ga : Slot "function" "__getattribute__" "object.__getattribute__" :=
  .of (owner := "object") (n := "__getattribute__") (by rw [typeLookup_type, builtinLookup_eq_fast]; kernel_rfl) (by decide +kernel) (by decide +kernel) (by decide +kernel)
    (by first | exact .inl (by decide +kernel) | exact .inr (by decide +kernel)) (by rw [isSubtype_type]; kernel_rfl)
theorem fn_read2 : typeLookup (.type "function") "read" = pure none := by rw [typeLookup_type, builtinLookup_eq_fast]; kernel_rfl
theorem sub_fn_static : isSubtype (.type "function") (.type "staticmethod") = pure false := by rw [isSubtype_type]; kernel_rfl
theorem sub_fn_classm : isSubtype (.type "function") (.type "classmethod") = pure false := by rw [isSubtype_type]; kernel_rfl
theorem canon_ga : (Manifest.canonical "object.__getattribute__" != "object.__getattribute__") = false := by decide +kernel
section
variable {prog : Program} {w : World} {A : Around} {E : Value → Shared → Prop} {h : Heap} {g : Array GenState} {d : Drawn} {t : Nat} {os : OsState} {f D : Addr} {fd : FuncData} {sl : Array (Option Value)} {md : PySem.Str → Option Value}
theorem fn_object_entry {tk : Tok} {v : Value} {Q : Fin → Shared → Prop} (hM : h.get? f = some { cls := .type "function", dict := some D, data := .func fd, slots := sl }) (hD : h.Ns D md) (hv : md (Str.ofString "read") = some v)
    (hq : Q (.done (.ret v)) ⟨h, g, d, t, os⟩) : wpAny (model prog w) A (Builtin.«object.__getattribute__» ⟨[.ref f, .str (Str.ofString "read") tk], []⟩) Q E ⟨h, g, d, t, os⟩ := by
  have hT : (⟨h, g, d, t, os⟩ : Shared).TypeIs (.ref f) "function" := ⟨_, hM, rfl⟩
  have f1 := sub_fn_static
  have f2 := sub_fn_classm
  have f3 : typeLookup (.type "function") (Str.ofString "read") = pure none := fn_read2
  repeat (any_goals (first | assumption | with_reducible apply wpAny_nsGet_known | with_reducible apply wpAny_loadPart_known | wp_step))
theorem args_oga (a b : Value) : argsOk "object.__getattribute__" ⟨[a, b], []⟩ := by unfold argsOk; kernel_rfl
theorem entry_oga : entryFor table "object.__getattribute__" = some Builtin.«object.__getattribute__» := entryFor_of_fast (by kernel_rfl)
theorem getm_fn {v : Value} {pl : Sem Bool} {Q : Value × List Value → Shared → Prop} (hM : h.get? f = some { cls := .type "function", dict := some D, data := .func fd, slots := sl }) (hD : h.Ns D md) (hv : md (Str.ofString "read") = some v)
    (hh : handedOut v = pure v) (hq : Q (v, []) ⟨h, g, d, t + 1, os⟩) : wpAny (model prog w) A (getMethod (.ref f) (Str.ofString "read") pl) Q E ⟨h, g, d, t, os⟩ := by
  have hT : (⟨h, g, d, t, os⟩ : Shared).TypeIs (.ref f) "function" := ⟨_, hM, rfl⟩
  have hT1 : (⟨h, g, d, t + 1, os⟩ : Shared).TypeIs (.ref f) "function" := ⟨_, hM, rfl⟩
  have f1 := slot_fn_ga.lookup
  have f2 := fn_getattr
  have f3 : typeLookup (.type "function") (Str.ofString "read") = pure none := fn_read2
  have f4 := slot_fn_ga.bind (.ref f)
  unfold getMethod
  refine wpAny_bind (wpAny_specialOf hT f1 ?_)
  show wpAny _ A (if (Manifest.canonical "object.__getattribute__" != "object.__getattribute__") = true then _ else _) Q E _
  rw [canon_ga, if_neg Bool.false_ne_true]
  refine wpAny_bind (wpAny_specialOf hT f2 ?_)
  rw [if_neg (by decide)]
  refine wpAny_bind (wpAny_specialOf hT f3 ?_)
  repeat (any_goals (first | assumption | wp_step))
  refine codeAny_call_builtin slot_fn_ga.plain entry_oga (slot_fn_ga.check _ _ _ _ _ _ _ _ hT1 (args_oga _ _) (fn_object_entry hM hD hv ?_))
  repeat (any_goals (first | assumption | wp_step))
end
end Mine
end
section
open PySem PySem.W PyProof.Rows PySem.Calls
open PySem.Flt
namespace Mine
variable {prog : Program} {w : World} {p : Program} {loose : List Str} {mean : ExcName → Option Value} {mg mb : Str → Option Value}
  {dp un : Nat} {gd : Option (List Code)} {cn : Str} {cs : Scope} {a : Addr} {ccd : Value} {cl : List (Str × Addr)} {outer : List Env} {A₀ : Around} {base h₀ : Heap} {L : Addr} {m : Str → Option Value} {s : Shared} {Q E : Value → Shared → Prop} {news : List (Addr × Obj)}

local macro_rules | `(tactic| k_all) => `(tactic| assumption)
local macro_rules | `(tactic| walk_at "truthy ref") => `(tactic| (k_here; (with_reducible show wpAny _ _ (truthy (Value.ref _)) _ _ _); k_dflt (refine' truthy_empty ?N ?m ?_; (case N => k_asm); (case m => k_mem))))
noncomputable abbrev txtLed (w : World) (x dx lp lat st sd rd : Addr) (oSt : Obj) (k1 k2 k3 k4 v1 v3 kr tk : Tok) (k : Int) (e : Nat) (items : List Value) (e2 : Nat) (objs news : List (Addr × Obj)) : List (Addr × Obj) :=
  (x, instObj 80 dx) :: (dx, instD w st lp k1 k2 k3 k4 v1 v3) :: (lp, W.listOf items.toArray e2) :: (lat, W.listOf #[.int k tk] e) :: (st, oSt) :: (sd, readD w rd kr) :: (objs ++ news)
theorem getm_read {prog : Program} {w : World} {A : Around} {E : Value → Shared → Prop} {s : Shared} {h₀ : Heap} {L st sd rd : Addr} {news : List (Addr × Obj)} {oSt : Obj} {fd : FuncData} {kr : Tok} {pl : Sem Bool} {Q : Value × List Value → Shared → Prop}
    (N : News h₀ L s.heap news) (h1 : (st, oSt) ∈ news) (h2 : (sd, readD w rd kr) ∈ news) (hc : oSt.cls = .type "function") (hd : oSt.dict = some sd) (hf : oSt.data = .func fd) (h : Q (.ref rd, []) { s with toks := s.toks + 1 }) :
    wpAny (model prog w) A (getMethod (.ref st) (Str.ofString "read") pl) Q E s := by
  obtain ⟨hp, g, d, t, os⟩ := s
  obtain ⟨oc, od, oda, osl⟩ := oSt
  dsimp only at hc hd hf
  subst hc hd hf
  refine getm_fn (md := fun y => nsFind #[⟨PyData.keyHash w.params "read", .str "read" kr, .ref rd⟩] y) (N _ h1).1 ⟨_, _, _, (N _ h2).1, rfl, ?_, fun _ => rfl⟩ ?_ rfl h
  · intro e he
    have : e = ⟨PyData.keyHash w.params "read", .str "read" kr, .ref rd⟩ := by simpa using he
    subst this
    exact ⟨_, _, rfl⟩
  · rfl
local macro_rules | `(tactic| walk_at "getMethod ref") => `(tactic| (k_here; k_dflt (refine' getm_read ?N ?a ?b ?c ?d ?e ?_; (case N => k_asm); (case a => k_mem); (case b => k_mem); (case c => assumption); (case d => assumption); (case e => assumption))))
local macro_rules | `(tactic| walk_at "callWith ref") => `(tactic| (k_here; k_dflt (refine' callWith_F ?k1 ?_; (case k1 => exact FnAt.of (by k_asm) (by k_mem)); k_whole)))
local macro_rules | `(tactic| walk_at "FnAt") => `(tactic| (k_dflt (exact FnAt.of (by k_asm) (by k_mem))))
local macro_rules | `(tactic| walk_at "call ref") => `(tactic| ((try dsimp only); refine Hold.out ?_))
theorem read_to {h₀ h : Heap} {L rd x dx lat st sd lp : Addr} {o1 o2 o3 o4 o5 o6 o7 : Obj} {objs pre news : List (Addr × Obj)} (N : News h₀ L h ((rd, o1) :: (x, o2) :: (dx, o3) :: (lat, o4) :: (st, o5) :: (sd, o6) :: (objs ++ (pre ++ (lp, o7) :: news)))) :
    News h₀ L h ((lat, o4) :: (objs ++ ((rd, o1) :: (x, o2) :: (dx, o3) :: (st, o5) :: (sd, o6) :: (pre ++ (lp, o7) :: news)))) := fun q hq => N q (by
  simp only [List.mem_append, List.mem_cons] at hq ⊢
  rcases hq with h | h | h | h | h | h | h | h <;> simp only [h, true_or, or_true])
theorem read_back {h₀ h : Heap} {L rd x dx lat st sd lp : Addr} {o1 o2 o3 o4 o5 o6 o7 : Obj} {objs pre news : List (Addr × Obj)} (N : News h₀ L h ((lat, o4) :: (objs ++ ((rd, o1) :: (x, o2) :: (dx, o3) :: (st, o5) :: (sd, o6) :: (pre ++ (lp, o7) :: news))))) :
    News h₀ L h ((rd, o1) :: (x, o2) :: (dx, o3) :: (lat, o4) :: (st, o5) :: (sd, o6) :: (objs ++ (pre ++ (lp, o7) :: news))) := fun q hq => N q (by
  simp only [List.mem_append, List.mem_cons] at hq ⊢
  rcases hq with h | h | h | h | h | h | h | h <;> simp only [h, true_or, or_true])
theorem txt_back {h₀ h : Heap} {L rd x dx lat st sd lp : Addr} {o1 o2 o3 o4 o5 o6 o7 : Obj} {objs pre news : List (Addr × Obj)} (N : News h₀ L h ((rd, o1) :: (x, o2) :: (dx, o3) :: (lat, o4) :: (st, o5) :: (sd, o6) :: (objs ++ (pre ++ (lp, o7) :: news)))) :
    News h₀ L h (pre ++ (x, o2) :: (dx, o3) :: (lp, o7) :: (lat, o4) :: (st, o5) :: (sd, o6) :: (objs ++ news)) := fun q hq => N q (by
  simp only [List.mem_append, List.mem_cons] at hq ⊢
  rcases hq with h | h | h | h | h | h | h | h | h <;> simp only [h, true_or, or_true])
theorem read_off {rd x dx lat st sd lp : Addr} {o1 o2 o3 o5 o6 o7 : Obj} {objs pre news : List (Addr × Obj)} (hfn : (rd, o1) ∈ objs) (h : ∀ q ∈ pre ++ ((x, o2) :: (dx, o3) :: (lp, o7) :: (st, o5) :: (sd, o6) :: (objs ++ news)), q.1 ≠ lat) :
    ∀ q ∈ objs ++ ((rd, o1) :: (x, o2) :: (dx, o3) :: (st, o5) :: (sd, o6) :: (pre ++ (lp, o7) :: news)), q.1 ≠ lat := fun q hq => h q (by
  simp only [List.mem_append, List.mem_cons] at hq ⊢
  rcases hq with h | h | h | h | h | h | h | h | h
  all_goals first | (simp only [h, true_or, or_true]; done) | (subst h; simp only [hfn, true_or, or_true]))
set_option maxHeartbeats 4000000 in
theorem read_char {x dx lp lat st sd rd : Addr} {oSt : Obj} {fd : FuncData} {k1 k2 k3 k4 v1 v3 kr tk : Tok} {e e2 k : Nat} {items : List Value} {objs news pre : List (Addr × Obj)} {tx y : PySem.Str}
  (B : Below A₀ base outer h₀) (F : Fr h₀ L s.heap m) (X : (KK w.params).In h₀) (N : News h₀ L s.heap (pre ++ txtLed w x dx lp lat st sd rd oSt k1 k2 k3 k4 v1 v3 kr tk (k : Int) e items e2 objs news)) (T : Top p loose mean mg mb h₀) (hk : cs.kind = .function) (hdp : dp + 6 < recursionLimit) (hu : un + 40 < cLine)
  (hc : oSt.cls = .type "function") (hd : oSt.dict = some sd) (hf : oSt.data = .func fd) {oc : Value} {od : Option Addr} {fd2 : FuncData} {sl : Array (Option Value)} (hfn : (rd, (⟨oc, od, .func fd2, sl⟩ : Obj)) ∈ objs) (hR : ReadSpec prog w p loose mean mg mb rd lat objs tx) (hk1000 : k < 1000)
  (hy : Txt.slice tx (some (k : Int)) (some ((k : Int) + 1)) = y) (hyl : y.length ≤ 1) (hyn : (y == Str.ofString "\n") = false)
  (hoff : ∀ q ∈ pre ++ ((x, instObj 80 dx) :: (dx, instD w st lp k1 k2 k3 k4 v1 v3) :: (lp, W.listOf items.toArray e2) :: (st, oSt) :: (sd, readD w rd kr) :: (objs ++ news)), q.1 ≠ lat)
  (ret : ∀ t' tk2 h' tk', Fr h₀ L h' m → News h₀ L h' (pre ++ txtLed w x dx lp lat st sd rd oSt k1 k2 k3 k4 v1 v3 kr tk2 ((k : Int) + y.length) e items e2 objs news) → Q (.str y t') { s with heap := h', toks := tk' }) :
  codeAny (model prog w) (ktrTop dp un gd cn cs L a ccd cl outer) (.call (.ref 63) ⟨[.ref x], []⟩) (fun r s' => match r with | .ok (.ret v) => Q v s' | .ok _ => False | .error e => E e s') s := by
  have N0 : News h₀ L s.heap ((rd, (⟨oc, od, .func fd2, sl⟩ : Obj)) :: (x, instObj 80 dx) :: (dx, instD w st lp k1 k2 k3 k4 v1 v3) :: (lat, W.listOf #[.int (k : Int) tk] e) :: (st, oSt) :: (sd, readD w rd kr) :: (objs ++ (pre ++ (lp, W.listOf items.toArray e2) :: news))) := fun q hq => N q (by
    simp only [txtLed, List.mem_append, List.mem_cons] at hq ⊢
    rcases hq with h | h | h | h | h | h | h | h | h | h
    · subst h; simp only [hfn, true_or, or_true]
    · exact .inr (.inl h)
    · exact .inr (.inr (.inl h))
    · exact .inr (.inr (.inr (.inr (.inl h))))
    · exact .inr (.inr (.inr (.inr (.inr (.inl h)))))
    · exact .inr (.inr (.inr (.inr (.inr (.inr (.inl h))))))
    · exact .inr (.inr (.inr (.inr (.inr (.inr (.inr (.inl h)))))))
    · exact .inl h
    · exact .inr (.inr (.inr (.inl h)))
    · exact .inr (.inr (.inr (.inr (.inr (.inr (.inr (.inr h)))))))
    )
  clear N
  k_dflt (refine' code_def ?k1 ?k2 ?k3 ?k4 ?k5 ?kA ?kF ?kK ?k6 ?k7 ?k8 ?k9 ?kB ?_ ?c2 ?c3 ?c4 ?c5; (case kA => exact rfl); (case kF => exact rfl); (case kK => first | exact rfl | assumption); (case k1 => k_asm); (case k2 => k_asm); (case k3 => k_asm); (case k4 => k_asm); (case k5 => k_asm); (case k6 => k_is); (case k7 => k_is); (case k8 => ((try simp only [depth_under_make, depth_under_kw, depth_in1, depth_deeper, depth_caller]); (try dsimp only [ktrTop, Around.deeper]); omega)); (case k9 => first | exact BindsTo.of_eq rfl | exact binds_K (by k_in) rfl (by k_is) rfl rfl rfl); (case c5 => decide); (case kB => exact locs rfl); (case c2 => exact rfl); (case c3 => exact rfl); (case c4 => exact rfl); k_whole; intro g' L' h' FG' F' N' B' X' T'; (try dsimp only); (try k_lift B'); (try k_fold))
  k_steps
  refine ⟨?_⟩
  rename Fr _ _ _ _ => F9
  rename News _ _ _ _ => N9
  k_dflt (refine' hR _ _ _ _ _ _ _ _ _ _ _ _ _ _ _ _ _ _ _ _ _ _ _ ?k1 ?k2 ?k3 ?k4 ?k5 ?k6 ?k7 ?k8 ?k9 ?k10 ?k11 ?k12 ?_)
  case k1 => k_asm
  case k2 => k_asm
  case k3 => k_asm
  case k4 => exact read_to N9
  case k5 => k_asm
  case k6 => first | exact rfl | assumption
  case k7 => (try dsimp only [ktrTop, Around.deeper]); omega
  case k8 => (try dsimp only [ktrTop, Around.deeper]); omega
  case k9 => exact hk1000
  case k10 => exact hy
  case k11 => exact hyl
  case k12 => exact read_off hfn hoff
  intro t1 t2 h10 tk10 F10 N10
  replace N10 := read_back N10
  clear F9 N9
  dsimp only at F10 N10 ⊢
  k_steps
  rename News h₀ L _ _ => kN
  exact ret _ _ _ _ (by assumption) (txt_back kN)
end Mine
end
section
open PySem PySem.W PyProof.Rows PySem.Calls
open PySem.Flt
namespace Mine
variable {prog : Program} {w : World} {p : Program} {loose : List Str} {mean : ExcName → Option Value} {mg mb : Str → Option Value}
  {dp un : Nat} {gd : Option (List Code)} {cn : Str} {cs : Scope} {a : Addr} {ccd : Value} {cl : List (Str × Addr)} {outer : List Env} {A₀ : Around} {base h₀ : Heap} {L : Addr} {m : Str → Option Value} {s : Shared} {Q E : Value → Shared → Prop} {news : List (Addr × Obj)}

local macro_rules | `(tactic| k_all) => `(tactic| assumption)
theorem k_iter2 {A : Around} {q : Addr} {f x : Value} {t : Tok} {Q : Value → Shared → Prop} (F : Fr h₀ L s.heap m) (N : News h₀ L s.heap news) (hq : (q, methodObj f x) ∈ news)
    (h : ∀ ci h', Fr h₀ L h' m → News h₀ L h' ((ci, ciObj q t false) :: news) → (∀ p ∈ news, p.1 < ci) → Q (.ref ci) { s with heap := h' }) : wpAny (model prog w) A (call (.builtin "iter") [.ref q, .str (Str.ofString "") t]) Q E s :=
  call_iter2 (N _ hq).1 (h _ _ (F.push _) (News.push F N _ rfl) fun p hp => Heap.lt_size (N p hp).1)
set_option maxHeartbeats 4000000 in
theorem ci_next {x dx lp lat st sd rd ci q : Addr} {oSt : Obj} {fd fd2 : FuncData} {oc : Value} {od : Option Addr} {sl : Array (Option Value)} {k1 k2 k3 k4 v1 v3 kr tk t : Tok} {e e2 k : Nat} {items : List Value} {objs news : List (Addr × Obj)} {tx y : PySem.Str} {Q : Option Value → Shared → Prop}
  (B : Below A₀ base outer h₀) (F : Fr h₀ L s.heap m) (X : (KK w.params).In h₀) (N : News h₀ L s.heap ((ci, ciObj q t false) :: (q, methodObj (.ref 63) (.ref x)) :: txtLed w x dx lp lat st sd rd oSt k1 k2 k3 k4 v1 v3 kr tk (k : Int) e items e2 objs news)) (T : Top p loose mean mg mb h₀) (hk : cs.kind = .function) (hdp : dp + 12 < recursionLimit) (hu : un + 60 < cLine)
  (hc : oSt.cls = .type "function") (hd : oSt.dict = some sd) (hf : oSt.data = .func fd) (hfn : (rd, (⟨oc, od, .func fd2, sl⟩ : Obj)) ∈ objs) (hR : ReadSpec prog w p loose mean mg mb rd lat objs tx) (hk1000 : k < 1000)
  (hy : Txt.slice tx (some (k : Int)) (some ((k : Int) + 1)) = y) (hyl : y.length ≤ 1) (hyn : (y == Str.ofString "\n") = false)
  (hoff : ∀ r ∈ [(ci, ciObj q t false), (q, methodObj (.ref 63) (.ref x))] ++ ((x, instObj 80 dx) :: (dx, instD w st lp k1 k2 k3 k4 v1 v3) :: (lp, W.listOf items.toArray e2) :: (st, oSt) :: (sd, readD w rd kr) :: (objs ++ news)), r.1 ≠ lat)
  (hci : ∀ r ∈ (q, methodObj (.ref 63) (.ref x)) :: txtLed w x dx lp lat st sd rd oSt k1 k2 k3 k4 v1 v3 kr tk (k : Int) e items e2 objs news, r.1 ≠ ci)
  (item : y ≠ Str.ofString "" → ∀ t' tk2 h' tk', Fr h₀ L h' m → News h₀ L h' ((ci, ciObj q t false) :: (q, methodObj (.ref 63) (.ref x)) :: txtLed w x dx lp lat st sd rd oSt k1 k2 k3 k4 v1 v3 kr tk2 ((k : Int) + y.length) e items e2 objs news) → Q (some (.str y t')) { s with heap := h', toks := tk' })
  (done : y = Str.ofString "" → ∀ tk2 h' tk', Fr h₀ L h' m → News h₀ L h' ((ci, ciEnd) :: (q, methodObj (.ref 63) (.ref x)) :: txtLed w x dx lp lat st sd rd oSt k1 k2 k3 k4 v1 v3 kr tk2 ((k : Int) + y.length) e items e2 objs news) → Q none { s with heap := h', toks := tk' }) :
  wpAny (model prog w) (ktrTop dp un gd cn cs L a ccd cl outer) (pyNext (.ref ci)) Q E s := by
  have X1 := X.keeps F.keep
  have h63 : s.heap.get? 63 = some _ := X1 63 _ (by k_is)
  refine next_ci (fa := 63) (x := .ref x) rfl (N _ List.mem_cons_self).1 (N _ (List.mem_cons_of_mem _ List.mem_cons_self)).1 h63 rfl fun E' => ?_
  refine call_meth (s := s) N (List.mem_cons_of_mem _ List.mem_cons_self) ?_
  k_dflt (refine' read_char (pre := [(ci, ciObj q t false), (q, methodObj (.ref 63) (.ref x))]) ?k1 F X N T ?k6 ?k7 ?k8 hc hd hf hfn hR hk1000 hy hyl hyn hoff ?_)
  case k1 => exact B
  case k6 => exact hk
  case k7 => (show dp + 6 < recursionLimit); omega
  case k8 => (show un + 1 + 40 < cLine); omega
  intro t' tk2 h' tk' F' N'
  dsimp only at F' N' ⊢
  refine ⟨y, t', rfl, (N' _ List.mem_cons_self).1, (N' _ (List.mem_cons_of_mem _ List.mem_cons_self)).1, (X.keeps F'.keep) 63 _ (by k_is), fun hne => item hne _ _ _ _ F' N', fun he h1 h2 hs1 hci1 hk2 => done he tk2 _ _ ?_ ?_⟩
  · have hz := N' _ List.mem_cons_self
    exact (F'.change hs1 hz.2.1 hz.2.2).keeps hk2
  · intro r hr
    rcases List.mem_cons.mp hr with rfl | hr
    · exact ⟨hk2 _ _ hci1, (N' _ List.mem_cons_self).2⟩
    · have hz := N' r (List.mem_cons_of_mem _ hr)
      have hm : ∃ o, (r.1, o) ∈ (q, methodObj (.ref 63) (.ref x)) :: txtLed w x dx lp lat st sd rd oSt k1 k2 k3 k4 v1 v3 kr tk (k : Int) e items e2 objs news := by
        rcases List.mem_cons.mp hr with rfl | hr
        · exact ⟨_, List.mem_cons_self⟩
        · simp only [txtLed, List.mem_cons] at hr ⊢
          rcases hr with rfl | rfl | rfl | rfl | rfl | rfl | hr
          · exact ⟨_, .inr (.inl rfl)⟩
          · exact ⟨_, .inr (.inr (.inl rfl))⟩
          · exact ⟨_, .inr (.inr (.inr (.inl rfl)))⟩
          · exact ⟨_, .inr (.inr (.inr (.inr (.inl rfl))))⟩
          · exact ⟨_, .inr (.inr (.inr (.inr (.inr (.inl rfl)))))⟩
          · exact ⟨_, .inr (.inr (.inr (.inr (.inr (.inr (.inl rfl))))))⟩
          · exact ⟨r.2, .inr (.inr (.inr (.inr (.inr (.inr (.inr hr))))))⟩
      obtain ⟨o, hm⟩ := hm
      exact ⟨hk2 _ _ ((hs1.2 _ (hci _ hm)).trans hz.1), hz.2⟩
end Mine
end
section
open PySem PySem.W PyProof.Rows PySem.Calls
open PySem.Flt
namespace Mine
variable {prog : Program} {w : World} {p : Program} {loose : List Str} {mean : ExcName → Option Value} {mg mb : Str → Option Value}
  {dp un : Nat} {gd : Option (List Code)} {cn : Str} {cs : Scope} {a : Addr} {ccd : Value} {cl : List (Str × Addr)} {outer : List Env} {A₀ : Around} {base h₀ : Heap} {L : Addr} {m : Str → Option Value} {s : Shared} {Q E : Value → Shared → Prop} {news : List (Addr × Obj)}
local macro_rules | `(tactic| walk_at $_:str) => `(tactic| (k_here; first | dsimp only | k_gentoks))
local macro_rules | `(tactic| walk_at "CutQ") => `(tactic| (unfold CutQ; with_reducible conv => whnf))
local macro_rules | `(tactic| walk_at "execs cons") => `(tactic| (k_here; (try dsimp only); (try k_gentoks); (with_reducible rename Fr _ _ _ _ => lF'); (with_reducible refine execs_let lF' ?_); clear lF'; intro m' F' Q'; (try dsimp only)))

local macro_rules | `(tactic| k_all) => `(tactic| assumption)
local macro_rules | `(tactic| walk_at "truthy ref") => `(tactic| (k_here; (with_reducible show wpAny _ _ (truthy (Value.ref _)) _ _ _); k_dflt (refine' truthy_empty ?N ?m ?_; (case N => k_asm); (case m => k_mem))))
local macro_rules | `(tactic| walk_at "call builtin:iter") => `(tactic| (k_here; k_dflt (refine' k_iter2 ?F ?N ?q ?_; (case F => k_asm); (case N => k_asm); (case q => k_mem)); intro ci h' F' N' l1; (try dsimp only); (try k_lt l1)))
local macro_rules | `(tactic| walk_at "exec For Name Name cons nil") => `(tactic| (k_here; k_dflt (refine wpAny_For ?_)))
local macro_rules | `(tactic| walk_at "pyIter ref") => `(tactic| ((try dsimp only); refine Hold.out ?_))
/-- the signs that get_token keeps -/
noncomputable def tokF : Bool → List Nat → List Nat
  | _, [] => []
  | true, c :: r => c :: tokF false r
  | false, c :: r => if c = 92 then tokF true r else c :: tokF false r
noncomputable def TokSt (w : World) (g : Heap) (L' ci q x dx lp lat st sd rd : Addr) (oSt : Obj) (k1 k2 k3 k4 v1 v3 kr : Tok) (e : Nat) (objs news : List (Addr × Obj)) (s0 : Shared) (pos : Nat) (tok : List Nat) (co : Obj) (s' : Shared) : Prop :=
  ∃ (h' : Heap) (tk' : Nat) (tk tt : Tok) (rest : PySem.Str → Option Value), s' = { s0 with heap := h', toks := tk' } ∧ Fr g L' h' (over [(Str.ofString "self", Value.ref x), (Str.ofString "token", Value.str ⟨tok.toArray⟩ tt), (Str.ofString "fiter", Value.ref ci)] rest) ∧
    News g L' h' ((ci, co) :: (q, methodObj (.ref 63) (.ref x)) :: txtLed w x dx lp lat st sd rd oSt k1 k2 k3 k4 v1 v3 kr tk (pos : Int) e [] 0 objs news)
theorem fr_over2 {h₀ h : Heap} {L : Addr} {m : PySem.Str → Option Value} {ps : List (PySem.Str × Value)} (F : Fr h₀ L h m) (hR : Reads m ps) : Fr h₀ L h (over ps m) := by
  rw [← over_self hR]; exact F
theorem txt_off {q ci x dx lp lat st sd : Addr} {o0 o1 o2 o3 o4 o5 o6 : Obj} {l : List (Addr × Obj)} (h : q < ci ∧ x < ci ∧ dx < ci ∧ lp < ci ∧ lat < ci ∧ st < ci ∧ sd < ci ∧ AllLt ci l) :
    ∀ r ∈ (q, o0) :: (x, o1) :: (dx, o2) :: (lp, o3) :: (lat, o4) :: (st, o5) :: (sd, o6) :: l, r.1 ≠ ci := by
  obtain ⟨h0, h1, h2, h3, h4, h5, h6, h7⟩ := h
  intro r hr
  simp only [List.mem_cons] at hr
  rcases hr with rfl | rfl | rfl | rfl | rfl | rfl | rfl | hr
  · exact Nat.ne_of_lt h0
  · exact Nat.ne_of_lt h1
  · exact Nat.ne_of_lt h2
  · exact Nat.ne_of_lt h3
  · exact Nat.ne_of_lt h4
  · exact Nat.ne_of_lt h5
  · exact Nat.ne_of_lt h6
  · exact Nat.ne_of_lt (allLt_to h7 r hr)
theorem lat_off {q ci lat : Addr} {o0 o1 : Obj} {l : List (Addr × Obj)} (h1 : lat < ci) (h2 : lat < q) (h : ∀ r ∈ l, r.1 ≠ lat) : ∀ r ∈ [(ci, o0), (q, o1)] ++ l, r.1 ≠ lat := by
  intro r hr
  simp only [List.cons_append, List.nil_append, List.mem_cons] at hr
  rcases hr with rfl | rfl | hr
  · exact Nat.ne_of_gt h1
  · exact Nat.ne_of_gt h2
  · exact h r hr
theorem in_no {A : Around} {E : Value → Shared → Prop} {s : Shared} {x y : PySem.Str} {t u : Tok} {Q : Value → Shared → Prop} (hw : (Builtin.Str.occurrences x y 0 x.length 1).isEmpty = true) (h : Q (.bool false) s) : wpAny (model prog w) A (compareOp .In (.str y u) (.str x t)) Q E s :=
  PyProof.Rows.in_str (by rw [hw]; exact h)
local macro_rules | `(tactic| walk_at "inplaceOp Add str str") => `(tactic| (k_here; refine PyProof.Rows.iadd_str (hsz := ?z) ?_; (case z => first | size_fits | (with_unfolding_all assumption)); intro _ _))
local macro_rules | `(tactic| walk_at "compareOp In str str") => `(tactic| (k_here; refine in_no (by first | assumption | decide +kernel) ?_))
local macro_rules | `(tactic| walk_at "call ref") => `(tactic| ((try dsimp only); refine Hold.out ?_))
theorem next_sign {tx : PySem.Str} {i : Nat} (h : pendF false (92 :: tx.cps.toList.drop (i + 1)) = false) : ∃ c, tx.cps[i + 1]? = some c := by
  cases e : tx.cps[i + 1]? with
  | some c => exact ⟨c, rfl⟩
  | none =>
    have : tx.cps.toList.drop (i + 1) = [] := List.drop_of_length_le (by simpa using e)
    rw [this] at h
    exact absurd h (by decide)
theorem tok_one {x : PySem.Str} {i c : Nat} (hc : x.cps[i]? = some c) (h : c ≠ 92) : tokF false (x.cps.toList.drop i) = c :: tokF false (x.cps.toList.drop (i + 1)) ∧ pendF false (x.cps.toList.drop i) = pendF false (x.cps.toList.drop (i + 1)) := by
  rw [drop_at hc]
  exact ⟨if_neg h, by show pendF (c == 92) _ = _; rw [show (c == 92) = false by simpa using h]⟩
theorem tok_two {x : PySem.Str} {i c : Nat} (h0 : x.cps[i]? = some 92) (hc : x.cps[i + 1]? = some c) : tokF false (x.cps.toList.drop i) = c :: tokF false (x.cps.toList.drop (i + 1 + 1)) ∧ pendF false (x.cps.toList.drop i) = pendF false (x.cps.toList.drop (i + 1 + 1)) := by
  rw [drop_at h0, drop_at hc]
  exact ⟨rfl, rfl⟩
theorem str_snoc {tok : List Nat} {c : Nat} : (⟨tok.toArray⟩ : PySem.Str) ++ ⟨#[c]⟩ = ⟨(tok ++ [c]).toArray⟩ := by
  show (⟨tok.toArray ++ #[c]⟩ : PySem.Str) = _
  simp
local macro_rules | `(tactic| walk_at "Exists") => `(tactic| ((try dsimp only); refine Hold.out ?_))
theorem join2 {K G : Heap → Nat → Prop} {P : Prop} (use : (∀ h t, K h t → G h t) → P) (tail : ∀ h t, K h t → G h t) : P := use tail
set_option maxHeartbeats 4000000 in
theorem token {x dx lp lat st sd rd : Addr} {oSt : Obj} {fd fd2 : FuncData} {oc : Value} {od : Option Addr} {sl : Array (Option Value)} {k1 k2 k3 k4 v1 v3 kr tk : Tok} {e : Nat} {objs news : List (Addr × Obj)} {tx : PySem.Str}
  (B : Below A₀ base outer h₀) (F : Fr h₀ L s.heap m) (X : (KK w.params).In h₀) (N : News h₀ L s.heap (txtLed w x dx lp lat st sd rd oSt k1 k2 k3 k4 v1 v3 kr tk 0 e [] 0 objs news)) (T : Top p loose mean mg mb h₀) (hk : cs.kind = .function) (hdp : dp + 20 < recursionLimit) (hu : un + 100 < cLine)
  (hc : oSt.cls = .type "function") (hd : oSt.dict = some sd) (hf : oSt.data = .func fd) (hfn : (rd, (⟨oc, od, .func fd2, sl⟩ : Obj)) ∈ objs) (hR : ReadSpec prog w p loose mean mg mb rd lat objs tx) (hlen : tx.cps.size < 1000) (hne0 : 0 < tx.cps.size)
  (hsign : ∀ c ∈ tx.cps.toList, c = 92 ∨ c = 50 ∨ c = 51 ∨ c = 52) (hpend : pendF false tx.cps.toList = false)
  (hoff : ∀ r ∈ (x, instObj 80 dx) :: (dx, instD w st lp k1 k2 k3 k4 v1 v3) :: (lp, W.listOf [].toArray 0) :: (st, oSt) :: (sd, readD w rd kr) :: (objs ++ news), r.1 ≠ lat)
  (ret : ∀ t' tk2 h' tk', Fr h₀ L h' m → News h₀ L h' (txtLed w x dx lp lat st sd rd oSt k1 k2 k3 k4 v1 v3 kr tk2 (tx.cps.size : Int) e [] 0 objs news) → Q (.str ⟨(tokF false tx.cps.toList).toArray⟩ t') { s with heap := h', toks := tk' }) :
  wpAny (model prog w) (ktrTop dp un gd cn cs L a ccd cl outer) (call (.ref 70) [.ref x]) Q E s := by
  dsimp only [txtLed] at N
  refine wpAny_call ?_
  k_dflt (refine' code_def ?k1 ?k2 ?k3 ?k4 ?k5 ?kA ?kF ?kK ?k6 ?k7 ?k8 ?k9 ?kB ?_ ?c2 ?c3 ?c4 ?c5; (case kA => exact rfl); (case kF => exact rfl); (case kK => first | exact rfl | assumption); (case k1 => k_asm); (case k2 => k_asm); (case k3 => k_asm); (case k4 => k_asm); (case k5 => k_asm); (case k6 => k_is); (case k7 => k_is); (case k8 => ((try simp only [depth_under_make, depth_under_kw, depth_in1, depth_deeper, depth_caller]); (try dsimp +zetaDelta only [ktrTop, Around.deeper]); omega)); (case k9 => first | exact BindsTo.of_eq rfl | exact binds_K (by k_in) rfl (by k_is) rfl rfl rfl); (case c5 => decide); (case kB => exact locs rfl); (case c2 => exact rfl); (case c3 => exact rfl); (case c4 => exact rfl); k_whole; intro g L' hh FG F' N' B' X' T'; (try dsimp only); (try k_lift B'); (try k_fold))
  show let A' : Around := _; let env' : Env := _; wpAny _ A' (execs _ env') _ _ _
  intro A' env'
  k_steps
  refine ⟨?_⟩
  rename Fr _ _ _ _ => F1
  rename News _ _ _ _ => N1
  refine iter_ci (N1 _ List.mem_cons_self).1 rfl ?_
  rename (_ < _ ∧ x < _ ∧ dx < _ ∧ _) => hl2
  rename (x < _ ∧ dx < _ ∧ lp < _ ∧ _) => hl1
  rename_i q h8 tc tc2 ci h9 h10 mL QL
  have hcioff := fun o0 o1 o2 o3 o4 o5 o6 => txt_off (o0 := o0) (o1 := o1) (o2 := o2) (o3 := o3) (o4 := o4) (o5 := o5) (o6 := o6) hl2
  have hlatoff := fun o0 o1 => lat_off (o0 := o0) (o1 := o1) hl2.2.2.2.2.1 hl1.2.2.2.1 hoff
  have F2 := fr_over2 (ps := [(Str.ofString "self", Value.ref x), (Str.ofString "token", Value.str ⟨([] : List Nat).toArray⟩ _), (Str.ofString "fiter", Value.ref _)]) F1 ⟨rfl, rfl, rfl, trivial⟩
  refine codeAny_forLoop (fun n s' => (n = 1 ∧ TokSt w g L' ci q x dx lp lat st sd rd oSt k1 k2 k3 k4 v1 v3 kr e objs news s 0 [] (ciObj q tc false) s') ∨ (n = 0 ∧ TokSt w g L' ci q x dx lp lat st sd rd oSt k1 k2 k3 k4 v1 v3 kr e objs news s tx.cps.size (tokF false tx.cps.toList) ciEnd s')) ?_ 1 (.inl ⟨rfl, _, _, _, _, _, rfl, F2, N1⟩)
  rintro n s' (⟨rfl, h3, tk3, tk4, tt, rest, rfl, F3, N3⟩ | ⟨rfl, h3, tk3, tk4, tt, rest, rfl, F3, N3⟩)
  · clear F1 F2 N1
    revert F3 N3
    refine join2 (G := ?G) (K := fun h8 t8 => ∃ (pos : Nat) (tok : List Nat), pos ≤ tx.cps.size ∧ tok.length ≤ pos ∧ tok ++ tokF false (tx.cps.toList.drop pos) = tokF false tx.cps.toList ∧ pendF false (tx.cps.toList.drop pos) = false ∧ TokSt w g L' ci q x dx lp lat st sd rd oSt k1 k2 k3 k4 v1 v3 kr e objs news s pos tok (ciObj q tc false) { s with heap := h8, toks := t8 }) ?use ?tail
    case use =>
      intro hT F3 N3
      obtain ⟨c0, hc0⟩ : ∃ c, tx.cps[0]? = some c := ⟨tx.cps[0], Array.getElem?_eq_getElem hne0⟩
      have hs0 := hsign c0 (Array.mem_toList_iff.mpr (Array.mem_of_getElem? hc0))
      have hn0 : ((⟨#[c0]⟩ : PySem.Str) == Str.ofString "\n") = false := by rcases hs0 with rfl | rfl | rfl | rfl <;> rfl
      k_dflt (refine' ci_next (tx := tx) (y := ⟨#[c0]⟩) (k := 0) ?k1_1 F3 ?k2_1 N3 ?k3_1 ?k6_1 ?k7_1 ?k8_1 hc hd hf hfn hR (by decide) (slice_at hc0) (Nat.le_refl 1) hn0 (hlatoff _ _) (hcioff _ _ _ _ _ _ _) ?item_1 ?done_1)
      case k1_1 => k_asm
      case k2_1 => k_asm
      case k3_1 => k_asm
      case k6_1 => exact rfl
      case k7_1 => (try dsimp +zetaDelta only [ktrTop, Around.deeper]); omega
      case k8_1 => (try dsimp +zetaDelta only [ktrTop, Around.deeper]); omega
      case done_1 => exact fun h => absurd h (fun h => by cases h)
      intro _ t5 tk5 h5 tk6 F5 N5
      (try dsimp only at F5 N5 ⊢)
      simp only [over] at F5
      clear F3 N3
      have hw0 : (Builtin.Str.occurrences (Str.ofString "\n\t\r ") ⟨#[c0]⟩ 0 (Str.ofString "\n\t\r ").length 1).isEmpty = true := by rcases hs0 with rfl | rfl | rfl | rfl <;> decide +kernel
      have hq0 : ((⟨#[c0]⟩ : PySem.Str) == Str.ofString "\"") = false := by rcases hs0 with rfl | rfl | rfl | rfl <;> rfl
      have hd0 := drop_at hc0
      rw [List.drop_zero] at hd0
      by_cases h92 : c0 = 92
      · subst h92
        obtain ⟨c1, hc1⟩ : ∃ c, tx.cps[0 + 1]? = some c := by
          rw [hd0] at hpend
          exact next_sign hpend
        have hs1 := hsign c1 (Array.mem_toList_iff.mpr (Array.mem_of_getElem? hc1))
        have hn1 : ((⟨#[c1]⟩ : PySem.Str) == Str.ofString "\n") = false := by rcases hs1 with rfl | rfl | rfl | rfl <;> rfl
        k_steps
        refine ⟨?_⟩
        rename Fr _ _ _ _ => F6
        rename News _ _ _ _ => N6
        refine wpAny_call ?_
        k_dflt (refine' read_char (tx := tx) (y := ⟨#[c1]⟩) (k := 0 + 1) (pre := [(ci, ciObj q tc false), (q, methodObj (.ref 63) (.ref x))]) ?k1_2 F6 ?k2_2 N6 ?k3_2 ?k6_2 ?k7_2 ?k8_2 hc hd hf hfn hR (by decide) (slice_at hc1) (Nat.le_refl 1) hn1 (hlatoff _ _) ?rr_2)
        case k1_2 => k_asm
        case k2_2 => k_asm
        case k3_2 => k_asm
        case k6_2 => exact rfl
        case k7_2 => (try dsimp +zetaDelta only [ktrTop, Around.deeper]); omega
        case k8_2 => (try dsimp +zetaDelta only [ktrTop, Around.deeper]); omega
        intro t7 tk7 h7 tk8 F7 N7
        (try dsimp only at F7 N7 ⊢)
        clear F6 N6
        k_steps
        refine ⟨?_⟩
        rename Fr _ _ _ _ => F8
        rename News _ _ _ _ => N8
        rename Heap => h8; rename Nat => t8
        replace F8 := fr_over2 (ps := [(Str.ofString "self", Value.ref x), (Str.ofString "token", Value.str ⟨([c1] : List Nat).toArray⟩ _), (Str.ofString "fiter", Value.ref ci)]) F8 ⟨rfl, rfl, rfl, trivial⟩
        exact hT h8 t8 ⟨0 + 1 + 1, [c1], (Array.getElem?_eq_some_iff.mp hc1).1, Nat.le_succ 1, ((tok_two hc0 hc1).1).symm, (tok_two hc0 hc1).2 ▸ hpend, _, _, _, _, _, rfl, F8, N8⟩
      · have hb0 : ((⟨#[c0]⟩ : PySem.Str) == Str.ofString "\\") = false := by rcases hs0 with rfl | rfl | rfl | rfl <;> first | exact absurd rfl h92 | rfl
        k_steps
        refine ⟨?_⟩
        rename Fr _ _ _ _ => F8
        rename News _ _ _ _ => N8
        rename Heap => h8; rename Nat => t8
        replace F8 := fr_over2 (ps := [(Str.ofString "self", Value.ref x), (Str.ofString "token", Value.str ⟨([c0] : List Nat).toArray⟩ _), (Str.ofString "fiter", Value.ref ci)]) F8 ⟨rfl, rfl, rfl, trivial⟩
        exact hT h8 t8 ⟨0 + 1, [c0], hne0, Nat.le_refl 1, ((tok_one hc0 h92).1).symm, (tok_one hc0 h92).2 ▸ hpend, _, _, _, _, _, rfl, F8, N8⟩
    case tail =>
      rintro h8 t8 ⟨pos0, tok0, q1, q2, q3, q4, h0', tk0', tk1', tt0, rest0, e0, F8, N8⟩
      cases e0
      refine iter_ci (N8 _ List.mem_cons_self).1 rfl ?_
      refine codeAny_forLoop (fun n s' => ∃ (pos : Nat) (tok : List Nat), pos ≤ tx.cps.size ∧ tok.length ≤ pos ∧ tok ++ tokF false (tx.cps.toList.drop pos) = tokF false tx.cps.toList ∧ pendF false (tx.cps.toList.drop pos) = false ∧ n = tx.cps.size - pos + 1 ∧ TokSt w g L' ci q x dx lp lat st sd rd oSt k1 k2 k3 k4 v1 v3 kr e objs news s pos tok (ciObj q tc false) s') ?_ _ ⟨pos0, tok0, q1, q2, q3, q4, rfl, _, _, _, _, _, rfl, F8, N8⟩
      rintro k s' ⟨pos, tok, hpos, htl, htok, hpe, rfl, h3', tk3', tk4', tt', rest', rfl, F9, N9⟩
      clear F8 N8
      by_cases hlt : pos < tx.cps.size
      · obtain ⟨c, hcc⟩ : ∃ c, tx.cps[pos]? = some c := ⟨_, Array.getElem?_eq_getElem hlt⟩
        have hsc := hsign c (Array.mem_toList_iff.mpr (Array.mem_of_getElem? hcc))
        have hnc : ((⟨#[c]⟩ : PySem.Str) == Str.ofString "\n") = false := by rcases hsc with rfl | rfl | rfl | rfl <;> rfl
        have hbt : (⟨tok.toArray⟩ : PySem.Str).length + 1 ≤ sizeLine := by rw [sizeLine_eq]; show tok.toArray.size + 1 ≤ _; rw [List.size_toArray]; omega
        have hwc : (Builtin.Str.occurrences (Str.ofString "\n\t\r ") ⟨#[c]⟩ 0 (Str.ofString "\n\t\r ").length 1).isEmpty = true := by rcases hsc with rfl | rfl | rfl | rfl <;> decide +kernel
        k_dflt (refine' ci_next (tx := tx) (y := ⟨#[c]⟩) (k := pos) ?k1_6 F9 ?k2_6 N9 ?k3_6 ?k6_6 ?k7_6 ?k8_6 hc hd hf hfn hR (by omega) (slice_at hcc) (Nat.le_refl 1) hnc (hlatoff _ _) (hcioff _ _ _ _ _ _ _) ?item_6 ?done_6)
        case k1_6 => k_asm
        case k2_6 => k_asm
        case k3_6 => k_asm
        case k6_6 => exact rfl
        case k7_6 => (try dsimp +zetaDelta only [ktrTop, Around.deeper]); omega
        case k8_6 => (try dsimp +zetaDelta only [ktrTop, Around.deeper]); omega
        case done_6 => exact fun h => absurd h (fun h => by cases h)
        intro _ t5 tk5 h5 tk6 F5 N5
        (try dsimp only at F5 N5 ⊢)
        simp only [over] at F5
        clear F9 N9
        by_cases h92' : c = 92
        · subst h92'
          obtain ⟨c2, hc2⟩ : ∃ c, tx.cps[pos + 1]? = some c := by
            rw [drop_at hcc] at hpe
            exact next_sign hpe
          have hs2 := hsign c2 (Array.mem_toList_iff.mpr (Array.mem_of_getElem? hc2))
          have hn2 : ((⟨#[c2]⟩ : PySem.Str) == Str.ofString "\n") = false := by rcases hs2 with rfl | rfl | rfl | rfl <;> rfl
          have hlt2 := (Array.getElem?_eq_some_iff.mp hc2).1
          k_steps
          refine ⟨?_⟩
          rename Fr _ _ _ _ => F6
          rename News _ _ _ _ => N6
          refine wpAny_call ?_
          k_dflt (refine' read_char (tx := tx) (y := ⟨#[c2]⟩) (k := pos + 1) (pre := [(ci, ciObj q tc false), (q, methodObj (.ref 63) (.ref x))]) ?k1_7 F6 ?k2_7 N6 ?k3_7 ?k6_7 ?k7_7 ?k8_7 hc hd hf hfn hR (by omega) (slice_at hc2) (Nat.le_refl 1) hn2 (hlatoff _ _) ?rr_7)
          case k1_7 => k_asm
          case k2_7 => k_asm
          case k3_7 => k_asm
          case k6_7 => exact rfl
          case k7_7 => (try dsimp +zetaDelta only [ktrTop, Around.deeper]); omega
          case k8_7 => (try dsimp +zetaDelta only [ktrTop, Around.deeper]); omega
          intro t7 tk7 h7 tk8 F7 N7
          (try dsimp only at F7 N7 ⊢)
          clear F6 N6
          k_steps
          refine ⟨?_⟩
          rename Fr _ _ _ _ => F8
          rename News _ _ _ _ => N8
          refine ⟨tx.cps.size - (pos + 1 + 1) + 1, by omega, pos + 1 + 1, tok ++ [c2], hlt2, (by rw [List.length_append]; exact Nat.le_succ_of_le (Nat.succ_le_succ htl)), ?_, (tok_two hcc hc2).2 ▸ hpe, rfl, _, _, _, _, _, rfl, fr_over2 F8 ⟨rfl, congrArg (fun z => some (Value.str z _)) str_snoc, rfl, trivial⟩, N8⟩
          rw [List.append_assoc]; rw [(tok_two hcc hc2).1] at htok; exact htok
        · have hbc : ((⟨#[c]⟩ : PySem.Str) == Str.ofString "\\") = false := by rcases hsc with rfl | rfl | rfl | rfl <;> first | exact absurd rfl h92' | rfl
          k_steps
          refine ⟨?_⟩
          rename Fr _ _ _ _ => F8
          rename News _ _ _ _ => N8
          refine ⟨tx.cps.size - (pos + 1) + 1, by omega, pos + 1, tok ++ [c], hlt, (by rw [List.length_append]; exact Nat.succ_le_succ htl), ?_, (tok_one hcc h92').2 ▸ hpe, rfl, _, _, _, _, _, rfl, fr_over2 F8 ⟨rfl, congrArg (fun z => some (Value.str z _)) str_snoc, rfl, trivial⟩, N8⟩
          rw [List.append_assoc]; rw [(tok_one hcc h92').1] at htok; exact htok
      · have hpe' : pos = tx.cps.size := Nat.le_antisymm hpos (Nat.not_lt.mp hlt)
        subst hpe'
        rw [List.drop_of_length_le (by simp)] at htok
        have htf : tok = tokF false tx.cps.toList := by rw [← htok]; exact (List.append_nil tok).symm
        subst htf
        k_dflt (refine' ci_next (tx := tx) (y := ⟨#[]⟩) (k := tx.cps.size) ?k1_8 F9 ?k2_8 N9 ?k3_8 ?k6_8 ?k7_8 ?k8_8 hc hd hf hfn hR hlen slice_past (Nat.zero_le 1) rfl (hlatoff _ _) (hcioff _ _ _ _ _ _ _) ?item_8 ?done_8)
        case k1_8 => k_asm
        case k2_8 => k_asm
        case k3_8 => k_asm
        case k6_8 => exact rfl
        case k7_8 => (try dsimp +zetaDelta only [ktrTop, Around.deeper]); omega
        case k8_8 => (try dsimp +zetaDelta only [ktrTop, Around.deeper]); omega
        case item_8 => exact fun h => absurd rfl h
        intro _ tk5 h5 tk6 F5 N5
        (try dsimp only at F5 N5 ⊢)
        simp only [over] at F5
        clear F9 N9
        k_steps
        refine ⟨?_⟩
        rename Fr _ _ _ _ => F8
        rename News _ _ _ _ => N8
        exact ⟨0, by decide, .inr ⟨rfl, _, _, _, _, _, rfl, fr_over2 F8 ⟨rfl, rfl, rfl, trivial⟩, N8⟩⟩
  · refine next_end rfl (N3 _ List.mem_cons_self).1 fun h4 hk4 => ?_
    dsimp only
    replace F3 := F3.keeps hk4
    replace N3 := N3.grown hk4
    simp only [over] at F3
    clear F1 F2 N1
    k_steps
    rename News h₀ L _ _ => kN
    exact ret _ _ _ _ (by assumption) fun r hr => kN r (List.mem_cons_of_mem _ (List.mem_cons_of_mem _ hr))
end Mine
end
section
open PySem PySem.W PyProof.Rows PySem.Calls
namespace Mine
noncomputable def bodyOf : Option Stmt → List Stmt
  | some (.FunctionDef _ _ b _ _ _ _ _ _ _) => b
  | _ => []
noncomputable def scopeOf : Option Stmt → Scope
  | some (.FunctionDef _ _ _ _ _ _ s _ _ _) => s
  | _ => { kind := .function, names := [], isGenerator := false, isCoroutine := false }
noncomputable def lawBody : List Stmt := bodyOf (PySem.Challenge.pw_to0006_01.main.body.getLast?)
noncomputable def lawScope : Scope := scopeOf (PySem.Challenge.pw_to0006_01.main.body.getLast?)
end Mine
end
section
open PySem PySem.W PyProof.Rows PySem.Calls
namespace Mine
open PyProof.Rows.LCg
section
variable {prog : Program} {w : World} {A : Around} {E : Value → Shared → Prop} {s : Shared} {h₀ : Heap} {L : Addr} {m : PySem.Str → Option Value} {env : Env}
/-- what an element that keeps the ledger leaves -/
noncomputable def EltEnd (h₀ : Heap) (L : Addr) (m : PySem.Str → Option Value) (s₁ : Shared) (led : List (Addr × Obj)) (f : Value → Prop) (y : Value) (s₂ : Shared) : Prop :=
  f y ∧ ∃ (h' : Heap) (tk : Tok), s₂ = { s₁ with heap := h', toks := tk } ∧ Fr h₀ L h' m ∧ News h₀ L h' led
theorem rest_pure {elt : PySem.Expr} {x : PySem.Str} {scope : Scope} {cl : List (PySem.Str × Addr)} {S : List (Addr × Obj) → Prop} {its : Array Value} {Fin : List Value → List (Addr × Obj) → Prop} {news : List (Addr × Obj)} (f : Nat → Value → Prop) (hS : S news)
    (turn : ∀ i v, its[i]? = some v → ∀ I oI C oC D oD m₂ h tk (E' : Value → Shared → Prop), NsObj oC m₂ → m₂ x = some v → Fr h₀ L h m → News h₀ L h ((I, oI) :: (C, oC) :: (D, oD) :: news) →
      wpAny (model prog w) A (eval elt (compEnvC scope cl C env)) (EltEnd h₀ L m { s with heap := h, toks := tk } ((I, oI) :: (C, oC) :: (D, oD) :: news) (f i)) E' { s with heap := h, toks := tk })
    (fin : ∀ ys : List Value, ys.length = its.size → (∀ (i : Nat) y, ys[i]? = some y → f i y) → Fin ys news) :
    ∀ (k i : Nat) (ys : List Value), ys.length = i → i + k = its.size → (∀ (j : Nat) y, ys[j]? = some y → f j y) → CompRest prog w A h₀ L m env elt x scope cl s S (fun i v => its[i]? = some v) Fin k i ys news
  | 0, i, ys, hl, hk, hf => CompRest.zero (fin ys (by omega) hf)
  | k + 1, i, ys, hl, hk, hf => CompRest.succ fun v I oI C oC D m₂ h tk E' hv hC hx F N off ne => by
    refine wpAny_mono (turn i v hv I oI C oC D (lst ys) m₂ h tk E' hC hx F N) (fun y s' hy => ?_) fun _ _ e => e
    obtain ⟨hfy, h', tk', rfl, F', N'⟩ := hy
    refine ⟨h', tk', news, rfl, F', N', off, hS, rest_pure f hS turn fin k (i + 1) (ys ++ [y]) (by rw [List.length_append, hl]; rfl) (by omega) fun j z hz => ?_⟩
    rcases Nat.lt_or_ge j ys.length with hj | hj
    · rw [List.getElem?_append_left hj] at hz; exact hf j z hz
    · rw [List.getElem?_append_right hj] at hz
      rcases e : j - ys.length with _ | q
      · rw [e] at hz
        cases hz
        rw [show j = i by omega]; exact hfy
      · rw [e] at hz; simp at hz
theorem comp_pure {elt : PySem.Expr} {x : PySem.Str} {scope : Scope} {cl : List (PySem.Str × Addr)} {Fin : Shared → List Value → List (Addr × Obj) → Prop} {ax : Addr} {its : Array Value} {k : Nat} {news : List (Addr × Obj)} (f : Nat → Value → Prop)
    (hh : A.handled = none) (F : Fr h₀ L s.heap m) (N : News h₀ L s.heap news) (hm : (ax, ({ cls := .type "list", data := .seq its k } : Obj)) ∈ news) (hsz : its.size ≤ sizeLine)
    (turn : ∀ i v, its[i]? = some v → ∀ I oI C oC D oD m₂ h tk (E' : Value → Shared → Prop), NsObj oC m₂ → m₂ x = some v → Fr h₀ L h m → News h₀ L h ((I, oI) :: (C, oC) :: (D, oD) :: news) →
      wpAny (model prog w) A (eval elt (compEnvC scope cl C env)) (EltEnd h₀ L m { s with heap := h, toks := tk } ((I, oI) :: (C, oC) :: (D, oD) :: news) (f i)) E' { s with heap := h, toks := tk })
    (fin : ∀ (g : Heap) (ys : List Value), ys.length = its.size → (∀ (i : Nat) y, ys[i]? = some y → f i y) → Fin { s with heap := g } ys news) : CompSrc prog w A h₀ L m env elt x scope cl Fin (.ref ax) s :=
  CompSrc.ledger hh F N hm hsz fun g => rest_pure (s := { s with heap := g }) f (.inr ⟨_, hm, rfl, _, rfl⟩) (fun i v hv I oI C oC D oD m₂ h tk E' => turn i v hv I oI C oC D oD m₂ h tk E') (fin g) its.size 0 [] rfl (Nat.zero_add _) fun j y hy => by simp at hy
end
end Mine
end
section
open PySem PySem.W PyProof.Rows PySem.Calls
namespace Mine
open PyProof.Rows.LCg
open AutoSeq1 (wpAny_loadPart')
set_option maxHeartbeats 1000000 in
theorem enum_newT (l : Addr) (items : Array Value) (n : Nat) :
    Meets (Builtin.«enumerate.__new__» ⟨[.type "enumerate", .ref l], []⟩) (fun _ R s => s.heap.get? l = some { cls := .type "tuple", dict := none, data := .seq items n, slots := #[] } ∧
      R (.ok (.ret (.ref (s.heap.push { cls := .type "tuple_iterator", data := .fields #[.ref l, .int 0 0] }).objs.size)))
        { s with heap := (s.heap.push { cls := .type "tuple_iterator", data := .fields #[.ref l, .int 0 0] }).push { cls := .type "enumerate", data := .fields #[.none, .bool false, .ref s.heap.objs.size, rawInt 0, .none, .none] } }) :=
  .of_wp fun prog w A R s h => by
    obtain ⟨hp, g, d, tk, os⟩ := s; obtain ⟨hl, h⟩ := h
    have hsub := sub_enumerate
    have hL : Heap.IsTuple (Shared.heap ⟨hp, g, d, tk, os⟩) l items := ⟨_, hl, rfl, n, rfl⟩
    wp_walk using wpAny_loadPart' hl
    refine wpAny_stack_any fun st => wpAny_pure ?_
    split
    · rename_i c _ _ _ _ _
      cases (c == Value.type "enumerate")
      · wp_walk using wpAny_loadPart' hl, wpAny_pyIter_tuple hL
        exact ⟨_, rfl, h⟩
      · wp_walk using wpAny_loadPart' hl, wpAny_pyIter_tuple hL
        exact ⟨_, rfl, h⟩
    · wp_walk using wpAny_loadPart' hl, wpAny_pyIter_tuple hL
      exact ⟨_, rfl, h⟩
section
variable {prog : Program} {w : World} {A : Around} {E : Value → Shared → Prop} {s : Shared}
theorem call_enum_tuple {l : Addr} {items : Array Value} {n : Nat} {Q : Value → Shared → Prop} (hl : s.heap.get? l = some { cls := .type "tuple", data := .seq items n })
    (h : ∀ h', IsEnum h' (s.heap.objs.size + 1) s.heap.objs.size 0 .none → h'.IsTupleIter s.heap.objs.size l 0 → h'.objs.size = s.heap.objs.size + 2 →
      (∀ b o, s.heap.get? b = some o → h'.get? b = some o) → Q (.ref (s.heap.objs.size + 1)) { s with heap := h' }) :
    wpAny (model prog w) A (call (.type "enumerate") [.ref l]) Q E s := by
  refine callType_new F.called_enumerate (by decide) (F.typeCall_enumerate_1 _) (F.newCall_enumerate_1 _) (fun obj => F.args_object_init_2 obj _) F.entry_enumerate_new
    (enum_newT l items n) ⟨hl, ?_⟩
  have hz : (s.heap.push { cls := .type "tuple_iterator", data := .fields #[.ref l, .int 0 0] }).objs.size = s.heap.objs.size + 1 := Heap.size_push ..
  show _ ∧ _
  rw [hz]
  have he : IsEnum ((s.heap.push { cls := .type "tuple_iterator", data := .fields #[.ref l, .int 0 0] }).push
      { cls := .type "enumerate", data := .fields #[.none, .bool false, .ref s.heap.objs.size, rawInt 0, .none, .none] }) (s.heap.objs.size + 1) s.heap.objs.size 0 .none := by
    have := Heap.get?_push_size (s.heap.push { cls := .type "tuple_iterator", data := .fields #[.ref l, .int 0 0] })
      (o := { cls := .type "enumerate", data := .fields #[.none, .bool false, .ref s.heap.objs.size, rawInt 0, .none, .none] }) rfl
    rw [hz] at this; exact this
  refine ⟨⟨_, he, rfl⟩, h _ he ⟨_, Heap.get?_push_of_some _ (Heap.get?_push_size _ rfl), rfl, rfl⟩ (by rw [Heap.size_push, hz]) fun b o y => Heap.get?_push_of_some _ (Heap.get?_push_of_some _ y)⟩
theorem nextOf_tup {it l : Addr} {i : Nat} {items} {x : Value} {Q : Value → Shared → Prop} (hit : s.heap.IsTupleIter it l i)
    (hl : s.heap.IsTuple l items) (hx : items[i]? = some x)
    (hQ : ∀ h', h'.IsTupleIter it l (i + 1) → Heap.SameBut it s.heap h' → Q x { s with heap := h' }) :
    wpAny (model prog w) A (Builtin.SmallTypes.nextOf (.ref it)) Q E s := by
  obtain ⟨o, ho, hc, hd⟩ := id hit
  obtain ⟨ol, hol, _, nl, hdl⟩ := hl
  unfold Builtin.SmallTypes.nextOf
  refine wpAny_bind (wpAny_callSpecial?_slot (name := Str.ofString "__next__") hit.typeIs F.slot_tuple_iterator_next
    (wpAny_call_entry F.slot_tuple_iterator_next hit.typeIs F.entry_tuple_iterator_next ?_ (F.args_tuple_iterator_next_1 _)))
  show wpAny _ _ (field (.ref it) 0 >>= _) _ _ s
  refine wpAny_bind (wpAny_field ho hd (x := .ref l) rfl ?_)
  show wpAny _ _ (if (Value.ref l == Value.none) = true then _ else _) _ _ s
  rw [if_neg (show ¬ ((Value.ref l == Value.none) = true) from Bool.false_ne_true)]
  show wpAny _ _ (field (.ref it) 1 >>= _) _ _ s
  refine wpAny_bind (wpAny_field ho hd (x := .int i 0) rfl ?_)
  show wpAny _ _ (seqItems? (.ref l) >>= _) _ _ s
  refine wpAny_bind (wpAny_seqItems hol hdl ?_)
  simp only [Int.toNat_natCast, hx]
  refine wpAny_bind (wpAny_setField ho hd (by simp) (wpAny_pure ⟨x, rfl, wpAny_pure (hQ _ ?_ (Heap.SameBut.update ..))⟩))
  exact ⟨_, Heap.get?_update_self _ ho (Obj.isFreed_of_fields (Obj.data_mapFields hd _)), (Obj.cls_mapFields ..).trans hc, by
    rw [Obj.data_mapFields hd]; simp [rawInt]⟩
theorem nextOf_tup_end {it l : Addr} {i : Nat} {items} {Q : Value → Shared → Prop} (hh : A.handled = none)
    (hit : s.heap.IsTupleIter it l i) (hl : s.heap.IsTuple l items) (hx : items[i]? = none)
    (hE : ∀ h' e, Heap.ExtBut it s.heap h' → (∃ o, h'.get? e = some o ∧ o.cls = .type "StopIteration") → E (.ref e) { s with heap := h' }) :
    wpAny (model prog w) A (Builtin.SmallTypes.nextOf (.ref it)) Q E s := by
  obtain ⟨o, ho, hc, hd⟩ := id hit
  obtain ⟨ol, hol, _, nl, hdl⟩ := hl
  unfold Builtin.SmallTypes.nextOf
  refine wpAny_bind (wpAny_callSpecial?_slot (name := Str.ofString "__next__") hit.typeIs F.slot_tuple_iterator_next
    (wpAny_call_entry F.slot_tuple_iterator_next hit.typeIs F.entry_tuple_iterator_next ?_ (F.args_tuple_iterator_next_1 _)))
  show wpAny _ _ (field (.ref it) 0 >>= _) _ _ s
  refine wpAny_bind (wpAny_field ho hd (x := .ref l) rfl ?_)
  show wpAny _ _ (if (Value.ref l == Value.none) = true then _ else _) _ _ s
  rw [if_neg (show ¬ ((Value.ref l == Value.none) = true) from Bool.false_ne_true)]
  show wpAny _ _ (field (.ref it) 1 >>= _) _ _ s
  refine wpAny_bind (wpAny_field ho hd (x := .int i 0) rfl ?_)
  show wpAny _ _ (seqItems? (.ref l) >>= _) _ _ s
  refine wpAny_bind (wpAny_seqItems hol hdl ?_)
  simp only [Int.toNat_natCast, hx]
  refine wpAny_bind (wpAny_rule (wpAny_bind (wpAny_setField ho hd (by simp) ?_)))
  show wpAny _ _ (newExc (.type "StopIteration") [] >>= _) _ _ _
  refine wpAny_bind ?_
  simp only [newExc, newTuple]
  refine wpAny_bind (wpAny_newObj_type ?_ (by size_fits))
  refine wpAny_bind (m := firstArgMember _ _) (wpAny_of_eq (a := Value.none) (by first | rfl | (simp only [firstArgMember]; rfl)) ?_)
  refine wpAny_newObj_type ?_ (by size_fits)
  simp only [raiseNew]
  refine wpAny_bind (wpAny_handled ?_)
  first | rw [show A.in1.handled = none from hh] | rw [hh]
  refine wpAny_bind (wpAny_pure (wpAny_throw ?_))
  exact hE _ _ (((Heap.SameBut.update ..).extBut.push _).push _) ⟨_, Heap.get?_push_size _ rfl, rfl⟩
theorem draws_tup (hh : A.handled = none) (it l : Addr) (hne : l ≠ it) (items : Array Value) :
    Draws prog w A it [it, l] items.size (fun i v => items[i]? = some v) (fun i h => h.IsTupleIter it l i ∧ h.IsTuple l items) where
  live := fun _ _ st => let ⟨o, ho, _⟩ := st.1; ⟨o, ho⟩
  frame := fun _ _ _ st hk => ⟨st.1.at fun o e => hk it (by simp) o e, st.2.at fun o e => hk l (by simp) o e⟩
  item := fun i s Q E hi st hQ => by
    refine nextOf_tup st.1 st.2 (x := items[i]) (by simp [hi]) fun h' hit' hs' => ?_
    exact hQ _ h' s.toks (by simp [hi]) ⟨hit', st.2.extBut hs'.extBut hne⟩ hs'
  done := fun s Q E st hE => nextOf_tup_end hh st.1 st.2 (by simp) hE
end
section
variable {prog : Program} {w : World} {A : Around} {E : Value → Shared → Prop} {s : Shared} {h₀ : Heap} {L : Addr} {m : PySem.Str → Option Value} {env : Env}
theorem off1_of {D : Addr} : ∀ {l : List (Addr × Obj)}, (∀ p ∈ l, p.1 ≠ D) → Off1 D l
  | [], _ => trivial
  | _ :: _, h => ⟨h _ List.mem_cons_self, off1_of fun p hp => h p (List.mem_cons_of_mem _ hp)⟩
noncomputable def EnumSrc (prog : Program) (w : World) (A : Around) (h₀ : Heap) (L : Addr) (m : PySem.Str → Option Value) (env : Env) (elt : PySem.Expr) (x x₂ : PySem.Str) (scope : Scope) (cl : List (PySem.Str × Addr)) (Fin : Shared → List Value → List (Addr × Obj) → Prop) (xv : Value) (s₁ : Shared) : Prop :=
  ∃ (it ax : Nat) (its : Array Value) (ne : Nat) (news : List (Addr × Obj)) (f : Nat → Value → Prop), xv = .ref (it + 1) ∧ A.handled = none ∧ Fr h₀ L s₁.heap m ∧ News h₀ L s₁.heap news ∧ (ax, ({ cls := .type "tuple", data := .seq its ne } : Obj)) ∈ news ∧ its.size ≤ sizeLine ∧
    IsEnum s₁.heap (it + 1) it 0 .none ∧ s₁.heap.IsTupleIter it ax 0 ∧ s₁.heap.objs.size = it + 2 ∧ @LT.lt Nat _ L it ∧ (∀ p ∈ news, @LT.lt Nat _ p.1 it) ∧
    (∀ (i : Nat) v, its[i]? = some v → ∀ I oI J oJ C oC D oD m₂ h tk (E' : Value → Shared → Prop) (t : Tok), NsObj oC m₂ → m₂ x = some (.int (i : Int) t) → m₂ x₂ = some v → Fr h₀ L h m → News h₀ L h ((I, oI) :: (J, oJ) :: (C, oC) :: (D, oD) :: news) →
      wpAny (model prog w) A (eval elt (compEnvC scope cl C env)) (EltEnd h₀ L m { s₁ with heap := h, toks := tk } ((I, oI) :: (J, oJ) :: (C, oC) :: (D, oD) :: news) (f i)) E' { s₁ with heap := h, toks := tk }) ∧
    (∀ (g : Heap) (ys : List Value), ys.length = its.size → (∀ (i : Nat) y, ys[i]? = some y → f i y) → Fin { s₁ with heap := g } ys news)
theorem notin2 {b e it : Nat} (h1 : b ≠ e) (h2 : b ≠ it) : b ∉ [e, it] := fun hm => by
  rcases List.mem_cons.mp hm with h | h
  · exact h1 h
  · exact h2 (List.mem_singleton.mp h)
theorem Assign_ListComp_enum {elt iter : PySem.Expr} {a b y : PySem.Str} {pa pb tp py : Pos} {kk : Nat} {scope : Scope} {cl : List (PySem.Str × Addr)} {pos spos : Pos} {Q : Flow → Shared → Prop} (_F₀ : Fr h₀ L s.heap m) (hLe : env.locals = L)
    (hsw : swapsWith (.ListComp elt [⟨.Tuple [.Name a pa, .Name b pb] kk tp, iter, [], 0⟩] scope pos) (some (.Name y py)) spos.line env = pure true)
    (hclos : closureFor scope env = pure cl) (hcell : ∀ z ∈ scope.names, z.2 ≠ .cell) (hkind : scope.kind = .function)
    (hnames : ∀ z ∈ scope.names, z.2 = .local → scope.names.lookup z.1 = some .local) (hxa : scope.names.lookup a = some .local) (hxb : scope.names.lookup b = some .local) (hab : ¬ a = b)
    (hy : env.kindOf y = some .local) (hp : (env.scope.kind == .class || (env.scope.kind == .module && env.locals != env.globals)) = false)
    (h : wpAny (model prog w) A (eval iter env) (EnumSrc prog w A h₀ L m env elt a b scope cl (fun s₂ => FinA h₀ L m s₂ y Q)) E s)
    (hs : ∀ x, foldedSetIterable iter env x = pure x := by intro _; rfl) :
    wpAny (model prog w) A (exec (.Assign [.Name y py] (.ListComp elt [⟨.Tuple [.Name a pa, .Name b pb] kk tp, iter, [], 0⟩] scope pos) spos) env) Q E s := by
  subst hLe
  rw [exec_Assign_Name_used _ _ _ _ hsw]
  refine wpAny_bind (wpAny_standAt (wpAny_bind ?_))
  show wpAny _ A (do let _ ← comprehension (.ListComp elt [⟨.Tuple [.Name a pa, .Name b pb] kk tp, iter, [], 0⟩] scope pos) scope env _ (newList []) false (eval iter env) (some (assign (.Name y py) env))) _ _ s
  refine wpAny_bind (wpAny_mono (wpAny_comprehension_free (use := some (assign (.Name y py) env)) (Q := fun _ s' => Q .next s') rfl hs hclos hkind hnames
    (wpAny_mono h (fun xv s₁ h₁ => ?_) fun _ _ e => e)) (fun _ s' hq => wpAny_pure (wpAny_pure hq)) fun _ _ e => e)
  obtain ⟨it, ax, its, ne, news, f, rfl, hh, F, N, hm, hsz, he, hti, hsize, hLit, hlt, turn, fin⟩ := h₁
  refine wpAny_pyIter_enum he ?_
  refine wpAny_newObj_type (wpAny_newFunctionEnv hcell (by intro y hy; simp at hy) (fun h₁ hns₁ hsb₁ => ?_) hkind)
  dsimp only at hns₁ hsb₁ ⊢
  generalize hH2 : s₁.heap.push { cls := .type "list", dict := none, data := .seq ([] : List Value).toArray } = H2 at hns₁ hsb₁ ⊢
  have hC2 : H2.objs.size = it + 3 := by rw [← hH2, Heap.size_push, hsize]
  have up₁ : ∀ b o, b < it + 3 → H2.get? b = some o → h₁.get? b = some o := fun b o hb e => hsb₁.extBut b o (by rw [hC2]; exact Nat.ne_of_lt hb) (Heap.get?_push_of_some _ e)
  have up₂ : ∀ b o, s₁.heap.get? b = some o → h₁.get? b = some o := fun b o e => up₁ b o (by have := Heap.lt_size e; rw [hsize] at this; exact Nat.lt_succ_of_lt this) (by rw [← hH2]; exact Heap.get?_push_of_some _ e)
  have hD₁ : h₁.get? (it + 2) = some (lst []) := by
    refine up₁ _ _ (Nat.lt_succ_self _) ?_
    rw [← hH2, ← hsize]; exact Heap.get?_push_size _ rfl
  rw [hC2] at hns₁ ⊢
  rw [hsize]
  have fresh₀ : ∀ q : Nat, it ≤ q → h₀.get? q = none := fun q hq => by
    cases e : h₀.get? q with
    | none => rfl
    | some o' => exact absurd (Nat.lt_of_lt_of_le (Heap.lt_size e) (Nat.le_trans F.above (Nat.le_trans (Nat.le_of_lt hLit) hq))) (Nat.lt_irrefl _)
  have hC₀ : h₀.get? (it + 3) = none := fresh₀ _ (Nat.le_add_right _ _)
  have hD₀ : h₀.get? (it + 2) = none := fresh₀ _ (Nat.le_add_right _ _)
  have hI₀ : h₀.get? it = none := fresh₀ _ (Nat.le_refl _)
  have hE₀ : h₀.get? (it + 1) = none := fresh₀ _ (Nat.le_add_right _ _)
  have lt1 : ∀ {q : Nat}, q < it → q ≠ it ∧ q ≠ it + 1 ∧ q ≠ it + 2 ∧ q ≠ it + 3 := fun hq => ⟨by omega, by omega, by omega, by omega⟩
  have hL := lt1 hLit
  have hax : @LT.lt Nat _ ax it := hlt _ hm
  have hxa' := lt1 hax
  have W := WalksT.enumerateD (draws_tup (prog := prog) (w := w) (A := A.in1) hh it ax hxa'.1 its) (it + 1) (Nat.succ_ne_self _) (fun hm => by
    rcases List.mem_cons.mp hm with h | h
    · exact Nat.succ_ne_self _ h
    · exact hxa'.2.1 (List.mem_singleton.mp h).symm) List.mem_cons_self
  have loop : ∀ s₃ : Shared, s₃ = { s₁ with heap := h₁, toks := s₁.toks + ([] : List (PySem.Str × Value)).length } →
      codeAny (model prog w) A (.compLoop (.ListComp elt [⟨.Tuple [.Name a pa, .Name b pb] kk tp, iter, [], 0⟩] scope pos) 0 (.ref (it + 1)) (.ref (it + 2)) (compEnvC scope cl (it + 3) env)) (compPost (model prog w) A E (some (assign (.Name y py) env)) (fun _ s' => Q .next s') (.ref (it + 2)) (it + 3)) s₃ := by
    rintro s₃ rfl
    refine compLoop_go (fun k s' => ∃ (h' : Heap) (tk : Tok) (j : Nat) (ys : List Value) (m' : PySem.Str → Option Value), s' = { s₁ with heap := h', toks := tk } ∧ j ≤ its.size ∧ k = its.size + 1 - j ∧ ys.length = j ∧ (∀ (i : Nat) y, ys[i]? = some y → f i y) ∧
        ((∃ old, IsEnum h' (it + 1) it j old) ∧ h'.IsTupleIter it ax j ∧ h'.IsTuple ax its) ∧ Fr h₀ env.locals h' m ∧ h'.Ns (it + 3) m' ∧ News h₀ env.locals h' ((it + 2, lst ys) :: news)) ?_ (its.size + 1)
      ⟨h₁, _, 0, [], _, rfl, Nat.zero_le _, rfl, rfl, fun i y hy => by simp at hy, ⟨⟨_, up₂ _ _ he⟩, hti.at fun o e => up₂ _ o e, ⟨_, up₂ _ _ (N _ hm).1, rfl, _, rfl⟩⟩, F.keeps up₂, hns₁, fun p hp => ?_⟩
    · rintro E' k s' ⟨h', tk, j, ys, m', rfl, hj, rfl, hyl, hfy, hst, F', hn', N'⟩
      rcases Nat.lt_or_ge j its.size with hjl | hge
      · refine W.item j _ _ _ hjl hst fun T vals h2 tk2 hP hT hTup hMid hk2 => ?_
        obtain ⟨t, v, hv, rfl⟩ := hP
        refine W.go _ _ _ j T _ _ _ hMid fun h3 hst3 hk3 => ?_
        have hT3 := hTup.at fun o e => hk3 T o (W.apart j T h2 hMid) e
        dsimp only at hk2 hk3 ⊢
        have k3 : ∀ b o, b ≠ it + 1 → b ≠ it → h'.get? b = some o → h3.get? b = some o := fun b o h1 h2 e => hk3 b o (notin2 h1 h2) (hk2 b o (notin2 h1 h2) e)
        refine kcp_assign (env := compEnvC scope cl (it + 3) env) hh hT3 (lookup_relabel_local hxa) (lookup_relabel_local hxb) (by simp [compEnvC, relabel, hkind]) (hn'.at' fun o e => k3 _ o (by omega) (by omega) e) fun h4 tk4 hn4 hs4 => ?_
        dsimp only at hs4 ⊢
        have hs4 : ∀ c o, c ≠ it + 3 → h3.get? c = some o → h4.get? c = some o := hs4
        have up4 : ∀ b o, b ≠ it + 1 → b ≠ it → b ≠ it + 3 → h'.get? b = some o → h4.get? b = some o := fun b o h1 h2 h3 e => hs4 b o h3 (k3 b o h1 h2 e)
        obtain ⟨⟨old3, he3⟩, hti3, htt3⟩ := hst3
        have he4 : IsEnum h4 (it + 1) it ((j + 1 : Nat) : Int) old3 := hs4 (it + 1) _ (by omega) he3
        obtain ⟨oT, hoT, hT1, hT2⟩ := hti3
        have hti4 : h4.get? it = some oT := hs4 it _ (by omega) hoT
        have low : ∀ p ∈ ((it + 2, lst ys) :: news : List (Addr × Obj)), p.1 ≠ it + 1 ∧ p.1 ≠ it ∧ p.1 ≠ it + 3 := fun p hp => by
          rcases List.mem_cons.mp hp with rfl | hp
          · exact ⟨by show it + 2 ≠ it + 1; omega, by show it + 2 ≠ it; omega, by show it + 2 ≠ it + 3; omega⟩
          · have := lt1 (hlt p hp); exact ⟨this.2.1, this.1, this.2.2.2⟩
        have F4 : Fr h₀ env.locals h4 m := ⟨F'.ns.at' fun o e => up4 _ o hL.2.1 hL.1 hL.2.2.2 e, fun c o e => up4 c o (fun q => by rw [q, hE₀] at e; cases e) (fun q => by rw [q, hI₀] at e; cases e) (fun q => by rw [q, hC₀] at e; cases e) (F'.keep c o e), F'.above⟩
        obtain ⟨oC, heC, hoC⟩ := ns_obj hn4
        have N4 : News h₀ env.locals h4 ((it + 1, _) :: (it, oT) :: (it + 3, oC) :: (it + 2, lst ys) :: news) := fun q hq => by
          rcases List.mem_cons.mp hq with rfl | hq
          · exact ⟨he4, Ne.symm hL.2.1, hE₀⟩
          · rcases List.mem_cons.mp hq with rfl | hq
            · exact ⟨hti4, Ne.symm hL.1, hI₀⟩
            · rcases List.mem_cons.mp hq with rfl | hq
              · exact ⟨heC, Ne.symm hL.2.2.2, hC₀⟩
              · exact ⟨up4 _ _ (low q hq).1 (low q hq).2.1 (low q hq).2.2 (N' q hq).1, (N' q hq).2⟩
        refine wpAny_mono (turn j v hv _ _ _ _ _ oC _ _ _ h4 _ _ t hoC (by simp [hab]) (by simp) F4 N4) (fun z s₅ h₅ => ?_) fun _ _ e => e
        obtain ⟨hz, h5, tk5, rfl, F5, N5⟩ := h₅
        have e5 := (N5 _ List.mem_cons_self).1
        have i5 := (N5 _ (List.mem_cons_of_mem _ List.mem_cons_self)).1
        have c5 := (N5 _ (List.mem_cons_of_mem _ (List.mem_cons_of_mem _ List.mem_cons_self))).1
        have d5 := (N5 _ (List.mem_cons_of_mem _ (List.mem_cons_of_mem _ (List.mem_cons_of_mem _ List.mem_cons_self)))).1
        have N5' : News h₀ env.locals h5 news := fun q hq => N5 q (List.mem_cons_of_mem _ (List.mem_cons_of_mem _ (List.mem_cons_of_mem _ (List.mem_cons_of_mem _ hq))))
        dsimp only at e5 i5 c5 d5
        refine append_at (hsz := by show ys.toArray.size ≤ sizeLine; rw [List.size_toArray, hyl]; exact Nat.le_trans hj hsz) d5 fun h6 hs6 hD6 => ?_
        have hs6 : Heap.SameBut (it + 2) h5 h6 := hs6
        have up6 : ∀ b o, b ≠ it + 2 → h5.get? b = some o → h6.get? b = some o := fun b o hb e => hs6.extBut b o hb e
        refine ⟨its.size + 1 - (j + 1), by omega, h6, tk5, j + 1, ys ++ [z], _, rfl, hjl, rfl, by rw [List.length_append, hyl]; rfl, fun i q hq => ?_, ⟨⟨_, up6 (it + 1) _ (by omega) e5⟩, ⟨oT, up6 it _ (by omega) i5, hT1, hT2⟩, ⟨_, up6 _ _ hxa'.2.2.1 (N5' _ hm).1, rfl, _, rfl⟩⟩, F5.change hs6 (Ne.symm hL.2.2.1) hD₀, (hoC.ns c5).sameBut hs6 (show it + 3 ≠ it + 2 by omega), fun q hq => ?_⟩
        · rcases Nat.lt_or_ge i ys.length with hi | hi
          · rw [List.getElem?_append_left hi] at hq; exact hfy i q hq
          · rw [List.getElem?_append_right hi] at hq
            rcases e : i - ys.length with _ | r
            · rw [e] at hq
              cases hq
              rw [show i = j by omega]; exact hz
            · rw [e] at hq; simp at hq
        · rcases List.mem_cons.mp hq with rfl | hq
          · exact ⟨hD6.trans (congrArg some (lst_snoc ys z)), Ne.symm hL.2.2.1, hD₀⟩
          · exact ⟨up6 _ _ (lt1 (hlt q hq)).2.2.1 (N5' q hq).1, (N5' q hq).2⟩
      · obtain rfl : j = its.size := Nat.le_antisymm hj hge
        refine W.done _ _ _ hst fun h2 tk2 hk2 => ?_
        dsimp only at hk2
        have hk2 : ∀ b o, b ≠ it + 1 → b ≠ it → h'.get? b = some o → h2.get? b = some o := fun b o h1 h2 e => hk2 b o (notin2 h1 h2) e
        have F2 : Fr h₀ env.locals h2 m := ⟨F'.ns.at' fun o e => hk2 _ o hL.2.1 hL.1 e, fun c o e => hk2 c o (fun q => by rw [q, hE₀] at e; cases e) (fun q => by rw [q, hI₀] at e; cases e) (F'.keep c o e), F'.above⟩
        have N2 : News h₀ env.locals h2 ((it + 2, lst ys) :: news) := fun q hq => ⟨by
          rcases List.mem_cons.mp hq with rfl | hq
          · exact hk2 _ _ (by show it + 2 ≠ it + 1; omega) (by show it + 2 ≠ it; omega) (N' _ List.mem_cons_self).1
          · exact hk2 _ _ (lt1 (hlt q hq)).2.1 (lt1 (hlt q hq)).1 (N' _ (List.mem_cons_of_mem _ hq)).1, (N' q hq).2⟩
        show wpAny _ A (assign (.Name y py) env (.ref (it + 2))) _ _ _
        refine wpAny_assign_Name (wpAny_storeName_local hy F2.ns (fun h₂ hn₂ hs₂ => ?_) hp)
        have hL₀ : h₀.get? env.locals = none := Heap.get?_none_of_le F2.above
        have F₂ : Fr h₀ env.locals h₂ (fun z => if z = y then some (.ref (it + 2)) else m z) := ⟨hn₂, fun b o e => hs₂.extBut b o (fun q => by rw [q, hL₀] at e; cases e) (F2.keep b o e), F2.above⟩
        refine ⟨m', (hn'.at' fun o e => hk2 _ o (by omega) (by omega) e).sameBut hs₂ (Ne.symm hL.2.2.2), fun h'' hs'' => fin h' ys hyl hfy (it + 2) h'' _ (F₂.change hs'' (Ne.symm hL.2.2.2) hC₀) (fun p hp => ?_) (off1_of fun p hp => (lt1 (hlt p hp)).2.2.1)⟩
        have z : h₂.get? p.1 = some p.2 := hs₂.extBut _ _ (N2 p hp).2.1 (N2 p hp).1
        refine ⟨hs''.extBut _ _ ?_ z, (N2 p hp).2⟩
        rcases List.mem_cons.mp hp with rfl | hp
        · show it + 2 ≠ it + 3; omega
        · exact (lt1 (hlt p hp)).2.2.2
    · rcases List.mem_cons.mp hp with rfl | hp
      · exact ⟨hD₁, Ne.symm hL.2.2.1, hD₀⟩
      · exact ⟨up₂ _ _ (N p hp).1, (N p hp).2⟩
  exact codeAny_compStart_list (loop _ rfl) (W.self 0 _ _ _ ⟨⟨_, up₂ _ _ he⟩, hti.at fun o e => up₂ _ o e, ⟨_, up₂ _ _ (N _ hm).1, rfl, _, rfl⟩⟩ (loop _ rfl))
end
end Mine
end
section
open PySem PySem.W PyProof.Rows PySem.Calls
namespace Mine
section
variable {prog : Program} {w : World} {A : Around} {E : Value → Shared → Prop} {s : Shared} {env : Env} {h₀ : Heap} {x : PySem.Str} {body : List Stmt} {Q : Flow → Shared → Prop}
/-- the end of a turn whose ledger may grow; I is the loop's iterator -/
noncomputable def TurnEnd (h₀ : Heap) (L I : Addr) (oI : Obj) (J : (PySem.Str → Option Value) → List (Addr × Obj) → Prop) (s₁ s₂ : Shared) : Prop :=
  ∃ (h' : Heap) (tk : Tok) (m' : PySem.Str → Option Value) (news' : List (Addr × Obj)), s₂ = { s₁ with heap := h', toks := tk } ∧ Fr h₀ L h' m' ∧ News h₀ L h' ((I, oI) :: news') ∧ (∀ p ∈ news', p.1 ≠ I) ∧ J m' news'
noncomputable def TurnG (h₀ : Heap) (L I : Addr) (oI : Obj) (J : (PySem.Str → Option Value) → List (Addr × Obj) → Prop) (s₁ : Shared) (Q : Flow → Shared → Prop) (f : Flow) (s₂ : Shared) : Prop :=
  match f with
  | .ret v => Q (.ret v) s₂
  | .brk => Q .next s₂
  | _ => TurnEnd h₀ L I oI J s₁ s₂
theorem iter_rangeG {r : Addr} {b₀ : Int} {t₀ u₀ v₀ : Tok} {n : Nat} {m₀ : PySem.Str → Option Value} {news : List (Addr × Obj)} (J : Nat → (PySem.Str → Option Value) → List (Addr × Obj) → Prop)
    (hh : A.handled = none) (hr : IsRange s.heap r 0 b₀ 1 t₀ u₀ v₀) (hsmall : Builtin.Range.small 0 b₀ 1 = true) (hn : Builtin.Range.rangeSize 0 b₀ 1 = (n : Int)) (F : Fr h₀ env.locals s.heap m₀) (N : News h₀ env.locals s.heap news) (hj : J 0 m₀ news)
    (turn : ∀ (i : Nat) t m₁ news₁ h tk (I : Addr) (oI : Obj), i < n → J i m₁ news₁ → (∀ p ∈ news₁, p.1 ≠ I) → Fr h₀ env.locals h (fun y => if y = x then some (.int (i : Int) t) else m₁ y) → News h₀ env.locals h ((I, oI) :: news₁) →
      wpAny (model prog w) A (execs body env) (TurnG h₀ env.locals I oI (J (i + 1)) { s with heap := h, toks := tk } Q) E { s with heap := h, toks := tk })
    (done : ∀ m₁ news₁ h tk, J n m₁ news₁ → Fr h₀ env.locals h m₁ → News h₀ env.locals h news₁ → Q .next { s with heap := h, toks := tk }) :
    wpAny (model prog w) A (pyIter (.ref r)) (fun it s₂ => LoopAtV prog w A h₀ env x body Q E it s₂) E s := by
  refine wpAny_pyIter_range hr hsmall ?_
  have W : Walks prog w A s.heap.objs.size [s.heap.objs.size] [s.heap.objs.size] n (fun i v => i < n ∧ ∃ t, v = .int (0 + i * 1) t)
      (fun i h => IsRangeIter h s.heap.objs.size (0 + (i : Nat) * 1) ((n : Int) - (i : Nat)) 1) := (Walks.range hh _ 0 1 n).bound
  have hI₀ : h₀.get? s.heap.objs.size = none := next_is_new F
  refine ⟨_, _, _, n, _, _, m₀, news, J, rfl, W, ?_, ?_, ?_, ?_, F.push _, (fun p hp => ⟨Heap.get?_push_of_some _ (N p hp).1, (N p hp).2⟩), hj, ?_, ?_⟩
  · intro hm
    exact absurd F.ns.lt ((List.mem_singleton.mp hm) ▸ Nat.lt_irrefl _)
  · intro b hb
    rw [List.mem_singleton.mp hb]
    exact hI₀
  · intro p hp hI
    exact absurd (Heap.lt_size (N p hp).1) ((List.mem_singleton.mp hI) ▸ Nat.lt_irrefl _)
  · show IsRangeIter _ _ _ _ _; rw [hn]; simpa using Heap.get?_push_size _ rfl
  · rintro i v m₁ news₁ s₁ own ⟨hh', tk', rfl⟩ hin ⟨_, t, rfl⟩ hJ hoff hown hat hall hst F₁ N₁
    rw [show (0 : Int) + (i : Int) * 1 = (i : Int) by omega] at F₁
    have hI : hh'.get? s.heap.objs.size = some _ := hst
    obtain ⟨oI, hI⟩ : ∃ o, hh'.get? s.heap.objs.size = some o := ⟨_, hI⟩
    have hIo : (s.heap.objs.size, oI) ∈ own := hall _ (List.mem_singleton.mpr rfl) hI₀ _ hI
    have N₂ : News h₀ env.locals hh' ((s.heap.objs.size, oI) :: news₁) := fun p hp => N₁ p ((List.mem_cons.mp hp).elim (fun h => h ▸ List.mem_append_left _ hIo) fun h => List.mem_append_right _ h)
    refine wpAny_mono (turn i t m₁ news₁ hh' tk' s.heap.objs.size oI hin hJ (fun p hp e => hoff p hp (List.mem_singleton.mpr e)) F₁ N₂) (fun f s₂ p => ?_) fun _ _ e => e
    have fin : TurnEnd h₀ env.locals s.heap.objs.size oI (J (i + 1)) { s with heap := hh', toks := tk' } s₂ → LoopStepU h₀ env.locals [s.heap.objs.size] own (J (i + 1)) { s with heap := hh', toks := tk' } .next s₂ := by
      rintro ⟨h', tk, m', news', e, F', N', ho, hm⟩
      refine ⟨rfl, h', tk, m', news', e, F', fun p hp => ?_, fun p hp hq => ho p hp (List.mem_singleton.mp hq), hm⟩
      rcases List.mem_append.mp hp with hp | hp
      · have e1 := List.mem_singleton.mp (hown p hp)
        have e2 := hat p hp
        rw [e1] at e2
        have e3 : p.2 = oI := (Option.some.inj (hI.symm.trans e2)).symm
        have : p = (s.heap.objs.size, oI) := Prod.ext e1 e3
        rw [this]
        exact N' _ List.mem_cons_self
      · exact N' _ (List.mem_cons_of_mem _ hp)
    cases f with
    | ret v => exact .ret p
    | brk => exact .brk p
    | next => exact .next (fin p)
    | cont => exact .cont (fin p)
  · rintro h' tk m' news' F' N' _ hJ
    exact done m' news' h' tk hJ F' N'
end
end Mine
end
section
open PySem PySem.W PyProof.Rows PySem.Calls
namespace Mine
open PyProof.Rows.LCg
variable {prog : Program} {w : World} {p : Program} {loose : List Str} {mean : ExcName → Option Value} {mg mb : Str → Option Value}
  {dp un : Nat} {gd : Option (List Code)} {a : Addr} {ccd : Value} {outer : List Env} {A₀ : Around} {base h₀ : Heap} {L : Addr} {m : Str → Option Value} {s : Shared} {E : Value → Shared → Prop} {Q : Flow → Shared → Prop} {news : List (Addr × Obj)}
local macro_rules | `(tactic| walk_at "exec Assign cons ListComp") => `(tactic| (k_here; (try dsimp only); refine Hold.out ?_))
local macro_rules | `(tactic| walk_at "EnumSrc") => `(tactic| ((try dsimp only); refine Hold.out ?_))
local macro_rules | `(tactic| walk_at "CompSrc") => `(tactic| ((try dsimp only); refine Hold.out ?_))
local macro_rules | `(tactic| walk_at "EltEnd") => `(tactic| ((try dsimp only); refine Hold.out ?_))
local macro_rules | `(tactic| walk_at "call type:enumerate") => `(tactic| (k_here; (try dsimp only); refine Hold.out ?_))
noncomputable def CellOk (y : Value) : Prop := ∃ (z : Int) (t : Tok), y = .int z t ∧ 0 ≤ z ∧ z < 2000
theorem base_item {i : Nat} {v : Value} {t0 t1 t2 t3 t4 t5 t6 : Tok} (h : (#[Value.int 0 t0, Value.int 1 t1, Value.int 0 t2, Value.int 2 t3, Value.int 1 t4, Value.int 4 t5, Value.int 2 t6] : Array Value)[i]? = some v) : ∃ (b : Int) (tb : Tok), v = .int b tb ∧ 0 ≤ b ∧ b ≤ 4 ∧ i < 7 := by
  rcases i with _ | _ | _ | _ | _ | _ | _ | i
  · cases h; exact ⟨_, _, rfl, by decide, by decide, by decide⟩
  · cases h; exact ⟨_, _, rfl, by decide, by decide, by decide⟩
  · cases h; exact ⟨_, _, rfl, by decide, by decide, by decide⟩
  · cases h; exact ⟨_, _, rfl, by decide, by decide, by decide⟩
  · cases h; exact ⟨_, _, rfl, by decide, by decide, by decide⟩
  · cases h; exact ⟨_, _, rfl, by decide, by decide, by decide⟩
  · cases h; exact ⟨_, _, rfl, by decide, by decide, by decide⟩
  · simp at h
noncomputable def RestOk (y : Value) : Prop := ∃ (z : Int) (t : Tok), y = .int z t ∧ 0 ≤ z ∧ z < 15
noncomputable def PartOk (y : Value) : Prop := ∃ (z : Int) (t : Tok), y = .int z t ∧ 1 ≤ z ∧ z ≤ 3
theorem part_ok (z : Int) : 1 ≤ 1 + (z.fmod 5).fdiv 2 ∧ 1 + (z.fmod 5).fdiv 2 ≤ 3 := by
  rw [Int.fmod_eq_emod_of_nonneg _ (by decide), Int.fdiv_eq_ediv_of_nonneg _ (by decide)]
  omega
theorem part_cons {n : Nat} : ∀ {zs : List Value}, zs.length = n + 1 → (∀ (i : Nat) y, zs[i]? = some y → PartOk y) → ∃ (p : Int) (t : Tok) (r : List Value), zs = .int p t :: r ∧ (1 ≤ p ∧ p ≤ 3) ∧ r.length = n ∧ ∀ (i : Nat) y, r[i]? = some y → PartOk y
  | v :: r, hl, h => let ⟨p, t, e, b⟩ := h 0 v rfl; ⟨p, t, r, congrArg (· :: r) e, b, Nat.succ.inj hl, fun i y hy => h (i + 1) y hy⟩
theorem seven_parts {zs : List Value} (hl : zs.length = 7) (h : ∀ (i : Nat) y, zs[i]? = some y → PartOk y) : ∃ (p0 p1 p2 p3 p4 p5 p6 : Int) (t0 t1 t2 t3 t4 t5 t6 : Tok), zs = [.int p0 t0, .int p1 t1, .int p2 t2, .int p3 t3, .int p4 t4, .int p5 t5, .int p6 t6] ∧ (1 ≤ p0 ∧ p0 ≤ 3) ∧ (1 ≤ p1 ∧ p1 ≤ 3) ∧ (1 ≤ p2 ∧ p2 ≤ 3) ∧ (1 ≤ p3 ∧ p3 ≤ 3) ∧ (1 ≤ p4 ∧ p4 ≤ 3) ∧ (1 ≤ p5 ∧ p5 ≤ 3) ∧ (1 ≤ p6 ∧ p6 ≤ 3) := by
  obtain ⟨p0, t0, r0, e0, b0, l0, k0⟩ := part_cons hl h
  obtain ⟨p1, t1, r1, e1, b1, l1, k1⟩ := part_cons l0 k0
  obtain ⟨p2, t2, r2, e2, b2, l2, k2⟩ := part_cons l1 k1
  obtain ⟨p3, t3, r3, e3, b3, l3, k3⟩ := part_cons l2 k2
  obtain ⟨p4, t4, r4, e4, b4, l4, k4⟩ := part_cons l3 k3
  obtain ⟨p5, t5, r5, e5, b5, l5, k5⟩ := part_cons l4 k4
  obtain ⟨p6, t6, r6, e6, b6, l6, _⟩ := part_cons l5 k5
  refine ⟨p0, p1, p2, p3, p4, p5, p6, t0, t1, t2, t3, t4, t5, t6, ?_, b0, b1, b2, b3, b4, b5, b6⟩
  rw [e0, e1, e2, e3, e4, e5, e6, List.eq_nil_of_length_eq_zero l6]
theorem pick_le {vs : List Value} {ns : List Int} {lo hi st : Option Int} (hI : IntsAre vs ns) (h : ns.length ≤ 63) : (slicePick vs.toArray lo hi st).size ≤ 63 := by
  have := slicePick_size_le vs.toArray lo hi st
  have e : vs.toArray.size = ns.length := by rw [List.size_toArray, hI.length]
  rw [e] at this
  exact Nat.le_trans this h
theorem pick_fits {vs : List Value} {ns : List Int} {lo hi st : Option Int} (hI : IntsAre vs ns) (h : ns.length ≤ 63) : (slicePick vs.toArray lo hi st).size ≤ sizeLine := by
  have := pick_le (lo := lo) (hi := hi) (st := st) hI h
  rw [sizeLine_eq]
  omega
theorem pick_int {vs : List Value} {ns : List Int} {lo hi st : Option Int} {i : Nat} {v : Value} (hI : IntsAre vs ns) (hv : (slicePick vs.toArray lo hi st)[i]? = some v) : ∃ z t, v = .int z t := by
  obtain ⟨z, t, e, _⟩ := (hI.pick lo hi st).at i v (by rw [Array.getElem?_toList]; exact hv)
  exact ⟨z, t, e⟩
theorem rest_sum : ∀ {ys : List Value}, (∀ (i : Nat) y, ys[i]? = some y → RestOk y) → ∃ ms, IntsAre ys ms ∧ 0 ≤ ms.sum ∧ ms.sum ≤ 15 * (ys.length : Int)
  | [], _ => ⟨[], .nil, by decide, by decide⟩
  | y :: ys, h => by
    obtain ⟨z, t, rfl, h0, h1⟩ := h 0 y rfl
    obtain ⟨ms, hm, hs0, hs1⟩ := rest_sum (ys := ys) fun i y hy => h (i + 1) y hy
    refine ⟨z :: ms, .cons z t hm, ?_, ?_⟩
    · rw [List.sum_cons]; omega
    · rw [List.sum_cons, List.length_cons]; omega
theorem segA_led {g h : Heap} {L d a1 a2 a3 a4 a5 c t : Addr} {o o1 o2 o3 o4 o5 oc ot : Obj} (N : News g L h [(d, o), (a1, o1), (a2, o2), (a3, o3), (a4, o4), (a5, o5), (c, oc), (t, ot)]) : News g L h [(d, o), (t, ot)] := fun p hp => N p (by
  simp only [List.mem_cons, List.not_mem_nil, or_false] at hp ⊢
  rcases hp with h | h <;> simp only [h, true_or, or_true])
local macro_rules | `(tactic| walk_at "execs cons") => `(tactic| ((with_reducible show wpAny _ _ (execs (Stmt.Assign [Expr.Tuple _ _ _] _ _ :: _) _) _ _ _); (try dsimp only); refine Hold.out ?_))
set_option maxHeartbeats 4000000 in
theorem segA {c sl : Addr} {oc : Obj} {vs : List Value} {ns : List Int} (B : Below A₀ base outer h₀) (F : Fr h₀ L s.heap m) (X : (KK w.params).In h₀)
  (N : News h₀ L s.heap [(c, oc), (86, tabObj #[])]) (T : Top p loose mean mg mb h₀) (hdp : dp + 25 < recursionLimit) (hu : un + 120 < cLine)
  (hoc : oc.data = .cell (some (.ref sl))) (hl : h₀.IsList sl vs.toArray) (hI : IntsAre vs ns) (hlen : ns.length ≤ 63)
  (hQ : ∀ (d1 : Addr) (p0 p1 p2 p3 p4 p5 p6 : Int) (u0 u1 u2 u3 u4 u5 u6 : Tok) (e : Nat) (h' : Heap) (tk' : Tok) (m' : Str → Option Value), (1 ≤ p0 ∧ p0 ≤ 3) → (1 ≤ p1 ∧ p1 ≤ 3) → (1 ≤ p2 ∧ p2 ≤ 3) → (1 ≤ p3 ∧ p3 ≤ 3) → (1 ≤ p4 ∧ p4 ≤ 3) → (1 ≤ p5 ∧ p5 ≤ 3) → (1 ≤ p6 ∧ p6 ≤ 3) →
    @LT.lt Nat _ 86 d1 → Fr h₀ L h' (over [(Str.ofString "row", Value.ref d1)] m') → News h₀ L h' [(d1, W.listOf [Value.int p0 u0, Value.int p1 u1, Value.int p2 u2, Value.int p3 u3, Value.int p4 u4, Value.int p5 u5, Value.int (p6 + 1) u6].toArray e), (86, tabObj #[])] →
    wpAny (model prog w) (ktrTop dp un gd (Str.ofString "law") lawScope L a ccd [(Str.ofString "script", c)] outer) (execs (lawBody.drop 4) (envX (Str.ofString "law") lawScope L a ccd [(Str.ofString "script", c)])) Q E { s with heap := h', toks := tk' }) :
  wpAny (model prog w) (ktrTop dp un gd (Str.ofString "law") lawScope L a ccd [(Str.ofString "script", c)] outer) (execs lawBody (envX (Str.ofString "law") lawScope L a ccd [(Str.ofString "script", c)])) Q E s := by
  dsimp only [lawBody, lawScope, scopeOf, bodyOf, PySem.Challenge.pw_to0006_01, List.getLast?, List.getLast, List.drop]
  k_steps
  refine ⟨?_⟩
  rename Fr _ _ _ _ => F1
  refine Assign_ListComp_enum F1 rfl (by with_unfolding_all rfl) (by with_unfolding_all rfl) (by decide) (by rfl) (by decide) (by rfl) (by rfl) (by decide) (by rfl) (by rfl) ?_
  k_steps
  refine ⟨?_⟩
  rename News _ _ _ _ => N1
  rename ((_ : Nat) < _ ∧ _) => hlt1
  refine call_enum_tuple (N1 _ List.mem_cons_self).1 fun h2 he hti hz2 hk2 => ?_
  dsimp only at he hti hz2 hk2 ⊢
  have F2 := F1.keeps hk2
  have N2 := N1.grown hk2
  have lt2 := news_lt N1
  have hLs := F1.ns.lt
  refine ⟨_, _, _, _, _, fun _ y => CellOk y, rfl, rfl, F2, N2, List.mem_cons_self, Nat.le_of_ble_eq_true rfl, he, hti, hz2, hLs, lt2, ?_, ?_⟩
  · intro i v hv I oI J oJ C oC D oD m₂ h3 tk3 E3 t3 hC hxk hxb F3 N3
    obtain ⟨b, tb, rfl, hb0, hb1, hi7⟩ := base_item hv
    clear F1 N1 F2 N2 he hti hz2 hk2 lt2 hLs hv
    k_steps
    refine ⟨?_⟩
    rename Fr _ _ _ _ => F4
    rename News _ _ _ _ => N4
    refine comp_pure (fun _ y => RestOk y) rfl F4 N4 List.mem_cons_self (pick_fits hI hlen) ?_ ?_
    · intro i9 v9 hv9 I9 oI9 C9 oC9 D9 oD9 m9 h9 tk9 E9 hC9 hx9 F9 N9
      obtain ⟨z9, t9, rfl⟩ := pick_int hI hv9
      clear F4 N4
      k_steps
      refine ⟨?_⟩
      exact ⟨⟨_, _, rfl, Int.fmod_nonneg_of_pos _ (by decide), Int.fmod_lt_of_pos _ (by decide)⟩, _, _, rfl, F9, N9⟩
    · intro g9 ys hyl hys
      obtain ⟨ms, hms, hs0, hs1⟩ := rest_sum hys
      have hyl' := Nat.le_trans (Nat.le_of_eq hyl) (pick_le hI hlen)
      clear F4 N4 hys
      k_steps
      refine ⟨?_⟩
      rename News _ _ _ _ => N5
      exact ⟨⟨_, _, rfl, by omega, by omega⟩, _, _, rfl, by assumption, cb_drop N5 (by repeat (first | with_reducible exact sub_refl | with_reducible refine sub_keep ?_ | with_reducible refine sub_skip ?_))⟩
  · intro g ys hyl hys
    clear F1 N1 F2 N2 he hti hz2 hk2 lt2 hLs
    k_steps
    refine ⟨?_⟩
    rename Fr _ _ _ _ => F3
    refine LCg.Assign_ListComp_U F3 rfl (by with_unfolding_all rfl) (by with_unfolding_all rfl) (by decide) (by rfl) (by decide) (by rfl) (by rfl) (by rfl) ?_
    k_steps
    refine ⟨?_⟩
    rename News _ _ _ _ => N3
    refine comp_pure (fun _ y => PartOk y) rfl F3 N3 List.mem_cons_self (by rw [List.size_toArray, hyl]; exact Nat.le_of_ble_eq_true rfl) ?_ ?_
    · intro i9 v9 hv9 I9 oI9 C9 oC9 D9 oD9 m9 h9 tk9 E9 hC9 hx9 F9 N9
      obtain ⟨z9, t9, rfl, hz0, hz1⟩ := hys i9 v9 (by simpa using hv9)
      k_steps
      refine ⟨?_⟩
      exact ⟨⟨_, _, rfl, part_ok z9⟩, _, _, rfl, F9, N9⟩
    · intro g9 zs hzl hzs
      have hzl : zs.length = 7 := hzl.trans ((List.size_toArray ..).trans hyl)
      obtain ⟨p0, p1, p2, p3, p4, p5, p6, u0, u1, u2, u3, u4, u5, u6, rfl, b0, b1, b2, b3, b4, b5, b6⟩ := seven_parts hzl hzs
      clear hzl hzs hys hyl F3 N3
      k_steps
      refine ⟨?_⟩
      rename News _ _ _ _ => N9
      rename Fr _ _ _ _ => F9
      exact hQ _ p0 p1 p2 p3 p4 p5 p6 _ _ _ _ _ _ _ _ _ _ _ b0 b1 b2 b3 b4 b5 b6 (ltN (by omega)) F9 (segA_led N9)
end Mine
end
section
open PySem PySem.W PyProof.Rows PySem.Calls
namespace Mine
open PyProof.Rows.LCg
variable {prog : Program} {w : World} {p : Program} {loose : List Str} {mean : ExcName → Option Value} {mg mb : Str → Option Value}
  {dp un : Nat} {gd : Option (List Code)} {a : Addr} {ccd : Value} {cl : List (Str × Addr)} {outer : List Env} {A₀ : Around} {base h₀ : Heap} {L : Addr} {m : Str → Option Value} {s : Shared} {E : Value → Shared → Prop} {Q : Flow → Shared → Prop} {news : List (Addr × Obj)}
noncomputable def signF (r : Int) : Nat := if r = 1 then 92 else if r = 2 then 50 else if r = 3 then 51 else 52
theorem item_sign {r : Int} (h0 : 0 < r) (h1 : r < 5) : Txt.item (Str.ofString ".\\234") r = ⟨#[signF r]⟩ := by
  have : r = 1 ∨ r = 2 ∨ r = 3 ∨ r = 4 := by omega
  rcases this with rfl | rfl | rfl | rfl <;> rfl
noncomputable def textOf (r1 r2 r3 r4 r5 r6 : Int) : Str := ⟨#[signF r1, signF r2, signF r3, signF r4, signF r5, signF r6]⟩
local macro_rules | `(tactic| walk_at "call ref") => `(tactic| (k_here; (try dsimp only); refine Hold.out ?_))
local macro_rules | `(tactic| walk_at "eval ListComp") => `(tactic| (k_here; k_dflt (refine LCg.ListComp_U (F₀ := by k_asm) (by with_unfolding_all rfl) (by decide) (by rfl) (by decide) (by rfl) ?_)))
local macro_rules | `(tactic| walk_at "CompSrc") => `(tactic| ((try dsimp only); refine Hold.out ?_))
local macro_rules | `(tactic| walk_at "EltEnd") => `(tactic| ((try dsimp only); refine Hold.out ?_))
local macro_rules | `(tactic| walk_at "subscriptTail Constant Name str int") => `(tactic| ((try dsimp only); refine Hold.out ?_))
local macro_rules | `(tactic| walk_at "call builtin:str.join") => `(tactic| ((try dsimp only); refine Hold.out ?_))
local macro_rules | `(tactic| walk_at "execs cons") => `(tactic| ((with_reducible show wpAny _ _ (execs (Stmt.Assign _ (Expr.ListComp _ _ _ _) _ :: _) _) _ _ _); (try dsimp only); refine Hold.out ?_))
noncomputable def SignAt (rs : List Int) (i : Nat) (y : Value) : Prop := ∃ (r : Int) (t : Tok), rs[i]? = some r ∧ y = .str ⟨#[signF r]⟩ t
theorem row_item {i : Nat} {v : Value} {r1 r2 r3 r4 r5 r6 : Int} {u1 u2 u3 u4 u5 u6 : Tok} (h : (#[Value.int r1 u1, Value.int r2 u2, Value.int r3 u3, Value.int r4 u4, Value.int r5 u5, Value.int r6 u6] : Array Value)[i]? = some v)
    (b1 : 0 < r1 ∧ r1 < 5) (b2 : 0 < r2 ∧ r2 < 5) (b3 : 0 < r3 ∧ r3 < 5) (b4 : 0 < r4 ∧ r4 < 5) (b5 : 0 < r5 ∧ r5 < 5) (b6 : 0 < r6 ∧ r6 < 5) :
    ∃ r u, [r1, r2, r3, r4, r5, r6][i]? = some r ∧ v = .int r u ∧ 0 < r ∧ r < 5 := by
  rcases i with _ | _ | _ | _ | _ | _ | i
  · cases h; exact ⟨_, _, rfl, rfl, b1⟩
  · cases h; exact ⟨_, _, rfl, rfl, b2⟩
  · cases h; exact ⟨_, _, rfl, rfl, b3⟩
  · cases h; exact ⟨_, _, rfl, rfl, b4⟩
  · cases h; exact ⟨_, _, rfl, rfl, b5⟩
  · cases h; exact ⟨_, _, rfl, rfl, b6⟩
  · simp at h
theorem sign_cons {n : Nat} {q : Int} {qs : List Int} : ∀ {ys : List Value}, ys.length = n + 1 → (∀ (i : Nat) y, ys[i]? = some y → SignAt (q :: qs) i y) → ∃ (t : Tok) (r : List Value), ys = .str ⟨#[signF q]⟩ t :: r ∧ r.length = n ∧ ∀ (i : Nat) y, r[i]? = some y → SignAt qs i y
  | v :: r, hl, h => let ⟨_, t, e, f⟩ := h 0 v rfl; ⟨t, r, by cases e; rw [f], Nat.succ.inj hl, fun i y hy => h (i + 1) y hy⟩
theorem six_signs {ys : List Value} {r1 r2 r3 r4 r5 r6 : Int} (hl : ys.length = 6) (h : ∀ (i : Nat) y, ys[i]? = some y → SignAt [r1, r2, r3, r4, r5, r6] i y) :
    ∃ t1 t2 t3 t4 t5 t6, ys = [.str ⟨#[signF r1]⟩ t1, .str ⟨#[signF r2]⟩ t2, .str ⟨#[signF r3]⟩ t3, .str ⟨#[signF r4]⟩ t4, .str ⟨#[signF r5]⟩ t5, .str ⟨#[signF r6]⟩ t6] := by
  obtain ⟨t1, q1, e1, l1, k1⟩ := sign_cons hl h
  obtain ⟨t2, q2, e2, l2, k2⟩ := sign_cons l1 k1
  obtain ⟨t3, q3, e3, l3, k3⟩ := sign_cons l2 k2
  obtain ⟨t4, q4, e4, l4, k4⟩ := sign_cons l3 k3
  obtain ⟨t5, q5, e5, l5, k5⟩ := sign_cons l4 k4
  obtain ⟨t6, q6, e6, l6, _⟩ := sign_cons l5 k5
  refine ⟨t1, t2, t3, t4, t5, t6, ?_⟩
  rw [e1, e2, e3, e4, e5, e6, List.eq_nil_of_length_eq_zero l6]
theorem segB_led {g h : Heap} {L a1 a2 a3 d t : Addr} {o1 o2 o3 o ot : Obj} (N : News g L h [(a1, o1), (a2, o2), (a3, o3), (d, o), (t, ot)]) : News g L h [(d, o), (t, ot)] := fun p hp => N p (by
  simp only [List.mem_cons, List.not_mem_nil, or_false] at hp ⊢
  rcases hp with h | h <;> simp only [h, true_or, or_true])
set_option maxHeartbeats 4000000 in
theorem segB {d1 : Addr} {r0 r1 r2 r3 r4 r5 r6 : Int} {u0 u1 u2 u3 u4 u5 u6 : Tok} {e : Nat} (B : Below A₀ base outer h₀) (F : Fr h₀ L s.heap (over [(Str.ofString "row", Value.ref d1)] m)) (X : (KK w.params).In h₀)
  (N : News h₀ L s.heap [(d1, W.listOf [Value.int r0 u0, Value.int r1 u1, Value.int r2 u2, Value.int r3 u3, Value.int r4 u4, Value.int r5 u5, Value.int r6 u6].toArray e), (86, tabObj #[])]) (T : Top p loose mean mg mb h₀) (C : CodeHd base 90 86) (hdp : dp + 25 < recursionLimit) (hu : un + 120 < cLine)
  (hd1 : @LT.lt Nat _ 86 d1) (b0 : 0 < r0 ∧ r0 < 5) (b1 : 0 < r1 ∧ r1 < 5) (b2 : 0 < r2 ∧ r2 < 5) (b3 : 0 < r3 ∧ r3 < 5) (b4 : 0 < r4 ∧ r4 < 5) (b5 : 0 < r5 ∧ r5 < 5) (b6 : 0 < r6 ∧ r6 < 5)
  (hQ : ∀ (x dx lp st sd rd lat : Addr) (oSt : Obj) (fd : FuncData) (objs : List (Addr × Obj)) (ps : Array Value) (k1 k2 k3 k4 v1 v3 kr t0 tu tl tx : Tok) (h' : Heap) (tk' : Tok) (m' : Str → Option Value),
    Fr h₀ L h' (over [(Str.ofString "row", Value.ref d1), (Str.ofString "upper", Value.int (fracF [r0, r1, r2, r3, r4, r5, r6]).1 tu), (Str.ofString "lower", Value.int (fracF [r0, r1, r2, r3, r4, r5, r6]).2 tl), (Str.ofString "text", Value.str (textOf r1 r2 r3 r4 r5 r6) tx), (Str.ofString "machine", Value.ref x)] m') →
    News h₀ L h' ((x, instObj 80 dx) :: (dx, instD w st lp k1 k2 k3 k4 v1 v3) :: (lp, W.listOf #[] 0) :: (lat, W.listOf #[.int 0 t0] 0) :: (st, oSt) :: (sd, readD w rd kr) :: (objs ++ [(d1, W.listOf [Value.int r0 u0, Value.int r1 u1, Value.int r2 u2, Value.int r3 u3, Value.int r4 u4, Value.int r5 u5, Value.int r6 u6].toArray e), (86, tabObj ps)])) →
    oSt.cls = .type "function" → oSt.dict = some sd → oSt.data = .func fd → @Ne Nat lp lat →
    (∀ p ∈ (x, instObj 80 dx) :: (dx, instD w st lp k1 k2 k3 k4 v1 v3) :: (st, oSt) :: (sd, readD w rd kr) :: (objs ++ [(d1, W.listOf [Value.int r0 u0, Value.int r1 u1, Value.int r2 u2, Value.int r3 u3, Value.int r4 u4, Value.int r5 u5, Value.int r6 u6].toArray e), (86, tabObj ps)]), p.1 ≠ lp ∧ p.1 ≠ lat) →
    (∃ oc od fd' sl, (rd, (⟨oc, od, .func fd', sl⟩ : Obj)) ∈ objs) → ReadSpec prog w p loose mean mg mb rd lat objs (textOf r1 r2 r3 r4 r5 r6) →
    wpAny (model prog w) (ktrTop dp un gd (Str.ofString "law") lawScope L a ccd cl outer) (execs (lawBody.drop 7) (envX (Str.ofString "law") lawScope L a ccd cl)) Q E { s with heap := h', toks := tk' }) :
  wpAny (model prog w) (ktrTop dp un gd (Str.ofString "law") lawScope L a ccd cl outer) (execs (lawBody.drop 4) (envX (Str.ofString "law") lawScope L a ccd cl)) Q E s := by
  dsimp only [lawBody, lawScope, scopeOf, bodyOf, PySem.Challenge.pw_to0006_01, List.getLast?, List.getLast, List.drop]
  simp only [over] at F
  k_steps
  refine ⟨?_⟩
  refine fraction B F X N T rfl (by omega) (by omega) hd1 ⟨b0.1, by omega⟩ ⟨b1.1, by omega⟩ ⟨b2.1, by omega⟩ ⟨b3.1, by omega⟩ ⟨b4.1, by omega⟩ ⟨b5.1, by omega⟩ ⟨b6.1, by omega⟩ ?_
  intro c v1 v2 h1 tk1 F1 N1 hlt1
  clear F N
  generalize hU : (fracF [r0, r1, r2, r3, r4, r5, r6]).1 = U at N1
  generalize hLw : (fracF [r0, r1, r2, r3, r4, r5, r6]).2 = Lw at N1
  k_steps
  refine ⟨?_⟩
  rename News _ _ _ _ => N2
  rename Fr _ _ _ _ => F2
  refine comp_pure (SignAt [r1, r2, r3, r4, r5, r6]) rfl F2 N2 List.mem_cons_self (Nat.le_of_ble_eq_true rfl) ?_ ?_
  · intro i9 v9 hv9 I9 oI9 C9 oC9 D9 oD9 m9 h9 tk9 E9 hC9 hx9 F9 N9
    obtain ⟨r, ur, hr, rfl, hr0, hr1⟩ := row_item hv9 b1 b2 b3 b4 b5 b6
    clear F2 N2 hv9
    k_steps
    refine ⟨?_⟩
    exact ⟨⟨_, _, hr, congrArg (fun x => Value.str x _) (item_sign hr0 hr1)⟩, _, _, rfl, F9, N9⟩
  · intro g9 ys hyl hys
    obtain ⟨t1, t2, t3, t4, t5, t6, rfl⟩ := six_signs hyl hys
    clear hyl hys F2 N2
    k_steps
    refine ⟨?_⟩
    refine join_listW (ys := [⟨#[signF r1]⟩, ⟨#[signF r2]⟩, ⟨#[signF r3]⟩, ⟨#[signF r4]⟩, ⟨#[signF r5]⟩, ⟨#[signF r6]⟩]) (News.isList (by k_asm) (by k_mem)) (.cons _ _ (.cons _ _ (.cons _ _ (.cons _ _ (.cons _ _ (.cons _ _ .nil)))))) (Nat.le_of_ble_eq_true rfl) (Nat.le_of_ble_eq_true rfl) ?_
    intro tx kx
    rw [show Txt.join (Str.ofString "") [⟨#[signF r1]⟩, ⟨#[signF r2]⟩, ⟨#[signF r3]⟩, ⟨#[signF r4]⟩, ⟨#[signF r5]⟩, ⟨#[signF r6]⟩] = textOf r1 r2 r3 r4 r5 r6 from rfl]
    k_steps
    refine ⟨?_⟩
    rename News _ _ _ _ => N4
    rename Fr _ _ _ _ => F4
    have N5 := segB_led N4
    clear N4
    refine lexer B F4 X N5 T C (neN (by omega)) rfl (by omega) (by omega) (Nat.le_of_ble_eq_true rfl) ?_
    intro x' dx lp st sd rd lat oSt fd objs ps k1 k2 k3 k4 v1' v3' kr t0 h6 tk6 F6 N6 q1 q2 q3 q4 q5 q6 q7
    clear N5 F4
    k_steps
    refine ⟨?_⟩
    rename Fr _ _ _ _ => F7
    refine hQ x' dx lp st sd rd lat oSt fd objs ps k1 k2 k3 k4 v1' v3' kr t0 v1 v2 tx _ _ _ (fr_over F7 ⟨rfl, ?_, ?_, rfl, rfl, trivial⟩) (by assumption) q1 q2 q3 q4 q5 q6 q7
    · rw [hU]; rfl
    · rw [hLw]; rfl
end Mine
end
section
open PySem PySem.W PyProof.Rows PySem.Calls
namespace Mine
open PyProof.Rows.LCg
variable {prog : Program} {w : World} {p : Program} {loose : List Str} {mean : ExcName → Option Value} {mg mb : Str → Option Value}
  {dp un : Nat} {gd : Option (List Code)} {a : Addr} {ccd : Value} {cl : List (Str × Addr)} {outer : List Env} {A₀ : Around} {base h₀ : Heap} {L : Addr} {m : Str → Option Value} {s : Shared} {E : Value → Shared → Prop} {Q : Flow → Shared → Prop} {news : List (Addr × Obj)}
noncomputable def lastF (u : List Nat) : Nat := u.getLastD 0
theorem units_shape : ∀ (e : Bool) (l : List Nat), ∀ u ∈ unitsF e l, (∃ c, u = [c]) ∨ ∃ c, u = [92, c]
  | e, [], u, h => by cases e <;> cases h
  | true, c :: r, u, h => by
    rcases List.mem_cons.mp h with rfl | h
    · exact .inr ⟨c, rfl⟩
    · exact units_shape false r u h
  | false, c :: r, u, h => by
    simp only [unitsF] at h
    split at h
    · exact units_shape true r u h
    · rcases List.mem_cons.mp h with rfl | h
      · exact .inl ⟨c, rfl⟩
      · exact units_shape false r u h
theorem units_length : ∀ (e : Bool) (l : List Nat), (unitsF e l).length ≤ l.length
  | e, [] => by cases e <;> exact Nat.le_refl _
  | true, c :: r => Nat.succ_le_succ (units_length false r)
  | false, c :: r => by
    simp only [unitsF]
    split
    · exact Nat.le_succ_of_le (units_length true r)
    · exact Nat.succ_le_succ (units_length false r)
theorem tok_units : ∀ (e : Bool) (l : List Nat), tokF e l = (unitsF e l).map lastF
  | e, [] => by cases e <;> rfl
  | true, c :: r => by simp only [tokF, unitsF, List.map_cons, tok_units false r]; rfl
  | false, c :: r => by
    simp only [tokF, unitsF]
    split
    · exact tok_units true r
    · simp only [List.map_cons, tok_units false r]; rfl
theorem UnitsIn.at : ∀ {ys : List Value} {U : List (List Nat)}, UnitsIn ys U → ∀ (i : Nat) (v : Value), ys[i]? = some v → ∃ (u : List Nat) (t : Tok), U[i]? = some u ∧ v = .str ⟨u.toArray⟩ t
  | .str x t :: vs, u :: us, h, 0, v, e => by
    cases e
    exact ⟨u, t, rfl, by rw [h.1]⟩
  | .str _ _ :: vs, _ :: us, h, i + 1, v, e => by
    obtain ⟨u, t, e1, e2⟩ := UnitsIn.at h.2 i v e
    exact ⟨u, t, e1, e2⟩
  | [], [], _, i, v, e => by simp at e
theorem item_last {u : List Nat} (h : (∃ c, u = [c]) ∨ ∃ c, u = [92, c]) : Txt.item ⟨u.toArray⟩ (-1) = ⟨#[lastF u]⟩ := by
  rcases h with ⟨c, rfl⟩ | ⟨c, rfl⟩ <;> rfl
theorem sjoin_ones : ∀ l : List Nat, Str.join (Str.ofString "") (l.map fun c => (⟨#[c]⟩ : Str)) = ⟨l.toArray⟩
  | [] => rfl
  | [c] => rfl
  | c :: d :: r => by
    show (⟨#[c]⟩ : Str) ++ Str.ofString "" ++ Str.join (Str.ofString "") ((d :: r).map fun c => (⟨#[c]⟩ : Str)) = _
    rw [sjoin_ones (d :: r)]
    show Str.mk ((#[c] ++ #[]) ++ (d :: r).toArray) = Str.mk _
    congr 1
    simp
theorem join_ones (l : List Nat) : Txt.join (Str.ofString "") (l.map fun c => (⟨#[c]⟩ : Str)) = ⟨l.toArray⟩ := (StrLaws.glued_eq_join _ _).trans (sjoin_ones l)
local macro_rules | `(tactic| walk_at "call ref") => `(tactic| (k_here; (try dsimp only); refine Hold.out ?_))
local macro_rules | `(tactic| walk_at "exec Assign cons ListComp") => `(tactic| (k_here; (try dsimp only); refine Hold.out ?_))
local macro_rules | `(tactic| walk_at "eval ListComp") => `(tactic| (k_here; k_dflt (refine LCg.ListComp_U (F₀ := by k_asm) (by with_unfolding_all rfl) (by decide) (by rfl) (by decide) (by rfl) ?_)))
local macro_rules | `(tactic| walk_at "CompSrc") => `(tactic| ((try dsimp only); refine Hold.out ?_))
local macro_rules | `(tactic| walk_at "EltEnd") => `(tactic| ((try dsimp only); refine Hold.out ?_))
local macro_rules | `(tactic| walk_at "subscriptTail Name UnaryOp str int") => `(tactic| ((try dsimp only); refine Hold.out ?_))
local macro_rules | `(tactic| walk_at "call builtin:str.join") => `(tactic| ((try dsimp only); refine Hold.out ?_))
local macro_rules | `(tactic| walk_at "execs cons") => `(tactic| ((with_reducible show wpAny _ _ (execs (Stmt.Assign _ (Expr.BinOp _ _ _ _) _ :: _) _) _ _ _); (try dsimp only); refine Hold.out ?_))
noncomputable def LastAt (U : List (List Nat)) (i : Nat) (y : Value) : Prop := ∃ (u : List Nat) (t : Tok), U[i]? = some u ∧ y = .str ⟨#[lastF u]⟩ t
theorem last_strs : ∀ {zs : List Value} {U : List (List Nat)}, zs.length = U.length → (∀ (i : Nat) y, zs[i]? = some y → LastAt U i y) → StrsAre zs ((U.map lastF).map fun c => (⟨#[c]⟩ : Str))
  | [], [], _, _ => .nil
  | z :: zs, u :: U, hl, h => by
    obtain ⟨_, t, e, rfl⟩ := h 0 z rfl
    cases e
    exact .cons _ _ (last_strs (by simpa using hl) fun i y hy => h (i + 1) y hy)
theorem last_weight : ∀ {U : List (List Nat)}, U.length ≤ 8 → ((((U.map lastF).map fun c => (⟨#[c]⟩ : Str)).map (·.length)).sum + ((U.map lastF).map fun c => (⟨#[c]⟩ : Str)).length ≤ 1048576) := by
  intro U h
  have : ∀ U : List (List Nat), (((U.map lastF).map fun c => (⟨#[c]⟩ : Str)).map (·.length)).sum = U.length := fun U => by
    induction U with
    | nil => rfl
    | cons u U ih => simp only [List.map_cons, List.sum_cons, List.length_cons, ih]; show 1 + U.length = _; omega
  rw [this, List.length_map, List.length_map]
  omega
theorem segC_led1 {g h : Heap} {L D x dx lp lat st sd d1 t : Addr} {oD o1 o2 o3 o4 o5 o6 o7 ot : Obj} {objs : List (Addr × Obj)} (N : News g L h ((D, oD) :: (x, o1) :: (dx, o2) :: (lp, o3) :: (lat, o4) :: (st, o5) :: (sd, o6) :: (objs ++ [(d1, o7), (t, ot)]))) :
    News g L h ((x, o1) :: (dx, o2) :: (lp, o3) :: (lat, o4) :: (st, o5) :: (sd, o6) :: (objs ++ [(D, oD), (d1, o7), (t, ot)])) := fun p hp => N p (by
  simp only [List.mem_cons, List.mem_append, List.not_mem_nil, or_false] at hp ⊢
  rcases hp with h | h | h | h | h | h | h | h | h | h <;> simp only [h, true_or, or_true])
theorem segC_led2 {g h : Heap} {L D x dx lp lat st sd d1 t : Addr} {oD o1 o2 o3 o4 o5 o6 o7 ot : Obj} {objs : List (Addr × Obj)} (N : News g L h ((x, o1) :: (dx, o2) :: (lp, o3) :: (lat, o4) :: (st, o5) :: (sd, o6) :: (objs ++ [(D, oD), (d1, o7), (t, ot)]))) :
    News g L h [(D, oD), (x, o1), (dx, o2), (lp, o3), (d1, o7), (t, ot)] := fun p hp => N p (by
  simp only [List.mem_cons, List.mem_append, List.not_mem_nil, or_false] at hp ⊢
  rcases hp with h | h | h | h | h | h <;> simp only [h, true_or, or_true])
theorem segC_off {D x dx lp lat st sd d1 t : Addr} {oD o1 o2 o3 o4 o5 o6 o7 ot : Obj} {objs : List (Addr × Obj)} (q4 : @Ne Nat lp lat) (q5 : ∀ p ∈ (x, o1) :: (dx, o2) :: (st, o5) :: (sd, o6) :: (objs ++ [(d1, o7), (t, ot)]), p.1 ≠ lp ∧ p.1 ≠ lat)
    (hD : ∀ p ∈ (x, o1) :: (dx, o2) :: (lp, o3) :: (lat, o4) :: (st, o5) :: (sd, o6) :: (objs ++ [(d1, o7), (t, ot)]), p.1 < D) :
    ∀ r ∈ (x, o1) :: (dx, o2) :: (lp, o3) :: (st, o5) :: (sd, o6) :: (objs ++ [(D, oD), (d1, o7), (t, ot)]), r.1 ≠ lat := by
  intro r hr
  simp only [List.mem_cons, List.mem_append, List.not_mem_nil, or_false] at hr
  have hl : @LT.lt Nat _ lat D := hD (lat, o4) (by simp)
  rcases hr with h | h | h | h | h | h | h | h | h
  · exact (q5 r (by simp [h])).2
  · exact (q5 r (by simp [h])).2
  · rw [h]; exact q4
  · exact (q5 r (by simp [h])).2
  · exact (q5 r (by simp [h])).2
  · exact (q5 r (by simp [h])).2
  · rw [h]; exact Ne.symm (Nat.ne_of_lt hl)
  · exact (q5 r (by simp [h])).2
  · exact (q5 r (by simp [h])).2
theorem last_join (U : List (List Nat)) : Txt.join (Str.ofString "") ((U.map lastF).map fun c => (⟨#[c]⟩ : Str)) = ⟨(U.map lastF).toArray⟩ := join_ones _
set_option maxHeartbeats 4000000 in
theorem segC {x dx lp st sd rd lat d1 : Addr} {oSt o1 : Obj} {fd : FuncData} {objs : List (Addr × Obj)} {ps : Array Value} {k1 k2 k3 k4 v1 v3 kr t0 tu tl tx : Tok} {u l : Int} {X9 : Str} (B : Below A₀ base outer h₀)
  (F : Fr h₀ L s.heap (over [(Str.ofString "row", Value.ref d1), (Str.ofString "upper", Value.int u tu), (Str.ofString "lower", Value.int l tl), (Str.ofString "text", Value.str X9 tx), (Str.ofString "machine", Value.ref x)] m)) (X : (KK w.params).In h₀)
  (N : News h₀ L s.heap ((x, instObj 80 dx) :: (dx, instD w st lp k1 k2 k3 k4 v1 v3) :: (lp, W.listOf #[] 0) :: (lat, W.listOf #[.int 0 t0] 0) :: (st, oSt) :: (sd, readD w rd kr) :: (objs ++ [(d1, o1), (86, tabObj ps)])))
  (T : Top p loose mean mg mb h₀) (hdp : dp + 25 < recursionLimit) (hu : un + 120 < cLine) (hg : AllBare s.gens)
  (q1 : oSt.cls = .type "function") (q2 : oSt.dict = some sd) (q3 : oSt.data = .func fd) (q4 : @Ne Nat lp lat)
  (q5 : ∀ p ∈ (x, instObj 80 dx) :: (dx, instD w st lp k1 k2 k3 k4 v1 v3) :: (st, oSt) :: (sd, readD w rd kr) :: (objs ++ [(d1, o1), (86, tabObj ps)]), p.1 ≠ lp ∧ p.1 ≠ lat)
  (q6 : ∃ oc od fd' sl, (rd, (⟨oc, od, .func fd', sl⟩ : Obj)) ∈ objs) (q7 : ReadSpec prog w p loose mean mg mb rd lat objs X9)
  (hlen : X9.cps.size ≤ 8) (hne0 : 0 < X9.cps.size) (hsign : ∀ c ∈ X9.cps.toList, c = 92 ∨ c = 50 ∨ c = 51 ∨ c = 52) (hpend : pendF false X9.cps.toList = false)
  (hQ : ∀ (ul : Addr) (ys : List Value) (h' : Heap) (tk' : Tok) (gens' : Array GenState) (m' : Str → Option Value), AllBare gens' → UnitsIn ys (unitsF false X9.cps.toList) → Fr h₀ L h' (over [(Str.ofString "row", Value.ref d1), (Str.ofString "upper", Value.int u tu), (Str.ofString "lower", Value.int l tl), (Str.ofString "machine", Value.ref x), (Str.ofString "units", Value.ref ul)] m') →
    News h₀ L h' [(ul, W.listOf ys.toArray ys.length), (x, instObj 80 dx), (dx, instD w st lp k1 k2 k3 k4 v1 v3), (lp, W.listOf #[] 0), (d1, o1), (86, tabObj ps)] → @LT.lt Nat _ lp ul →
    wpAny (model prog w) (ktrTop dp un gd (Str.ofString "law") lawScope L a ccd cl outer) (execs (lawBody.drop 9) (envX (Str.ofString "law") lawScope L a ccd cl)) Q E { s with heap := h', toks := tk', gens := gens' }) :
  wpAny (model prog w) (ktrTop dp un gd (Str.ofString "law") lawScope L a ccd cl outer) (execs (lawBody.drop 7) (envX (Str.ofString "law") lawScope L a ccd cl)) Q E s := by
  dsimp only [lawBody, lawScope, scopeOf, bodyOf, PySem.Challenge.pw_to0006_01, List.getLast?, List.getLast, List.drop]
  simp only [over] at F
  k_steps
  refine ⟨?_⟩
  refine Assign_ListComp_gen F rfl rfl (by dsimp only [ktrTop]; omega) (by with_unfolding_all rfl) (by with_unfolding_all rfl) (by decide) (by rfl) (by decide) (by rfl) (by rfl) (by decide) (by rfl) (by rfl) ?_
  k_steps
  refine ⟨?_⟩
  refine gen_call F X T (by omega) (by omega) hpend ?_
  intro ag C gs h1 tk1 hC ha hz hgen hk1 hbare start
  have hlim : s.heap.NoLimit := (Top.nolimit T).keeps F.keep
  have hUl : (unitsF false X9.cps.toList).length ≤ X9.cps.size := Nat.le_trans (units_length false X9.cps.toList) (Nat.le_of_eq Array.length_toList)
  have hLs := news_lt N
  refine ⟨ag, C, s.gens.size, gs, s.heap, _, unitsF false X9.cps.toList, rfl, F, N, hC, ha, hz, hgen, Array.getElem?_push_size, hg.push hbare, hlim, Nat.le_trans hUl (Nat.le_trans hlen (by rw [sizeLine_eq]; decide)), hk1, start, ?_⟩
  intro D h2 tk2 gens2 ys hb2 F2 N2 hys hD2
  clear start hk1 hgen F hlim
  obtain ⟨oc, od, fd2, osl, q6⟩ := q6
  have hoff := segC_off (oD := W.listOf ys.toArray ys.length) q4 q5 hD2
  have hDlp := hD2 _ (List.mem_cons_of_mem _ (List.mem_cons_of_mem _ List.mem_cons_self))
  k_steps
  refine ⟨?_⟩
  refine token (news := [(D, W.listOf ys.toArray ys.length), (d1, o1), (86, tabObj ps)]) B F2 X (segC_led1 N2) T rfl (by omega) (by omega) q1 q2 q3 q6 q7 (by omega) hne0 hsign hpend hoff ?_
  intro tt tk3 h3 tk4 F3 N3
  have N4 := segC_led2 N3
  clear N2 F2 N3 hoff hLs
  rw [tok_units]
  generalize hU : unitsF false X9.cps.toList = U at hys hUl
  have hUs : ∀ u ∈ U, (∃ c, u = [c]) ∨ ∃ c, u = [92, c] := hU ▸ units_shape false X9.cps.toList
  have hyl := hys.length
  have hU8 : U.length ≤ 8 := Nat.le_trans hUl hlen
  k_steps
  refine ⟨?_⟩
  rename News _ _ _ _ => N5
  rename Fr _ _ _ _ => F5
  refine comp_pure (LastAt U) rfl F5 N5 List.mem_cons_self (by rw [List.size_toArray, hyl, sizeLine_eq]; exact Nat.le_trans hU8 (by decide)) ?_ ?_
  · intro i9 v9 hv9 I9 oI9 C9 oC9 D9 oD9 m9 h9 tk9 E9 hC9 hx9 F9 N9
    obtain ⟨uu, tu9, hu9, rfl⟩ := hys.at i9 v9 (by simpa using hv9)
    clear F5 N5 hv9
    k_steps
    refine ⟨?_⟩
    rcases hUs uu (List.mem_of_getElem? hu9) with ⟨c, rfl⟩ | ⟨c, rfl⟩
    · exact KXi.item (n := 1) rfl (by decide) (by decide) (by decide) fun _ => ⟨⟨_, _, hu9, rfl⟩, _, _, rfl, F9, N9⟩
    · exact KXi.item (n := 2) rfl (by decide) (by decide) (by decide) fun _ => ⟨⟨_, _, hu9, rfl⟩, _, _, rfl, F9, N9⟩
  · intro g9 zs hzl hzs
    have hst := last_strs (hzl.trans ((List.size_toArray ..).trans hyl)) hzs
    clear F5 N5 hzs
    k_steps
    refine ⟨?_⟩
    refine join_listW (News.isList (by k_asm) (by k_mem)) hst (by decide) (last_weight hU8) ?_
    intro tj kj
    rw [last_join]
    have hSS : ((⟨(U.map lastF).toArray⟩ : Str) != ⟨(U.map lastF).toArray⟩) = false := bne_self_eq_false _
    k_steps
    refine ⟨?_⟩
    rename News _ _ _ _ => N6
    rename Fr _ _ _ _ => F6
    exact hQ D ys _ _ gens2 _ hb2 (hU ▸ hys) (fr_over F6 ⟨rfl, rfl, rfl, rfl, rfl, trivial⟩) (fun p hp => N6 p (List.mem_cons_of_mem _ hp)) hDlp
end Mine
end
section
open PySem PySem.W PyProof.Rows PySem.Calls
namespace Mine
open PyProof.Rows.LCg
variable {prog : Program} {w : World} {p : Program} {loose : List Str} {mean : ExcName → Option Value} {mg mb : Str → Option Value}
  {dp un : Nat} {gd : Option (List Code)} {a : Addr} {ccd : Value} {cl : List (Str × Addr)} {outer : List Env} {A₀ : Around} {base h₀ : Heap} {L : Addr} {m : Str → Option Value} {s : Shared} {E : Value → Shared → Prop} {Q : Flow → Shared → Prop} {news : List (Addr × Obj)}
noncomputable def ahF (u : List Nat) : Int := (u.length : Int) - 1
noncomputable def figF (c : Nat) : Int := if c = 92 then 1 else if c = 50 then 2 else if c = 51 then 3 else 4
noncomputable def aheads (U : List (List Nat)) : List Int := U.map ahF ++ [0]
noncomputable def duesF : List (List Nat) → List (Int × Int)
  | [] => []
  | u :: r => (1 - 2 * ahF u, figF (lastF u) + ahF u + (aheads r).getD 0 0) :: duesF r
noncomputable def dueF (r0 : Int) (U : List (List Nat)) : List (Int × Int) := (1, r0 + (aheads U).getD 0 0) :: duesF U
noncomputable def AheadAt (U : List (List Nat)) (i : Nat) (y : Value) : Prop := ∃ (u : List Nat) (t : Tok), U[i]? = some u ∧ y = .int (ahF u) t
theorem ahead_ints : ∀ {zs : List Value} {U : List (List Nat)}, zs.length = U.length → (∀ (i : Nat) y, zs[i]? = some y → AheadAt U i y) → IntsAre zs (U.map ahF)
  | [], [], _, _ => .nil
  | z :: zs, u :: U, hl, h => by
    obtain ⟨_, t, e, rfl⟩ := h 0 z rfl
    cases e
    exact .cons _ _ (ahead_ints (by simpa using hl) fun i y hy => h (i + 1) y hy)
local macro_rules | `(tactic| walk_at "eval ListComp") => `(tactic| (k_here; k_dflt (refine LCg.ListComp_U (F₀ := by k_asm) (by with_unfolding_all rfl) (by decide) (by rfl) (by decide) (by rfl) ?_)))
local macro_rules | `(tactic| walk_at "CompSrc") => `(tactic| ((try dsimp only); refine Hold.out ?_))
local macro_rules | `(tactic| walk_at "EltEnd") => `(tactic| ((try dsimp only); refine Hold.out ?_))
local macro_rules | `(tactic| walk_at "pyIter ref") => `(tactic| (k_here; (try dsimp only); refine Hold.out ?_))
local macro_rules | `(tactic| walk_at "execs cons") => `(tactic| ((with_reducible show wpAny _ _ (execs (Stmt.If _ _ _ _ :: _) _) _ _ _); (try dsimp only); refine Hold.out ?_))
theorem index_sign {A : Around} {Q E : Value → Shared → Prop} {c : Nat} {t u : Tok} (hc : c = 92 ∨ c = 50 ∨ c = 51 ∨ c = 52) (h : Q (.int (figF c) s.toks) { s with toks := s.toks + 1 }) :
    wpAny (model prog w) A (call (.builtin "str.index") [.str (Str.ofString ".\\234") t, .str ⟨#[c]⟩ u]) Q E s := by
  rcases hc with rfl | rfl | rfl | rfl
  · exact SC.index (i := 1) (rest := []) (by decide +kernel) h
  · exact SC.index (i := 2) (rest := []) (by decide +kernel) h
  · exact SC.index (i := 3) (rest := []) (by decide +kernel) h
  · exact SC.index (i := 4) (rest := []) (by decide +kernel) h
theorem last_item {A : Around} {Q E : Value → Shared → Prop} {value slice : PySem.Expr} {uu : List Nat} {t v : Tok} (hsh : (∃ c, uu = [c]) ∨ ∃ c, uu = [92, c]) (h : Q (.str ⟨#[lastF uu]⟩ s.toks) { s with toks := s.toks + 1 })
    (hs : subscripted slice false (.str ⟨uu.toArray⟩ t) (.int (-1) v) = operate [.str ⟨uu.toArray⟩ t, .int (-1) v] (getItem (.str ⟨uu.toArray⟩ t) (.int (-1) v)) := by with_unfolding_all rfl)
    (ht : ∀ r, letTemporaryGo value (.str ⟨uu.toArray⟩ t) r = pure () := by intro _; with_unfolding_all rfl) :
    wpAny (model prog w) A (subscriptTail value slice (.str ⟨uu.toArray⟩ t) (.int (-1) v)) Q E s := by
  rcases hsh with ⟨c, rfl⟩ | ⟨c, rfl⟩
  · exact KXi.item (n := 1) rfl (by decide) (by decide) (by decide) (fun _ => h) hs ht
  · exact KXi.item (n := 2) rfl (by decide) (by decide) (by decide) (fun _ => h) hs ht
theorem UnitsIn.get : ∀ {ys : List Value} {U : List (List Nat)}, UnitsIn ys U → ∀ (i : Nat) (u : List Nat), U[i]? = some u → ∃ t : Tok, ys[i]? = some (.str ⟨u.toArray⟩ t)
  | .str x t :: vs, u :: us, h, 0, u', e => by
    cases e
    exact ⟨t, by rw [h.1]; rfl⟩
  | .str _ _ :: vs, _ :: us, h, i + 1, u', e => by
    obtain ⟨t, e1⟩ := UnitsIn.get h.2 i u' e
    exact ⟨t, e1⟩
  | [], [], _, i, u', e => by simp at e
theorem dues_get : ∀ (U : List (List Nat)) (i : Nat) (u : List Nat), U[i]? = some u → (duesF U)[i]? = some (1 - 2 * (aheads U).getD i 0, figF (lastF u) + (aheads U).getD i 0 + (aheads U).getD (i + 1) 0)
  | v :: U, 0, u, e => by cases e; rfl
  | v :: U, i + 1, u, e => by
    have := dues_get U i u e
    exact this
  | [], i, u, e => by simp at e
theorem due_get {r0 : Int} {U : List (List Nat)} {i : Nat} {u : List Nat} (h : U[i]? = some u) : (dueF r0 U)[i + 1]? = some (1 - 2 * (U.map ahF ++ [0]).getD ((i : Int)).toNat 0, figF (lastF u) + (U.map ahF ++ [0]).getD ((i : Int)).toNat 0 + (U.map ahF ++ [0]).getD ((i : Int) + 1).toNat 0) := by
  rw [Int.toNat_natCast, show ((i : Int) + 1).toNat = i + 1 by omega]
  exact dues_get U i u h
theorem dues_length : ∀ U : List (List Nat), (duesF U).length = U.length
  | [] => rfl
  | _ :: U => congrArg (· + 1) (dues_length U)
theorem due_length (r0 : Int) (U : List (List Nat)) : (dueF r0 U).length = U.length + 1 := congrArg (· + 1) (dues_length U)
noncomputable def DueJ (w : World) (r0 : Int) (U : List (List Nat)) (ul al dl x dx lp st : Addr) (k1 k2 k3 k4 v1 v3 : Tok) (ys ws : List Value) (ps : Array Value) (u l : Int) (tu tl : Tok) (i : Nat) (m₁ : Str → Option Value) (news₁ : List (Addr × Obj)) : Prop :=
  ∃ (dits : List Value) (de : Nat) (tups : List (Addr × Obj)) (rest : Str → Option Value),
    m₁ = over [(Str.ofString "units", Value.ref ul), (Str.ofString "ahead", Value.ref al), (Str.ofString "due", Value.ref dl), (Str.ofString "upper", Value.int u tu), (Str.ofString "lower", Value.int l tl), (Str.ofString "machine", Value.ref x)] rest ∧
    news₁ = (dl, W.listOf dits.toArray de) :: (al, W.listOf ws.toArray 0) :: (ul, W.listOf ys.toArray ys.length) :: (x, instObj 80 dx) :: (dx, instD w st lp k1 k2 k3 k4 v1 v3) :: (lp, W.listOf #[] 0) :: (86, tabObj ps) :: tups ∧
    PairsIn tups dits ((dueF r0 U).take (i + 1)) ∧ ∀ p ∈ tups, @Ne Nat p.1 dl ∧ @Ne Nat p.1 lp
theorem neSymm {a b : Addr} (h : a ≠ b) : @Ne Nat b a := Ne.symm h
theorem due_end {w : World} {g h' : Heap} {I D dl al ul x dx lp st : Addr} {oI : Obj} {r0 z1 z2 : Int} {t1 t2 : Tok} {U : List (List Nat)} {k1 k2 k3 k4 v1 v3 tu tl : Tok} {ys ws dits : List Value} {de i tk' : Nat} {ps : Array Value} {u l : Int} {tups : List (Addr × Obj)} {m' : Str → Option Value} {s : Shared} {Q : Flow → Shared → Prop}
    (F9 : Fr g L h' m') (N9 : News g L h' ((D, tup [.int z1 t1, .int z2 t2]) :: (I, oI) :: (dl, W.listOf (dits.toArray.push (Value.ref D)) (de + 1)) :: (al, W.listOf ws.toArray 0) :: (ul, W.listOf ys.toArray ys.length) :: (x, instObj 80 dx) :: (dx, instD w st lp k1 k2 k3 k4 v1 v3) :: (lp, W.listOf #[] 0) :: (86, tabObj ps) :: tups))
    (hR : Reads m' [(Str.ofString "units", Value.ref ul), (Str.ofString "ahead", Value.ref al), (Str.ofString "due", Value.ref dl), (Str.ofString "upper", Value.int u tu), (Str.ofString "lower", Value.int l tl), (Str.ofString "machine", Value.ref x)])
    (hP : PairsIn tups dits ((dueF r0 U).take (i + 1))) (hne : ∀ p ∈ tups, @Ne Nat p.1 dl ∧ @Ne Nat p.1 lp) (hoI : ∀ p ∈ (dl, W.listOf dits.toArray de) :: (al, W.listOf ws.toArray 0) :: (ul, W.listOf ys.toArray ys.length) :: (x, instObj 80 dx) :: (dx, instD w st lp k1 k2 k3 k4 v1 v3) :: (lp, W.listOf #[] 0) :: (86, tabObj ps) :: tups, p.1 ≠ I)
    (hDd : @Ne Nat D dl) (hDl : @Ne Nat D lp) (hDI : @Ne Nat D I) (hz : (dueF r0 U)[i + 1]? = some (z1, z2)) :
    TurnG g L I oI (DueJ w r0 U ul al dl x dx lp st k1 k2 k3 k4 v1 v3 ys ws ps u l tu tl (i + 1)) s Q .next { s with heap := h', toks := tk' } := by
  rw [List.push_toArray] at N9
  refine ⟨h', tk', m', (dl, W.listOf (dits ++ [Value.ref D]).toArray (de + 1)) :: (al, W.listOf ws.toArray 0) :: (ul, W.listOf ys.toArray ys.length) :: (x, instObj 80 dx) :: (dx, instD w st lp k1 k2 k3 k4 v1 v3) :: (lp, W.listOf #[] 0) :: (86, tabObj ps) :: (D, tup [.int z1 t1, .int z2 t2]) :: tups, rfl, F9, fun p hp => N9 p ?_, ?_, dits ++ [Value.ref D], de + 1, (D, tup [.int z1 t1, .int z2 t2]) :: tups, m', over_self hR, rfl, ?_, ?_⟩
  · simp only [List.mem_cons] at hp ⊢
    rcases hp with h | h | h | h | h | h | h | h | h | h <;> simp only [h, true_or, or_true]
  · intro p hp
    simp only [List.mem_cons] at hp hoI
    rcases hp with h | h | h | h | h | h | h | h | h
    · rw [h]; exact hoI (dl, W.listOf dits.toArray de) (.inl rfl)
    · exact hoI p (by simp only [h, true_or, or_true])
    · exact hoI p (by simp only [h, true_or, or_true])
    · exact hoI p (by simp only [h, true_or, or_true])
    · exact hoI p (by simp only [h, true_or, or_true])
    · exact hoI p (by simp only [h, true_or, or_true])
    · exact hoI p (by simp only [h, true_or, or_true])
    · rw [h]; exact hDI
    · exact hoI p (by simp only [h, true_or, or_true])
  · rw [List.take_add_one, hz]
    exact PairsIn.snoc List.mem_cons_self (hP.mono fun p hp => List.mem_cons_of_mem _ hp)
  · intro p hp
    rcases List.mem_cons.mp hp with rfl | hp
    · exact ⟨hDd, hDl⟩
    · exact hne p hp
theorem segD_led2 {g h : Heap} {L dl al ul x dx lp t : Addr} {o1 o3 o6 o7 o8 o9 ot : Obj} {tups : List (Addr × Obj)} (N : News g L h ((dl, o1) :: (al, o3) :: (ul, o6) :: (x, o7) :: (dx, o8) :: (lp, o9) :: (t, ot) :: tups)) :
    News g L h ((dl, o1) :: (x, o7) :: (dx, o8) :: (lp, o9) :: ((t, ot) :: tups)) := fun p hp => N p (by
  simp only [List.mem_cons] at hp ⊢
  rcases hp with h | h | h | h | h | h <;> simp only [h, true_or, or_true])
local macro_rules | `(tactic| k_all) => `(tactic| assumption)
theorem segD_led {g h : Heap} {L dl c al a1 a2 ul x dx lp d1 t : Addr} {o1 o2 o3 o4 o5 o6 o7 o8 o9 o10 ot : Obj} (N : News g L h [(dl, o1), (c, o2), (al, o3), (a1, o4), (a2, o5), (ul, o6), (x, o7), (dx, o8), (lp, o9), (d1, o10), (t, ot)]) :
    News g L h ((dl, o1) :: (al, o3) :: (ul, o6) :: (x, o7) :: (dx, o8) :: (lp, o9) :: (t, ot) :: [(c, o2)]) := fun p hp => N p (by
  simp only [List.mem_cons, List.not_mem_nil, or_false] at hp ⊢
  rcases hp with h | h | h | h | h | h | h | h <;> simp only [h, true_or, or_true])
local macro_rules | `(tactic| walk_at "exec For Name Call cons nil") => `(tactic| (k_here; (try dsimp only); refine Hold.out ?_))
local macro_rules | `(tactic| walk_at "call builtin:len") => `(tactic| (k_here; (with_reducible show wpAny _ _ (call _ [Value.ref _]) _ _ _); (try dsimp only); refine Hold.out ?_))
local macro_rules | `(tactic| walk_at "subscriptTail Name Name ref int") => `(tactic| (k_here; (with_reducible show wpAny _ _ (subscriptTail (Expr.Name (Str.ofString "units") _) _ _ _) _ _ _); (try dsimp only); refine Hold.out ?_))
local macro_rules | `(tactic| walk_at "last subscriptTail") => `(tactic| (k_here; (try dsimp only); refine Hold.out ?_))
local macro_rules | `(tactic| walk_at "call builtin:str.index") => `(tactic| (k_here; (try dsimp only); refine Hold.out ?_))
local macro_rules | `(tactic| walk_at "TurnG") => `(tactic| ((try dsimp only); refine Hold.out ?_))
set_option maxHeartbeats 4000000 in
theorem segD {x dx lp st d1 ul : Addr} {ps : Array Value} {k1 k2 k3 k4 v1 v3 tu tl : Tok} {u l : Int} {r0 r1 r2 r3 r4 r5 r6 : Int} {u0 u1 u2 u3 u4 u5 u6 : Tok} {e : Nat} {ys : List Value} {U : List (List Nat)} (B : Below A₀ base outer h₀)
  (F : Fr h₀ L s.heap (over [(Str.ofString "row", Value.ref d1), (Str.ofString "upper", Value.int u tu), (Str.ofString "lower", Value.int l tl), (Str.ofString "machine", Value.ref x), (Str.ofString "units", Value.ref ul)] m)) (X : (KK w.params).In h₀)
  (N : News h₀ L s.heap [(ul, W.listOf ys.toArray ys.length), (x, instObj 80 dx), (dx, instD w st lp k1 k2 k3 k4 v1 v3), (lp, W.listOf #[] 0), (d1, W.listOf [Value.int r0 u0, Value.int r1 u1, Value.int r2 u2, Value.int r3 u3, Value.int r4 u4, Value.int r5 u5, Value.int r6 u6].toArray e), (86, tabObj ps)])
  (T : Top p loose mean mg mb h₀) (hdp : dp + 25 < recursionLimit) (hu : un + 120 < cLine) (hys : UnitsIn ys U) (hUs : ∀ u ∈ U, (∃ c, u = [c]) ∨ ∃ c, u = [92, c]) (hU0 : 0 < U.length) (hU8 : U.length ≤ 8)
  (hlast : ∀ u ∈ U, lastF u = 92 ∨ lastF u = 50 ∨ lastF u = 51 ∨ lastF u = 52) (hr0 : 0 < r0 ∧ r0 < 5) (hE : PassesOwn (model prog w) (ktrTop dp un gd (Str.ofString "law") lawScope L a ccd cl outer) (envX (Str.ofString "law") lawScope L a ccd cl) E) (h86 : @Ne Nat 86 lp)
  (hQ : ∀ (dl : Addr) (dits : List Value) (de : Nat) (tups : List (Addr × Obj)) (h' : Heap) (tk' : Tok) (m' : Str → Option Value), Fr h₀ L h' (over [(Str.ofString "upper", Value.int u tu), (Str.ofString "lower", Value.int l tl), (Str.ofString "machine", Value.ref x), (Str.ofString "due", Value.ref dl)] m') →
    News h₀ L h' ((dl, W.listOf dits.toArray de) :: (x, instObj 80 dx) :: (dx, instD w st lp k1 k2 k3 k4 v1 v3) :: (lp, W.listOf #[] 0) :: ((86, tabObj ps) :: tups)) → PairsIn ((86, tabObj ps) :: tups) dits (dueF r0 U) → (∀ p ∈ (86, tabObj ps) :: tups, p.1 ≠ lp) → @Ne Nat dl lp →
    wpAny (model prog w) (ktrTop dp un gd (Str.ofString "law") lawScope L a ccd cl outer) (execs (lawBody.drop 12) (envX (Str.ofString "law") lawScope L a ccd cl)) Q E { s with heap := h', toks := tk' }) :
  wpAny (model prog w) (ktrTop dp un gd (Str.ofString "law") lawScope L a ccd cl outer) (execs (lawBody.drop 9) (envX (Str.ofString "law") lawScope L a ccd cl)) Q E s := by
  dsimp only [lawBody, lawScope, scopeOf, bodyOf, PySem.Challenge.pw_to0006_01, List.getLast?, List.getLast, List.drop]
  simp only [over] at F
  have hyl := hys.length
  k_steps
  refine ⟨?_⟩
  refine comp_pure (AheadAt U) rfl F N List.mem_cons_self (by rw [List.size_toArray, hyl, sizeLine_eq]; exact Nat.le_trans hU8 (by decide)) ?_ ?_
  · intro i9 v9 hv9 I9 oI9 C9 oC9 D9 oD9 m9 h9 tk9 E9 hC9 hx9 F9 N9
    obtain ⟨uu, tu9, hu9, rfl⟩ := hys.at i9 v9 (by simpa using hv9)
    have hul : (⟨uu.toArray⟩ : Str).length ≤ 2 := by
      rcases hUs uu (List.mem_of_getElem? hu9) with ⟨c, rfl⟩ | ⟨c, rfl⟩
      · exact Nat.le_succ 1
      · exact Nat.le_refl 2
    clear F N hv9
    k_steps
    refine ⟨?_⟩
    exact ⟨⟨_, _, hu9, congrArg (fun z => Value.int z _) (by show ((uu.toArray.size : Nat) : Int) - 1 = _; rw [List.size_toArray]; rfl)⟩, _, _, rfl, F9, N9⟩
  · intro g9 zs hzl hzs
    have hz := ahead_ints (hzl.trans ((List.size_toArray ..).trans hyl)) hzs
    clear F N hzs
    k_steps
    refine ⟨?_⟩
    refine For_invV h₀ (by rfl) (by rfl) ?_ (by intro _; rfl) hE
    k_steps
    refine ⟨?_⟩
    refine kun_lenL (k := (U.length : Int)) (News.isList (by k_asm) (by k_mem)) (by rw [List.size_toArray, hyl]) (by omega) ?_
    have hU9 : U.length ≤ 1000 := by omega
    have hU8' : Hold (U.length ≤ 8) := ⟨hU8⟩
    clear hU8
    k_steps
    refine ⟨?_⟩
    rename IsRange _ _ _ _ _ _ _ _ => hr
    rename Fr _ _ _ _ => F5
    rename News _ _ _ _ => N5
    rename IntsAre _ (_ ++ _) => hws
    have N6 := segD_led N5
    refine iter_rangeG (DueJ w r0 U ul _ _ x dx lp st k1 k2 k3 k4 v1 v3 ys _ ps u l tu tl) (by rfl) hr (small_one (by omega) (by omega) (by omega) (by omega)) (show _ = ((U.length : Nat) : Int) by rw [rangeSize_one]; split <;> omega) F5 N6 ⟨[_], _, [_], _, over_self ⟨rfl, rfl, rfl, rfl, rfl, rfl, trivial⟩, rfl, .cons List.mem_cons_self .nil, ?_⟩ ?_ ?_
    · intro p hp
      rw [List.mem_singleton.mp hp]
      exact ⟨neN (by omega), neN (by omega)⟩
    · rintro i ti m₁ news₁ h5 tk5 I oI hi ⟨dits, de, tups, rest, rfl, rfl, hP, hne⟩ hoI F6 N7
      simp only [over] at F6
      clear F5 N5 N6 hr
      have hPl := hP.length
      rw [List.length_take] at hPl
      have hd1 : dits.length ≤ 1000 := by omega
      have hdlI := neSymm (hoI _ List.mem_cons_self)
      have hnl : ∀ p ∈ tups, p.1 ≠ _ := fun p hp => (hne p hp).1
      obtain ⟨uu, hui⟩ : ∃ uu, U[i]? = some uu := ⟨U[i], List.getElem?_eq_getElem hi⟩
      obtain ⟨tq, hyi⟩ := hys.get i uu hui
      have hsh := hUs uu (List.mem_of_getElem? hui)
      have hla := hlast uu (List.mem_of_getElem? hui)
      k_steps
      refine ⟨?_⟩
      refine item_list (News.isList (by k_asm) (by k_mem)) (by omega) (by omega) (by rw [Int.toNat_natCast, List.getElem?_toArray]; exact hyi) ?_
      k_steps
      refine ⟨?_⟩
      refine last_item hsh ?_
      k_steps
      refine ⟨?_⟩
      refine index_sign hla ?_
      k_steps
      refine ⟨?_⟩
      rename Fr _ _ _ _ => F9
      rename News _ _ _ _ => N9
      exact due_end F9 N9 ⟨rfl, rfl, rfl, rfl, rfl, rfl, trivial⟩ hP hne hoI (neN (by omega)) (neN (by omega)) (neN (by omega)) (due_get hui)
    · rintro m₁ news₁ h9 tk9 ⟨dits, de, tups, rest, rfl, rfl, hP, hne⟩ F6 N7
      clear F5 N5 N6 hr
      rw [List.take_of_length_le (Nat.le_of_eq (due_length r0 U))] at hP
      dsimp only
      k_steps
      refine ⟨?_⟩
      exact hQ _ dits de tups _ _ _ (fr_over F6 ⟨rfl, rfl, rfl, rfl, trivial⟩) (segD_led2 N7) (hP.mono fun p hp => List.mem_cons_of_mem _ hp) (fun p hp => (List.mem_cons.mp hp).elim (fun e => e ▸ h86) fun hp => (hne p hp).2) (neN (by omega))
end Mine
end
section
open PySem PySem.W PyProof.Rows PySem.Calls
namespace Mine
open PySem.Flt
variable {prog : Program} {w : World} {p : Program} {loose : List Str} {mean : ExcName → Option Value} {mg mb : Str → Option Value}
  {dp un : Nat} {gd : Option (List Code)} {a : Addr} {ccd : Value} {cl : List (Str × Addr)} {outer : List Env} {A₀ : Around} {base h₀ : Heap} {L : Addr} {m : Str → Option Value} {s : Shared} {E : Value → Shared → Prop} {Q : Flow → Shared → Prop} {news : List (Addr × Obj)}
noncomputable def datPairs (ps : List (Int × Int)) : List Dat := ps.map fun q => Dat.tuple [Dat.int q.1, Dat.int q.2]
theorem PairsIn.dat {T : List (Addr × Obj)} : ∀ {vs : List Value} {ps : List (Int × Int)}, PairsIn T vs ps → DatAll T vs (datPairs ps)
  | _, _, .nil => .nil
  | _, _, .cons hm r => .cons (.tuple hm (.cons (.int _ _) (.cons (.int _ _) .nil))) r.dat
theorem datPairs_ok (ps : List (Int × Int)) : ∀ d ∈ datPairs ps, kqdOk 8 d = true := by
  intro d hd
  obtain ⟨q, _, rfl⟩ := List.mem_map.mp hd
  rfl
local macro_rules | `(tactic| walk_at "call ref") => `(tactic| (k_here; (try dsimp only); refine Hold.out ?_))
local macro_rules | `(tactic| walk_at "compareOp NotEq ref ref") => `(tactic| (k_here; (try dsimp only); refine Hold.out ?_))
theorem ne_same {α : Type} {x : α} {inst : Decidable (x = x)} : (!@decide (x = x) inst) = false := by
  rw [decide_eq_true rfl]; rfl
theorem segE_led {g h : Heap} {L lr x dx lp dl : Addr} {o0 o1 o2 o3 o4 : Obj} {tups1 tups : List (Addr × Obj)} (N1 : News g L h ((lr, o0) :: (tups1 ++ (dl, o1) :: (x, o2) :: (dx, o3) :: (lp, o4) :: tups))) : News g L h ((x, o2) :: (dx, o3) :: (lp, o4) :: (dl, o1) :: tups) := fun p hp => N1 p (by
  simp only [List.mem_cons, List.mem_append] at hp ⊢
  rcases hp with h | h | h | h | h <;> simp only [h, true_or, or_true])
local macro_rules | `(tactic| walk_at "call builtin:len") => `(tactic| (k_here; (try dsimp only); refine Hold.out ?_))
set_option maxHeartbeats 4000000 in
theorem segE {x dx lp st dl : Addr} {k1 k2 k3 k4 v1 v3 : Tok} {u l : Int} {tu tl : Tok} {e de : Nat} {dits : List Value} {due : List (Int × Int)} {tups : List (Addr × Obj)} {rest : Str → Option Value} (B : Below A₀ base outer h₀) (F : Fr h₀ L s.heap (over [(Str.ofString "upper", Value.int u tu), (Str.ofString "lower", Value.int l tl), (Str.ofString "machine", Value.ref x), (Str.ofString "due", Value.ref dl)] rest)) (X : (KK w.params).In h₀)
  (N : News h₀ L s.heap ((dl, W.listOf dits.toArray de) :: (x, instObj 80 dx) :: (dx, instD w st lp k1 k2 k3 k4 v1 v3) :: (lp, W.listOf [].toArray e) :: tups)) (T : Top p loose mean mg mb h₀) (hdp : dp + 25 < recursionLimit) (hu : un + 120 < cLine)
  (hxl : @Ne Nat x lp) (hdl : @Ne Nat dx lp) (hne : ∀ p ∈ tups, p.1 ≠ lp) (hdlp : @Ne Nat dl lp) (hP : PairsIn tups dits due) (hlen : due.length ≤ 8)
  (hu0 : 0 < u) (hu1 : u < 10000) (hl0 : 0 < l) (hl1 : l < 10000) (n₀ n₁ n₂ : Nat) (hn₀ : n₀ ≤ 100) (cnt : Int)
  (hnear : nearF n₀ u l 1 = some due) (hfew : fewF n₁ 0 [((48 + u).toNat, (48 + l).toNat)] = some ((due.length : Int), cnt))
  (hiu : Float64.isInf (Float64.ofFrac (decide (u < 0) != decide ((8192 : Int) < 0)) u.natAbs (Int.natAbs 8192)) = false) (hil : Float64.isInf (Float64.ofFrac (decide (l < 0) != decide ((8192 : Int) < 0)) l.natAbs (Int.natAbs 8192)) = false) (hok : HueOk (Float64.ofFrac (decide (u < 0) != decide ((8192 : Int) < 0)) u.natAbs (Int.natAbs 8192)) (Float64.ofFrac (decide (l < 0) != decide ((8192 : Int) < 0)) l.natAbs (Int.natAbs 8192)))
  (hlad : ladF n₂ (hueF (Float64.ofFrac (decide (u < 0) != decide ((8192 : Int) < 0)) (u).natAbs (Int.natAbs 8192)) (Float64.ofFrac (decide (l < 0) != decide ((8192 : Int) < 0)) (l).natAbs (Int.natAbs 8192))) ⟨0, 1, 1, 1, 1, 0, 0, 1⟩ = some ((due.length : Int), cnt))
  (ret : ∀ (h' : Heap) (tk' : Nat) (m' : Str → Option Value), Fr h₀ L h' m' → News h₀ L h' tups → Q (.ret (.bool true)) {s with heap := h', toks := tk'}) :
  wpAny (model prog w) (ktrTop dp un gd (Str.ofString "law") lawScope L a ccd cl outer) (execs (lawBody.drop 12) (envX (Str.ofString "law") lawScope L a ccd cl)) Q E s := by
  dsimp only [lawBody, lawScope, scopeOf, bodyOf, PySem.Challenge.pw_to0006_01, List.getLast?, List.getLast, List.drop]
  simp only [over] at F
  k_steps
  refine ⟨?_⟩
  refine nearest B F X N T rfl (by omega) (by omega) u l _ _ n₀ hn₀ due hnear ?_
  intro lr items e1 tups1 h1 tk1 F1 N1 hP1 hne1 hlt1
  clear F N
  k_steps
  refine ⟨?_⟩
  refine kqd_ne N1 (List.mem_cons_self ..) rfl rfl hP1.dat (fun p hp => List.mem_cons_of_mem _ (List.mem_append_left _ hp)) (List.mem_cons_of_mem _ (List.mem_append_right _ (List.mem_cons_self ..))) rfl rfl hP.dat (fun p hp => List.mem_cons_of_mem _ (List.mem_append_right _ (by simp only [List.mem_cons, hp, or_true]))) (datPairs_ok _) (datPairs_ok _) (by dsimp only [ktrTop]; omega) ?_
  rw [ne_same]
  have N2 := segE_led N1
  clear N1 hP1 hne1 hlt1
  k_steps
  refine ⟨?_⟩
  refine fewest (news := (dl, W.listOf dits.toArray de) :: tups) B (by k_asm) X N2 T rfl (by omega) (by omega) hxl hdl ?_ (by omega) hu1 hl0 hl1 n₁ _ hfew ?_
  · intro p hp
    rcases List.mem_cons.mp hp with rfl | hp
    · exact hdlp
    · exact hne p hp
  intro c u1 u2 items2 e2 h2 tk2 F2 N3 hlt3
  clear N2
  dsimp only [fewLed] at N3
  have hdl := hP.length
  k_steps
  refine ⟨?_⟩
  refine kun_lenL (k := (due.length : Int)) (News.isList (by k_asm) (by k_mem)) (by rw [List.size_toArray, hdl]) (by omega) ?_
  k_steps
  refine ⟨?_⟩
  refine ladder B (by k_asm) X (by k_asm) T rfl (by omega) (by omega) u l _ _ hiu hil hok n₂ _ hlad ?_
  intro c4 u4 v4 h4 tk4 F4 N4 hlt4

  k_steps
  · rename News _ _ _ _ => N9
    exact ret _ _ _ (by assumption) fun p hp => N9 p (by simp only [List.mem_cons, hp, or_true])
  · exact absurd rfl (by assumption)
end Mine
end
section
open PySem PySem.W PyProof.Rows PySem.Calls
namespace Mine
open PySem.Flt
noncomputable abbrev flI (u : Int) : UInt64 := Float64.ofFrac (decide (u < 0) != decide ((8192 : Int) < 0)) u.natAbs (Int.natAbs 8192)
noncomputable def signsF (p1 p2 p3 p4 p5 p6 : Int) : List Nat := [signF p1, signF p2, signF p3, signF p4, signF p5, signF (p6 + 1)]
noncomputable def PlainOk (p0 p1 p2 p3 p4 p5 p6 : Int) : Prop :=
  ∃ (u l cnt : Int) (U : List (List Nat)), fracF [p0, p1, p2, p3, p4, p5, p6 + 1] = (u, l) ∧ unitsF false (signsF p1 p2 p3 p4 p5 p6) = U ∧ 0 < u ∧ u < 10000 ∧ 0 < l ∧ l < 10000 ∧ pendF false (signsF p1 p2 p3 p4 p5 p6) = false ∧ 0 < U.length ∧
    nearF 12 u l 1 = some (dueF p0 U) ∧ fewF 9 0 [((48 + u).toNat, (48 + l).toNat)] = some (((dueF p0 U).length : Int), cnt) ∧
    Float64.isInf (flI u) = false ∧ Float64.isInf (flI l) = false ∧ HueOk (flI u) (flI l) ∧ ladF 60 (hueF (flI u) (flI l)) ⟨0, 1, 1, 1, 1, 0, 0, 1⟩ = some (((dueF p0 U).length : Int), cnt)
theorem sign_ok (r : Int) : signF r = 92 ∨ signF r = 50 ∨ signF r = 51 ∨ signF r = 52 := by
  unfold signF
  split
  · exact .inl rfl
  · split
    · exact .inr (.inl rfl)
    · split
      · exact .inr (.inr (.inl rfl))
      · exact .inr (.inr (.inr rfl))
theorem text_ok {r1 r2 r3 r4 r5 r6 : Int} : ∀ c ∈ (textOf r1 r2 r3 r4 r5 r6).cps.toList, c = 92 ∨ c = 50 ∨ c = 51 ∨ c = 52 := by
  intro c hc
  simp only [textOf, List.mem_cons, List.not_mem_nil, or_false] at hc
  rcases hc with rfl | rfl | rfl | rfl | rfl | rfl <;> exact sign_ok _
theorem last_mem : ∀ (e : Bool) (l : List Nat), ∀ u ∈ unitsF e l, lastF u ∈ l
  | e, [], u, h => by cases e <;> cases h
  | true, c :: r, u, h => by
    rcases List.mem_cons.mp h with rfl | h
    · exact List.mem_cons_self
    · exact List.mem_cons_of_mem _ (last_mem false r u h)
  | false, c :: r, u, h => by
    simp only [unitsF] at h
    split at h
    · exact List.mem_cons_of_mem _ (last_mem true r u h)
    · rcases List.mem_cons.mp h with rfl | h
      · exact List.mem_cons_self
      · exact List.mem_cons_of_mem _ (last_mem false r u h)
variable {prog : Program} {w : World} {p : Program} {loose : List Str} {mean : ExcName → Option Value} {mg mb : Str → Option Value}
  {dp un : Nat} {gd : Option (List Code)} {a : Addr} {ccd : Value} {outer : List Env} {A₀ : Around} {base h₀ : Heap} {L : Addr} {m : Str → Option Value} {s : Shared} {E : Value → Shared → Prop} {Q : Flow → Shared → Prop} {news : List (Addr × Obj)}
set_option maxHeartbeats 4000000 in
theorem law_walk (plain : ∀ p0 p1 p2 p3 p4 p5 p6 : Int, (1 ≤ p0 ∧ p0 ≤ 3) → (1 ≤ p1 ∧ p1 ≤ 3) → (1 ≤ p2 ∧ p2 ≤ 3) → (1 ≤ p3 ∧ p3 ≤ 3) → (1 ≤ p4 ∧ p4 ≤ 3) → (1 ≤ p5 ∧ p5 ≤ 3) → (1 ≤ p6 ∧ p6 ≤ 3) → PlainOk p0 p1 p2 p3 p4 p5 p6)
  {c sl : Addr} {oc : Obj} {vs : List Value} {ns : List Int} (B : Below A₀ base outer h₀) (F : Fr h₀ L s.heap m) (X : (KK w.params).In h₀)
  (N : News h₀ L s.heap [(c, oc), (86, tabObj #[])]) (T : Top p loose mean mg mb h₀) (C : CodeHd base 90 86) (hdp : dp + 25 < recursionLimit) (hu : un + 120 < cLine)
  (hoc : oc.data = .cell (some (.ref sl))) (hl : h₀.IsList sl vs.toArray) (hI : IntsAre vs ns) (hlen : ns.length ≤ 63) (hg : AllBare s.gens)
  (hE : PassesOwn (model prog w) (ktrTop dp un gd (Str.ofString "law") lawScope L a ccd [(Str.ofString "script", c)] outer) (envX (Str.ofString "law") lawScope L a ccd [(Str.ofString "script", c)]) E)
  (ret : ∀ (h' : Heap) (tk' : Nat) (gens' : Array GenState) (m' : Str → Option Value) (ps : Array Value), AllBare gens' → Fr h₀ L h' m' → News h₀ L h' [(86, tabObj ps)] → Q (.ret (.bool true)) { s with heap := h', toks := tk', gens := gens' }) :
  wpAny (model prog w) (ktrTop dp un gd (Str.ofString "law") lawScope L a ccd [(Str.ofString "script", c)] outer) (execs lawBody (envX (Str.ofString "law") lawScope L a ccd [(Str.ofString "script", c)])) Q E s := by
  with_reducible refine segA B F X N T hdp hu hoc hl hI hlen ?_
  intro d1 p0 p1 p2 p3 p4 p5 p6 u0 u1 u2 u3 u4 u5 u6 e h1 tk1 m1 b0 b1 b2 b3 b4 b5 b6 hd1 F1 N1
  obtain ⟨u, l, cnt, U, hul, hU, hu0, hu1, hl0, hl1, hpend, hU0, hnear, hfew, hiu, hil, hok, hlad⟩ := plain p0 p1 p2 p3 p4 p5 p6 b0 b1 b2 b3 b4 b5 b6
  with_reducible refine segB B F1 X N1 T C hdp hu hd1 ⟨by omega, by omega⟩ ⟨by omega, by omega⟩ ⟨by omega, by omega⟩ ⟨by omega, by omega⟩ ⟨by omega, by omega⟩ ⟨by omega, by omega⟩ ⟨by omega, by omega⟩ ?_
  intro x dx lp st sd rd lat oSt fd objs ps k1 k2 k3 k4 v1 v3 kr t0 tu tl tx h2 tk2 m2 F2 N2 q1 q2 q3 q4 q5 q6 q7
  rw [hul] at F2
  dsimp only at F2
  have z8 : (textOf p1 p2 p3 p4 p5 (p6 + 1)).cps.size ≤ 8 := Nat.le_of_ble_eq_true rfl
  have z0 : 0 < (textOf p1 p2 p3 p4 p5 (p6 + 1)).cps.size := Nat.le_of_ble_eq_true rfl
  have hpend : pendF false (textOf p1 p2 p3 p4 p5 (p6 + 1)).cps.toList = false := hpend
  have hlast : ∀ v ∈ U, lastF v = 92 ∨ lastF v = 50 ∨ lastF v = 51 ∨ lastF v = 52 := fun v hv => text_ok (r1 := p1) (r2 := p2) (r3 := p3) (r4 := p4) (r5 := p5) (r6 := p6 + 1) _ (last_mem false (signsF p1 p2 p3 p4 p5 p6) v (hU ▸ hv))
  have hshape : ∀ v ∈ U, (∃ c, v = [c]) ∨ ∃ c, v = [92, c] := hU ▸ units_shape false _
  with_reducible refine segC B F2 X N2 T hdp hu hg q1 q2 q3 q4 q5 q6 q7 z8 z0 text_ok hpend ?_
  intro ul ys h3 tk3 gens3 m3 hb3 hys F3 N3 hlt3
  have hys : UnitsIn ys U := hU ▸ hys
  have hUl : U.length ≤ 6 := hU ▸ units_length false (signsF p1 p2 p3 p4 p5 p6)
  have h86 : @Ne Nat 86 lp := (q5 (86, tabObj ps) (by simp)).1
  have hxl : @Ne Nat x lp := (q5 (x, instObj 80 dx) (by simp)).1
  have hdl : @Ne Nat dx lp := (q5 (dx, instD w st lp k1 k2 k3 k4 v1 v3) (by simp)).1
  with_reducible refine segD B F3 X N3 T hdp hu hys hshape hU0 (by omega) hlast ⟨by omega, by omega⟩ hE h86 ?_
  intro dl dits de tups h4 tk4 m4 F4 N4 hP hne hdlp
  with_reducible refine segE (n₀ := 12) (n₁ := 9) (n₂ := 60) (cnt := cnt) B F4 X N4 T hdp hu hxl hdl hne hdlp hP (by rw [due_length]; omega) hu0 hu1 hl0 hl1 (by decide) hnear hfew hiu hil hok hlad ?_
  intro h5 tk5 m5 F5 N5
  exact ret h5 tk5 gens3 m5 ps hb3 F5 fun p hp => N5 p (by rw [List.mem_singleton.mp hp]; exact List.mem_cons_self)
end Mine
end
section
open PySem
namespace Mine
open PySem.Float64
theorem pow_pos2 (j : Nat) : 0 < 2 ^ j := Nat.two_pow_pos j
theorem log2_scale {n : Nat} (hn : 0 < n) : ∀ j : Nat, (n * 2 ^ j).log2 = n.log2 + j
  | 0 => by simp
  | j + 1 => by
    rw [Nat.pow_succ, ← Nat.mul_assoc, Nat.mul_comm _ 2, Nat.log2_two_mul (Nat.ne_of_gt (Nat.mul_pos hn (pow_pos2 j))), log2_scale hn j, Nat.add_assoc]
theorem shift_scale (n d c : Nat) (k : Int) : shift (n * c) (d * c) k = ((shift n d k).1 * c, (shift n d k).2 * c) := by
  unfold shift
  split
  · rw [Nat.mul_right_comm]
  · rw [Nat.mul_right_comm d]
theorem half_scale {a b c : Nat} (hc : 0 < c) : halfEven (a * c) (b * c) = halfEven a b := by
  unfold halfEven
  rw [Nat.mul_div_mul_right _ _ hc, Nat.mul_mod_mul_right]
  dsimp only
  have e1 : (2 * (a % b * c) > b * c) ↔ (2 * (a % b) > b) := by
    rw [← Nat.mul_assoc]
    exact ⟨fun h => Nat.lt_of_mul_lt_mul_right h, fun h => Nat.mul_lt_mul_of_pos_right h hc⟩
  have e2 : (2 * (a % b * c) == b * c) = (2 * (a % b) == b) := by
    rw [← Nat.mul_assoc, Bool.eq_iff_iff, beq_iff_eq, beq_iff_eq]
    exact ⟨fun h => Nat.eq_of_mul_eq_mul_right hc h, fun h => by rw [h]⟩
  rw [e2]
  simp only [e1]
theorem round_scale {n d : Nat} (hn : 0 < n) (hd : 0 < d) (j : Nat) : roundMag (n * 2 ^ j) (d * 2 ^ j) = roundMag n d := by
  have hp := pow_pos2 j
  have hn' : (n * 2 ^ j == 0) = false := beq_eq_false_iff_ne.mpr (Nat.ne_of_gt (Nat.mul_pos hn hp))
  have hn0 : (n == 0) = false := beq_eq_false_iff_ne.mpr (Nat.ne_of_gt hn)
  unfold roundMag
  rw [hn', hn0, log2_scale hn, log2_scale hd]
  simp only [shift_scale, half_scale hp]
  have e1 : ((n.log2 + j : Nat) : Int) - ((d.log2 + j : Nat) : Int) = (n.log2 : Int) - (d.log2 : Int) := by omega
  rw [e1]
  have e2 : ∀ x y : Nat, (x * 2 ^ j ≥ y * 2 ^ j) ↔ (x ≥ y) := fun x y => ⟨fun h => Nat.le_of_mul_le_mul_right h hp, fun h => Nat.mul_le_mul_right _ h⟩
  simp only [e2]
theorem half_exact {m c : Nat} (hc : 0 < c) : halfEven (m * c) c = m := by
  unfold halfEven
  rw [Nat.mul_div_cancel _ hc, Nat.mul_mod_left]
  dsimp only
  rw [if_neg]
  simp only [Nat.mul_zero, Nat.not_lt_zero, gt_iff_lt, decide_false, Bool.false_or, Bool.and_eq_true, beq_iff_eq, not_and]
  intro h
  omega
theorem round_self {n : Nat} (hn : 0 < n) : roundMag n n = 1023 * 2 ^ 52 := by
  have hn0 : (n == 0) = false := beq_eq_false_iff_ne.mpr (Nat.ne_of_gt hn)
  unfold roundMag
  rw [hn0, Int.sub_self]
  have e : shift n n (-0) = (n, n) := by unfold shift; simp
  simp only [e, Bool.false_eq_true, if_false, ge_iff_le, Nat.le_refl, if_true]
  have e2 : max ((0 : Int) - 52) (-1074) = -52 := by decide
  rw [e2]
  have e3 : shift n n (- -52) = (2 ^ 52 * n, n) := by unfold shift; rw [if_pos (by decide), Nat.mul_comm]; rfl
  rw [e3]
  dsimp only
  rw [half_exact hn]
  decide +kernel
theorem log2_of {m k : Nat} (h1 : 2 ^ k ≤ m) (h2 : m < 2 ^ (k + 1)) : m.log2 = k := by
  have hm : m ≠ 0 := fun e => by have := pow_pos2 k; omega
  exact (Nat.log2_eq_iff hm).mpr ⟨h1, h2⟩
theorem shift_down {n d : Nat} {k : Nat} : shift n d (-(k : Int)) = (n, d * 2 ^ k) := by
  unfold shift
  split
  · have : k = 0 := by omega
    subst this
    simp
  · rw [Int.neg_neg, Int.toNat_natCast]
theorem shift_up {n d : Nat} {k : Nat} : shift n d (k : Int) = (n * 2 ^ k, d) := by
  unfold shift
  rw [if_pos (by omega), Int.toNat_natCast]
theorem round_repr {m ex : Nat} (h1 : 2 ^ 52 ≤ m) (h2 : m < 2 ^ 53) (h3 : 1 ≤ ex) (h4 : ex ≤ 1074) : roundMag m (2 ^ (1075 - ex)) = (ex - 1) * 2 ^ 52 + m := by
  have hm0 : (m == 0) = false := beq_eq_false_iff_ne.mpr (by omega)
  have hl : m.log2 = 52 := log2_of h1 h2
  unfold roundMag
  rw [hm0, hl, Nat.log2_two_pow]
  simp only [Bool.false_eq_true, if_false]
  have top : (shift m (2 ^ (1075 - ex)) (-(((52 : Nat) : Int) - ((1075 - ex : Nat) : Int)))).1 ≥ (shift m (2 ^ (1075 - ex)) (-(((52 : Nat) : Int) - ((1075 - ex : Nat) : Int)))).2 := by
    rcases Nat.le_total ex 1023 with h | h
    · rw [show -(((52 : Nat) : Int) - ((1075 - ex : Nat) : Int)) = ((1023 - ex : Nat) : Int) by omega, shift_up]
      show 2 ^ (1075 - ex) ≤ m * 2 ^ (1023 - ex)
      rw [show 1075 - ex = 52 + (1023 - ex) by omega, Nat.pow_add]
      exact Nat.mul_le_mul_right _ h1
    · rw [show -(((52 : Nat) : Int) - ((1075 - ex : Nat) : Int)) = -((ex - 1023 : Nat) : Int) by omega, shift_down]
      show 2 ^ (1075 - ex) * 2 ^ (ex - 1023) ≤ m
      rw [← Nat.pow_add, show 1075 - ex + (ex - 1023) = 52 by omega]
      exact h1
  rw [if_pos top]
  rw [show max (((52 : Nat) : Int) - ((1075 - ex : Nat) : Int) - 52) (-1074) = -((1075 - ex : Nat) : Int) by omega]
  rw [Int.neg_neg, shift_up]
  dsimp only
  rw [half_exact (pow_pos2 _)]
  have e : (-((1075 - ex : Nat) : Int) + 1074).toNat = ex - 1 := by omega
  rw [e]
  refine Nat.min_eq_right ?_
  have h5 : (ex - 1) * 2 ^ 52 ≤ 1073 * 2 ^ 52 := Nat.mul_le_mul_right _ (by omega)
  exact Nat.le_trans (Nat.add_le_add h5 (Nat.le_of_lt h2)) (by decide)
/-- a normal positive float's bits -/
noncomputable def Nrm (M m ex : Nat) : Prop := 2 ^ 52 ≤ m ∧ m < 2 ^ 53 ∧ 1 ≤ ex ∧ ex ≤ 1074 ∧ M = (ex - 1) * 2 ^ 52 + m
theorem Nrm.div {M m ex : Nat} (h : Nrm M m ex) : M / 2 ^ 52 = ex ∧ M % 2 ^ 52 = m - 2 ^ 52 ∧ M < 2 ^ 63 := by
  obtain ⟨h1, h2, h3, h4, rfl⟩ := h
  have e : (ex - 1) * 2 ^ 52 + m = (m - 2 ^ 52) + ex * 2 ^ 52 := by
    have : ex * 2 ^ 52 = (ex - 1) * 2 ^ 52 + 2 ^ 52 := by
      rw [← Nat.succ_mul, Nat.succ_eq_add_one, Nat.sub_add_cancel h3]
    rw [this]
    generalize (ex - 1) * 2 ^ 52 = z
    omega
  rw [e]
  have hlt : m - 2 ^ 52 < 2 ^ 52 := by omega
  refine ⟨?_, ?_, ?_⟩
  · rw [Nat.add_mul_div_right _ _ (pow_pos2 _), Nat.div_eq_of_lt hlt, Nat.zero_add]
  · rw [Nat.add_mul_mod_self_right, Nat.mod_eq_of_lt hlt]
  · have h5 : ex * 2 ^ 52 ≤ 1074 * 2 ^ 52 := Nat.mul_le_mul_right _ h4
    have : 1074 * 2 ^ 52 + 2 ^ 52 < 2 ^ 63 := by decide
    omega
theorem Nrm.of {M : Nat} (h1 : 2 ^ 52 ≤ M) (h2 : M < 1075 * 2 ^ 52) : Nrm M (2 ^ 52 + M % 2 ^ 52) (M / 2 ^ 52) := by
  have hm := Nat.mod_lt M (pow_pos2 52)
  have hd := Nat.div_add_mod M (2 ^ 52)
  have h3 : 1 ≤ M / 2 ^ 52 := (Nat.le_div_iff_mul_le (pow_pos2 52)).mpr (by omega)
  have h4 : M / 2 ^ 52 < 1075 := (Nat.div_lt_iff_lt_mul (pow_pos2 52)).mpr h2
  refine ⟨Nat.le_add_right _ _, ?_, h3, Nat.le_of_lt_succ h4, ?_⟩
  · omega
  · rw [Nat.sub_mul, Nat.one_mul]
    have : 2 ^ 52 ≤ M / 2 ^ 52 * 2 ^ 52 := by omega
    omega
theorem toNat_pack {M : Nat} (h : M < 2 ^ 63) : (pack false M).toNat = M := by
  unfold pack
  show (Nat.toUInt64 (0 + M)).toNat = M
  rw [Nat.zero_add]
  exact Nat.mod_eq_of_lt (by omega)
theorem dec_pack {M m ex : Nat} (h : Nrm M m ex) : decode (pack false M) = .fin false m ((ex : Int) - 1075) := by
  obtain ⟨e1, e2, e3⟩ := h.div
  obtain ⟨h1, h2, h3, h4, _⟩ := h
  unfold decode
  rw [toNat_pack e3]
  have hex : M / 2 ^ 52 % 2048 = ex := by rw [e1]; exact Nat.mod_eq_of_lt (by omega)
  have hn : (M / 2 ^ 63 == 1) = false := by rw [Nat.div_eq_of_lt e3]; rfl
  simp only [hex, hn, e2]
  rw [if_neg (by simp; omega), if_neg (by simp; omega), Nat.add_sub_cancel' h1]
theorem xor63 {M : Nat} (h : M < 2 ^ 63) : M ^^^ 2 ^ 63 = M + 2 ^ 63 := by
  refine Nat.eq_of_testBit_eq fun i => ?_
  rw [Nat.testBit_xor, Nat.testBit_two_pow, Nat.add_comm]
  rcases Nat.lt_trichotomy i 63 with hi | rfl | hi
  · rw [Nat.testBit_two_pow_add_gt hi, decide_eq_false (by omega), Bool.xor_false]
  · rw [Nat.testBit_two_pow_add_eq, decide_eq_true rfl, Bool.xor_true]
  · have p1 : M < 2 ^ i := Nat.lt_of_lt_of_le h (Nat.pow_le_pow_right (by decide) (Nat.le_of_lt hi))
    have p2 : 2 ^ 63 + M < 2 ^ i := Nat.lt_of_lt_of_le (show 2 ^ 63 + M < 2 ^ 64 by omega) (Nat.pow_le_pow_right (by decide) hi)
    rw [Nat.testBit_lt_two_pow p1, Nat.testBit_lt_two_pow p2, decide_eq_false (by omega)]
    rfl
theorem dec_neg {M m ex : Nat} (h : Nrm M m ex) : decode (neg (pack false M)) = .fin true m ((ex : Int) - 1075) := by
  obtain ⟨e1, e2, e3⟩ := h.div
  have hd := dec_pack h
  have hnan : isNaN (pack false M) = false := by unfold isNaN; rw [hd]
  obtain ⟨h1, h2, h3, h4, _⟩ := h
  unfold neg
  rw [hnan]
  simp only [Bool.false_eq_true, if_false]
  unfold decode
  have ht : (pack false M ^^^ pack true 0).toNat = M + 2 ^ 63 := by
    rw [UInt64.toNat_xor, toNat_pack e3]
    exact xor63 e3
  rw [ht]
  have q1 : (M + 2 ^ 63) / 2 ^ 63 = 1 := by
    rw [Nat.add_div_right _ (pow_pos2 _), Nat.div_eq_of_lt e3]
  have q2 : (M + 2 ^ 63) / 2 ^ 52 % 2048 = ex := by
    rw [show (2 : Nat) ^ 63 = 2048 * 2 ^ 52 by decide, Nat.add_mul_div_right _ _ (pow_pos2 52), e1, Nat.add_mod_right]
    exact Nat.mod_eq_of_lt (by omega)
  have q3 : (M + 2 ^ 63) % 2 ^ 52 = m - 2 ^ 52 := by
    rw [show (2 : Nat) ^ 63 = 2048 * 2 ^ 52 by decide, Nat.add_mul_mod_self_right, e2]
  simp only [q1, q2, q3]
  rw [if_neg (by simp; omega), if_neg (by simp; omega), Nat.add_sub_cancel' h1]
  rfl
end Mine
end
section
open PySem
namespace Mine
open PySem.Float64
theorem fl_nrm {a : Nat} (h0 : 0 < a) (h1 : a < 2 ^ 20) : Nrm (roundMag a 8192) (a * 2 ^ (52 - a.log2)) (1010 + a.log2) := by
  have ha : a ≠ 0 := Nat.ne_of_gt h0
  have l1 : 2 ^ a.log2 ≤ a := (Nat.log2_eq_iff ha).mp rfl |>.1
  have l2 : a < 2 ^ (a.log2 + 1) := (Nat.log2_eq_iff ha).mp rfl |>.2
  have l3 : a.log2 < 20 := (Nat.log2_lt ha).mpr h1
  have m1 : 2 ^ 52 ≤ a * 2 ^ (52 - a.log2) := by
    have := Nat.mul_le_mul_right (2 ^ (52 - a.log2)) l1
    rwa [← Nat.pow_add, show a.log2 + (52 - a.log2) = 52 by omega] at this
  have m2 : a * 2 ^ (52 - a.log2) < 2 ^ 53 := by
    have := Nat.mul_lt_mul_of_pos_right l2 (pow_pos2 (52 - a.log2))
    rwa [← Nat.pow_add, show a.log2 + 1 + (52 - a.log2) = 53 by omega] at this
  refine ⟨m1, m2, by omega, by omega, ?_⟩
  rw [← round_scale h0 (by decide) (52 - a.log2), show 8192 * 2 ^ (52 - a.log2) = 2 ^ (1075 - (1010 + a.log2)) by
    rw [show (8192 : Nat) = 2 ^ 13 by decide, ← Nat.pow_add]
    congr 1
    omega]
  exact round_repr m1 m2 (by omega) (by omega)
theorem Nrm.pos {M m ex : Nat} (h : Nrm M m ex) : 0 < m := Nat.lt_of_lt_of_le (pow_pos2 52) h.1
theorem dec_zero : decode 0 = .fin false 0 (-1074) := by kernel_rfl
theorem dec_nzero : decode (neg 0) = .fin true 0 (-1074) := by kernel_rfl
theorem ofBin_neg {s : Bool} {m k : Nat} : ofBin s m (-(k : Int)) = pack s (roundMag m (2 ^ k)) := by
  unfold ofBin ofFrac
  rw [shift_down, Nat.one_mul]
theorem sgn_false (m : Nat) : sgn false m = (m : Int) := rfl
theorem sgn_true (m : Nat) : sgn true m = -(m : Int) := rfl
theorem round_sub {m ex N : Nat} (h1 : 2 ^ 52 ≤ m) (h2 : m < 2 ^ 53) (h3 : 1 ≤ ex) (h4 : ex ≤ 1074) (hN : N = 1074) : roundMag (m * 2 ^ (ex - 1)) (2 ^ N) = (ex - 1) * 2 ^ 52 + m := by
  have e : N = (1075 - ex) + (ex - 1) := by omega
  rw [e, Nat.pow_add, round_scale (Nat.lt_of_lt_of_le (pow_pos2 52) h1) (pow_pos2 _), round_repr h1 h2 h3 h4]
theorem sub_zero {M m ex : Nat} (h : Nrm M m ex) : sub (pack false M) 0 = pack false M := by
  have hp := h.pos
  have hd := dec_pack h
  obtain ⟨h1, h2, h3, h4, hM⟩ := h
  unfold sub add
  rw [hd, dec_nzero]
  dsimp only
  obtain ⟨N, hN⟩ : ∃ N : Nat, N = 1074 := ⟨_, rfl⟩
  have hg : min ((ex : Int) - 1075) (-1074) = -(N : Int) := by omega
  simp only [align, hg, sgn_false, sgn_true]
  have e1 : ((ex : Int) - 1075 - -(N : Int)).toNat = ex - 1 := by omega
  rw [e1, Nat.zero_mul]
  have hpp : 0 < m * 2 ^ (ex - 1) := Nat.mul_pos hp (pow_pos2 _)
  generalize hP : m * 2 ^ (ex - 1) = P at hpp
  have e2 : ((P : Int) + -((0 : Nat) : Int)) = (P : Int) := by omega
  rw [e2]
  rw [if_neg (by simp; omega), decide_eq_false (by omega), Int.natAbs_natCast, ofBin_neg, ← hP, round_sub h1 h2 h3 h4 hN, ← hM]
theorem div_self {M m ex : Nat} (h : Nrm M m ex) : Float64.div (pack false M) (pack false M) = pack false (1023 * 2 ^ 52) := by
  have hp := h.pos
  unfold Float64.div
  rw [dec_pack h]
  dsimp only
  rw [if_neg (by simp; omega), Int.sub_self]
  have : shift m m 0 = (m * 2 ^ 0, m) := shift_up (k := 0)
  rw [this]
  unfold ofFrac
  simp only [Nat.pow_zero, Nat.mul_one, round_self hp, bne_self_eq_false]
/-- a difference of two normal positive floats, the second's exponent no higher -/
theorem sub_nrm {M m e K k f : Nat} (h : Nrm M m e) (g : Nrm K k f) (hef : f ≤ e) (hlt : k < m * 2 ^ (e - f)) :
    sub (pack false M) (pack false K) = pack false (roundMag (m * 2 ^ (e - f) - k) (2 ^ (1075 - f))) := by
  unfold sub add
  rw [dec_pack h, dec_neg g]
  dsimp only
  have hf := g.2.2.2.1
  have hg : min ((e : Int) - 1075) ((f : Int) - 1075) = -((1075 - f : Nat) : Int) := by omega
  simp only [align, hg, sgn_false, sgn_true]
  have e1 : ((e : Int) - 1075 - -((1075 - f : Nat) : Int)).toNat = e - f := by omega
  have e2 : ((f : Int) - 1075 - -((1075 - f : Nat) : Int)).toNat = 0 := by omega
  rw [e1, e2, Nat.pow_zero, Nat.mul_one]
  generalize m * 2 ^ (e - f) = P at hlt
  have e3 : (P : Int) + -(k : Int) = ((P - k : Nat) : Int) := by omega
  rw [e3, if_neg (by simp; omega), decide_eq_false (by omega), Int.natAbs_natCast, ofBin_neg]
theorem div_nrm {M m e K k f : Nat} (h : Nrm M m e) (g : Nrm K k f) (hef : e ≤ f) :
    Float64.div (pack false M) (pack false K) = pack false (roundMag m (k * 2 ^ (f - e))) := by
  have hp := g.pos
  unfold Float64.div
  rw [dec_pack h, dec_pack g]
  dsimp only
  rw [if_neg (by simp; omega), show (e : Int) - 1075 - ((f : Int) - 1075) = -((f - e : Nat) : Int) by omega, shift_down]
  unfold ofFrac
  simp only [bne_self_eq_false]
end Mine
end
section
open PySem
namespace Mine
open PySem.Float64
theorem one_nrm : Nrm (1023 * 2 ^ 52) (2 ^ 52) 1023 := ⟨Nat.le_refl _, by decide, by decide, by decide, by decide⟩
theorem six_nrm : Nrm (1025 * 2 ^ 52 + 2 ^ 51) (2 ^ 52 + 2 ^ 51) 1025 := ⟨by decide, by decide, by decide, by decide, by decide⟩
theorem one_lit : (4607182418800017408 : UInt64) = pack false (1023 * 2 ^ 52) := by decide +kernel
theorem six_lit : (4618441417868443648 : UInt64) = pack false (1025 * 2 ^ 52 + 2 ^ 51) := by decide +kernel
theorem log2_mono {a b : Nat} (h0 : 0 < b) (h : b ≤ a) : b.log2 ≤ a.log2 := by
  have hb : b ≠ 0 := Nat.ne_of_gt h0
  have ha : a ≠ 0 := by omega
  exact (Nat.le_log2 ha).mpr (Nat.le_trans ((Nat.log2_eq_iff hb).mp rfl).1 h)
theorem log2_20 {a : Nat} (h0 : 0 < a) (h1 : a < 2 ^ 20) : a.log2 < 20 := (Nat.log2_lt (Nat.ne_of_gt h0)).mpr h1
theorem lift_pow {a la lb : Nat} (h : lb ≤ la) (hla : la < 20) : a * 2 ^ (52 - la) * 2 ^ (la - lb) = a * 2 ^ (52 - lb) := by
  rw [Nat.mul_assoc, ← Nat.pow_add]
  congr 2
  omega
theorem sub_fl {a b : Nat} (h0 : 0 < b) (h : b < a) (h1 : a < 2 ^ 20) : sub (pack false (roundMag a 8192)) (pack false (roundMag b 8192)) = pack false (roundMag (a - b) 8192) := by
  have na := fl_nrm (show 0 < a by omega) h1
  have nb := fl_nrm h0 (show b < 2 ^ 20 by omega)
  have hl := log2_mono h0 (Nat.le_of_lt h)
  have hla := log2_20 (show 0 < a by omega) h1
  have e1 : 1010 + a.log2 - (1010 + b.log2) = a.log2 - b.log2 := by omega
  have hP := lift_pow (a := a) hl hla
  have hlt : b * 2 ^ (52 - b.log2) < a * 2 ^ (52 - a.log2) * 2 ^ (1010 + a.log2 - (1010 + b.log2)) := by
    rw [e1, hP]
    exact Nat.mul_lt_mul_of_pos_right h (pow_pos2 _)
  rw [sub_nrm na nb (by omega) hlt, e1, hP, ← Nat.sub_mul]
  have e2 : 2 ^ (1075 - (1010 + b.log2)) = 8192 * 2 ^ (52 - b.log2) := by
    rw [show (8192 : Nat) = 2 ^ 13 by decide, ← Nat.pow_add]
    congr 1
    omega
  rw [e2, round_scale (by omega) (by decide)]
theorem div_fl {c a : Nat} (h0 : 0 < c) (h : c ≤ a) (h1 : a < 2 ^ 20) : Float64.div (pack false (roundMag c 8192)) (pack false (roundMag a 8192)) = pack false (roundMag c a) := by
  have na := fl_nrm (show 0 < a by omega) h1
  have nc := fl_nrm h0 (show c < 2 ^ 20 by omega)
  have hl := log2_mono h0 h
  have hla := log2_20 (show 0 < a by omega) h1
  have e1 : 1010 + a.log2 - (1010 + c.log2) = a.log2 - c.log2 := by omega
  rw [div_nrm nc na (by omega), e1, lift_pow hl hla, round_scale h0 (by omega)]
theorem mul_lt_pow {m ex : Nat} (h2 : m < 2 ^ 53) (he : ex ≤ 1022) : m < 2 ^ 52 * 2 ^ (1023 - ex) := by
  refine Nat.lt_of_lt_of_le h2 ?_
  rw [← Nat.pow_add]
  exact Nat.pow_le_pow_right (by decide) (by omega)
theorem fmod_one {Z m ex : Nat} (h : Nrm Z m ex) (he : ex ≤ 1022) : fmod (pack false Z) (pack false (1023 * 2 ^ 52)) = pack false Z := by
  have hlt := mul_lt_pow h.2.1 he
  have hd := dec_pack h
  obtain ⟨h1, h2, h3, h4, hM⟩ := h
  unfold fmod
  rw [hd, dec_pack one_nrm]
  dsimp only
  have hg : min ((ex : Int) - 1075) (((1023 : Nat) : Int) - 1075) = -((1075 - ex : Nat) : Int) := by omega
  simp only [align, hg, sgn_false]
  have e1 : ((ex : Int) - 1075 - -((1075 - ex : Nat) : Int)).toNat = 0 := by omega
  have e2 : (((1023 : Nat) : Int) - 1075 - -((1075 - ex : Nat) : Int)).toNat = 1023 - ex := by omega
  rw [e1, e2, Nat.pow_zero, Nat.mul_one, if_neg (by decide), Int.toNat_natCast, Int.toNat_natCast, Nat.mod_eq_of_lt hlt, ofBin_neg, round_repr h1 h2 h3 h4, ← hM]
theorem nz_nrm {Z m ex : Nat} (h : Nrm Z m ex) : isZero (pack false Z) = false := by
  have hp := h.pos
  unfold isZero
  rw [dec_pack h]
  cases m with
  | zero => omega
  | succ n => rfl
theorem cmp_int_lt {p q : Int} (h : p < q) : compare p q = .lt := by
  show compareOfLessAndEq p q = _
  unfold compareOfLessAndEq
  rw [if_pos h]
theorem cmp_int_eq {p : Int} : compare p p = .eq := by
  show compareOfLessAndEq p p = _
  unfold compareOfLessAndEq
  rw [if_neg (by omega), if_pos rfl]
theorem cmp_int_gt {p q : Int} (h : q < p) : compare p q = .gt := by
  show compareOfLessAndEq p q = _
  unfold compareOfLessAndEq
  rw [if_neg (by omega), if_neg (by omega)]
theorem cmp_zero {Z m ex : Nat} (h : Nrm Z m ex) : cmp (pack false Z) 0 = some .gt ∧ cmp 0 (pack false Z) = some .lt := by
  have hp := h.pos
  obtain ⟨N, hN⟩ : ∃ N : Nat, N = 1074 := ⟨_, rfl⟩
  have h3 := h.2.2.1
  unfold cmp
  rw [dec_pack h, dec_zero]
  dsimp only
  have g1 : min ((ex : Int) - 1075) (-1074) = -(N : Int) := by omega
  have g2 : min (-1074) ((ex : Int) - 1075) = -(N : Int) := by omega
  simp only [align, g1, g2, sgn_false, Nat.zero_mul]
  have hq : 0 < m * 2 ^ ((ex : Int) - 1075 - -(N : Int)).toNat := Nat.mul_pos hp (pow_pos2 _)
  exact ⟨congrArg some (cmp_int_gt (by omega)), congrArg some (cmp_int_lt (by omega))⟩
theorem lt_zero {Z m ex : Nat} (h : Nrm Z m ex) : Float64.lt (pack false Z) (zero false) = false := by
  have e : zero false = 0 := rfl
  unfold Float64.lt
  rw [e, (cmp_zero h).1]
  rfl
theorem divmod_one {Z m ex : Nat} (h : Nrm Z m ex) (he : ex ≤ 1022) : (divmod (pack false Z) (pack false (1023 * 2 ^ 52))).snd = pack false Z := by
  unfold divmod
  simp only [fmod_one h he, nz_nrm h, lt_zero h, lt_zero one_nrm, bne_self_eq_false]
  rfl
end Mine
end
section
open PySem
namespace Mine
open PySem.Float64
theorem fl_int {a : Nat} : Float64.ofFrac (decide ((a : Int) < 0) != decide ((8192 : Int) < 0)) (a : Int).natAbs (Int.natAbs 8192) = pack false (roundMag a 8192) := by
  rw [decide_eq_false (by omega), decide_eq_false (by decide), Int.natAbs_natCast]
  unfold ofFrac
  simp only [bne_self_eq_false]
  rfl
theorem hue_fl {a b X mx ex Y my ey Z mz ez : Nat} (h0 : 0 < b) (h : b < a) (h1 : a < 2 ^ 20)
    (hX : roundMag (a - b) a = X) (nX : Nrm X mx ex) (eX : ex ≤ 1022) (hY : roundMag (2 ^ 52 * 2 ^ (1023 - ex) - mx) (2 ^ (1075 - ex)) = Y) (nY : Nrm Y my ey) (eY : ey ≤ 1025)
    (hZ : roundMag my ((2 ^ 52 + 2 ^ 51) * 2 ^ (1025 - ey)) = Z) (nZ : Nrm Z mz ez) (eZ : ez ≤ 1022) :
    hueF (pack false (roundMag a 8192)) (pack false (roundMag b 8192)) = pack false Z := by
  have na := fl_nrm (show 0 < a by omega) h1
  unfold hueF
  rw [sub_zero na, div_self na, sub_fl h0 h h1, div_fl (by omega) (by omega) h1, hX, sub_nrm one_nrm nX (by omega) (mul_lt_pow nX.2.1 eX), hY, six_lit, div_nrm nY six_nrm eY, hZ, one_lit, divmod_one nZ eZ]
theorem bits_lt {e f m k c : Nat} (h3 : 1 ≤ e) (hef : e < f) (h2 : m < 2 * c) (g1 : c ≤ k) : (e - 1) * c + m < (f - 1) * c + k := by
  obtain ⟨d, rfl⟩ : ∃ d, f = e + 1 + d := ⟨f - e - 1, by omega⟩
  obtain ⟨x, rfl⟩ : ∃ x, e = x + 1 := ⟨e - 1, by omega⟩
  rw [show x + 1 - 1 = x by omega, show x + 1 + 1 + d - 1 = x + 1 + d by omega, Nat.add_mul, Nat.add_mul, Nat.one_mul]
  omega
theorem nrm_lt {M m e K k f : Nat} (h : Nrm M m e) (g : Nrm K k f) (hef : e < f) : M < K ∧ m < k * 2 ^ (f - e) := by
  obtain ⟨h1, h2, h3, h4, hM⟩ := h
  obtain ⟨g1, g2, g3, g4, hK⟩ := g
  constructor
  · rw [hM, hK]
    exact bits_lt h3 hef (Nat.lt_of_lt_of_le h2 (by decide)) g1
  · obtain ⟨j, hj⟩ : ∃ j, f - e = j + 1 := ⟨f - e - 1, by omega⟩
    rw [hj, Nat.pow_succ]
    have e3 : 2 ^ 52 * (2 ^ j * 2) ≤ k * (2 ^ j * 2) := Nat.mul_le_mul_right _ g1
    have e4 : 1 ≤ 2 ^ j := pow_pos2 j
    generalize k * (2 ^ j * 2) = K' at e3 ⊢
    generalize 2 ^ j = J at e3 e4
    omega
theorem cmp_nrm {M m e K k f : Nat} (h : Nrm M m e) (g : Nrm K k f) : cmp (pack false M) (pack false K) = some (compare (M : Int) (K : Int)) := by
  unfold cmp
  rw [dec_pack h, dec_pack g]
  dsimp only
  rcases Nat.lt_trichotomy e f with hef | rfl | hef
  · obtain ⟨q1, q2⟩ := nrm_lt h g hef
    have hg : min ((e : Int) - 1075) ((f : Int) - 1075) = (e : Int) - 1075 := by omega
    simp only [align, hg, sgn_false, Int.sub_self]
    have e1 : ((f : Int) - 1075 - ((e : Int) - 1075)).toNat = f - e := by omega
    rw [e1]
    simp only [Int.toNat_zero, Nat.pow_zero, Nat.mul_one]
    rw [cmp_int_lt (by omega), cmp_int_lt (by omega)]
  · have hMK : (M < K ↔ m < k) ∧ (M = K ↔ m = k) := by
      obtain ⟨h1, h2, h3, h4, hM⟩ := h
      obtain ⟨g1, g2, g3, g4, hK⟩ := g
      rw [hM, hK]
      generalize (e - 1) * 2 ^ 52 = z
      omega
    simp only [align, Int.min_self, sgn_false, Int.sub_self, Int.toNat_zero, Nat.pow_zero, Nat.mul_one]
    rcases Nat.lt_trichotomy m k with q | q | q
    · rw [cmp_int_lt (by omega), cmp_int_lt (by omega)]
    · have : M = K := hMK.2.mpr q
      subst q this
      rw [cmp_int_eq, cmp_int_eq]
    · rw [cmp_int_gt (by omega), cmp_int_gt (by omega)]
  · obtain ⟨q1, q2⟩ := nrm_lt g h hef
    have hg : min ((e : Int) - 1075) ((f : Int) - 1075) = (f : Int) - 1075 := by omega
    simp only [align, hg, sgn_false, Int.sub_self]
    have e1 : ((e : Int) - 1075 - ((f : Int) - 1075)).toNat = e - f := by omega
    rw [e1]
    simp only [Int.toNat_zero, Nat.pow_zero, Nat.mul_one]
    rw [cmp_int_gt (by omega), cmp_int_gt (by omega)]
theorem eq_nrm {M m e K k f : Nat} (h : Nrm M m e) (g : Nrm K k f) : (cmp (pack false M) (pack false K) == some .eq) = decide (M = K) := by
  rw [cmp_nrm h g]
  rcases Nat.lt_trichotomy M K with q | q | q
  · rw [cmp_int_lt (by omega), decide_eq_false (by omega)]; rfl
  · subst q; rw [cmp_int_eq, decide_eq_true rfl]; rfl
  · rw [cmp_int_gt (by omega), decide_eq_false (by omega)]; rfl
theorem lt_nrm {M m e K k f : Nat} (h : Nrm M m e) (g : Nrm K k f) : (cmp (pack false M) (pack false K) == some .lt) = decide (M < K) := by
  rw [cmp_nrm h g]
  rcases Nat.lt_trichotomy M K with q | q | q
  · rw [cmp_int_lt (by omega), decide_eq_true q]; rfl
  · subst q; rw [cmp_int_eq, decide_eq_false (by omega)]; rfl
  · rw [cmp_int_gt (by omega), decide_eq_false (by omega)]; rfl
theorem fl_mono {a b : Nat} (h0 : 0 < b) (h : b ≤ a) (h1 : a < 2 ^ 20) : roundMag b 8192 ≤ roundMag a 8192 := by
  have na := fl_nrm (show 0 < a by omega) h1
  have nb := fl_nrm h0 (show b < 2 ^ 20 by omega)
  have hl := log2_mono h0 h
  rcases Nat.lt_or_ge b.log2 a.log2 with q | q
  · exact Nat.le_of_lt (nrm_lt nb na (by omega)).1
  · have e : b.log2 = a.log2 := Nat.le_antisymm hl q
    rw [na.2.2.2.2, nb.2.2.2.2, e]
    exact Nat.add_le_add_left (Nat.mul_le_mul_right _ h) _
theorem inf_nrm {M m e : Nat} (h : Nrm M m e) : isInf (pack false M) = false := by
  unfold isInf
  rw [dec_pack h]
theorem hueOk_fl {a b : Nat} (h0 : 0 < b) (h : b ≤ a) (h1 : a < 2 ^ 20) : HueOk (pack false (roundMag a 8192)) (pack false (roundMag b 8192)) := by
  have na := fl_nrm (show 0 < a by omega) h1
  have nb := fl_nrm h0 (show b < 2 ^ 20 by omega)
  have hm := fl_mono h0 h h1
  refine ⟨?_, ?_, ?_, ?_, ?_, nz_nrm na, ?_, ?_⟩
  · rw [lt_nrm na nb]; exact decide_eq_false (by omega)
  · rw [(cmp_zero na).1]; rfl
  · rw [(cmp_zero nb).2]; rfl
  · rw [(cmp_zero na).2]; rfl
  · rw [(cmp_zero na).2]; rfl
  · rw [sub_zero na]; exact nz_nrm na
  · rw [eq_nrm na na]; exact decide_eq_true rfl
end Mine
end
section
open PySem
namespace Mine
open PySem.Float64
/-- the value first, then the rest: the kernel holds a figure -/
noncomputable def nf {α : Sort _} (n : Nat) (k : Nat → α) : α := match n with
  | 0 => k 0
  | m + 1 => k (m + 1)
theorem nf_eq {α : Sort _} (n : Nat) (k : Nat → α) : nf n k = k n := by cases n <;> rfl
noncomputable def halfB (q r d : Nat) : Nat := bif Nat.blt d (2 * r) then q + 1 else bif Nat.beq (2 * r) d && Nat.beq (q % 2) 1 then q + 1 else q
theorem halfB_eq (x d : Nat) : halfB (x / d) (x % d) d = halfEven x d := by
  unfold halfB halfEven
  dsimp only
  have e1 : Nat.blt d (2 * (x % d)) = decide (2 * (x % d) > d) := by
    rw [Bool.eq_iff_iff, Nat.blt_eq, decide_eq_true_iff]
  have e2 : ∀ a b : Nat, Nat.beq a b = (a == b) := fun a b => by rw [Bool.eq_iff_iff, beq_iff_eq]; exact ⟨Nat.eq_of_beq_eq_true, fun e => e ▸ Nat.beq_refl _⟩
  rw [e1, e2, e2]
  cases decide (2 * (x % d) > d) <;> cases (2 * (x % d) == d) <;> cases (x / d % 2 == 1) <;> rfl
/-- a quotient below one, rounded; none where it is out of reach -/
noncomputable def rnd (n d : Nat) : Option Nat := nf n fun n => nf d fun d =>
  bif Nat.blt 0 n && Nat.blt n d then
    nf (d.log2 - n.log2) fun l =>
    nf (bif Nat.ble d (n * 2 ^ l) then 52 + l else 53 + l) fun sh =>
    nf (n * 2 ^ sh) fun x => nf (x / d) fun q => nf (x % d) fun r =>
    nf ((1074 - sh) * 2 ^ 52 + halfB q r d) fun z =>
    bif Nat.ble l 1000 && Nat.ble (2 ^ 52) z && Nat.blt z (1075 * 2 ^ 52) then some z else none
  else none
theorem rnd_ok {n d z : Nat} (h : rnd n d = some z) : 0 < n ∧ roundMag n d = z ∧ Nrm z (2 ^ 52 + z % 2 ^ 52) (z / 2 ^ 52) := by
  unfold rnd at h
  simp only [nf_eq, halfB_eq] at h
  cases hc : (Nat.blt 0 n && Nat.blt n d) with
  | false => rw [hc] at h; cases h
  | true =>
    rw [hc] at h
    simp only [cond_true] at h
    simp only [Bool.and_eq_true, Nat.blt_eq] at hc
    obtain ⟨h0, h1⟩ := hc
    generalize hl : d.log2 - n.log2 = l at h
    generalize hsh : (bif Nat.ble d (n * 2 ^ l) then 52 + l else 53 + l) = sh at h
    generalize hz : (1074 - sh) * 2 ^ 52 + halfEven (n * 2 ^ sh) d = y at h
    cases hg : (Nat.ble l 1000 && Nat.ble (2 ^ 52) y && Nat.blt y (1075 * 2 ^ 52)) with
    | false => rw [hg] at h; cases h
    | true =>
      rw [hg] at h
      simp only [cond_true, Option.some.injEq] at h
      subst h
      simp only [Bool.and_eq_true, Nat.blt_eq, Nat.ble_eq] at hg
      obtain ⟨⟨g1, g2⟩, g3⟩ := hg
      refine ⟨h0, ?_, Nrm.of g2 g3⟩
      have hlog := log2_mono h0 (Nat.le_of_lt h1)
      have hn0 : (n == 0) = false := beq_eq_false_iff_ne.mpr (Nat.ne_of_gt h0)
      unfold roundMag
      rw [hn0]
      simp only [Bool.false_eq_true, if_false]
      have el : (n.log2 : Int) - (d.log2 : Int) = -(l : Int) := by omega
      rw [el, Int.neg_neg, shift_up]
      dsimp only
      have esh : max (if n * 2 ^ l ≥ d then -(l : Int) - 52 else -(l : Int) - 53) (-1074) = -(sh : Int) := by
        cases hb : Nat.ble d (n * 2 ^ l) with
        | true => rw [hb] at hsh; rw [if_pos (Nat.le_of_ble_eq_true hb)]; simp only [cond_true] at hsh; omega
        | false =>
          rw [hb] at hsh
          rw [if_neg (fun q => by rw [Nat.ble_eq_true_of_le q] at hb; cases hb)]
          simp only [cond_false] at hsh; omega
      rw [esh, Int.neg_neg, shift_up]
      dsimp only
      have e1 : (-(sh : Int) + 1074).toNat = 1074 - sh := by omega
      rw [e1, hz]
      exact Nat.min_eq_right (Nat.le_of_lt (Nat.lt_of_lt_of_le g3 (by decide)))
noncomputable def hue11 : Nat := 4595172819793696085
theorem hue11_ok : hueF (pack false (roundMag 1 8192)) (pack false (roundMag 1 8192)) = pack false hue11 := by decide +kernel
/-- the hue of a light -/
noncomputable def hueN (a b : Nat) : Option Nat :=
  bif Nat.beq a 1 && Nat.beq b 1 then some hue11 else
  bif Nat.blt 0 b && Nat.blt b a && Nat.blt a 1048576 then
    match rnd (a - b) a with
    | none => none
    | some X => nf (X / 2 ^ 52) fun ex =>
      bif Nat.ble ex 1022 then
        match rnd (2 ^ 52 * 2 ^ (1023 - ex) - (2 ^ 52 + X % 2 ^ 52)) (2 ^ (1075 - ex)) with
        | none => none
        | some Y => nf (Y / 2 ^ 52) fun ey =>
          bif Nat.ble ey 1025 then
            match rnd (2 ^ 52 + Y % 2 ^ 52) ((2 ^ 52 + 2 ^ 51) * 2 ^ (1025 - ey)) with
            | none => none
            | some Z => bif Nat.ble (Z / 2 ^ 52) 1022 then some Z else none
          else none
      else none
  else none
theorem hueN_ok {a b z : Nat} (h : hueN a b = some z) : 0 < b ∧ b ≤ a ∧ a < 2 ^ 20 ∧ hueF (pack false (roundMag a 8192)) (pack false (roundMag b 8192)) = pack false z ∧ Nrm z (2 ^ 52 + z % 2 ^ 52) (z / 2 ^ 52) := by
  unfold hueN at h
  simp only [nf_eq] at h
  cases h11 : (Nat.beq a 1 && Nat.beq b 1) with
  | true =>
    rw [h11] at h
    simp only [cond_true, Option.some.injEq] at h
    simp only [Bool.and_eq_true] at h11
    have ea := Nat.eq_of_beq_eq_true h11.1
    have eb := Nat.eq_of_beq_eq_true h11.2
    subst h ea eb
    exact ⟨by decide, by decide, by decide, hue11_ok, Nrm.of (by decide) (by decide)⟩
  | false =>
    rw [h11] at h
    simp only [cond_false] at h
    cases hc : (Nat.blt 0 b && Nat.blt b a && Nat.blt a 1048576) with
    | false => rw [hc] at h; cases h
    | true =>
      rw [hc] at h
      simp only [cond_true] at h
      simp only [Bool.and_eq_true, Nat.blt_eq] at hc
      obtain ⟨⟨c1, c2⟩, c3⟩ := hc
      cases hX : rnd (a - b) a with
      | none => rw [hX] at h; cases h
      | some X =>
        rw [hX] at h
        dsimp only at h
        cases gx : Nat.ble (X / 2 ^ 52) 1022 with
        | false => rw [gx] at h; cases h
        | true =>
          rw [gx] at h
          simp only [cond_true] at h
          cases hY : rnd (2 ^ 52 * 2 ^ (1023 - X / 2 ^ 52) - (2 ^ 52 + X % 2 ^ 52)) (2 ^ (1075 - X / 2 ^ 52)) with
          | none => rw [hY] at h; cases h
          | some Y =>
            rw [hY] at h
            dsimp only at h
            cases gy : Nat.ble (Y / 2 ^ 52) 1025 with
            | false => rw [gy] at h; cases h
            | true =>
              rw [gy] at h
              simp only [cond_true] at h
              cases hZ : rnd (2 ^ 52 + Y % 2 ^ 52) ((2 ^ 52 + 2 ^ 51) * 2 ^ (1025 - Y / 2 ^ 52)) with
              | none => rw [hZ] at h; cases h
              | some Z =>
                rw [hZ] at h
                dsimp only at h
                cases gz : Nat.ble (Z / 2 ^ 52) 1022 with
                | false => rw [gz] at h; cases h
                | true =>
                  rw [gz] at h
                  simp only [cond_true, Option.some.injEq] at h
                  subst h
                  obtain ⟨_, rX, nX⟩ := rnd_ok hX
                  obtain ⟨_, rY, nY⟩ := rnd_ok hY
                  obtain ⟨_, rZ, nZ⟩ := rnd_ok hZ
                  exact ⟨c1, Nat.le_of_lt c2, c3, hue_fl c1 c2 c3 rX nX (Nat.le_of_ble_eq_true gx) rY nY (Nat.le_of_ble_eq_true gy) rZ nZ (Nat.le_of_ble_eq_true gz), nZ⟩
end Mine
end
section
open PySem
namespace Mine
open PySem.Float64
/-- the ladder, with the goal's hue as its bits -/
noncomputable def ladN : Nat → Nat → Nat → Nat → Nat → Nat → Nat → Nat → Nat → Nat → Option (Nat × Nat)
  | 0, _, _, _, _, _, _, _, _, _ => none
  | n + 1, gl, a1, b1, s1, w1, a2, b2, s2, w2 =>
    nf (a1 + a2) fun a => nf (b1 + b2) fun b =>
    match hueN a b with
    | none => none
    | some h =>
      nf (1 + bif Nat.blt s2 s1 then s2 else s1) fun s =>
      nf ((bif Nat.blt s1 s then w1 else 0) + (bif Nat.blt s2 s then w2 else 0)) fun w =>
      bif Nat.beq h gl then some (s, w) else
      bif Nat.blt h gl then ladN n gl a1 b1 s1 w1 a b s w else ladN n gl a b s w a2 b2 s2 w2
theorem beq_dec (a b : Nat) : Nat.beq a b = decide (a = b) := by
  rw [Bool.eq_iff_iff, decide_eq_true_iff]; exact ⟨Nat.eq_of_beq_eq_true, fun e => e ▸ Nat.beq_refl _⟩
theorem blt_dec (a b : Nat) : Nat.blt a b = decide (a < b) := by rw [Bool.eq_iff_iff, decide_eq_true_iff, Nat.blt_eq]
theorem cond_dec {α : Type} {p : Prop} [Decidable p] (x y : α) : (bif decide p then x else y) = if p then x else y := by
  by_cases h : p
  · rw [decide_eq_true h, if_pos h]; rfl
  · rw [decide_eq_false h, if_neg h]; rfl
theorem hueOkB_of {r g : UInt64} (h : HueOk r g) : hueOkB r g = true := by
  unfold hueOkB
  rw [h.rg, h.r0, h.g0, h.lt, h.ne, h.z, h.zs, h.rr]
  rfl
theorem step_cast (s1 s2 : Nat) : (1 + (if (s2 : Int) < (s1 : Int) then (s2 : Int) else (s1 : Int))) = ((1 + (if s2 < s1 then s2 else s1) : Nat) : Int) := by
  by_cases h : s2 < s1
  · rw [if_pos h, if_pos (by omega)]; omega
  · rw [if_neg h, if_neg (by omega)]; omega
theorem ways_cast (s1 s2 s w1 w2 : Nat) : ((if (s1 : Int) < (s : Int) then (w1 : Int) else 0) + (if (s2 : Int) < (s : Int) then (w2 : Int) else 0)) = (((if s1 < s then w1 else 0) + (if s2 < s then w2 else 0) : Nat) : Int) := by
  by_cases h1 : s1 < s
  · rw [if_pos h1, if_pos (by omega)]
    by_cases h2 : s2 < s
    · rw [if_pos h2, if_pos (by omega)]; omega
    · rw [if_neg h2, if_neg (by omega)]; omega
  · rw [if_neg h1, if_neg (by omega)]
    by_cases h2 : s2 < s
    · rw [if_pos h2, if_pos (by omega)]; omega
    · rw [if_neg h2, if_neg (by omega)]; omega
theorem ladN_ok {gl mg eg : Nat} (ng : Nrm gl mg eg) {x y : Nat} : ∀ (n a1 b1 s1 w1 a2 b2 s2 w2 : Nat), ladN n gl a1 b1 s1 w1 a2 b2 s2 w2 = some (x, y) →
    ladF n (pack false gl) ⟨a1, b1, s1, w1, a2, b2, s2, w2⟩ = some ((x : Int), (y : Int))
  | 0, _, _, _, _, _, _, _, _, h => by cases h
  | n + 1, a1, b1, s1, w1, a2, b2, s2, w2, h => by
    unfold ladN at h
    simp only [nf_eq] at h
    cases hh : hueN (a1 + a2) (b1 + b2) with
    | none => rw [hh] at h; cases h
    | some z =>
      rw [hh] at h
      simp only [beq_dec, blt_dec, cond_dec] at h
      obtain ⟨c1, c2, c3, c4, c5⟩ := hueN_ok hh
      have na := fl_nrm (show 0 < a1 + a2 by omega) c3
      have nb := fl_nrm c1 (show b1 + b2 < 2 ^ 20 by omega)
      unfold ladF
      simp only [← Int.natCast_add, fl_int, inf_nrm na, inf_nrm nb, hueOkB_of (hueOk_fl c1 c2 c3), and_self, if_true, c4, eq_nrm c5 ng, lt_nrm c5 ng, decide_eq_true_eq, step_cast, ways_cast]
      generalize (1 + if s2 < s1 then s2 else s1) = s at h ⊢
      generalize ((if s1 < s then w1 else 0) + (if s2 < s then w2 else 0)) = w at h ⊢
      by_cases q1 : z = gl
      · rw [if_pos q1] at h ⊢
        cases h
        rfl
      · rw [if_neg q1] at h ⊢
        by_cases q2 : z < gl
        · rw [if_pos q2] at h ⊢
          exact ladN_ok ng n _ _ _ _ _ _ _ _ h
        · rw [if_neg q2] at h ⊢
          exact ladN_ok ng n _ _ _ _ _ _ _ _ h
/-- the ladder's answer for a fraction -/
noncomputable def ladG (u l : Nat) : Option (Nat × Nat) := match hueN u l with
  | none => none
  | some gl => ladN 60 gl 0 1 1 1 1 0 0 1
end Mine
end
section
open PySem
namespace Mine
noncomputable section
/-- as nf, by the bare recursor: fewer steps for the kernel -/
noncomputable def nr {α : Type} (n : Nat) (k : Nat → α) : α := @Nat.rec (fun _ => α) (k Nat.zero) (fun m _ => k (Nat.succ m)) n
theorem nr_eq {α : Type} (n : Nat) (k : Nat → α) : nr n k = k n := by cases n <;> rfl
noncomputable def cb {α : Type} (b : Bool) (x y : α) : α := @Bool.rec (fun _ => α) y x b
theorem cb_eq {α : Type} (b : Bool) (x y : α) : cb b x y = bif b then x else y := by cases b <;> rfl
theorem cb_and {α : Type} (a b : Bool) (x y : α) : cb a (cb b x y) y = cb (a && b) x y := by cases a <;> cases b <;> rfl
noncomputable def halfR (q r d : Nat) : Nat := cb (Nat.ble (Nat.succ d) (Nat.mul 2 r)) (Nat.succ q) (cb (Nat.beq (Nat.mul 2 r) d) (cb (Nat.beq (Nat.mod q 2) 1) (Nat.succ q) q) q)
theorem halfR_eq (q r d : Nat) : halfR q r d = halfB q r d := by
  unfold halfR halfB
  rw [cb_and, cb_eq, cb_eq]
  rfl
noncomputable def rndR {α : Type} (n d : Nat) (no : α) (k : Nat → α) : α := nr n fun n => nr d fun d =>
  cb (Nat.ble 1 n) (cb (Nat.ble (Nat.succ n) d) (
    nr (Nat.sub (Nat.log2 d) (Nat.log2 n)) fun l =>
    nr (cb (Nat.ble d (Nat.mul n (Nat.pow 2 l))) (Nat.add 52 l) (Nat.add 53 l)) fun sh =>
    nr (Nat.mul n (Nat.pow 2 sh)) fun x => nr (Nat.div x d) fun q => nr (Nat.mod x d) fun r =>
    nr (Nat.add (Nat.mul (Nat.sub 1074 sh) 4503599627370496) (halfR q r d)) fun z =>
    cb (Nat.ble l 1000) (cb (Nat.ble 4503599627370496 z) (cb (Nat.ble (Nat.succ z) 4841369599423283200) (k z) no) no) no)
   no) no
theorem rndR_some {α : Type} (n d : Nat) (no : α) (k : Nat → α) : rndR n d no k = no ∨ ∃ z, rnd n d = some z ∧ rndR n d no k = k z := by
  unfold rndR
  simp only [nr_eq, halfR_eq]
  generalize hs : cb (Nat.ble d (Nat.mul n (Nat.pow 2 (Nat.sub (Nat.log2 d) (Nat.log2 n))))) (Nat.add 52 (Nat.sub (Nat.log2 d) (Nat.log2 n))) (Nat.add 53 (Nat.sub (Nat.log2 d) (Nat.log2 n))) = sh
  have hs : (bif Nat.ble d (n * 2 ^ (d.log2 - n.log2)) then 52 + (d.log2 - n.log2) else 53 + (d.log2 - n.log2)) = sh := by rw [cb_eq] at hs; exact hs
  generalize hz : Nat.add (Nat.mul (Nat.sub 1074 sh) 4503599627370496) (halfB (Nat.div (Nat.mul n (Nat.pow 2 sh)) d) (Nat.mod (Nat.mul n (Nat.pow 2 sh)) d) d) = z
  have hz : (1074 - sh) * 2 ^ 52 + halfB (n * 2 ^ sh / d) (n * 2 ^ sh % d) d = z := hz
  cases h1 : Nat.ble 1 n
  · exact .inl rfl
  cases h2 : Nat.ble (Nat.succ n) d
  · exact .inl rfl
  cases h3 : Nat.ble (Nat.sub (Nat.log2 d) (Nat.log2 n)) 1000
  · exact .inl rfl
  cases h4 : Nat.ble 4503599627370496 z
  · exact .inl rfl
  cases h5 : Nat.ble (Nat.succ z) 4841369599423283200
  · exact .inl rfl
  refine .inr ⟨z, ?_, rfl⟩
  have h1 : Nat.blt 0 n = true := h1
  have h2 : Nat.blt n d = true := h2
  have h3 : Nat.ble (d.log2 - n.log2) 1000 = true := h3
  have h4 : Nat.ble (2 ^ 52) z = true := h4
  have h5 : Nat.blt z (1075 * 2 ^ 52) = true := h5
  unfold rnd
  simp only [nf_eq]
  rw [h1, h2, hs, hz, h3, h4, h5]
  rfl
noncomputable def hueR {α : Type} (a b : Nat) (no : α) (k : Nat → α) : α :=
  cb (Nat.beq a 1) (cb (Nat.beq b 1) (k hue11) no) (
  cb (Nat.ble 1 b) (cb (Nat.ble (Nat.succ b) a) (cb (Nat.ble (Nat.succ a) 1048576) (
    rndR (Nat.sub a b) a no fun X => nr (Nat.div X 4503599627370496) fun ex =>
      cb (Nat.ble ex 1022) (
        rndR (Nat.sub (Nat.mul 4503599627370496 (Nat.pow 2 (Nat.sub 1023 ex))) (Nat.add 4503599627370496 (Nat.mod X 4503599627370496))) (Nat.pow 2 (Nat.sub 1075 ex)) no fun Y => nr (Nat.div Y 4503599627370496) fun ey =>
          cb (Nat.ble ey 1025) (
            rndR (Nat.add 4503599627370496 (Nat.mod Y 4503599627370496)) (Nat.mul 6755399441055744 (Nat.pow 2 (Nat.sub 1025 ey))) no fun Z => cb (Nat.ble (Nat.div Z 4503599627370496) 1022) (k Z) no) no) no) no) no) no)
theorem hueR_some {α : Type} (a b : Nat) (no : α) (k : Nat → α) : hueR a b no k = no ∨ ∃ z, hueN a b = some z ∧ hueR a b no k = k z := by
  unfold hueR
  simp only [nr_eq]
  cases h1 : Nat.beq a 1
  · cases h3 : Nat.ble 1 b
    · exact .inl rfl
    cases h4 : Nat.ble (Nat.succ b) a
    · exact .inl rfl
    cases h5 : Nat.ble (Nat.succ a) 1048576
    · exact .inl rfl
    show rndR _ _ _ _ = _ ∨ ∃ z, _ ∧ rndR _ _ _ _ = _
    rcases rndR_some (Nat.sub a b) a no _ with q | ⟨X, hX, q⟩
    · exact .inl q
    rw [q]
    cases h6 : Nat.ble (Nat.div X 4503599627370496) 1022
    · exact .inl rfl
    show rndR _ _ _ _ = _ ∨ ∃ z, _ ∧ rndR _ _ _ _ = _
    rcases rndR_some (Nat.sub (Nat.mul 4503599627370496 (Nat.pow 2 (Nat.sub 1023 (Nat.div X 4503599627370496)))) (Nat.add 4503599627370496 (Nat.mod X 4503599627370496))) (Nat.pow 2 (Nat.sub 1075 (Nat.div X 4503599627370496))) no _ with q | ⟨Y, hY, q⟩
    · exact .inl q
    rw [q]
    cases h7 : Nat.ble (Nat.div Y 4503599627370496) 1025
    · exact .inl rfl
    show rndR _ _ _ _ = _ ∨ ∃ z, _ ∧ rndR _ _ _ _ = _
    rcases rndR_some (Nat.add 4503599627370496 (Nat.mod Y 4503599627370496)) (Nat.mul 6755399441055744 (Nat.pow 2 (Nat.sub 1025 (Nat.div Y 4503599627370496)))) no _ with q | ⟨Z, hZ, q⟩
    · exact .inl q
    rw [q]
    cases h8 : Nat.ble (Nat.div Z 4503599627370496) 1022
    · exact .inl rfl
    refine .inr ⟨Z, ?_, rfl⟩
    have hX : rnd (a - b) a = some X := hX
    have hY : rnd (2 ^ 52 * 2 ^ (1023 - X / 2 ^ 52) - (2 ^ 52 + X % 2 ^ 52)) (2 ^ (1075 - X / 2 ^ 52)) = some Y := hY
    have hZ : rnd (2 ^ 52 + Y % 2 ^ 52) ((2 ^ 52 + 2 ^ 51) * 2 ^ (1025 - Y / 2 ^ 52)) = some Z := hZ
    have h3 : Nat.blt 0 b = true := h3
    have h4 : Nat.blt b a = true := h4
    have h5 : Nat.blt a 1048576 = true := h5
    have h6 : Nat.ble (X / 2 ^ 52) 1022 = true := h6
    have h7 : Nat.ble (Y / 2 ^ 52) 1025 = true := h7
    have h8 : Nat.ble (Z / 2 ^ 52) 1022 = true := h8
    unfold hueN
    simp only [nf_eq, h1, h3, h4, h5, hX, h6, hY, h7, hZ, h8, Bool.false_and, cond_false, Bool.and_self, cond_true]
  · cases h2 : Nat.beq b 1
    · exact .inl rfl
    · refine .inr ⟨hue11, ?_, rfl⟩
      unfold hueN
      rw [h1, h2]
      rfl
noncomputable def ladR {α : Type} (gl : Nat) (no : α) (k : Nat → Nat → α) : Nat → Nat → Nat → Nat → Nat → Nat → Nat → Nat → Nat → α := fun n => @Nat.rec (fun _ => Nat → Nat → Nat → Nat → Nat → Nat → Nat → Nat → α) (fun _ _ _ _ _ _ _ _ => no)
  (fun _ ih a1 b1 s1 w1 a2 b2 s2 w2 => nr (Nat.add a1 a2) fun a => nr (Nat.add b1 b2) fun b => hueR a b no fun h =>
    nr (Nat.succ (cb (Nat.ble (Nat.succ s2) s1) s2 s1)) fun s => nr (Nat.add (cb (Nat.ble (Nat.succ s1) s) w1 0) (cb (Nat.ble (Nat.succ s2) s) w2 0)) fun w =>
    cb (Nat.beq h gl) (k s w) (cb (Nat.ble (Nat.succ h) gl) (ih a1 b1 s1 w1 a b s w) (ih a b s w a2 b2 s2 w2))) n
theorem ladR_some {α : Type} {gl : Nat} {no : α} {k : Nat → Nat → α} : ∀ (n a1 b1 s1 w1 a2 b2 s2 w2 : Nat), ladR gl no k n a1 b1 s1 w1 a2 b2 s2 w2 = no ∨ ∃ x y, ladN n gl a1 b1 s1 w1 a2 b2 s2 w2 = some (x, y) ∧ ladR gl no k n a1 b1 s1 w1 a2 b2 s2 w2 = k x y
  | 0, _, _, _, _, _, _, _, _ => .inl rfl
  | n + 1, a1, b1, s1, w1, a2, b2, s2, w2 => by
    show (nr (Nat.add a1 a2) fun a => nr (Nat.add b1 b2) fun b => hueR a b no fun h =>
      nr (Nat.succ (cb (Nat.ble (Nat.succ s2) s1) s2 s1)) fun s => nr (Nat.add (cb (Nat.ble (Nat.succ s1) s) w1 0) (cb (Nat.ble (Nat.succ s2) s) w2 0)) fun w =>
      cb (Nat.beq h gl) (k s w) (cb (Nat.ble (Nat.succ h) gl) (ladR gl no k n a1 b1 s1 w1 a b s w) (ladR gl no k n a b s w a2 b2 s2 w2))) = no ∨ ∃ x y, _ ∧ (nr (Nat.add a1 a2) fun a => nr (Nat.add b1 b2) fun b => hueR a b no fun h =>
      nr (Nat.succ (cb (Nat.ble (Nat.succ s2) s1) s2 s1)) fun s => nr (Nat.add (cb (Nat.ble (Nat.succ s1) s) w1 0) (cb (Nat.ble (Nat.succ s2) s) w2 0)) fun w =>
      cb (Nat.beq h gl) (k s w) (cb (Nat.ble (Nat.succ h) gl) (ladR gl no k n a1 b1 s1 w1 a b s w) (ladR gl no k n a b s w a2 b2 s2 w2))) = k x y
    simp only [nr_eq]
    rcases hueR_some (Nat.add a1 a2) (Nat.add b1 b2) no _ with q | ⟨h, hh, q⟩
    · exact .inl q
    rw [q]
    have hh : hueN (a1 + a2) (b1 + b2) = some h := hh
    unfold ladN
    simp only [nf_eq, hh]
    generalize hs : Nat.succ (cb (Nat.ble (Nat.succ s2) s1) s2 s1) = s
    have hs : 1 + (bif Nat.blt s2 s1 then s2 else s1) = s := by rw [← hs, cb_eq, Nat.add_comm]; rfl
    generalize hw : Nat.add (cb (Nat.ble (Nat.succ s1) s) w1 0) (cb (Nat.ble (Nat.succ s2) s) w2 0) = w
    have hw : (bif Nat.blt s1 s then w1 else 0) + (bif Nat.blt s2 s then w2 else 0) = w := by rw [← hw, cb_eq, cb_eq]; rfl
    rw [hs, hw]
    cases h1 : Nat.beq h gl
    · cases h2 : Nat.ble (Nat.succ h) gl
      · have h2 : Nat.blt h gl = false := h2
        rw [h2]
        exact ladR_some n (Nat.add a1 a2) (Nat.add b1 b2) s w a2 b2 s2 w2
      · have h2 : Nat.blt h gl = true := h2
        rw [h2]
        exact ladR_some n a1 b1 s1 w1 (Nat.add a1 a2) (Nat.add b1 b2) s w
    · exact .inr ⟨s, w, rfl, rfl⟩
noncomputable def ladC (u l x y : Nat) : Bool := hueR u l false fun gl => ladR gl false (fun s w => cb (Nat.beq s x) (Nat.beq w y) false) 60 0 1 1 1 1 0 0 1
theorem ladC_ok {u l x y : Nat} (h : ladC u l x y = true) : ∃ gl, hueN u l = some gl ∧ ladN 60 gl 0 1 1 1 1 0 0 1 = some (x, y) := by
  unfold ladC at h
  rcases hueR_some u l false (fun gl => ladR gl false (fun s w => cb (Nat.beq s x) (Nat.beq w y) false) 60 0 1 1 1 1 0 0 1) with q | ⟨gl, hg, q⟩
  · rw [q] at h; cases h
  rw [q] at h
  refine ⟨gl, hg, ?_⟩
  rcases ladR_some (gl := gl) (no := false) (k := fun s w => cb (Nat.beq s x) (Nat.beq w y) false) 60 0 1 1 1 1 0 0 1 with q | ⟨s, w, hn, q⟩
  · rw [q] at h; cases h
  rw [q] at h
  cases h1 : Nat.beq s x
  · rw [h1] at h; cases h
  · rw [h1] at h
    have h : Nat.beq w y = true := h
    rw [hn, Nat.eq_of_beq_eq_true h1, Nat.eq_of_beq_eq_true h]
end
end Mine
end
section
open PySem
namespace Mine
noncomputable section
/-- one round of the waiting pairs, offsets struck -/
noncomputable def stepR {α : Type} (ps : List (Nat × Nat)) : (Nat → List (Nat × Nat) → α) → α := @List.rec (Nat × Nat) (fun _ => (Nat → List (Nat × Nat) → α) → α) (fun k => k 0 [])
  (fun p _ ih k => nr p.2 fun y => nr (Nat.mod p.1 y) fun m => ih fun e l => cb (Nat.beq m 0) (k (Nat.succ e) l) (nr (Nat.sub y m) fun d => k e ((y, m) :: (y, d) :: l))) ps
noncomputable def stepL : List (Nat × Nat) → Nat × List (Nat × Nat)
  | [] => (0, [])
  | (x, y) :: r => if x % y = 0 then ((stepL r).1 + 1, (stepL r).2) else ((stepL r).1, (y, x % y) :: (y, y - x % y) :: (stepL r).2)
theorem stepR_eq {α : Type} : ∀ (ps : List (Nat × Nat)) (k : Nat → List (Nat × Nat) → α), stepR ps k = k (stepL ps).1 (stepL ps).2
  | [], _ => rfl
  | (x, y) :: r, k => by
    show (nr y fun y => nr (Nat.mod x y) fun m => stepR r fun e l => cb (Nat.beq m 0) (k (Nat.succ e) l) (nr (Nat.sub y m) fun d => k e ((y, m) :: (y, d) :: l))) = _
    simp only [nr_eq]
    rw [stepR_eq r]
    simp only [nr_eq, cb_eq, stepL]
    have e : Nat.mod x y = x % y := rfl
    rw [e, beq_dec, cond_dec]
    by_cases h : x % y = 0
    · rw [if_pos h, if_pos h]
    · rw [if_neg h, if_neg h]; rfl
noncomputable def code (p : Nat × Nat) : Nat × Nat := (48 + p.1, 48 + p.2)
theorem stepL_ok : ∀ (ps : List (Nat × Nat)) (e0 : Nat) (l0 : List (Nat × Nat)), (∀ p ∈ ps, 0 < p.2) → (ps.map code).foldl pairStep (e0, l0) = (e0 + (stepL ps).1, l0 ++ (stepL ps).2.map code) ∧ ∀ p ∈ (stepL ps).2, 0 < p.2
  | [], e0, l0, _ => ⟨by simp [stepL], fun _ h => nomatch h⟩
  | (x, y) :: r, e0, l0, hp => by
    have hy : 0 < y := hp _ List.mem_cons_self
    have hr : ∀ p ∈ r, 0 < p.2 := fun p h => hp p (List.mem_cons_of_mem _ h)
    have e1 : (48 + x - 48) % (48 + y - 48) = x % y := by rw [Nat.add_sub_cancel_left, Nat.add_sub_cancel_left]
    have hlt := Nat.mod_lt x hy
    rw [List.map_cons, List.foldl_cons]
    unfold pairStep
    simp only [code, e1, stepL]
    by_cases h : x % y = 0
    · simp only [if_pos h]
      obtain ⟨q1, q2⟩ := stepL_ok r (e0 + 1) l0 hr
      refine ⟨?_, q2⟩
      have q1 : (r.map code).foldl pairStep (e0 + 1, l0) = _ := q1
      refine q1.trans ?_
      rw [show e0 + 1 + (stepL r).1 = e0 + ((stepL r).1 + 1) by omega]
    · simp only [if_neg h]
      obtain ⟨q1, q2⟩ := stepL_ok r e0 (l0 ++ [(48 + y, 48 + x % y), (48 + y, 48 + (48 + y - 48) - x % y)]) hr
      refine ⟨?_, ?_⟩
      · refine q1.trans ?_
        rw [List.append_assoc, show 48 + (48 + y - 48) - x % y = 48 + (y - x % y) by omega]
        rfl
      · intro p hm
        simp only [List.mem_cons] at hm
        rcases hm with rfl | rfl | hm
        · exact Nat.pos_of_ne_zero h
        · exact Nat.sub_pos_of_lt hlt
        · exact q2 p hm
theorem stepL_len : ∀ ps : List (Nat × Nat), (stepL ps).2.length ≤ 2 * ps.length
  | [] => Nat.le_refl _
  | (x, y) :: r => by
    have := stepL_len r
    simp only [stepL]
    split
    · dsimp only [List.length_cons]; omega
    · simp only [List.length_cons]; omega
noncomputable def fewR {α : Type} (no : α) (k : Nat → Nat → α) (n : Nat) : Nat → List (Nat × Nat) → α := @Nat.rec (fun _ => Nat → List (Nat × Nat) → α) (fun _ _ => no)
  (fun _ ih r ps => stepR ps fun e l => nr e fun e => cb (Nat.beq e 0) (ih (Nat.succ r) l) (k (Nat.succ r) e)) n
theorem fewR_some {α : Type} {no : α} {k : Nat → Nat → α} : ∀ (n r : Nat) (ps : List (Nat × Nat)), ps.length * 2 ^ n ≤ 1000 → (∀ p ∈ ps, 0 < p.2) → fewR no k n r ps = no ∨ ∃ x y : Nat, fewF n r (ps.map code) = some ((x : Int), (y : Int)) ∧ fewR no k n r ps = k x y
  | 0, _, _, _, _ => .inl rfl
  | n + 1, r, ps, hl, hp => by
    show (stepR ps fun e l => nr e fun e => cb (Nat.beq e 0) (fewR no k n (Nat.succ r) l) (k (Nat.succ r) e)) = no ∨ ∃ x y : Nat, _ ∧ (stepR ps fun e l => nr e fun e => cb (Nat.beq e 0) (fewR no k n (Nat.succ r) l) (k (Nat.succ r) e)) = k x y
    rw [stepR_eq, nr_eq, cb_eq, beq_dec, cond_dec]
    obtain ⟨q1, q2⟩ := stepL_ok ps 0 [] hp
    rw [Nat.zero_add, List.nil_append] at q1
    have h1000 : (ps.map code).length ≤ 1000 := by
      rw [List.length_map]
      exact Nat.le_trans (Nat.le_mul_of_pos_right _ (pow_pos2 _)) hl
    unfold fewF
    rw [if_pos h1000, q1]
    dsimp only
    by_cases h : (stepL ps).1 = 0
    · rw [if_pos h, if_pos h]
      refine fewR_some n (r + 1) (stepL ps).2 ?_ q2
      refine Nat.le_trans (Nat.mul_le_mul_right _ (stepL_len ps)) ?_
      rw [Nat.pow_succ] at hl
      calc 2 * ps.length * 2 ^ n = ps.length * (2 ^ n * 2) := by rw [Nat.mul_comm 2, Nat.mul_assoc, Nat.mul_comm 2]
        _ ≤ 1000 := hl
    · rw [if_neg h, if_neg h]
      exact .inr ⟨r + 1, _, rfl, rfl⟩
noncomputable def toI (p : Bool × Nat) : Int × Int := (if p.1 then 1 else -1, (p.2 : Int))
noncomputable def nearR (n : Nat) : Nat → Nat → Bool → List (Bool × Nat) → Bool := @Nat.rec (fun _ => Nat → Nat → Bool → List (Bool × Nat) → Bool) (fun _ _ _ _ => false)
  (fun _ ih u l sg due => cb (Nat.beq l 0) (@List.rec (Bool × Nat) (fun _ => Bool) true (fun _ _ _ => false) due) (@List.rec (Bool × Nat) (fun _ => Bool) false (fun d ds _ =>
    nr (Nat.sub (Nat.add (Nat.mul 2 u) l) 1) fun A => nr (Nat.mul 2 l) fun B => nr (Nat.log2 B) fun g => nr (Nat.pow 2 (Nat.sub 11 g)) fun P => nr (Nat.mul A P) fun x => nr (Nat.mul B P) fun y =>
    cb (Nat.ble g 11) (cb (Nat.ble 1 u) (cb (Nat.ble (Nat.succ u) 1048576) (cb (Nat.ble (Nat.succ l) 1048576) (cb (Nat.ble (Nat.succ x) (Nat.mul 64 y)) (cb (Nat.ble 64 y) (cb (Nat.ble (Nat.succ y) 1048576) (cb (Nat.ble (Nat.succ x) 67108864)
      (cb (d.1 == sg) (cb (Nat.beq d.2 (Nat.div A B)) (nr (Nat.mod A B) fun t =>
        cb (Nat.ble l (Nat.succ t)) (nr (Nat.div (Nat.sub (Nat.succ t) l) 2) fun q => ih l q true ds) (nr (Nat.div (Nat.sub l t) 2) fun q => ih l q false ds)) false) false)
      false) false) false) false) false) false) false) false) due)) n
theorem cb_true {b x : Bool} (h : cb b x false = true) : b = true ∧ x = true := by
  cases b
  · cases h
  · exact ⟨rfl, h⟩
theorem intBits_nat {n : Nat} (h : 0 < n) : Builtin.Int.intBits (n : Int) = n.log2 + 1 := by
  unfold Builtin.Int.intBits
  rw [if_neg (by simp; omega), Int.natAbs_natCast]
theorem nearR_ok : ∀ (n u l : Nat) (sg : Bool) (due : List (Bool × Nat)), nearR n u l sg due = true → nearF n (u : Int) (l : Int) (if sg then 1 else -1) = some (due.map toI)
  | 0, _, _, _, _, h => by cases h
  | n + 1, u, l, sg, due, h => by
    have h : cb (Nat.beq l 0) (@List.rec (Bool × Nat) (fun _ => Bool) true (fun _ _ _ => false) due) (@List.rec (Bool × Nat) (fun _ => Bool) false (fun d ds _ =>
      nr (Nat.sub (Nat.add (Nat.mul 2 u) l) 1) fun A => nr (Nat.mul 2 l) fun B => nr (Nat.log2 B) fun g => nr (Nat.pow 2 (Nat.sub 11 g)) fun P => nr (Nat.mul A P) fun x => nr (Nat.mul B P) fun y =>
      cb (Nat.ble g 11) (cb (Nat.ble 1 u) (cb (Nat.ble (Nat.succ u) 1048576) (cb (Nat.ble (Nat.succ l) 1048576) (cb (Nat.ble (Nat.succ x) (Nat.mul 64 y)) (cb (Nat.ble 64 y) (cb (Nat.ble (Nat.succ y) 1048576) (cb (Nat.ble (Nat.succ x) 67108864)
        (cb (d.1 == sg) (cb (Nat.beq d.2 (Nat.div A B)) (nr (Nat.mod A B) fun t =>
          cb (Nat.ble l (Nat.succ t)) (nr (Nat.div (Nat.sub (Nat.succ t) l) 2) fun q => nearR n l q true ds) (nr (Nat.div (Nat.sub l t) 2) fun q => nearR n l q false ds)) false) false)
        false) false) false) false) false) false) false) false) due) = true := h
    unfold nearF
    cases h0 : Nat.beq l 0
    · rw [h0] at h
      have hl : l ≠ 0 := fun e => by rw [e] at h0; cases h0
      have hlp : 0 < l := Nat.pos_of_ne_zero hl
      rw [if_neg (by omega)]
      cases due with
      | nil => cases h
      | cons d ds =>
        have h : (nr (Nat.sub (Nat.add (Nat.mul 2 u) l) 1) fun A => nr (Nat.mul 2 l) fun B => nr (Nat.log2 B) fun g => nr (Nat.pow 2 (Nat.sub 11 g)) fun P => nr (Nat.mul A P) fun x => nr (Nat.mul B P) fun y =>
          cb (Nat.ble g 11) (cb (Nat.ble 1 u) (cb (Nat.ble (Nat.succ u) 1048576) (cb (Nat.ble (Nat.succ l) 1048576) (cb (Nat.ble (Nat.succ x) (Nat.mul 64 y)) (cb (Nat.ble 64 y) (cb (Nat.ble (Nat.succ y) 1048576) (cb (Nat.ble (Nat.succ x) 67108864)
            (cb (d.1 == sg) (cb (Nat.beq d.2 (Nat.div A B)) (nr (Nat.mod A B) fun t =>
              cb (Nat.ble l (Nat.succ t)) (nr (Nat.div (Nat.sub (Nat.succ t) l) 2) fun q => nearR n l q true ds) (nr (Nat.div (Nat.sub l t) 2) fun q => nearR n l q false ds)) false) false)
            false) false) false) false) false) false) false) false) = true := h
        simp only [nr_eq] at h
        obtain ⟨g1, h⟩ := cb_true h
        obtain ⟨g2, h⟩ := cb_true h
        obtain ⟨g3, h⟩ := cb_true h
        obtain ⟨g4, h⟩ := cb_true h
        obtain ⟨g5, h⟩ := cb_true h
        obtain ⟨g6, h⟩ := cb_true h
        obtain ⟨g7, h⟩ := cb_true h
        obtain ⟨g8, h⟩ := cb_true h
        obtain ⟨g9, h⟩ := cb_true h
        obtain ⟨g10, h⟩ := cb_true h
        have g1 : (2 * l).log2 ≤ 11 := Nat.le_of_ble_eq_true g1
        have g2 : 1 ≤ u := Nat.le_of_ble_eq_true g2
        have g3 : u < 1048576 := Nat.le_of_ble_eq_true g3
        have g4 : l < 1048576 := Nat.le_of_ble_eq_true g4
        have hbits : Builtin.Int.intBits (2 * (l : Int)) = (2 * l).log2 + 1 := by
          rw [show (2 * (l : Int)) = ((2 * l : Nat) : Int) by omega]
          exact intBits_nat (by omega)
        have hmv : (12 - (Builtin.Int.intBits (2 * (l : Int)) : Int)) = ((11 - (2 * l).log2 : Nat) : Int) := by rw [hbits]; omega
        have hA : 2 * (u : Int) + (l : Int) - 1 = ((2 * u + l - 1 : Nat) : Int) := by omega
        have hB : 2 * (l : Int) = ((2 * l : Nat) : Int) := by omega
        simp only [hmv, Int.toNat_natCast]
        rw [hA, hB]
        generalize hP : 2 ^ (11 - (2 * l).log2) = P at *
        have hP' : Nat.pow 2 (Nat.sub 11 (Nat.log2 (Nat.mul 2 l))) = P := hP
        rw [hP'] at g5 g6 g7 g8
        have hPp : 0 < P := hP ▸ pow_pos2 _
        have hPi : (2 : Int) ^ (11 - (2 * l).log2) = (P : Int) := by rw [← hP]; exact (Int.natCast_pow 2 _).symm
        rw [hPi]
        generalize hAA : 2 * u + l - 1 = A at *
        have hAA' : Nat.sub (Nat.add (Nat.mul 2 u) l) 1 = A := hAA
        generalize hBB : 2 * l = B at *
        have hBB' : Nat.mul 2 l = B := hBB
        rw [hAA'] at g5 g8 g10 h
        rw [hBB'] at g5 g6 g7 g10 h
        have g5 : A * P < 64 * (B * P) := Nat.le_of_ble_eq_true g5
        have g6 : 64 ≤ B * P := Nat.le_of_ble_eq_true g6
        have g7 : B * P < 1048576 := Nat.le_of_ble_eq_true g7
        have g8 : A * P < 67108864 := Nat.le_of_ble_eq_true g8
        have g10 : d.2 = A / B := Nat.eq_of_beq_eq_true g10
        have g9 : d.1 = sg := by simpa using g9
        rw [← Int.natCast_mul, ← Int.natCast_mul]
        rw [if_pos ⟨by omega, by omega, by omega, by omega, by omega, by omega, by omega, by omega, by omega, by omega, by omega⟩]
        have hmod : ((A * P : Nat) : Int) % ((B * P : Nat) : Int) = ((A % B * P : Nat) : Int) := by rw [← Int.natCast_emod, Nat.mul_mod_mul_right]
        have hdiv : ((A * P : Nat) : Int) / ((B * P : Nat) : Int) = ((A / B : Nat) : Int) := by rw [← Int.natCast_ediv, Nat.mul_div_mul_right _ _ hPp]
        have hfd : ((A % B * P : Nat) : Int).fdiv (P : Int) = ((A % B : Nat) : Int) := by
          rw [Int.fdiv_eq_ediv_of_nonneg _ (by omega), ← Int.natCast_ediv, Nat.mul_div_cancel _ hPp]
        rw [hmod, hdiv, hfd]
        have h : cb (Nat.ble l (Nat.succ (A % B))) (nearR n l ((A % B + 1 - l) / 2) true ds) (nearR n l ((l - A % B) / 2) false ds) = true := h
        generalize A % B = t at h ⊢
        have hd : toI d = (if sg = true then 1 else -1, ((A / B : Nat) : Int)) := by unfold toI; rw [g9, g10]
        rw [Int.fdiv_eq_ediv_of_nonneg _ (by decide)]
        cases hc : Nat.ble l (Nat.succ t)
        · rw [hc] at h
          have hc' : ¬ l ≤ t + 1 := fun q => by rw [Nat.ble_eq_true_of_le q] at hc; cases hc
          have h : nearF n (l : Int) (((l - t) / 2 : Nat) : Int) (-1) = some (ds.map toI) := nearR_ok n l _ false ds h
          have e1 : ((t : Int) - (l : Int) + 1) / 2 < 0 := by omega
          have e2 : -(((t : Int) - (l : Int) + 1) / 2) = (((l - t) / 2 : Nat) : Int) := by omega
          rw [if_pos e1, if_pos e1, e2, h]
          rw [List.map_cons, hd]
          rfl
        · rw [hc] at h
          have hc' : l ≤ t + 1 := Nat.le_of_ble_eq_true hc
          have h : nearF n (l : Int) (((t + 1 - l) / 2 : Nat) : Int) 1 = some (ds.map toI) := nearR_ok n l _ true ds h
          have e1 : ¬ ((t : Int) - (l : Int) + 1) / 2 < 0 := by omega
          have e2 : (((t : Int) - (l : Int) + 1) / 2) = (((t + 1 - l) / 2 : Nat) : Int) := by omega
          rw [if_neg e1, if_neg e1, e2, h]
          rw [List.map_cons, hd]
          rfl
    · have hl := Nat.eq_of_beq_eq_true h0
      subst hl
      rw [if_pos (show ((0 : Nat) : Int) = 0 from rfl)]
      cases due with
      | nil => rfl
      | cons d ds => cases h
end
end Mine
end
section
open PySem
namespace Mine
noncomputable section
noncomputable def frac7 {α : Type} (r0 r1 r2 r3 r4 r5 r6 : Nat) (k : Nat → Nat → α) : α :=
  nr (Nat.succ (Nat.mul r5 r6)) fun u5 => nr (Nat.add (Nat.mul r4 u5) r6) fun u4 => nr (Nat.add (Nat.mul r3 u4) u5) fun u3 => nr (Nat.add (Nat.mul r2 u3) u4) fun u2 => nr (Nat.add (Nat.mul r1 u2) u3) fun u1 => nr (Nat.add (Nat.mul r0 u1) u2) fun u0 => k u0 u1
theorem frac7_ok {α : Type} (r0 r1 r2 r3 r4 r5 r6 : Nat) (k : Nat → Nat → α) : ∃ u l : Nat, fracF [(r0 : Int), (r1 : Int), (r2 : Int), (r3 : Int), (r4 : Int), (r5 : Int), (r6 : Int)] = ((u : Int), (l : Int)) ∧ frac7 r0 r1 r2 r3 r4 r5 r6 k = k u l := by
  unfold frac7
  simp only [nr_eq]
  refine ⟨_, _, ?_, rfl⟩
  simp only [fracF, List.foldr_cons, List.foldr_nil, Nat.succ_eq_add_one, Nat.add_eq, Nat.mul_eq, Int.natCast_add, Int.natCast_mul, Int.mul_one, Int.add_zero]
  rfl
noncomputable def figN (c : Nat) : Nat := cb (Nat.beq c 92) 1 (cb (Nat.beq c 50) 2 (cb (Nat.beq c 51) 3 4))
theorem figN_ok (c : Nat) : figF c = (figN c : Int) := by
  unfold figF figN
  simp only [cb_eq, beq_dec, cond_dec]
  split
  · rfl
  · split
    · rfl
    · split <;> rfl
noncomputable def nextA : List (List Nat) → Nat
  | [] => 0
  | u :: _ => u.length - 1
noncomputable def duesN : List (List Nat) → List (Bool × Nat)
  | [] => []
  | u :: r => (Nat.beq (u.length - 1) 0, figN (lastF u) + (u.length - 1) + nextA r) :: duesN r
noncomputable def dueN (n0 : Nat) (U : List (List Nat)) : List (Bool × Nat) := (true, n0 + nextA U) :: duesN U
noncomputable def ShapeU (U : List (List Nat)) : Prop := ∀ u ∈ U, (∃ c, u = [c]) ∨ ∃ c, u = [92, c]
theorem nextA_ok {U : List (List Nat)} (h : ShapeU U) : (aheads U).getD 0 0 = (nextA U : Int) := by
  cases U with
  | nil => rfl
  | cons u r =>
    show ahF u = _
    rcases h u List.mem_cons_self with ⟨c, rfl⟩ | ⟨c, rfl⟩ <;> rfl
theorem duesN_ok : ∀ U : List (List Nat), ShapeU U → duesF U = (duesN U).map toI
  | [], _ => rfl
  | u :: r, h => by
    have hr : ShapeU r := fun v hv => h v (List.mem_cons_of_mem _ hv)
    simp only [duesF, duesN, List.map_cons]
    rw [duesN_ok r hr, nextA_ok hr, figN_ok]
    congr 1
    rcases h u List.mem_cons_self with ⟨c, rfl⟩ | ⟨c, rfl⟩
    · show ((1 - 2 * 0 : Int), _) = (1, _)
      congr 1
    · show ((1 - 2 * 1 : Int), _) = (-1, _)
      congr 1
theorem dueN_ok {n0 : Nat} {U : List (List Nat)} (h : ShapeU U) : dueF (n0 : Int) U = (dueN n0 U).map toI := by
  unfold dueF dueN
  rw [duesN_ok U h, nextA_ok h]
  rfl
noncomputable def signN (r : Nat) : Nat := cb (Nat.beq r 1) 92 (cb (Nat.beq r 2) 50 (cb (Nat.beq r 3) 51 52))
theorem signN_ok (r : Nat) : signF (r : Int) = signN r := by
  unfold signF signN
  simp only [cb_eq, beq_dec, cond_dec]
  by_cases h1 : r = 1
  · subst h1; rfl
  · rw [if_neg h1, if_neg (by omega)]
    by_cases h2 : r = 2
    · subst h2; rfl
    · rw [if_neg h2, if_neg (by omega)]
      by_cases h3 : r = 3
      · subst h3; rfl
      · rw [if_neg h3, if_neg (by omega)]
noncomputable def chkU (n0 u l : Nat) (U : List (List Nat)) : Bool :=
  cb (Nat.ble 1 u) (cb (Nat.ble (Nat.succ u) 10000) (cb (Nat.ble 1 l) (cb (Nat.ble (Nat.succ l) 10000) (cb (Nat.ble 1 U.length)
    (cb (nearR 12 u l true (dueN n0 U)) (fewR false (fun r e => cb (Nat.beq r (Nat.succ U.length)) (ladC u l r e) false) 9 0 [(u, l)]) false) false) false) false) false) false
noncomputable def chk (n0 n1 n2 n3 n4 n5 n6 : Nat) : Bool := cb (pendF false [signN n1, signN n2, signN n3, signN n4, signN n5, signN (Nat.succ n6)]) false
  (frac7 n0 n1 n2 n3 n4 n5 (Nat.succ n6) fun u l => chkU n0 u l (unitsF false [signN n1, signN n2, signN n3, signN n4, signN n5, signN (Nat.succ n6)]))
theorem chkU_ok {n0 u l : Nat} {U : List (List Nat)} (hU : ShapeU U) (h : chkU n0 u l U = true) : 0 < u ∧ u < 10000 ∧ 0 < l ∧ l < 10000 ∧ 0 < U.length ∧ nearF 12 (u : Int) (l : Int) 1 = some (dueF (n0 : Int) U) ∧
    ∃ e gl : Nat, fewF 9 0 [(48 + u, 48 + l)] = some (((dueF (n0 : Int) U).length : Int), (e : Int)) ∧ hueN u l = some gl ∧ ladN 60 gl 0 1 1 1 1 0 0 1 = some ((dueF (n0 : Int) U).length, e) := by
  unfold chkU at h
  obtain ⟨g1, h⟩ := cb_true h
  obtain ⟨g2, h⟩ := cb_true h
  obtain ⟨g3, h⟩ := cb_true h
  obtain ⟨g4, h⟩ := cb_true h
  obtain ⟨g5, h⟩ := cb_true h
  obtain ⟨g6, h⟩ := cb_true h
  have g1 : 1 ≤ u := Nat.le_of_ble_eq_true g1
  have g2 : u + 1 ≤ 10000 := Nat.le_of_ble_eq_true g2
  have g3 : 1 ≤ l := Nat.le_of_ble_eq_true g3
  have g4 : l + 1 ≤ 10000 := Nat.le_of_ble_eq_true g4
  have g5 : 1 ≤ U.length := Nat.le_of_ble_eq_true g5
  have hn : nearF 12 (u : Int) (l : Int) 1 = some ((dueN n0 U).map toI) := nearR_ok 12 u l true _ g6
  rw [← dueN_ok hU] at hn
  refine ⟨by omega, by omega, by omega, by omega, by omega, hn, ?_⟩
  rcases fewR_some (no := false) (k := fun r e => cb (Nat.beq r (Nat.succ U.length)) (ladC u l r e) false) 9 0 [(u, l)] (by show 1 * 2 ^ 9 ≤ 1000; decide) (fun p hp => by rw [List.mem_singleton.mp hp]; exact g3) with q | ⟨r, e, hf, q⟩
  · rw [q] at h; cases h
  rw [q] at h
  obtain ⟨k1, k2⟩ := cb_true h
  have k1 : r = U.length + 1 := Nat.eq_of_beq_eq_true k1
  have hl : (dueF (n0 : Int) U).length = r := by rw [due_length, k1]
  obtain ⟨gl, hg, hlad⟩ := ladC_ok k2
  rw [hl]
  exact ⟨e, gl, hf, hg, hlad⟩
theorem ladN_top {gl mg eg x y : Nat} (ng : Nrm gl mg eg) (h : ladN 60 gl 0 1 1 1 1 0 0 1 = some (x, y)) : ladF 60 (Float64.pack false gl) ⟨0, 1, 1, 1, 1, 0, 0, 1⟩ = some ((x : Int), (y : Int)) := by
  have q := ladN_ok ng 60 0 1 1 1 1 0 0 1 h
  simp only [Int.natCast_zero, Int.natCast_one] at q
  exact q
theorem cb_false {α : Type} (x y : α) : cb false x y = y := rfl
theorem few_in (u l : Nat) : [((48 + (u : Int)).toNat, (48 + (l : Int)).toNat)] = [(48 + u, 48 + l)] := by
  rw [show (48 + (u : Int)).toNat = 48 + u by omega, show (48 + (l : Int)).toNat = 48 + l by omega]
theorem lad_in {u l gl : Nat} {o : Option (Int × Int)} (c1 : 0 < l) (c2 : l ≤ u) (c3 : u < 2 ^ 20) (c4 : hueF (Float64.pack false (Float64.roundMag u 8192)) (Float64.pack false (Float64.roundMag l 8192)) = Float64.pack false gl) (h : ladF 60 (Float64.pack false gl) ⟨0, 1, 1, 1, 1, 0, 0, 1⟩ = o) :
    Float64.isInf (flI (u : Int)) = false ∧ Float64.isInf (flI (l : Int)) = false ∧ HueOk (flI (u : Int)) (flI (l : Int)) ∧ ladF 60 (hueF (flI (u : Int)) (flI (l : Int))) ⟨0, 1, 1, 1, 1, 0, 0, 1⟩ = o := by
  have na := fl_nrm (show 0 < u by omega) c3
  have nb := fl_nrm c1 (show l < 2 ^ 20 by omega)
  unfold flI
  rw [fl_int, fl_int, c4]
  exact ⟨inf_nrm na, inf_nrm nb, hueOk_fl c1 c2 c3, h⟩
theorem chk_ok {n0 n1 n2 n3 n4 n5 n6 : Nat} (h : chk n0 n1 n2 n3 n4 n5 n6 = true) : PlainOk (n0 : Int) (n1 : Int) (n2 : Int) (n3 : Int) (n4 : Int) (n5 : Int) (n6 : Int) := by
  unfold chk at h
  have hs : signsF (n1 : Int) (n2 : Int) (n3 : Int) (n4 : Int) (n5 : Int) (n6 : Int) = [signN n1, signN n2, signN n3, signN n4, signN n5, signN (Nat.succ n6)] := by
    unfold signsF
    rw [signN_ok, signN_ok, signN_ok, signN_ok, signN_ok, show ((n6 : Int) + 1) = ((Nat.succ n6 : Nat) : Int) by omega, signN_ok]
  have hf6 : ((n6 : Int) + 1) = ((Nat.succ n6 : Nat) : Int) := by omega
  unfold PlainOk
  rw [hs, hf6]
  generalize [signN n1, signN n2, signN n3, signN n4, signN n5, signN (Nat.succ n6)] = xs at h ⊢
  cases hp : pendF false xs with
  | true => rw [hp] at h; cases h
  | false =>
    rw [hp] at h
    rw [cb_false] at h
    obtain ⟨u, l, hul, q⟩ := frac7_ok n0 n1 n2 n3 n4 n5 (Nat.succ n6) fun u l => chkU n0 u l (unitsF false xs)
    rw [q] at h
    obtain ⟨a1, a2, a3, a4, a5, hn, e, gl, hfew, hg, hlad⟩ := chkU_ok (units_shape false xs) h
    obtain ⟨c1, c2, c3, c4, c5⟩ := hueN_ok hg
    obtain ⟨d1, d2, d3, d4⟩ := lad_in c1 c2 c3 c4 (ladN_top c5 hlad)
    rw [← few_in] at hfew
    exact ⟨u, l, e, unitsF false xs, hul, rfl, by omega, by omega, by omega, by omega, rfl, a5, hn, hfew, d1, d2, d3, d4⟩
noncomputable def all3 (f : Nat → Bool) : Bool := cb (f 1) (cb (f 2) (f 3) false) false
theorem all3_ok {f : Nat → Bool} (h : all3 f = true) {p : Int} (h1 : 1 ≤ p) (h3 : p ≤ 3) : ∃ n : Nat, p = (n : Int) ∧ f n = true := by
  obtain ⟨q1, q⟩ := cb_true h
  obtain ⟨q2, q3⟩ := cb_true q
  have : p = 1 ∨ p = 2 ∨ p = 3 := by omega
  rcases this with rfl | rfl | rfl
  · exact ⟨1, rfl, q1⟩
  · exact ⟨2, rfl, q2⟩
  · exact ⟨3, rfl, q3⟩
noncomputable def rows (a b c : Nat) : Bool := all3 fun d => all3 fun e => all3 fun f => all3 fun g => chk a b c d e f g
theorem rows111 : rows 1 1 1 = true := by decide +kernel
theorem rows112 : rows 1 1 2 = true := by decide +kernel
theorem rows113 : rows 1 1 3 = true := by decide +kernel
theorem rows121 : rows 1 2 1 = true := by decide +kernel
theorem rows122 : rows 1 2 2 = true := by decide +kernel
theorem rows123 : rows 1 2 3 = true := by decide +kernel
theorem rows131 : rows 1 3 1 = true := by decide +kernel
theorem rows132 : rows 1 3 2 = true := by decide +kernel
theorem rows133 : rows 1 3 3 = true := by decide +kernel
theorem rows211 : rows 2 1 1 = true := by decide +kernel
theorem rows212 : rows 2 1 2 = true := by decide +kernel
theorem rows213 : rows 2 1 3 = true := by decide +kernel
theorem rows221 : rows 2 2 1 = true := by decide +kernel
theorem rows222 : rows 2 2 2 = true := by decide +kernel
theorem rows223 : rows 2 2 3 = true := by decide +kernel
theorem rows231 : rows 2 3 1 = true := by decide +kernel
theorem rows232 : rows 2 3 2 = true := by decide +kernel
theorem rows233 : rows 2 3 3 = true := by decide +kernel
theorem rows311 : rows 3 1 1 = true := by decide +kernel
theorem rows312 : rows 3 1 2 = true := by decide +kernel
theorem rows313 : rows 3 1 3 = true := by decide +kernel
theorem rows321 : rows 3 2 1 = true := by decide +kernel
theorem rows322 : rows 3 2 2 = true := by decide +kernel
theorem rows323 : rows 3 2 3 = true := by decide +kernel
theorem rows331 : rows 3 3 1 = true := by decide +kernel
theorem rows332 : rows 3 3 2 = true := by decide +kernel
theorem rows333 : rows 3 3 3 = true := by decide +kernel
theorem rows_all {p0 p1 p2 : Int} (h0 : 1 ≤ p0 ∧ p0 ≤ 3) (h1 : 1 ≤ p1 ∧ p1 ≤ 3) (h2 : 1 ≤ p2 ∧ p2 ≤ 3) : ∃ a b c : Nat, p0 = (a : Int) ∧ p1 = (b : Int) ∧ p2 = (c : Int) ∧ rows a b c = true := by
  have q : all3 (fun a => all3 fun b => all3 fun c => rows a b c) = true := by
    unfold all3
    dsimp only
    rw [rows111, rows112, rows113, rows121, rows122, rows123, rows131, rows132, rows133, rows211, rows212, rows213, rows221, rows222, rows223, rows231, rows232, rows233, rows311, rows312, rows313, rows321, rows322, rows323, rows331, rows332, rows333]
    rfl
  obtain ⟨a, ea, q⟩ := all3_ok q h0.1 h0.2
  obtain ⟨b, eb, q⟩ := all3_ok q h1.1 h1.2
  obtain ⟨c, ec, q⟩ := all3_ok q h2.1 h2.2
  exact ⟨a, b, c, ea, eb, ec, q⟩
theorem plain (p0 p1 p2 p3 p4 p5 p6 : Int) (h0 : 1 ≤ p0 ∧ p0 ≤ 3) (h1 : 1 ≤ p1 ∧ p1 ≤ 3) (h2 : 1 ≤ p2 ∧ p2 ≤ 3) (h3 : 1 ≤ p3 ∧ p3 ≤ 3) (h4 : 1 ≤ p4 ∧ p4 ≤ 3) (h5 : 1 ≤ p5 ∧ p5 ≤ 3) (h6 : 1 ≤ p6 ∧ p6 ≤ 3) : PlainOk p0 p1 p2 p3 p4 p5 p6 := by
  obtain ⟨a, b, c, rfl, rfl, rfl, q⟩ := rows_all h0 h1 h2
  unfold rows at q
  obtain ⟨d, rfl, q⟩ := all3_ok q h3.1 h3.2
  obtain ⟨e, rfl, q⟩ := all3_ok q h4.1 h4.2
  obtain ⟨f, rfl, q⟩ := all3_ok q h5.1 h5.2
  obtain ⟨g, rfl, q⟩ := all3_ok q h6.1 h6.2
  exact chk_ok q
end
end Mine
end
section
open PySem PySem.W PyProof.Rows PySem.Calls
namespace Mine
open PySem.Flt
theorem law_post (as : List WData) : WTm.value PySem.Challenge.rw_to0006_01.row.records PySem.Challenge.rw_to0006_01.row.post { args := as, res := some (WData.bool true), after := as } = some (WData.bool true) := by
  show WTm.value _ (.eq .res (.lit (.bool true))) _ = _
  simp [WTm.value]
  exact same_iff.mpr rfl
/-- the law's end when the call has made generators -/
noncomputable def EndT (s₁ : Shared) (tabs : List (Addr × Addr)) (r : Result) (s' : Shared) : Prop :=
  r = .ok (.ret (.bool true)) ∧ (∀ b o, (ghostOf s₁.heap tabs).get? b = some o → s'.heap.get? b = some o) ∧ s'.os = s₁.os ∧ AllBare s'.gens ∧ GrownAll tabs s'.heap
theorem endT_post {M : Model} {A : Around} {cd : Code} {s s₁ : Shared} {cw : ClaimW} {cl : Str → Option Addr} {mean : ExcName → Option Value} {args : List WData} {tabs : List (Addr × Addr)} (hT : TabsAt tabs s₁.heap) (hr : ∀ a x, cw.raises x a = false) (hp : cw.post args (.bool true) args = true)
    (h : codeAny M A cd (EndT s₁ tabs) s) : codeAny M A cd (GoodWG cw cl mean args s₁) s :=
  codeAny_mono h fun r s' ⟨hc, hk, hos, hg, hgr⟩ => by
    have keep : ∀ b o, b ∉ tabs.map (·.2) → s₁.heap.get? b = some o → s'.heap.get? b = some o := fun b o hb e => hk b o (ghost_ne e hb)
    have grown : ∀ b o, b ∈ tabs.map (·.2) → s₁.heap.get? b = some o → isCodeTable s₁.heap b ∧ o = tabObj #[] ∧ ∃ ps, s'.heap.get? b = some (tabObj ps) := fun b o hb e => by
      obtain ⟨q, hq, rfl⟩ := List.mem_map.mp hb
      have e2 := (hT q hq).2
      rw [e] at e2
      exact ⟨((hT q hq).1.tab (hT q hq).2).isCodeTable, Option.some.inj e2, hgr.get q hq⟩
    refine ⟨.inl ⟨_, .bool true, [], hc, fun x => hr _ _, .bool true, hp, fun _ => ⟨.nil, fun _ ha => nomatch ha⟩⟩, ⟨fun b o e => ?_, fun b o e => ?_⟩, hos, hg⟩
    · by_cases hb : b ∈ tabs.map (·.2)
      · obtain ⟨ht, rfl, ps, hP⟩ := grown b o hb e
        exact .inr (.inl ⟨ht, rfl, #[], ps, rfl, by rw [Array.empty_append]; exact hP⟩)
      · exact .inl (keep b o hb e)
    · by_cases hb : b ∈ tabs.map (·.2)
      · obtain ⟨_, _, ps, hP⟩ := grown b o hb e
        exact ⟨_, hP⟩
      · exact ⟨o, keep b o hb e⟩
set_option maxHeartbeats 8000000 in
theorem law_holds : PySem.Challenge.rw_to0006_01.Holds := by
  refine head0 (by rfl) (by rfl) (by rfl) ?_
  k_fill
  intro w s₀ s₁ mg mb G Y fa o pm cd doc dV kV ho hd hcd hD hmg hg args vals as hpre hlay hrd hwl hlo
  have KX := km_in_of Y
  km_tabs Y
  have X := (Ground.X G).1
  have V := (Ground.X G).2
  refine Ground.open G ?_
  intro T B D TE TW
  try (refine guard_noD D (by decide +kernel) ?_; clear D)
  km_lay T hmg ho hd cd
  clear hmg
  wrow_args hpre hlay hrd hwl hlo
  all_goals (
    first | refine callC_kw (enter_call ?_) | refine enter_call ?_
    w_top on
    refine endT_post hT9 (fun _ _ => rfl) (postW_of (X := true) (by rfl) (law_post _) rfl) ?_
    w_call any ho hd hcd hD T F
    clear hd
    kn_ghosts F T
    k_drop
    skip)
  all_goals (try k_fold)
  rename Below _ _ _ _ => B
  rename Fr _ _ _ _ => F
  rename News _ _ _ _ => N
  rename Frag.In _ _ => X
  rename CodeHd _ _ _ => C
  rename Top _ _ _ _ _ (ghostOf _ _) => T
  rename (Heap.IsList (ghostOf _ _) _ _) => hl
  rename IntsAre _ _ => hI
  rename (_ = Data.cell _) => hoc
  rename (¬ ((63 : Int) < _)) => h63
  rename (_ = #[]) => hg
  change wpAny (model _ _) (ktrTop _ _ _ (Str.ofString "law") lawScope _ _ _ [(Str.ofString "script", _)] _) (execs lawBody (envX (Str.ofString "law") lawScope _ _ _ [(Str.ofString "script", _)])) _ _ _
  with_reducible refine law_walk plain B F X N T C ?_ ?_ ?_ hl hI ?_ (AllBare.of_eq hg) ?_ ?_
  · decide
  · decide
  · exact hoc
  · omega
  · passes_own
  · intro h' tk' gens' m' ps hb F' N'
    exact ⟨rfl, F'.keep, rfl, hb, ⟨_, (N' _ List.mem_cons_self).1⟩, trivial⟩
end Mine
end
theorem PySem.Challenge.cw_to0006_01_holds : PySem.Challenge.rw_to0006_01.Holds := by
  exact Mine.law_holds
