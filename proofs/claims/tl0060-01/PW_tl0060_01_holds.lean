import PyProof.Rows.All
import Wide.All
import OpenK.AllK
import Wide.FinOn
import PySem.Challenge.RW_tl0060_01
open PySem PySem.W PyProof.Rows
set_option Elab.async false
set_option maxRecDepth 100000
set_option maxHeartbeats 8000000
open PySem.Calls PySem.Spec
noncomputable section
open PySem PySem.W PyProof.Rows
namespace Mine
/- The written heap (printed by GenK.lean): the objects that the walks read. A function's code is picked out of the row by unification, so that it stands here as a literal. -/
def methAt (body : List Stmt) (i j : Nat) : Option Stmt := match body[i]? with
  | some (.ClassDef _ _ _ cb _ _ _ _ _ _ _) => cb[j]?
  | _ => none
noncomputable def hd.heap_39 : Params → Frag := by
  refine' (?p45 : (n : Str) → (ps : Arguments) → (b : List Stmt) → (sc : Scope) → (PySem.Challenge.rw_tl0060_01.row.prog.main.body[3]? = some (Stmt.FunctionDef n ps b _ _ _ sc _ _ _)) → Params → Frag) _ _ _ _ rfl
  intro n45 ps45 b45 sc45 h45
  refine' (?p52 : (n : Str) → (ps : Arguments) → (b : List Stmt) → (sc : Scope) → (PySem.Challenge.rw_tl0060_01.row.prog.main.body[6]? = some (Stmt.FunctionDef n ps b _ _ _ sc _ _ _)) → Params → Frag) _ _ _ _ rfl
  intro n52 ps52 b52 sc52 h52
  refine' (?p66 : (n : Str) → (ps : Arguments) → (b : List Stmt) → (sc : Scope) → (PySem.Challenge.rw_tl0060_01.row.prog.main.body[8]? = some (Stmt.FunctionDef n ps b _ _ _ sc _ _ _)) → Params → Frag) _ _ _ _ rfl
  intro n66 ps66 b66 sc66 h66
  refine' (?p73 : (n : Str) → (ps : Arguments) → (b : List Stmt) → (sc : Scope) → (PySem.Challenge.rw_tl0060_01.row.prog.main.body[9]? = some (Stmt.FunctionDef n ps b _ _ _ sc _ _ _)) → Params → Frag) _ _ _ _ rfl
  intro n73 ps73 b73 sc73 h73
  refine' (?p80 : (n : Str) → (ps : Arguments) → (b : List Stmt) → (sc : Scope) → (PySem.Challenge.rw_tl0060_01.row.prog.main.body[10]? = some (Stmt.FunctionDef n ps b _ _ _ sc _ _ _)) → Params → Frag) _ _ _ _ rfl
  intro n80 ps80 b80 sc80 h80
  refine' (?p87 : (n : Str) → (ps : Arguments) → (b : List Stmt) → (sc : Scope) → (PySem.Challenge.rw_tl0060_01.row.prog.main.body[11]? = some (Stmt.FunctionDef n ps b _ _ _ sc _ _ _)) → Params → Frag) _ _ _ _ rfl
  intro n87 ps87 b87 sc87 h87
  refine' (?p94 : (n : Str) → (ps : Arguments) → (b : List Stmt) → (sc : Scope) → (PySem.Challenge.rw_tl0060_01.row.prog.main.body[16]? = some (Stmt.FunctionDef n ps b _ _ _ sc _ _ _)) → Params → Frag) _ _ _ _ rfl
  intro n94 ps94 b94 sc94 h94
  refine' (?p101 : (n : Str) → (ps : Arguments) → (b : List Stmt) → (sc : Scope) → (PySem.Challenge.rw_tl0060_01.row.prog.main.body[17]? = some (Stmt.FunctionDef n ps b _ _ _ sc _ _ _)) → Params → Frag) _ _ _ _ rfl
  intro n101 ps101 b101 sc101 h101
  refine' (?p139 : (n : Str) → (ps : Arguments) → (b : List Stmt) → (sc : Scope) → (methAt PySem.Challenge.rw_tl0060_01.row.prog.main.body 23 0 = some (Stmt.FunctionDef n ps b _ _ _ sc _ _ _)) → Params → Frag) _ _ _ _ rfl
  intro n139 ps139 b139 sc139 h139
  refine' (?p146 : (n : Str) → (ps : Arguments) → (b : List Stmt) → (sc : Scope) → (methAt PySem.Challenge.rw_tl0060_01.row.prog.main.body 23 1 = some (Stmt.FunctionDef n ps b _ _ _ sc _ _ _)) → Params → Frag) _ _ _ _ rfl
  intro n146 ps146 b146 sc146 h146
  refine' (?p184 : (n : Str) → (ps : Arguments) → (b : List Stmt) → (sc : Scope) → (methAt PySem.Challenge.rw_tl0060_01.row.prog.main.body 23 7 = some (Stmt.FunctionDef n ps b _ _ _ sc _ _ _)) → Params → Frag) _ _ _ _ rfl
  intro n184 ps184 b184 sc184 h184
  refine' (?p242 : (n : Str) → (ps : Arguments) → (b : List Stmt) → (sc : Scope) → (methAt PySem.Challenge.rw_tl0060_01.row.prog.main.body 23 16 = some (Stmt.FunctionDef n ps b _ _ _ sc _ _ _)) → Params → Frag) _ _ _ _ rfl
  intro n242 ps242 b242 sc242 h242
  refine' (?p254 : (n : Str) → (ps : Arguments) → (b : List Stmt) → (sc : Scope) → (PySem.Challenge.rw_tl0060_01.row.prog.main.body[25]? = some (Stmt.FunctionDef n ps b _ _ _ sc _ _ _)) → Params → Frag) _ _ _ _ rfl
  intro n254 ps254 b254 sc254 h254
  refine' (?p261 : (n : Str) → (ps : Arguments) → (b : List Stmt) → (sc : Scope) → (PySem.Challenge.rw_tl0060_01.row.prog.main.body[26]? = some (Stmt.FunctionDef n ps b _ _ _ sc _ _ _)) → Params → Frag) _ _ _ _ rfl
  intro n261 ps261 b261 sc261 h261
  refine' (?p266 : (n : Str) → (ps : Arguments) → (b : List Stmt) → (sc : Scope) → (PySem.Challenge.rw_tl0060_01.row.prog.main.body[27]? = some (Stmt.FunctionDef n ps b _ _ _ sc _ _ _)) → Params → Frag) _ _ _ _ rfl
  intro n266 ps266 b266 sc266 h266
  refine' (?p271 : (n : Str) → (ps : Arguments) → (b : List Stmt) → (sc : Scope) → (PySem.Challenge.rw_tl0060_01.row.prog.main.body[28]? = some (Stmt.FunctionDef n ps b _ _ _ sc _ _ _)) → Params → Frag) _ _ _ _ rfl
  intro n271 ps271 b271 sc271 h271
  refine' (?p278 : (n : Str) → (ps : Arguments) → (b : List Stmt) → (sc : Scope) → (PySem.Challenge.rw_tl0060_01.row.prog.main.body[29]? = some (Stmt.FunctionDef n ps b _ _ _ sc _ _ _)) → Params → Frag) _ _ _ _ rfl
  intro n278 ps278 b278 sc278 h278
  exact fun P => (
    (nat_lit 2, { cls := .none, dict := (none : Option Nat), data := .dict #[⟨PyData.keyHash P (Str.ofString "\x69mport.loaded._sre"), .str (Str.ofString "\x69mport.loaded._sre") (183 : Nat), .bool true⟩, ⟨PyData.keyHash P (Str.ofString "class._frozen_importlib.BuiltinImporter"), .str (Str.ofString "class._frozen_importlib.BuiltinImporter") (185 : Nat), .ref (14 : Nat)⟩, ⟨PyData.keyHash P (Str.ofString "watched.\x69mport"), .str (Str.ofString "watched.\x69mport") (206 : Nat), .ref (18 : Nat)⟩, ⟨PyData.keyHash P (Str.ofString "class._frozen_importlib.ModuleSpec"), .str (Str.ofString "class._frozen_importlib.ModuleSpec") (216 : Nat), .ref (22 : Nat)⟩, ⟨PyData.keyHash P (Str.ofString "sys.modules.booked-epoch"), .str (Str.ofString "sys.modules.booked-epoch") (245 : Nat), .int 3 (0 : Nat)⟩, ⟨PyData.keyHash P (Str.ofString "\x69mport.later-laid._sre"), .str (Str.ofString "\x69mport.later-laid._sre") (270 : Nat), .bool true⟩, ⟨PyData.keyHash P (Str.ofString "watched.library"), .str (Str.ofString "watched.library") (272 : Nat), .ref (27 : Nat)⟩, ⟨PyData.keyHash P (Str.ofString "watched.library-objects"), .str (Str.ofString "watched.library-objects") (0 : Nat), .str (Str.ofString "\x0c") (0 : Nat)⟩, ⟨PyData.keyHash P (Str.ofString "watched.library-deep._sre"), .str (Str.ofString "watched.library-deep._sre") (273 : Nat), .str (Str.ofString "\x04\x00\x00\x0b\x04\x00\x00\x0b\x04\x00\x00\x03\x04\x00\x00\x0b\x08\x04dict\x02") (0 : Nat)⟩] 9, slots := #[] }) ::
    (nat_lit 3, { cls := .type "dict", dict := (none : Option Nat), data := .dict #[⟨PyData.keyHash P (Str.ofString "__name__"), .str (Str.ofString "__name__") (165 : Nat), .str (Str.ofString "law_tl0060_01") (690 : Nat)⟩, ⟨PyData.keyHash P (Str.ofString "__doc__"), .str (Str.ofString "__doc__") (166 : Nat), .none⟩, ⟨PyData.keyHash P (Str.ofString "__package__"), .str (Str.ofString "__package__") (167 : Nat), .none⟩, ⟨PyData.keyHash P (Str.ofString "__loader__"), .str (Str.ofString "__loader__") (168 : Nat), .builtin "__main__.__loader__#opaque"⟩, ⟨PyData.keyHash P (Str.ofString "__spec__"), .str (Str.ofString "__spec__") (169 : Nat), .none⟩, ⟨PyData.keyHash P (Str.ofString "__annotations__"), .str (Str.ofString "__annotations__") (170 : Nat), .ref (6 : Nat)⟩, ⟨PyData.keyHash P (Str.ofString "__builtins__"), .str (Str.ofString "__builtins__") (171 : Nat), .ref (4 : Nat)⟩, ⟨PyData.keyHash P (Str.ofString "__file__"), .str (Str.ofString "__file__") (173 : Nat), .str (Str.ofString "/claim/cut.py") (172 : Nat)⟩, ⟨PyData.keyHash P (Str.ofString "__cached__"), .str (Str.ofString "__cached__") (174 : Nat), .none⟩, ⟨PyData.keyHash P (Str.ofString "_sre"), .str (Str.ofString "_sre") (275 : Nat), .ref (12 : Nat)⟩, ⟨PyData.keyHash P (Str.ofString "_wall"), .str (Str.ofString "_wall") (288 : Nat), .ref (38 : Nat)⟩, ⟨PyData.keyHash P (Str.ofString "rgb_to_hsv"), .str (Str.ofString "rgb_to_hsv") (308 : Nat), .ref (45 : Nat)⟩, ⟨PyData.keyHash P (Str.ofString "_DIV_LIMIT"), .str (Str.ofString "_DIV_LIMIT") (312 : Nat), .int 4000 (311 : Nat)⟩, ⟨PyData.keyHash P (Str.ofString "_div2n1n"), .str (Str.ofString "_div2n1n") (329 : Nat), .ref (52 : Nat)⟩, ⟨PyData.keyHash P (Str.ofString "_div3n2n"), .str (Str.ofString "_div3n2n") (343 : Nat), .ref (59 : Nat)⟩, ⟨PyData.keyHash P (Str.ofString "_int2digits"), .str (Str.ofString "_int2digits") (354 : Nat), .ref (66 : Nat)⟩, ⟨PyData.keyHash P (Str.ofString "_digits2int"), .str (Str.ofString "_digits2int") (365 : Nat), .ref (73 : Nat)⟩, ⟨PyData.keyHash P (Str.ofString "_divmod_pos"), .str (Str.ofString "_divmod_pos") (380 : Nat), .ref (80 : Nat)⟩, ⟨PyData.keyHash P (Str.ofString "int_divmod"), .str (Str.ofString "int_divmod") (390 : Nat), .ref (87 : Nat)⟩, ⟨PyData.keyHash P (Str.ofString "_MAX_STRING_SIZE"), .str (Str.ofString "_MAX_STRING_SIZE") (394 : Nat), .int 40 (393 : Nat)⟩, ⟨PyData.keyHash P (Str.ofString "_MOVE_COST"), .str (Str.ofString "_MOVE_COST") (396 : Nat), .int 2 (395 : Nat)⟩, ⟨PyData.keyHash P (Str.ofString "_CASE_COST"), .str (Str.ofString "_CASE_COST") (398 : Nat), .int 1 (397 : Nat)⟩, ⟨PyData.keyHash P (Str.ofString "_substitution_cost"), .str (Str.ofString "_substitution_cost") (406 : Nat), .ref (94 : Nat)⟩, ⟨PyData.keyHash P (Str.ofString "_levenshtein_distance"), .str (Str.ofString "_levenshtein_distance") (426 : Nat), .ref (101 : Nat)⟩, ⟨PyData.keyHash P (Str.ofString "tspecials"), .str (Str.ofString "tspecials") (462 : Nat), .ref (106 : Nat)⟩, ⟨PyData.keyHash P (Str.ofString "_name_disallowed_re"), .str (Str.ofString "_name_disallowed_re") (488 : Nat), .ref (111 : Nat)⟩, ⟨PyData.keyHash P (Str.ofString "_value_disallowed_re"), .str (Str.ofString "_value_disallowed_re") (522 : Nat), .ref (116 : Nat)⟩, ⟨PyData.keyHash P (Str.ofString "_formatparam"), .str (Str.ofString "_formatparam") (532 : Nat), .ref (124 : Nat)⟩, ⟨PyData.keyHash P (Str.ofString "Headers"), .str (Str.ofString "Headers") (689 : Nat), .ref (245 : Nat)⟩, ⟨PyData.keyHash P (Str.ofString "_law_net"), .str (Str.ofString "_law_net") (697 : Nat), .ref (254 : Nat)⟩, ⟨PyData.keyHash P (Str.ofString "_law_parts"), .str (Str.ofString "_law_parts") (710 : Nat), .ref (261 : Nat)⟩, ⟨PyData.keyHash P (Str.ofString "_law_lead"), .str (Str.ofString "_law_lead") (716 : Nat), .ref (266 : Nat)⟩, ⟨PyData.keyHash P (Str.ofString "_law_joined"), .str (Str.ofString "_law_joined") (722 : Nat), .ref (271 : Nat)⟩, ⟨PyData.keyHash P (Str.ofString "law"), .str (Str.ofString "law") (736 : Nat), .ref (278 : Nat)⟩] 34, slots := #[] }) ::
    (nat_lit 44, { cls := .type "code", dict := (none : Option Nat), data := .fields #[.str (Str.ofString "rgb_to_hsv") (291 : Nat), .str (Str.ofString "rgb_to_hsv") (292 : Nat), .str (Str.ofString "/claim/cut.py") (293 : Nat), .int 6 (0 : Nat), .int 3 (0 : Nat), .int 0 (0 : Nat), .int 0 (0 : Nat), .int 3 (0 : Nat), .ref (39 : Nat), .bool true, .int 276 (0 : Nat), .ref (40 : Nat), .none, .ref (41 : Nat), .ref (42 : Nat), .ref (43 : Nat), .int 306 (0 : Nat), .int 6 (0 : Nat), .str (Str.ofString "/claim/cut.py") (307 : Nat)], slots := #[] }) ::
    (nat_lit 45, { cls := .type "function", dict := (none : Option Nat), data := .func { name := n45, qualname := Str.ofString "rgb_to_hsv", params := ps45, body := .stmts b45, scope := sc45, globals := (3 : Nat), closure := [], defaults := .none, kwdefaults := .none, doc := .none, pyModule := .str (Str.ofString "cpy313.colorsys") (289 : Nat), annotations := none, code := .ref (44 : Nat), closureTuple := .none, builtins := (0 : Nat) }, slots := #[] }) ::
    (nat_lit 51, { cls := .type "code", dict := (none : Option Nat), data := .fields #[.str (Str.ofString "_div2n1n") (313 : Nat), .str (Str.ofString "_div2n1n") (314 : Nat), .str (Str.ofString "/claim/cut.py") (315 : Nat), .int 27 (0 : Nat), .int 3 (0 : Nat), .int 0 (0 : Nat), .int 0 (0 : Nat), .int 3 (0 : Nat), .ref (46 : Nat), .bool true, .int 276 (0 : Nat), .ref (47 : Nat), .none, .ref (48 : Nat), .ref (49 : Nat), .ref (50 : Nat), .int 327 (0 : Nat), .int 27 (0 : Nat), .str (Str.ofString "/claim/cut.py") (328 : Nat)], slots := #[] }) ::
    (nat_lit 52, { cls := .type "function", dict := (none : Option Nat), data := .func { name := n52, qualname := Str.ofString "_div2n1n", params := ps52, body := .stmts b52, scope := sc52, globals := (3 : Nat), closure := [], defaults := .none, kwdefaults := .none, doc := .none, pyModule := .str (Str.ofString "cpy313._pylong") (309 : Nat), annotations := none, code := .ref (51 : Nat), closureTuple := .none, builtins := (0 : Nat) }, slots := #[] }) ::
    (nat_lit 65, { cls := .type "code", dict := (none : Option Nat), data := .fields #[.str (Str.ofString "_int2digits") (344 : Nat), .str (Str.ofString "_int2digits") (345 : Nat), .str (Str.ofString "/claim/cut.py") (346 : Nat), .int 53 (0 : Nat), .int 2 (0 : Nat), .int 0 (0 : Nat), .int 0 (0 : Nat), .int 3 (0 : Nat), .ref (60 : Nat), .bool true, .int 276 (0 : Nat), .ref (61 : Nat), .none, .ref (62 : Nat), .ref (63 : Nat), .ref (64 : Nat), .int 352 (0 : Nat), .int 53 (0 : Nat), .str (Str.ofString "/claim/cut.py") (353 : Nat)], slots := #[] }) ::
    (nat_lit 66, { cls := .type "function", dict := (none : Option Nat), data := .func { name := n66, qualname := Str.ofString "_int2digits", params := ps66, body := .stmts b66, scope := sc66, globals := (3 : Nat), closure := [], defaults := .none, kwdefaults := .none, doc := .none, pyModule := .str (Str.ofString "cpy313._pylong") (309 : Nat), annotations := none, code := .ref (65 : Nat), closureTuple := .none, builtins := (0 : Nat) }, slots := #[] }) ::
    (nat_lit 72, { cls := .type "code", dict := (none : Option Nat), data := .fields #[.str (Str.ofString "_digits2int") (355 : Nat), .str (Str.ofString "_digits2int") (356 : Nat), .str (Str.ofString "/claim/cut.py") (357 : Nat), .int 69 (0 : Nat), .int 2 (0 : Nat), .int 0 (0 : Nat), .int 0 (0 : Nat), .int 3 (0 : Nat), .ref (67 : Nat), .bool true, .int 276 (0 : Nat), .ref (68 : Nat), .none, .ref (69 : Nat), .ref (70 : Nat), .ref (71 : Nat), .int 363 (0 : Nat), .int 69 (0 : Nat), .str (Str.ofString "/claim/cut.py") (364 : Nat)], slots := #[] }) ::
    (nat_lit 73, { cls := .type "function", dict := (none : Option Nat), data := .func { name := n73, qualname := Str.ofString "_digits2int", params := ps73, body := .stmts b73, scope := sc73, globals := (3 : Nat), closure := [], defaults := .none, kwdefaults := .none, doc := .none, pyModule := .str (Str.ofString "cpy313._pylong") (309 : Nat), annotations := none, code := .ref (72 : Nat), closureTuple := .none, builtins := (0 : Nat) }, slots := #[] }) ::
    (nat_lit 79, { cls := .type "code", dict := (none : Option Nat), data := .fields #[.str (Str.ofString "_divmod_pos") (366 : Nat), .str (Str.ofString "_divmod_pos") (367 : Nat), .str (Str.ofString "/claim/cut.py") (368 : Nat), .int 78 (0 : Nat), .int 2 (0 : Nat), .int 0 (0 : Nat), .int 0 (0 : Nat), .int 3 (0 : Nat), .ref (74 : Nat), .bool true, .int 276 (0 : Nat), .ref (75 : Nat), .none, .ref (76 : Nat), .ref (77 : Nat), .ref (78 : Nat), .int 378 (0 : Nat), .int 78 (0 : Nat), .str (Str.ofString "/claim/cut.py") (379 : Nat)], slots := #[] }) ::
    (nat_lit 80, { cls := .type "function", dict := (none : Option Nat), data := .func { name := n80, qualname := Str.ofString "_divmod_pos", params := ps80, body := .stmts b80, scope := sc80, globals := (3 : Nat), closure := [], defaults := .none, kwdefaults := .none, doc := .none, pyModule := .str (Str.ofString "cpy313._pylong") (309 : Nat), annotations := none, code := .ref (79 : Nat), closureTuple := .none, builtins := (0 : Nat) }, slots := #[] }) ::
    (nat_lit 86, { cls := .type "code", dict := (none : Option Nat), data := .fields #[.str (Str.ofString "int_divmod") (381 : Nat), .str (Str.ofString "int_divmod") (382 : Nat), .str (Str.ofString "/claim/cut.py") (383 : Nat), .int 89 (0 : Nat), .int 2 (0 : Nat), .int 0 (0 : Nat), .int 0 (0 : Nat), .int 3 (0 : Nat), .ref (81 : Nat), .bool true, .int 276 (0 : Nat), .ref (82 : Nat), .none, .ref (83 : Nat), .ref (84 : Nat), .ref (85 : Nat), .int 388 (0 : Nat), .int 89 (0 : Nat), .str (Str.ofString "/claim/cut.py") (389 : Nat)], slots := #[] }) ::
    (nat_lit 87, { cls := .type "function", dict := (none : Option Nat), data := .func { name := n87, qualname := Str.ofString "int_divmod", params := ps87, body := .stmts b87, scope := sc87, globals := (3 : Nat), closure := [], defaults := .none, kwdefaults := .none, doc := .none, pyModule := .str (Str.ofString "cpy313._pylong") (309 : Nat), annotations := none, code := .ref (86 : Nat), closureTuple := .none, builtins := (0 : Nat) }, slots := #[] }) ::
    (nat_lit 93, { cls := .type "code", dict := (none : Option Nat), data := .fields #[.str (Str.ofString "_substitution_cost") (399 : Nat), .str (Str.ofString "_substitution_cost") (400 : Nat), .str (Str.ofString "/claim/cut.py") (401 : Nat), .int 104 (0 : Nat), .int 2 (0 : Nat), .int 0 (0 : Nat), .int 0 (0 : Nat), .int 3 (0 : Nat), .ref (88 : Nat), .bool true, .int 276 (0 : Nat), .ref (89 : Nat), .none, .ref (90 : Nat), .ref (91 : Nat), .ref (92 : Nat), .int 404 (0 : Nat), .int 104 (0 : Nat), .str (Str.ofString "/claim/cut.py") (405 : Nat)], slots := #[] }) ::
    (nat_lit 94, { cls := .type "function", dict := (none : Option Nat), data := .func { name := n94, qualname := Str.ofString "_substitution_cost", params := ps94, body := .stmts b94, scope := sc94, globals := (3 : Nat), closure := [], defaults := .none, kwdefaults := .none, doc := .none, pyModule := .str (Str.ofString "cpy313.traceback") (391 : Nat), annotations := none, code := .ref (93 : Nat), closureTuple := .none, builtins := (0 : Nat) }, slots := #[] }) ::
    (nat_lit 100, { cls := .type "code", dict := (none : Option Nat), data := .fields #[.str (Str.ofString "_levenshtein_distance") (407 : Nat), .str (Str.ofString "_levenshtein_distance") (408 : Nat), .str (Str.ofString "/claim/cut.py") (409 : Nat), .int 110 (0 : Nat), .int 3 (0 : Nat), .int 0 (0 : Nat), .int 0 (0 : Nat), .int 3 (0 : Nat), .ref (95 : Nat), .bool true, .int 276 (0 : Nat), .ref (96 : Nat), .none, .ref (97 : Nat), .ref (98 : Nat), .ref (99 : Nat), .int 424 (0 : Nat), .int 110 (0 : Nat), .str (Str.ofString "/claim/cut.py") (425 : Nat)], slots := #[] }) ::
    (nat_lit 101, { cls := .type "function", dict := (none : Option Nat), data := .func { name := n101, qualname := Str.ofString "_levenshtein_distance", params := ps101, body := .stmts b101, scope := sc101, globals := (3 : Nat), closure := [], defaults := .none, kwdefaults := .none, doc := .none, pyModule := .str (Str.ofString "cpy313.traceback") (391 : Nat), annotations := none, code := .ref (100 : Nat), closureTuple := .none, builtins := (0 : Nat) }, slots := #[] }) ::
    (nat_lit 110, { cls := .type "tuple", dict := (none : Option Nat), data := .seq #[.int 14 (0 : Nat), .int 10 (0 : Nat), .int 4 (0 : Nat), .int 1 (0 : Nat), .int 1 (0 : Nat), .int 22 (0 : Nat), .int 0 (0 : Nat), .int 31 (0 : Nat), .int 16 (0 : Nat), .int 127 (0 : Nat), .int 0 (0 : Nat), .int 13 (0 : Nat), .int 7 (0 : Nat), .int 22 (0 : Nat), .int 0 (0 : Nat), .int 31 (0 : Nat), .int 16 (0 : Nat), .int 127 (0 : Nat), .int 0 (0 : Nat), .int 1 (0 : Nat)] 0, slots := #[] }) ::
    (nat_lit 111, { cls := .type "re.Pattern", dict := (none : Option Nat), data := .fields #[.str (Str.ofString "[\\x00-\\x1F\\x7F]") (464 : Nat), .int 32 (487 : Nat), .int 0 (0 : Nat), .none, .none, .ref (110 : Nat), .int 0 (0 : Nat)], slots := #[] }) ::
    (nat_lit 115, { cls := .type "tuple", dict := (none : Option Nat), data := .seq #[.int 14 (0 : Nat), .int 14 (0 : Nat), .int 4 (0 : Nat), .int 1 (0 : Nat), .int 1 (0 : Nat), .int 9 (0 : Nat), .int 4294966783 (0 : Nat), .int 0 (0 : Nat), .int 0 (0 : Nat), .int 2147483648 (0 : Nat), .int 0 (0 : Nat), .int 0 (0 : Nat), .int 0 (0 : Nat), .int 0 (0 : Nat), .int 0 (0 : Nat), .int 13 (0 : Nat), .int 11 (0 : Nat), .int 9 (0 : Nat), .int 4294966783 (0 : Nat), .int 0 (0 : Nat), .int 0 (0 : Nat), .int 2147483648 (0 : Nat), .int 0 (0 : Nat), .int 0 (0 : Nat), .int 0 (0 : Nat), .int 0 (0 : Nat), .int 0 (0 : Nat), .int 1 (0 : Nat)] 0, slots := #[] }) ::
    (nat_lit 116, { cls := .type "re.Pattern", dict := (none : Option Nat), data := .fields #[.str (Str.ofString "[\\x00-\\x08\\x0A-\\x1F\\x7F]") (490 : Nat), .int 32 (521 : Nat), .int 0 (0 : Nat), .none, .none, .ref (115 : Nat), .int 0 (0 : Nat)], slots := #[] }) ::
    (nat_lit 132, { cls := .type "tuple", dict := (none : Option Nat), data := .seq #[.none] 0, slots := #[] }) ::
    (nat_lit 138, { cls := .type "code", dict := (none : Option Nat), data := .fields #[.str (Str.ofString "__init__") (545 : Nat), .str (Str.ofString "Headers.__init__") (546 : Nat), .str (Str.ofString "/claim/cut.py") (547 : Nat), .int 163 (0 : Nat), .int 2 (0 : Nat), .int 0 (0 : Nat), .int 0 (0 : Nat), .int 3 (0 : Nat), .ref (133 : Nat), .bool true, .int 276 (0 : Nat), .ref (134 : Nat), .none, .ref (135 : Nat), .ref (136 : Nat), .ref (137 : Nat), .int 552 (0 : Nat), .int 163 (0 : Nat), .str (Str.ofString "/claim/cut.py") (553 : Nat)], slots := #[] }) ::
    (nat_lit 139, { cls := .type "function", dict := (none : Option Nat), data := .func { name := n139, qualname := Str.ofString "Headers.__init__", params := ps139, body := .stmts b139, scope := sc139, globals := (3 : Nat), closure := [], defaults := .ref (132 : Nat), kwdefaults := .none, doc := .none, pyModule := .str (Str.ofString "cpy313.wsgiref.headers") (427 : Nat), annotations := none, code := .ref (138 : Nat), closureTuple := .none, builtins := (0 : Nat) }, slots := #[] }) ::
    (nat_lit 145, { cls := .type "code", dict := (none : Option Nat), data := .fields #[.str (Str.ofString "_convert_string_type") (555 : Nat), .str (Str.ofString "Headers._convert_string_type") (556 : Nat), .str (Str.ofString "/claim/cut.py") (557 : Nat), .int 173 (0 : Nat), .int 2 (0 : Nat), .int 0 (0 : Nat), .int 1 (0 : Nat), .int 3 (0 : Nat), .ref (140 : Nat), .bool true, .int 276 (0 : Nat), .ref (141 : Nat), .none, .ref (142 : Nat), .ref (143 : Nat), .ref (144 : Nat), .int 562 (0 : Nat), .int 173 (0 : Nat), .str (Str.ofString "/claim/cut.py") (563 : Nat)], slots := #[] }) ::
    (nat_lit 146, { cls := .type "function", dict := (none : Option Nat), data := .func { name := n146, qualname := Str.ofString "Headers._convert_string_type", params := ps146, body := .stmts b146, scope := sc146, globals := (3 : Nat), closure := [], defaults := .none, kwdefaults := .none, doc := .none, pyModule := .str (Str.ofString "cpy313.wsgiref.headers") (427 : Nat), annotations := none, code := .ref (145 : Nat), closureTuple := .none, builtins := (0 : Nat) }, slots := #[] }) ::
    (nat_lit 183, { cls := .type "code", dict := (none : Option Nat), data := .fields #[.str (Str.ofString "get_all") (603 : Nat), .str (Str.ofString "Headers.get_all") (604 : Nat), .str (Str.ofString "/claim/cut.py") (605 : Nat), .int 198 (0 : Nat), .int 2 (0 : Nat), .int 0 (0 : Nat), .int 0 (0 : Nat), .int 3 (0 : Nat), .ref (180 : Nat), .bool true, .int 276 (0 : Nat), .ref (181 : Nat), .none, .none, .none, .ref (182 : Nat), .int 606 (0 : Nat), .int 198 (0 : Nat), .str (Str.ofString "/claim/cut.py") (607 : Nat)], slots := #[] }) ::
    (nat_lit 184, { cls := .type "function", dict := (none : Option Nat), data := .func { name := n184, qualname := Str.ofString "Headers.get_all", params := ps184, body := .stmts b184, scope := sc184, globals := (3 : Nat), closure := [], defaults := .none, kwdefaults := .none, doc := .none, pyModule := .str (Str.ofString "cpy313.wsgiref.headers") (427 : Nat), annotations := none, code := .ref (183 : Nat), closureTuple := .none, builtins := (0 : Nat) }, slots := #[] }) ::
    (nat_lit 241, { cls := .type "code", dict := (none : Option Nat), data := .fields #[.str (Str.ofString "add_header") (668 : Nat), .str (Str.ofString "Headers.add_header") (669 : Nat), .str (Str.ofString "/claim/cut.py") (670 : Nat), .int 230 (0 : Nat), .int 3 (0 : Nat), .int 0 (0 : Nat), .int 0 (0 : Nat), .int 11 (0 : Nat), .ref (236 : Nat), .bool true, .int 276 (0 : Nat), .ref (237 : Nat), .none, .ref (238 : Nat), .ref (239 : Nat), .ref (240 : Nat), .int 678 (0 : Nat), .int 230 (0 : Nat), .str (Str.ofString "/claim/cut.py") (679 : Nat)], slots := #[] }) ::
    (nat_lit 242, { cls := .type "function", dict := (none : Option Nat), data := .func { name := n242, qualname := Str.ofString "Headers.add_header", params := ps242, body := .stmts b242, scope := sc242, globals := (3 : Nat), closure := [], defaults := .none, kwdefaults := .none, doc := .none, pyModule := .str (Str.ofString "cpy313.wsgiref.headers") (427 : Nat), annotations := none, code := .ref (241 : Nat), closureTuple := .none, builtins := (0 : Nat) }, slots := #[] }) ::
    (nat_lit 244, { cls := .type "dict", dict := (none : Option Nat), data := .dict #[⟨PyData.keyHash P (Str.ofString "__module__"), .str (Str.ofString "__module__") (540 : Nat), .str (Str.ofString "cpy313.wsgiref.headers") (427 : Nat)⟩, ⟨PyData.keyHash P (Str.ofString "__firstlineno__"), .str (Str.ofString "__firstlineno__") (544 : Nat), .int 161 (543 : Nat)⟩, ⟨PyData.keyHash P (Str.ofString "__init__"), .str (Str.ofString "__init__") (554 : Nat), .ref (139 : Nat)⟩, ⟨PyData.keyHash P (Str.ofString "_convert_string_type"), .str (Str.ofString "_convert_string_type") (564 : Nat), .ref (146 : Nat)⟩, ⟨PyData.keyHash P (Str.ofString "__len__"), .str (Str.ofString "__len__") (571 : Nat), .ref (153 : Nat)⟩, ⟨PyData.keyHash P (Str.ofString "__setitem__"), .str (Str.ofString "__setitem__") (580 : Nat), .ref (160 : Nat)⟩, ⟨PyData.keyHash P (Str.ofString "__delitem__"), .str (Str.ofString "__delitem__") (586 : Nat), .ref (165 : Nat)⟩, ⟨PyData.keyHash P (Str.ofString "__getitem__"), .str (Str.ofString "__getitem__") (594 : Nat), .ref (172 : Nat)⟩, ⟨PyData.keyHash P (Str.ofString "__contains__"), .str (Str.ofString "__contains__") (602 : Nat), .ref (179 : Nat)⟩, ⟨PyData.keyHash P (Str.ofString "get_all"), .str (Str.ofString "get_all") (608 : Nat), .ref (184 : Nat)⟩, ⟨PyData.keyHash P (Str.ofString "get"), .str (Str.ofString "get") (619 : Nat), .ref (192 : Nat)⟩, ⟨PyData.keyHash P (Str.ofString "keys"), .str (Str.ofString "keys") (625 : Nat), .ref (197 : Nat)⟩, ⟨PyData.keyHash P (Str.ofString "values"), .str (Str.ofString "values") (631 : Nat), .ref (202 : Nat)⟩, ⟨PyData.keyHash P (Str.ofString "items"), .str (Str.ofString "items") (638 : Nat), .ref (209 : Nat)⟩, ⟨PyData.keyHash P (Str.ofString "__repr__"), .str (Str.ofString "__repr__") (645 : Nat), .ref (216 : Nat)⟩, ⟨PyData.keyHash P (Str.ofString "__str__"), .str (Str.ofString "__str__") (651 : Nat), .ref (221 : Nat)⟩, ⟨PyData.keyHash P (Str.ofString "__bytes__"), .str (Str.ofString "__bytes__") (658 : Nat), .ref (228 : Nat)⟩, ⟨PyData.keyHash P (Str.ofString "setdefault"), .str (Str.ofString "setdefault") (667 : Nat), .ref (235 : Nat)⟩, ⟨PyData.keyHash P (Str.ofString "add_header"), .str (Str.ofString "add_header") (680 : Nat), .ref (242 : Nat)⟩, ⟨PyData.keyHash P (Str.ofString "__static_attributes__"), .str (Str.ofString "__static_attributes__") (682 : Nat), .ref (243 : Nat)⟩, ⟨PyData.keyHash P (Str.ofString "__dict__"), .str (Str.ofString "__dict__") (684 : Nat), .ref (246 : Nat)⟩, ⟨PyData.keyHash P (Str.ofString "__weakref__"), .str (Str.ofString "__weakref__") (686 : Nat), .ref (247 : Nat)⟩, ⟨PyData.keyHash P (Str.ofString "__doc__"), .str (Str.ofString "__doc__") (687 : Nat), .none⟩] 4, slots := #[] }) ::
    (nat_lit 245, { cls := .type "type", dict := (none : Option Nat), data := .cls { name := Str.ofString "Headers", bases := [.type "object"], mro := [.ref (245 : Nat), .type "object"], ns := (244 : Nat), qualname := Str.ofString "Headers" }, slots := #[none, none, some (.str (Str.ofString "Headers") (533 : Nat)), some (.str (Str.ofString "Headers") (541 : Nat)), some (.builtin "object.__new__"), some (.bool true)] }) ::
    (nat_lit 246, { cls := .type "getset_descriptor", dict := (none : Option Nat), data := .fields #[.str (Str.ofString "__dict__") (683 : Nat), .ref (245 : Nat), .builtin "function.__dict__", .builtin "function.__dict__#set"], slots := #[] }) ::
    (nat_lit 247, { cls := .type "getset_descriptor", dict := (none : Option Nat), data := .fields #[.str (Str.ofString "__weakref__") (685 : Nat), .ref (245 : Nat), .builtin "ExceptionGroup.__weakref__", .none], slots := #[] }) ::
    (nat_lit 253, { cls := .type "code", dict := (none : Option Nat), data := .fields #[.str (Str.ofString "_law_net") (692 : Nat), .str (Str.ofString "_law_net") (693 : Nat), .str (Str.ofString "/claim/cut.py") (694 : Nat), .int 244 (0 : Nat), .int 1 (0 : Nat), .int 0 (0 : Nat), .int 0 (0 : Nat), .int 3 (0 : Nat), .ref (250 : Nat), .bool true, .int 276 (0 : Nat), .ref (251 : Nat), .none, .none, .none, .ref (252 : Nat), .int 695 (0 : Nat), .int 244 (0 : Nat), .str (Str.ofString "/claim/cut.py") (696 : Nat)], slots := #[] }) ::
    (nat_lit 254, { cls := .type "function", dict := (none : Option Nat), data := .func { name := n254, qualname := Str.ofString "_law_net", params := ps254, body := .stmts b254, scope := sc254, globals := (3 : Nat), closure := [], defaults := .none, kwdefaults := .none, doc := .none, pyModule := .str (Str.ofString "law_tl0060_01") (690 : Nat), annotations := none, code := .ref (253 : Nat), closureTuple := .none, builtins := (0 : Nat) }, slots := #[] }) ::
    (nat_lit 260, { cls := .type "code", dict := (none : Option Nat), data := .fields #[.str (Str.ofString "_law_parts") (698 : Nat), .str (Str.ofString "_law_parts") (699 : Nat), .str (Str.ofString "/claim/cut.py") (700 : Nat), .int 254 (0 : Nat), .int 2 (0 : Nat), .int 0 (0 : Nat), .int 0 (0 : Nat), .int 3 (0 : Nat), .ref (255 : Nat), .bool true, .int 276 (0 : Nat), .ref (256 : Nat), .none, .ref (257 : Nat), .ref (258 : Nat), .ref (259 : Nat), .int 708 (0 : Nat), .int 254 (0 : Nat), .str (Str.ofString "/claim/cut.py") (709 : Nat)], slots := #[] }) ::
    (nat_lit 261, { cls := .type "function", dict := (none : Option Nat), data := .func { name := n261, qualname := Str.ofString "_law_parts", params := ps261, body := .stmts b261, scope := sc261, globals := (3 : Nat), closure := [], defaults := .none, kwdefaults := .none, doc := .none, pyModule := .str (Str.ofString "law_tl0060_01") (690 : Nat), annotations := none, code := .ref (260 : Nat), closureTuple := .none, builtins := (0 : Nat) }, slots := #[] }) ::
    (nat_lit 265, { cls := .type "code", dict := (none : Option Nat), data := .fields #[.str (Str.ofString "_law_lead") (711 : Nat), .str (Str.ofString "_law_lead") (712 : Nat), .str (Str.ofString "/claim/cut.py") (713 : Nat), .int 264 (0 : Nat), .int 2 (0 : Nat), .int 0 (0 : Nat), .int 0 (0 : Nat), .int 3 (0 : Nat), .ref (262 : Nat), .bool true, .int 276 (0 : Nat), .ref (263 : Nat), .none, .none, .none, .ref (264 : Nat), .int 714 (0 : Nat), .int 264 (0 : Nat), .str (Str.ofString "/claim/cut.py") (715 : Nat)], slots := #[] }) ::
    (nat_lit 266, { cls := .type "function", dict := (none : Option Nat), data := .func { name := n266, qualname := Str.ofString "_law_lead", params := ps266, body := .stmts b266, scope := sc266, globals := (3 : Nat), closure := [], defaults := .none, kwdefaults := .none, doc := .none, pyModule := .str (Str.ofString "law_tl0060_01") (690 : Nat), annotations := none, code := .ref (265 : Nat), closureTuple := .none, builtins := (0 : Nat) }, slots := #[] }) ::
    (nat_lit 270, { cls := .type "code", dict := (none : Option Nat), data := .fields #[.str (Str.ofString "_law_joined") (717 : Nat), .str (Str.ofString "_law_joined") (718 : Nat), .str (Str.ofString "/claim/cut.py") (719 : Nat), .int 275 (0 : Nat), .int 2 (0 : Nat), .int 0 (0 : Nat), .int 0 (0 : Nat), .int 3 (0 : Nat), .ref (267 : Nat), .bool true, .int 276 (0 : Nat), .ref (268 : Nat), .none, .none, .none, .ref (269 : Nat), .int 720 (0 : Nat), .int 275 (0 : Nat), .str (Str.ofString "/claim/cut.py") (721 : Nat)], slots := #[] }) ::
    (nat_lit 271, { cls := .type "function", dict := (none : Option Nat), data := .func { name := n271, qualname := Str.ofString "_law_joined", params := ps271, body := .stmts b271, scope := sc271, globals := (3 : Nat), closure := [], defaults := .none, kwdefaults := .none, doc := .none, pyModule := .str (Str.ofString "law_tl0060_01") (690 : Nat), annotations := none, code := .ref (270 : Nat), closureTuple := .none, builtins := (0 : Nat) }, slots := #[] }) ::
    (nat_lit 277, { cls := .type "code", dict := (none : Option Nat), data := .fields #[.str (Str.ofString "law") (723 : Nat), .str (Str.ofString "law") (724 : Nat), .str (Str.ofString "/claim/cut.py") (725 : Nat), .int 288 (0 : Nat), .int 1 (0 : Nat), .int 0 (0 : Nat), .int 0 (0 : Nat), .int 3 (0 : Nat), .ref (272 : Nat), .bool true, .int 276 (0 : Nat), .ref (273 : Nat), .none, .ref (274 : Nat), .ref (275 : Nat), .ref (276 : Nat), .int 734 (0 : Nat), .int 288 (0 : Nat), .str (Str.ofString "/claim/cut.py") (735 : Nat)], slots := #[] }) ::
    (nat_lit 278, { cls := .type "function", dict := (none : Option Nat), data := .func { name := n278, qualname := Str.ofString "law", params := ps278, body := .stmts b278, scope := sc278, globals := (3 : Nat), closure := [], defaults := .none, kwdefaults := .none, doc := .none, pyModule := .str (Str.ofString "law_tl0060_01") (690 : Nat), annotations := none, code := .ref (277 : Nat), closureTuple := .none, builtins := (0 : Nat) }, slots := #[] }) ::
    [] : List (Nat × Obj))
noncomputable def vw : Program := by
  refine' (?v : (s0 : Stmt) → (s1 : Stmt) → (s3 : Stmt) → (s5 : Stmt) → (s6 : Stmt) → (s7 : Stmt) → (s8 : Stmt) → (s9 : Stmt) → (s10 : Stmt) → (s11 : Stmt) → (s13 : Stmt) → (s14 : Stmt) → (s15 : Stmt) → (s16 : Stmt) → (s17 : Stmt) → (s19 : Stmt) → (s20 : Stmt) → (s21 : Stmt) → (s23 : Stmt) → (s25 : Stmt) → (s26 : Stmt) → (s27 : Stmt) → (s28 : Stmt) → (s29 : Stmt) → ([PySem.Challenge.rw_tl0060_01.row.prog.main.body[0]?, PySem.Challenge.rw_tl0060_01.row.prog.main.body[1]?, PySem.Challenge.rw_tl0060_01.row.prog.main.body[3]?, PySem.Challenge.rw_tl0060_01.row.prog.main.body[5]?, PySem.Challenge.rw_tl0060_01.row.prog.main.body[6]?, PySem.Challenge.rw_tl0060_01.row.prog.main.body[7]?, PySem.Challenge.rw_tl0060_01.row.prog.main.body[8]?, PySem.Challenge.rw_tl0060_01.row.prog.main.body[9]?, PySem.Challenge.rw_tl0060_01.row.prog.main.body[10]?, PySem.Challenge.rw_tl0060_01.row.prog.main.body[11]?, PySem.Challenge.rw_tl0060_01.row.prog.main.body[13]?, PySem.Challenge.rw_tl0060_01.row.prog.main.body[14]?, PySem.Challenge.rw_tl0060_01.row.prog.main.body[15]?, PySem.Challenge.rw_tl0060_01.row.prog.main.body[16]?, PySem.Challenge.rw_tl0060_01.row.prog.main.body[17]?, PySem.Challenge.rw_tl0060_01.row.prog.main.body[19]?, PySem.Challenge.rw_tl0060_01.row.prog.main.body[20]?, PySem.Challenge.rw_tl0060_01.row.prog.main.body[21]?, PySem.Challenge.rw_tl0060_01.row.prog.main.body[23]?, PySem.Challenge.rw_tl0060_01.row.prog.main.body[25]?, PySem.Challenge.rw_tl0060_01.row.prog.main.body[26]?, PySem.Challenge.rw_tl0060_01.row.prog.main.body[27]?, PySem.Challenge.rw_tl0060_01.row.prog.main.body[28]?, PySem.Challenge.rw_tl0060_01.row.prog.main.body[29]?] = [some s0, some s1, some s3, some s5, some s6, some s7, some s8, some s9, some s10, some s11, some s13, some s14, some s15, some s16, some s17, some s19, some s20, some s21, some s23, some s25, some s26, some s27, some s28, some s29]) → Program) _ _ _ _ _ _ _ _ _ _ _ _ _ _ _ _ _ _ _ _ _ _ _ _ rfl
  intro s0 s1 s3 s5 s6 s7 s8 s9 s10 s11 s13 s14 s15 s16 s17 s19 s20 s21 s23 s25 s26 s27 s28 s29 hs
  exact { PySem.Challenge.rw_tl0060_01.row.prog with main := { PySem.Challenge.rw_tl0060_01.row.prog.main with body := [s0, s1, s3, s5, s6, s7, s8, s9, s10, s11, s13, s14, s15, s16, s17, s19, s20, s21, s23, s25, s26, s27, s28, s29] } }
end Mine

end
noncomputable section
open PySem PySem.W PyProof.Rows
namespace Mine
theorem asOk (P : Params) : [2, 3, 44, 45, 51, 52, 65, 66, 72, 73, 79, 80, 86, 87, 93, 94, 100, 101, 110, 111, 115, 116, 132, 138, 139, 145, 146, 183, 184, 241, 242, 244, 245, 246, 247, 253, 254, 260, 261, 265, 266, 270, 271, 277, 278] = (hd.heap_39 P).map (·.1) := by kernel_rfl
noncomputable abbrev hook : Hook := kmHook hd.heap_39 [2, 3, 44, 45, 51, 52, 65, 66, 72, 73, 79, 80, 86, 87, 93, 94, 100, 101, 110, 111, 115, 116, 132, 138, 139, 145, 146, 183, 184, 241, 242, 244, 245, 246, 247, 253, 254, 260, 261, 265, 266, 270, 271, 277, 278] asOk [68, 61]
abbrev loose0 : List Str := [Str.ofString "tspecials", Str.ofString "_name_disallowed_re", Str.ofString "_value_disallowed_re", Str.ofString "_formatparam"]
theorem said : PySem.Challenge.rw_tl0060_01.wellSaid = true := by
  rw [PySem.W.Fast.te9446332074065402090]
  kernel_rfl
/-- The head's run, by the kernel (the library's quick forms of the machine's functions stand in). -/
theorem left : LeftO PySem.Challenge.rw_tl0060_01.row.toRowW.prog vw loose0 (fun s => xlAt vw [] s && recOk (RowW.records PySem.Challenge.rw_tl0060_01.row.toRowW) s) hook.obs hook.val 3252 := by
  intro w
  unfold openEnds fencedOpening topFrom
  rw [PySem.W.Fast.te4187177175401517315, PySem.W.Fast.te10274390034422433532, PySem.W.Fast.te14364793385576792824, PySem.W.Fast.te1435165496053646825, PySem.W.Fast.te14289696077712309145, PySem.W.Fast.te14082659384304107361, PySem.W.Fast.te8920871248978507458]
  kernel_rfl
end Mine

end
noncomputable section
open PySem PySem.W PyProof.Rows
namespace Mine
theorem headM {d : DefRec} {kwd : List (Str × Expr)} (hdef : defOf vw PySem.Challenge.rw_tl0060_01.row.name = some (d, kwd)) (hp : PySem.Challenge.rw_tl0060_01.row.prog.theDef PySem.Challenge.rw_tl0060_01.row.name = some (d.params, d.body, d.scope))
    (hk : kwWritten? d.params.kwonlyargs d.params.kw_defaults = some kwd) (walk : WalkO vw loose0 (XL vw []) (kmHook hd.heap_39 [2, 3, 44, 45, 51, 52, 65, 66, 72, 73, 79, 80, 86, 87, 93, 94, 100, 101, 110, 111, 115, 116, 132, 138, 139, 145, 146, 183, 184, 241, 242, 244, 245, 246, 247, 253, 254, 260, 261, 265, 266, 270, 271, 277, 278] asOk [68, 61]).says PySem.Challenge.rw_tl0060_01.row.toRowW d kwd fun f vs => PySem.call f vs) : PySem.Challenge.rw_tl0060_01.Holds := by
  w_on
  refine holds_law said fun said' => ?_
  refine holds_open (q := vw) (loose := loose0) (Xt := fun s => xlAt vw [] s && recOk (RowW.records PySem.Challenge.rw_tl0060_01.row.toRowW) s) (XP := XL vw []) (Yf := (kmHook hd.heap_39 [2, 3, 44, 45, 51, 52, 65, 66, 72, 73, 79, 80, 86, 87, 93, 94, 100, 101, 110, 111, 115, 116, 132, 138, 139, 145, 146, 183, 184, 241, 242, 244, 245, 246, 247, 253, 254, 260, 261, 265, 266, 270, 271, 277, 278] asOk [68, 61]).obs) (Ya := (kmHook hd.heap_39 [2, 3, 44, 45, 51, 52, 65, 66, 72, 73, 79, 80, 86, 87, 93, 94, 100, 101, 110, 111, 115, 116, 132, 138, 139, 145, 146, 183, 184, 241, 242, 244, 245, 246, 247, 253, 254, 260, 261, 265, 266, 270, 271, 277, 278] asOk [68, 61]).val) (YP := (kmHook hd.heap_39 [2, 3, 44, 45, 51, 52, 65, 66, 72, 73, 79, 80, 86, 87, 93, 94, 100, 101, 110, 111, 115, 116, 132, 138, 139, 145, 146, 183, 184, 241, 242, 244, 245, 246, 247, 253, 254, 260, 261, 265, 266, 270, 271, 277, 278] asOk [68, 61]).says) (N := 3252) left (Hook.of (kmHook hd.heap_39 [2, 3, 44, 45, 51, 52, 65, 66, 72, 73, 79, 80, 86, 87, 93, 94, 100, 101, 110, 111, 115, 116, 132, 138, 139, 145, 146, 183, 184, 241, 242, 244, 245, 246, 247, 253, 254, 260, 261, 265, 266, 270, 271, 277, 278] asOk [68, 61])) (Hook.keeps (kmHook hd.heap_39 [2, 3, 44, 45, 51, 52, 65, 66, 72, 73, 79, 80, 86, 87, 93, 94, 100, 101, 110, 111, 115, 116, 132, 138, 139, 145, 146, 183, 184, 241, 242, 244, 245, 246, 247, 253, 254, 260, 261, 265, 266, 270, 271, 277, 278] asOk [68, 61]))
    (fun s e => xl_of s (Bool.and_eq_true_iff.mp e).1) XL.keeps hdef hp hk (fun s e => recFacts_of (Bool.and_eq_true_iff.mp e).2) rfl said' (by decide +kernel) ⟨rfl, rfl, rfl, rfl, rfl, by decide +kernel⟩ ?hw walk
  case hw => w_witness2
end Mine

end
noncomputable section
open PySem PySem.W PyProof.Rows PySem.Calls PySem.Spec
namespace Mine
/-- Hides the goal behind a letter while a hypothesis is taken apart (each `obtain` writes the goal into its motive). -/
theorem hide {P : Prop} (h : ∀ G : Prop, (P → G) → G) : P := h P id
/-! ### texts as lists of code points -/
abbrev S (l : List Nat) : Str := ⟨l.toArray⟩
theorem S_len (l : List Nat) : (S l).length = l.length := by simp [Str.length]
theorem S_inj {a b : List Nat} (h : S a = S b) : a = b := by
  have := congrArg (fun s : Str => s.cps.toList) h
  simpa using this
theorem S_beq (a b : List Nat) : (S a == S b) = (a == b) := by
  by_cases h : a = b
  · subst h; simp
  · have : S a ≠ S b := fun e => h (S_inj e)
    rw [beq_eq_false_iff_ne.mpr this, beq_eq_false_iff_ne.mpr h]
theorem S_append (a b : List Nat) : S a ++ S b = S (a ++ b) := by
  show Str.append (S a) (S b) = _
  simp [Str.append]
theorem idx_one (n i : Nat) (h : i < n) : Builtin.Str.strSliceIndices (some (i : Int)) (some ((i + 1 : Nat) : Int)) 1 n = [i] := by
  simp only [Builtin.Str.strSliceIndices, sliceRange]
  have h1 : ¬ ((i : Int) < 0) := by omega
  have h2 : ¬ (((i + 1 : Nat) : Int) < 0) := by omega
  simp only [h1, h2, if_false, show (1 : Int) > 0 by decide, if_true]
  have e1 : max (0 : Int) (min (i : Int) n) = i := by omega
  have e2 : max (0 : Int) (min (((i + 1 : Nat) : Int)) n) = i + 1 := by omega
  rw [e1, e2, if_pos (by omega)]
  have : ((((i : Int) + 1 - i + 1 - 1) / 1)).toNat = 1 := by omega
  rw [this]
  simp [List.range_succ]
theorem idx_past (n i : Nat) (h : n ≤ i) : Builtin.Str.strSliceIndices (some (i : Int)) (some ((i + 1 : Nat) : Int)) 1 n = [] := by
  simp only [Builtin.Str.strSliceIndices, sliceRange]
  have h1 : ¬ ((i : Int) < 0) := by omega
  have h2 : ¬ (((i + 1 : Nat) : Int) < 0) := by omega
  simp only [h1, h2, if_false, show (1 : Int) > 0 by decide, if_true]
  have e1 : max (0 : Int) (min (i : Int) n) = n := by omega
  have e2 : max (0 : Int) (min (((i + 1 : Nat) : Int)) n) = n := by omega
  rw [e1, e2, if_neg (by omega)]
  rfl
/-- the one sign at a place, or nothing -/
def at1 (l : List Nat) (i : Nat) : List Nat := match l[i]? with | some c => [c] | none => []
theorem S_slice_one (l : List Nat) (i : Nat) : Txt.slice (S l) (some (i : Int)) (some ((i + 1 : Nat) : Int)) = S (at1 l i) := by
  unfold Txt.slice at1
  by_cases h : i < l.length
  · rw [show (S l).length = l.length from S_len l, idx_one _ _ h]
    have e : l[i]? = some l[i] := by simp [h]
    rw [e]
    by_cases h1 : l.length = 1
    · have h0 : i = 0 := by omega
      subst h0
      obtain ⟨c, rfl⟩ : ∃ c, l = [c] := List.length_eq_one_iff.mp h1
      simp
    · have : ((1 : Int) == 1 && [i].length == l.length) = false := by simp; omega
      rw [if_neg (by rw [this]; simp)]
      simp [e]
  · have hn : l.length ≤ i := by omega
    rw [show (S l).length = l.length from S_len l, idx_past _ _ hn]
    have e : l[i]? = none := by simp [hn]
    rw [e]
    by_cases h1 : l.length = 0
    · have : l = [] := List.length_eq_zero_iff.mp h1
      subst this; simp
    · have : ((1 : Int) == 1 && ([] : List Nat).length == l.length) = false := by simp; omega
      rw [if_neg (by rw [this]; simp)]
      simp
end Mine

end
noncomputable section
open PySem PySem.W PyProof.Rows PySem.Calls PySem.Spec
namespace Mine
abbrev Led := List (Addr × Obj)
abbrev lstN (vs : List Value) (n : Nat) : Obj := { cls := .type "list", data := .seq vs.toArray n }

section
variable {prog : Program} {w : World} {A : Around} {E : Value → Shared → Prop} {s : Shared} {env : Env} {h₀ : Heap} {x : Str} {body : List Stmt} {Q : Flow → Shared → Prop}

theorem news_lt {h₀ h : Heap} {L : Addr} {news : Led} (N : News h₀ L h news) : ∀ p ∈ news, p.1 < h.objs.size := fun p hp => Heap.lt_size (N p hp).1

end
end Mine

end
noncomputable section
open PySem PySem.W PyProof.Rows PySem.Calls PySem.Spec
namespace Mine
abbrev PR := PySem.Challenge.rw_tl0060_01.row.prog

/-- a place where the walk is to halt -/
structure Halt (P : Prop) : Prop where
  out : P
theorem Halt.in {P : Prop} (h : Halt P) : P := h.out

theorem frKeep {h₀ h h' : Heap} {L : Addr} {m : Str → Option Value} (F : Fr h₀ L h m) (k : ∀ d o, h.get? d = some o → h'.get? d = some o) : Fr h₀ L h' m :=
  ⟨F.ns.keeps k, fun b o e => k _ _ (F.keep b o e), F.above⟩
theorem newsKeep {h₀ h h' : Heap} {L : Addr} {news : List (Addr × Obj)} (N : News h₀ L h news) (k : ∀ d o, h.get? d = some o → h'.get? d = some o) : News h₀ L h' news :=
  fun p hp => ⟨k _ _ (N p hp).1, (N p hp).2⟩
/-- what every call of a def of the text may lean on -/
structure Cx (w : World) (p : Program) (loose : List Str) (mean : ExcName → Option Value) (mg mb : Str → Option Value) (dp un : Nat) (cs : Scope) (A₀ : Around) (base : Heap) (outer : List Env) (h₀ : Heap) : Prop where
  B : Below A₀ base outer h₀
  X : (hd.heap_39 w.params).In h₀
  T : Top p loose mean mg mb h₀
  C1 : CodeHd base 72 68
  C2 : CodeHd base 65 61
  hk : cs.kind = .function
  hdp : dp + 20 < recursionLimit
  hun : un + 400 < cLine
/-- Hides what a walk is to end in behind a letter (it stands in every step's term). -/
theorem hidePost {β : Type} {mo : Model} {A : Around} {p : Sem β} {Q : β → Shared → Prop} {E : Value → Shared → Prop} {s : Shared} (h : ∀ Q' : β → Shared → Prop, (∀ f s', Q f s' → Q' f s') → wpAny mo A p Q' E s) : wpAny mo A p Q E s := h Q fun _ _ x => x
theorem hidePostT {α β : Type} {mo : Model} {A A' : Around} {q : Sem α} {p : Sem β} {Q : β → Shared → Prop} {E E' : Value → Shared → Prop} {s : Shared} (h : ∀ Q' : β → Shared → Prop, (∀ f s', Q f s' → Q' f s') → wpAny mo A q (fun _ s₃ => wpAny mo A' p Q' E s₃) E' s) :
    wpAny mo A q (fun _ s₃ => wpAny mo A' p Q E s₃) E' s := h Q fun _ _ x => x
end Mine

end
noncomputable section
open PySem PySem.W PyProof.Rows PySem.Calls PySem.Spec
namespace Mine
/-- the frame's map with one name set -/
abbrev setN (m : Str → Option Value) (x : Str) (v : Value) : Str → Option Value := fun y => if y = x then some v else m y
theorem setN_twice (m : Str → Option Value) (x : Str) (v v' : Value) : (fun y => if y = x then some v' else setN m x v y) = setN m x v' := by
  funext y; by_cases h : y = x <;> simp [setN, h]
theorem setN_self {m : Str → Option Value} {x : Str} {v : Value} (h : m x = some v) : setN m x v = m := by
  funext y; by_cases e : y = x
  · subst e; simp [setN, h]
  · simp [setN, e]

section
variable {prog : Program} {w : World} {A : Around} {E : Value → Shared → Prop} {Q : Flow → Shared → Prop} {s : Shared} {env : Env} {h₀ : Heap} {L : Addr}
/-- the end of a turn of a while that turns one int -/
structure IntEnd (h₀ : Heap) (L : Addr) (s : Shared) (m : Str → Option Value) (news : Led) (x : Str) (P : Int → Prop) (μ : Int → Nat) (i : Int) (f : Flow) (s₃ : Shared) : Prop where
  out : f = .next ∧ ∃ h' tk i' t, s₃ = { s with heap := h', toks := tk } ∧ Fr h₀ L h' (setN m x (.int i' t)) ∧ News h₀ L h' news ∧ μ i' < μ i ∧ P i'
theorem IntEnd.mk' {s : Shared} {m m' : Str → Option Value} {news : Led} {x : Str} {P : Int → Prop} {μ : Int → Nat} {i i' : Int} {t : Tok} {h' : Heap} {tk : Nat}
    (F : Fr h₀ L h' m') (N : News h₀ L h' news) (e : m' = setN m x (.int i' t)) (hμ : μ i' < μ i) (hP : P i') : IntEnd h₀ L s m news x P μ i .next { s with heap := h', toks := tk } :=
  ⟨rfl, h', tk, i', t, rfl, e ▸ F, N, hμ, hP⟩
theorem whileInt {test : Expr} {body : List Stmt} {pos : Pos} {m : Str → Option Value} {news : Led} (x : Str) (P : Int → Prop) (μ : Int → Nat) {i₀ : Int} {t₀ : Tok}
    (F : Fr h₀ L s.heap m) (N : News h₀ L s.heap news) (hx : m x = some (.int i₀ t₀)) (h0 : P i₀)
    (turn : ∀ i t h₁ tk₁, P i → Fr h₀ L h₁ (setN m x (.int i t)) → News h₀ L h₁ news →
      wpAny (model prog w) A (isTrue test env (eval test env)) (fun b s₂ =>
        if b = true then wpAny (model prog w) A (execs body env) (IntEnd h₀ L s m news x P μ i) E s₂ else Q .next s₂) E { s with heap := h₁, toks := tk₁ })
    (hE : PassesOwn (model prog w) A env E := by passes_own) :
    wpAny (model prog w) A (exec (.While test body [] pos) env) Q E s := by
  refine While_inv2 (n₀ := μ i₀) (m := m) (fun n m₁ news₁ => ∃ i t, m₁ = setN m x (.int i t) ∧ news₁ = news ∧ P i ∧ n = μ i) F N ⟨i₀, t₀, (setN_self hx).symm, rfl, h0, rfl⟩ ?_ hE
  rintro n m₁ news₁ h₁ tk₁ F₁ N₁ ⟨i, t, rfl, rfl, hP, rfl⟩
  refine wpAny_mono (turn i t h₁ tk₁ hP F₁ N₁) (fun b s₂ hb => ?_) fun _ _ e => e
  cases b with
  | false => exact hb
  | true =>
    simp only [if_true] at hb ⊢
    refine wpAny_mono hb (fun f s₃ h => ?_) fun _ _ e => e
    obtain ⟨rfl, h', tk, i', t', rfl, F', N', hμ, hP'⟩ := h.out
    exact ⟨h', tk, _, _, _, rfl, F', N', hμ, i', t', rfl, rfl, hP', rfl⟩
end

theorem S_slice_oneI (l : List Nat) (i : Int) (h0 : 0 ≤ i) : Txt.slice (S l) (some i) (some (i + 1)) = S (at1 l i.toNat) := by
  obtain ⟨k, rfl⟩ := Int.eq_ofNat_of_zero_le h0
  exact S_slice_one l k
theorem S_item (l : List Nat) (i : Int) (h0 : 0 ≤ i) (hi : i < l.length) : Txt.item (S l) i = S [l.getD i.toNat 0] := by
  obtain ⟨k, rfl⟩ := Int.eq_ofNat_of_zero_le h0
  have hk : k < l.length := by omega
  have e : Txt.charAt (S l) (k : Int) = some l[k] := by
    have hl : (S l).length = l.length := S_len l
    have e : seqIndex? (k : Int) l.length = some k := by
      have h1 : ¬ ((k : Int) < 0) := by omega
      simp only [seqIndex?, h1, if_false]
      have h2 : (decide (0 ≤ (k : Int)) && decide ((k : Int) < (l.length : Int))) = true := by simp [hk]
      rw [if_pos h2]
      simp
    unfold Txt.charAt
    rw [hl, e]
    simp [hk]
  unfold Txt.item
  rw [e]
  simp [hk, S]
end Mine
namespace Mine
section
variable {prog : Program} {w : World} {A : Around} {E : Value → Shared → Prop} {Q : Flow → Shared → Prop} {s : Shared} {env : Env}
/-- a while whose test is false at once -/
theorem whileOnce {test : Expr} {body : List Stmt} {pos : Pos}
    (h : wpAny (model prog w) A (isTrue test env (eval test env)) (fun b s₂ => if b = true then False else Q .next s₂) E s)
    (hE : PassesOwn (model prog w) A env E := by passes_own) :
    wpAny (model prog w) A (exec (.While test body [] pos) env) Q E s := by
  refine wpAny_While (codeAny_whileLoop (fun n s' => s' = s) ?_ 0 rfl)
  rintro n s' rfl
  refine wpAny_mono h (fun b s₂ h₂ => ?_) hE
  cases b with
  | false =>
    simp only [Bool.false_eq_true, if_false] at h₂ ⊢
    exact wpAny_execs_nil h₂
  | true => simp only [if_true] at h₂
end
end Mine
namespace Mine
theorem S_getD_append (l c : List Nat) (i : Nat) (h : i < l.length) : (l ++ c).getD i 0 = l.getD i 0 := by
  simp [List.getD_eq_getElem?_getD, List.getElem?_append_left h]
theorem slice_none (x : Str) : Txt.slice x none none = x := by
  obtain ⟨cps⟩ := x
  have : (⟨cps⟩ : Str) = S cps.toList := by simp
  rw [this]
  show StrLaws.sliceText _ _ _ = _
  have e : StrLaws.sliceText (S cps.toList) none none = StrLaws.sliceText (S cps.toList) none (some ((S cps.toList).cps.toList.length : Int)) := by
    unfold StrLaws.sliceText
    rw [StrLaws.sliceIdx_none_hi]
    simp [Str.length]
  rw [e, StrLaws.sliceText_to ⟨by omega, by omega⟩]
  have : List.take cps.size cps.toList = cps.toList := by rw [← Array.length_toList]; exact List.take_length
  simp [this]
section
variable {prog : Program} {w : World} {A : Around} {E : Value → Shared → Prop} {s : Shared} {h₀ : Heap} {L : Addr} {m : Str → Option Value} {news : Led}
theorem sliceAll {value slice : Expr} {x : Str} {t : Tok} {Q : Value → Shared → Prop} (hF : Fr h₀ L s.heap m) (hN : News h₀ L s.heap news) (hsz : x.length ≤ sizeLine)
    (h : ∀ h' t' k, Fr h₀ L h' m → News h₀ L h' news → Q (.str x t') { s with heap := h', toks := k })
    (hs : subscripted slice false (.str x t) (.ref s.heap.objs.size) = operate [.ref s.heap.objs.size, .str x t] (getItem (.str x t) (.ref s.heap.objs.size)) := by with_unfolding_all rfl)
    (ht : ∀ r, letTemporaryGo value (.str x t) r = pure () := by intro _; with_unfolding_all rfl) :
    wpAny (model prog w) A (subscriptTail value slice (.str x t) (.ref s.heap.objs.size)) Q E { s with heap := s.heap.push { cls := .type "slice", data := .fields #[.none, .none, .none] } } :=
  slice_strN_nn hF hN (fun h' t' k a b => by rw [slice_none]; exact h h' t' k a b) hs ht hsz
end
end Mine
namespace Mine
theorem neAll1 {a : Addr} {l : Led} (h : AllLt a l) : ∀ p ∈ l, p.1 ≠ a + 1 := fun p hp => Nat.ne_of_lt (Nat.lt_succ_of_lt (ktn_ltOf h p hp))
theorem neAll2 {a : Addr} {l : Led} (h : AllLt a l) : ∀ p ∈ l, p.1 ≠ a + 1 + 1 := fun p hp => Nat.ne_of_lt (Nat.lt_succ_of_lt (Nat.lt_succ_of_lt (ktn_ltOf h p hp)))
theorem neAll3 {a : Addr} {l : Led} (h : AllLt a l) : ∀ p ∈ l, p.1 ≠ a + 1 + 1 + 1 := fun p hp => Nat.ne_of_lt (Nat.lt_succ_of_lt (Nat.lt_succ_of_lt (Nat.lt_succ_of_lt (ktn_ltOf h p hp))))
end Mine

end
noncomputable section
open PySem PySem.W PyProof.Rows PySem.Calls PySem.Spec
namespace Mine
section
variable {prog : Program} {w : World} {A : Around} {E : Value → Shared → Prop} {s : Shared} {h₀ : Heap} {L l : Addr} {m : Str → Option Value} {news : Led} {vs : List Value} {n : Nat}
theorem isL (N : News h₀ L s.heap news) (hm : (l, lstN vs n) ∈ news) : s.heap.IsList l vs.toArray := ⟨_, (N _ hm).1, rfl, n, rfl⟩
theorem truthyL {Q : Bool → Shared → Prop} (N : News h₀ L s.heap news) (hm : (l, lstN vs n) ∈ news) (hz : vs.length < 2 ^ 62)
    (h : Q (!vs.isEmpty) { s with toks := s.toks + 1 + 1 }) : wpAny (model prog w) A (truthy (.ref l)) Q E s :=
  wpAny_truthy_list (isL N hm) (by simp only [List.size_toArray]; omega) (by
    have e : vs.toArray.isEmpty = vs.isEmpty := by simp
    rw [e]; exact h)
theorem lenL {Q : Value → Shared → Prop} (N : News h₀ L s.heap news) (hm : (l, lstN vs n) ∈ news) (hz : vs.length < 2 ^ 62)
    (h : ∀ t, Q (.int (vs.length : Int) t) { s with toks := s.toks + 1 + 1 }) : wpAny (model prog w) A (call (.builtin "len") [.ref l]) Q E s :=
  PyProof.Rows.len_list (isL N hm) (by simp only [List.size_toArray]; omega) (by
    have e : vs.toArray.size = vs.length := List.size_toArray ..
    rw [e]; exact h _)
theorem itemInt {value slice : Expr} {ds : List Int} {k : Int} {u : Tok} {Q : Value → Shared → Prop} (N : News h₀ L s.heap news) (hm : (l, lstN vs n) ∈ news) (hi : IntsAre vs ds)
    (h0 : 0 ≤ k) (hk : k < ds.length) (hz : ds.length < 2 ^ 62) (h : ∀ t, Q (.int (ds.getD k.toNat 0) t) s)
    (hs : subscripted slice false (.ref l) (.int k u) = operate [.ref l, .int k u] (getItem (.ref l) (.int k u)) := by with_unfolding_all rfl) (hg : ∀ r, letTemporaryGo value (.ref l) r = pure () := by intro _; with_unfolding_all rfl) :
    wpAny (model prog w) A (subscriptTail value slice (.ref l) (.int k u)) Q E s := by
  have hlt : k.toNat < ds.length := by omega
  obtain ⟨t, ht⟩ := hi.get k.toNat ds[k.toNat] (by simp [hlt])
  have e : ds.getD k.toNat 0 = ds[k.toNat] := by simp [hlt]
  have := h t
  rw [e] at this
  exact item_listL (isL N hm) h0 (by omega) ht this hs hg
theorem itemVal {value slice : Expr} {x : Value} {k : Int} {u : Tok} {Q : Value → Shared → Prop} (N : News h₀ L s.heap news) (hm : (l, lstN vs n) ∈ news)
    (h0 : 0 ≤ k) (hk : k < 2 ^ 62) (hx : vs[k.toNat]? = some x) (h : Q x s)
    (hs : subscripted slice false (.ref l) (.int k u) = operate [.ref l, .int k u] (getItem (.ref l) (.int k u)) := by with_unfolding_all rfl) (hg : ∀ r, letTemporaryGo value (.ref l) r = pure () := by intro _; with_unfolding_all rfl) :
    wpAny (model prog w) A (subscriptTail value slice (.ref l) (.int k u)) Q E s := item_listL (isL N hm) h0 (by omega) hx h hs hg
theorem itemStr {value slice : Expr} {as : List Str} {k : Int} {u : Tok} {Q : Value → Shared → Prop} (N : News h₀ L s.heap news) (hm : (l, lstN vs n) ∈ news) (hi : StrsAre vs as)
    (h0 : 0 ≤ k) (hk : k < as.length) (hz : as.length < 2 ^ 62) (h : ∀ t, Q (.str (as.getD k.toNat Str.empty) t) s)
    (hs : subscripted slice false (.ref l) (.int k u) = operate [.ref l, .int k u] (getItem (.ref l) (.int k u)) := by with_unfolding_all rfl) (hg : ∀ r, letTemporaryGo value (.ref l) r = pure () := by intro _; with_unfolding_all rfl) :
    wpAny (model prog w) A (subscriptTail value slice (.ref l) (.int k u)) Q E s := by
  have hlt : k.toNat < as.length := by omega
  obtain ⟨t, ht⟩ := hi.get k.toNat as[k.toNat] (by simp [hlt])
  have e : as.getD k.toNat Str.empty = as[k.toNat] := by simp [hlt]
  have := h t
  rw [e] at this
  exact item_listL (isL N hm) h0 (by omega) ht this hs hg
end
end Mine
namespace Mine
theorem led_abs {h₀ h : Heap} {L : Addr} {led : Led} {P : Prop} (N : News h₀ L h led) (k : ∀ LED, News h₀ L h LED → (∀ p ∈ led, p ∈ LED) → (∀ p ∈ LED, p ∈ led) → P) : P := k led N (fun _ h => h) (fun _ h => h)
/-- the number that digits to the base 2 ^ n make -/
noncomputable def dval (n : Nat) : List Int → Int
  | [] => 0
  | d :: r => d + dval n r * 2 ^ n
theorem dval_append (n : Nat) (a b : List Int) : dval n (a ++ b) = dval n a + dval n b * 2 ^ (n * a.length) := by
  induction a with
  | nil => simp [dval]
  | cons d r ih =>
    simp only [List.cons_append, dval, ih, List.length_cons]
    rw [Int.add_mul, Int.mul_assoc, ← Int.pow_add, show n * r.length + n = n * (r.length + 1) by rw [Nat.mul_succ]]
    omega
/-- the digits from i on, before j -/
def cut (ds : List Int) (i j : Nat) : List Int := (ds.drop i).take (j - i)
theorem cut_split (ds : List Int) (i k j : Nat) (h1 : i ≤ k) (h2 : k ≤ j) : cut ds i j = cut ds i k ++ cut ds k j := by
  unfold cut
  have e : j - i = (k - i) + (j - k) := by omega
  rw [e, List.take_add, List.drop_drop, show i + (k - i) = k by omega]
theorem cut_len (ds : List Int) (i j : Nat) (h1 : i ≤ j) (h2 : j ≤ ds.length) : (cut ds i j).length = j - i := by
  unfold cut; simp; omega
theorem cut_one (ds : List Int) (i : Nat) (h : i < ds.length) : cut ds i (i + 1) = [ds.getD i 0] := by
  unfold cut
  rw [show i + 1 - i = 1 by omega]
  rw [List.drop_eq_getElem_cons h, List.take_succ_cons, List.take_zero]
  simp [h]
end Mine
namespace Mine
theorem dval_bound (n : Nat) (l : List Int) (h : ∀ d ∈ l, 0 ≤ d ∧ d < 2 ^ n) : 0 ≤ dval n l ∧ dval n l < 2 ^ (n * l.length) := by
  induction l with
  | nil => simp [dval]
  | cons d r ih =>
    obtain ⟨a, b⟩ := ih fun x hx => h x (.tail _ hx)
    obtain ⟨c, e⟩ := h d (.head _)
    simp only [dval, List.length_cons]
    have hp : (0 : Int) < 2 ^ n := Int.pow_pos (by decide)
    have h1 : 0 ≤ dval n r * 2 ^ n := Int.mul_nonneg a (Int.le_of_lt hp)
    refine ⟨by omega, ?_⟩
    have h2 : dval n r * 2 ^ n ≤ (2 ^ (n * r.length) - 1) * 2 ^ n := Int.mul_le_mul_of_nonneg_right (by omega) (Int.le_of_lt hp)
    have h3 : ((2 : Int) ^ (n * r.length) - 1) * 2 ^ n = 2 ^ (n * (r.length + 1)) - 2 ^ n := by
      rw [Int.sub_mul, Int.one_mul, ← Int.pow_add, Nat.mul_succ]
    omega
theorem cut_mem {ds : List Int} {i j : Nat} {d : Int} (h : d ∈ cut ds i j) : d ∈ ds := List.mem_of_mem_drop (List.mem_of_mem_take h)
theorem dval_cut_bound (n : Nat) (ds : List Int) (i j : Nat) (hn : n ≤ 8) (hz : ds.length ≤ 8) (h : ∀ d ∈ ds, 0 ≤ d ∧ d < 2 ^ n) : 0 ≤ dval n (cut ds i j) ∧ dval n (cut ds i j) < 18446744073709551616 := by
  obtain ⟨a, b⟩ := dval_bound n (cut ds i j) fun d hd => h d (cut_mem hd)
  refine ⟨a, Int.lt_of_lt_of_le b ?_⟩
  have hl : (cut ds i j).length ≤ 8 := by unfold cut; simp; omega
  have : n * (cut ds i j).length ≤ 64 := Nat.le_trans (Nat.mul_le_mul hn hl) (by decide)
  have h1 : 2 ^ (n * (cut ds i j).length) ≤ 2 ^ 64 := Nat.pow_le_pow_right (show 0 < 2 by decide) this
  have h2 : (2 : Nat) ^ 64 = 18446744073709551616 := by decide
  have h3 : ((2 ^ (n * (cut ds i j).length) : Nat) : Int) = (2 : Int) ^ (n * (cut ds i j).length) := by rw [Int.natCast_pow]; rfl
  rw [← h3]
  rw [h2] at h1
  exact Int.ofNat_le.mpr h1
theorem mid_is (i j : Nat) : ((i : Int) + (j : Int)).fdiv (2 ^ Int.toNat 1) = (((i + j) / 2 : Nat) : Int) := by
  rw [show (2 : Int) ^ Int.toNat 1 = 2 from rfl, Int.fdiv_eq_ediv_of_nonneg _ (by decide)]
  omega
end Mine

end
noncomputable section
open PySem PySem.W PyProof.Rows PySem.Calls PySem.Spec
namespace Mine
/-- what a def's table of codes holds: nothing yet, or the one def within it -/
def TabSt (ln cl : Nat) (qual : Str) (ps : Array Value) (rest : Led) : Prop :=
  ps = #[] ∨ ∃ c' oc vs t, ps = #[rawInt ln, rawInt cl, .ref c'] ∧ (c', oc) ∈ rest ∧ oc.data = .fields vs ∧ vs[1]? = some (.str qual t)
theorem TabSt.mono {ln cl : Nat} {qual : Str} {ps : Array Value} {rest rest' : Led} (h : TabSt ln cl qual ps rest) (hs : ∀ p ∈ rest, p ∈ rest') : TabSt ln cl qual ps rest' :=
  h.imp id fun ⟨c', oc, vs, t, a, b, c⟩ => ⟨c', oc, vs, t, a, hs _ b, c⟩
section
variable {M : Model} {A : Around} {E : Value → Shared → Prop} {s : Shared} {h₀ : Heap} {L a c P : Addr} {m mg mb : Str → Option Value} {cn : Str} {cs : Scope} {ccd : Value} {cl : List (Str × Addr)} {news : List (Addr × Obj)}
  {p : Program} {loose : List Str} {mean : ExcName → Option Value} {name qual : Str} {params : Arguments} {body : List Stmt} {scope : Scope} {ps : Array Value} {pos : Pos} {firstLine : Nat} {clos : List (Str × Addr)}
theorem nestAny {news0 : Led} (hs0 : ∀ p ∈ news0, p ∈ news) {Q : Value → Shared → Prop} (F : Fr h₀ L s.heap m) (N : News h₀ L s.heap ((P, tabObj ps) :: news)) (hA : ∀ q ∈ news, q.1 ≠ P) (T : Top p loose mean mg mb h₀) (C : CodeHd h₀ c P) (hcd : ccd = .ref c)
    (hst : TabSt pos.line pos.col qual ps news0) (hcl : closureFor scope (envX cn cs L a ccd cl) = pure clos)
    (h : ∀ f c' oc vs t ctv doc tl h' tk, Fr h₀ L h' m →
      News h₀ L h' ((f, fnMade name qual params body scope clos doc ((mg "__name__").getD .none) c' ctv) :: (P, tabObj #[rawInt pos.line, rawInt pos.col, .ref c']) :: (tl ++ news)) →
      (c', oc) ∈ tl ++ news0 → oc.data = .fields vs → vs[1]? = some (.str qual t) → (∀ q ∈ tl, ∀ r ∈ (P, tabObj ps) :: news, r.1 < q.1) → (∀ q ∈ tl ++ news, q.1 < f) → P < f → Q (.ref f) { s with heap := h', toks := tk }) :
    wpAny M A (makeFunction name qual params (.stmts body) scope (envX cn cs L a ccd cl) [] [] [] pos firstLine) Q E s := by
  rcases hst with rfl | ⟨c', oc, vs, t, rfl, hm, hd, hv⟩
  · refine nest_K F N T C hcd (UpdF.head hA) trivial rfl hcl fun f c' oc vs t ctv doc h' tk F' N' hd hv l1 l2 => ?_
    refine h f c' oc vs t ctv doc [(c', oc)] h' tk F' ?_ (List.Mem.head _) hd hv ?_ ?_ ?_
    · intro q hq
      rcases List.mem_cons.mp hq with rfl | hq
      · exact N' _ (List.Mem.head _)
      · rcases List.mem_cons.mp hq with rfl | hq
        · exact N' _ (List.Mem.tail _ (List.Mem.tail _ (List.Mem.head _)))
        · rcases List.mem_append.mp hq with hq | hq
          · rw [List.mem_singleton.mp hq]; exact N' _ (List.Mem.tail _ (List.Mem.head _))
          · exact N' _ (List.Mem.tail _ (List.Mem.tail _ (List.Mem.tail _ hq)))
    · intro q hq r hr
      rw [List.mem_singleton.mp hq]
      exact l1 r hr
    · intro q hq
      rcases List.mem_append.mp hq with hq | hq
      · rw [List.mem_singleton.mp hq]; exact l2
      · exact Nat.lt_trans (l1 q (List.Mem.tail _ hq)) l2
    · exact Nat.lt_trans (l1 _ (List.Mem.head _)) l2
  · refine nestHit_K (c' := c') F N T C hcd (List.Mem.head _) (by simp [TriplesOk, rawInt]) (by simp [codeAmong, rawInt]) hcl fun f ctv doc h' tk F' N' l1 => ?_
    refine h f c' oc vs t ctv doc [] h' tk F' N' hm hd hv (fun q hq => nomatch hq) (fun q hq => l1 q (List.Mem.tail _ hq)) (l1 _ (List.Mem.head _))
end
end Mine
namespace Mine
theorem news_sub {h₀ h : Heap} {L : Addr} {l l' : Led} (N : News h₀ L h l) (hs : ∀ p ∈ l', p ∈ l) : News h₀ L h l' := fun p hp => N p (hs p hp)
end Mine

namespace Mine
theorem news_rot {h₀ h : Heap} {L : Addr} {x y a b c : Addr × Obj} {tl news : Led} (N : News h₀ L h (x :: y :: (tl ++ (a :: b :: c :: news)))) : News h₀ L h (x :: a :: b :: c :: y :: (tl ++ news)) := by
  refine news_sub N fun q hq => ?_
  simp only [List.mem_cons, List.mem_append] at hq ⊢
  rcases hq with h | h | h | h | h | h | h <;> simp [h]
theorem ne_cells {P a : Nat} (h : P < a) : a + 1 ≠ P ∧ a + 1 + 1 ≠ P ∧ a + 1 + 1 + 1 ≠ P := by omega
end Mine

end
noncomputable section
open PySem PySem.W PyProof.Rows PySem.Calls PySem.Spec
namespace Mine
theorem fold_repl (v : Value) (k : Nat) : List.foldl (fun x1 x2 => x1 ++ x2) #[] (List.replicate k #[v]) = (List.replicate k v).toArray := by
  have key : ∀ (k : Nat) (acc : List Value), List.foldl (fun x1 x2 => x1 ++ x2) acc.toArray (List.replicate k #[v]) = (acc ++ List.replicate k v).toArray := by
    intro k
    induction k with
    | zero => intro acc; simp
    | succ k ih =>
      intro acc
      rw [List.replicate_succ, List.foldl_cons]
      have e : acc.toArray ++ #[v] = (acc ++ [v]).toArray := by simp
      rw [e, ih, List.replicate_succ, List.append_assoc]
      rfl
  simpa using key k []
theorem replInts (t : Tok) : ∀ k, IntsAre (List.replicate k (.int 0 t)) (List.replicate k 0)
  | 0 => .nil
  | k + 1 => .cons 0 t (replInts t k)
section
variable {prog : Program} {w : World} {A : Around} {E : Value → Shared → Prop} {s : Shared} {h₀ : Heap} {L l : Addr} {m : Str → Option Value} {news : Led}
theorem zerosL {t u : Tok} {x : Int} {n : Nat} {Q : Value → Shared → Prop} (F : Fr h₀ L s.heap m) (N : News h₀ L s.heap news) (hm : (l, lstN [.int 0 t] n) ∈ news) (h0 : 0 ≤ x) (h1 : x ≤ 64)
    (h : ∀ q vs h', Fr h₀ L h' m → News h₀ L h' ((q, lstN vs 0) :: news) → IntsAre vs (List.replicate x.toNat 0) → (∀ p ∈ news, p.1 < q) → Q (.ref q) { s with heap := h' }) :
    wpAny (model prog w) A (binaryOp .Mult (.ref l) (.int x u)) Q E s := by
  refine mul_list (k := n) F N (N _ hm).1 (by omega) (by omega) (by simp; omega) fun h' F' N' => ?_
  refine h _ (List.replicate x.toNat (.int 0 t)) h' F' ?_ (replInts t _) (news_lt N)
  have e : List.foldl (fun x1 x2 => x1 ++ x2) #[] (List.replicate (if (#[Value.int 0 t] : Array Value).isEmpty = true then 0 else x.toNat) #[Value.int 0 t]) = (List.replicate x.toNat (Value.int 0 t)).toArray := by
    rw [if_neg (by simp)]
    exact fold_repl _ _
  rw [e] at N'
  exact N'
end
/-- the digits of x to the base 2 ^ n, k of them, the last whatever is left -/
noncomputable def digs (n : Nat) (x : Int) : Nat → List Int
  | 0 => []
  | 1 => [x]
  | k + 2 => x % 2 ^ n :: digs n (x / 2 ^ n) (k + 1)
theorem digs_len (n : Nat) : ∀ (k : Nat) (x : Int), (digs n x k).length = k
  | 0, _ => rfl
  | 1, _ => rfl
  | k + 2, x => by simp [digs, digs_len n (k + 1)]
theorem dval_digs (n : Nat) : ∀ (k : Nat) (x : Int), dval n (digs n x (k + 1)) = x
  | 0, x => by simp [digs, dval]
  | k + 1, x => by
    simp only [digs, dval, dval_digs n k]
    have := Int.emod_add_mul_ediv x (2 ^ n)
    rw [Int.mul_comm] at this
    exact this
theorem digs_bound (n : Nat) : ∀ (k : Nat) (x : Int), 0 ≤ x → x < 2 ^ (n * k) → ∀ d ∈ digs n x k, 0 ≤ d ∧ d < 2 ^ n
  | 0, _, _, _, d, hd => nomatch hd
  | 1, x, h0, h1, d, hd => by
    rw [List.mem_singleton.mp hd]
    rw [Nat.mul_one] at h1
    exact ⟨h0, h1⟩
  | k + 2, x, h0, h1, d, hd => by
    have hp : (0 : Int) < 2 ^ n := Int.pow_pos (by decide)
    rcases List.mem_cons.mp hd with rfl | hd
    · exact ⟨Int.emod_nonneg _ (by omega), Int.emod_lt_of_pos _ hp⟩
    · refine digs_bound n (k + 1) _ (Int.ediv_nonneg h0 (by omega)) ?_ d hd
      rw [Int.ediv_lt_iff_lt_mul hp, ← Int.pow_add]
      exact h1
/-- the low j digits and the high ones -/
theorem digs_split (n : Nat) : ∀ (j k : Nat) (x : Int), digs n x (j + 1 + (k + 1)) = digs n (x % 2 ^ (n * (j + 1))) (j + 1) ++ digs n (x / 2 ^ (n * (j + 1))) (k + 1)
  | 0, k, x => by
    show digs n x (0 + 1 + (k + 1)) = _
    rw [show 0 + 1 + (k + 1) = k + 2 by omega]
    simp [digs]
  | j + 1, k, x => by
    rw [show j + 1 + 1 + (k + 1) = (j + 1 + k) + 2 by omega]
    have ih := digs_split n j k (x / 2 ^ n)
    rw [show j + 1 + (k + 1) = j + 1 + k + 1 by omega] at ih
    have hp : (0 : Int) < 2 ^ n := Int.pow_pos (by decide)
    have hq : (0 : Int) < 2 ^ (n * (j + 1)) := Int.pow_pos (by decide)
    have e1 : (2 : Int) ^ (n * (j + 1 + 1)) = 2 ^ n * 2 ^ (n * (j + 1)) := by rw [← Int.pow_add]; congr 1; rw [Nat.mul_succ n (j + 1)]; omega
    simp only [digs]
    rw [ih, e1]
    have e2 : x % (2 ^ n * 2 ^ (n * (j + 1))) % 2 ^ n = x % 2 ^ n := Int.emod_emod_of_dvd _ (Int.dvd_mul_right _ _)
    have e3 : x % (2 ^ n * 2 ^ (n * (j + 1))) / 2 ^ n = x / 2 ^ n % 2 ^ (n * (j + 1)) := by
      rw [Int.emod_def x, Int.emod_def (x / 2 ^ n), Int.ediv_ediv_of_nonneg (Int.le_of_lt hp)]
      have e5 : x - 2 ^ n * 2 ^ (n * (j + 1)) * (x / (2 ^ n * 2 ^ (n * (j + 1)))) = x + 2 ^ n * (-(2 ^ (n * (j + 1)) * (x / (2 ^ n * 2 ^ (n * (j + 1)))))) := by
        rw [Int.mul_neg, Int.mul_assoc]; omega
      rw [e5, Int.add_mul_ediv_left _ _ (by omega)]
      omega
    have e4 : x / (2 ^ n * 2 ^ (n * (j + 1))) = x / 2 ^ n / 2 ^ (n * (j + 1)) := (Int.ediv_ediv_of_nonneg (Int.le_of_lt hp)).symm
    rw [e2, e3, e4]
    rfl
end Mine
namespace Mine
theorem bits_fact : ∀ k : Fin 128, Builtin.Int.intBits (k.val : Int) ≤ 7 ∧ k.val < 2 ^ Builtin.Int.intBits (k.val : Int) ∧ (k.val ≠ 0 → 1 ≤ Builtin.Int.intBits (k.val : Int)) := by decide +kernel
theorem bits_factI (a : Int) (h0 : 0 ≤ a) (h1 : a < 128) : Builtin.Int.intBits a ≤ 7 ∧ a < 2 ^ Builtin.Int.intBits a ∧ (a ≠ 0 → 1 ≤ Builtin.Int.intBits a) := by
  obtain ⟨k, rfl⟩ := Int.eq_ofNat_of_zero_le h0
  obtain ⟨p, q, r⟩ := bits_fact ⟨k, by omega⟩
  refine ⟨p, ?_, fun h => r (by simp only; omega)⟩
  have : ((k : Nat) : Int) < ((2 ^ Builtin.Int.intBits (k : Int) : Nat) : Int) := Int.ofNat_lt.mpr q
  rwa [Int.natCast_pow] at this
theorem count_fact (a : Int) (n : Nat) (h0 : 0 ≤ a) (h1 : a < 128) (hn0 : 2 ≤ n) (hn1 : n ≤ 3) :
    ∃ nd : Nat, ((Builtin.Int.intBits a : Int) + (n : Int) - 1).fdiv (n : Int) = (nd : Int) ∧ nd ≤ 8 ∧ a < 2 ^ (n * nd) ∧ (a ≠ 0 → 1 ≤ nd) := by
  obtain ⟨p, q, r⟩ := bits_factI a h0 h1
  generalize Builtin.Int.intBits a = bt at *
  refine ⟨(bt + n - 1) / n, ?_, ?_, ?_, ?_⟩
  · rw [Int.fdiv_eq_ediv_of_nonneg _ (by omega)]
    have : ((bt : Int) + (n : Int) - 1) = ((bt + n - 1 : Nat) : Int) := by omega
    rw [this, Int.natCast_ediv]
  · rcases (show n = 2 ∨ n = 3 by omega) with rfl | rfl <;> omega
  · have hb : bt ≤ n * ((bt + n - 1) / n) := by rcases (show n = 2 ∨ n = 3 by omega) with rfl | rfl <;> omega
    have h2 : 2 ^ bt ≤ 2 ^ (n * ((bt + n - 1) / n)) := Nat.pow_le_pow_right (by decide) hb
    have h3 : ((2 ^ bt : Nat) : Int) ≤ ((2 ^ (n * ((bt + n - 1) / n)) : Nat) : Int) := Int.ofNat_le.mpr h2
    rw [Int.natCast_pow, Int.natCast_pow] at h3
    exact Int.lt_of_lt_of_le q h3
  · intro h
    have := r h
    rcases (show n = 2 ∨ n = 3 by omega) with rfl | rfl <;> omega
theorem news_rot2 {h₀ h : Heap} {L : Addr} {x y q a b c : Addr × Obj} {tl news : Led} (N : News h₀ L h (x :: y :: (tl ++ (q :: a :: b :: c :: news)))) : News h₀ L h (x :: q :: a :: b :: c :: y :: (tl ++ news)) := by
  refine news_sub N fun r hr => ?_
  simp only [List.mem_cons, List.mem_append] at hr ⊢
  rcases hr with h | h | h | h | h | h | h | h <;> simp [h]
theorem led_abs1 {h₀ h : Heap} {L : Addr} {q : Addr × Obj} {rest : Led} {P : Prop} (N : News h₀ L h (q :: rest)) (hA : ∀ p ∈ rest, p.1 ≠ q.1) (k : ∀ REST, News h₀ L h (q :: REST) → (∀ p ∈ REST, p.1 ≠ q.1) → (∀ p ∈ rest, p ∈ REST) → (∀ p ∈ REST, p ∈ rest) → P) : P := k rest N hA (fun _ h => h) (fun _ h => h)
end Mine
namespace Mine
theorem news_swap {h₀ h : Heap} {L : Addr} {x y : Addr × Obj} {l : Led} (N : News h₀ L h (x :: y :: l)) : News h₀ L h (y :: x :: l) := by
  refine news_sub N fun r hr => ?_
  simp only [List.mem_cons] at hr ⊢
  rcases hr with h | h | h <;> simp [h]
theorem all6 {P : Addr → Prop} {x a b c y : Addr × Obj} {l : Led} (hx : P x.1) (ha : P a.1) (hb : P b.1) (hc : P c.1) (hy : P y.1) (hl : ∀ r ∈ l, P r.1) : ∀ r ∈ x :: a :: b :: c :: y :: l, P r.1 := by
  intro r hr
  simp only [List.mem_cons] at hr
  rcases hr with rfl | rfl | rfl | rfl | rfl | hr
  · exact hx
  · exact ha
  · exact hb
  · exact hc
  · exact hy
  · exact hl r hr
end Mine
namespace Mine
theorem list_step (n : Nat) (ds : List Int) (x : Int) (i md j : Nat) (h1 : i < md) (h2 : md < j) (h3 : j ≤ ds.length) :
    (ds.take i ++ (digs n (x % 2 ^ (n * (md - i))) (md - i) ++ ds.drop md)).take md ++ (digs n (x / 2 ^ (n * (md - i))) (j - md) ++ (ds.take i ++ (digs n (x % 2 ^ (n * (md - i))) (md - i) ++ ds.drop md)).drop j)
      = ds.take i ++ (digs n x (j - i) ++ ds.drop j) := by
  obtain ⟨p, hp⟩ : ∃ p, md - i = p + 1 := ⟨md - i - 1, by omega⟩
  obtain ⟨r, hr⟩ : ∃ r, j - md = r + 1 := ⟨j - md - 1, by omega⟩
  have hji : j - i = p + 1 + (r + 1) := by omega
  rw [hji, digs_split n p r x, hp, hr]
  have la : (ds.take i).length = i := by simp; omega
  have lb : (digs n (x % 2 ^ (n * (p + 1))) (p + 1)).length = p + 1 := digs_len n _ _
  generalize digs n (x % 2 ^ (n * (p + 1))) (p + 1) = A at *
  generalize digs n (x / 2 ^ (n * (p + 1))) (r + 1) = B at *
  have e1 : (ds.take i ++ (A ++ ds.drop md)).take md = ds.take i ++ A := by
    rw [← List.append_assoc, List.take_append_of_le_length (by simp; omega)]
    exact List.take_of_length_le (by simp; omega)
  have e2 : (ds.take i ++ (A ++ ds.drop md)).drop j = ds.drop j := by
    rw [← List.append_assoc, List.drop_append, List.drop_of_length_le (by simp; omega)]
    simp only [List.length_append, la, lb, List.nil_append, List.drop_drop]
    congr 1
    omega
  rw [e1, e2]
  simp [List.append_assoc]
end Mine
namespace Mine
theorem nat_and_hi (x s : Nat) : x &&& (x / 2 ^ s * 2 ^ s) = x / 2 ^ s * 2 ^ s := by
  apply Nat.eq_of_testBit_eq
  intro k
  rw [Nat.testBit_and, Nat.testBit_mul_two_pow, Nat.testBit_div_two_pow]
  by_cases h : s ≤ k
  · have h3 : k - s + s = k := by omega
    simp [h, h3]
  · simp [h]
theorem up_is (x : Int) (sf : Nat) (h0 : 0 ≤ x) : x.fdiv (2 ^ (sf : Int).toNat) = x / 2 ^ sf := by
  rw [Int.toNat_natCast, Int.fdiv_eq_ediv_of_nonneg]
  exact Int.le_of_lt (Int.pow_pos (by decide))
theorem lo_is (x : Int) (sf : Nat) (h0 : 0 ≤ x) : Builtin.bitXor x (x / 2 ^ sf * 2 ^ (sf : Int).toNat) = x % 2 ^ sf := by
  rw [Int.toNat_natCast]
  obtain ⟨k, rfl⟩ := Int.eq_ofNat_of_zero_le h0
  have e : ((k : Int) / 2 ^ sf * 2 ^ sf) = ((k / 2 ^ sf * 2 ^ sf : Nat) : Int) := by
    rw [Int.natCast_mul, Int.natCast_ediv, Int.natCast_pow]; rfl
  have e2 : Builtin.bitAnd (k : Int) ((k / 2 ^ sf * 2 ^ sf : Nat) : Int) = ((k / 2 ^ sf * 2 ^ sf : Nat) : Int) := by
    show ((k &&& (k / 2 ^ sf * 2 ^ sf) : Nat) : Int) = _
    rw [nat_and_hi]
  rw [e, bitXor_and, e2, ← e, Int.emod_def, Int.mul_comm (2 ^ sf)]
  omega
theorem low_bound (x : Int) (sf : Nat) (h0 : 0 ≤ x) (h1 : x < 18446744073709551616) : 0 ≤ x % 2 ^ sf ∧ x % 2 ^ sf < 18446744073709551616 := by
  have hp : (0 : Int) < 2 ^ sf := Int.pow_pos (by decide)
  have a := Int.emod_nonneg x (show (2 : Int) ^ sf ≠ 0 by omega)
  have c : (0 : Int) ≤ 2 ^ sf * (x / 2 ^ sf) := Int.mul_nonneg (by omega) (Int.ediv_nonneg h0 (by omega))
  have d := Int.emod_add_mul_ediv x (2 ^ sf)
  generalize (2 : Int) ^ sf * (x / 2 ^ sf) = y at *
  generalize x % (2 : Int) ^ sf = z at *
  omega
theorem hi_bound (x : Int) (sf : Nat) (h0 : 0 ≤ x) (h1 : x < 18446744073709551616) : 0 ≤ x / 2 ^ sf ∧ x / 2 ^ sf < 18446744073709551616 := by
  have hp : (0 : Int) < 2 ^ sf := Int.pow_pos (by decide)
  exact ⟨Int.ediv_nonneg h0 (by omega), Int.lt_of_le_of_lt (Int.ediv_le_self _ h0) h1⟩
end Mine
namespace Mine
theorem dval_zeros (n : Nat) : ∀ k, dval n (List.replicate k 0) = 0
  | 0 => rfl
  | k + 1 => by simp [List.replicate_succ, dval, dval_zeros n k]
end Mine

end
noncomputable section
open PySem PySem.W PyProof.Rows PySem.Calls PySem.Spec
namespace Mine
/-- how a turn of a loop ends: all that stood before stands (its addresses at least), the iterator and what is walked untouched -/
def TurnG (h₀ : Heap) (L : Addr) (s : Shared) (it : Addr × Obj) (kp : Led) (J : (Str → Option Value) → Led → Prop) (Q : Flow → Shared → Prop) (f : Flow) (s₂ : Shared) : Prop :=
  match f with
  | .ret v => Q (.ret v) s₂
  | .brk => Q .next s₂
  | _ => ∃ h' tk m' news' led, s₂ = { s with heap := h', toks := tk } ∧ Fr h₀ L h' m' ∧ News h₀ L h' led ∧ it ∈ led ∧ (∀ p ∈ news', p ∈ led) ∧ (∀ p ∈ news', p.1 ≠ it.1) ∧ (∀ p ∈ kp, p ∈ news') ∧ J m' news'
theorem TurnG.mk {h₀ : Heap} {L : Addr} {s : Shared} {it : Addr × Obj} {kp : Led} {J : (Str → Option Value) → Led → Prop} {Q : Flow → Shared → Prop} {h' : Heap} {tk : Nat} {m' : Str → Option Value} {news' led : Led}
    (F : Fr h₀ L h' m') (N : News h₀ L h' led) (hi : it ∈ led) (hn : ∀ p ∈ news', p ∈ led) (ha : ∀ p ∈ news', p.1 ≠ it.1) (hk : ∀ p ∈ kp, p ∈ news') (j : J m' news') :
    TurnG h₀ L s it kp J Q .next { s with heap := h', toks := tk } := ⟨h', tk, m', news', led, rfl, F, N, hi, hn, ha, hk, j⟩

section
variable {prog : Program} {w : World} {A : Around} {E : Value → Shared → Prop} {s : Shared} {env : Env} {h₀ : Heap} {x : Str} {body : List Stmt} {Q : Flow → Shared → Prop}

theorem loopG {I : Addr} {fp wr : List Addr} {n : Nat} {P : Nat → Value → Prop} {St : Nat → Heap → Prop} {m : Str → Option Value} {news kp : Led} (J : Nat → (Str → Option Value) → Led → Prop)
    (W : Walks prog w A I fp wr n P St) (hwrI : ∀ b ∈ wr, b = I) (hIf : I ∈ fp) (hob : ∀ i h, St i h → ∃ o, h.get? I = some o)
    (hfp : ∀ b ∈ fp, b = I ∨ (∃ q, h₀.get? b = some q) ∨ ∃ o, (b, o) ∈ kp) (hkp : ∀ p ∈ kp, p ∈ news)
    (hI0 : h₀.get? I = none) (hL : env.locals ∉ fp) (hnI : ∀ p ∈ news, p.1 ≠ I)
    (hst : St 0 s.heap) (F : Fr h₀ env.locals s.heap m) (N : News h₀ env.locals s.heap news) (hj : J 0 m news)
    (turn : ∀ i v m₁ news₁ h tk o, i < n → P i v → J i m₁ news₁ → (∀ p ∈ kp, p ∈ news₁) → (∀ p ∈ news₁, p.1 ≠ I) →
      Fr h₀ env.locals h (fun y => if y = x then some v else m₁ y) → News h₀ env.locals h ((I, o) :: news₁) →
      wpAny (model prog w) A (execs body env) (TurnG h₀ env.locals { s with heap := h, toks := tk } (I, o) kp (J (i + 1)) Q) E { s with heap := h, toks := tk })
    (done : ∀ m₁ news₁ h tk, J n m₁ news₁ → (∀ p ∈ kp, p ∈ news₁) → Fr h₀ env.locals h m₁ → News h₀ env.locals h news₁ → Q .next { s with heap := h, toks := tk }) :
    LoopAtV prog w A h₀ env x body Q E (.ref I) s := by
  let J' : Nat → (Str → Option Value) → Led → Prop := fun i m₁ news₁ => (∀ p ∈ news₁, p.1 ≠ I) ∧ (∀ p ∈ kp, p ∈ news₁) ∧ J i m₁ news₁
  refine ⟨I, fp, wr, n, P, St, m, news, J', rfl, W, hL, ?_, ?_, hst, F, N, ⟨hnI, hkp, hj⟩, ?_, ?_⟩
  · intro b hb; rw [hwrI b hb]; exact hI0
  · intro p hp hw; exact hnI p hp (hwrI _ hw)
  · rintro i v m₁ news₁ s₁ own ⟨hh', tk', rfl⟩ hin hP ⟨hadr, hkp', hJ⟩ _ hown hget hall hst' F₁ N₁
    obtain ⟨o, ho⟩ := hob _ _ hst'
    have hio : (I, o) ∈ own := hall I hIf hI0 o ho
    have hone : ∀ p ∈ own, p = (I, o) ∨ p ∈ kp := by
      intro p hp
      rcases hfp p.1 (hown p hp) with e | ⟨q, hq⟩ | ⟨q, hq⟩
      · left
        have := hget p hp
        rw [e, ho] at this
        exact Prod.ext e (Option.some.inj this).symm
      · have := (N₁ p (List.mem_append_left _ hp)).2.2
        rw [hq] at this; cases this
      · right
        have h1 := (N₁ _ (List.mem_append_right _ (hkp' _ hq))).1
        have h2 := hget p hp
        rw [h2] at h1
        have : p = (p.1, q) := Prod.ext rfl (Option.some.inj h1)
        rw [this]; exact hq
    have N₂ : News h₀ env.locals hh' ((I, o) :: news₁) := by
      intro p hp
      rcases List.mem_cons.mp hp with rfl | hp
      · exact N₁ _ (List.mem_append_left _ hio)
      · exact N₁ _ (List.mem_append_right _ hp)
    refine wpAny_mono (turn i v m₁ news₁ hh' tk' o hin hP hJ hkp' hadr F₁ N₂) (fun f s₂ p => ?_) fun _ _ e => e
    have fin : (∃ h' tk m' news' led, s₂ = { s with heap := h', toks := tk } ∧ Fr h₀ env.locals h' m' ∧ News h₀ env.locals h' led ∧ (I, o) ∈ led ∧ (∀ p ∈ news', p ∈ led) ∧ (∀ p ∈ news', p.1 ≠ I) ∧ (∀ p ∈ kp, p ∈ news') ∧ J (i + 1) m' news') →
        LoopStepU h₀ env.locals wr own (J' (i + 1)) { s with heap := hh', toks := tk' } .next s₂ := by
      rintro ⟨h', tk, m', news', led, e, F', N', hi', hn', ha', hk', j'⟩
      refine ⟨rfl, h', tk, m', news', e, F', ?_, fun p hp hw => ha' p hp (hwrI _ hw), ha', hk', j'⟩
      intro p hp
      rcases List.mem_append.mp hp with hp | hp
      · rcases hone p hp with rfl | hp
        · exact N' _ hi'
        · exact N' _ (hn' _ (hk' _ hp))
      · exact N' _ (hn' _ hp)
    cases f with
    | ret v => exact .ret p
    | brk => exact .brk p
    | next => exact .next (fin p)
    | cont => exact .cont (fin p)
  · rintro h' tk m' news' F' N' _ ⟨ha, hk, j⟩
    exact done m' news' h' tk j hk F' N'

/-- the same for any target (a tuple of names): the turn may not leave -/
def TurnGT (h₀ : Heap) (L : Addr) (s : Shared) (it : Addr × Obj) (kp : Led) (J : (Str → Option Value) → Led → Prop) (f : Flow) (s₂ : Shared) : Prop :=
  f = .next ∧ ∃ h' tk m' news' led, s₂ = { s with heap := h', toks := tk } ∧ Fr h₀ L h' m' ∧ News h₀ L h' led ∧ it ∈ led ∧ (∀ p ∈ news', p ∈ led) ∧ (∀ p ∈ news', p.1 ≠ it.1) ∧ (∀ p ∈ kp, p ∈ news') ∧ J m' news'
theorem TurnGT.mk {h₀ : Heap} {L : Addr} {s : Shared} {it : Addr × Obj} {kp : Led} {J : (Str → Option Value) → Led → Prop} {h' : Heap} {tk : Nat} {m' : Str → Option Value} {news' led : Led}
    (F : Fr h₀ L h' m') (N : News h₀ L h' led) (hi : it ∈ led) (hn : ∀ p ∈ news', p ∈ led) (ha : ∀ p ∈ news', p.1 ≠ it.1) (hk : ∀ p ∈ kp, p ∈ news') (j : J m' news') :
    TurnGT h₀ L s it kp J .next { s with heap := h', toks := tk } := ⟨rfl, h', tk, m', news', led, rfl, F, N, hi, hn, ha, hk, j⟩
theorem loopGT {target : Expr} {I : Addr} {fp wr : List Addr} {n : Nat} {P : Nat → Value → Prop} {St : Nat → Heap → Prop} {m : Str → Option Value} {news kp : Led} (J : Nat → (Str → Option Value) → Led → Prop)
    (W : Walks prog w A I fp wr n P St) (hwrI : ∀ b ∈ wr, b = I) (hIf : I ∈ fp) (hob : ∀ i h, St i h → ∃ o, h.get? I = some o)
    (hfp : ∀ b ∈ fp, b = I ∨ (∃ q, h₀.get? b = some q) ∨ ∃ o, (b, o) ∈ kp) (hkp : ∀ p ∈ kp, p ∈ news)
    (hI0 : h₀.get? I = none) (hL : env.locals ∉ fp) (hnI : ∀ p ∈ news, p.1 ≠ I)
    (hgo : ∀ i (s' : Shared) v (Q' : Unit → Shared → Prop), St i s'.heap → Q' () s' → wpAny (model prog w) A (letOwnedTupleGo target (.ref I) v) Q' E s')
    (hst : St 0 s.heap) (F : Fr h₀ env.locals s.heap m) (N : News h₀ env.locals s.heap news) (hj : J 0 m news)
    (turn : ∀ i v m₁ news₁ s₁ o, i < n → P i v → J i m₁ news₁ → (∀ p ∈ kp, p ∈ news₁) → (∀ p ∈ news₁, p.1 ≠ I) →
      Fr h₀ env.locals s₁.heap m₁ → News h₀ env.locals s₁.heap ((I, o) :: news₁) →
      wpAny (model prog w) A (assign target env v) (fun _ s₃ => wpAny (model prog w) A (execs body env) (TurnGT h₀ env.locals s₁ (I, o) kp (J (i + 1))) E s₃) E s₁)
    (done : ∀ m₁ news₁ h tk, J n m₁ news₁ → (∀ p ∈ kp, p ∈ news₁) → Fr h₀ env.locals h m₁ → News h₀ env.locals h news₁ → Q .next { s with heap := h, toks := tk }) :
    LoopAtT prog w A h₀ env target body Q E (.ref I) s := by
  let J' : Nat → (Str → Option Value) → Led → Prop := fun i m₁ news₁ => (∀ p ∈ news₁, p.1 ≠ I) ∧ (∀ p ∈ kp, p ∈ news₁) ∧ J i m₁ news₁
  refine ⟨I, fp, wr, n, P, St, m, news, J', rfl, W, hL, ?_, ?_, hst, F, N, hgo, ⟨hnI, hkp, hj⟩, ?_, ?_⟩
  · intro b hb; rw [hwrI b hb]; exact hI0
  · intro p hp hw; exact hnI p hp (hwrI _ hw)
  · rintro i v m₁ news₁ s₁ own hin hP ⟨hadr, hkp', hJ⟩ _ hown hget hall hst' F₁ N₁
    obtain ⟨o, ho⟩ := hob _ _ hst'
    have hio : (I, o) ∈ own := hall I hIf hI0 o ho
    have hone : ∀ p ∈ own, p = (I, o) ∨ p ∈ kp := by
      intro p hp
      rcases hfp p.1 (hown p hp) with e | ⟨q, hq⟩ | ⟨q, hq⟩
      · left
        have := hget p hp
        rw [e, ho] at this
        exact Prod.ext e (Option.some.inj this).symm
      · have := (N₁ p (List.mem_append_left _ hp)).2.2
        rw [hq] at this; cases this
      · right
        have h1 := (N₁ _ (List.mem_append_right _ (hkp' _ hq))).1
        have h2 := hget p hp
        rw [h2] at h1
        have : p = (p.1, q) := Prod.ext rfl (Option.some.inj h1)
        rw [this]; exact hq
    have N₂ : News h₀ env.locals s₁.heap ((I, o) :: news₁) := by
      intro p hp
      rcases List.mem_cons.mp hp with rfl | hp
      · exact N₁ _ (List.mem_append_left _ hio)
      · exact N₁ _ (List.mem_append_right _ hp)
    refine wpAny_mono (turn i v m₁ news₁ s₁ o hin hP hJ hkp' hadr F₁ N₂) (fun _ s₃ p => wpAny_mono p (fun f s₂ p => ?_) fun _ _ e => e) fun _ _ e => e
    obtain ⟨rfl, h', tk, m', news', led, e, F', N', hi', hn', ha', hk', j'⟩ := p
    refine ⟨rfl, h', tk, m', news', e, F', ?_, fun p hp hw => ha' p hp (hwrI _ hw), ha', hk', j'⟩
    intro p hp
    rcases List.mem_append.mp hp with hp | hp
    · rcases hone p hp with rfl | hp
      · exact N' _ hi'
      · exact N' _ (hn' _ (hk' _ hp))
    · exact N' _ (hn' _ hp)
  · rintro h' tk m' news' F' N' _ ⟨ha, hk, j⟩
    exact done m' news' h' tk j hk F' N'

end
section
variable {prog : Program} {w : World} {A : Around} {E : Value → Shared → Prop} {s : Shared} {env : Env} {h₀ : Heap} {x : Str} {body : List Stmt} {Q : Flow → Shared → Prop}
/-- a loop over a list of the ledger, one name -/
theorem iterListG {l : Addr} {vs : List Value} {n : Nat} {m : Str → Option Value} {news : Led} (J : Nat → (Str → Option Value) → Led → Prop)
    (hh : A.handled = none) (hl : (l, lstN vs n) ∈ news) (F : Fr h₀ env.locals s.heap m) (N : News h₀ env.locals s.heap news) (hj : J 0 m news)
    (turn : ∀ i v m₁ news₁ h tk I o, vs[i]? = some v → J i m₁ news₁ → (l, lstN vs n) ∈ news₁ → (∀ p ∈ news₁, p.1 ≠ I) →
      Fr h₀ env.locals h (fun y => if y = x then some v else m₁ y) → News h₀ env.locals h ((I, o) :: news₁) →
      wpAny (model prog w) A (execs body env) (TurnG h₀ env.locals { s with heap := h, toks := tk } (I, o) [(l, lstN vs n)] (J (i + 1)) Q) E { s with heap := h, toks := tk })
    (done : ∀ m₁ news₁ h tk, J vs.length m₁ news₁ → (l, lstN vs n) ∈ news₁ → Fr h₀ env.locals h m₁ → News h₀ env.locals h news₁ → Q .next { s with heap := h, toks := tk }) :
    wpAny (model prog w) A (pyIter (.ref l)) (fun it s₂ => LoopAtV prog w A h₀ env x body Q E it s₂) E s := by
  have hls : s.heap.IsList l vs.toArray := ⟨_, (N _ hl).1, rfl, n, rfl⟩
  have hlt := news_lt N _ hl
  have hne : l ≠ s.heap.objs.size := Nat.ne_of_lt hlt
  refine wpAny_pyIter_list hls ?_
  have W := Walks.list (prog := prog) (w := w) hh s.heap.objs.size l hne vs.toArray
  have e : vs.toArray.size = vs.length := by simp
  rw [e] at W
  refine loopG (kp := [(l, lstN vs n)]) J W (fun b hb => List.mem_singleton.mp hb) (by simp) (fun i h st => let ⟨⟨o, ho, _⟩, _⟩ := st; ⟨o, ho⟩) ?_ (fun p hp => by rw [List.mem_singleton.mp hp]; exact hl)
    (next_is_new F) ?_ (fun p hp => Nat.ne_of_lt (news_lt N p hp)) ⟨⟨_, Heap.get?_push_size _ rfl, rfl, rfl⟩, hls.at fun o e => Heap.get?_push_of_some _ e⟩ (F.push _) (fun p hp => ⟨Heap.get?_push_of_some _ (N p hp).1, (N p hp).2⟩) hj ?_ ?_
  · intro b hb
    rcases List.mem_cons.mp hb with rfl | hb
    · exact .inl rfl
    · exact .inr (.inr ⟨_, by rw [List.mem_singleton.mp hb]; exact .head _⟩)
  · intro hm
    rcases List.mem_cons.mp hm with e | hm
    · exact absurd F.ns.lt (e ▸ Nat.lt_irrefl _)
    · exact (N _ hl).2.1 (List.mem_singleton.mp hm).symm
  · intro i v m₁ news₁ h tk o hi hP hJ hk hnI F₁ N₁
    exact turn i v m₁ news₁ h tk _ o (by simpa using hP) hJ (hk _ (.head _)) hnI F₁ N₁
  · intro m₁ news₁ h tk hJ hk F₁ N₁
    exact done m₁ news₁ h tk hJ (hk _ (.head _)) F₁ N₁

/-- a loop over a list of the ledger, any target -/
theorem iterListGT {target : Expr} {l : Addr} {vs : List Value} {n : Nat} {m : Str → Option Value} {news : Led} (J : Nat → (Str → Option Value) → Led → Prop)
    (hh : A.handled = none) (hl : (l, lstN vs n) ∈ news) (F : Fr h₀ env.locals s.heap m) (N : News h₀ env.locals s.heap news) (hj : J 0 m news)
    (turn : ∀ i v m₁ news₁ s₁ I o, vs[i]? = some v → J i m₁ news₁ → (l, lstN vs n) ∈ news₁ → (∀ p ∈ news₁, p.1 ≠ I) →
      Fr h₀ env.locals s₁.heap m₁ → News h₀ env.locals s₁.heap ((I, o) :: news₁) →
      wpAny (model prog w) A (assign target env v) (fun _ s₃ => wpAny (model prog w) A (execs body env) (TurnGT h₀ env.locals s₁ (I, o) [(l, lstN vs n)] (J (i + 1))) E s₃) E s₁)
    (done : ∀ m₁ news₁ h tk, J vs.length m₁ news₁ → (l, lstN vs n) ∈ news₁ → Fr h₀ env.locals h m₁ → News h₀ env.locals h news₁ → Q .next { s with heap := h, toks := tk }) :
    wpAny (model prog w) A (pyIter (.ref l)) (fun it s₂ => LoopAtT prog w A h₀ env target body Q E it s₂) E s := by
  have hls : s.heap.IsList l vs.toArray := ⟨_, (N _ hl).1, rfl, n, rfl⟩
  have hlt := news_lt N _ hl
  have hne : l ≠ s.heap.objs.size := Nat.ne_of_lt hlt
  refine wpAny_pyIter_list hls ?_
  have W := Walks.list (prog := prog) (w := w) hh s.heap.objs.size l hne vs.toArray
  have e : vs.toArray.size = vs.length := by simp
  rw [e] at W
  refine loopGT (kp := [(l, lstN vs n)]) J W (fun b hb => List.mem_singleton.mp hb) (by simp) (fun i h st => let ⟨⟨o, ho, _⟩, _⟩ := st; ⟨o, ho⟩) ?_ (fun p hp => by rw [List.mem_singleton.mp hp]; exact hl)
    (next_is_new F) ?_ (fun p hp => Nat.ne_of_lt (news_lt N p hp)) (fun i s' v Q' st hQ' => letGo_listiter st.1 hQ') ⟨⟨_, Heap.get?_push_size _ rfl, rfl, rfl⟩, hls.at fun o e => Heap.get?_push_of_some _ e⟩ (F.push _) (fun p hp => ⟨Heap.get?_push_of_some _ (N p hp).1, (N p hp).2⟩) hj ?_ ?_
  · intro b hb
    rcases List.mem_cons.mp hb with rfl | hb
    · exact .inl rfl
    · exact .inr (.inr ⟨_, by rw [List.mem_singleton.mp hb]; exact .head _⟩)
  · intro hm
    rcases List.mem_cons.mp hm with e | hm
    · exact absurd F.ns.lt (e ▸ Nat.lt_irrefl _)
    · exact (N _ hl).2.1 (List.mem_singleton.mp hm).symm
  · intro i v m₁ news₁ s₁ o hi hP hJ hk hnI F₁ N₁
    exact turn i v m₁ news₁ s₁ _ o (by simpa using hP) hJ (hk _ (.head _)) hnI F₁ N₁
  · intro m₁ news₁ h tk hJ hk F₁ N₁
    exact done m₁ news₁ h tk hJ (hk _ (.head _)) F₁ N₁

/-- a loop over a range by ones, one name -/
theorem iterRangeG {r : Addr} {a₀ b₀ : Int} {t₀ u₀ v₀ : Tok} {n : Nat} {m : Str → Option Value} {news : Led} (J : Nat → (Str → Option Value) → Led → Prop)
    (hh : A.handled = none) (hr : IsRange s.heap r a₀ b₀ 1 t₀ u₀ v₀) (hsmall : Builtin.Range.small a₀ b₀ 1 = true) (hn : Builtin.Range.rangeSize a₀ b₀ 1 = (n : Int))
    (F : Fr h₀ env.locals s.heap m) (N : News h₀ env.locals s.heap news) (hj : J 0 m news)
    (turn : ∀ (i : Nat) t m₁ news₁ h tk I o, i < n → J i m₁ news₁ → (∀ p ∈ news₁, p.1 ≠ I) →
      Fr h₀ env.locals h (fun y => if y = x then some (.int (a₀ + (i : Int)) t) else m₁ y) → News h₀ env.locals h ((I, o) :: news₁) →
      wpAny (model prog w) A (execs body env) (TurnG h₀ env.locals { s with heap := h, toks := tk } (I, o) [] (J (i + 1)) Q) E { s with heap := h, toks := tk })
    (done : ∀ m₁ news₁ h tk, J n m₁ news₁ → Fr h₀ env.locals h m₁ → News h₀ env.locals h news₁ → Q .next { s with heap := h, toks := tk }) :
    wpAny (model prog w) A (pyIter (.ref r)) (fun it s₂ => LoopAtV prog w A h₀ env x body Q E it s₂) E s := by
  refine wpAny_pyIter_range hr hsmall ?_
  have W : Walks prog w A s.heap.objs.size [s.heap.objs.size] [s.heap.objs.size] n (fun i v => i < n ∧ ∃ t, v = .int (a₀ + i * 1) t)
      (fun i h => IsRangeIter h s.heap.objs.size (a₀ + (i : Nat) * 1) ((n : Int) - (i : Nat)) 1) := (Walks.range hh _ a₀ 1 n).bound
  refine loopG (kp := []) J W (fun b hb => List.mem_singleton.mp hb) (by simp) (fun i h st => ⟨_, st⟩) (fun b hb => .inl (List.mem_singleton.mp hb)) (fun p hp => nomatch hp)
    (next_is_new F) ?_ (fun p hp => Nat.ne_of_lt (news_lt N p hp)) (by show IsRangeIter _ _ _ _ _; rw [hn]; simpa using Heap.get?_push_size _ rfl) (F.push _) (fun p hp => ⟨Heap.get?_push_of_some _ (N p hp).1, (N p hp).2⟩) hj ?_ ?_
  · intro hm
    exact absurd F.ns.lt ((List.mem_singleton.mp hm) ▸ Nat.lt_irrefl _)
  · rintro i v m₁ news₁ h tk o hi ⟨_, t, rfl⟩ hJ hk hnI F₁ N₁
    rw [Int.mul_one] at F₁
    exact turn i t m₁ news₁ h tk _ o hi hJ hnI F₁ N₁
  · intro m₁ news₁ h tk hJ _ F₁ N₁
    exact done m₁ news₁ h tk hJ F₁ N₁

/-- a loop over reversed(a list of the ledger), one name -/
theorem iterRevG {I l : Addr} {vs : List Value} {n : Nat} {m : Str → Option Value} {news : Led} (J : Nat → (Str → Option Value) → Led → Prop)
    (hh : A.handled = none) (hl : (l, lstN vs n) ∈ news) (F : Fr h₀ env.locals s.heap m) (N : News h₀ env.locals s.heap ((I, revObj l ((vs.length : Int) - 1)) :: news)) (hnI : ∀ p ∈ news, p.1 ≠ I) (hj : J 0 m news)
    (turn : ∀ i v m₁ news₁ h tk o, vs.reverse[i]? = some v → J i m₁ news₁ → (l, lstN vs n) ∈ news₁ → (∀ p ∈ news₁, p.1 ≠ I) →
      Fr h₀ env.locals h (fun y => if y = x then some v else m₁ y) → News h₀ env.locals h ((I, o) :: news₁) →
      wpAny (model prog w) A (execs body env) (TurnG h₀ env.locals { s with heap := h, toks := tk } (I, o) [(l, lstN vs n)] (J (i + 1)) Q) E { s with heap := h, toks := tk })
    (done : ∀ m₁ news₁ h tk, J vs.length m₁ news₁ → (l, lstN vs n) ∈ news₁ → Fr h₀ env.locals h m₁ → News h₀ env.locals h news₁ → Q .next { s with heap := h, toks := tk }) :
    wpAny (model prog w) A (pyIter (.ref I)) (fun it s₂ => LoopAtV prog w A h₀ env x body Q E it s₂) E s := by
  have hIx := N _ (List.mem_cons_self ..)
  have hlx := N _ (List.mem_cons_of_mem _ hl)
  have hls : s.heap.IsList l vs.toArray := ⟨_, hlx.1, rfl, n, rfl⟩
  have hne : l ≠ I := hnI _ hl
  refine wpAny_pyIter_revIter ⟨_, hIx.1, rfl, rfl⟩ ?_
  have W := Walks.listRev (prog := prog) (w := w) hh I l hne vs.toArray
  have e : vs.toArray.size = vs.length := by simp
  rw [e] at W
  refine loopG (kp := [(l, lstN vs n)]) J W (fun b hb => List.mem_singleton.mp hb) (by simp) (fun i h st => let ⟨_, ⟨o, ho, _⟩, _⟩ := st; ⟨o, ho⟩) ?_ (fun p hp => by rw [List.mem_singleton.mp hp]; exact hl)
    hIx.2.2 ?_ hnI ⟨Nat.zero_le _, ⟨_, hIx.1, rfl, ?_⟩, hls⟩ F (fun p hp => N p (List.mem_cons_of_mem _ hp)) hj ?_ ?_
  · intro b hb
    rcases List.mem_cons.mp hb with rfl | hb
    · exact .inl rfl
    · exact .inr (.inr ⟨_, by rw [List.mem_singleton.mp hb]; exact .head _⟩)
  · intro hm
    rcases List.mem_cons.mp hm with e | hm
    · exact hIx.2.1 e.symm
    · exact hlx.2.1 (List.mem_singleton.mp hm).symm
  · show Data.fields #[.ref l, rawInt ((vs.length : Int) - 1)] = Data.fields #[.ref l, rawInt ((vs.length : Int) - 1 - ((0 : Nat) : Int))]
    rw [show (vs.length : Int) - 1 - ((0 : Nat) : Int) = (vs.length : Int) - 1 by omega]
  · intro i v m₁ news₁ h tk o hi hP hJ hk hnI F₁ N₁
    refine turn i v m₁ news₁ h tk o ?_ hJ (hk _ (.head _)) hnI F₁ N₁
    rw [List.getElem?_reverse hi]
    simpa using hP
  · intro m₁ news₁ h tk hJ hk F₁ N₁
    exact done m₁ news₁ h tk hJ (hk _ (.head _)) F₁ N₁
end
/-- a frame's map with one name set, or not -/
abbrev setO (m : Str → Option Value) (x : Str) (o : Option Value) : Str → Option Value := fun y => if y = x then o else m y
theorem setO_self (m : Str → Option Value) (x : Str) : setO m x (m x) = m := by
  funext y; by_cases e : y = x
  · subst e; simp [setO]
  · simp [setO, e]
theorem allLt_mem {d : Addr} : ∀ {l : Led}, AllLt d l → ∀ p ∈ l, p.1 < d
  | [], _, p, hp => nomatch hp
  | _ :: _, h, p, hp => (List.mem_cons.mp hp).elim (fun e => by rw [e]; exact h.1) fun hp => allLt_mem h.2 p hp
end Mine

end
noncomputable section
open PySem PySem.W PyProof.Rows PySem.Calls PySem.Spec
namespace Mine
theorem compEnd_mono {h₀ : Heap} {L I C D : Addr} {m : Str → Option Value} {s₁ s₂ : Shared} {oI oC oD : Obj} {S : Led → Prop} {rest rest' : Value → Led → Prop} {y : Value}
    (h : LCg.CompEnd h₀ L m s₁ I oI C oC D oD S rest y s₂) (hr : ∀ n, rest y n → rest' y n) : LCg.CompEnd h₀ L m s₁ I oI C oC D oD S rest' y s₂ := by
  obtain ⟨h', tk, news', e, F, N, o, S', r⟩ := h
  exact ⟨h', tk, news', e, F, N, o, S', hr _ r⟩
section
variable {prog : Program} {w : World} {A : Around} {E : Value → Shared → Prop} {s : Shared} {h₀ : Heap} {L : Addr} {m : Str → Option Value} {env : Env} {ct elt : Expr} {x : Str} {scope : Scope} {cl : List (Str × Addr)} {S : Led → Prop} {P : Nat → Value → Prop} {Fin : List Value → Led → Prop} {n : Nat}
/-- a list comprehension by an invariant -/
theorem compInv (J : Nat → List Value → Led → Prop)
    (turn : ∀ i v ys news I oI C oC D m₂ h tk (E' : Value → Shared → Prop), i < n → P i v → J i ys news → LCg.NsObj oC m₂ → m₂ x = some v → Fr h₀ L h m → News h₀ L h ((I, oI) :: (C, oC) :: (D, LCg.lst ys) :: news) → LCg.Off3 I C D news → ((@Ne Nat I C) ∧ (@Ne Nat I D) ∧ (@Ne Nat C D)) →
      wpAny (model prog w) A (eval elt (compEnvC scope cl C env)) (LCg.CompEnd h₀ L m { s with heap := h, toks := tk } I oI C oC D (LCg.lst ys) S (fun y news' => J (i + 1) (ys ++ [y]) news')) E' { s with heap := h, toks := tk })
    (fin : ∀ ys news, J n ys news → Fin ys news) : ∀ k i ys news, i + k = n → J i ys news → LCg.CompRest prog w A h₀ L m env elt x scope cl s S P Fin k i ys news
  | 0, i, ys, news, hi, hj => LCg.CompRest.zero (fin _ _ (by rw [← hi]; exact hj))
  | k + 1, i, ys, news, hi, hj => LCg.CompRest.succ fun v I oI C oC D m₂ h tk E' hP hC hx F N off ne =>
      wpAny_mono (turn i v ys news I oI C oC D m₂ h tk E' (by omega) hP hj hC hx F N off ne)
        (fun y s' h' => compEnd_mono h' fun n' hn' => compInv J turn fin k (i + 1) _ _ (by omega) hn') fun _ _ e => e
/-- the same with one test -/
theorem compInvT (J : Nat → List Value → Led → Prop)
    (turn : ∀ i v ys news I oI C oC D m₂ h tk (E' : Value → Shared → Prop), i < n → P i v → J i ys news → LCg.NsObj oC m₂ → m₂ x = some v → Fr h₀ L h m → News h₀ L h ((I, oI) :: (C, oC) :: (D, LCg.lst ys) :: news) → LCg.Off3 I C D news → ((@Ne Nat I C) ∧ (@Ne Nat I D) ∧ (@Ne Nat C D)) →
      wpAny (model prog w) A (isTrue ct (compEnvC scope cl C env) (eval ct (compEnvC scope cl C env))) (fun ok s' => if ok = true then
        wpAny (model prog w) A (eval elt (compEnvC scope cl C env)) (LCg.CompEnd h₀ L m { s with heap := h, toks := tk } I oI C oC D (LCg.lst ys) S (fun y news' => J (i + 1) (ys ++ [y]) news')) E' s'
        else LCg.CompEnd h₀ L m { s with heap := h, toks := tk } I oI C oC D (LCg.lst ys) S (fun _ news' => J (i + 1) ys news') Value.none s') E' { s with heap := h, toks := tk })
    (fin : ∀ ys news, J n ys news → Fin ys news) : ∀ k i ys news, i + k = n → J i ys news → LCt.CompRestT prog w A h₀ L m env ct elt x scope cl s S P Fin k i ys news
  | 0, i, ys, news, hi, hj => LCt.CompRestT.zero (fin _ _ (by rw [← hi]; exact hj))
  | k + 1, i, ys, news, hi, hj => LCt.CompRestT.succ fun v I oI C oC D m₂ h tk E' hP hC hx F N off ne =>
      wpAny_mono (turn i v ys news I oI C oC D m₂ h tk E' (by omega) hP hj hC hx F N off ne)
        (fun ok s' h' => by
          cases ok with
          | true =>
            simp only [if_true] at h' ⊢
            exact wpAny_mono h' (fun y s' h' => compEnd_mono h' fun n' hn' => compInvT J turn fin k (i + 1) _ _ (by omega) hn') fun _ _ e => e
          | false =>
            simp only [Bool.false_eq_true, if_false] at h' ⊢
            exact compEnd_mono h' fun n' hn' => compInvT J turn fin k (i + 1) _ _ (by omega) hn') fun _ _ e => e
end
/-- a road or a field: a tuple of a name and a list of three names -/
abbrev tup2 (a b : Value) : Obj := { cls := .type "tuple", data := .seq #[a, b] }
abbrev Row := List Nat × List (List Nat)
def RowIn (led : Led) (v : Value) (r : Row) : Prop := ∃ a b t vs n, v = .ref a ∧ (a, tup2 (.str (S r.1) t) (.ref b)) ∈ led ∧ (b, lstN vs n) ∈ led ∧ StrsAre vs (r.2.map S)
inductive RowsIn (led : Led) : List Value → List Row → Prop
  | nil : RowsIn led [] []
  | cons {v vs r rs} : RowIn led v r → RowsIn led vs rs → RowsIn led (v :: vs) (r :: rs)
theorem RowIn.mono {led led' : Led} {v : Value} {r : Row} (hs : ∀ p ∈ led, p ∈ led') (h : RowIn led v r) : RowIn led' v r := by
  obtain ⟨a, b, t, vs, n, e, m1, m2, S⟩ := h
  exact ⟨a, b, t, vs, n, e, hs _ m1, hs _ m2, S⟩
theorem RowsIn.mono {led led' : Led} (hs : ∀ p ∈ led, p ∈ led') : ∀ {vs : List Value} {rs : List Row}, RowsIn led vs rs → RowsIn led' vs rs
  | _, _, .nil => .nil
  | _, _, .cons h t => .cons (h.mono hs) (t.mono hs)
theorem RowsIn.length {led : Led} : ∀ {vs : List Value} {rs : List Row}, RowsIn led vs rs → vs.length = rs.length
  | _, _, .nil => rfl
  | _, _, .cons _ t => by simp [t.length]
theorem RowsIn.append {led : Led} {ws : List Value} {qs : List Row} (h2 : RowsIn led ws qs) : ∀ {vs : List Value} {rs : List Row}, RowsIn led vs rs → RowsIn led (vs ++ ws) (rs ++ qs)
  | _, _, .nil => h2
  | _, _, .cons h t => .cons h (RowsIn.append h2 t)
theorem RowsIn.at {led : Led} : ∀ {vs : List Value} {rs : List Row}, RowsIn led vs rs → ∀ (i : Nat) (v : Value), vs[i]? = some v → ∃ r, rs[i]? = some r ∧ RowIn led v r
  | _, _, .nil, i, v, h => by simp at h
  | _, _, .cons h t, 0, v, e => by simp at e; subst e; exact ⟨_, rfl, h⟩
  | _, _, .cons h t, i + 1, v, e => by simpa using t.at i v (by simpa using e)
theorem RowsIn.get {led : Led} : ∀ {vs : List Value} {rs : List Row}, RowsIn led vs rs → ∀ (i : Nat) (r : Row), rs[i]? = some r → ∃ v, vs[i]? = some v ∧ RowIn led v r
  | _, _, .nil, i, v, h => by simp at h
  | _, _, .cons h t, 0, v, e => by simp at e; subst e; exact ⟨_, rfl, h⟩
  | _, _, .cons h t, i + 1, v, e => by simpa using t.get i v (by simpa using e)
theorem RowsIn.take {led : Led} : ∀ {vs : List Value} {rs : List Row}, RowsIn led vs rs → ∀ n, RowsIn led (vs.take n) (rs.take n)
  | _, _, h, 0 => by simpa using RowsIn.nil
  | _, _, .nil, n + 1 => by simpa using RowsIn.nil
  | _, _, .cons h t, n + 1 => .cons h (t.take n)
theorem RowsIn.drop {led : Led} : ∀ {vs : List Value} {rs : List Row}, RowsIn led vs rs → ∀ n, RowsIn led (vs.drop n) (rs.drop n)
  | _, _, h, 0 => by simpa using h
  | _, _, .nil, n + 1 => by simpa using RowsIn.nil
  | _, _, .cons h t, n + 1 => t.drop n
/-- the table's pairs: tuples of two texts -/
def HdIn (led : Led) (v : Value) (r : List Nat × List Nat) : Prop := ∃ a t u, v = .ref a ∧ (a, tup2 (.str (S r.1) t) (.str (S r.2) u)) ∈ led
inductive HdsIn (led : Led) : List Value → List (List Nat × List Nat) → Prop
  | nil : HdsIn led [] []
  | cons {v vs r rs} : HdIn led v r → HdsIn led vs rs → HdsIn led (v :: vs) (r :: rs)
theorem HdIn.mono {led led' : Led} {v : Value} {r : List Nat × List Nat} (hs : ∀ p ∈ led, p ∈ led') (h : HdIn led v r) : HdIn led' v r := by
  obtain ⟨a, t, u, e, m1⟩ := h
  exact ⟨a, t, u, e, hs _ m1⟩
theorem HdsIn.mono {led led' : Led} (hs : ∀ p ∈ led, p ∈ led') : ∀ {vs : List Value} {rs : List (List Nat × List Nat)}, HdsIn led vs rs → HdsIn led' vs rs
  | _, _, .nil => .nil
  | _, _, .cons h t => .cons (h.mono hs) (t.mono hs)
theorem HdsIn.length {led : Led} : ∀ {vs : List Value} {rs : List (List Nat × List Nat)}, HdsIn led vs rs → vs.length = rs.length
  | _, _, .nil => rfl
  | _, _, .cons _ t => by simp [t.length]
theorem HdsIn.snoc {led : Led} {v : Value} {r : List Nat × List Nat} (h2 : HdIn led v r) : ∀ {vs : List Value} {rs : List (List Nat × List Nat)}, HdsIn led vs rs → HdsIn led (vs ++ [v]) (rs ++ [r])
  | _, _, .nil => .cons h2 .nil
  | _, _, .cons h t => .cons h (HdsIn.snoc h2 t)
theorem HdsIn.at {led : Led} : ∀ {vs : List Value} {rs : List (List Nat × List Nat)}, HdsIn led vs rs → ∀ (i : Nat) (v : Value), vs[i]? = some v → ∃ r, rs[i]? = some r ∧ HdIn led v r
  | _, _, .nil, i, v, h => by simp at h
  | _, _, .cons h t, 0, v, e => by simp at e; subst e; exact ⟨_, rfl, h⟩
  | _, _, .cons h t, i + 1, v, e => by simpa using t.at i v (by simpa using e)
section
variable {prog : Program} {w : World} {A : Around} {E : Value → Shared → Prop} {s : Shared} {env : Env} {h₀ : Heap} {x : Str} {px : Pos} {body : List Stmt} {Q : Flow → Shared → Prop}
/-- a loop over a range by ones, a name that may be a cell -/
theorem iterRangeGT {r : Addr} {a₀ b₀ : Int} {t₀ u₀ v₀ : Tok} {n : Nat} {m : Str → Option Value} {news : Led} (J : Nat → (Str → Option Value) → Led → Prop)
    (hh : A.handled = none) (hr : IsRange s.heap r a₀ b₀ 1 t₀ u₀ v₀) (hsmall : Builtin.Range.small a₀ b₀ 1 = true) (hn : Builtin.Range.rangeSize a₀ b₀ 1 = (n : Int))
    (F : Fr h₀ env.locals s.heap m) (N : News h₀ env.locals s.heap news) (hj : J 0 m news)
    (turn : ∀ (i : Nat) t m₁ news₁ s₁ I o, i < n → J i m₁ news₁ → (∀ p ∈ news₁, p.1 ≠ I) →
      Fr h₀ env.locals s₁.heap m₁ → News h₀ env.locals s₁.heap ((I, o) :: news₁) →
      wpAny (model prog w) A (assign (.Name x px) env (.int (a₀ + (i : Int)) t)) (fun _ s₃ => wpAny (model prog w) A (execs body env) (TurnGT h₀ env.locals s₁ (I, o) [] (J (i + 1))) E s₃) E s₁)
    (done : ∀ m₁ news₁ h tk, J n m₁ news₁ → Fr h₀ env.locals h m₁ → News h₀ env.locals h news₁ → Q .next { s with heap := h, toks := tk }) :
    wpAny (model prog w) A (pyIter (.ref r)) (fun it s₂ => LoopAtT prog w A h₀ env (.Name x px) body Q E it s₂) E s := by
  refine wpAny_pyIter_range hr hsmall ?_
  have W : Walks prog w A s.heap.objs.size [s.heap.objs.size] [s.heap.objs.size] n (fun i v => i < n ∧ ∃ t, v = .int (a₀ + i * 1) t)
      (fun i h => IsRangeIter h s.heap.objs.size (a₀ + (i : Nat) * 1) ((n : Int) - (i : Nat)) 1) := (Walks.range hh _ a₀ 1 n).bound
  refine loopGT (kp := []) J W (fun b hb => List.mem_singleton.mp hb) (by simp) (fun i h st => ⟨_, st⟩) (fun b hb => .inl (List.mem_singleton.mp hb)) (fun p hp => nomatch hp)
    (next_is_new F) ?_ (fun p hp => Nat.ne_of_lt (news_lt N p hp)) (fun i s' v Q' st hQ' => wpAny_pure hQ') (by show IsRangeIter _ _ _ _ _; rw [hn]; simpa using Heap.get?_push_size _ rfl) (F.push _) (fun p hp => ⟨Heap.get?_push_of_some _ (N p hp).1, (N p hp).2⟩) hj ?_ ?_
  · intro hm
    exact absurd F.ns.lt ((List.mem_singleton.mp hm) ▸ Nat.lt_irrefl _)
  · rintro i v m₁ news₁ s₁ o hi ⟨_, t, rfl⟩ hJ hk hnI F₁ N₁
    rw [Int.mul_one]
    exact turn i t m₁ news₁ s₁ _ o hi hJ hnI F₁ N₁
  · intro m₁ news₁ h tk hJ _ F₁ N₁
    exact done m₁ news₁ h tk hJ F₁ N₁
end
theorem end3 {M : Str → Option Value} {x y z : Str} {v v0 vq va oq oa : Option Value} (h1 : y ≠ x) (h2 : z ≠ x) (h3 : z ≠ y) :
    (fun k => if k = x then v else if k = y then vq else if k = z then va else setO (setO (setO M x v0) y oq) z oa k) = setO (setO (setO M x v) y vq) z va := by
  funext k
  by_cases hz : k = z
  · subst hz; simp [setO, h2, h3]
  · by_cases hy : k = y
    · subst hy; simp [setO, hz, h1]
    · by_cases hx : k = x
      · subst hx; simp [setO, hz, hy]
      · simp [setO, hz, hy, hx]
theorem start3o {M : Str → Option Value} {x y z : Str} : M = setO (setO (setO M x (M x)) y (M y)) z (M z) := by
  funext k
  by_cases h1 : k = z
  · subst h1; simp [setO]
  · by_cases h2 : k = y
    · subst h2; simp [setO, h1]
    · by_cases h3 : k = x
      · subst h3; simp [setO, h1, h2]
      · simp [setO, h1, h2, h3]
theorem led_eq {h₀ h : Heap} {L : Addr} {led : Led} {P : Prop} (N : News h₀ L h led) (k : ∀ LED, led = LED → (∀ p ∈ led, p ∈ LED) → News h₀ L h LED → P) : P := k led rfl (fun _ h => h) N
end Mine

end
noncomputable section
open PySem PySem.W PyProof.Rows PySem.Calls PySem.Spec
namespace Mine
section
variable {prog : Program} {w : World} {A : Around} {E : Value → Shared → Prop} {s : Shared} {env : Env} {h₀ : Heap} {x : Str} {body : List Stmt} {Q : Flow → Shared → Prop}
theorem loopGS {I : Addr} {fp wr : List Addr} {n : Nat} {P : Nat → Value → Prop} {St : Nat → Heap → Prop} {m : Str → Option Value} {news kp : Led} (J : Nat → (Str → Option Value) → Led → Prop)
    (W : Walks prog w A I fp wr n P St) (hwrI : ∀ b ∈ wr, b = I) (hIf : I ∈ fp) (hob : ∀ i h, St i h → ∃ o, h.get? I = some o)
    (hfp : ∀ b ∈ fp, b = I ∨ (∃ q, h₀.get? b = some q) ∨ ∃ o, (b, o) ∈ kp) (hkp : ∀ p ∈ kp, p ∈ news)
    (hI0 : h₀.get? I = none) (hL : env.locals ∉ fp) (hnI : ∀ p ∈ news, p.1 ≠ I)
    (hst : St 0 s.heap) (F : Fr h₀ env.locals s.heap m) (N : News h₀ env.locals s.heap news) (hj : J 0 m news)
    (turn : ∀ i v m₁ news₁ h tk o, i < n → P i v → J i m₁ news₁ → (∀ p ∈ kp, p ∈ news₁) → (∀ p ∈ news₁, p.1 ≠ I) → (∃ h9 i9, h9.get? I = some o ∧ St i9 h9) →
      Fr h₀ env.locals h (fun y => if y = x then some v else m₁ y) → News h₀ env.locals h ((I, o) :: news₁) →
      wpAny (model prog w) A (execs body env) (TurnG h₀ env.locals { s with heap := h, toks := tk } (I, o) kp (J (i + 1)) Q) E { s with heap := h, toks := tk })
    (done : ∀ m₁ news₁ h tk, J n m₁ news₁ → (∀ p ∈ kp, p ∈ news₁) → Fr h₀ env.locals h m₁ → News h₀ env.locals h news₁ → Q .next { s with heap := h, toks := tk }) :
    LoopAtV prog w A h₀ env x body Q E (.ref I) s := by
  let J' : Nat → (Str → Option Value) → Led → Prop := fun i m₁ news₁ => (∀ p ∈ news₁, p.1 ≠ I) ∧ (∀ p ∈ kp, p ∈ news₁) ∧ J i m₁ news₁
  refine ⟨I, fp, wr, n, P, St, m, news, J', rfl, W, hL, ?_, ?_, hst, F, N, ⟨hnI, hkp, hj⟩, ?_, ?_⟩
  · intro b hb; rw [hwrI b hb]; exact hI0
  · intro p hp hw; exact hnI p hp (hwrI _ hw)
  · rintro i v m₁ news₁ s₁ own ⟨hh', tk', rfl⟩ hin hP ⟨hadr, hkp', hJ⟩ _ hown hget hall hst' F₁ N₁
    obtain ⟨o, ho⟩ := hob _ _ hst'
    have hio : (I, o) ∈ own := hall I hIf hI0 o ho
    have hone : ∀ p ∈ own, p = (I, o) ∨ p ∈ kp := by
      intro p hp
      rcases hfp p.1 (hown p hp) with e | ⟨q, hq⟩ | ⟨q, hq⟩
      · left
        have := hget p hp
        rw [e, ho] at this
        exact Prod.ext e (Option.some.inj this).symm
      · have := (N₁ p (List.mem_append_left _ hp)).2.2
        rw [hq] at this; cases this
      · right
        have h1 := (N₁ _ (List.mem_append_right _ (hkp' _ hq))).1
        have h2 := hget p hp
        rw [h2] at h1
        have : p = (p.1, q) := Prod.ext rfl (Option.some.inj h1)
        rw [this]; exact hq
    have N₂ : News h₀ env.locals hh' ((I, o) :: news₁) := by
      intro p hp
      rcases List.mem_cons.mp hp with rfl | hp
      · exact N₁ _ (List.mem_append_left _ hio)
      · exact N₁ _ (List.mem_append_right _ hp)
    refine wpAny_mono (turn i v m₁ news₁ hh' tk' o hin hP hJ hkp' hadr ⟨_, _, ho, hst'⟩ F₁ N₂) (fun f s₂ p => ?_) fun _ _ e => e
    have fin : (∃ h' tk m' news' led, s₂ = { s with heap := h', toks := tk } ∧ Fr h₀ env.locals h' m' ∧ News h₀ env.locals h' led ∧ (I, o) ∈ led ∧ (∀ p ∈ news', p ∈ led) ∧ (∀ p ∈ news', p.1 ≠ I) ∧ (∀ p ∈ kp, p ∈ news') ∧ J (i + 1) m' news') →
        LoopStepU h₀ env.locals wr own (J' (i + 1)) { s with heap := hh', toks := tk' } .next s₂ := by
      rintro ⟨h', tk, m', news', led, e, F', N', hi', hn', ha', hk', j'⟩
      refine ⟨rfl, h', tk, m', news', e, F', ?_, fun p hp hw => ha' p hp (hwrI _ hw), ha', hk', j'⟩
      intro p hp
      rcases List.mem_append.mp hp with hp | hp
      · rcases hone p hp with rfl | hp
        · exact N' _ hi'
        · exact N' _ (hn' _ (hk' _ hp))
      · exact N' _ (hn' _ hp)
    cases f with
    | ret v => exact .ret p
    | brk => exact .brk p
    | next => exact .next (fin p)
    | cont => exact .cont (fin p)
  · rintro h' tk m' news' F' N' _ ⟨ha, hk, j⟩
    exact done m' news' h' tk j hk F' N'

/-- a loop over a list of the ledger, one name -/
theorem iterListGS {l : Addr} {vs : List Value} {n : Nat} {m : Str → Option Value} {news : Led} (J : Nat → (Str → Option Value) → Led → Prop)
    (hh : A.handled = none) (hl : (l, lstN vs n) ∈ news) (F : Fr h₀ env.locals s.heap m) (N : News h₀ env.locals s.heap news) (hj : J 0 m news)
    (turn : ∀ i v m₁ news₁ h tk I o, vs[i]? = some v → J i m₁ news₁ → (l, lstN vs n) ∈ news₁ → (∀ p ∈ news₁, p.1 ≠ I) → (∀ (vs : Array Value) (q : Str) (t : Tok), o.data = .fields vs → vs[1]? ≠ some (.str q t)) →
      Fr h₀ env.locals h (fun y => if y = x then some v else m₁ y) → News h₀ env.locals h ((I, o) :: news₁) →
      wpAny (model prog w) A (execs body env) (TurnG h₀ env.locals { s with heap := h, toks := tk } (I, o) [(l, lstN vs n)] (J (i + 1)) Q) E { s with heap := h, toks := tk })
    (done : ∀ m₁ news₁ h tk, J vs.length m₁ news₁ → (l, lstN vs n) ∈ news₁ → Fr h₀ env.locals h m₁ → News h₀ env.locals h news₁ → Q .next { s with heap := h, toks := tk }) :
    wpAny (model prog w) A (pyIter (.ref l)) (fun it s₂ => LoopAtV prog w A h₀ env x body Q E it s₂) E s := by
  have hls : s.heap.IsList l vs.toArray := ⟨_, (N _ hl).1, rfl, n, rfl⟩
  have hlt := news_lt N _ hl
  have hne : l ≠ s.heap.objs.size := Nat.ne_of_lt hlt
  refine wpAny_pyIter_list hls ?_
  have W := Walks.list (prog := prog) (w := w) hh s.heap.objs.size l hne vs.toArray
  have e : vs.toArray.size = vs.length := by simp
  rw [e] at W
  refine loopGS (kp := [(l, lstN vs n)]) J W (fun b hb => List.mem_singleton.mp hb) (by simp) (fun i h st => let ⟨⟨o, ho, _⟩, _⟩ := st; ⟨o, ho⟩) ?_ (fun p hp => by rw [List.mem_singleton.mp hp]; exact hl)
    (next_is_new F) ?_ (fun p hp => Nat.ne_of_lt (news_lt N p hp)) ⟨⟨_, Heap.get?_push_size _ rfl, rfl, rfl⟩, hls.at fun o e => Heap.get?_push_of_some _ e⟩ (F.push _) (fun p hp => ⟨Heap.get?_push_of_some _ (N p hp).1, (N p hp).2⟩) hj ?_ ?_
  · intro b hb
    rcases List.mem_cons.mp hb with rfl | hb
    · exact .inl rfl
    · exact .inr (.inr ⟨_, by rw [List.mem_singleton.mp hb]; exact .head _⟩)
  · intro hm
    rcases List.mem_cons.mp hm with e | hm
    · exact absurd F.ns.lt (e ▸ Nat.lt_irrefl _)
    · exact (N _ hl).2.1 (List.mem_singleton.mp hm).symm
  · intro i v m₁ news₁ h tk o hi hP hJ hk hnI hS F₁ N₁
    refine turn i v m₁ news₁ h tk _ o (by simpa using hP) hJ (hk _ (.head _)) hnI ?_ F₁ N₁
    intro vs q t hd hq
    obtain ⟨h9, i9, ho9, ⟨o', ho', hc', hd'⟩, _⟩ := hS
    rw [ho9] at ho'
    cases ho'
    rw [hd'] at hd
    injection hd with hd
    subst hd
    simp [rawInt] at hq
  · intro m₁ news₁ h tk hJ hk F₁ N₁
    exact done m₁ news₁ h tk hJ (hk _ (.head _)) F₁ N₁

end
end Mine

end
noncomputable section
theorem Mine.flush_S1 {w : World} {A : Around} {v : Value} {Q E : Value → Shared → Prop} {s : Shared} (h : Q v s) : wpAny (model Mine.PR w) A (pure v) Q E s := by
  w_top off
  (try walk1)
  first | exact h | exact wpAny_pure h
open PySem PySem.W PyProof.Rows PySem.Calls PySem.Spec
namespace Mine
section
variable {prog : Program} {w : World} {A : Around} {E : Value → Shared → Prop} {s : Shared} {h₀ : Heap} {L : Addr} {m : Str → Option Value}
theorem setSlice {l sl v : Addr} {its vits : Array Value} {n k : Nat} {p : Nat} {vp vq : Value} {Q : Unit → Shared → Prop} (ho : s.heap.get? l = some (listOf its n)) (hs : s.heap.IsSliceOf sl vp vq .none) (pl : IsPart vp (some (p : Int))) (pu : IsPart vq (some ((p : Int) + 1)))
    (hv : s.heap.get? v = some (listOf vits k)) (hne : l ≠ v) (hp : p < its.size) (hz : its.size + vits.size ≤ 64)
    (h : Q () { s with heap := s.heap.update l (Obj.mapSeq (fun xs => xs.extract 0 p ++ vits ++ xs.extract (p + 1))) }) :
    wpAny (model prog w) A (setItem (.ref l) (.ref sl) (.ref v)) Q E s := by
  have hl : s.heap.IsList l its := PySem.IsL.isList (n := n) ho
  have hvl : s.heap.IsList v vits := PySem.IsL.isList (n := k) hv
  obtain ⟨os, hos, hcs, hds⟩ := id hs
  have hTs : s.TypeIs (.ref sl) "slice" := ⟨os, hos, hcs⟩
  unfold setItem
  try with_reducible refine wpAny_holding ?_
  first | refine wpAny_bind (wpAny_pure ?_) | skip
  refine wpAny_bind (wpAny_sequenceKey hl.typeIs (by decide) ?_)
  refine wpAny_bind (wpAny_callSpecial?_slot (name := Str.ofString "__setitem__") hl.typeIs slot_list_setitem
    (wpAny_call_entry slot_list_setitem hl.typeIs entry_list_setitem ?_ (args_list_setitem _ _ _)))
  show wpAny _ _ (Builtin.List.listSubscript? (.ref sl) >>= _) _ _ s
  refine wpAny_bind ?_
  unfold Builtin.List.listSubscript?
  refine wpAny_bind (wpAny_specialOf hTs slice_no_index ?_)
  simp only [Option.isNone_none, if_true]
  refine wpAny_pure ?_
  show wpAny _ _ (typeOf (.ref sl) >>= _) _ _ s
  refine wpAny_bind (wpAny_typeOf hTs ?_)
  rw [if_neg (by decide)]
  rw [listSliceParts_eq]
  refine wpAny_bind (wpAny_bind (wpAny_field hos hds (x := .none) rfl (wpAny_bind (wpAny_listPart .none ?_))))
  rw [if_neg (show ¬ ((rawPart none == rawInt 0) = true) from Bool.false_ne_true)]
  refine wpAny_bind (wpAny_field hos hds (x := vp) rfl (wpAny_bind (wpAny_listPart pl ?_)))
  refine wpAny_bind (wpAny_field hos hds (x := vq) rfl (wpAny_bind (wpAny_listPart pu (wpAny_pure ?_))))
  have hsr : Builtin.List.listSameRef (.ref l) (.ref v) = false := by
    show (l == v) = false
    exact beq_eq_false_iff_ne.mpr hne
  have hb : sliceBounds (some (p : Int)) (some ((p : Int) + 1)) none its.size = ((p : Int), ((p : Int) + 1), 1) := by
    have h1 : ¬ ((p : Int) < 0) := by omega
    have h2 : ¬ ((p : Int) + 1 < 0) := by omega
    simp only [sliceBounds, Option.getD_none, show (1 : Int) > 0 by decide, if_true, h1, h2, if_false]
    congr 1
    · omega
    · congr 1
      omega
  rw [hsr]
  simp only [Bool.false_eq_true, if_false]
  refine wpAny_bind (m := Builtin.List.listAllItems (.ref v) _) ?_
  unfold Builtin.List.listAllItems
  refine wpAny_bind (wpAny_typeOf hvl.typeIs ?_)
  rw [if_pos (by decide)]
  refine wpAny_bind (wpAny_seqItems hv rfl (wpAny_pure ?_))
  refine wpAny_bind (m := Builtin.List.listItems (.ref l)) ?_
  unfold Builtin.List.listItems
  refine wpAny_bind (wpAny_seqItems ho rfl (wpAny_pure ?_))
  refine wpAny_bind (wpAny_of_eq (sliceIndices_raw (some (p : Int)) (some ((p : Int) + 1)) none its.size (by simp)) ?_)
  rw [hb]
  rw [if_pos (show (((p : Int), (p : Int) + 1, (1 : Int)).2.snd == 1) = true from rfl)]
  refine wpAny_bind (wpAny_rule ?_)
  have htl : ¬ (Builtin.List.listTooLong (its.size + vits.size) = true) := by
    unfold Builtin.List.listTooLong
    rw [decide_eq_true_eq, sizeLine_eq]
    omega
  rw [if_neg htl]
  have e1 : max (p : Int) ((p : Int) + 1) = ((p + 1 : Nat) : Int) := by omega
  simp only [e1, Int.toNat_natCast]
  refine wpAny_bind (m := Builtin.List.listUpdate (.ref l) _) ?_
  unfold Builtin.List.listUpdate
  refine wpAny_updateSeq ho rfl ?_ ?_ ?_
  · refine wpAny_bind (wpAny_letGo ?_)
    first
      | exact wpAny_bind (wpAny_pure (wpAny_pure ⟨.none, rfl, wpAny_pure h⟩))
      | exact wpAny_pure ⟨.none, rfl, wpAny_pure h⟩
      | exact wpAny_bind (wpAny_pure ⟨.none, rfl, wpAny_pure h⟩)
  · rw [sizeLine_eq]; omega
  · rw [sizeLine_eq]
    simp only [Array.size_append, Array.size_extract]
    omega
theorem setSliceK {fi D : Addr} {vs ws : List Value} {n k place : Nat} {t u : Tok} {rest : Led} {Q : Unit → Shared → Prop} (F : Fr h₀ L s.heap m) (N : News h₀ L s.heap ((fi, lstN vs n) :: rest)) (hall : ∀ p ∈ rest, p.1 ≠ fi) (hv : (D, lstN ws k) ∈ rest)
    (hp : place < vs.length) (hz : vs.length + ws.length ≤ 64)
    (h : ∀ h' n', Fr h₀ L h' m → News h₀ L h' ((fi, lstN (vs.take place ++ ws ++ vs.drop (place + 1)) n') :: rest) → Q () { s with heap := h' }) :
    wpAny (model prog w) A (setItem (.ref fi) (.ref s.heap.objs.size) (.ref D)) Q E { s with heap := s.heap.push { cls := .type "slice", data := .fields #[.int (place : Int) t, .int ((place : Int) + 1) u, .none] } } := by
  have F1 := F.push { cls := .type "slice", data := .fields #[.int (place : Int) t, .int ((place : Int) + 1) u, .none] }
  have N1 : News h₀ L (s.heap.push { cls := .type "slice", data := .fields #[.int (place : Int) t, .int ((place : Int) + 1) u, .none] }) ((fi, lstN vs n) :: rest) := N.grown fun _ _ e => Heap.get?_push_of_some _ e
  have hne : fi ≠ D := fun e => hall _ hv e.symm
  refine setSlice (s := { s with heap := s.heap.push { cls := .type "slice", data := .fields #[.int (place : Int) t, .int ((place : Int) + 1) u, .none] } }) (N1 _ (List.Mem.head _)).1 (Heap.IsSliceOf.new ..) (.int _ _) (.int _ _) (N1 _ (List.Mem.tail _ hv)).1 hne (by simpa using hp) (by simpa using hz) ?_
  have hm := N1 _ (List.Mem.head _)
  refine h _ _ (F1.change (Heap.SameBut.update ..) hm.2.1 hm.2.2) (ki_turn (pre := []) (post := rest) _ N1 (fun p hp => nomatch hp) hall ?_ rfl)
  simp only [List.extract_toArray, List.append_toArray, List.size_toArray, List.extract_eq_take_drop, List.drop_zero, Nat.sub_zero]
  rw [List.take_of_length_le (l := List.drop (place + 1) vs) (by rw [List.length_drop]; omega)]
end
end Mine

end
noncomputable section
theorem Mine.flush_R1 {w : World} {A : Around} {v : Value} {Q E : Value → Shared → Prop} {s : Shared} (h : Q v s) : wpAny (model Mine.PR w) A (pure v) Q E s := by
  w_top off
  (try walk1)
  first | exact h | exact wpAny_pure h
open PySem PySem.W PyProof.Rows PySem.Calls PySem.Spec
namespace Mine
open PySem.Builtin.Re in
section
theorem owner_rx : Manifest.owners.lookup (String.ofList ['n', 'r', 'e', 't', 't', 'a', 'P', '.', 'e', 'r'].reverse) = some Manifest.sig_re_Pattern := by kernel_rfl
theorem slot_rx_search : Slot "re.Pattern" "search" "re.Pattern.search" :=
  .of (owner := "re.Pattern") (n := "search") (by rw [typeLookup_type, builtinLookup_eq_fast]; kernel_rfl) (by decide +kernel) (by decide +kernel) (by decide +kernel)
    (by first | exact .inl (by decide +kernel) | exact .inr (by decide +kernel)) (by rw [isSubtype_type]; kernel_rfl)
theorem type_rx_search : typeOf (.builtin "re.Pattern.search") = pure (.type "method_descriptor") := by show builtinType _ = _; rw [builtinType_eq_fast]; kernel_rfl
theorem entry_rx_search : entryFor table "re.Pattern.search" = some Builtin.«re.Pattern.search» := entryFor_of_tree (by kernel_rfl)
theorem args_rx_search_2 (a b : Value) : argsOk "re.Pattern.search" ⟨[a, b], []⟩ := by
  unfold argsOk; rw [signature?_of (id := "re.Pattern.search") (n := ['h', 'c', 'r', 'a', 'e', 's']) (o := ['n', 'r', 'e', 't', 't', 'a', 'P', '.', 'e', 'r']) (by kernel_rfl) owner_rx]; kernel_rfl
theorem plainAttrs_rx : PlainAttrs "re.Pattern" :=
  ⟨⟨"object.__getattribute__", by rw [typeLookup_type, builtinLookup_eq_fast]; kernel_rfl, by decide +kernel⟩, by rw [typeLookup_type, builtinLookup_eq_fast]; kernel_rfl⟩
end
open PySem.Sre in
theorem attemptFrom_none (m : M) (s : Nat) (first : Bool) (hf : m.hasFirstSet = true)
    (hin : ∀ i seen, i < m.lim → ∃ seen', inSet m.code (m.text.getD i 0) m.code.size 5 true seen = .ok (false, seen')) : ∃ seen, m.attemptFrom s first = ({ m with seen := seen } : M).say false := by
  have key : ∀ fuel s seen, ∃ seen', M.admitted m fuel s seen = .ok (none, seen') := by
    intro fuel
    induction fuel with
    | zero => intro s seen; exact ⟨_, rfl⟩
    | succ n ih =>
      intro s seen
      unfold M.admitted
      by_cases h : s ≥ m.lim
      · exact ⟨seen, by rw [if_pos h]⟩
      · obtain ⟨s1, h1⟩ := hin s seen (by omega)
        rw [if_neg h, h1]
        exact ih _ _
  obtain ⟨sn, h⟩ := key (m.lim + 1 - s) s m.seen
  refine ⟨sn, ?_⟩
  unfold M.attemptFrom
  rw [hf, h]
  rfl
open PySem.Sre PySem.Builtin.Re in
theorem drive_fails (n : M) (ha : n.answer = some false) (hf : n.frames = []) (ho : n.outcome = none) (k : Nat) : reDrive (k + 1) n = pure ({ n with outcome := some .failed } : M) := by
  have e : n.runFor reTurnSteps = ({ n with outcome := some .failed } : M) := by
    have e1 : n.step = ({ n with outcome := some .failed } : M) := by
      unfold M.step
      rw [ho, ha, hf]
      rfl
    unfold reTurnSteps
    show (if n.outcome.isSome = true then n else M.runFor 3 n.step) = _
    rw [ho, e1]
    rfl
  unfold reDrive
  simp only [e]
  rfl
theorem forQuiet {M : Model} {A : Around} {E : Value → Shared → Prop} {s : Shared} {f : Nat → PUnit → Sem (ForInStep PUnit)} (hf : ∀ i (Q : ForInStep PUnit → Shared → Prop), Q (.yield ⟨⟩) s → wpAny M A (f i ⟨⟩) Q E s) :
    ∀ (l : List Nat) (Q : PUnit → Shared → Prop), Q ⟨⟩ s → wpAny M A (forIn l PUnit.unit f) Q E s
  | [], Q, h => wpAny_pure h
  | i :: r, Q, h => by
    rw [List.forIn_cons]
    exact wpAny_bind (hf i _ (forQuiet hf r Q h))
open PySem.Sre PySem.Builtin.Re in
theorem run_fails {M : Model} {A : Around} {E : Value → Shared → Prop} {s : Shared} (n : Sre.M) (ha : n.answer = some false) (hf : n.frames = []) (ho : n.outcome = none) {Q : Option Sre.M → Shared → Prop} (h : Q none s) :
    wpAny M A (reRunToEnd n) Q E s := by
  unfold reRunToEnd
  refine wpAny_bind ?_
  rw [show (2 ^ 64 : Nat) = 18446744073709551615 + 1 from rfl, drive_fails n ha hf ho]
  refine wpAny_pure ?_
  refine wpAny_bind (forQuiet (fun i Q hQ => ?_) _ _ ?_)
  · split
    · exact wpAny_bind (wpAny_rule (wpAny_pure hQ))
    · exact wpAny_pure hQ
  · exact wpAny_pure h
open PySem.Sre PySem.Builtin.Re in
/-- a search in a text none of whose letters the pattern's first set admits -/
theorem search_none (code text : Array Nat) (lim : Nat) (x : Nat) (hh : header code = (1, x)) (hfs : ((match ops[code.getD 0 0]? with | some .INFO => true | _ => false) && code.getD 2 0 == 4) = true)
    (hin : ∀ i seen, i < lim → ∃ seen', inSet code (text.getD i 0) code.size 5 true seen = .ok (false, seen')) :
    (forSearch code text 0 0 lim false).answer = some false ∧ (forSearch code text 0 0 lim false).frames = [] ∧ (forSearch code text 0 0 lim false).outcome = none := by
  unfold forSearch
  simp only [hh]
  split
  · exact ⟨rfl, rfl, rfl⟩
  · have key := fun (m : M) (h1 : m.code = code) (h2 : m.text = text) (h3 : m.lim = lim) (h4 : m.frames = []) (h5 : m.outcome = none) => show (m.attemptFrom 0 true).answer = some false ∧ (m.attemptFrom 0 true).frames = [] ∧ (m.attemptFrom 0 true).outcome = none by
      subst h1 h2 h3
      obtain ⟨sn, e⟩ := attemptFrom_none m 0 true hfs hin
      rw [e]; exact ⟨rfl, h4, h5⟩
    exact key _ rfl rfl rfl rfl rfl
section
variable {prog : Program} {w : World} {A : Around} {E : Value → Shared → Prop} {s : Shared}
open PySem.Sre PySem.Builtin.Re in
theorem rx_search {a b : Addr} {o o2 : Obj} {fs items : Array Value} {n2 : Nat} {code : Array Nat} {x : Nat} {l : List Nat} {t : Tok} {Q : Value → Shared → Prop}
    (ho : s.heap.get? a = some o) (hc : o.cls = .type "re.Pattern") (hd : o.data = .fields fs) (h5 : fs.getD 5 .none = .ref b) (h6 : reRawNat (fs.getD 6 .none) = 0) (h2 : reRawNat (fs.getD 2 .none) = 0)
    (hb : s.heap.get? b = some o2) (hd2 : o2.data = .seq items n2) (hcode : (items.map reRawOf).map (·.toNat) = code)
    (hh : header code = (1, x)) (hfs : ((match ops[code.getD 0 0]? with | some .INFO => true | _ => false) && code.getD 2 0 == 4) = true)
    (hin : ∀ c ∈ l, ∀ seen, ∃ seen', inSet code c code.size 5 true seen = .ok (false, seen')) (hz : l.length < 1000) (h : Q .none s) :
    wpAny (model prog w) A (call (.builtin "re.Pattern.search") [.ref a, .str (S l) t]) Q E s := by
  refine wpAny_call_entry slot_rx_search ⟨o, ho, hc⟩ entry_rx_search ?_ (args_rx_search_2 _ _)
  unfold Builtin.«re.Pattern.search» reTarget
  refine wpAny_bind (wpAny_bind (wpAny_of_eq (a := [some (Value.str (S l) t), none, none]) rfl ?_))
  refine wpAny_bind (wpAny_pure ?_)
  refine wpAny_bind (wpAny_pure ?_)
  refine wpAny_bind (wpAny_fieldsOf ho hd ?_)
  refine wpAny_bind (wpAny_of_eq (a := ((S l).cps, 0)) rfl ?_)
  try dsimp only
  rw [h6, h2, h5]
  refine wpAny_bind (wpAny_pure ?_)
  refine wpAny_bind ?_
  unfold reRawItems
  refine wpAny_bind (wpAny_seqItems hb hd2 (wpAny_pure ?_))
  refine wpAny_pure ?_
  dsimp only
  have e1 : Array.map (fun x => x.toNat) (Array.map reRawOf ((some items).getD #[])) = code := hcode
  have e2 : min (2 ^ 63 - 1 : Int).toNat l.toArray.size = l.length := by
    have e3 : (2 ^ 63 - 1 : Int).toNat = 9223372036854775807 := by decide
    rw [List.size_toArray, e3]; omega
  rw [e1, e2, show min (Int.toNat 0) l.toArray.size = 0 from Nat.zero_min _]
  obtain ⟨p1, p2, p3⟩ := search_none code l.toArray l.length x hh hfs (fun i seen hi => by
    have e : l.toArray.getD i 0 = l[i] := by simp [hi]
    rw [e]
    exact hin _ (List.getElem_mem hi) seen)
  unfold reAnswer
  refine wpAny_bind (run_fails _ p1 p2 p3 ?_)
  exact wpAny_pure ⟨_, rfl, h⟩
def code110 : List Nat := [14, 10, 4, 1, 1, 22, 0, 31, 16, 127, 0, 13, 7, 22, 0, 31, 16, 127, 0, 1]
def code115 : List Nat := [14, 14, 4, 1, 1, 9, 4294966783, 0, 0, 2147483648, 0, 0, 0, 0, 0, 13, 11, 9, 4294966783, 0, 0, 2147483648, 0, 0, 0, 0, 0, 1]
/-- a letter of a name of this text -/
abbrev isC (c : Nat) : Prop := c = 114 ∨ c = 103 ∨ c = 98
theorem in110 : ∀ c, isC c → ∀ seen, ∃ seen', Sre.inSet code110.toArray c code110.toArray.size 5 true seen = .ok (false, seen') := by
  rintro c (rfl | rfl | rfl) seen <;> exact ⟨_, rfl⟩
theorem in115 : ∀ c, isC c → ∀ seen, ∃ seen', Sre.inSet code115.toArray c code115.toArray.size 5 true seen = .ok (false, seen') := by
  rintro c (rfl | rfl | rfl) seen <;> exact ⟨_, rfl⟩
/-- how the walk asks a pattern's method -/
theorem rx_method {a : Addr} {o : Obj} {pl : Sem Bool} {Q : Value × List Value → Shared → Prop} (ho : s.heap.get? a = some o) (hc : o.cls = .type "re.Pattern") (hdict : o.dict = none)
    (h : Q (.builtin "re.Pattern.search", [.ref a]) s) : wpAny (model prog w) A (getMethod (.ref a) (Str.ofString "search") pl) Q E s :=
  getMethod_builtin ⟨_, ho, hc⟩ plainAttrs_rx slot_rx_search type_rx_search (fun a e => by cases e; exact ⟨_, ho, hdict⟩) h
end
section
variable {prog : Program} {w : World} {A : Around} {E : Value → Shared → Prop} {s : Shared} {h₀ : Heap} {L : Addr} {m : Str → Option Value} {K : Frag}
theorem rx_methodK {a : Addr} {o : Obj} {pl : Sem Bool} {Q : Value × List Value → Shared → Prop} (F : Fr h₀ L s.heap m) (X : K.In h₀) (ho : K.lookup a = some o) (hc : o.cls = .type "re.Pattern") (hdict : o.dict = none)
    (h : Q (.builtin "re.Pattern.search", [.ref a]) s) : wpAny (model prog w) A (getMethod (.ref a) (Str.ofString "search") pl) Q E s := rx_method ((X.keeps F.keep) _ _ ho) hc hdict h
open PySem.Builtin.Re in
theorem rx_searchK {a b : Addr} {o o2 : Obj} {fs items : Array Value} {n2 : Nat} {code : Array Nat} {x : Nat} {l : List Nat} {t : Tok} {Q : Value → Shared → Prop}
    (F : Fr h₀ L s.heap m) (X : K.In h₀) (ho : K.lookup a = some o) (hc : o.cls = .type "re.Pattern") (hd : o.data = .fields fs) (h5 : fs.getD 5 .none = .ref b) (h6 : reRawNat (fs.getD 6 .none) = 0) (h2 : reRawNat (fs.getD 2 .none) = 0)
    (hb : K.lookup b = some o2) (hd2 : o2.data = .seq items n2) (hcode : (items.map reRawOf).map (·.toNat) = code)
    (hh : Sre.header code = (1, x)) (hfs : ((match Sre.ops[code.getD 0 0]? with | some .INFO => true | _ => false) && code.getD 2 0 == 4) = true)
    (hin : ∀ c ∈ l, ∀ seen, ∃ seen', Sre.inSet code c code.size 5 true seen = .ok (false, seen')) (hz : l.length < 1000) (h : Q .none s) :
    wpAny (model prog w) A (call (.builtin "re.Pattern.search") [.ref a, .str (S l) t]) Q E s := rx_search ((X.keeps F.keep) _ _ ho) hc hd h5 h6 h2 ((X.keeps F.keep) _ _ hb) hd2 hcode hh hfs hin hz h
end
theorem rx_search110 {o o2 : Obj} {fs items : Array Value} {n2 : Nat} {prog : Program} {w : World} {A : Around} {E : Value → Shared → Prop} {s : Shared} {h₀ : Heap} {L : Addr} {m : Str → Option Value} {K : Frag} {l : List Nat} {t : Tok} {Q : Value → Shared → Prop}
    (F : Fr h₀ L s.heap m) (X : K.In h₀) (hl : ∀ c ∈ l, isC c) (hz : l.length < 40) (ho : K.lookup 111 = some o) (hb : K.lookup 110 = some o2) (hc : o.cls = .type "re.Pattern") (hd : o.data = .fields fs) (h5 : fs.getD 5 .none = .ref 110) (h6 : Builtin.Re.reRawNat (fs.getD 6 .none) = 0) (h2 : Builtin.Re.reRawNat (fs.getD 2 .none) = 0)
    (hd2 : o2.data = .seq items n2) (hcode : (items.map Builtin.Re.reRawOf).map (·.toNat) = code110.toArray) (h : Q .none s) :
    wpAny (model prog w) A (call (.builtin "re.Pattern.search") [.ref 111, .str (S l) t]) Q E s :=
  rx_searchK F X ho hc hd h5 h6 h2 hb hd2 hcode (x := 11) rfl rfl (fun c h => in110 c (hl c h)) (by omega) h
theorem rx_search115 {o o2 : Obj} {fs items : Array Value} {n2 : Nat} {prog : Program} {w : World} {A : Around} {E : Value → Shared → Prop} {s : Shared} {h₀ : Heap} {L : Addr} {m : Str → Option Value} {K : Frag} {l : List Nat} {t : Tok} {Q : Value → Shared → Prop}
    (F : Fr h₀ L s.heap m) (X : K.In h₀) (hl : ∀ c ∈ l, isC c) (hz : l.length < 40) (ho : K.lookup 116 = some o) (hb : K.lookup 115 = some o2) (hc : o.cls = .type "re.Pattern") (hd : o.data = .fields fs) (h5 : fs.getD 5 .none = .ref 115) (h6 : Builtin.Re.reRawNat (fs.getD 6 .none) = 0) (h2 : Builtin.Re.reRawNat (fs.getD 2 .none) = 0)
    (hd2 : o2.data = .seq items n2) (hcode : (items.map Builtin.Re.reRawOf).map (·.toNat) = code115.toArray) (h : Q .none s) :
    wpAny (model prog w) A (call (.builtin "re.Pattern.search") [.ref 116, .str (S l) t]) Q E s :=
  rx_searchK F X ho hc hd h5 h6 h2 hb hd2 hcode (x := 15) rfl rfl (fun c h => in115 c (hl c h)) (by omega) h
end Mine

end
noncomputable section
theorem Mine.flush_L1 {w : World} {A : Around} {v : Value} {Q E : Value → Shared → Prop} {s : Shared} (h : Q v s) : wpAny (model Mine.PR w) A (pure v) Q E s := by
  w_top off
  (try walk1)
  first | exact h | exact wpAny_pure h
open PySem PySem.W PyProof.Rows PySem.Calls PySem.Spec
namespace Mine
theorem fill1 : (∀ P, hd.heap_39 P = hd.heap_39 P) ∧ PySem.Challenge.rw_tl0060_01 = PySem.Challenge.rw_tl0060_01 := by
  k_fill
  exact ⟨fun _ => rfl, rfl⟩

def mx (a b c : Int) : Int := if b > a then (if c > b then c else b) else (if c > a then c else a)
def mn (a b c : Int) : Int := if b < a then (if c < b then c else b) else (if c < a then c else a)
/-- the quotient of two ints as a float's bits -/
def frac (a b : Int) : UInt64 := Float64.ofFrac (decide (a < 0) != decide (b < 0)) a.natAbs b.natAbs
def hue0 (r g b M m : Int) : UInt64 :=
  if r = M then Float64.sub (frac (M - b) (M - m)) (frac (M - g) (M - m))
  else if g = M then Float64.sub (Float64.add 4611686018427387904 (frac (M - r) (M - m))) (frac (M - b) (M - m))
  else Float64.sub (Float64.add 4616189618054758400 (frac (M - g) (M - m))) (frac (M - r) (M - m))
def hueB (r g b : Int) : UInt64 := (Float64.divmod (Float64.div (hue0 r g b (mx r g b) (mn r g b)) 4618441417868443648) 4607182418800017408).snd

theorem max3K {prog : Program} {w : World} {A : Around} {E : Value → Shared → Prop} {s : Shared} {h₀ : Heap} {L : Addr} {m : Str → Option Value} {news : List (Addr × Obj)} {a b c : Int} {t u x : Tok} {Q : Value → Shared → Prop}
    (F : Fr h₀ L s.heap m) (N : News h₀ L s.heap news) (hh : A.handled = none)
    (h : ∀ t' h' tk, Fr h₀ L h' m → News h₀ L h' news → Q (.int (mx a b c) t') { s with heap := h', toks := tk }) :
    wpAny (model prog w) A (call (.builtin "max") [.int a t, .int b u, .int c x]) Q E s := by
  refine max_three_ints hh fun h' tk k => ?_
  have e : (if b > a then (if c > b then Value.int c x else .int b u) else (if c > a then .int c x else .int a t)) = .int (mx a b c) (if b > a then (if c > b then x else u) else (if c > a then x else t)) := by
    unfold mx; split <;> split <;> rfl
  rw [e]
  exact h _ _ _ (frKeep F k) (newsKeep N k)
theorem min3K {prog : Program} {w : World} {A : Around} {E : Value → Shared → Prop} {s : Shared} {h₀ : Heap} {L : Addr} {m : Str → Option Value} {news : List (Addr × Obj)} {a b c : Int} {t u x : Tok} {Q : Value → Shared → Prop}
    (F : Fr h₀ L s.heap m) (N : News h₀ L s.heap news) (hh : A.handled = none)
    (h : ∀ t' h' tk, Fr h₀ L h' m → News h₀ L h' news → Q (.int (mn a b c) t') { s with heap := h', toks := tk }) :
    wpAny (model prog w) A (call (.builtin "min") [.int a t, .int b u, .int c x]) Q E s := by
  refine min_three_ints hh fun h' tk k => ?_
  have e : (if b < a then (if c < b then Value.int c x else .int b u) else (if c < a then .int c x else .int a t)) = .int (mn a b c) (if b < a then (if c < b then x else u) else (if c < a then x else t)) := by
    unfold mn; split <;> split <;> rfl
  rw [e]
  exact h _ _ _ (frKeep F k) (newsKeep N k)
section
local macro_rules | `(tactic| walk_at "call builtin:max") => `(tactic| (k_here; (with_reducible show wpAny _ _ (call (Value.builtin "max") [Value.int _ _, Value.int _ _, Value.int _ _]) _ _ _); k_dflt (refine' max3K ?F ?N ?h ?_; (case F => k_asm); (case N => k_asm); (case h => exact rfl); k_whole); intro t' h' tk' F' N'; (try k_sweep)))
local macro_rules | `(tactic| walk_at "call builtin:min") => `(tactic| (k_here; (with_reducible show wpAny _ _ (call (Value.builtin "min") [Value.int _ _, Value.int _ _, Value.int _ _]) _ _ _); k_dflt (refine' min3K ?F ?N ?h ?_; (case F => k_asm); (case N => k_asm); (case h => exact rfl); k_whole); intro t' h' tk' F' N'; (try k_sweep)))

theorem hsv {w : World} {p : Program} {loose : List Str} {mean : ExcName → Option Value} {mg mb : Str → Option Value}
    {dp un : Nat} {gd : Option (List Code)} {cn : Str} {cs : Scope} {a9 : Addr} {ccd : Value} {cl : List (Str × Addr)} {outer : List Env} {A₀ : Around} {base h₀ : Heap} {L : Addr} {m : Str → Option Value} {news : Led} {s : Shared} {Q E : Value → Shared → Prop}
    (C : Cx w p loose mean mg mb dp un cs A₀ base outer h₀) (F : Fr h₀ L s.heap m) (N : News h₀ L s.heap news)
    (r g b : Int) (tr tg tb : Tok) (hr0 : 0 ≤ r) (hg0 : 0 ≤ g) (hb0 : 0 ≤ b) (hr1 : r ≤ 64) (hg1 : g ≤ 64) (hb1 : b ≤ 64) (hne : mn r g b < mx r g b)
    (hret : ∀ q t1 x t2 t3 h' tk', Fr h₀ L h' m → News h₀ L h' ((q, ({ cls := .type "tuple", data := .seq #[.float (hueB r g b) t1, .float x t2, .int (mx r g b) t3] } : Obj)) :: news) → (∀ p ∈ news, p.1 < q) → Q (.ref q) { s with heap := h', toks := tk' }) :
    wpAny (model PR w) (ktrTop dp un gd cn cs L a9 ccd cl outer) (call (.ref 45) [.int r tr, .int g tg, .int b tb]) Q E s := by
  obtain ⟨B, X, T, C1, C2, hk, hdp, hun⟩ := C
  have hdp1 : dp + 1 < recursionLimit := by omega
  have hun1 : un + 8 < cLine := by omega
  have hM0 : 0 < mx r g b := by unfold mx mn at *; omega
  have hM1 : mx r g b ≤ 64 := by unfold mx; omega
  have hm0 : 0 ≤ mn r g b := by unfold mn; omega
  have hrM : r ≤ mx r g b := by unfold mx; omega
  have hgM : g ≤ mx r g b := by unfold mx; omega
  have hbM : b ≤ mx r g b := by unfold mx; omega
  refine wpAny_call ?_
  k_dflt cell_enter
  k_steps
  all_goals (first
    | (exfalso; omega)
    | (refine' hret _ _ _ _ _ _ _ ?ra ?rb ?rc
       case ra => assumption
       case rb =>
         unfold hueB hue0 frac
         first | (rw [if_pos (by assumption)]; assumption) | (rw [if_neg (by assumption), if_pos (by assumption)]; assumption) | (rw [if_neg (by assumption), if_neg (by assumption)]; assumption)
       case rc => assumption))
end
end Mine

end
noncomputable section
theorem Mine.flush_L2 {w : World} {A : Around} {v : Value} {Q E : Value → Shared → Prop} {s : Shared} (h : Q v s) : wpAny (model Mine.PR w) A (pure v) Q E s := by
  w_top off
  (try walk1)
  first | exact h | exact wpAny_pure h
open PySem PySem.W PyProof.Rows PySem.Calls PySem.Spec
namespace Mine
theorem fill : (∀ P, hd.heap_39 P = hd.heap_39 P) ∧ PySem.Challenge.rw_tl0060_01 = PySem.Challenge.rw_tl0060_01 := by
  k_fill
  exact ⟨fun _ => rfl, rfl⟩

section
local macro_rules | `(tactic| walk_at "exec While") => `(tactic| (k_here; refine Halt.in ?_))

local macro_rules | `(tactic| walk_at "subscriptTail Name Slice str ref") => `(tactic| ((with_reducible show wpAny _ _ (subscriptTail _ (Expr.Slice none (some (Expr.BoolOp _ _ _)) none _) _ _) _ _ _); (with_reducible rename Fr _ _ _ _ => F'); (with_reducible rename News _ _ _ _ => N'); (refine sliceAll (hsz := ?hsz) (s := ⟨_, _, _, _, _⟩) F' N' ?_); (case hsz => size_fits); intro _ _ _ _ _))

theorem lev {w : World} {p : Program} {loose : List Str} {mean : ExcName → Option Value} {mg mb : Str → Option Value}
    {dp un : Nat} {gd : Option (List Code)} {cn : Str} {cs : Scope} {a9 : Addr} {ccd : Value} {cl : List (Str × Addr)} {outer : List Env} {A₀ : Around} {base h₀ : Heap} {L : Addr} {m : Str → Option Value} {news : Led} {s : Shared} {Q E : Value → Shared → Prop}
    (C : Cx w p loose mean mg mb dp un cs A₀ base outer h₀) (F : Fr h₀ L s.heap m) (N : News h₀ L s.heap news)
    (l c : List Nat) (ta tb tc : Tok) (hc : c ≠ []) (hlc : (l ++ c).length ≤ 40)
    (hret : ∀ t h' tk', Fr h₀ L h' m → News h₀ L h' news → Q (.int (2 * (c.length : Int)) t) { s with heap := h', toks := tk' }) :
    wpAny (model PR w) (ktrTop dp un gd cn cs L a9 ccd cl outer) (call (.ref 101) [.str (S (l ++ c)) ta, .str (S l) tb, .int 99 tc]) Q E s := by
  obtain ⟨B, X, T, C1, C2, hk, hdp, hun⟩ := C
  have hdp1 : dp + 1 < recursionLimit := by omega
  have hun1 : un + 8 < cLine := by omega
  have hne : (S (l ++ c) == S l) = false := by
    rw [S_beq]; simp [hc]
  have hc0 : 0 < c.length := List.length_pos_iff.mpr hc
  have hit : ∀ i : Int, 0 ≤ i → i < l.length → (Txt.item (S (l ++ c)) i == Txt.item (S l) i) = true := by
    intro i h0 h1
    rw [S_item _ i h0 (by simp; omega), S_item _ i h0 h1, S_beq]
    rw [S_getD_append l c i.toNat (by omega)]; simp
  have hl1 : (S (l ++ c)).length = l.length + c.length := by rw [S_len]; simp
  have hl2 : (S l).length = l.length := S_len l
  have hlc' : l.length + c.length ≤ 40 := by simpa using hlc
  generalize S (l ++ c) = a at *
  generalize S l = b at *
  generalize l.length = nl at *
  generalize c.length = nc at *
  refine wpAny_call ?_
  k_dflt cell_enter
  k_steps
  -- the first while
  refine ⟨?_⟩
  rename Fr _ _ _ _ => F1
  rename News _ _ _ _ => N1
  k_fold
  refine whileInt (Str.ofString "pre") (fun i => 0 ≤ i ∧ i ≤ nl) (fun i => ((nl : Int) - i).toNat) F1 N1 (by rfl) ⟨by omega, by omega⟩ ?_
  intro i t h₁ tk₁ hP F2 N2
  clear F1 N1
  obtain ⟨hi0, hi1⟩ := hP
  k_steps
  · rename Fr _ _ _ _ => F3
    rename News _ _ _ _ => N3
    exact IntEnd.mk' F3 N3 (setN_twice _ _ _ _) (by omega) ⟨by omega, by omega⟩
  all_goals (try (exfalso; first | omega | (have := hit i hi0 (by omega); simp_all; done)))
  -- the second while
  refine ⟨?_⟩
  refine whileOnce ?_
  k_steps
  all_goals (first | (exfalso; omega) | (refine cb_retI hret ?_ (by assumption) (by assumption); omega))
end
end Mine

end
noncomputable section
theorem Mine.flush_L3 {w : World} {A : Around} {v : Value} {Q E : Value → Shared → Prop} {s : Shared} (h : Q v s) : wpAny (model Mine.PR w) A (pure v) Q E s := by
  w_top off
  (try walk1)
  first | exact h | exact wpAny_pure h
open PySem PySem.W PyProof.Rows PySem.Calls PySem.Spec
namespace Mine
theorem fill3 : (∀ P, hd.heap_39 P = hd.heap_39 P) ∧ PySem.Challenge.rw_tl0060_01 = PySem.Challenge.rw_tl0060_01 := by
  k_fill
  exact ⟨fun _ => rfl, rfl⟩
local macro_rules | `(tactic| k_all) => `(tactic| first | assumption | (tbn_letter; first | (refine neAll1 ?_; tbn_find) | (refine neAll2 ?_; tbn_find) | (refine neAll3 ?_; tbn_find)))
local macro_rules | `(tactic| k_mem) => `(tactic| assumption)
local macro_rules | `(tactic| cell_enter) => `(tactic| (refine' code_defC ?k1 ?k2 ?k3 ?k4 ?k5 ?kA ?kF ?kK ?k6 ?k7 ?k8 ?k9 ?kB ?kD ?_ ?c2 ?c3 ?c4; (case kA => exact rfl); (case kF => exact rfl); (case kK => assumption); (case k1 => k_asm); (case k2 => k_asm); (case k3 => k_asm); (case k4 => k_asm); (case k5 => k_asm); (case k6 => k_is); (case k7 => k_is); (case k8 => ktr_room); (case k9 => exact BindsTo.of_eq rfl); (case kB => exact rfl); (case kD => decide +kernel); (case c2 => exact rfl); (case c3 => exact rfl); (case c4 => exact rfl); k_whole; intro g' L' h' tk' cells' FG' F' N' Y' B' X' T' l1; (try k_lt l1); k_cells Y'; (try simp only [List.cons_append, List.nil_append] at N'); (try dsimp only); (try k_lift B'); (try k_fold)))
local macro_rules | `(tactic| walk_at "truthy ref") => `(tactic| (k_here; (with_reducible show wpAny _ _ (truthy (Value.ref _)) _ _ _); k_dflt (refine' truthyL ?k1 ?k2 ?k3 ?_; (case k1 => k_asm); (case k2 => k_mem); (case k3 => (first | assumption | omega)); k_whole)))
local macro_rules | `(tactic| walk_at "call builtin:len") => `(tactic| (k_here; (with_reducible show wpAny _ _ (call (Value.builtin "len") [Value.ref _]) _ _ _); k_dflt (refine' lenL ?k1 ?k2 ?k3 ?_; (case k1 => k_asm); (case k2 => k_mem); (case k3 => (first | assumption | omega)); k_whole); intro _))
local macro_rules | `(tactic| walk_at "subscriptTail Name Name ref int") => `(tactic| (k_here; k_dflt (refine' itemInt ?k1 ?k2 ?k3 ?k4 ?k5 ?k6 ?_; (case k1 => k_asm); (case k2 => k_mem); (case k3 => assumption); (case k4 => omega); (case k5 => omega); (case k6 => omega); k_whole); intro _))
local macro_rules | `(tactic| walk_at "call ref") => `(tactic| (k_here; refine Halt.in ?_))

abbrev q_d2i : Str := Str.ofString "_digits2int" ++ Str.ofString ".<locals>." ++ Str.ofString "inner"
local macro_rules | `(tactic| walk_at "exec FunctionDef") => `(tactic| (k_here; refine Halt.in ?_))
theorem d2iS {w : World} {p : Program} {loose : List Str} {mean : ExcName → Option Value} {mg mb : Str → Option Value}
    {dp un : Nat} {gd : Option (List Code)} {cn : Str} {cs : Scope} {a9 : Addr} {ccd : Value} {cl : List (Str × Addr)} {outer : List Env} {A₀ : Around} {base h₀ : Heap} {L : Addr} {m : Str → Option Value} {news : Led} {s : Shared} {Q E : Value → Shared → Prop}
    (C : Cx w p loose mean mg mb dp un cs A₀ base outer h₀) (F : Fr h₀ L s.heap m) (dl : Addr) (vs : List Value) (ds : List Int) (n0 : Nat) (n : Nat) (tn : Tok) (ps : Array Value)
    (N : News h₀ L s.heap ((68, tabObj ps) :: news)) (hA : ∀ p ∈ news, p.1 ≠ 68) {news0 : Led} (hs0 : ∀ q ∈ news0, q ∈ news) (hst : TabSt 71 4 q_d2i ps news0)
    (hdl : (dl, lstN vs n0) ∈ news) (hds : IntsAre vs ds) (hz : vs.length ≤ 8) (hn : n ≤ 8) (hbd : ∀ d ∈ ds, 0 ≤ d ∧ d < 2 ^ n)
    (hret : ∀ t ps' tl h' tk', Fr h₀ L h' m → News h₀ L h' ((68, tabObj ps') :: (tl ++ news)) → (∀ q ∈ tl, ∀ r ∈ (68, tabObj ps) :: news, r.1 < q.1) → TabSt 71 4 q_d2i ps' (tl ++ news0) →
      Q (.int (dval n ds) t) { s with heap := h', toks := tk' }) :
    wpAny (model PR w) (ktrTop dp un gd cn cs L a9 ccd cl outer) (call (.ref 73) [.ref dl, .int (n : Int) tn]) Q E s := by
  obtain ⟨B, X, T, C1, C2, hk, hdp, hun⟩ := C
  have hdp1 : dp + 1 < recursionLimit := by omega
  have hun1 : un + 8 < cLine := by omega
  have hdz : ds.length ≤ 8 := by have := hds.length; omega
  refine wpAny_call ?_
  k_dflt cell_enter
  k_steps
  refine ⟨?_⟩
  rename Fr _ _ _ _ => F1
  rename News _ _ _ _ => N1
  rename_i g1 L1 x1 x2 FG B1 X1 T1 l1 o1 o2 o3 d1 d2 d3
  have e2 : o2.data = .cell (some (.int (n : Int) tn)) := d2
  have e3 : o3.data = .cell (some (.ref dl)) := d3
  clear d2 d3
  k_dflt (refine' nestDef_K ?d0 ?k0 ?a0 ?_)
  case d0 => exact rfl
  case k0 => exact rfl
  case a0 => exact rfl
  k_dflt (refine' nestAny (news0 := news0) ?s3 (P := 68) (ps := ps) (news := (L1 + 1 + 1 + 1, o1) :: (L1 + 1 + 1, o2) :: (L1 + 1, o3) :: news) F1 (news_sub N1 ?s1) ?s2 T1 (C1.keeps B1.stays) rfl hst rfl ?_)
  case s1 =>
    intro q hq
    simp only [List.mem_cons] at hq ⊢
    rcases hq with h | h | h | h | h <;> simp [h]
  case s2 =>
    intro q hq
    simp only [List.mem_cons] at hq
    rcases hq with h | h | h | h
    · rw [h]; exact (ne_cells l1.1).2.2
    · rw [h]; exact (ne_cells l1.1).2.1
    · rw [h]; exact (ne_cells l1.1).1
    · exact hA q h
  case s3 =>
    intro q hq
    exact List.Mem.tail _ (List.Mem.tail _ (List.Mem.tail _ (hs0 q hq)))
  intro f1 c1 oc vs1 t1 ct1 dc1 tl x3 x4 F2 N2 hcm dc2 dv ltl lf lP
  have lc1 := ltN (lf _ (List.mem_append_right _ (List.Mem.head _)))
  have lc2 := ltN (lf _ (List.mem_append_right _ (List.Mem.tail _ (List.Mem.head _))))
  have lc3 := ltN (lf _ (List.mem_append_right _ (List.Mem.tail _ (List.Mem.tail _ (List.Mem.head _)))))
  dsimp only at lc1 lc2 lc3
  have hnews2 : ∀ q ∈ tl ++ news, q.1 ≠ L1 + 1 + 1 + 1 := by
    intro q hq
    rcases List.mem_append.mp hq with hq | hq
    · exact Nat.ne_of_gt (ltl q hq _ (List.Mem.tail _ (List.Mem.head _)))
    · exact neAll3 l1.2 q hq
  have hnews3 : ∀ q ∈ tl ++ news, q.1 < f1 := by
    intro q hq
    rcases List.mem_append.mp hq with hq | hq
    · exact lf q (List.mem_append_left _ hq)
    · exact lf q (List.mem_append_right _ (List.Mem.tail _ (List.Mem.tail _ (List.Mem.tail _ hq))))
  have hcn : (c1, oc) ∈ tl ++ news := by
    rcases List.mem_append.mp hcm with h | h
    · exact List.mem_append_left _ h
    · exact List.mem_append_right _ (hs0 _ h)
  obtain ⟨news2, hnw⟩ : ∃ news2, tl ++ news = news2 := ⟨_, rfl⟩
  have N3 := news_rot N2
  rw [hnw] at N3
  clear N2 N1 F1
  rw [hnw] at hnews2 hnews3 hcn
  have hdl2 : (dl, lstN vs n0) ∈ news2 := by rw [← hnw]; exact List.mem_append_right _ hdl
  k_steps
  · have hv0 : vs.isEmpty = true := by assumption
    have e : dval n ds = 0 := by cases hds <;> simp [dval] at hv0 ⊢
    rw [← e]
    subst hnw
    refine' hret _ #[rawInt 71, rawInt 4, .ref c1] tl _ _ (by assumption) (news_sub (by assumption) ?_) ?_ ?_
    · intro q hq
      exact List.Mem.tail _ (List.Mem.tail _ (List.Mem.tail _ (List.Mem.tail _ hq)))
    · intro q hq r hr
      refine ltl q hq r ?_
      rcases List.mem_cons.mp hr with rfl | hr
      · exact List.Mem.head _
      · exact List.Mem.tail _ (List.Mem.tail _ (List.Mem.tail _ (List.Mem.tail _ hr)))
    · exact Or.inr ⟨c1, oc, vs1, t1, rfl, hcm, dc2, dv⟩
  · refine ⟨?_⟩
    rename Fr _ _ _ _ => F1
    rename News _ _ _ _ => N1
    refine led_abs N1 (fun LED N2 hin hout => ?_)
    have hf := hin _ (List.Mem.head _)
    have hq1 := hin _ (List.Mem.tail _ (List.Mem.head _))
    have hq2 := hin _ (List.Mem.tail _ (List.Mem.tail _ (List.Mem.head _)))
    have hq3 := hin _ (List.Mem.tail _ (List.Mem.tail _ (List.Mem.tail _ (List.Mem.head _))))
    have hq4 := hin _ (List.Mem.tail _ (List.Mem.tail _ (List.Mem.tail _ (List.Mem.tail _ (List.Mem.head _)))))
    have hin2 : ∀ q ∈ news2, q ∈ LED := fun q hq => hin _ (List.Mem.tail _ (List.Mem.tail _ (List.Mem.tail _ (List.Mem.tail _ (List.Mem.tail _ hq)))))
    have hc := hin2 _ hcn
    have hdl' := hin2 _ hdl2
    have spec : ∀ (k i j : Nat) (ti tj : Tok) (dp un : Nat) (gd : Option (List Code)) (cn : Str) (cs : Scope) (a9 : Addr) (ccd : Value) (cl : List (Str × Addr)) (outer : List Env) (A₀ : Around) (h₀ : Heap) (L : Addr) (m : Str → Option Value) (s : Shared) (Q E : Value → Shared → Prop),
        Below A₀ base outer h₀ → Fr h₀ L s.heap m → (hd.heap_39 w.params).In h₀ → News h₀ L s.heap LED → Top p loose mean mg mb h₀ → cs.kind = .function → dp + k < recursionLimit → un + 8 * k < cLine → i < j → j ≤ ds.length → j - i ≤ k →
        (∀ t h' tk', Fr h₀ L h' m → News h₀ L h' LED → Q (.int (dval n (cut ds i j)) t) { s with heap := h', toks := tk' }) →
        wpAny (model PR w) (ktrTop dp un gd cn cs L a9 ccd cl outer) (call (.ref f1) [.int (i : Int) ti, .int (j : Int) tj]) Q E s := by
      clear hret F1 N1 N2 hout hk hdp hun hdp1 hun1 FG B1 X1 T1 N F B X T hdl hA lf ltl hnews2 hnews3 hst hin hin2
      intro k
      induction k with
      | zero => intros; omega
      | succ k ih =>
        intro i j ti tj dp un gd cn cs a9 ccd cl outer A₀ h₀ L m s Q E B F X N T hk hdp hun hij hj hk1 hret
        have hdp1 : dp + 1 < recursionLimit := by omega
        have hun1 : un + 8 < cLine := by omega
        refine wpAny_call ?_
        k_dflt (refine' code_nest ?k1 ?k2 ?k3 ?k4 ?k5 ?kA ?kF ?kK ?k6 ?k7 ?k8 ?k9 ?kB ?_ ?c2 ?c3 ?c4 ?c5; (case kA => exact rfl); (case kF => exact rfl); (case kK => assumption); (case k1 => k_asm); (case k2 => k_asm); (case k3 => k_asm); (case k4 => k_asm); (case k5 => k_asm); (case k6 => k_mem); (case k7 => exact codeRec_news (by k_asm) (by k_mem) (by assumption) (by assumption)); (case k8 => ktr_room); (case k9 => exact BindsTo.of_eq rfl); (case c5 => decide); (case kB => exact locs rfl); (case c2 => exact rfl); (case c3 => exact rfl); (case c4 => exact rfl); k_whole; intro g' L' h' FG' F' N' B' X' T'; (try dsimp only); (try k_lift B'); (try k_fold))
        k_steps
        · rename (_ + 1 = _) => hij1
          have ej : j = i + 1 := by omega
          subst ej
          refine cb_retI hret ?_ (by assumption) (by assumption)
          rw [cut_one ds i (by omega)]
          simp [dval]
        · refine ⟨?_⟩
          rename Fr _ _ _ _ => F1
          rename News _ _ _ _ => N1
          have hne1 : (i : Int) + 1 ≠ (j : Int) := by assumption
          have hne2 : i + 1 ≠ j := by omega
          obtain ⟨md, hmd⟩ : ∃ md : Nat, (i + j) / 2 = md := ⟨_, rfl⟩
          obtain ⟨sf, hsf⟩ : ∃ sf : Nat, (md - i) * n = sf := ⟨_, rfl⟩
          have hm1 : i < md := by omega
          have hm2 : md < j := by omega
          have hs1 : sf ≤ 64 := by rw [← hsf]; exact Nat.le_trans (Nat.mul_le_mul (show md - i ≤ 8 by omega) hn) (by decide)
          have es : ((md : Int) - (i : Int)) * (n : Int) = (sf : Int) := by rw [← hsf, Int.natCast_mul, Int.natCast_sub (by omega)]
          simp only [mid_is, hmd, es] at F1 ⊢
          k_dflt (refine' ih md j _ _ _ _ _ _ _ _ _ _ _ _ _ _ _ _ _ _ ?k1 ?k2 ?k3 ?k4 ?k5 ?kK ?kd ?ku ?h1 ?h2 ?h3 ?hr)
          case k1 => k_asm
          case k2 => k_asm
          case k3 => k_asm
          case k4 => k_asm
          case k5 => k_asm
          case kK => first | exact rfl | assumption
          case kd => ktr_room
          case ku => ktr_units
          case h1 => omega
          case h2 => omega
          case h3 => omega
          intro t5 h5 tk5 F5 N5
          clear F1 N1
          obtain ⟨hv0, hv1⟩ := dval_cut_bound n ds md j hn hdz hbd
          obtain ⟨v, hv⟩ : ∃ v, dval n (cut ds md j) = v := ⟨_, rfl⟩
          rw [hv] at hv0 hv1 ⊢
          (try dsimp only)
          (try k_fold)
          k_steps
          refine ⟨?_⟩
          rename Fr _ _ _ _ => F1
          rename News _ _ _ _ => N1
          k_dflt (refine' ih i md _ _ _ _ _ _ _ _ _ _ _ _ _ _ _ _ _ _ ?k1b ?k2b ?k3b ?k4b ?k5b ?kKb ?kdb ?kub ?h1b ?h2b ?h3b ?hrb)
          case k1b => k_asm
          case k2b => k_asm
          case k3b => k_asm
          case k4b => k_asm
          case k5b => k_asm
          case kKb => first | exact rfl | assumption
          case kdb => ktr_room
          case kub => ktr_units
          case h1b => omega
          case h2b => omega
          case h3b => omega
          intro t6 h6 tk6 F6 N6
          clear F1 N1
          obtain ⟨hw0, hw1⟩ := dval_cut_bound n ds i md hn hdz hbd
          obtain ⟨v2, hv2⟩ : ∃ v, dval n (cut ds i md) = v := ⟨_, rfl⟩
          rw [hv2] at hw0 hw1 ⊢
          (try dsimp only)
          (try k_fold)
          k_steps
          refine cb_retI hret ?_ (by assumption) (by assumption)
          rw [cut_split ds i md j (by omega) (by omega), dval_append, cut_len ds i md (by omega) (by omega), hv, hv2, Nat.mul_comm n, hsf]
          rw [Int.toNat_natCast]; omega
    have hdl8 := hds.length
    k_dflt (refine' spec ds.length 0 vs.length _ _ _ _ _ _ _ _ _ _ _ _ _ _ _ _ _ _ ?k1c ?k2c ?k3c ?k4c ?k5c ?kKc ?kdc ?kuc ?h1c ?h2c ?h3c ?hrc)
    case k1c => k_asm
    case k2c => k_asm
    case k3c => k_asm
    case k4c => k_asm
    case k5c => k_asm
    case kKc => first | exact rfl | assumption
    case kdc => ktr_room
    case kuc => ktr_units
    case h1c =>
      have hv0 : vs.isEmpty = false := by assumption
      cases vs with
      | nil => simp at hv0
      | cons => simp
    case h2c => omega
    case h3c => omega
    intro t6 h6 tk6 F6 N6
    clear F1 N1
    (try dsimp only)
    (try k_fold)
    k_steps
    have e : cut ds 0 vs.length = ds := by unfold cut; simp [hdl8]
    rw [e]
    subst hnw
    refine' hret _ #[rawInt 71, rawInt 4, .ref c1] tl _ _ (by assumption) (news_sub (by assumption) ?_) ?_ ?_
    · intro q hq
      rcases List.mem_cons.mp hq with rfl | hq
      · exact hq4
      · exact hin2 q hq
    · intro q hq r hr
      refine ltl q hq r ?_
      rcases List.mem_cons.mp hr with rfl | hr
      · exact List.Mem.head _
      · exact List.Mem.tail _ (List.Mem.tail _ (List.Mem.tail _ (List.Mem.tail _ hr)))
    · exact Or.inr ⟨c1, oc, vs1, t1, rfl, hcm, dc2, dv⟩
theorem d2i {w : World} {p : Program} {loose : List Str} {mean : ExcName → Option Value} {mg mb : Str → Option Value}
    {dp un : Nat} {gd : Option (List Code)} {cn : Str} {cs : Scope} {a9 : Addr} {ccd : Value} {cl : List (Str × Addr)} {outer : List Env} {A₀ : Around} {base h₀ : Heap} {L : Addr} {m : Str → Option Value} {news : Led} {s : Shared} {Q E : Value → Shared → Prop}
    (C : Cx w p loose mean mg mb dp un cs A₀ base outer h₀) (F : Fr h₀ L s.heap m) (dl : Addr) (vs : List Value) (ds : List Int) (n0 : Nat) (n : Nat) (tn : Tok) (ps : Array Value)
    (N : News h₀ L s.heap ((68, tabObj ps) :: news)) (hA : ∀ p ∈ news, p.1 ≠ 68) (hst : TabSt 71 4 q_d2i ps news)
    (hdl : (dl, lstN vs n0) ∈ news) (hds : IntsAre vs ds) (hz : vs.length ≤ 8) (hn : n ≤ 8) (hbd : ∀ d ∈ ds, 0 ≤ d ∧ d < 2 ^ n)
    (hret : ∀ t ps' tl h' tk', Fr h₀ L h' m → News h₀ L h' ((68, tabObj ps') :: (tl ++ news)) → (∀ q ∈ tl, ∀ r ∈ (68, tabObj ps) :: news, r.1 < q.1) → TabSt 71 4 q_d2i ps' (tl ++ news) →
      Q (.int (dval n ds) t) { s with heap := h', toks := tk' }) :
    wpAny (model PR w) (ktrTop dp un gd cn cs L a9 ccd cl outer) (call (.ref 73) [.ref dl, .int (n : Int) tn]) Q E s :=
  d2iS C F dl vs ds n0 n tn ps N hA (fun _ h => h) hst hdl hds hz hn hbd hret
end Mine

end
noncomputable section
theorem Mine.flush_L4 {w : World} {A : Around} {v : Value} {Q E : Value → Shared → Prop} {s : Shared} (h : Q v s) : wpAny (model Mine.PR w) A (pure v) Q E s := by
  w_top off
  (try walk1)
  first | exact h | exact wpAny_pure h
open PySem PySem.W PyProof.Rows PySem.Calls PySem.Spec
namespace Mine
theorem fill4 : (∀ P, hd.heap_39 P = hd.heap_39 P) ∧ PySem.Challenge.rw_tl0060_01 = PySem.Challenge.rw_tl0060_01 := by
  k_fill
  exact ⟨fun _ => rfl, rfl⟩
local macro_rules | `(tactic| k_all) => `(tactic| first | assumption | (tbn_letter; first | (refine neAll1 ?_; tbn_find) | (refine neAll2 ?_; tbn_find) | (refine neAll3 ?_; tbn_find)))
local macro_rules | `(tactic| k_mem) => `(tactic| assumption)
local macro_rules | `(tactic| cell_enter) => `(tactic| (refine' code_defC ?k1 ?k2 ?k3 ?k4 ?k5 ?kA ?kF ?kK ?k6 ?k7 ?k8 ?k9 ?kB ?kD ?_ ?c2 ?c3 ?c4; (case kA => exact rfl); (case kF => exact rfl); (case kK => assumption); (case k1 => k_asm); (case k2 => k_asm); (case k3 => k_asm); (case k4 => k_asm); (case k5 => k_asm); (case k6 => k_is); (case k7 => k_is); (case k8 => ktr_room); (case k9 => exact BindsTo.of_eq rfl); (case kB => exact rfl); (case kD => decide +kernel); (case c2 => exact rfl); (case c3 => exact rfl); (case c4 => exact rfl); k_whole; intro g' L' h' tk' cells' FG' F' N' Y' B' X' T' l1; (try k_lt l1); k_cells Y'; (try simp only [List.cons_append, List.nil_append] at N'); (try dsimp only); (try k_lift B'); (try k_fold)))
local macro_rules | `(tactic| walk_at "truthy ref") => `(tactic| (k_here; (with_reducible show wpAny _ _ (truthy (Value.ref _)) _ _ _); k_dflt (refine' truthyL ?k1 ?k2 ?k3 ?_; (case k1 => k_asm); (case k2 => k_mem); (case k3 => (first | assumption | omega)); k_whole)))
local macro_rules | `(tactic| walk_at "call builtin:len") => `(tactic| (k_here; (with_reducible show wpAny _ _ (call (Value.builtin "len") [Value.ref _]) _ _ _); k_dflt (refine' lenL ?k1 ?k2 ?k3 ?_; (case k1 => k_asm); (case k2 => k_mem); (case k3 => (first | assumption | omega)); k_whole); intro _))
local macro_rules | `(tactic| walk_at "subscriptTail Name Name ref int") => `(tactic| (k_here; k_dflt (refine' itemInt ?k1 ?k2 ?k3 ?k4 ?k5 ?k6 ?_; (case k1 => k_asm); (case k2 => k_mem); (case k3 => assumption); (case k4 => omega); (case k5 => omega); (case k6 => omega); k_whole); intro _))
local macro_rules | `(tactic| walk_at "call ref") => `(tactic| (k_here; refine Halt.in ?_))

local macro_rules | `(tactic| walk_at "exec FunctionDef") => `(tactic| (k_here; refine Halt.in ?_))
local macro_rules | `(tactic| walk_at "binaryOp Mult ref int") => `(tactic| (k_here; refine Halt.in ?_))
local macro_rules | `(tactic| walk_at "binaryOp Mult int int") => `(tactic| (k_here; (with_reducible show wpAny _ _ (binaryOp _ (Value.int (Int.fdiv _ _ - _) _) _) _ _ _); refine Halt.in ?_))
local macro_rules | `(tactic| walk_at "binaryOp RShift int int") => `(tactic| (k_here; (with_reducible show wpAny _ _ (binaryOp _ (Value.int _ _) (Value.int (_ * _) _)) _ _ _); refine Halt.in ?_))
abbrev q_i2d : Str := Str.ofString "_int2digits" ++ Str.ofString ".<locals>." ++ Str.ofString "inner"
theorem i2d {w : World} {p : Program} {loose : List Str} {mean : ExcName → Option Value} {mg mb : Str → Option Value}
    {dp un : Nat} {gd : Option (List Code)} {cn : Str} {cs : Scope} {a9 : Addr} {ccd : Value} {cl : List (Str × Addr)} {outer : List Env} {A₀ : Around} {base h₀ : Heap} {L : Addr} {m : Str → Option Value} {news : Led} {s : Shared} {Q E : Value → Shared → Prop}
    (C : Cx w p loose mean mg mb dp un cs A₀ base outer h₀) (F : Fr h₀ L s.heap m) (a : Int) (n : Nat) (ta tn : Tok) (ps : Array Value)
    (N : News h₀ L s.heap ((61, tabObj ps) :: news)) (hA : ∀ p ∈ news, p.1 ≠ 61) (hst : TabSt 56 4 q_i2d ps news)
    (ha0 : 0 ≤ a) (ha1 : a < 128) (hn0 : 2 ≤ n) (hn1 : n ≤ 3)
    (hret : ∀ q vs ds ps' tl h' tk', Fr h₀ L h' m → News h₀ L h' ((61, tabObj ps') :: (q, lstN vs 0) :: (tl ++ news)) → IntsAre vs ds → dval n ds = a → (∀ d ∈ ds, 0 ≤ d ∧ d < 2 ^ n) → ds.length ≤ 8 →
      61 < q → (∀ r ∈ news, r.1 < q) → (∀ r ∈ tl, q < r.1 ∧ 61 < r.1 ∧ ∀ z ∈ news, z.1 < r.1) → TabSt 56 4 q_i2d ps' (tl ++ news) → Q (.ref q) { s with heap := h', toks := tk' }) :
    wpAny (model PR w) (ktrTop dp un gd cn cs L a9 ccd cl outer) (call (.ref 66) [.int a ta, .int (n : Int) tn]) Q E s := by
  obtain ⟨B, X, T, C1, C2, hk, hdp, hun⟩ := C
  have hdp1 : dp + 1 < recursionLimit := by omega
  have hun1 : un + 8 < cLine := by omega
  refine wpAny_call ?_
  k_dflt cell_enter
  obtain ⟨nd, hnd, hnd8, hand, hnd1⟩ := count_fact a n ha0 ha1 hn0 hn1
  k_steps
  refine ⟨?_⟩
  rename Fr _ _ _ _ => F1
  rename News _ _ _ _ => N1
  rename_i g1 L1 x1 x2 FG B1 X1 T1 l1 o1 o2 o3 d1 d2 d3 la x3 la1
  have e3 : o3.data = .cell (some (.int (n : Int) tn)) := d3
  simp only [hnd]
  refine zerosL F1 N1 (List.Mem.head _) (by omega) (by omega) fun q vs h2 F2 N2 hvs lq => ?_
  have N3 := news_sub (l' := (q, lstN vs 0) :: (L1 + 1 + 1 + 1, o1) :: (L1 + 1 + 1, o2) :: (L1 + 1, o3) :: (61, tabObj ps) :: news) N2 (by
    intro r hr
    simp only [List.mem_cons] at hr ⊢
    rcases hr with h | h | h | h | h | h <;> simp [h])
  have lq1 := ltN (lq _ (List.Mem.tail _ (List.Mem.head _)))
  have lq2 := ltN (lq _ (List.Mem.tail _ (List.Mem.tail _ (List.Mem.head _))))
  have lq3 := ltN (lq _ (List.Mem.tail _ (List.Mem.tail _ (List.Mem.tail _ (List.Mem.head _)))))
  have lq4 := ltN (lq _ (List.Mem.tail _ (List.Mem.tail _ (List.Mem.tail _ (List.Mem.tail _ (List.Mem.head _))))))
  dsimp only at lq1 lq2 lq3 lq4
  have lqn : ∀ r ∈ news, r.1 < q := fun r hr => lq r (List.Mem.tail _ (List.Mem.tail _ (List.Mem.tail _ (List.Mem.tail _ (List.Mem.tail _ hr)))))
  rw [Int.toNat_natCast] at hvs
  clear N1 N2 F1 lq la1
  k_steps
  refine ⟨?_⟩
  rename Fr _ _ _ _ => F1
  rename News _ _ _ _ => N1
  rename_i x4 o4 d4
  k_dflt (refine' nestDef_K ?d0 ?k0 ?a0 ?_)
  case d0 => exact rfl
  case k0 => exact rfl
  case a0 => exact rfl
  k_dflt (refine' nestAny (news0 := news) ?s3 (P := 61) (ps := ps) (news := (q, lstN vs 0) :: (L1 + 1 + 1 + 1, o1) :: (L1 + 1 + 1, o4) :: (L1 + 1, o3) :: news) F1 (news_sub N1 ?s1) ?s2 T1 (C2.keeps B1.stays) rfl hst rfl ?_)
  case s1 =>
    intro r hr
    simp only [List.mem_cons] at hr ⊢
    rcases hr with h | h | h | h | h | h <;> simp [h]
  case s2 =>
    intro r hr
    simp only [List.mem_cons] at hr
    rcases hr with h | h | h | h | h
    · rw [h]; exact Nat.ne_of_gt lq4
    · rw [h]; exact (ne_cells l1.1).2.2
    · rw [h]; exact (ne_cells l1.1).2.1
    · rw [h]; exact (ne_cells l1.1).1
    · exact hA r h
  case s3 =>
    intro r hr
    exact List.Mem.tail _ (List.Mem.tail _ (List.Mem.tail _ (List.Mem.tail _ hr)))
  intro f1 c1 oc vs1 t1 ct1 dc1 tl x6 x7 F2 N2 hcm dc2 dv ltl lf lP
  have lc0 := ltN (lf _ (List.mem_append_right _ (List.Mem.head _)))
  have lc1 := ltN (lf _ (List.mem_append_right _ (List.Mem.tail _ (List.Mem.head _))))
  have lc2 := ltN (lf _ (List.mem_append_right _ (List.Mem.tail _ (List.Mem.tail _ (List.Mem.head _)))))
  have lc3 := ltN (lf _ (List.mem_append_right _ (List.Mem.tail _ (List.Mem.tail _ (List.Mem.tail _ (List.Mem.head _))))))
  dsimp only at lc0 lc1 lc2 lc3
  have hnews2 : ∀ r ∈ tl ++ news, r.1 ≠ L1 + 1 + 1 + 1 := by
    intro r hr
    rcases List.mem_append.mp hr with hr | hr
    · exact Nat.ne_of_gt (ltl r hr _ (List.Mem.tail _ (List.Mem.tail _ (List.Mem.head _))))
    · exact neAll3 l1.2 r hr
  have hnews4 : ∀ r ∈ tl ++ news, r.1 ≠ q := by
    intro r hr
    rcases List.mem_append.mp hr with hr | hr
    · exact Nat.ne_of_gt (ltl r hr _ (List.Mem.tail _ (List.Mem.head _)))
    · exact Nat.ne_of_lt (lqn r hr)
  have hnews3 : ∀ r ∈ tl ++ news, r.1 < f1 := by
    intro r hr
    rcases List.mem_append.mp hr with hr | hr
    · exact lf r (List.mem_append_left _ hr)
    · exact lf r (List.mem_append_right _ (List.Mem.tail _ (List.Mem.tail _ (List.Mem.tail _ (List.Mem.tail _ hr)))))
  obtain ⟨news2, hnw⟩ : ∃ news2, tl ++ news = news2 := ⟨_, rfl⟩
  have N3 := news_rot2 N2
  rw [hnw] at N3
  clear N2 N1 F1
  rw [hnw] at hnews2 hnews3 hnews4 hcm
  have hvl : vs.length = nd := by have := hvs.length; simpa using this
  k_steps
  · refine ⟨?_⟩
    rename Fr _ _ _ _ => F1
    rename News _ _ _ _ => N1
    have hane : a ≠ 0 := by assumption
    rename_i x8 o5 d5 hane' t9
    refine led_abs1 (news_swap N1) (all6 (P := fun z => z ≠ q) (Nat.ne_of_gt lc0) (Nat.ne_of_lt lq1) (Nat.ne_of_lt lq2) (Nat.ne_of_lt lq3) (Nat.ne_of_lt lq4) hnews4) (fun REST N2 hqa hin hout => ?_)
    have hf := hin _ (List.Mem.head _)
    have hq1 := hin _ (List.Mem.tail _ (List.Mem.head _))
    have hq2 := hin _ (List.Mem.tail _ (List.Mem.tail _ (List.Mem.head _)))
    have hq3 := hin _ (List.Mem.tail _ (List.Mem.tail _ (List.Mem.tail _ (List.Mem.head _))))
    have hq4 := hin _ (List.Mem.tail _ (List.Mem.tail _ (List.Mem.tail _ (List.Mem.tail _ (List.Mem.head _)))))
    have hin2 : ∀ r ∈ news2, r ∈ REST := fun r hr => hin _ (List.Mem.tail _ (List.Mem.tail _ (List.Mem.tail _ (List.Mem.tail _ (List.Mem.tail _ hr)))))
    have hc := hin2 _ hcm
    have spec : ∀ (k i j : Nat) (x : Int) (vs : List Value) (ds : List Int) (tx ti tj : Tok) (dp un : Nat) (gd : Option (List Code)) (cn : Str) (cs : Scope) (a9 : Addr) (ccd : Value) (cl : List (Str × Addr)) (outer : List Env) (A₀ : Around) (h₀ : Heap) (L : Addr) (m : Str → Option Value) (s : Shared) (Q E : Value → Shared → Prop),
        Below A₀ base outer h₀ → Fr h₀ L s.heap m → (hd.heap_39 w.params).In h₀ → News h₀ L s.heap ((q, lstN vs 0) :: REST) → Top p loose mean mg mb h₀ → cs.kind = .function → dp + k < recursionLimit → un + 8 * k < cLine → i < j → j ≤ ds.length → ds.length ≤ 8 → j - i ≤ k → IntsAre vs ds → 0 ≤ x → x < 18446744073709551616 →
        (∀ vs' h' tk', Fr h₀ L h' m → News h₀ L h' ((q, lstN vs' 0) :: REST) → IntsAre vs' (ds.take i ++ (digs n x (j - i) ++ ds.drop j)) → Q .none { s with heap := h', toks := tk' }) →
        wpAny (model PR w) (ktrTop dp un gd cn cs L a9 ccd cl outer) (call (.ref f1) [.int x tx, .int (i : Int) ti, .int (j : Int) tj]) Q E s := by
      clear hret F1 N1 N2 hout hk hdp hun hdp1 hun1 FG B1 X1 T1 N F B X T hA lf ltl hnews2 hnews3 hnews4 hst hin hin2 hvs hvl lqn hane hane' hand hnd1
      intro k
      induction k with
      | zero => intros; omega
      | succ k ih =>
        intro i j x vs ds tx ti tj dp un gd cn cs a9 ccd cl outer A₀ h₀ L m s Q E B F X N T hk hdp hun hij hj hdz hk1 hvs hx0 hx1 hret
        have hdp1 : dp + 1 < recursionLimit := by omega
        have hun1 : un + 8 < cLine := by omega
        refine wpAny_call ?_
        k_dflt (refine' code_nest ?k1 ?k2 ?k3 ?k4 ?k5 ?kA ?kF ?kK ?k6 ?k7 ?k8 ?k9 ?kB ?_ ?c2 ?c3 ?c4 ?c5; (case kA => exact rfl); (case kF => exact rfl); (case kK => assumption); (case k1 => k_asm); (case k2 => k_asm); (case k3 => k_asm); (case k4 => k_asm); (case k5 => k_asm); (case k6 => k_mem); (case k7 => exact codeRec_news (by k_asm) (by k_mem) (by assumption) (by assumption)); (case k8 => ktr_room); (case k9 => exact BindsTo.of_eq rfl); (case c5 => decide); (case kB => exact locs rfl); (case c2 => exact rfl); (case c3 => exact rfl); (case c4 => exact rfl); k_whole; intro g' L' h' FG' F' N' B' X' T'; (try dsimp only); (try k_lift B'); (try k_fold))
        k_steps
        · rename (_ + 1 = _) => hij1
          have ej : j = i + 1 := by omega
          subst ej
          refine hret _ _ _ (by assumption) (by assumption) ?_
          rename IntsAre (List.set _ _ _) _ => hset
          rw [Int.toNat_natCast] at hset
          have e : ds.take i ++ (digs n x (i + 1 - i) ++ ds.drop (i + 1)) = ds.set i x := by
            rw [show i + 1 - i = 1 by omega, List.set_eq_take_append_cons_drop, if_pos (by omega)]
            rfl
          rw [e]
          exact hset
        · refine ⟨?_⟩
          rename Fr _ _ _ _ => F1
          rename News _ _ _ _ => N1
          have hne1 : (i : Int) + 1 ≠ (j : Int) := by assumption
          have hne2 : i + 1 ≠ j := by omega
          obtain ⟨md, hmd⟩ : ∃ md : Nat, (i + j) / 2 = md := ⟨_, rfl⟩
          obtain ⟨sf, hsf⟩ : ∃ sf : Nat, (md - i) * n = sf := ⟨_, rfl⟩
          have hm1 : i < md := by omega
          have hm2 : md < j := by omega
          have hs1 : sf ≤ 64 := by rw [← hsf]; exact Nat.le_trans (Nat.mul_le_mul (show md - i ≤ 8 by omega) (show n ≤ 8 by omega)) (by decide)
          have es : ((md : Int) - (i : Int)) * (n : Int) = (sf : Int) := by rw [← hsf, Int.natCast_mul, Int.natCast_sub (by omega)]
          simp only [mid_is, hmd] at F1 ⊢
          k_steps
          refine ⟨?_⟩
          rename Fr _ _ _ _ => F1
          rename News _ _ _ _ => N1
          simp only [es] at F1 ⊢
          k_steps
          refine ⟨?_⟩
          rename Fr _ _ _ _ => F1
          rename News _ _ _ _ => N1
          simp only [up_is x sf hx0, lo_is x sf hx0] at F1 ⊢
          k_dflt (refine' ih i md (x % 2 ^ sf) vs ds _ _ _ _ _ _ _ _ _ _ _ _ _ _ _ _ _ _ _ ?k1a ?k2a ?k3a ?k4a ?k5a ?kKa ?kda ?kua ?h1a ?h2a ?h3a ?h4a ?h5a ?h6a ?h7a ?hra)
          case k1a => k_asm
          case k2a => k_asm
          case k3a => k_asm
          case k4a => k_asm
          case k5a => k_asm
          case kKa => first | exact rfl | assumption
          case kda => ktr_room
          case kua => ktr_units
          case h1a => omega
          case h2a => first | omega | (simp only [List.length_append, List.length_take, List.length_drop, digs_len]; omega)
          case h3a => first | omega | (simp only [List.length_append, List.length_take, List.length_drop, digs_len]; omega)
          case h4a => omega
          case h5a => assumption
          case h6a => first | exact (low_bound x sf hx0 hx1).1 | exact (hi_bound x sf hx0 hx1).1
          case h7a => first | exact (low_bound x sf hx0 hx1).2 | exact (hi_bound x sf hx0 hx1).2
          intro vs5 h5 tk5 F5 N5 hvs5
          clear F1 N1
          (try dsimp only)
          (try k_fold)
          k_steps
          refine ⟨?_⟩
          rename Fr _ _ _ _ => F1
          rename News _ _ _ _ => N1
          k_dflt (refine' ih md j (x / 2 ^ sf) vs5 (ds.take i ++ (digs n (x % 2 ^ sf) (md - i) ++ ds.drop md)) _ _ _ _ _ _ _ _ _ _ _ _ _ _ _ _ _ _ _ ?k1b ?k2b ?k3b ?k4b ?k5b ?kKb ?kdb ?kub ?h1b ?h2b ?h3b ?h4b ?h5b ?h6b ?h7b ?hrb)
          case k1b => k_asm
          case k2b => k_asm
          case k3b => k_asm
          case k4b => k_asm
          case k5b => k_asm
          case kKb => first | exact rfl | assumption
          case kdb => ktr_room
          case kub => ktr_units
          case h1b => omega
          case h2b => first | omega | (simp only [List.length_append, List.length_take, List.length_drop, digs_len]; omega)
          case h3b => first | omega | (simp only [List.length_append, List.length_take, List.length_drop, digs_len]; omega)
          case h4b => omega
          case h5b => assumption
          case h6b => first | exact (low_bound x sf hx0 hx1).1 | exact (hi_bound x sf hx0 hx1).1
          case h7b => first | exact (low_bound x sf hx0 hx1).2 | exact (hi_bound x sf hx0 hx1).2
          intro vs6 h6 tk6 F6 N6 hvs6
          clear F1 N1
          (try dsimp only)
          (try k_fold)
          k_steps
          refine hret _ _ _ (by assumption) (by assumption) ?_
          have esf : sf = n * (md - i) := by rw [← hsf, Nat.mul_comm]
          rw [esf, list_step n ds x i md j hm1 hm2 hj] at hvs6
          exact hvs6
    k_dflt (refine' spec nd 0 vs.length a vs (List.replicate nd 0) _ _ _ _ _ _ _ _ _ _ _ _ _ _ _ _ _ _ _ ?k1c ?k2c ?k3c ?k4c ?k5c ?kKc ?kdc ?kuc ?h1c ?h2c ?h3c ?h4c ?h5c ?h6c ?h7c ?hrc)
    case k1c => k_asm
    case k2c => k_asm
    case k3c => k_asm
    case k4c => k_asm
    case k5c => k_asm
    case kKc => first | exact rfl | assumption
    case kdc => ktr_room
    case kuc => ktr_units
    case h1c => have := hnd1 hane; omega
    case h2c => simp; omega
    case h3c => simp; omega
    case h4c => omega
    case h5c => assumption
    case h6c => omega
    case h7c => omega
    intro vs6 h6 tk6 F6 N6 hvs6
    clear F1 N1
    (try dsimp only)
    (try k_fold)
    k_steps
    subst hnw
    obtain ⟨k9, hk9⟩ : ∃ k, nd = k + 1 := ⟨nd - 1, by have := hnd1 hane; omega⟩
    have e9 : (List.replicate nd (0 : Int)).take 0 ++ (digs n a (vs.length - 0) ++ (List.replicate nd (0 : Int)).drop vs.length) = digs n a nd := by
      rw [hvl]; simp
    rw [e9] at hvs6
    refine' hret q _ _ #[rawInt 56, rawInt 4, .ref c1] tl _ _ (by assumption) (news_sub (by assumption) ?_) hvs6 (by rw [hk9]; exact dval_digs n k9 a) (digs_bound n nd a ha0 hand) (by rw [digs_len]; omega) (by omega) lqn ?_ ?_
    · intro r hr
      rcases List.mem_cons.mp hr with rfl | hr
      · exact List.Mem.tail _ hq4
      · rcases List.mem_cons.mp hr with rfl | hr
        · exact List.Mem.head _
        · exact List.Mem.tail _ (hin2 r hr)
    · intro r hr
      exact ⟨ltl r hr _ (List.Mem.tail _ (List.Mem.head _)), ltl r hr _ (List.Mem.head _), fun z hz => ltl r hr z (List.Mem.tail _ (List.Mem.tail _ (List.Mem.tail _ (List.Mem.tail _ (List.Mem.tail _ hz)))))⟩
    · exact Or.inr ⟨c1, oc, vs1, t1, rfl, hcm, dc2, dv⟩
  · subst hnw
    have ha9 : a = 0 := by assumption
    refine' hret q _ _ #[rawInt 56, rawInt 4, .ref c1] tl _ _ (by assumption) (news_sub (by assumption) ?_) hvs (by rw [dval_zeros, ha9]) ?_ (by simp; omega) (by omega) lqn ?_ ?_
    · intro r hr
      rcases List.mem_cons.mp hr with rfl | hr
      · exact List.Mem.tail _ (List.Mem.tail _ (List.Mem.tail _ (List.Mem.tail _ (List.Mem.tail _ (List.Mem.head _)))))
      · rcases List.mem_cons.mp hr with rfl | hr
        · exact List.Mem.tail _ (List.Mem.head _)
        · exact List.Mem.tail _ (List.Mem.tail _ (List.Mem.tail _ (List.Mem.tail _ (List.Mem.tail _ (List.Mem.tail _ hr)))))
    · intro d hd
      have := List.eq_of_mem_replicate hd
      have hp : (0 : Int) < 2 ^ n := Int.pow_pos (by decide)
      omega
    · intro r hr
      exact ⟨ltl r hr _ (List.Mem.tail _ (List.Mem.head _)), ltl r hr _ (List.Mem.head _), fun z hz => ltl r hr z (List.Mem.tail _ (List.Mem.tail _ (List.Mem.tail _ (List.Mem.tail _ (List.Mem.tail _ hz)))))⟩
    · exact Or.inr ⟨c1, oc, vs1, t1, rfl, hcm, dc2, dv⟩
end Mine

end
noncomputable section
theorem Mine.flush_L5 {w : World} {A : Around} {v : Value} {Q E : Value → Shared → Prop} {s : Shared} (h : Q v s) : wpAny (model Mine.PR w) A (pure v) Q E s := by
  w_top off
  (try walk1)
  first | exact h | exact wpAny_pure h
open PySem PySem.W PyProof.Rows PySem.Calls PySem.Spec
namespace Mine
theorem fill5 : (∀ P, hd.heap_39 P = hd.heap_39 P) ∧ PySem.Challenge.rw_tl0060_01 = PySem.Challenge.rw_tl0060_01 := by
  k_fill
  exact ⟨fun _ => rfl, rfl⟩
theorem dv21 {w : World} {p : Program} {loose : List Str} {mean : ExcName → Option Value} {mg mb : Str → Option Value}
    {dp un : Nat} {gd : Option (List Code)} {cn : Str} {cs : Scope} {a9 : Addr} {ccd : Value} {cl : List (Str × Addr)} {outer : List Env} {A₀ : Around} {base h₀ : Heap} {L : Addr} {m : Str → Option Value} {news : Led} {s : Shared} {Q E : Value → Shared → Prop}
    (B : Below A₀ base outer h₀) (X : (hd.heap_39 w.params).In h₀) (T : Top p loose mean mg mb h₀) (hk : cs.kind = .function) (hdp : dp + 1 < recursionLimit) (hun : un + 8 < cLine)
    (F : Fr h₀ L s.heap m) (N : News h₀ L s.heap news) (a b : Int) (n : Nat) (ta tb tn : Tok)
    (ha0 : 0 ≤ a) (ha1 : a < 4096) (hb0 : 0 < b) (hb1 : b < 64) (hn1 : n ≤ 8)
    (hret : ∀ q t1 t2 h' tk', Fr h₀ L h' m → News h₀ L h' ((q, ({ cls := .type "tuple", data := .seq #[.int (a / b) t1, .int (a % b) t2] } : Obj)) :: news) → (∀ p ∈ news, p.1 < q) → Q (.ref q) { s with heap := h', toks := tk' }) :
    wpAny (model PR w) (ktrTop dp un gd cn cs L a9 ccd cl outer) (call (.ref 52) [.int a ta, .int b tb, .int (n : Int) tn]) Q E s := by
  have hbits : Builtin.Int.intBits a ≤ 64 := intBits_le_64 (by omega) (by omega)
  refine wpAny_call ?_
  k_dflt cell_enter
  k_steps
  rename News _ _ _ _ => N9
  rw [Int.fdiv_eq_ediv_of_nonneg a (by omega), Int.fmod_eq_emod_of_nonneg a (by omega)] at N9
  rename Fr _ _ _ _ => F9
  refine hret _ _ _ _ _ F9 N9 fun p hp => ?_
  have hlt := Heap.lt_size ((by assumption : News _ _ _ news) p hp).1
  exact hlt
end Mine

end
noncomputable section
theorem Mine.flush_L6 {w : World} {A : Around} {v : Value} {Q E : Value → Shared → Prop} {s : Shared} (h : Q v s) : wpAny (model Mine.PR w) A (pure v) Q E s := by
  w_top off
  (try walk1)
  first | exact h | exact wpAny_pure h
open PySem PySem.W PyProof.Rows PySem.Calls PySem.Spec
namespace Mine
theorem fill6 : (∀ P, hd.heap_39 P = hd.heap_39 P) ∧ PySem.Challenge.rw_tl0060_01 = PySem.Challenge.rw_tl0060_01 := by
  k_fill
  exact ⟨fun _ => rfl, rfl⟩
local macro_rules | `(tactic| k_all) => `(tactic| first | assumption | (tbn_letter; first | (refine neAll1 ?_; tbn_find) | (refine neAll2 ?_; tbn_find) | (refine neAll3 ?_; tbn_find)))
local macro_rules | `(tactic| k_mem) => `(tactic| assumption)
local macro_rules | `(tactic| walk_at "call ref") => `(tactic| (k_here; refine Halt.in ?_))
local macro_rules | `(tactic| walk_at "exec For") => `(tactic| (k_here; refine Halt.in ?_))
local macro_rules | `(tactic| walk_at "pyIter ref") => `(tactic| (k_here; refine Halt.in ?_))
local macro_rules | `(tactic| walk_at "call builtin:list.reverse") => `(tactic| (k_here; refine Halt.in ?_))
local macro_rules | `(tactic| walk_at "call type:reversed") => `(tactic| (k_here; (with_reducible show wpAny _ _ (call (Value.type _) [Value.ref _]) _ _ _); k_dflt (refine' krv_reversed ?F ?N ?l ?_; (case F => k_asm); (case N => k_asm); (case l => exact isL (by k_asm) (by k_mem))); intro D' h' F' N' lD))
theorem TabSt.drop {ln cl : Nat} {qual : Str} {ps : Array Value} {R R' : Led} (h : TabSt ln cl qual ps R) (hs : ∀ p ∈ R, p ∈ R' ∨ ∃ ps2 ln2 cl2 qual2 R2, p.2 = tabObj ps2 ∧ TabSt ln2 cl2 qual2 ps2 R2) : TabSt ln cl qual ps R' := by
  rcases h with h | ⟨c', oc, vs, t, a, b, c, d⟩
  · exact .inl h
  · rcases hs _ b with h | ⟨ps2, ln2, cl2, qual2, R2, e, f⟩
    · exact .inr ⟨c', oc, vs, t, a, h, c, d⟩
    · exfalso
      have e' : oc = tabObj ps2 := e
      subst e'
      injection c with c
      subst c
      rcases f with rfl | ⟨_, _, _, _, rfl, _⟩
      · simp at d
      · simp [rawInt] at d
theorem start3 {M : Str → Option Value} {x y z : Str} {v : Value} (h : M x = some v) : M = setO (setO (setN M x v) y (M y)) z (M z) := by
  funext k
  by_cases h1 : k = z
  · subst h1; simp [setO]
  · by_cases h2 : k = y
    · subst h2; simp [setO, h1]
    · by_cases h3 : k = x
      · subst h3; simp [setO, setN, h1, h2, h]
      · simp [setO, setN, h1, h2, h3]
theorem div_step (nb : Nat) (qs ds : List Int) (b r d : Int) (i : Nat) (hd : ds.reverse[i]? = some d) (hqv : dval nb qs.reverse * b + r = dval nb (ds.reverse.take i).reverse) :
    dval nb (qs ++ [(r * 2 ^ nb + d) / b]).reverse * b + (r * 2 ^ nb + d) % b = dval nb (ds.reverse.take (i + 1)).reverse := by
  have hi : i < ds.reverse.length := (List.getElem?_eq_some_iff.mp hd).1
  have e1 : ds.reverse.take (i + 1) = ds.reverse.take i ++ [d] := by
    rw [List.take_add_one, hd]; rfl
  rw [e1, List.reverse_append, List.reverse_append]
  simp only [List.reverse_cons, List.reverse_nil, List.nil_append, List.singleton_append, dval]
  rw [← hqv, Int.add_mul, Int.add_mul]
  have e2 := Int.mul_ediv_add_emod (r * 2 ^ nb + d) b
  rw [Int.mul_comm b] at e2
  have e3 : dval nb qs.reverse * 2 ^ nb * b = dval nb qs.reverse * b * 2 ^ nb := Int.mul_right_comm _ _ _
  omega
/-- What a loop holds to. -/
inductive DvpJ (b : Int) (nb : Nat) (ds : List Int) (l9 : Addr) (REST : Led) (mm : Str → Option Value) (i : Nat) (m₁ : Str → Option Value) (news₁ : Led) : Prop
  | mk (qvs : List Value) (qs : List Int) (r : Int) (tr : Tok) (k : Nat) (oq oa : Option Value) (h0 : m₁ = setO (setO (setN mm (Str.ofString "r") (.int r tr)) (Str.ofString "q_digit") oq) (Str.ofString "a_digit") oa) (h1 : news₁ = (l9, lstN qvs k) :: REST) (h2 : IntsAre qvs qs) (h3 : qs.length = i) (h4 : dval nb qs.reverse * b + r = dval nb (ds.reverse.take i).reverse) (h5 : 0 ≤ r) (h6 : r < b) (h7 : ∀ d ∈ qs, 0 ≤ d ∧ d < 2 ^ nb) : DvpJ b nb ds l9 REST mm i m₁ news₁
theorem dvp {w : World} {p : Program} {loose : List Str} {mean : ExcName → Option Value} {mg mb : Str → Option Value}
    {dp un : Nat} {gd : Option (List Code)} {cn : Str} {cs : Scope} {a9 : Addr} {ccd : Value} {cl : List (Str × Addr)} {outer : List Env} {A₀ : Around} {base h₀ : Heap} {L : Addr} {m : Str → Option Value} {news : Led} {s : Shared} {Q E : Value → Shared → Prop}
    (C : Cx w p loose mean mg mb dp un cs A₀ base outer h₀) (hd2 : dp + 30 < recursionLimit) (hu2 : un + 500 < cLine) (F : Fr h₀ L s.heap m) (a b : Int) (ta tb : Tok) (ps ps2 : Array Value)
    (N : News h₀ L s.heap ((68, tabObj ps) :: (61, tabObj ps2) :: news)) (hA : ∀ p ∈ news, p.1 ≠ 68) (hA2 : ∀ p ∈ news, p.1 ≠ 61) (hst : TabSt 71 4 q_d2i ps news) (hst2 : TabSt 56 4 q_i2d ps2 news)
    (ha0 : 0 ≤ a) (ha1 : a < 128) (hb : b = 3 ∨ b = 5 ∨ b = 7)
    (hret : ∀ q t1 t2 ps' ps2' tl h' tk', Fr h₀ L h' m → News h₀ L h' ((q, ({ cls := .type "tuple", data := .seq #[.int (a / b) t1, .int (a % b) t2] } : Obj)) :: (68, tabObj ps') :: (61, tabObj ps2') :: (tl ++ news)) →
      68 < q → (∀ r ∈ news, r.1 < q) → (∀ r ∈ tl, r.1 < q ∧ 68 < r.1 ∧ ∀ z ∈ news, z.1 < r.1) → TabSt 71 4 q_d2i ps' (tl ++ news) → TabSt 56 4 q_i2d ps2' (tl ++ news) → Q (.ref q) { s with heap := h', toks := tk' }) :
    wpAny (model PR w) (ktrTop dp un gd cn cs L a9 ccd cl outer) (call (.ref 80) [.int a ta, .int b tb]) Q E s := by
  obtain ⟨B, X, T, C1, C2, hk, hdp, hun⟩ := C
  have hdp1 : dp + 1 < recursionLimit := by omega
  have hun1 : un + 8 < cLine := by omega
  have hb0 : 0 < b ∧ b < 8 := by omega
  obtain ⟨hbn, hbx⟩ : (2 ≤ Builtin.Int.intBits b ∧ Builtin.Int.intBits b ≤ 3) ∧ b < 2 ^ Builtin.Int.intBits b := by
    rcases hb with rfl | rfl | rfl <;> decide +kernel
  obtain ⟨nb, hnb⟩ : ∃ nb, Builtin.Int.intBits b = nb := ⟨_, rfl⟩
  rw [hnb] at hbn hbx
  refine wpAny_call ?_
  k_dflt cell_enter
  k_steps
  refine ⟨?_⟩
  rename Fr _ _ _ _ => F1
  rename News _ _ _ _ => N1
  simp only [hnb] at F1 ⊢
  k_dflt (refine' i2d (Cx.mk ?k1 ?k2 ?k3 C1 C2 ?k4 ?k5 ?k6) F1 a nb _ _ ps2 (news := (68, tabObj ps) :: news) (news_swap N1) ?kA (hst2.mono fun r hr => List.Mem.tail _ hr) ha0 ha1 hbn.1 hbn.2 ?kR)
  case k1 => k_asm
  case k2 => k_asm
  case k3 => k_asm
  case k4 => first | exact rfl | assumption
  case k5 => ktr_room
  case k6 => ktr_units
  case kA =>
    intro r hr
    rcases List.mem_cons.mp hr with rfl | hr
    · exact (show (68 : Nat) ≠ 61 by decide)
    · exact hA2 r hr
  intro q vs ds ps2' tl h2 tk2 F2 N2 hvs hdv hdb hdl lq lqn htl hst2'
  clear F1 N1
  have hqm : (q, lstN vs 0) ∈ (61, tabObj ps2') :: (q, lstN vs 0) :: (tl ++ (68, tabObj ps) :: news) := List.Mem.tail _ (List.Mem.head _)
  (try dsimp only)
  (try k_fold)
  k_steps
  refine ⟨?_⟩
  rename Fr _ _ _ _ => F1
  rename News _ _ _ _ => N1
  rename_i l9 x1 l1 x2 N9 tk9 D9 x4 lD
  have hRlt : ∀ p ∈ (61, tabObj ps2') :: (q, lstN vs 0) :: (tl ++ (68, tabObj ps) :: news), p.1 < l9 := fun p hp => (allLt_mem (l := (61, tabObj ps2') :: (q, lstN vs 0) :: (tl ++ (68, tabObj ps) :: news)) l1 p hp)
  have hRl : ∀ p ∈ (61, tabObj ps2') :: (q, lstN vs 0) :: (tl ++ (68, tabObj ps) :: news), p.1 ≠ l9 := fun p hp => Nat.ne_of_lt (allLt_mem (l := (61, tabObj ps2') :: (q, lstN vs 0) :: (tl ++ (68, tabObj ps) :: news)) l1 p hp)
  obtain ⟨REST, hR⟩ : ∃ R, (61, tabObj ps2') :: (q, lstN vs 0) :: (tl ++ (68, tabObj ps) :: news) = R := ⟨_, rfl⟩
  rw [hR] at N1 lD hqm hRl hRlt
  have lD9 := ltN (lD _ (List.Mem.head _))
  dsimp only at lD9
  have hvr := hvs.reverse
  have hP : (2 : Int) ^ nb = 4 ∨ (2 : Int) ^ nb = 8 := by
    rcases (show nb = 2 ∨ nb = 3 by omega) with h | h <;> rw [h]
    · exact .inl rfl
    · exact .inr rfl
  clear F N9 l1 N
  refine' iterRevG (l := q) (vs := vs) (n := 0) (m := ?mm) (news := (l9, lstN [] 0) :: REST) (fun i m₁ news₁ => DvpJ b nb ds l9 REST ?mm i m₁ news₁) ?h1 (List.Mem.tail _ hqm) F1 N1 (fun p hp => Nat.ne_of_lt (lD p hp)) ?h2 ?turn ?done
  case h1 => rfl
  case h2 =>
    refine' ⟨[], [], 0, ?t0, 0, ?o0, ?o1, ?e0, rfl, .nil, rfl, by simp [dval], by omega, by omega, fun d hd => nomatch hd⟩
    case e0 =>
      refine start3 (x := Str.ofString "r") (y := Str.ofString "q_digit") (z := Str.ofString "a_digit") (v := .int 0 _) ?_
      rfl
  case turn =>
    intro i v m₁ news₁ h5 tk5 o hv hp1 hqm5 hnI F5 N5
    refine hide fun GG back => ?_
    obtain ⟨qvs, qs, r, tr, k, oq, oa, rfl, rfl, hqs, hql, hqv, hr0, hr1, hqb⟩ := hp1
    refine back ?_
    clear back GG
    refine hidePost fun TT1 hTT1 => ?_
    refine hide fun GG back => ?_
    obtain ⟨d, td, rfl, hd⟩ := hvr.at i v hv
    refine back ?_
    clear back GG
    clear F1 N1
    have hd01 : 0 ≤ d ∧ d < 2 ^ nb := hdb d (List.mem_reverse.mp (List.mem_of_getElem? hd))
    k_steps
    refine ⟨?_⟩
    rename Fr _ _ _ _ => F1
    rename News _ _ _ _ => N1
    rw [Int.toNat_natCast]
    have hz0 : 0 ≤ r * 2 ^ nb + d ∧ r * 2 ^ nb + d < 4096 := by rcases hP with h | h <;> rw [h] at hd01 ⊢ <;> omega
    k_dflt (refine' dv21 ?k1t ?k2t ?k3t ?k4t ?k5t ?k6t F1 N1 (r * 2 ^ nb + d) b nb _ _ _ hz0.1 hz0.2 (by omega) (by omega) (by omega) ?kRt)
    case k1t => k_asm
    case k2t => k_asm
    case k3t => k_asm
    case k4t => first | exact rfl | assumption
    case k5t => ktr_room
    case k6t => ktr_units
    intro q5 t1 t2 h6 tk6 F6 N6 lt6
    clear F1 N1
    have lt6a := ltN (lt6 _ (List.Mem.head _))
    have lt6b := ltN (lt6 _ (List.Mem.tail _ (List.Mem.head _)))
    dsimp only at lt6a lt6b
    have lt6c : ∀ p ∈ REST, p.1 < q5 := fun p hp => lt6 p (List.Mem.tail _ (List.Mem.tail _ hp))
    (try dsimp only)
    (try k_fold)
    k_steps
    rename Fr _ _ _ _ => F1
    rename News _ _ _ _ => N1
    have hi : i < vs.length := by
      have := (List.getElem?_eq_some_iff.mp hv).1
      simpa using this
    have hvl := hvs.length
    have hql2 := hqs.length
    k_dflt (refine' append_K F1 N1 (Upd.tail ?ua (Upd.tail ?ub (Upd.head ?uc))) ?un ?uz)
    case ua => k_ne
    case ub => k_ne
    case uc => assumption
    case uz => exact Nat.le_trans (show qvs.toArray.size ≤ 8 by simp only [List.size_toArray]; omega) (by decide)
    intro h7 F7 N7
    clear F1 N1
    (try dsimp only)
    (try k_fold)
    k_steps
    rename Fr _ _ _ _ => F1
    rename News _ _ _ _ => N1
    have ep : qvs.toArray.push (Value.int ((r * 2 ^ nb + d) / b) t1) = (qvs ++ [Value.int ((r * 2 ^ nb + d) / b) t1]).toArray := by simp
    rw [ep] at N1
    refine hTT1 _ _ ?_
    refine' TurnG.mk (news' := (l9, lstN (qvs ++ [Value.int ((r * 2 ^ nb + d) / b) t1]) (k + 1)) :: REST) F1 N1 (List.Mem.tail _ (List.Mem.head _)) ?tc ?ta ?td
      ⟨qvs ++ [Value.int ((r * 2 ^ nb + d) / b) t1], qs ++ [(r * 2 ^ nb + d) / b], (r * 2 ^ nb + d) % b, t2, k + 1, _, _, ?tm, rfl, hqs.append (.cons _ _ .nil), by simp [hql], div_step nb qs ds b r d i hd hqv, Int.emod_nonneg _ (by omega), Int.emod_lt_of_pos _ (by omega), ?tb⟩
    case tc => exact fun p hp => List.Mem.tail _ (List.Mem.tail _ hp)
    case td =>
      intro p hp
      rw [List.mem_singleton.mp hp]
      exact List.Mem.tail _ hqm
    case ta =>
      intro p hp
      rcases List.mem_cons.mp hp with rfl | hp
      · exact Nat.ne_of_lt lD9
      · exact Nat.ne_of_lt (lD p (List.Mem.tail _ hp))
    case tb =>
      intro x hx
      rcases List.mem_append.mp hx with hx | hx
      · exact hqb x hx
      · rw [List.mem_singleton.mp hx]
        refine ⟨Int.ediv_nonneg hz0.1 (by omega), Int.ediv_lt_of_lt_mul (by omega) ?_⟩
        rcases hP with h | h <;> rw [h] at hd01 ⊢ <;> omega
    case tm =>
      refine end3 (x := Str.ofString "r") (y := Str.ofString "q_digit") (z := Str.ofString "a_digit") ?_ ?_ ?_ <;> decide +kernel
  case done =>
    intro m₁ news₁ h5 tk5 hp2 hqm5 F5 N5
    refine hide fun GG back => ?_
    obtain ⟨qvs, qs, r, tr, k, oq, oa, rfl, rfl, hqs, hql, hqv, hr0, hr1, hqb⟩ := hp2
    refine back ?_
    clear back GG
    clear F1 N1
    have hvl := hvs.length
    have hql2 := hqs.length
    (try dsimp only)
    (try k_fold)
    k_steps
    refine ⟨?_⟩
    rename Fr _ _ _ _ => F1
    rename News _ _ _ _ => N1
    have er : qvs.toArray.toList.reverse = qvs.reverse := by simp
    k_dflt (refine' kl_reverse F1 N1 er (Upd.head ?ua2) ?uz2 ?un2)
    case ua2 => exact hRl
    case uz2 => exact Nat.le_trans (show qvs.toArray.toList.length ≤ 8 by simp only [List.toList_toArray]; omega) (by decide)
    intro h7 F7 N7
    clear F1 N1
    have hqr := hqs.reverse
    (try dsimp only)
    (try k_fold)
    k_steps
    refine ⟨?_⟩
    rename Fr _ _ _ _ => F1
    rename News _ _ _ _ => N1
    have hqr8 := hqr.length
    have h68 : (68, tabObj ps) ∈ REST := by
      rw [← hR]
      exact List.Mem.tail _ (List.Mem.tail _ (List.mem_append_right _ (List.Mem.head _)))
    have hqv2 : dval nb qs.reverse * b + r = a := by
      have e : (ds.reverse.take vs.length).reverse = ds := by
        have h1 := hvs.length
        rw [List.take_of_length_le (by simp; omega), List.reverse_reverse]
      rw [hqv, e, hdv]
    have hdiv : a / b = dval nb qs.reverse ∧ a % b = r := by
      rw [← hqv2, Int.add_comm]
      exact ⟨by rw [Int.add_mul_ediv_right _ _ (by omega), Int.ediv_eq_zero_of_lt hr0 hr1]; omega, by rw [Int.add_mul_emod_self_right]; exact Int.emod_eq_of_lt hr0 hr1⟩
    k_dflt (refine' d2i (Cx.mk ?k1z ?k2z ?k3z C1 C2 ?k4z ?k5z ?k6z) F1 l9 qvs.reverse qs.reverse k nb _ ps (news := (l9, lstN qvs.reverse k) :: (61, tabObj ps2') :: (q, lstN vs 0) :: (tl ++ news)) ?kNz ?kAz (hst.mono ?kMz) (List.Mem.head _) hqr ?l1z ?l2z ?l3z ?kRz)
    case k1z => k_asm
    case k2z => k_asm
    case k3z => k_asm
    case k4z => first | exact rfl | assumption
    case k5z => ktr_room
    case k6z => ktr_units
    case kNz =>
      refine news_sub N1 ?_
      rw [← hR]
      intro p hp
      simp only [List.mem_cons, List.mem_append] at hp ⊢
      rcases hp with h | h | h | h | h | h <;> simp [h]
    case kAz =>
      intro p hp
      simp only [List.mem_cons, List.mem_append] at hp
      rcases hp with rfl | rfl | rfl | hp | hp
      · exact Ne.symm (hRl _ h68)
      · exact (show (61 : Nat) ≠ 68 by decide)
      · exact Nat.ne_of_gt (lqn _ (List.Mem.head _))
      · exact Nat.ne_of_gt ((htl p hp).2.2 _ (List.Mem.head _))
      · exact hA p hp
    case kMz => exact fun p hp => List.Mem.tail _ (List.Mem.tail _ (List.Mem.tail _ (List.mem_append_right _ hp)))
    case l1z => rw [List.length_reverse]; omega
    case l2z => omega
    case l3z => exact fun d hd => hqb d (List.mem_reverse.mp hd)
    intro t8 ps8 tl8 h8 tk8 F8 N8 ltl8 hst8
    clear F1 N1
    (try dsimp only)
    (try k_fold)
    k_steps
    rename Fr h₀ _ _ _ => F9
    rename News h₀ _ _ _ => N9
    rename (_ ∧ AllLt _ _) => hlt
    obtain ⟨hlt0, hlt⟩ := hlt
    have hlt1 := allLt_mem hlt
    have l68 : (68 : Nat) < l9 := hRlt _ h68
    have hin : ∀ z ∈ news, z ∈ REST := by
      rw [← hR]
      exact fun z hz => List.Mem.tail _ (List.Mem.tail _ (List.mem_append_right _ (List.Mem.tail _ hz)))
    have hin2 : ∀ z ∈ tl8 ++ ((l9, lstN qvs.reverse k) :: (q, lstN vs 0) :: tl) ++ news, z ∈ tl8 ++ (l9, lstN qvs.reverse k) :: (61, tabObj ps2') :: (q, lstN vs 0) :: (tl ++ news) := by
      intro z hz
      simp only [List.mem_append, List.mem_cons] at hz ⊢
      rcases hz with (h | h | h | h) | h <;> simp [h]
    refine' hret _ t8 tr ps8 ps2' (tl8 ++ ((l9, lstN qvs.reverse k) :: (q, lstN vs 0) :: tl)) _ _ F9 ?g1 hlt0 ?g2 ?g3 ?g4 ?g5
    case g1 =>
      rw [hdiv.1, hdiv.2]
      refine news_sub N9 ?_
      intro z hz
      simp only [List.mem_append, List.mem_cons] at hz ⊢
      rcases hz with h | h | h | (h | h | h | h) | h <;> simp [h]
    case g2 => exact fun z hz => hlt1 z (hin2 _ (List.mem_append_right _ hz))
    case g3 =>
      intro z hz
      refine ⟨hlt1 z (hin2 _ (List.mem_append_left _ hz)), ?_⟩
      rcases List.mem_append.mp hz with hz | hz
      · exact ⟨ltl8 z hz _ (List.Mem.head _), fun y hy => ltl8 z hz y (List.Mem.tail _ (List.Mem.tail _ (List.Mem.tail _ (List.Mem.tail _ (List.mem_append_right _ hy)))))⟩
      · rcases List.mem_cons.mp hz with rfl | hz
        · exact ⟨l68, fun y hy => hRlt y (hin y hy)⟩
        · rcases List.mem_cons.mp hz with rfl | hz
          · exact ⟨lqn _ (List.Mem.head _), fun y hy => lqn y (List.Mem.tail _ hy)⟩
          · exact ⟨(htl z hz).2.2 _ (List.Mem.head _), fun y hy => (htl z hz).2.2 y (List.Mem.tail _ hy)⟩
    case g4 =>
      refine hst8.drop fun z hz => ?_
      simp only [List.mem_append, List.mem_cons] at hz ⊢
      rcases hz with h | h | h | h | h | h
      · simp [h]
      · simp [h]
      · exact .inr ⟨ps2', _, _, _, _, by rw [h], hst2'⟩
      · simp [h]
      · simp [h]
      · simp [h]
    case g5 =>
      refine hst2'.drop fun z hz => ?_
      simp only [List.mem_append, List.mem_cons] at hz ⊢
      rcases hz with h | h | h
      · simp [h]
      · exact .inr ⟨ps, _, _, _, _, by rw [h], hst⟩
      · simp [h]
theorem idm {w : World} {p : Program} {loose : List Str} {mean : ExcName → Option Value} {mg mb : Str → Option Value}
    {dp un : Nat} {gd : Option (List Code)} {cn : Str} {cs : Scope} {a9 : Addr} {ccd : Value} {cl : List (Str × Addr)} {outer : List Env} {A₀ : Around} {base h₀ : Heap} {L : Addr} {m : Str → Option Value} {news : Led} {s : Shared} {Q E : Value → Shared → Prop}
    (C : Cx w p loose mean mg mb dp un cs A₀ base outer h₀) (hd2 : dp + 40 < recursionLimit) (hu2 : un + 600 < cLine) (F : Fr h₀ L s.heap m) (a b : Int) (ta tb : Tok) (ps ps2 : Array Value)
    (N : News h₀ L s.heap ((68, tabObj ps) :: (61, tabObj ps2) :: news)) (hA : ∀ p ∈ news, p.1 ≠ 68) (hA2 : ∀ p ∈ news, p.1 ≠ 61) (hst : TabSt 71 4 q_d2i ps news) (hst2 : TabSt 56 4 q_i2d ps2 news)
    (ha0 : 0 ≤ a) (ha1 : a < 128) (hb : b = 3 ∨ b = 5 ∨ b = 7)
    (hret : ∀ q t1 t2 ps' ps2' tl h' tk', Fr h₀ L h' m → News h₀ L h' ((q, ({ cls := .type "tuple", data := .seq #[.int (a / b) t1, .int (a % b) t2] } : Obj)) :: (68, tabObj ps') :: (61, tabObj ps2') :: (tl ++ news)) →
      68 < q → (∀ r ∈ news, r.1 < q) → (∀ r ∈ tl, r.1 < q ∧ 68 < r.1 ∧ ∀ z ∈ news, z.1 < r.1) → TabSt 71 4 q_d2i ps' (tl ++ news) → TabSt 56 4 q_i2d ps2' (tl ++ news) → Q (.ref q) { s with heap := h', toks := tk' }) :
    wpAny (model PR w) (ktrTop dp un gd cn cs L a9 ccd cl outer) (call (.ref 87) [.int a ta, .int b tb]) Q E s := by
  obtain ⟨B, X, T, C1, C2, hk, hdp, hun⟩ := C
  have hdp1 : dp + 1 < recursionLimit := by omega
  have hun1 : un + 8 < cLine := by omega
  obtain ⟨hb0, hb8⟩ : 0 < b ∧ b < 8 := by omega
  refine wpAny_call ?_
  k_dflt cell_enter
  k_steps
  · exfalso; omega
  refine ⟨?_⟩
  rename Fr _ _ _ _ => F1
  rename News _ _ _ _ => N1
  k_dflt (refine' dvp (Cx.mk ?k1 ?k2 ?k3 C1 C2 ?k4 ?k5 ?k6) ?k7 ?k8 F1 a b _ _ ps ps2 N1 hA hA2 hst hst2 ha0 ha1 hb ?kR)
  case k1 => k_asm
  case k2 => k_asm
  case k3 => k_asm
  case k4 => first | exact rfl | assumption
  case k5 => ktr_room
  case k6 => ktr_units
  case k7 => ktr_room
  case k8 => ktr_units
  intro q t1 t2 ps' ps2' tl h2 tk2 F2 N2 lq lqn htl hst' hst2'
  clear F1 N1
  (try dsimp only)
  (try k_fold)
  k_steps
  exact hret q t1 t2 ps' ps2' tl _ _ (by assumption) (by assumption) lq lqn htl hst' hst2'
end Mine

end
noncomputable section
theorem Mine.flush_L7 {w : World} {A : Around} {v : Value} {Q E : Value → Shared → Prop} {s : Shared} (h : Q v s) : wpAny (model Mine.PR w) A (pure v) Q E s := by
  w_top off
  (try walk1)
  first | exact h | exact wpAny_pure h
open PySem PySem.W PyProof.Rows PySem.Calls PySem.Spec
namespace Mine
theorem fill7 : (∀ P, hd.heap_39 P = hd.heap_39 P) ∧ PySem.Challenge.rw_tl0060_01 = PySem.Challenge.rw_tl0060_01 := by
  k_fill
  exact ⟨fun _ => rfl, rfl⟩
local macro_rules | `(tactic| k_all) => `(tactic| assumption)
local macro_rules | `(tactic| k_room) => `(tactic| ktr_room)
local macro_rules | `(tactic| walk_at "getMethod ref") => `(tactic| (k_here; (with_reducible show wpAny _ _ (getMethod (Value.ref _) (PySem.Str.ofString "search") _) _ _ _); k_dflt (refine' rx_methodK ?k1 ?k2 ?k3 ?k4 ?k5 ?_; (case k1 => k_asm); (case k2 => k_asm); (case k3 => k_is); (case k4 => exact rfl); (case k5 => exact rfl))))
local macro_rules | `(tactic| walk_at "call builtin:re.Pattern.search") => `(tactic| (k_here; k_dflt (refine' rx_search110 ?k1 ?k2 ?k3 ?k4 ?k5 ?k6 ?k7 ?k8 ?k9 ?kA ?kB ?kC ?kD ?_; (case k1 => k_asm); (case k2 => k_asm); (case k3 => assumption); (case k4 => assumption); (case k5 => k_is); (case k6 => k_is); (case k7 => exact rfl); (case k8 => exact rfl); (case k9 => exact rfl); (case kA => exact rfl); (case kB => exact rfl); (case kC => exact rfl); (case kD => decide +kernel))))
local macro_rules | `(tactic| walk_at "call builtin:re.Pattern.search") => `(tactic| (k_here; k_dflt (refine' rx_search115 ?k1 ?k2 ?k3 ?k4 ?k5 ?k6 ?k7 ?k8 ?k9 ?kA ?kB ?kC ?kD ?_; (case k1 => k_asm); (case k2 => k_asm); (case k3 => assumption); (case k4 => assumption); (case k5 => k_is); (case k6 => k_is); (case k7 => exact rfl); (case k8 => exact rfl); (case k9 => exact rfl); (case kA => exact rfl); (case kB => exact rfl); (case kC => exact rfl); (case kD => decide +kernel))))
theorem glued1 (x y : Str) : Txt.join x [y] = y := by
  show Str.join x [y] = y
  rfl
theorem join1 {prog : Program} {w : World} {A : Around} {E : Value → Shared → Prop} {s : Shared} {h₀ : Heap} {L D : Addr} {x : Str} {t t2 : Tok} {n : Nat} {l : List Nat} {news : Led} {Q : Value → Shared → Prop} (N : News h₀ L s.heap news) (hm : (D, listOf (#[].push (.str (S l) t2)) n) ∈ news) (hz : l.length < 40) (hx : x.length ≤ 16)
    (h : ∀ t' k, Q (.str (S l) t') { s with toks := k }) : wpAny (model prog w) A (call (.builtin "str.join") [.str x t, .ref D]) Q E s := by
  refine join_listW (ys := [S l]) ⟨_, (N _ hm).1, rfl, n, rfl⟩ (.cons _ _ .nil) hx ?_ fun t' k => ?_
  · have := S_len l
    simp only [List.map_cons, List.map_nil, List.sum_cons, List.sum_nil, List.length_cons, List.length_nil]; omega
  · rw [glued1]; exact h t' k
local macro_rules | `(tactic| walk_at "call builtin:str.join") => `(tactic| (k_here; k_dflt (refine' join1 ?k1 ?k2 ?k3 ?k4 ?_; (case k1 => k_asm); (case k2 => k_mem); (case k3 => assumption); (case k4 => decide +kernel)); intro _ _))
theorem hadd {w : World} {p : Program} {loose : List Str} {mean : ExcName → Option Value} {mg mb : Str → Option Value}
    {dp un : Nat} {gd : Option (List Code)} {cn : Str} {cs : Scope} {a9 : Addr} {ccd : Value} {cl : List (Str × Addr)} {outer : List Env} {A₀ : Around} {base h₀ : Heap} {L : Addr} {m : Str → Option Value} {news : Led} {s : Shared} {Q E : Value → Shared → Prop}
    (C : Cx w p loose mean mg mb dp un cs A₀ base outer h₀) (hd2 : dp + 40 < recursionLimit) (hu2 : un + 600 < cLine) (F : Fr h₀ L s.heap m) (I : Addr) (tk0 : Tok)
    (dx hl : Addr) (hvs : List Value) (n0 n1 : Nat) (N : News h₀ L s.heap ((hl, lstN hvs n0) :: (dx, dictOf [⟨PyData.keyHash w.params (Str.ofString "_headers"), .str (Str.ofString "_headers") tk0, .ref hl⟩] n1) :: (I, instObj 245 dx) :: news)) (nm e : List Nat) (t1 t2 : Tok) (hnm : ∀ c ∈ nm, isC c) (he : ∀ c ∈ e, isC c) (hnz : nm.length < 40) (hez : e.length < 40) (hvz : hvs.length < 40)
    (hn1 : ∀ p ∈ news, p.1 ≠ hl) (hn2 : @Ne Nat dx hl) (hn3 : @Ne Nat I hl)
    (hret : ∀ q t h' tk', Fr h₀ L h' m → News h₀ L h' ((hl, lstN (hvs ++ [.ref q]) (n0 + 1)) :: (dx, dictOf [⟨PyData.keyHash w.params (Str.ofString "_headers"), .str (Str.ofString "_headers") tk0, .ref hl⟩] n1) :: (I, instObj 245 dx) :: (q, ({ cls := .type "tuple", data := .seq #[.str (S nm) t1, .str (S e) t] } : Obj)) :: news) →
      hl < q → dx < q → I < q → (∀ p ∈ news, p.1 < q) → Q .none { s with heap := h', toks := tk' }) :
    wpAny (model PR w) (ktrTop dp un gd cn cs L a9 ccd cl outer) (call (.ref 242) [.ref I, .str (S nm) t1, .str (S e) t2]) Q E s := by
  obtain ⟨B, X, T, C1, C2, hk, hdp, hun⟩ := C
  have hdp1 : dp + 1 < recursionLimit := by omega
  have hun1 : un + 8 < cLine := by omega
  refine wpAny_call ?_
  k_dflt (refine' kp_more ?k1 ?k2 ?k3 ?k4 ?k5 ?kA ?kF ?kK ?k6 ?k7 ?k8 ?kX ?kM ?kN ?kD ?kR ?kP ?kT ?kB ?_ ?c2 ?c3 ?c4 ?c5; (case kA => exact rfl); (case kF => exact rfl); (case kK => assumption); (case k1 => k_asm); (case k2 => k_asm); (case k3 => k_asm); (case k4 => k_asm); (case k5 => k_asm); (case k6 => k_is); (case k7 => k_is); (case k8 => ktr_room); (case kX => kp_lit); (case kM => exact rfl); (case kN => exact rfl); (case kD => kp_flats); (case kR => exact rfl); (case kP => exact rfl); (case kT => exact fun _ => rfl); (case kB => exact fun _ => locs rfl); (case c5 => decide); (case c2 => exact rfl); (case c3 => exact rfl); (case c4 => exact rfl); k_whole; intro _ _ _ _ _ _ l1 _ _ _ _ _ _ B' _ _; (try k_lt l1); (try dsimp only); (try k_lift B'); (try k_fold))
  k_steps
  rename Fr _ _ _ _ => F1
  rename News _ _ _ _ => N1
  rename (_ ∧ _ ∧ _ ∧ _ ∧ _ ∧ _ ∧ AllLt _ _) => lt1
  rename_i tj kj Dj hj
  obtain ⟨_, _, _, lq1, lq2, lq3, lq4⟩ := lt1
  have lq4' := allLt_mem lq4
  k_dflt (refine' append_K F1 (news := (hl, lstN hvs n0) :: (dx, dictOf [⟨PyData.keyHash w.params (Str.ofString "_headers"), .str (Str.ofString "_headers") tk0, .ref hl⟩] n1) :: (I, instObj 245 dx) :: (Dj, ({ cls := .type "tuple", data := .seq #[.str (S nm) t1, .str (S e) tj] } : Obj)) :: news) (news_sub N1 ?us) (Upd.head ?uc) ?un ?uz)
  case us =>
    intro p hp
    simp only [List.mem_cons] at hp ⊢
    rcases hp with h | h | h | h | h <;> simp [h]
  case uc =>
    intro p hp
    simp only [List.mem_cons] at hp
    rcases hp with h | h | h | h
    · rw [h]; exact hn2
    · rw [h]; exact hn3
    · rw [h]; exact Nat.ne_of_gt lq1
    · exact hn1 p h
  case uz => exact Nat.le_trans (show hvs.toArray.size ≤ 40 by simp only [List.size_toArray]; omega) (by decide)
  intro h7 F7 N7
  clear F1 N1
  (try dsimp only)
  (try k_fold)
  k_steps
  have ep : hvs.toArray.push (.ref Dj) = (hvs ++ [Value.ref Dj]).toArray := by simp
  rename Fr h₀ _ _ _ => F9
  rename News h₀ _ _ _ => N9
  rw [ep] at N9
  exact hret Dj tj _ _ F9 N9 lq1 lq2 lq3 lq4'
end Mine

end
noncomputable section
theorem Mine.flush_L8 {w : World} {A : Around} {v : Value} {Q E : Value → Shared → Prop} {s : Shared} (h : Q v s) : wpAny (model Mine.PR w) A (pure v) Q E s := by
  w_top off
  (try walk1)
  first | exact h | exact wpAny_pure h
open PySem PySem.W PyProof.Rows PySem.Calls PySem.Spec
namespace Mine
theorem fill8 : (∀ P, hd.heap_39 P = hd.heap_39 P) ∧ PySem.Challenge.rw_tl0060_01 = PySem.Challenge.rw_tl0060_01 := by
  k_fill
  exact ⟨fun _ => rfl, rfl⟩
local macro_rules | `(tactic| k_mem) => `(tactic| assumption)
local macro_rules | `(tactic| k_room) => `(tactic| ktr_room)
local macro_rules | `(tactic| k_all) => `(tactic| first | assumption | (tbn_letter; first | (refine neAll1 ?_; tbn_find) | (refine neAll2 ?_; tbn_find) | (refine neAll3 ?_; tbn_find)))
local macro_rules | `(tactic| walk_at "getMethod ref") => `(tactic| (k_here; (with_reducible show wpAny _ _ (getMethod (Value.ref _) (PySem.Str.ofString "search") _) _ _ _); k_dflt (refine' rx_methodK ?k1 ?k2 ?k3 ?k4 ?k5 ?_; (case k1 => k_asm); (case k2 => k_asm); (case k3 => k_is); (case k4 => exact rfl); (case k5 => exact rfl))))
local macro_rules | `(tactic| walk_at "call builtin:re.Pattern.search") => `(tactic| (k_here; k_dflt (refine' rx_search110 ?k1 ?k2 ?k3 ?k4 ?k5 ?k6 ?k7 ?k8 ?k9 ?kA ?kB ?kC ?kD ?_; (case k1 => k_asm); (case k2 => k_asm); (case k3 => assumption); (case k4 => assumption); (case k5 => k_is); (case k6 => k_is); (case k7 => exact rfl); (case k8 => exact rfl); (case k9 => exact rfl); (case kA => exact rfl); (case kB => exact rfl); (case kC => exact rfl); (case kD => decide +kernel))))
local macro_rules | `(tactic| walk_at "CompSrcT") => `(tactic| (k_here; refine Halt.in ?_))
local macro_rules | `(tactic| cell_enter) => `(tactic| (refine' code_defC ?k1 ?k2 ?k3 ?k4 ?k5 ?kA ?kF ?kK ?k6 ?k7 ?k8 ?k9 ?kB ?kD ?_ ?c2 ?c3 ?c4; (case kA => exact rfl); (case kF => exact rfl); (case kK => assumption); (case k1 => k_asm); (case k2 => k_asm); (case k3 => k_asm); (case k4 => k_asm); (case k5 => k_asm); (case k6 => k_is); (case k7 => k_is); (case k8 => ktr_room); (case k9 => exact BindsTo.of_eq rfl); (case kB => exact rfl); (case kD => decide +kernel); (case c2 => exact rfl); (case c3 => exact rfl); (case c4 => exact rfl); k_whole; intro g' L' h' tk' cells' FG' F' N' Y' B' X' T' l1; (try k_lt l1); k_cells Y'; (try simp only [List.cons_append, List.nil_append] at N'); (try dsimp only); (try k_lift B'); (try k_fold)))
abbrev tabEnt (w : World) (tk0 : Tok) (hl : Addr) : DictEntry := ⟨PyData.keyHash w.params (Str.ofString "_headers"), .str (Str.ofString "_headers") tk0, .ref hl⟩
theorem still_S {l : List Nat} (h : ∀ c ∈ l, isC c) : KXs.Still (S l) := fun c hc => by
  have hc' : c ∈ l := by simpa using hc
  rcases h c hc' with rfl | rfl | rfl <;> decide
theorem gall {w : World} {p : Program} {loose : List Str} {mean : ExcName → Option Value} {mg mb : Str → Option Value}
    {dp un : Nat} {gd : Option (List Code)} {cn : Str} {cs : Scope} {a9 : Addr} {ccd : Value} {cl : List (Str × Addr)} {outer : List Env} {A₀ : Around} {base h₀ : Heap} {L : Addr} {m : Str → Option Value} {news : Led} {s : Shared} {Q E : Value → Shared → Prop}
    (C : Cx w p loose mean mg mb dp un cs A₀ base outer h₀) (hd2 : dp + 40 < recursionLimit) (hu2 : un + 600 < cLine) (F : Fr h₀ L s.heap m) (I : Addr) (tk0 : Tok)
    (dx hl : Addr) (hvs : List Value) (n0 n1 : Nat) (N : News h₀ L s.heap ((hl, lstN hvs n0) :: (dx, dictOf [tabEnt w tk0 hl] n1) :: (I, instObj 245 dx) :: news))
    (prs : List (List Nat × List Nat)) (nm : List Nat) (t1 : Tok) (hnm : ∀ c ∈ nm, isC c) (hnz : nm.length < 40) (hvz : hvs.length < 40) (hH : HdsIn news hvs prs) (hP : ∀ p ∈ prs, (∀ c ∈ p.1, isC c) ∧ p.1.length < 40)
    (hret : ∀ q vs k h' tk', Fr h₀ L h' m → News h₀ L h' ((q, lstN vs k) :: (hl, lstN hvs n0) :: (dx, dictOf [tabEnt w tk0 hl] n1) :: (I, instObj 245 dx) :: news) →
      StrsAre vs ((prs.filter fun p => p.1 == nm).map fun p => S p.2) → Q (.ref q) { s with heap := h', toks := tk' }) :
    wpAny (model PR w) (ktrTop dp un gd cn cs L a9 ccd cl outer) (call (.ref 184) [.ref I, .str (S nm) t1]) Q E s := by
  obtain ⟨B, X, T, C1, C2, hk, hdp, hun⟩ := C
  have hdp1 : dp + 1 < recursionLimit := by omega
  have hun1 : un + 8 < cLine := by omega
  have hst := still_S hnm
  have hSz : (S nm).length < 40 := by rw [S_len]; exact hnz
  refine wpAny_call ?_
  k_dflt cell_enter
  k_steps
  refine ⟨?_⟩
  rename Fr _ _ _ _ => F1
  rename News _ _ _ _ => N1
  refine led_abs N1 fun NL N2 hin hout => ?_
  clear N1
  have m1 := hin _ (List.Mem.head _)
  have m2 := hin _ (List.Mem.tail _ (List.Mem.head _))
  have hH2 := hH.mono (fun p hp => hin p (List.Mem.tail _ (List.Mem.tail _ (List.Mem.tail _ (List.Mem.tail _ hp)))))
  have hlen := hH.length
  refine LCt.CompSrcT.ledger (by rfl) F1 N2 m2 (Nat.le_trans (show hvs.toArray.size ≤ 40 by simp only [List.size_toArray]; omega) (by decide)) ?_
  intro gg
  refine' compInvT (n := hvs.length) (fun i ys news1 => news1 = NL ∧ StrsAre ys (((prs.take i).filter fun p => p.1 == nm).map fun p => S p.2)) ?turn ?fin _ 0 [] NL (by simp) ⟨rfl, by simpa using StrsAre.nil⟩
  case turn =>
    rintro i v ys news1 I5 oI C5 oC D5 m5 h5 tk5 E5 hi hv ⟨rfl, hys⟩ hC hx F5 N5 off5 ne5
    obtain ⟨r, hr, a, t, u, rfl, hmem⟩ := hH2.at i v (by simpa using hv)
    obtain ⟨hr1, hr2⟩ := hP r (List.mem_of_getElem? hr)
    have hst5 := still_S hr1
    have hSz5 : (S r.1).length < 40 := by rw [S_len]; exact hr2
    clear F1 N2
    have et : prs.take (i + 1) = prs.take i ++ [r] := by rw [List.take_add_one, hr]; rfl
    k_steps
    · rename _ = _ => hq
      have hq' : (r.1 == nm) = true := by
        first
        | (rw [S_beq] at hq; exact hq)
        | (have := S_inj hq; simp [this])
      refine LCg.CompEnd.intro (by assumption) (by assumption) news1 (fun p hp => hp) off5 (Or.inr ⟨_, m2, rfl, n0, rfl⟩) ⟨rfl, ?_⟩
      rw [et, List.filter_append, List.map_append]
      refine StrsAre.append' hys ?_
      have ef : [r].filter (fun p => p.1 == nm) = [r] := by simp only [List.filter, hq']
      rw [ef]
      exact .cons _ _ .nil
    · rename _ = _ => hq
      have hq' : ¬ ((r.1 == nm) = true) := by
        first
        | (rw [S_beq] at hq; simp [hq])
        | (intro e; have := eq_of_beq e; exact hq (by rw [this]))
      refine LCg.CompEnd.intro (by assumption) (by assumption) news1 (fun p hp => hp) off5 (Or.inr ⟨_, m2, rfl, n0, rfl⟩) ⟨rfl, ?_⟩
      have ef : [r].filter (fun p => p.1 == nm) = [] := by simp only [List.filter, hq']
      rw [et, List.filter_append, List.map_append, ef]
      simpa using hys
  case fin =>
    rintro ys news1 ⟨rfl, hys⟩
    rw [List.take_of_length_le (by omega)] at hys
    clear F1 N2
    k_steps
    rename Fr h₀ _ _ _ => F9
    rename News h₀ _ _ _ => N9
    refine' hret _ ys ys.length _ _ F9 (news_sub N9 ?_) hys
    intro p hp
    rcases List.mem_cons.mp hp with rfl | hp
    · exact List.Mem.head _
    · exact List.Mem.tail _ (hin p (List.Mem.tail _ hp))
end Mine

end
noncomputable section
theorem Mine.flush_L9 {w : World} {A : Around} {v : Value} {Q E : Value → Shared → Prop} {s : Shared} (h : Q v s) : wpAny (model Mine.PR w) A (pure v) Q E s := by
  w_top off
  (try walk1)
  first | exact h | exact wpAny_pure h
open PySem PySem.W PyProof.Rows PySem.Calls PySem.Spec
namespace Mine
theorem fillL9 : (∀ P, hd.heap_39 P = hd.heap_39 P) ∧ PySem.Challenge.rw_tl0060_01 = PySem.Challenge.rw_tl0060_01 := by
  k_fill
  exact ⟨fun _ => rfl, rfl⟩
local macro_rules | `(tactic| k_room) => `(tactic| ktr_room)
local macro_rules | `(tactic| k_mem) => `(tactic| assumption)
local macro_rules | `(tactic| k_all) => `(tactic| first | assumption | (tbn_letter; first | (refine neAll1 ?_; tbn_find) | (refine neAll2 ?_; tbn_find) | (refine neAll3 ?_; tbn_find)))
local macro_rules | `(tactic| walk_at "exec For") => `(tactic| (k_here; refine Halt.in ?_))
local macro_rules | `(tactic| walk_at "pyIter ref") => `(tactic| (k_here; refine Halt.in ?_))
local macro_rules | `(tactic| walk_at "exec Assign cons ListComp") => `(tactic| (k_here; k_dflt (refine LCg.Assign_ListComp_U (F₀ := by k_asm) (by rfl) (by with_unfolding_all rfl) (by with_unfolding_all rfl) (by decide) (by rfl) (by decide) (by rfl) (by rfl) (by rfl) ?_); k_dflt lcg_toSrc))
local macro_rules | `(tactic| walk_at "CompSrc") => `(tactic| (k_here; refine Halt.in ?_))
local macro_rules | `(tactic| walk_at "subscriptTail Name Name ref int") => `(tactic| (k_here; k_dflt (refine' itemStr ?k1 ?k2 ?k3 ?k4 ?k5 ?k6 ?_; (case k1 => k_asm); (case k2 => k_mem); (case k3 => assumption); (case k4 => omega); (case k5 => (simp only [List.length_map]; omega)); (case k6 => (simp only [List.length_map]; omega)); k_whole); intro _))
local macro_rules | `(tactic| walk_at "subscriptTail") => `(tactic| (k_here; (with_reducible show wpAny _ _ (subscriptTail _ _ (Value.ref _) (Value.int _ _)) _ _ _); k_dflt (refine' itemInt ?k1 ?k2 ?k3 ?k4 ?k5 ?k6 ?_; (case k1 => k_asm); (case k2 => k_mem); (case k3 => assumption); (case k4 => omega); (case k5 => (simp only [List.length_cons, List.length_nil]; omega)); (case k6 => (simp only [List.length_cons, List.length_nil]; omega)); k_whole); intro _))
local macro_rules | `(tactic| walk_at "subscriptTail") => `(tactic| (k_here; (with_reducible show wpAny _ _ (subscriptTail _ _ (Value.ref _) (Value.str _ _)) _ _ _); k_dflt (refine' kda_item (K := Str) ?k1 ?k2 ?k3 ?k4 ?k5 ?_; (case k1 => k_asm); (case k2 => k_mem); (case k3 => assumption); (case k4 => exact strKind_is _ _ _ _); (case k5 => assumption); k_whole)))
local macro_rules | `(tactic| walk_at "call ref") => `(tactic| (k_here; refine Halt.in ?_))
local macro_rules | `(tactic| cell_enter) => `(tactic| (refine' code_defC ?k1 ?k2 ?k3 ?k4 ?k5 ?kA ?kF ?kK ?k6 ?k7 ?k8 ?k9 ?kB ?kD ?_ ?c2 ?c3 ?c4; (case kA => exact rfl); (case kF => exact rfl); (case kK => assumption); (case k1 => k_asm); (case k2 => k_asm); (case k3 => k_asm); (case k4 => k_asm); (case k5 => k_asm); (case k6 => k_is); (case k7 => k_is); (case k8 => ktr_room); (case k9 => exact BindsTo.of_eq rfl); (case kB => exact rfl); (case kD => decide +kernel); (case c2 => exact rfl); (case c3 => exact rfl); (case c4 => exact rfl); k_whole; intro g' L' h' tk' cells' FG' F' N' Y' B' X' T' l1; (try k_lt l1); k_cells Y'; (try simp only [List.cons_append, List.nil_append] at N'); (try dsimp only); (try k_lift B'); (try k_fold)))
def wrap3 (s0 s1 s2 i : Int) : Int := [s0, s1, s2].getD (if i < 0 then i + 3 else i).toNat 0
/-- the dict of parts: what stands at each name -/
inductive PartsIn (led : Led) : List (Str × Value) → List (List Nat × List Int) → Prop
  | nil : PartsIn led [] []
  | cons {kvs ps} (nm : List Nat) (l : Addr) (vs : List Value) (ds : List Int) (n : Nat) : (l, lstN vs n) ∈ led → IntsAre vs ds → PartsIn led kvs ps → PartsIn led ((S nm, .ref l) :: kvs) ((nm, ds) :: ps)
theorem PartsIn.mono {led led' : Led} (hs : ∀ p ∈ led, p ∈ led') : ∀ {kvs : List (Str × Value)} {ps : List (List Nat × List Int)}, PartsIn led kvs ps → PartsIn led' kvs ps
  | _, _, .nil => .nil
  | _, _, .cons nm l vs ds n hm hi t => .cons nm l vs ds n (hs _ hm) hi (t.mono hs)
theorem PartsIn.value {led : Led} (nm : List Nat) (ds : List Int) : ∀ {kvs : List (Str × Value)} {ps : List (List Nat × List Int)}, PartsIn led kvs ps → ps.lookup nm = some ds → ∃ l vs n, valueAt kvs (S nm) = some (.ref l) ∧ (l, lstN vs n) ∈ led ∧ IntsAre vs ds
  | _, _, .nil, h => by simp at h
  | _, _, .cons nm' l vs ds' n hm hi t, h => by
    by_cases e : nm = nm'
    · subst e
      rw [List.lookup_cons_self] at h
      cases h
      exact ⟨l, vs, n, by simp [valueAt], hm, hi⟩
    · rw [List.lookup_cons, beq_eq_false_iff_ne.mpr e] at h
      obtain ⟨l2, vs2, n2, h1, h2, h3⟩ := t.value nm ds h
      refine ⟨l2, vs2, n2, ?_, h2, h3⟩
      have : ¬ S nm' = S nm := fun e' => e (S_inj e').symm
      simp only [valueAt] at h1 ⊢
      rw [List.find?_cons_of_neg (by simpa using this)]
      exact h1
theorem itemWrap {prog : Program} {w : World} {A : Around} {E : Value → Shared → Prop} {s : Shared} {h₀ : Heap} {L l : Addr} {news : Led} {vs : List Value} {n : Nat} {s0 s1 s2 : Int} {value slice : Expr} {k : Int} {u : Tok} {Q : Value → Shared → Prop} (N : News h₀ L s.heap news) (hm : (l, lstN vs n) ∈ news) (hi : IntsAre vs [s0, s1, s2])
    (h0 : -3 ≤ k) (h1 : k < 3) (h : ∀ t, Q (.int (wrap3 s0 s1 s2 k) t) s)
    (hs : subscripted slice false (.ref l) (.int k u) = operate [.ref l, .int k u] (getItem (.ref l) (.int k u)) := by with_unfolding_all rfl) :
    wpAny (model prog w) A (subscriptTail value slice (.ref l) (.int k u)) Q E s := by
  by_cases hk : k < 0
  · refine item_list_ints_negR (isL N hm) hi hk (by simpa using h0) (by omega) (fun t => ?_) hs
    have := h t
    unfold wrap3 at this
    rw [if_pos hk] at this
    exact this
  · refine item_list_intsR (isL N hm) hi (by omega) (by simpa using h1) (by omega) (fun t => ?_) hs
    have := h t
    unfold wrap3 at this
    rw [if_neg hk] at this
    exact this
theorem mx_of {a b c M : Int} (h1 : a ≤ M ∧ b ≤ M ∧ c ≤ M) (h2 : M = a ∨ M = b ∨ M = c) : M = mx a b c := by unfold mx; omega
theorem mn_of {a b c M : Int} (h1 : M ≤ a ∧ M ≤ b ∧ M ≤ c) (h2 : M = a ∨ M = b ∨ M = c) : M = mn a b c := by unfold mn; omega
theorem neQ {prog : Program} {w : World} {A : Around} {E : Value → Shared → Prop} {s : Shared} {a b : Int} {t u : Tok} {Q : Value → Shared → Prop} (e : a = b) (h : Q (.bool false) s) : wpAny (model prog w) A (compareOp .NotEq (.int a t) (.int b u)) Q E s := by
  subst e
  refine ne_int ?_
  simpa using h
theorem rixOk {prog : Program} {w : World} {A : Around} {E : Value → Shared → Prop} {s : Shared} {x y : Str} {t u : Tok} {i : Nat} {Q : Value → Shared → Prop} (h : Builtin.Str.lastOccurrence x y 0 x.length = some i) (hq : ∀ v, Q (.int i v) { s with toks := s.toks + 1 }) : wpAny (model prog w) A (call (.builtin "str.rindex") [.str x t, .str y u]) Q E s :=
  call_gives F.slot_str_rindex (typeIs_str _ _ _) F.entry_str_rindex (F.args_str_rindex_2 _ _) (gives_str_rindex x y t u i h) (hq _)
theorem levE {w : World} {p : Program} {loose : List Str} {mean : ExcName → Option Value} {mg mb : Str → Option Value}
    {dp un : Nat} {gd : Option (List Code)} {cn : Str} {cs : Scope} {a9 : Addr} {ccd : Value} {cl : List (Str × Addr)} {outer : List Env} {A₀ : Around} {base h₀ : Heap} {L : Addr} {m : Str → Option Value} {news : Led} {s : Shared} {Q E : Value → Shared → Prop}
    (C : Cx w p loose mean mg mb dp un cs A₀ base outer h₀) (F : Fr h₀ L s.heap m) (N : News h₀ L s.heap news)
    (l c : List Nat) (x y : Str) (ta tb tc : Tok) (hx : x = S (l ++ c)) (hy : y = S l) (hc : c ≠ []) (hlc : (l ++ c).length ≤ 40)
    (hret : ∀ t h' tk', Fr h₀ L h' m → News h₀ L h' news → Q (.int (2 * (c.length : Int)) t) { s with heap := h', toks := tk' }) :
    wpAny (model PR w) (ktrTop dp un gd cn cs L a9 ccd cl outer) (call (.ref 101) [.str x ta, .str y tb, .int 99 tc]) Q E s := by
  subst hx
  subst hy
  exact lev C F N l c ta tb tc hc hlc hret
/-- what the walk of one turn leans on -/
structure LeadAt (ps : List (List Nat × List Int)) (n e : List Nat) (k : Nat) (a0 a1 a2 b0 b1 b2 : Int) : Prop where
  hA : ps.lookup e = some [a0, a1, a2]
  hB : ps.lookup n = some [b0, b1, b2]
  r0 : 0 ≤ a0 ∧ a0 ≤ 20 ∧ 0 ≤ b0 ∧ b0 ≤ 9 + a0
  r1 : 0 ≤ a1 ∧ a1 ≤ 20 ∧ 0 ≤ b1 ∧ b1 ≤ 9 + a1
  r2 : 0 ≤ a2 ∧ a2 ≤ 20 ∧ 0 ≤ b2 ∧ b2 ≤ 9 + a2
  fin : Float64.isNaN (Float64.add (Float64.mul (Float64.ofInt (6 * (mx (9 + a0 - b0) (9 + a1 - b1) (9 + a2 - b2) - mn (9 + a0 - b0) (9 + a1 - b1) (9 + a2 - b2)))) (hueB (9 + a0 - b0) (9 + a1 - b1) (9 + a2 - b2))) 4602678819172646912) = false ∧
    Float64.isInf (Float64.add (Float64.mul (Float64.ofInt (6 * (mx (9 + a0 - b0) (9 + a1 - b1) (9 + a2 - b2) - mn (9 + a0 - b0) (9 + a1 - b1) (9 + a2 - b2)))) (hueB (9 + a0 - b0) (9 + a1 - b1) (9 + a2 - b2))) 4602678819172646912) = false
  hue : (Flt.toInt Float64.truncOf (Float64.add (Float64.mul (Float64.ofInt (6 * (mx (9 + a0 - b0) (9 + a1 - b1) (9 + a2 - b2) - mn (9 + a0 - b0) (9 + a1 - b1) (9 + a2 - b2)))) (hueB (9 + a0 - b0) (9 + a1 - b1) (9 + a2 - b2))) 4602678819172646912)).fmod (6 * (mx (9 + a0 - b0) (9 + a1 - b1) (9 + a2 - b2) - mn (9 + a0 - b0) (9 + a1 - b1) (9 + a2 - b2)))
    = (((k : Int) * (6 * (mx (9 + a0 - b0) (9 + a1 - b1) (9 + a2 - b2) - mn (9 + a0 - b0) (9 + a1 - b1) (9 + a2 - b2)))).fdiv 3 + wrap3 (9 + a0 - b0) (9 + a1 - b1) (9 + a2 - b2) ((k : Int) - 2) - wrap3 (9 + a0 - b0) (9 + a1 - b1) (9 + a2 - b2) ((k : Int) - 1)).fmod (6 * (mx (9 + a0 - b0) (9 + a1 - b1) (9 + a2 - b2) - mn (9 + a0 - b0) (9 + a1 - b1) (9 + a2 - b2)))
  pre : ∃ c, n = e ++ c ∧ c ≠ [] ∧ n.length ≤ 40
  rix : Builtin.Str.lastOccurrence (S n) (Txt.item (Str.ofString "rgb") (k : Int)) 0 (S n).length = some e.length
  hne : mn (9 + a0 - b0) (9 + a1 - b1) (9 + a2 - b2) < mx (9 + a0 - b0) (9 + a1 - b1) (9 + a2 - b2)
local macro_rules | `(tactic| walk_at "subscriptTail Name BinOp ref int") => `(tactic| (k_here; k_dflt (refine' itemWrap ?k1 ?k2 ?k3 ?k4 ?k5 ?_; (case k1 => k_asm); (case k2 => k_mem); (case k3 => exact .cons _ _ (.cons _ _ (.cons _ _ .nil))); (case k4 => omega); (case k5 => omega); k_whole); intro _))
local macro_rules | `(tactic| walk_at "binaryOp Add float float") => `(tactic| (k_here; (with_reducible show wpAny _ _ (binaryOp _ (Value.float (Float64.mul _ _) _) _) _ _ _); refine Halt.in ?_))
local macro_rules | `(tactic| walk_at "binaryOp Mod int int") => `(tactic| (k_here; (with_reducible show wpAny _ _ (binaryOp _ (Value.int (Flt.toInt _ _) _) _) _ _ _); refine Halt.in ?_))
local macro_rules | `(tactic| walk_at "compareOp NotEq int int") => `(tactic| (k_here; (with_reducible show wpAny _ _ (compareOp _ (Value.int (Int.fmod _ _) _) _) _ _ _); refine Halt.in ?_))
local macro_rules | `(tactic| walk_at "compareOp NotEq int int") => `(tactic| (k_here; (with_reducible show wpAny _ _ (compareOp _ (Value.int (2 * _) _) _) _ _ _); refine Halt.in ?_))
local macro_rules | `(tactic| walk_at "call builtin:str.rindex") => `(tactic| (k_here; refine Halt.in ?_))
local macro_rules | `(tactic| walk_at "call type:int") => `(tactic| (k_here; (with_reducible show wpAny _ _ (call _ [Value.float (Float64.add _ _) _]) _ _ _); refine Halt.in ?_))
/-- What a loop holds to. -/
inductive LeadJ (L1 : Nat) (op : Obj) (REST : Led) (mm : Str → Option Value) (i : Nat) (m₁ : Str → Option Value) (news₁ : Led) : Prop
  | mk (ok oe on : Obj) (vk ve vn o1 o2 o3 : Option Value) (h0 : m₁ = setO (setO (setO mm (Str.ofString "hue") o1) (Str.ofString "turn") o2) (Str.ofString "steps") o3) (h1 : news₁ = (L1 + 1 + 1 + 1 + 1, ok) :: (L1 + 1 + 1 + 1, oe) :: (L1 + 1 + 1, on) :: (L1 + 1, op) :: REST) (h2 : ok.data = .cell vk) (h3 : oe.data = .cell ve) (h4 : on.data = .cell vn) : LeadJ L1 op REST mm i m₁ news₁
/-- What a loop holds to. -/
inductive LeadK (L1 : Nat) (op : Obj) (oe5 : Obj) (on5 : Obj) (I : Addr) (o : Obj) (REST : Led) (mm : Str → Option Value) (k : Nat) (m₁ : Str → Option Value) (news₁ : Led) : Prop
  | mk (ok : Obj) (vk o1 o2 o3 : Option Value) (h0 : m₁ = setO (setO (setO mm (Str.ofString "hue") o1) (Str.ofString "turn") o2) (Str.ofString "steps") o3) (h1 : news₁ = (I, o) :: (L1 + 1 + 1 + 1 + 1, ok) :: (L1 + 1 + 1 + 1, oe5) :: (L1 + 1 + 1, on5) :: (L1 + 1, op) :: REST) (h2 : ok.data = .cell vk) : LeadK L1 op oe5 on5 I o REST mm k m₁ news₁
theorem lead {w : World} {p : Program} {loose : List Str} {mean : ExcName → Option Value} {mg mb : Str → Option Value}
    {dp un : Nat} {gd : Option (List Code)} {cn : Str} {cs : Scope} {a9 : Addr} {ccd : Value} {cl : List (Str × Addr)} {outer : List Env} {A₀ : Around} {base h₀ : Heap} {L : Addr} {m : Str → Option Value} {news : Led} {s : Shared} {Q E : Value → Shared → Prop}
    (C : Cx w p loose mean mg mb dp un cs A₀ base outer h₀) (hd2 : dp + 40 < recursionLimit) (hu2 : un + 600 < cLine) (F : Fr h₀ L s.heap m) (R d : Addr) (rvs : List Value) (rn : Nat) (oD : Obj) (kvs : List (Str × Value))
    (N : News h₀ L s.heap news) (hR : (R, lstN rvs rn) ∈ news) (hD : (d, oD) ∈ news) (hDd : oD.IsDictOf (PySem.strKind PR w) kvs)
    (roads : List Row) (ps : List (List Nat × List Int)) (hRows : RowsIn news rvs roads) (hPs : PartsIn news kvs ps)
    (hok : ∀ r ∈ roads, r.2.length = 3 ∧ ∀ k < 3, ∃ a0 a1 a2 b0 b1 b2 e, r.2[k]? = some e ∧ LeadAt ps r.1 e k a0 a1 a2 b0 b1 b2)
    (hret : ∀ h' tk', Fr h₀ L h' m → News h₀ L h' news → Q (.bool true) { s with heap := h', toks := tk' }) :
    wpAny (model PR w) (ktrTop dp un gd cn cs L a9 ccd cl outer) (call (.ref 266) [.ref R, .ref d]) Q E s := by
  obtain ⟨B, X, T, C1, C2, hk, hdp, hun⟩ := C
  have hdp1 : dp + 1 < recursionLimit := by omega
  have hun1 : un + 8 < cLine := by omega
  refine wpAny_call ?_
  k_dflt cell_enter
  k_steps
  refine ⟨?_⟩
  rename Fr _ _ _ _ => F1
  rename News _ _ _ _ => N1
  rename_i g1 L1 x1 x2 FG B1 X1 T1 l1 ok oe on op d1 d2 d3 d4
  have e1 : ok.data = .cell none := d1
  have e2 : oe.data = .cell none := d2
  have e3 : on.data = .cell none := d3
  have e4 : op.data = .cell (some (.ref d)) := d4
  clear d1 d2 d3
  have hin : ∀ p ∈ news, p.1 < L1 := allLt_mem (l := news) (by first | exact l1 | exact allLt_of l1)
  obtain ⟨REST, hREST⟩ : ∃ r, news = r := ⟨_, rfl⟩
  rw [hREST] at N1 hin
  rw [hREST] at hR hD hRows hPs
  have hno : ∀ p ∈ REST, p.1 ≠ L1 + 1 ∧ p.1 ≠ L1 + 1 + 1 ∧ p.1 ≠ L1 + 1 + 1 + 1 ∧ p.1 ≠ L1 + 1 + 1 + 1 + 1 := by
    intro p hp
    have h1 := ltN (hin p hp)
    refine ⟨?_, ?_, ?_, ?_⟩ <;> (refine neN ?_; omega)
  have hno1 : ∀ p ∈ REST, p.1 ≠ L1 + 1 := fun p hp => (hno p hp).1
  have hno2 : ∀ p ∈ REST, p.1 ≠ L1 + 1 + 1 := fun p hp => (hno p hp).2.1
  have hno3 : ∀ p ∈ REST, p.1 ≠ L1 + 1 + 1 + 1 := fun p hp => (hno p hp).2.2.1
  have hno4 : ∀ p ∈ REST, p.1 ≠ L1 + 1 + 1 + 1 + 1 := fun p hp => (hno p hp).2.2.2
  with_unfolding_all refine' For_invTF F1 ?kF1 ?kF2
  case kF2 => exact fun _ => rfl
  k_steps
  refine ⟨?_⟩
  refine' iterListGT (l := R) (vs := rvs) (n := rn) (m := ?mm) (fun i m₁ news₁ => LeadJ L1 op REST ?mm i m₁ news₁) ?h1 ?hm F1 N1 ?h2 ?turn ?done
  case h1 => rfl
  case hm => exact List.Mem.tail _ (List.Mem.tail _ (List.Mem.tail _ (List.Mem.tail _ hR)))
  case h2 =>
    refine' ⟨ok, oe, on, none, none, none, ?o1, ?o2, ?o3, ?e0, rfl, e1, e2, e3⟩
    case e0 => exact start3o
  case turn =>
    intro i v m₁ news₁ s5 I o hv hp3 hR5 hnI F5 N5
    refine hide fun GG back => ?_
    obtain ⟨ok, oe, on, vk, ve, vn, p1, p2, p3, rfl, rfl, f1, f2, f3⟩ := hp3
    refine back ?_
    clear back GG
    refine hidePostT fun TT1 hTT1 => ?_
    clear F1 N1
    refine hide fun GG back => ?_
    obtain ⟨r, hr, a, b, t, vs, n, rfl, hm1, hm2, hS⟩ := hRows.at i v hv
    refine back ?_
    clear back GG
    have i1 := neN (hnI _ (List.Mem.head _))
    have i2 := neN (hnI _ (List.Mem.tail _ (List.Mem.head _)))
    have i3 := neN (hnI _ (List.Mem.tail _ (List.Mem.tail _ (List.Mem.head _))))
    have i4 := neN (hnI _ (List.Mem.tail _ (List.Mem.tail _ (List.Mem.tail _ (List.Mem.head _)))))
    dsimp only at i1 i2 i3 i4
    have hm1' : (a, tup2 (.str (S r.1) t) (.ref b)) ∈ (I, o) :: (L1 + 1 + 1 + 1 + 1, ok) :: (L1 + 1 + 1 + 1, oe) :: (L1 + 1 + 1, on) :: (L1 + 1, op) :: REST := List.Mem.tail _ (List.Mem.tail _ (List.Mem.tail _ (List.Mem.tail _ (List.Mem.tail _ hm1))))
    k_steps
    refine ⟨?_⟩
    rename Fr _ _ _ _ => F1
    rename News _ _ _ _ => N1
    rename_i h6 on5 d5n h7 oe5 d5e
    with_unfolding_all refine' For_invTF F1 ?kF1t ?kF2t
    case kF2t => exact fun _ => rfl
    k_steps
    refine ⟨?_⟩
    rename Fr _ _ _ _ => F2
    rename News _ _ _ _ => N2
    rename IsRange _ _ _ _ _ _ _ _ => R2
    have hI5 : ∀ p ∈ REST, p.1 ≠ I := fun p hp => hnI p (List.Mem.tail _ (List.Mem.tail _ (List.Mem.tail _ (List.Mem.tail _ hp))))
    obtain ⟨hlen, hchk⟩ := hok r (List.mem_of_getElem? hr)
    refine' iterRangeGT (n := 3) (m := setO (setO (setO ?mm2 (Str.ofString "hue") p1) (Str.ofString "turn") p2) (Str.ofString "steps") p3) (fun k m₁ news₁ => LeadK L1 op oe5 on5 I o REST ?mm2 k m₁ news₁) ?h1u R2 ?h3u ?h4u F2 N2 ?h2u ?turnu ?doneu
    case h1u => rfl
    case h3u => decide
    case h4u => rfl
    case h2u => exact ⟨ok, vk, p1, p2, p3, rfl, rfl, f1⟩
    case turnu =>
      intro k tkk m₁ news₁ s6 I6 o6 hk3 hp4 hnI6 F6 N6
      refine hide fun GG back => ?_
      obtain ⟨ok, vk, q1, q2, q3, rfl, rfl, f1⟩ := hp4
      refine back ?_
      clear back GG
      refine hidePostT fun TT2 hTT2 => ?_
      clear F2 N2
      rw [Int.zero_add]
      have j1 := neN (hnI6 _ (List.Mem.head _))
      have j2 := neN (hnI6 _ (List.Mem.tail _ (List.Mem.head _)))
      have j3 := neN (hnI6 _ (List.Mem.tail _ (List.Mem.tail _ (List.Mem.head _))))
      have j4 := neN (hnI6 _ (List.Mem.tail _ (List.Mem.tail _ (List.Mem.tail _ (List.Mem.head _)))))
      have j5 := neN (hnI6 _ (List.Mem.tail _ (List.Mem.tail _ (List.Mem.tail _ (List.Mem.tail _ (List.Mem.head _))))))
      dsimp only at j1 j2 j3 j4 j5
      refine hide fun GG back => ?_
      obtain ⟨a0, a1, a2, b0, b1, b2, e, he, LA⟩ := hchk k hk3
      obtain ⟨lA, vsA, nA, va1, va2, va3⟩ := hPs.value _ _ LA.hA
      obtain ⟨lB, vsB, nB, vb1, vb2, vb3⟩ := hPs.value _ _ LA.hB
      refine back ?_
      clear back GG
      have eE : (List.map S r.2).getD ((k : Nat) : Int).toNat Str.empty = S e := by
        rw [Int.toNat_natCast, List.getD_eq_getElem?_getD, List.getElem?_map, he]; rfl
      have va1' : valueAt kvs ((List.map S r.2).getD ((k : Nat) : Int).toNat Str.empty) = some (.ref lA) := by rw [eE]; exact va1
      k_steps
      refine ⟨?_⟩
      rename Fr _ _ _ _ => F7
      rename News _ _ _ _ => N7
      rename IsRange _ _ _ _ _ _ _ _ => R7
      refine led_eq N7 fun NL hNL hin7 N8 => ?_
      clear N7
      have mk1 := hin7 _ (List.Mem.tail _ (List.Mem.tail _ (List.Mem.head _)))
      have mk2 := hin7 _ (List.Mem.tail _ (List.Mem.tail _ (List.Mem.tail _ (List.Mem.head _))))
      have mk3 := hin7 _ (List.Mem.tail _ (List.Mem.tail _ (List.Mem.tail _ (List.Mem.tail _ (List.Mem.head _)))))
      have mk4 := hin7 _ (List.Mem.tail _ (List.Mem.tail _ (List.Mem.tail _ (List.Mem.tail _ (List.Mem.tail _ (List.Mem.head _))))))
      have hin8 : ∀ p ∈ REST, p ∈ NL := fun p hp => hin7 p (List.Mem.tail _ (List.Mem.tail _ (List.Mem.tail _ (List.Mem.tail _ (List.Mem.tail _ (List.Mem.tail _ hp))))))
      have ma := hin8 _ va2
      have mb := hin8 _ vb2
      have mD := hin8 _ hD
      have me := hin8 _ hm2
      refine LCg.CompSrc.range (n := 3) (by rfl) F7 N8 R7 (by decide) (by rfl) (by decide) ?_
      intro gg
      refine' compInv (n := 3) (fun i ys news1 => news1 = NL ∧ IntsAre ys ([9 + a0 - b0, 9 + a1 - b1, 9 + a2 - b2].take i)) ?turnc ?finc _ 0 [] NL (by rfl) ⟨rfl, .nil⟩
      case turnc =>
        intro j v ys news1 I9 oI9 C9 oC9 D9 m9 h9 tk9 E9 hj hp5 hp6 hC hx F9 N9 off9 ne9
        refine hide fun GG back => ?_
        obtain ⟨tj, rfl⟩ := hp5
        obtain ⟨rfl, hys⟩ := hp6
        refine back ?_
        clear back GG
        clear F7 N8
        rw [Int.zero_add] at hx
        have hj0 : (0 : Int) ≤ (j : Int) := by omega
        have hj3 : (j : Int) < 3 := by omega
        k_steps
        refine LCg.CompEnd.intro (by assumption) (by assumption) news1 (fun p hp => hp) off9 trivial ⟨rfl, ?_⟩
        have hj' : j = 0 ∨ j = 1 ∨ j = 2 := by omega
        rcases hj' with rfl | rfl | rfl
        · exact hys.append (.cons _ _ .nil)
        · exact hys.append (.cons _ _ .nil)
        · exact hys.append (.cons _ _ .nil)
      case finc =>
        intro ys news1 hp7
        refine hide fun GG back => ?_
        obtain ⟨rfl, hys⟩ := hp7
        refine back ?_
        clear back GG
        clear F7 N8
        refine hide fun GG back => ?_
        obtain ⟨t0, w0, rfl, hy1⟩ := IntsAre.cons_inv hys
        obtain ⟨t1, w1, rfl, hy2⟩ := IntsAre.cons_inv hy1
        obtain ⟨t2, w2, rfl, hy3⟩ := IntsAre.cons_inv hy2
        have hy4 := IntsAre.nil_inv hy3
        subst hy4
        clear hys hy1 hy2 hy3
        subst hNL
        obtain ⟨s0, hs0⟩ : ∃ s0, 9 + a0 - b0 = s0 := ⟨_, rfl⟩
        obtain ⟨s1, hs1⟩ : ∃ s1, 9 + a1 - b1 = s1 := ⟨_, rfl⟩
        obtain ⟨s2, hs2⟩ : ∃ s2, 9 + a2 - b2 = s2 := ⟨_, rfl⟩
        refine back ?_
        clear back GG
        rw [hs0, hs1, hs2]
        clear hin7 hin8 mk1 mk2 mk3 mk4 ma mb mD me
        k_steps
        refine ⟨?_⟩
        rename Fr _ _ _ _ => F1
        rename News _ _ _ _ => N1
        have eM1 := mx_of (by assumption) (by assumption)
        have eM2 := mn_of (by assumption) (by assumption)
        subst eM1
        subst eM2
        have hsne : mn s0 s1 s2 < mx s0 s1 s2 := by rw [← hs0, ← hs1, ← hs2]; exact LA.hne
        have z0 := LA.r0
        have z1 := LA.r1
        have z2 := LA.r2
        have hM1 : mx s0 s1 s2 ≤ 64 := by unfold mx; omega
        have hm0 : 0 ≤ mn s0 s1 s2 := by unfold mn; omega
        k_dflt (refine' hsv (Cx.mk ?k1 ?k2 ?k3 C1 C2 ?k4 ?k5 ?k6) F1 N1 s0 s1 s2 _ _ _ (by omega) (by omega) (by omega) (by omega) (by omega) (by omega) hsne ?kR)
        case k1 => k_asm
        case k2 => k_asm
        case k3 => k_asm
        case k4 => first | exact rfl | assumption
        case k5 => ktr_room
        case k6 => ktr_units
        intro q9 y1 yx y2 y3 h9 tk9 F9 N9 l9
        clear F1 N1
        refine hide fun GG back => ?_
        obtain ⟨mxv, hmx⟩ : ∃ v, mx s0 s1 s2 = v := ⟨_, rfl⟩
        obtain ⟨mnv, hmn⟩ : ∃ v, mn s0 s1 s2 = v := ⟨_, rfl⟩
        rw [hmx, hmn] at hsne F9
        rw [hmx] at hM1 N9
        rw [hmn] at hm0
        refine back ?_
        clear back GG
        have hX := LA.fin
        rw [hs0, hs1, hs2, hmx, hmn] at hX
        have hQ := LA.hue
        rw [hs0, hs1, hs2, hmx, hmn] at hQ
        have hX1 := hX.1
        have hX2 := hX.2
        clear hX
        (try dsimp only)
        (try k_fold)
        refine hide fun GG back => ?_
        obtain ⟨H, hH⟩ : ∃ H, hueB s0 s1 s2 = H := ⟨_, rfl⟩
        rw [hH] at N9 hX1 hX2 hQ
        obtain ⟨Tn, hTn⟩ : ∃ T, 6 * (mxv - mnv) = T := ⟨_, rfl⟩
        rw [hTn] at F9 hX1 hX2 hQ
        have hT0 : 0 < Tn := by omega
        have hT1 : Tn ≤ 384 := by omega
        clear hTn
        obtain ⟨Y, hY⟩ : ∃ Y, Float64.mul (Float64.ofInt Tn) H = Y := ⟨_, rfl⟩
        rw [hY] at hX1 hX2 hQ
        obtain ⟨X, hXe⟩ : ∃ X, Float64.add Y 4602678819172646912 = X := ⟨_, rfl⟩
        rw [hXe] at hX1 hX2 hQ
        refine back ?_
        clear back GG
        k_steps
        refine ⟨?_⟩
        rename (_ < 2 ^ 1024 - 2 ^ 970) => hbig
        clear hbig
        rw [hY]
        (try dsimp only)
        k_steps
        refine ⟨?_⟩
        rw [hXe]
        (try dsimp only)
        k_steps
        refine ⟨?_⟩
        obtain ⟨V, hV⟩ : ∃ V, Flt.toInt Float64.truncOf X = V := ⟨_, rfl⟩
        rw [hV]
        rw [hV] at hQ
        rename Float64.isFinite X = true => hfin
        clear hfin hX1 hX2 hXe hY hV
        (try dsimp only)
        k_steps
        refine ⟨?_⟩
        refine neQ hQ ?_
        clear hQ
        (try k_fold)
        k_steps
        refine ⟨?_⟩
        rename Fr _ _ _ _ => F1
        rename News _ _ _ _ => N1
        obtain ⟨c, hn, hc, hln⟩ := LA.pre
        have hlS : (S r.1).length ≤ 40 := by rw [S_len]; exact hln
        k_dflt (refine' levE (Cx.mk ?k1v ?k2v ?k3v C1 C2 ?k4v ?k5v ?k6v) F1 N1 e c _ _ _ _ _ (congrArg S hn) eE hc ?k7v ?kRv)
        case k1v => k_asm
        case k2v => k_asm
        case k3v => k_asm
        case k4v => first | exact rfl | assumption
        case k5v => ktr_room
        case k6v => ktr_units
        case k7v => rw [← hn]; exact hln
        intro tv hv tkv Fv Nv
        clear F1 N1
        (try dsimp only)
        (try k_fold)
        k_steps
        refine ⟨?_⟩
        k_dflt (refine' rixOk LA.rix ?_)
        intro tw
        (try dsimp only)
        (try k_fold)
        k_steps
        refine ⟨?_⟩
        refine neQ ?kz ?_
        case kz =>
          have := congrArg List.length hn
          rw [List.length_append] at this
          rw [S_len]
          omega
        (try dsimp only)
        (try k_fold)
        k_steps
        rename Fr _ _ _ _ => F1
        rename News _ _ _ _ => N1
        refine hTT2 _ _ ?_
        refine' TurnGT.mk (news' := (I, o) :: (L1 + 1 + 1 + 1 + 1, _) :: (L1 + 1 + 1 + 1, oe5) :: (L1 + 1 + 1, on5) :: (L1 + 1, op) :: REST) F1 N1 ?tbe ?tce ?tae ?tde ⟨_, _, _, _, _, ?tme, rfl, ?tfe⟩
        case tfe => assumption
        case tme => refine end3 (x := Str.ofString "hue") (y := Str.ofString "turn") (z := Str.ofString "steps") ?_ ?_ ?_ <;> decide +kernel
        case tbe => exact List.Mem.tail _ (List.Mem.tail _ (List.Mem.head _))
        case tce => exact fun p hp => List.Mem.tail _ (List.Mem.tail _ (List.Mem.tail _ hp))
        case tde => exact fun p hp => nomatch hp
        case tae =>
          intro p hp
          rcases List.mem_cons.mp hp with rfl | hp
          · exact j1
          rcases List.mem_cons.mp hp with rfl | hp
          · exact j2
          rcases List.mem_cons.mp hp with rfl | hp
          · exact j3
          rcases List.mem_cons.mp hp with rfl | hp
          · exact j4
          rcases List.mem_cons.mp hp with rfl | hp
          · exact j5
          exact hnI6 p (List.Mem.tail _ (List.Mem.tail _ (List.Mem.tail _ (List.Mem.tail _ (List.Mem.tail _ hp)))))
    case doneu =>
      intro m₁ news₁ h5 tk5 hp8 F5 N5
      refine hide fun GG back => ?_
      obtain ⟨ok5, vk5, q1, q2, q3, rfl, rfl, f1⟩ := hp8
      refine back ?_
      clear back GG
      k_steps
      rename Fr _ _ _ _ => F1
      rename News _ _ _ _ => N1
      refine hTT1 _ _ ?_
      refine' TurnGT.mk (news' := (L1 + 1 + 1 + 1 + 1, ok5) :: (L1 + 1 + 1 + 1, oe5) :: (L1 + 1 + 1, on5) :: (L1 + 1, op) :: REST) F1 N1 (List.Mem.head _) ?tcd ?tad ?tdd ⟨ok5, oe5, on5, vk5, _, _, q1, q2, q3, rfl, rfl, f1, d5e, d5n⟩
      case tcd => exact fun p hp => List.Mem.tail _ hp
      case tdd =>
        intro p hp
        rw [List.mem_singleton.mp hp]
        exact List.Mem.tail _ (List.Mem.tail _ (List.Mem.tail _ (List.Mem.tail _ hR)))
      case tad =>
        intro p hp
        rcases List.mem_cons.mp hp with rfl | hp
        · exact i1
        rcases List.mem_cons.mp hp with rfl | hp
        · exact i2
        rcases List.mem_cons.mp hp with rfl | hp
        · exact i3
        rcases List.mem_cons.mp hp with rfl | hp
        · exact i4
        exact hI5 p hp
  case done => 
    intro m₁ news₁ h5 tk5 hp9 hR5 F5 N5
    refine hide fun GG back => ?_
    obtain ⟨ok5, oe5, on5, vk, ve, vn, p1, p2, p3, rfl, rfl, f1, f2, f3⟩ := hp9
    refine back ?_
    clear back GG
    k_steps
    rename Fr h₀ _ _ _ => F9
    rename News h₀ _ _ _ => N9
    refine hret _ _ F9 (news_sub N9 ?_)
    intro p hp
    rw [hREST] at hp
    exact List.Mem.tail _ (List.Mem.tail _ (List.Mem.tail _ (List.Mem.tail _ hp)))
end Mine

end
noncomputable section
theorem Mine.flush_L10 {w : World} {A : Around} {v : Value} {Q E : Value → Shared → Prop} {s : Shared} (h : Q v s) : wpAny (model Mine.PR w) A (pure v) Q E s := by
  w_top off
  (try walk1)
  first | exact h | exact wpAny_pure h
open PySem PySem.W PyProof.Rows PySem.Calls PySem.Spec
namespace Mine
theorem fillL10 : (∀ P, hd.heap_39 P = hd.heap_39 P) ∧ PySem.Challenge.rw_tl0060_01 = PySem.Challenge.rw_tl0060_01 := by
  k_fill
  exact ⟨fun _ => rfl, rfl⟩
/-- where two names part -/
noncomputable def brk (f n : List Nat) : Nat → Nat → Nat
  | 0, k => k
  | u + 1, k => if at1 f k == at1 n k then brk f n u (k + 1) else k
def lampOf (f n : List Nat) : Nat := [114, 103, 98].idxOf (f.getD (brk f n 40 3) 0)
def addAt (l : List Int) (j : Nat) : List Int := l.set j (l.getD j 0 + 1)
def pCount (n : List Nat) (fs : List (List Nat)) : List Int := fs.foldl (fun l f => addAt l (lampOf f n)) [0, 0, 0]
def okFN (f n : List Nat) : Bool :=
  let q := brk f n 40 3
  at1 f q != at1 n q && (decide (3 ≤ q) && (decide (q < f.length) && (decide (f.length ≤ 40) && (decide (n.length ≤ 40) && (decide (lampOf f n < 3) && (List.range q).all fun i => decide (i < 3) || at1 f i == at1 n i)))))
def pInit : List (List Nat × List Int) := [([], [9, 0, 0]), ([114], [0, 9, 0]), ([114, 103], [0, 0, 9])]
def pParts (roads : List Row) (fs : List (List Nat)) : List (List Nat × List Int) := pInit ++ roads.map fun r => (r.1, pCount r.1 fs)
theorem map4 {M M' : Str → Option Value} {a b c d : Str} (h : ∀ y, y ≠ a → y ≠ b → y ≠ c → y ≠ d → M' y = M y) : M' = setO (setO (setO (setO M a (M' a)) b (M' b)) c (M' c)) d (M' d) := by
  funext y
  by_cases h4 : y = d
  · subst h4; simp [setO]
  by_cases h3 : y = c
  · subst h3; simp [setO, h4]
  by_cases h2 : y = b
  · subst h2; simp [setO, h4, h3]
  by_cases h1 : y = a
  · subst h1; simp [setO, h4, h3, h2]
  simp [setO, h4, h3, h2, h1, h y h1 h2 h3 h4]
theorem map2 {M M' : Str → Option Value} {a b : Str} (h : ∀ y, y ≠ a → y ≠ b → M' y = M y) : M' = setO (setO M a (M' a)) b (M' b) := by
  funext y
  by_cases h2 : y = b
  · subst h2; simp [setO]
  by_cases h1 : y = a
  · subst h1; simp [setO, h2]
  simp [setO, h2, h1, h y h1 h2]
theorem PartsIn.snoc {led : Led} {nm : List Nat} {l : Addr} {vs : List Value} {ds : List Int} {n : Nat} (hm : (l, lstN vs n) ∈ led) (hi : IntsAre vs ds) : ∀ {kvs : List (Str × Value)} {ps : List (List Nat × List Int)}, PartsIn led kvs ps → PartsIn led (kvs ++ [(S nm, .ref l)]) (ps ++ [(nm, ds)])
  | _, _, .nil => .cons nm l vs ds n hm hi .nil
  | _, _, .cons nm' l' vs' ds' n' hm' hi' t => .cons nm' l' vs' ds' n' hm' hi' (t.snoc hm hi)
theorem PartsIn.keys {led : Led} : ∀ {kvs : List (Str × Value)} {ps : List (List Nat × List Int)}, PartsIn led kvs ps → kvs.map (·.1) = ps.map fun p => S p.1
  | _, _, .nil => rfl
  | _, _, .cons nm l vs ds n hm hi t => by simp [t.keys]
theorem PartsIn.length {led : Led} {kvs : List (Str × Value)} {ps : List (List Nat × List Int)} (h : PartsIn led kvs ps) : kvs.length = ps.length := by
  have := congrArg List.length h.keys
  simpa using this
theorem stored_new {kvs : List (Str × Value)} {k : Str} {v : Value} (h : k ∉ kvs.map (·.1)) : stored kvs k v = kvs ++ [(k, v)] := by
  unfold stored
  rw [if_neg]
  intro e
  obtain ⟨x, hx, hk⟩ := List.any_eq_true.mp e
  exact h (List.mem_map.mpr ⟨x, hx, of_decide_eq_true hk⟩)
theorem valueAt_new {kvs : List (Str × Value)} {k : Str} {v : Value} (h : k ∉ kvs.map (·.1)) : valueAt (kvs ++ [(k, v)]) k = some v := by
  induction kvs with
  | nil => simp [valueAt]
  | cons x kvs ih =>
    have h1 : ¬ x.1 = k := fun e => h (by simp [e])
    have h2 : k ∉ kvs.map (·.1) := fun e => h (by rw [List.map_cons]; exact List.mem_cons_of_mem _ e)
    have := ih h2
    unfold valueAt at this ⊢
    rw [List.cons_append, List.find?_cons_of_neg (by simpa using h1)]
    exact this
theorem names_new {A B : List (List Nat)} {i : Nat} {x : List Nat} (hx : B[i]? = some x) (hn : (A ++ B).Nodup) : x ∉ A ++ B.take i := by
  obtain ⟨hi, he⟩ := List.getElem?_eq_some_iff.mp hx
  have e : B = B.take i ++ x :: B.drop (i + 1) := by
    rw [← he, List.getElem_cons_drop, List.take_append_drop]
  rw [e, ← List.append_assoc] at hn
  intro hm
  exact (List.nodup_append.mp hn).2.2 x hm x (List.mem_cons_self ..) rfl
theorem news_move3 {h₀ h : Heap} {L : Addr} {a b c x : Addr × Obj} {R : Led} (N : News h₀ L h (a :: b :: c :: x :: R)) : News h₀ L h (x :: ([a, b, c] ++ R)) := by
  refine news_sub N fun p hp => ?_
  simp only [List.mem_cons, List.mem_append, List.not_mem_nil, or_false] at hp ⊢
  rcases hp with h | (h | h | h) | h <;> simp [h]
local macro_rules | `(tactic| k_room) => `(tactic| ktr_room)
local macro_rules | `(tactic| k_mem) => `(tactic| assumption)
local macro_rules | `(tactic| k_all) => `(tactic| first | assumption | (tbn_letter; first | (refine neAll1 ?_; tbn_find) | (refine neAll2 ?_; tbn_find) | (refine neAll3 ?_; tbn_find)))
local macro_rules | `(tactic| walk_at "exec For") => `(tactic| (k_here; refine Halt.in ?_))
local macro_rules | `(tactic| walk_at "pyIter ref") => `(tactic| (k_here; refine Halt.in ?_))
local macro_rules | `(tactic| walk_at "exec While") => `(tactic| (k_here; refine Halt.in ?_))
local macro_rules | `(tactic| walk_at "subscriptTail Name Name ref str") => `(tactic| (k_here; refine Halt.in ?_))
local macro_rules | `(tactic| walk_at "call builtin:str.index") => `(tactic| (k_here; refine Halt.in ?_))
theorem idxOk {prog : Program} {w : World} {A : Around} {E : Value → Shared → Prop} {s : Shared} {x y : Str} {t u : Tok} {i : Nat} {Q : Value → Shared → Prop} (h : ∃ rest, Builtin.Str.occurrences x y 0 x.length 1 = i :: rest) (hq : ∀ v, Q (.int i v) { s with toks := s.toks + 1 }) : wpAny (model prog w) A (call (.builtin "str.index") [.str x t, .str y u]) Q E s :=
  have ⟨rest, h⟩ := h
  call_gives F.slot_str_index (typeIs_str _ _ _) F.entry_str_index (F.args_str_index_2 _ _) (gives_str_index x y t u i rest h) (hq _)
theorem idx_rgb (c : Nat) (h : [114, 103, 98].idxOf c < 3) : ∃ rest, Builtin.Str.occurrences (Str.ofString "rgb") (S [c]) 0 (Str.ofString "rgb").length 1 = [114, 103, 98].idxOf c :: rest := by
  have hc : c = 114 ∨ c = 103 ∨ c = 98 := by
    by_cases h1 : c = 114
    · exact .inl h1
    by_cases h2 : c = 103
    · exact .inr (.inl h2)
    by_cases h3 : c = 98
    · exact .inr (.inr h3)
    exfalso
    have : c ∉ [114, 103, 98] := by simp [h1, h2, h3]
    rw [List.idxOf_eq_length this] at h
    simp at h
  rcases hc with rfl | rfl | rfl
  · exact ⟨[], by decide +kernel⟩
  · exact ⟨[], by decide +kernel⟩
  · exact ⟨[], by decide +kernel⟩
/-- What a loop holds to. -/
inductive PartsJ (w : World) (d : Addr) (REST : Led) (roads : List Row) (fields : List (List Nat)) (mm : Str → Option Value) (i : Nat) (m₁ : Str → Option Value) (news₁ : Led) : Prop
  | mk (oD : Obj) (kvs : List (Str × Value)) (tl : Led) (o1 o2 o3 o4 : Option Value) (h0 : m₁ = setO (setO (setO (setO mm (Str.ofString "name") o1) (Str.ofString "ends") o2) (Str.ofString "field") o3) (Str.ofString "k") o4) (h1 : news₁ = (d, oD) :: (tl ++ REST)) (h2 : Obj.IsDictOf (PySem.strKind PR w) oD kvs) (h3 : PartsIn (tl ++ REST) kvs (pInit ++ (roads.take i).map fun r => (r.1, pCount r.1 fields))) (h4 : (∀ r ∈ tl, ∀ z ∈ REST, z.1 < r.1)) (h5 : (∀ r ∈ tl, r.1 ≠ d)) : PartsJ w d REST roads fields mm i m₁ news₁
/-- What a loop holds to. -/
inductive PartsK (A : Addr) (I : Addr) (o : Obj) (oD2 : Obj) (d : Addr) (tl : Led) (REST : Led) (r : Row) (fields : List (List Nat)) (mm : Str → Option Value) (j : Nat) (m₁ : Str → Option Value) (news₁ : Led) : Prop
  | mk (vs : List Value) (n : Nat) (o1 o2 : Option Value) (h0 : m₁ = setO (setO mm (Str.ofString "field") o1) (Str.ofString "k") o2) (h1 : news₁ = (A, lstN vs n) :: (I, o) :: (d, oD2) :: (tl ++ REST)) (h2 : IntsAre vs (pCount r.1 (fields.take j))) (h3 : (pCount r.1 (fields.take j)).length = 3) : PartsK A I o oD2 d tl REST r fields mm j m₁ news₁
theorem parts {w : World} {p : Program} {loose : List Str} {mean : ExcName → Option Value} {mg mb : Str → Option Value}
    {dp un : Nat} {gd : Option (List Code)} {cn : Str} {cs : Scope} {a9 : Addr} {ccd : Value} {cl : List (Str × Addr)} {outer : List Env} {A₀ : Around} {base h₀ : Heap} {L : Addr} {m : Str → Option Value} {news : Led} {s : Shared} {Q E : Value → Shared → Prop}
    (C : Cx w p loose mean mg mb dp un cs A₀ base outer h₀) (F : Fr h₀ L s.heap m) (R fi : Addr) (rvs fvs : List Value) (rn fn : Nat)
    (N : News h₀ L s.heap news) (hR : (R, lstN rvs rn) ∈ news) (hF : (fi, lstN fvs fn) ∈ news)
    (roads : List Row) (fields : List (List Nat)) (hRows : RowsIn news rvs roads) (hFs : StrsAre fvs (fields.map S))
    (hok : ∀ r ∈ roads, ∀ f ∈ fields, okFN f r.1 = true) (hnd : ((pInit.map (·.1)) ++ roads.map (·.1)).Nodup) (hrl : roads.length ≤ 40)
    (hret : ∀ d oD kvs tl h' tk', Fr h₀ L h' m → News h₀ L h' ((d, oD) :: (tl ++ news)) → oD.IsDictOf (PySem.strKind PR w) kvs → PartsIn (tl ++ news) kvs (pParts roads fields) →
      (∀ z ∈ news, z.1 < d) → (∀ r ∈ tl, ∀ z ∈ news, z.1 < r.1) → (∀ r ∈ tl, r.1 ≠ d) → Q (.ref d) { s with heap := h', toks := tk' }) :
    wpAny (model PR w) (ktrTop dp un gd cn cs L a9 ccd cl outer) (call (.ref 261) [.ref R, .ref fi]) Q E s := by
  obtain ⟨B, X, T, C1, C2, hk, hdp, hun⟩ := C
  have hdp1 : dp + 1 < recursionLimit := by omega
  have hun1 : un + 8 < cLine := by omega
  refine wpAny_call ?_
  k_dflt cell_enter
  k_steps
  refine ⟨?_⟩
  rename Fr _ _ _ _ => F1
  rename News _ _ _ _ => N1
  rename_i g1 L1 y3 FG B1 X1 T1 tk0 d y4 oE hd0 y5 y6 l1 y7 xj l2 y8 xm l3 y9 xp y10 oD0 hD0 y11
  clear N F FG y6
  obtain ⟨REST, hREST⟩ : ∃ r, news = r := ⟨_, rfl⟩
  rw [hREST] at N1 hd0
  rw [hREST] at hR hF hRows
  have q1 := allLt_mem (l := (d, oD0) :: news) xj
  have q2 := allLt_mem (l := (l1, oD0) :: (d, oD0) :: news) xm
  have q3 := allLt_mem (l := (l2, oD0) :: (l1, oD0) :: (d, oD0) :: news) xp
  have k1 : ∀ p ∈ REST, p.1 < l1 := fun p hp => q1 p (List.Mem.tail _ (hREST ▸ hp))
  have k2 : ∀ p ∈ REST, p.1 < l2 := fun p hp => q2 p (List.Mem.tail _ (List.Mem.tail _ (hREST ▸ hp)))
  have k3 : ∀ p ∈ REST, p.1 < l3 := fun p hp => q3 p (List.Mem.tail _ (List.Mem.tail _ (List.Mem.tail _ (hREST ▸ hp))))
  have k4 : l1 ≠ d := Nat.ne_of_gt (q1 _ (List.Mem.head _))
  have k5 : l2 ≠ d := Nat.ne_of_gt (q2 _ (List.Mem.tail _ (List.Mem.head _)))
  have k6 : l3 ≠ d := Nat.ne_of_gt (q3 _ (List.Mem.tail _ (List.Mem.tail _ (List.Mem.head _))))
  clear xj xm xp q1 q2 q3 y5
  rw [hREST] at hret
  clear hREST
  with_unfolding_all refine' For_invTF F1 ?kF1 ?kF2
  case kF2 => exact fun _ => rfl
  k_steps
  refine ⟨?_⟩
  refine' iterListGT (l := R) (vs := rvs) (n := rn) (m := ?mm) (fun i m₁ news₁ => PartsJ w d REST roads fields ?mm i m₁ news₁) ?h1 ?hm F1 (news_move3 N1) ?h2 ?turn ?done
  case h1 => rfl
  case hm => exact List.Mem.tail _ (List.mem_append_right _ hR)
  case h2 =>
    refine' ⟨oD0, _, _, _, _, _, _, ?e0, rfl, hD0, ?e1, ?e2, ?e3⟩
    case e0 => exact map4 (fun _ _ _ _ _ => rfl)
    case e1 =>
      refine .cons [] l1 _ _ 0 (List.mem_append_left _ (List.Mem.tail _ (List.Mem.tail _ (List.Mem.head _)))) (.cons _ _ (.cons _ _ (.cons _ _ .nil))) ?_
      refine .cons [114] l2 _ _ 0 (List.mem_append_left _ (List.Mem.tail _ (List.Mem.head _))) (.cons _ _ (.cons _ _ (.cons _ _ .nil))) ?_
      refine .cons [114, 103] l3 _ _ 0 (List.mem_append_left _ (List.Mem.head _)) (.cons _ _ (.cons _ _ (.cons _ _ .nil))) ?_
      simp only [List.take_zero, List.map_nil]
      exact .nil
    case e2 =>
      intro r hr z hz
      simp only [List.mem_cons, List.not_mem_nil, or_false] at hr
      rcases hr with rfl | rfl | rfl
      · exact k3 z hz
      · exact k2 z hz
      · exact k1 z hz
    case e3 =>
      intro r hr
      simp only [List.mem_cons, List.not_mem_nil, or_false] at hr
      rcases hr with rfl | rfl | rfl
      · exact k6
      · exact k5
      · exact k4
  case turn =>
    intro i v m₁ news₁ s5 I o hv hp10 hR5 hnI F5 N5
    refine hide fun GG back => ?_
    obtain ⟨oD, kvs, tl, p1, p2, p3, p4, rfl, rfl, hD, hP, ht1, ht2⟩ := hp10
    refine back ?_
    clear back GG
    refine hidePostT fun TT1 hTT1 => ?_
    clear F1 N1 k1 k2 k3 k4 k5 k6
    refine hide fun GG back => ?_
    obtain ⟨r, hr, a, b, t, vs, n, rfl, hm1, hm2, hS⟩ := hRows.at i v hv
    refine back ?_
    clear back GG
    have i1 := neN (hnI _ (List.Mem.head _))
    dsimp only at i1
    have hm1' : (a, tup2 (.str (S r.1) t) (.ref b)) ∈ (I, o) :: (d, oD) :: (tl ++ REST) := List.Mem.tail _ (List.Mem.tail _ (List.mem_append_right _ hm1))
    k_steps
    rename Fr _ _ _ _ => F1
    rename News _ _ _ _ => N1
    rename (_ ∧ _ ∧ AllLt _ _) => lA
    rename_i x0 x1 A x3
    obtain ⟨lA1, lA2, lA3⟩ := lA
    have lA4 := allLt_mem lA3
    have hkeys : S r.1 ∉ kvs.map (·.1) := by
      rw [hP.keys]
      intro hm
      rw [List.map_append, List.map_map] at hm
      have := names_new (A := pInit.map (·.1)) (B := roads.map (·.1)) (i := i) (x := r.1) (by rw [List.getElem?_map, hr]; rfl) hnd
      apply this
      rw [← List.map_take]
      simp only [List.mem_append, List.mem_map, Function.comp] at hm ⊢
      rcases hm with ⟨x, hx, e⟩ | ⟨x, hx, e⟩
      · exact .inl ⟨x, hx, S_inj e⟩
      · exact .inr ⟨x, hx, S_inj e⟩
    have hkl : kvs.length ≤ 100 := by
      rw [hP.length, List.length_append, List.length_map, List.length_take]
      have : pInit.length = 3 := rfl
      omega
    have hne2 : ∀ p ∈ tl ++ REST, p.1 ≠ d := by
      intro p hp
      rcases List.mem_append.mp hp with hp | hp
      · exact ht2 p hp
      · exact Nat.ne_of_lt (hd0 p hp)
    refine kda_set (K := Str) F1 N1 (UpdF.tail (Nat.ne_of_gt lA2) (UpdF.tail (Ne.symm i1) (UpdF.head hne2))) hD (strKind_is _ _ _ _) (Nat.le_trans hkl (by rw [sizeLine_eq]; decide)) ?_
    intro h6 oD2 F6 N6 hD2
    (try dsimp only at N6)
    rw [stored_new hkeys] at hD2
    clear F1 N1
    (try dsimp only)
    (try k_fold)
    k_steps
    refine ⟨?_⟩
    with_unfolding_all refine' For_invVF F6 ?kF1t ?kF2t ?kF3t ?kF4t
    case kF1t => exact rfl
    case kF2t => exact rfl
    case kF4t => exact fun _ => rfl
    k_steps
    refine ⟨?_⟩
    refine' iterListG (l := fi) (vs := fvs) (n := fn) (m := ?mm2) (fun j m₁ news₁ => PartsK A I o oD2 d tl REST r fields ?mm2 j m₁ news₁) ?h1u ?hFu F6 N6 ?h2u ?turnu ?doneu
    case h1u => rfl
    case hFu => exact List.Mem.tail _ (List.Mem.tail _ (List.Mem.tail _ (List.mem_append_right _ hF)))
    case h2u => exact ⟨_, _, _, _, map2 (fun _ _ _ => rfl), rfl, .cons _ _ (.cons _ _ (.cons _ _ .nil)), rfl⟩
    case turnu =>
      intro j v m₁ news₁ h7 tk7 I6 o6 hv6 hp11 hF6 hnI6 F7 N7
      refine hide fun GG back => ?_
      obtain ⟨vs, n, q1, q2, rfl, rfl, hvs, hln⟩ := hp11
      refine back ?_
      clear back GG
      refine hidePost fun TT2 hTT2 => ?_
      refine hide fun GG back => ?_
      obtain ⟨y, ty, rfl, hy⟩ := hFs.item j v hv6
      rw [List.getElem?_map] at hy
      obtain ⟨f, hf, rfl⟩ := Option.map_eq_some_iff.mp hy
      clear F6 N6
      have hchk := hok r (List.mem_of_getElem? hr) f (List.mem_of_getElem? hf)
      unfold okFN at hchk
      simp only [Bool.and_eq_true, decide_eq_true_eq, bne_iff_ne, ne_eq, List.all_eq_true, List.mem_range, Bool.or_eq_true, beq_iff_eq] at hchk
      obtain ⟨c1, c2, c3, c4, c5, c6, c7⟩ := hchk
      refine back ?_
      clear back GG
      have hzf : (S f).length ≤ 40 := by rw [S_len]; exact c4
      have hzn : (S r.1).length ≤ 40 := by rw [S_len]; exact c5
      k_steps
      refine ⟨?_⟩
      rename Fr _ _ _ _ => F1
      rename News _ _ _ _ => N1
      obtain ⟨q, hq⟩ : ∃ q, brk f r.1 40 3 = q := ⟨_, rfl⟩
      have hj : lampOf f r.1 = [114, 103, 98].idxOf (f.getD q 0) := by unfold lampOf; rw [hq]
      rw [hq] at c1 c2 c3 c7
      refine whileInt (Str.ofString "k") (fun i => 3 ≤ i ∧ i ≤ (q : Int)) (fun i => ((q : Int) - i).toNat) F1 N1 (by rfl) ⟨by omega, by omega⟩ ?_
      intro k tk9 h9 tkk9 hk9 F9 N9
      clear F1 N1 F7 N7
      obtain ⟨hk0, hk1⟩ := hk9
      k_steps
      · rename (_ == _) = true => he
        rename Fr _ _ _ _ => F1
        rename News _ _ _ _ => N1
        rw [S_slice_oneI _ _ (by omega), S_slice_oneI _ _ (by omega), S_beq, beq_iff_eq] at he
        have hlt : k < (q : Int) := by
          rcases Int.lt_or_eq_of_le hk1 with h | h
          · exact h
          · exfalso
            rw [h, Int.toNat_natCast] at he
            exact c1 he
        exact IntEnd.mk' F1 N1 (setN_twice _ _ _ _) (by omega) ⟨by omega, by omega⟩
      rename (_ == _) = false => he
      rename Fr _ _ _ _ => F1
      rename News _ _ _ _ => N1
      rw [S_slice_oneI _ _ (by omega), S_slice_oneI _ _ (by omega), S_beq, beq_eq_false_iff_ne] at he
      have hkq : k = (q : Int) := by
        rcases Int.lt_or_eq_of_le hk1 with h | h
        · exfalso
          rcases c7 k.toNat (by omega) with h' | h'
          · omega
          · exact he h'
        · exact h
      subst hkq
      have hlf : (S f).length = f.length := S_len f
      have hva : valueAt (kvs ++ [(S r.1, Value.ref A)]) (S r.1) = some (.ref A) := valueAt_new hkeys
      refine ⟨?_⟩
      k_dflt (refine' kda_item (K := Str) N1 ?ksm hD2 (strKind_is _ _ _ _) hva ?_)
      case ksm => exact List.Mem.tail _ (List.Mem.tail _ (List.Mem.tail _ (List.Mem.head _)))
      clear he
      (try dsimp only)
      (try k_fold)
      k_steps
      refine ⟨?_⟩
      have hoc : ∃ rest, Builtin.Str.occurrences (Str.ofString "rgb") (Txt.item (S f) (q : Int)) 0 (Str.ofString "rgb").length 1 = lampOf f r.1 :: rest := by
        rw [S_item _ _ (by omega) (by omega), Int.toNat_natCast, hj]
        exact idx_rgb _ (hj ▸ c6)
      refine idxOk hoc ?_
      intro tj
      obtain ⟨J0, hJ0⟩ : ∃ J, lampOf f r.1 = J := ⟨_, rfl⟩
      obtain ⟨cs0, hcs0⟩ : ∃ J, pCount r.1 (fields.take j) = J := ⟨_, rfl⟩
      have hstep : pCount r.1 (fields.take (j + 1)) = addAt cs0 J0 := by
        unfold pCount at hcs0 ⊢
        rw [List.take_add_one, hf, List.foldl_append, hcs0]
        show addAt cs0 (lampOf f r.1) = _
        rw [hJ0]
      rw [hJ0] at c6
      rw [hcs0] at hvs hln
      rw [hJ0]
      clear hoc hj hJ0 hcs0
      (try dsimp only)
      (try k_fold)
      k_steps
      rename Fr _ _ _ _ => F5
      rename News _ _ _ _ => N5
      have hI6A : I6 ≠ A := Ne.symm (hnI6 _ (List.Mem.head _))
      have hneA : ∀ p ∈ (I, o) :: (d, oD2) :: (tl ++ REST), p.1 ≠ A := by
        intro p hp
        rcases List.mem_cons.mp hp with rfl | hp
        · exact Nat.ne_of_lt lA1
        rcases List.mem_cons.mp hp with rfl | hp
        · exact Nat.ne_of_lt lA2
        exact Nat.ne_of_lt (lA4 p hp)
      k_dflt (refine' ksa_set F5 N5 (Upd.tail hI6A (Upd.head hneA)) hvs (by omega) (by omega) (by omega) ?_)
      intro h8 F8 N8 hvs8 hln8 hsm8
      clear F5 N5 hsm8
      (try dsimp only)
      (try k_fold)
      k_steps
      rename Fr _ _ _ _ => F5
      rename News _ _ _ _ => N5
      rw [Int.toNat_natCast] at hvs8 hln8
      refine hTT2 _ _ ?_
      refine' TurnG.mk (news' := (A, lstN _ n) :: (I, o) :: (d, oD2) :: (tl ++ REST)) F5 N5 (List.Mem.head _) ?tbe ?tce ?tae ⟨_, n, _, _, ?tme, rfl, ?tfe, ?tge⟩
      case tme =>
        refine map2 fun y h1 h2 => ?_
        simp [setO, setN, h1, h2]
      case tfe => rw [hstep]; exact hvs8
      case tge => rw [hstep]; show (cs0.set _ _).length = 3; rw [List.length_set]; exact hln
      case tbe => exact fun p hp => List.Mem.tail _ hp
      case tce =>
        intro p hp
        rcases List.mem_cons.mp hp with rfl | hp
        · exact Ne.symm hI6A
        exact hnI6 p (List.Mem.tail _ hp)
      case tae =>
        intro p hp
        rw [List.mem_singleton.mp hp]
        exact List.Mem.tail _ (List.Mem.tail _ (List.Mem.tail _ (List.mem_append_right _ hF)))
    case doneu =>
      intro m₁ news₁ h7 tk7 hp12 hF7 F7 N7
      refine hide fun GG back => ?_
      obtain ⟨vs, n, q1, q2, rfl, rfl, hvs, hln⟩ := hp12
      refine back ?_
      clear back GG
      clear F6 N6
      rw [List.take_of_length_le (by have := hFs.length; rw [List.length_map] at this; omega)] at hvs
      k_steps
      rename Fr _ _ _ _ => F1
      rename News _ _ _ _ => N1
      refine hTT1 _ _ ?_
      refine' TurnGT.mk (news' := (d, oD2) :: (((A, lstN vs n) :: tl) ++ REST)) F1 N1 (List.Mem.tail _ (List.Mem.head _)) ?tbd ?tcd ?tad ⟨oD2, _, (A, lstN vs n) :: tl, _, _, _, _, ?tmd, rfl, hD2, ?tfd, ?tgd, ?thd⟩
      case tbd =>
        intro p hp
        simp only [List.mem_cons, List.mem_append, List.cons_append] at hp ⊢
        rcases hp with h | h | h | h <;> simp [h]
      case tcd =>
        intro p hp
        simp only [List.mem_cons, List.mem_append, List.cons_append] at hp
        rcases hp with rfl | rfl | h | h
        · exact i1
        · exact Nat.ne_of_gt lA1
        · exact hnI p (List.Mem.tail _ (List.mem_append_left _ h))
        · exact hnI p (List.Mem.tail _ (List.mem_append_right _ h))
      case tad =>
        intro p hp
        rw [List.mem_singleton.mp hp]
        exact List.Mem.tail _ (List.mem_append_right _ hR)
      case tmd =>
        refine map4 fun y h1 h2 h3 h4 => ?_
        simp [setO, h1, h2, h3, h4]
      case tfd =>
        have e : (roads.take (i + 1)) = roads.take i ++ [r] := by rw [List.take_add_one, hr]; rfl
        rw [e, List.map_append, ← List.append_assoc]
        exact PartsIn.snoc (List.Mem.head _) hvs (hP.mono fun p hp => List.Mem.tail _ hp)
      case tgd =>
        intro r hr z hz
        rcases List.mem_cons.mp hr with rfl | hr
        · exact lA4 z (List.mem_append_right _ hz)
        · exact ht1 r hr z hz
      case thd =>
        intro r hr
        rcases List.mem_cons.mp hr with rfl | hr
        · exact Nat.ne_of_gt lA2
        · exact ht2 r hr
  case done =>
    intro m₁ news₁ h7 tk7 hp13 hR7 F7 N7
    refine hide fun GG back => ?_
    obtain ⟨oD, kvs, tl, p1, p2, p3, p4, rfl, rfl, hD, hP, ht1, ht2⟩ := hp13
    refine back ?_
    clear back GG
    clear F1 N1
    rw [List.take_of_length_le (by have := hRows.length; omega)] at hP
    k_steps
    rename Fr h₀ _ _ _ => F9
    rename News h₀ _ _ _ => N9
    exact hret d oD kvs tl _ _ F9 N9 hD hP hd0 ht1 ht2
end Mine

end
noncomputable section
theorem Mine.flush_L11 {w : World} {A : Around} {v : Value} {Q E : Value → Shared → Prop} {s : Shared} (h : Q v s) : wpAny (model Mine.PR w) A (pure v) Q E s := by
  w_top off
  (try walk1)
  first | exact h | exact wpAny_pure h
open PySem PySem.W PyProof.Rows PySem.Calls PySem.Spec
namespace Mine
theorem fillL11 : (∀ P, hd.heap_39 P = hd.heap_39 P) ∧ PySem.Challenge.rw_tl0060_01 = PySem.Challenge.rw_tl0060_01 := by
  k_fill
  exact ⟨fun _ => rfl, rfl⟩
def rgbc : List Nat := [114, 103, 98]
def newRow (r : Row) (k : Nat) : Row := (r.1 ++ [rgbc.getD k 0], r.2.take k ++ [r.1] ++ r.2.drop (k + 1))
def netStep (c : Nat) (st : Nat × List Row × List Row) : Nat × List Row × List Row :=
  let place := st.1 % c
  let f := st.2.2.getD place ([], [])
  (st.1 / c, st.2.1 ++ [f], st.2.2.take place ++ [newRow f 0, newRow f 1, newRow f 2] ++ st.2.2.drop (place + 1))
def net0 (num : Nat) : Nat × List Row × List Row := (num, [([114, 103, 98], [[], [114], [114, 103]])], [([114, 103, 98, 114], [[114, 103, 98], [114], [114, 103]]), ([114, 103, 98, 103], [[], [114, 103, 98], [114, 103]]), ([114, 103, 98, 98], [[], [114], [114, 103, 98]])])
noncomputable def netAt (num : Nat) : Nat → Nat × List Row × List Row
  | 0 => net0 num
  | i + 1 => netStep ([3, 5, 7].getD i 1) (netAt num i)
theorem news_net {h₀ h : Heap} {L : Addr} {l7 fi T3 a3 T2 a2 T1 a1 R T0 a0 D5 c2 c1 x y : Addr × Obj} (N : News h₀ L h [l7, fi, T3, a3, T2, a2, T1, a1, R, T0, a0, D5, c2, c1, x, y]) :
    News h₀ L h (x :: y :: R :: fi :: c2 :: c1 :: [l7, T3, a3, T2, a2, T1, a1, T0, a0]) := by
  refine news_sub N fun p hp => ?_
  simp only [List.mem_cons, List.not_mem_nil, or_false] at hp ⊢
  rcases hp with h | h | h | h | h | h | h | h | h | h | h | h | h | h | h <;> simp [h]
theorem map3 {M M' : Str → Option Value} {a b c : Str} (h : ∀ y, y ≠ a → y ≠ b → y ≠ c → M' y = M y) : M' = setO (setO (setO M a (M' a)) b (M' b)) c (M' c) := by
  funext y
  by_cases h3 : y = c
  · subst h3; simp [setO]
  by_cases h2 : y = b
  · subst h2; simp [setO, h3]
  by_cases h1 : y = a
  · subst h1; simp [setO, h3, h2]
  simp [setO, h3, h2, h1, h y h1 h2 h3]
theorem TabSt.drop2 {ln cl : Nat} {qual : Str} {ps : Array Value} {R R' : Led} (h : TabSt ln cl qual ps R) (hs : ∀ p ∈ R, p ∈ R' ∨ ∀ (vs : Array Value) (q : Str) (t : Tok), p.2.data = .fields vs → vs[1]? ≠ some (.str q t)) : TabSt ln cl qual ps R' := by
  rcases h with h | ⟨c', oc, vs, t, a, b, c, d⟩
  · exact .inl h
  · rcases hs _ b with h | h
    · exact .inr ⟨c', oc, vs, t, a, h, c, d⟩
    · exact absurd d (h vs qual t c)
def RowOk (b : Nat) (r : Row) : Prop := r.1.length ≤ b ∧ r.2.length = 3
theorem rowOk_new {b : Nat} {r : Row} (h : RowOk b r) (k : Nat) (hk : k < 3) : RowOk (b + 1) (newRow r k) := by
  obtain ⟨h1, h2⟩ := h
  constructor
  · simp [newRow]; omega
  · simp [newRow]; omega
theorem netOk (num : Nat) : ∀ i, i ≤ 3 → (netAt num i).2.2.length = 3 + 2 * i ∧ (∀ r ∈ (netAt num i).2.2, RowOk (4 + i) r) ∧ (netAt num i).2.1.length = i + 1
  | 0, _ => by
    refine ⟨rfl, ?_, rfl⟩
    intro r hr
    simp only [netAt, net0, List.mem_cons, List.not_mem_nil, or_false] at hr
    rcases hr with rfl | rfl | rfl <;> exact ⟨by decide, by decide⟩
  | i + 1, hi => by
    obtain ⟨h1, h2, h3⟩ := netOk num i (by omega)
    have hc : [3, 5, 7].getD i 1 = 3 + 2 * i := by
      rcases (show i = 0 ∨ i = 1 ∨ i = 2 by omega) with rfl | rfl | rfl <;> rfl
    have hp : (netAt num i).1 % (3 + 2 * i) < 3 + 2 * i := Nat.mod_lt _ (by omega)
    have hf : RowOk (4 + i) ((netAt num i).2.2.getD ((netAt num i).1 % (3 + 2 * i)) ([], [])) := by
      rw [List.getD_eq_getElem?_getD, List.getElem?_eq_getElem (by omega)]
      exact h2 _ (List.getElem_mem _)
    show (netStep _ _).2.2.length = _ ∧ _ ∧ _
    rw [hc]
    refine ⟨?_, ?_, ?_⟩
    · simp only [netStep, List.length_append, List.length_take, List.length_drop, List.length_cons, List.length_nil]
      omega
    · intro r hr
      simp only [netAt, hc, netStep, List.mem_append, List.mem_cons, List.not_mem_nil, or_false] at hr
      have up : ∀ r, RowOk (4 + i) r → RowOk (4 + (i + 1)) r := fun r h => ⟨by have := h.1; omega, h.2⟩
      rcases hr with (hr | rfl | rfl | rfl) | hr
      · exact up _ (h2 r (List.mem_of_mem_take hr))
      · exact rowOk_new hf 0 (by omega)
      · exact rowOk_new hf 1 (by omega)
      · exact rowOk_new hf 2 (by omega)
      · exact up _ (h2 r (List.mem_of_mem_drop hr))
    · simp only [netAt, netStep, List.length_append, List.length_cons, List.length_nil]
      omega
theorem news_ap {h₀ h : Heap} {L : Addr} {D q I a b R : Addr × Obj} {r : Led} (N : News h₀ L h (D :: q :: I :: a :: b :: R :: r)) : News h₀ L h (R :: D :: I :: a :: b :: r) := by
  refine news_sub N fun p hp => ?_
  simp only [List.mem_cons] at hp ⊢
  rcases hp with h | h | h | h | h | h <;> simp [h]
theorem news_fin {h₀ h : Heap} {L : Addr} {DN R Dt I a b fi c2 c1 : Addr × Obj} {T3 TL : Led} (N : News h₀ L h (DN :: (T3 ++ (R :: Dt :: I :: a :: b :: fi :: c2 :: c1 :: TL)))) : News h₀ L h (fi :: DN :: R :: I :: a :: b :: c2 :: c1 :: Dt :: (T3 ++ TL)) := by
  refine news_sub N fun p hp => ?_
  simp only [List.mem_cons, List.mem_append] at hp ⊢
  rcases hp with h | h | h | h | h | h | h | h | h | h | h <;> simp [h]
theorem off1_mem {D : Addr} : ∀ {l : Led}, LCg.Off1 D l → ∀ p ∈ l, p.1 ≠ D
  | [], _, p, hp => nomatch hp
  | x :: l, h, p, hp => by
    rcases List.mem_cons.mp hp with rfl | hp
    · exact h.1
    · exact off1_mem h.2 p hp
theorem news_rot3 {h₀ h : Heap} {L : Addr} {x a b : Addr × Obj} {r : Led} (N : News h₀ L h (x :: a :: b :: r)) : News h₀ L h (a :: b :: x :: r) := by
  refine news_sub N fun p hp => ?_
  simp only [List.mem_cons] at hp ⊢
  rcases hp with h | h | h | h <;> simp [h]
local macro_rules | `(tactic| k_room) => `(tactic| ktr_room)
local macro_rules | `(tactic| k_mem) => `(tactic| assumption)
local macro_rules | `(tactic| k_all) => `(tactic| first | assumption | (tbn_letter; first | (refine neAll1 ?_; tbn_find) | (refine neAll2 ?_; tbn_find) | (refine neAll3 ?_; tbn_find)))
local macro_rules | `(tactic| walk_at "exec For") => `(tactic| (k_here; refine Halt.in ?_))
local macro_rules | `(tactic| walk_at "pyIter ref") => `(tactic| (k_here; refine Halt.in ?_))
local macro_rules | `(tactic| walk_at "call ref") => `(tactic| (k_here; refine Halt.in ?_))
local macro_rules | `(tactic| cell_enter) => `(tactic| (refine' code_defC ?k1 ?k2 ?k3 ?k4 ?k5 ?kA ?kF ?kK ?k6 ?k7 ?k8 ?k9 ?kB ?kD ?_ ?c2 ?c3 ?c4; (case kA => exact rfl); (case kF => exact rfl); (case kK => assumption); (case k1 => k_asm); (case k2 => k_asm); (case k3 => k_asm); (case k4 => k_asm); (case k5 => k_asm); (case k6 => k_is); (case k7 => k_is); (case k8 => ktr_room); (case k9 => exact BindsTo.of_eq rfl); (case kB => exact rfl); (case kD => decide +kernel); (case c2 => exact rfl); (case c3 => exact rfl); (case c4 => exact rfl); k_whole; intro g' L' h' tk' cells' FG' F' N' Y' B' X' T' l1; (try k_lt l1); k_cells Y'; (try simp only [List.cons_append, List.nil_append] at N'); (try dsimp only); (try k_lift B'); (try k_fold)))
local macro_rules | `(tactic| walk_at "setItem ref ref") => `(tactic| (k_here; refine Halt.in ?_))
local macro_rules | `(tactic| walk_at "call builtin:list.append") => `(tactic| (k_here; refine Halt.in ?_))
local macro_rules | `(tactic| walk_at "subscriptTail Name Name ref int") => `(tactic| (k_here; k_dflt (refine' itemVal ?k1 ?k2 ?k3 ?k4 ?k5 ?_; (case k1 => k_asm); (case k2 => k_mem); (case k3 => omega); (case k4 => omega); (case k5 => assumption); k_whole)))
local macro_rules | `(tactic| walk_at "exec Assign cons ListComp") => `(tactic| (k_here; k_dflt (refine LCg.Assign_ListComp_U (F₀ := by k_asm) (by rfl) (by with_unfolding_all rfl) (by with_unfolding_all rfl) (by decide) (by rfl) (by decide) (by rfl) (by rfl) (by rfl) ?_); k_dflt lcg_toSrc))
local macro_rules | `(tactic| walk_at "CompSrc") => `(tactic| (k_here; refine Halt.in ?_))
theorem compTurn {h₀ h' : Heap} {L I C D At A1 : Addr} {m : Str → Option Value} {s₁ : Shared} {oI oC oD ot ol : Obj} {a2 a3 a5 a4 : Addr × Obj} {R : Led} {S : List (Addr × Obj) → Prop} {rest : Value → List (Addr × Obj) → Prop} {y : Value} {tk : Nat}
    (F : Fr h₀ L h' m) (N : News h₀ L h' ((At, ot) :: (A1, ol) :: a2 :: a3 :: a5 :: a4 :: (I, oI) :: (C, oC) :: (D, oD) :: R)) (off : LCg.Off3 I C D R)
    (x1 : I < A1 ∧ C < A1 ∧ D < A1) (xt : I < At ∧ C < At ∧ D < At) (hS : S ((At, ot) :: (A1, ol) :: R)) (r : rest y ((At, ot) :: (A1, ol) :: R)) :
    LCg.CompEnd h₀ L m s₁ I oI C oC D oD S rest y { s₁ with heap := h', toks := tk } := by
  refine LCg.CompEnd.intro F N ((At, ot) :: (A1, ol) :: R) ?_ ?_ hS r
  · intro p hp
    simp only [List.mem_cons] at hp ⊢
    rcases hp with h | h | h | h | h | h <;> simp [h]
  · refine LCg.Off3.of fun p hp => ?_
    rcases List.mem_cons.mp hp with rfl | hp
    · exact ⟨Nat.ne_of_gt xt.1, Nat.ne_of_gt xt.2.1, Nat.ne_of_gt xt.2.2⟩
    rcases List.mem_cons.mp hp with rfl | hp
    · exact ⟨Nat.ne_of_gt x1.1, Nat.ne_of_gt x1.2.1, Nat.ne_of_gt x1.2.2⟩
    exact off.mem p hp
theorem rowNew {T3 : Led} {At A1 : Addr} {nm : List Nat} {es : List (List Nat)} {vs : List Value} {t : Tok} {n : Nat} {x : Str} (hx : x = S nm) (hv : StrsAre vs (es.map S)) (R : Led) :
    RowIn ((At, tup2 (.str x t) (.ref A1)) :: (A1, lstN vs n) :: T3) (.ref At) (nm, es) := by
  subst hx
  exact ⟨At, A1, t, vs, n, rfl, List.Mem.head _, List.Mem.tail _ (List.Mem.head _), hv⟩
/-- What a loop holds to. -/
inductive NetJ (num0 : Nat) (L1 : Nat) (R : Addr) (fi : Addr) (l7 : Addr) (tk : Tok) (mm : Str → Option Value) (i : Nat) (m₁ : Str → Option Value) (news₁ : Led) : Prop
  | mk (num : Nat) (tn : Tok) (rvs fvs : List Value) (rn fn : Nat) (ps ps2 : Array Value) (on oe : Obj) (vn ve : Option Value) (tl : Led) (o1 o2 : Option Value) (h0 : m₁ = setO (setO (setO mm (Str.ofString "number") (some (.int (num : Int) tn))) (Str.ofString "count") o1) (Str.ofString "place") o2) (h1 : news₁ = (68, tabObj ps) :: (61, tabObj ps2) :: (R, lstN rvs rn) :: (fi, lstN fvs fn) :: (L1 + 1 + 1, on) :: (L1 + 1, oe) :: tl) (h2 : on.data = .cell vn) (h3 : oe.data = .cell ve) (h4 : (netAt num0 i).1 = num) (h5 : num < 128) (h6 : RowsIn tl rvs (netAt num0 i).2.1) (h7 : RowsIn tl fvs (netAt num0 i).2.2) (h8 : TabSt 71 4 q_d2i ps tl) (h9 : TabSt 56 4 q_i2d ps2 tl) (h10 : (∀ r ∈ tl, 68 < r.1 ∧ L1 + 1 + 1 < r.1 ∧ r.1 ≠ R ∧ r.1 ≠ fi)) (h11 : (l7, lstN [.int 3 tk, .int 5 (tk + 1), .int 7 (tk + 1 + 1)] 0) ∈ tl) : NetJ num0 L1 R fi l7 tk mm i m₁ news₁
theorem net {w : World} {p : Program} {loose : List Str} {mean : ExcName → Option Value} {mg mb : Str → Option Value}
    {dp un : Nat} {gd : Option (List Code)} {cn : Str} {cs : Scope} {a9 : Addr} {ccd : Value} {cl : List (Str × Addr)} {outer : List Env} {A₀ : Around} {base h₀ : Heap} {L : Addr} {m : Str → Option Value} {s : Shared} {Q E : Value → Shared → Prop}
    (C : Cx w p loose mean mg mb dp un cs A₀ base outer h₀) (hd2 : dp + 50 < recursionLimit) (hu2 : un + 700 < cLine) (F : Fr h₀ L s.heap m) (sc : Addr) (svs : List Value) (ns : List Int)
    (N : News h₀ L s.heap [(68, tabObj #[]), (61, tabObj #[])]) (hIs : base.IsList sc svs.toArray) (hIn : IntsAre svs ns) (hln : ns.length ≤ 63) (num0 : Nat) (hn0 : (61 + (ns.take 12).sum).fmod 105 = (num0 : Int)) (hn1 : num0 < 105)
    (hret : ∀ q R fi rvs fvs rn fn ps ps2 tl h' tk', Fr h₀ L h' m → News h₀ L h' ((q, tup2 (.ref R) (.ref fi)) :: (68, tabObj ps) :: (61, tabObj ps2) :: (R, lstN rvs rn) :: (fi, lstN fvs fn) :: tl) →
      RowsIn tl rvs (netAt num0 3).2.1 → StrsAre fvs ((netAt num0 3).2.2.map fun f => S f.1) → TabSt 71 4 q_d2i ps tl → TabSt 56 4 q_i2d ps2 tl → (∀ r ∈ tl, r.1 ≠ 68) → @Ne Nat R 68 → @Ne Nat fi 68 → @Ne Nat q 68 → Q (.ref q) { s with heap := h', toks := tk' }) :
    wpAny (model PR w) (ktrTop dp un gd cn cs L a9 ccd cl outer) (call (.ref 254) [.ref sc]) Q E s := by
  obtain ⟨B, X, T, C1, C2, hk, hdp, hun⟩ := C
  have hdp1 : dp + 1 < recursionLimit := by omega
  have hun1 : un + 8 < cLine := by omega
  refine wpAny_call ?_
  k_dflt cell_enter
  k_steps
  refine ⟨?_⟩
  rename Fr _ _ _ _ => F1
  rename News _ _ _ _ => N1
  rename_i g1 L1 z1 z2 FG B1 X1 T1 lL on oe dn de D5 ws5 z5 hI5 z6 z7 z8 z9 z10 z11 z12 z13 a0 z14 z15 T0 z16 z17 R z18 z19 z20 z21 a1 z22 z23 T1' z24 z25 a2 z26 z27 T2 z28 z29 a3 z30 z31 T3 z32 z33 fi z34 z35 z36 l7 z38 lts
  rw [hn0] at F1
  have N2 := news_net N1
  clear N1
  have r1 := ltN lL.1
  have r2 := ltN (show L1 + 1 + 1 < R from z19.2.2.2.1)
  have r3 := ltN (show L1 + 1 + 1 < fi from z35.2.2.2.2.2.2.2.2.2.2.1)
  have r4 := ltN (show R < fi from z35.2.2.2.2.2.2.1)
  have ltl : ∀ r ∈ [l7, T3, a3, T2, a2, T1', a1, T0, a0], 68 < r ∧ L1 + 1 + 1 < r ∧ r ≠ R ∧ r ≠ fi := by
    have y0 := ltN z15.2.1
    have y0' := ltN z15.2.2.2.1
    have y1 := ltN z17.1
    have y2 := ltN z19.1
    have y3 := ltN z23.1
    have y4 := ltN z25.1
    have y5 := ltN z27.1
    have y6 := ltN z29.1
    have y7 := ltN z31.1
    have y8 := ltN z33.1
    have y9 := ltN z35.1
    have y10 := ltN lts.1
    clear z8 z15 z17 z19 z23 z25 z27 z29 z31 z33 z35 lts
    intro r hr
    simp only [List.mem_cons, List.not_mem_nil, or_false] at hr
    rcases hr with rfl | rfl | rfl | rfl | rfl | rfl | rfl | rfl | rfl <;> (refine ⟨ltN ?_, ltN ?_, neN ?_, neN ?_⟩ <;> omega)
  clear z8 z15 z17 z19 z23 z25 z27 z29 z31 z33 z35 lts z6 z7 hI5
  refine' iterListGS (l := l7) (n := 0) (m := ?mm) (fun i m₁ news₁ => NetJ num0 L1 R fi l7 tk ?mm i m₁ news₁) ?h1 ?hm F1 N2 ?h2 ?turn ?done
  case h1 => rfl
  case hm => exact List.Mem.tail _ (List.Mem.tail _ (List.Mem.tail _ (List.Mem.tail _ (List.Mem.tail _ (List.Mem.tail _ (List.Mem.head _))))))
  case h2 =>
    refine' ⟨num0, _, _, _, _, _, _, _, on, oe, _, _, _, _, _, ?e0, rfl, dn, de, rfl, by omega, ?e1, ?e2, .inl rfl, .inl rfl, ?e3, List.Mem.head _⟩
    case e0 => exact map3 (fun _ _ _ _ => rfl)
    case e1 =>
      exact .cons ⟨T0, a0, _, _, 0, rfl, by k_mem, by k_mem, .cons _ _ (.cons _ _ (.cons _ _ .nil))⟩ .nil
    case e2 =>
      exact .cons ⟨T1', a1, _, _, 0, rfl, by k_mem, by k_mem, .cons _ _ (.cons _ _ (.cons _ _ .nil))⟩ (.cons ⟨T2, a2, _, _, 0, rfl, by k_mem, by k_mem, .cons _ _ (.cons _ _ (.cons _ _ .nil))⟩ (.cons ⟨T3, a3, _, _, 0, rfl, by k_mem, by k_mem, .cons _ _ (.cons _ _ (.cons _ _ .nil))⟩ .nil))
    case e3 =>
      intro r hr
      simp only [List.mem_cons, List.not_mem_nil, or_false] at hr
      rcases hr with rfl | rfl | rfl | rfl | rfl | rfl | rfl | rfl | rfl <;> exact ltl _ (by simp)
  case turn =>
    intro i v m₁ news₁ h5 tk5 I o hv hp14 hl7 hnI hoS F5 N5
    refine hide fun GG back => ?_
    obtain ⟨num, tn, rvs, fvs, rn, fn, ps, ps2, on, oe, vn, ve, tl, o1, o2, rfl, rfl, f1, f2, g1e, g2, hRv, hFv, hst, hst2, htl, hl7m⟩ := hp14
    refine back ?_
    clear back GG
    refine hidePost fun TT1 hTT1 => ?_
    have hvc : ∃ (c : Nat) (t : Tok), v = .int (c : Int) t ∧ c = 3 + 2 * i ∧ i < 3 := by
      match i, hv with
      | 0, hv => exact ⟨3, _, by simpa using hv.symm, rfl, by omega⟩
      | 1, hv => exact ⟨5, _, by simpa using hv.symm, rfl, by omega⟩
      | 2, hv => exact ⟨7, _, by simpa using hv.symm, rfl, by omega⟩
      | j + 3, hv => simp at hv
    refine hide fun GG back => ?_
    obtain ⟨c, tc, rfl, hci, hi3⟩ := hvc
    refine back ?_
    clear back GG
    clear F1 N2
    k_steps
    refine ⟨?_⟩
    rename Fr _ _ _ _ => F1
    rename News _ _ _ _ => N1
    have i1 := neN (hnI _ (List.Mem.head _))
    have i2 := neN (hnI _ (List.Mem.tail _ (List.Mem.head _)))
    have i3 := neN (hnI _ (List.Mem.tail _ (List.Mem.tail _ (List.Mem.head _))))
    have i4 := neN (hnI _ (List.Mem.tail _ (List.Mem.tail _ (List.Mem.tail _ (List.Mem.head _)))))
    have i5 := neN (hnI _ (List.Mem.tail _ (List.Mem.tail _ (List.Mem.tail _ (List.Mem.tail _ (List.Mem.head _))))))
    have i6 := neN (hnI _ (List.Mem.tail _ (List.Mem.tail _ (List.Mem.tail _ (List.Mem.tail _ (List.Mem.tail _ (List.Mem.head _)))))))
    have i7 : ∀ p ∈ tl, p.1 ≠ I := fun p hp => hnI p (List.Mem.tail _ (List.Mem.tail _ (List.Mem.tail _ (List.Mem.tail _ (List.Mem.tail _ (List.Mem.tail _ hp))))))
    dsimp only at i1 i2 i3 i4 i5 i6
    have hne68 : ∀ p ∈ (I, o) :: (R, lstN rvs rn) :: (fi, lstN fvs fn) :: (L1 + 1 + 1, on) :: (L1 + 1, oe) :: tl, p.1 ≠ 61 ∧ p.1 ≠ 68 := by
      intro p hp
      simp only [List.mem_cons] at hp
      rcases hp with rfl | rfl | rfl | rfl | rfl | hp
      · exact ⟨Ne.symm i2, Ne.symm i1⟩
      · exact ⟨neN (by (try dsimp only); omega), neN (by (try dsimp only); omega)⟩
      · exact ⟨neN (by (try dsimp only); omega), neN (by (try dsimp only); omega)⟩
      · exact ⟨neN (by (try dsimp only); omega), neN (by (try dsimp only); omega)⟩
      · exact ⟨neN (by (try dsimp only); omega), neN (by (try dsimp only); omega)⟩
      · have := ltN (htl p hp).1
        exact ⟨neN (by omega), neN (by omega)⟩
    k_dflt (refine' idm (Cx.mk ?k1 ?k2 ?k3 C1 C2 ?k4 ?k5 ?k6) ?k7 ?k8 F1 (num : Int) (c : Int) _ _ ps ps2 (news_rot3 N1) (fun p hp => (hne68 p hp).2) (fun p hp => (hne68 p hp).1) (hst.mono ?kS) (hst2.mono ?kT) (by omega) (by omega) (by omega) ?kR)
    case k1 => k_asm
    case k2 => k_asm
    case k3 => k_asm
    case k4 => first | exact rfl | assumption
    case k5 => ktr_room
    case k6 => ktr_units
    case k7 => ktr_room
    case k8 => ktr_units
    case kS => exact fun p hp => List.Mem.tail _ (List.Mem.tail _ (List.Mem.tail _ (List.Mem.tail _ (List.Mem.tail _ hp))))
    case kT => exact fun p hp => List.Mem.tail _ (List.Mem.tail _ (List.Mem.tail _ (List.Mem.tail _ (List.Mem.tail _ hp))))
    intro q t1 t2 ps' ps2' tl2 h6 tk6 F6 N6 lq lqn ltl2 hst' hst2'
    rw [show (num : Int) / (c : Int) = ((num / c : Nat) : Int) from rfl, show (num : Int) % (c : Int) = ((num % c : Nat) : Int) from rfl] at N6
    obtain ⟨N7, hTL⟩ : News g1 L1 h6 ((q, tup2 (.int ((num / c : Nat) : Int) t1) (.int ((num % c : Nat) : Int) t2)) :: (I, o) :: (68, tabObj ps') :: (61, tabObj ps2') :: (R, lstN rvs rn) :: (fi, lstN fvs fn) :: (L1 + 1 + 1, on) :: (L1 + 1, oe) :: (tl2 ++ tl)) ∧
        (∀ r ∈ tl2 ++ tl, 68 < r.1 ∧ L1 + 1 + 1 < r.1 ∧ r.1 ≠ R ∧ r.1 ≠ fi ∧ r.1 ≠ I ∧ r.1 < q) := by
      refine ⟨news_sub N6 ?_, ?_⟩
      · intro p hp
        simp only [List.mem_cons, List.mem_append] at hp ⊢
        rcases hp with h | h | h | h | h | h | h | h | h | h <;> simp [h]
      · intro r hr
        rcases List.mem_append.mp hr with hr | hr
        · obtain ⟨k1, k2, k3⟩ := ltl2 r hr
          exact ⟨k2, k3 _ (List.Mem.tail _ (List.Mem.tail _ (List.Mem.tail _ (List.Mem.head _)))), Nat.ne_of_gt (k3 _ (List.Mem.tail _ (List.Mem.head _))), Nat.ne_of_gt (k3 _ (List.Mem.tail _ (List.Mem.tail _ (List.Mem.head _)))), Nat.ne_of_gt (k3 _ (List.Mem.head _)), k1⟩
        · obtain ⟨k1, k2, k3, k4⟩ := htl r hr
          exact ⟨k1, k2, k3, k4, i7 r hr, lqn _ (List.Mem.tail _ (List.Mem.tail _ (List.Mem.tail _ (List.Mem.tail _ (List.Mem.tail _ hr)))))⟩
    have hdrop : ∀ p ∈ tl2 ++ ((I, o) :: (R, lstN rvs rn) :: (fi, lstN fvs fn) :: (L1 + 1 + 1, on) :: (L1 + 1, oe) :: tl), p ∈ tl2 ++ tl ∨ ∀ (vs : Array Value) (q : Str) (t : Tok), p.2.data = .fields vs → vs[1]? ≠ some (.str q t) := by
      intro p hp
      simp only [List.mem_append, List.mem_cons] at hp ⊢
      rcases hp with h | rfl | rfl | rfl | rfl | rfl | h
      · exact .inl (.inl h)
      · exact .inr hoS
      · exact .inr fun vs q t e => nomatch e
      · exact .inr fun vs q t e => nomatch e
      · exact .inr fun vs q t e => by rw [f1] at e; cases e
      · exact .inr fun vs q t e => by rw [f2] at e; cases e
      · exact .inl (.inr h)
    have hst'' : TabSt 71 4 q_d2i ps' (tl2 ++ tl) := hst'.drop2 hdrop
    have hst2'' : TabSt 56 4 q_i2d ps2' (tl2 ++ tl) := hst2'.drop2 hdrop
    have hsub : ∀ p ∈ tl, p ∈ tl2 ++ tl := fun p hp => List.mem_append_right _ hp
    clear F1 N1 N6 hst' hst2' ltl2 hdrop
    generalize tl2 ++ tl = TL at N7 hTL hst'' hst2'' hsub
    refine hide fun GG back => ?_
    obtain ⟨hk1, hk2, hk3⟩ := netOk num0 i (by omega)
    have hpl : num % c < 3 + 2 * i := by rw [hci]; exact Nat.mod_lt _ (by omega)
    obtain ⟨place, hplace⟩ : ∃ p, num % c = p := ⟨_, rfl⟩
    rw [hplace] at N7 hpl
    obtain ⟨num', hnum'⟩ : ∃ p, num / c = p := ⟨_, rfl⟩
    rw [hnum'] at N7
    obtain ⟨f, hf⟩ : ∃ f, (netAt num0 i).2.2[place]? = some f := ⟨_, List.getElem?_eq_getElem (by omega)⟩
    obtain ⟨x, hx, a, b, tn1, es, en, rfl, hma, hmb, hes⟩ := hFv.get place f hf
    refine back ?_
    clear back GG
    have hfv : fvs[((place : Nat) : Int).toNat]? = some (.ref a) := hx
    have hma' := hsub _ hma
    have hmb' := hsub _ hmb
    have hma2 : (a, tup2 (.str (S f.1) tn1) (.ref b)) ∈ (q, tup2 (.int ((num' : Nat) : Int) t1) (.int ((place : Nat) : Int) t2)) :: (I, o) :: (68, tabObj ps') :: (61, tabObj ps2') :: (R, lstN rvs rn) :: (fi, lstN fvs fn) :: (L1 + 1 + 1, on) :: (L1 + 1, oe) :: TL :=
      List.Mem.tail _ (List.Mem.tail _ (List.Mem.tail _ (List.Mem.tail _ (List.Mem.tail _ (List.Mem.tail _ (List.Mem.tail _ (List.Mem.tail _ hma')))))))
    have lq1 := ltN (lqn _ (List.Mem.tail _ (List.Mem.head _)))
    have lq2 := ltN (lqn _ (List.Mem.tail _ (List.Mem.tail _ (List.Mem.head _))))
    have lq3 := ltN (lqn _ (List.Mem.head _))
    (try dsimp only at lq1 lq2 lq3)
    have n1 : ∀ p ∈ TL, p.1 ≠ L1 + 1 + 1 := fun p hp => Nat.ne_of_gt (hTL p hp).2.1
    have n2 : ∀ p ∈ TL, p.1 ≠ L1 + 1 := fun p hp => Nat.ne_of_gt (Nat.lt_of_succ_lt (hTL p hp).2.1)
    have n3 : ∀ p ∈ TL, p.1 ≠ R := fun p hp => (hTL p hp).2.2.1
    have n4 : ∀ p ∈ TL, p.1 ≠ fi := fun p hp => (hTL p hp).2.2.2.1
    (try dsimp only)
    (try k_fold)
    k_steps
    refine ⟨?_⟩
    rename Fr _ _ _ _ => F1
    rename News _ _ _ _ => N1
    rename (_ ∧ _ ∧ _ ∧ _ ∧ _ ∧ _ ∧ _ ∧ _ ∧ AllLt _ _) => lD
    rename_i w1 w2 w3 w4 o2 d2 w5 o1 d1 D w6
    have lD1 := ltN lD.1
    have lDR := ltN lD.2.2.2.2.1
    have lDfi := ltN lD.2.2.2.2.2.1
    have lDc := ltN lD.2.2.2.2.2.2.1
    have lDI := ltN lD.2.1
    have lDT := allLt_mem lD.2.2.2.2.2.2.2.2
    (try dsimp only at lD1 lDR lDfi lDc lDI)
    have hneR : ∀ p ∈ (D, tup2 (.str (S f.1) tn1) (.ref b)) :: (I, o) :: (68, tabObj ps') :: (61, tabObj ps2') :: (fi, lstN fvs fn) :: (L1 + 1 + 1, o1) :: (L1 + 1, o2) :: TL, p.1 ≠ R := by
      intro p hp
      simp only [List.mem_cons] at hp
      rcases hp with rfl | rfl | rfl | rfl | rfl | rfl | rfl | hp
      · refine neN ?_; (try dsimp only); omega
      · refine neN ?_; (try dsimp only); omega
      · refine neN ?_; (try dsimp only); omega
      · refine neN ?_; (try dsimp only); omega
      · refine neN ?_; (try dsimp only); omega
      · refine neN ?_; (try dsimp only); omega
      · refine neN ?_; (try dsimp only); omega
      · exact n3 p hp
    have hrl := hRv.length
    k_dflt (refine' append_K F1 (news_ap N1) (Upd.head hneR) ?un ?uz)
    case uz => exact Nat.le_trans (show rvs.toArray.size ≤ 8 by simp only [List.size_toArray]; omega) (by decide)
    intro h7 F7 N7
    clear F1 N1
    have ep : rvs.toArray.push (.ref D) = (rvs ++ [Value.ref D]).toArray := by simp
    rw [ep] at N7
    (try dsimp only)
    (try k_fold)
    k_steps
    refine ⟨?_⟩
    rename Fr _ _ _ _ => F8
    rename News _ _ _ _ => N8
    rename IsRange _ _ _ _ _ _ _ _ => R8
    refine led_eq N8 fun NL hNL hin8 NL9 => ?_
    clear N8
    have mb : (b, lstN es en) ∈ NL := hin8 _ (List.Mem.tail _ (List.Mem.tail _ (List.Mem.tail _ (List.Mem.tail _ (List.Mem.tail _ (List.Mem.tail _ (List.Mem.tail _ (List.Mem.tail _ hmb'))))))))
    have mDD : (D, tup2 (.str (S f.1) tn1) (.ref b)) ∈ NL := hin8 _ (List.Mem.tail _ (List.Mem.head _))
    have mc1 : (L1 + 1 + 1, o1) ∈ NL := hin8 _ (by k_mem)
    have mc2 : (L1 + 1, o2) ∈ NL := hin8 _ (by k_mem)
    have hes3 : f.2.length = 3 := ((hk2 f (List.mem_of_getElem? hf)).2)
    refine hide fun GG back => ?_
    obtain ⟨nm, f2⟩ := f
    obtain ⟨e0, e1, e2, rfl⟩ : ∃ e0 e1 e2, f2 = [e0, e1, e2] := by
      match f2, hes3 with
      | [e0, e1, e2], _ => exact ⟨e0, e1, e2, rfl⟩
    have hnm : nm.length ≤ 4 + i := (hk2 _ (List.mem_of_getElem? hf)).1
    have hnS : (S nm).length ≤ 40 := by rw [S_len]; omega
    obtain ⟨u0, es1, rfl, hes1⟩ := hes.cons_inv
    obtain ⟨u1, es2, rfl, hes2⟩ := hes1.cons_inv
    obtain ⟨u2, es4, rfl, hes4⟩ := hes2.cons_inv
    have hes5 := hes4.nil_inv
    subst hes5
    refine back ?_
    clear back GG
    refine LCg.CompSrc.range (n := 3) (by rfl) F8 NL9 R8 (by decide) (by rfl) (by decide) ?_
    intro gg
    refine' compInv (n := 3) (fun i ys news1 => ∃ T3 : Led, news1 = T3 ++ NL ∧ RowsIn T3 ys ((List.range i).map (newRow (nm, [e0, e1, e2]))) ∧ ∀ r ∈ T3, D < r.1) ?turnc ?finc _ 0 [] NL (by rfl) ⟨[], rfl, .nil, fun r hr => nomatch hr⟩
    case turnc =>
      intro j v ys news1 I9 oI9 C9 oC9 D9 m9 h9 tk9 E9 hj hp15 hp16 hC hx F9 N9 off9 ne9
      refine hide fun GG back => ?_
      obtain ⟨tj, rfl⟩ := hp15
      obtain ⟨T3, rfl, hys, hT3⟩ := hp16
      refine back ?_
      clear back GG
      clear F8 NL9 lD hneR hma2 hk1 hk2 hk3 hFv hRv hst hst2 hst'' hst2''
      rw [Int.zero_add] at hx
      have mb9 : (b, lstN [.str (S e0) u0, .str (S e1) u1, .str (S e2) u2] en) ∈ T3 ++ NL := List.mem_append_right _ mb
      have mc19 : (L1 + 1 + 1, o1) ∈ T3 ++ NL := List.mem_append_right _ mc1
      have mc29 : (L1 + 1, o2) ∈ T3 ++ NL := List.mem_append_right _ mc2
      rcases (show j = 0 ∨ j = 1 ∨ j = 2 by omega) with rfl | rfl | rfl
      · have hxk : m9 (Str.ofString "k") = some (.int 0 tj) := hx
        clear hx
        k_steps
        rename Fr _ _ _ _ => F5
        rename News _ _ _ _ => N5
        rename_i A4 g4 x4 A5 g5 x5 A3 g3 x3 A2 g2 x2 A1 g6 x1 At g7 xt
        have hAD : D < At := allLt_mem xt.2.2.2.2.2.2.2.2 _ (List.mem_append_right _ mDD)
        have hA1D : D < A1 := allLt_mem x1.2.2.2.2.2.2.2 _ (List.mem_append_right _ mDD)
        refine compTurn F5 N5 off9 ⟨x1.2.2.2.2.1, x1.2.2.2.2.2.1, x1.2.2.2.2.2.2.1⟩ ⟨xt.2.2.2.2.2.1, xt.2.2.2.2.2.2.1, xt.2.2.2.2.2.2.2.1⟩ trivial ⟨(At, _) :: (A1, _) :: T3, rfl, ?_, ?_⟩
        · rw [List.range_succ, List.map_append]
          refine RowsIn.append (.cons (rowNew (nm := (newRow (nm, [e0, e1, e2]) 0).1) (es := (newRow (nm, [e0, e1, e2]) 0).2) ?_ ?_ NL) .nil) (hys.mono fun p hp => List.Mem.tail _ (List.Mem.tail _ hp))
          · exact S_append nm [114]
          · exact .cons _ _ (.cons _ _ (.cons _ _ .nil))
        · intro r hr
          rcases List.mem_cons.mp hr with rfl | hr
          · exact hAD
          rcases List.mem_cons.mp hr with rfl | hr
          · exact hA1D
          exact hT3 r hr
      · have hxk : m9 (Str.ofString "k") = some (.int 1 tj) := hx
        clear hx
        k_steps
        rename Fr _ _ _ _ => F5
        rename News _ _ _ _ => N5
        rename_i A4 g4 x4 A5 g5 x5 A3 g3 x3 A2 g2 x2 A1 g6 x1 At g7 xt
        have hAD : D < At := allLt_mem xt.2.2.2.2.2.2.2.2 _ (List.mem_append_right _ mDD)
        have hA1D : D < A1 := allLt_mem x1.2.2.2.2.2.2.2 _ (List.mem_append_right _ mDD)
        refine compTurn F5 N5 off9 ⟨x1.2.2.2.2.1, x1.2.2.2.2.2.1, x1.2.2.2.2.2.2.1⟩ ⟨xt.2.2.2.2.2.1, xt.2.2.2.2.2.2.1, xt.2.2.2.2.2.2.2.1⟩ trivial ⟨(At, _) :: (A1, _) :: T3, rfl, ?_, ?_⟩
        · rw [List.range_succ, List.map_append]
          refine RowsIn.append (.cons (rowNew (nm := (newRow (nm, [e0, e1, e2]) 1).1) (es := (newRow (nm, [e0, e1, e2]) 1).2) ?_ ?_ NL) .nil) (hys.mono fun p hp => List.Mem.tail _ (List.Mem.tail _ hp))
          · exact S_append nm [103]
          · exact .cons _ _ (.cons _ _ (.cons _ _ .nil))
        · intro r hr
          rcases List.mem_cons.mp hr with rfl | hr
          · exact hAD
          rcases List.mem_cons.mp hr with rfl | hr
          · exact hA1D
          exact hT3 r hr
      · have hxk : m9 (Str.ofString "k") = some (.int 2 tj) := hx
        clear hx
        k_steps
        rename Fr _ _ _ _ => F5
        rename News _ _ _ _ => N5
        rename_i A4 g4 x4 A5 g5 x5 A3 g3 x3 A2 g2 x2 A1 g6 x1 At g7 xt
        have hAD : D < At := allLt_mem xt.2.2.2.2.2.2.2.2 _ (List.mem_append_right _ mDD)
        have hA1D : D < A1 := allLt_mem x1.2.2.2.2.2.2.2 _ (List.mem_append_right _ mDD)
        refine compTurn F5 N5 off9 ⟨x1.2.2.2.2.1, x1.2.2.2.2.2.1, x1.2.2.2.2.2.2.1⟩ ⟨xt.2.2.2.2.2.1, xt.2.2.2.2.2.2.1, xt.2.2.2.2.2.2.2.1⟩ trivial ⟨(At, _) :: (A1, _) :: T3, rfl, ?_, ?_⟩
        · rw [List.range_succ, List.map_append]
          refine RowsIn.append (.cons (rowNew (nm := (newRow (nm, [e0, e1, e2]) 2).1) (es := (newRow (nm, [e0, e1, e2]) 2).2) ?_ ?_ NL) .nil) (hys.mono fun p hp => List.Mem.tail _ (List.Mem.tail _ hp))
          · exact S_append nm [98]
          · exact .cons _ _ (.cons _ _ (.cons _ _ .nil))
        · intro r hr
          rcases List.mem_cons.mp hr with rfl | hr
          · exact hAD
          rcases List.mem_cons.mp hr with rfl | hr
          · exact hA1D
          exact hT3 r hr
    case finc =>
      intro ys news1 hp17
      refine hide fun GG back => ?_
      obtain ⟨T3, rfl, hys, hT3⟩ := hp17
      refine back ?_
      clear back GG
      clear F8 NL9
      k_steps
      refine ⟨?_⟩
      rename Fr _ _ _ _ => F5
      rename News _ _ _ _ => N5
      rename_i DN w7 w8 oD1
      have hyl : ys.length = 3 := hys.length
      have hDN : ∀ p ∈ T3 ++ NL, p.1 ≠ DN := off1_mem oD1
      subst hNL
      have hfiD : fi ≠ DN := hDN (fi, lstN fvs fn) (List.mem_append_right _ (by k_mem))
      have hID : I ≠ DN := hDN (I, o) (List.mem_append_right _ (by k_mem))
      have hRD : R ≠ DN := hDN (R, lstN (rvs ++ [Value.ref D]) (rn + 1)) (List.mem_append_right _ (by k_mem))
      have hneF : ∀ p ∈ (DN, lstN ys ys.length) :: (R, lstN (rvs ++ [Value.ref D]) (rn + 1)) :: (I, o) :: (68, tabObj ps') :: (61, tabObj ps2') :: (L1 + 1 + 1, o1) :: (L1 + 1, o2) :: ((D, tup2 (.str (S nm) tn1) (.ref b)) :: (T3 ++ TL)), p.1 ≠ fi := by
        intro p hp
        simp only [List.mem_cons, List.mem_append] at hp
        rcases hp with rfl | rfl | rfl | rfl | rfl | rfl | rfl | rfl | hp | hp
        · exact Ne.symm hfiD
        · exact neN (by (try dsimp only); omega)
        · exact neN (by (try dsimp only); omega)
        · exact neN (by (try dsimp only); omega)
        · exact neN (by (try dsimp only); omega)
        · exact neN (by (try dsimp only); omega)
        · exact neN (by (try dsimp only); omega)
        · exact neN (by (try dsimp only); omega)
        · have := ltN (hT3 p hp)
          exact neN (by omega)
        · exact n4 p hp
      k_dflt (refine' setSliceK (fi := fi) (vs := fvs) (n := fn) (ws := ys) (D := DN) (k := ys.length) (rest := (DN, lstN ys ys.length) :: (R, lstN (rvs ++ [Value.ref D]) (rn + 1)) :: (I, o) :: (68, tabObj ps') :: (61, tabObj ps2') :: (L1 + 1 + 1, o1) :: (L1 + 1, o2) :: ((D, tup2 (.str (S nm) tn1) (.ref b)) :: (T3 ++ TL))) F5 (by exact news_fin N5) hneF (List.Mem.head _) (place := place) ?zp ?zz ?_)
      case zp => rw [hFv.length]; omega
      case zz => rw [hFv.length]; omega
      intro h8 n8 F8 N8
      clear F5 N5
      (try dsimp only)
      (try k_fold)
      k_steps
      rename Fr _ _ _ _ => F5
      rename News _ _ _ _ => N5
      have hc3 : [3, 5, 7].getD i 1 = c := by
        rcases (show i = 0 ∨ i = 1 ∨ i = 2 by omega) with rfl | rfl | rfl <;> exact hci.symm
      have eS : netAt num0 (i + 1) = (num', (netAt num0 i).2.1 ++ [(nm, [e0, e1, e2])], (netAt num0 i).2.2.take place ++ (List.range 3).map (newRow (nm, [e0, e1, e2])) ++ (netAt num0 i).2.2.drop (place + 1)) := by
        show netStep ([3, 5, 7].getD i 1) (netAt num0 i) = _
        rw [hc3]
        unfold netStep
        simp only [g1e, hplace, hnum', List.getD_eq_getElem?_getD, hf]
        rfl
      have hsub2 : ∀ p ∈ tl, p ∈ (D, tup2 (.str (S nm) tn1) (.ref b)) :: (T3 ++ TL) := fun p hp => List.Mem.tail _ (List.mem_append_right _ (hsub p hp))
      refine hTT1 _ _ ?_
      refine' TurnG.mk (news' := (68, tabObj ps') :: (61, tabObj ps2') :: (R, lstN (rvs ++ [Value.ref D]) (rn + 1)) :: (fi, lstN (fvs.take place ++ ys ++ fvs.drop (place + 1)) n8) :: (L1 + 1 + 1, o1) :: (L1 + 1, o2) :: ((D, tup2 (.str (S nm) tn1) (.ref b)) :: (T3 ++ TL))) F5 N5 ?tb ?tc ?td ?te ⟨num', t1, rvs ++ [Value.ref D], fvs.take place ++ ys ++ fvs.drop (place + 1), rn + 1, n8, ps', ps2', o1, o2, _, _, (D, tup2 (.str (S nm) tn1) (.ref b)) :: (T3 ++ TL), _, _, ?tm, rfl, d1, d2, ?t1, ?t2, ?t3, ?t4, ?t5, ?t6, ?t7, ?t8⟩
      case tb => exact List.Mem.tail _ (List.Mem.tail _ (List.Mem.tail _ (List.Mem.head _)))
      case tc =>
        intro p hp
        simp only [List.mem_cons, List.mem_append] at hp ⊢
        rcases hp with h | h | h | h | h | h | h | h | h <;> simp [h]
      case td =>
        intro p hp
        simp only [List.mem_cons, List.mem_append] at hp
        rcases hp with rfl | rfl | rfl | rfl | rfl | rfl | rfl | hp | hp
        · exact i1
        · exact i2
        · exact i3
        · exact i4
        · exact i5
        · exact i6
        · exact Nat.ne_of_gt lDI
        · have := ltN (hT3 p hp)
          refine neN ?_
          dsimp only
          omega
        · exact (hTL p hp).2.2.2.2.1
      case te =>
        intro p hp
        rw [List.mem_singleton.mp hp]
        exact List.Mem.tail _ (List.Mem.tail _ (List.Mem.tail _ (List.Mem.tail _ (List.Mem.tail _ (List.Mem.tail _ (hsub2 _ hl7m))))))
      case tm =>
        refine map3 fun y h1 h2 h3 => ?_
        simp [setO, h1, h2, h3]
      case t1 => rw [eS]
      case t2 =>
        have := Nat.div_le_self num c
        omega
      case t3 =>
        rw [eS]
        exact RowsIn.append (.cons ⟨D, b, tn1, _, en, rfl, List.Mem.head _, hsub2 _ hmb, hes⟩ .nil) (hRv.mono hsub2)
      case t4 =>
        rw [eS]
        exact RowsIn.append ((hFv.drop (place + 1)).mono hsub2) (RowsIn.append (hys.mono fun p hp => List.Mem.tail _ (List.mem_append_left _ hp)) ((hFv.take place).mono hsub2))
      case t5 => exact hst''.mono fun p hp => List.Mem.tail _ (List.mem_append_right _ hp)
      case t6 => exact hst2''.mono fun p hp => List.Mem.tail _ (List.mem_append_right _ hp)
      case t7 =>
        intro r hr
        simp only [List.mem_cons, List.mem_append] at hr
        rcases hr with rfl | hr | hr
        · refine ⟨ltN ?_, ltN ?_, neN ?_, neN ?_⟩ <;> (try dsimp only) <;> omega
        · have := ltN (hT3 r hr)
          refine ⟨ltN ?_, ltN ?_, neN ?_, neN ?_⟩ <;> omega
        · obtain ⟨k1, k2, k3, k4, _⟩ := hTL r hr
          exact ⟨k1, k2, k3, k4⟩
      case t8 => exact hsub2 _ hl7m
  case done =>
    intro m₁ news₁ h5 tk5 hp18 hl7 F5 N5
    refine hide fun GG back => ?_
    obtain ⟨num, tn, rvs, fvs, rn, fn, ps, ps2, on, oe, vn, ve, tl, o1, o2, rfl, rfl, f1, f2, g1e, g2, hRv, hFv, hst, hst2, htl, hl7m⟩ := hp18
    refine back ?_
    clear back GG
    clear F1 N2
    k_steps
    refine ⟨?_⟩
    rename Fr _ _ _ _ => F1
    rename News _ _ _ _ => N1
    refine led_eq N1 fun NL hNL hin NL9 => ?_
    clear N1
    change RowsIn tl fvs (netAt num0 3).2.2 at hFv
    change RowsIn tl rvs (netAt num0 3).2.1 at hRv
    obtain ⟨hk1, hk2, hk3⟩ := netOk num0 3 (by omega)
    have hfl := hFv.length
    have mF : (fi, lstN fvs fn) ∈ NL := hin _ (List.Mem.tail _ (List.Mem.tail _ (List.Mem.tail _ (List.Mem.head _))))
    have hin2 : ∀ p ∈ tl, p ∈ NL := fun p hp => hin _ (List.Mem.tail _ (List.Mem.tail _ (List.Mem.tail _ (List.Mem.tail _ (List.Mem.tail _ (List.Mem.tail _ hp))))))
    refine LCg.CompSrc.ledger (by rfl) F1 NL9 mF (Nat.le_trans (show fvs.toArray.size ≤ 40 by simp only [List.size_toArray]; omega) (by decide)) ?_
    intro gg
    refine' compInv (n := fvs.length) (fun i ys news1 => news1 = NL ∧ StrsAre ys (((netAt num0 3).2.2.take i).map fun f => S f.1)) ?turnc ?finc _ 0 [] NL (by simp) ⟨rfl, .nil⟩
    case turnc =>
      intro j v ys news1 I9 oI9 C9 oC9 D9 m9 h9 tk9 E9 hj hv hp19 hC hx F9 N9 off9 ne9
      refine hide fun GG back => ?_
      obtain ⟨rfl, hys⟩ := hp19
      refine back ?_
      clear back GG
      refine hide fun GG back => ?_
      obtain ⟨r, hr, a, b, t, vs, n, rfl, hm1, hm2, hS⟩ := hFv.at j v (by simpa using hv)
      refine back ?_
      clear back GG
      have hm1' := hin2 _ hm1
      clear F1 NL9 hm2 hS
      k_steps
      refine LCg.CompEnd.intro (by assumption) (by assumption) news1 (fun p hp => hp) off9 (Or.inr ⟨_, mF, rfl, fn, rfl⟩) ⟨rfl, ?_⟩
      have et : ((netAt num0 3).2.2.take (j + 1)) = (netAt num0 3).2.2.take j ++ [r] := by rw [List.take_add_one, hr]; rfl
      rw [et, List.map_append]
      exact StrsAre.append' hys (.cons _ _ .nil)
    case finc =>
      intro ys news1 hp20
      refine hide fun GG back => ?_
      obtain ⟨rfl, hys⟩ := hp20
      refine back ?_
      clear back GG
      rw [List.take_of_length_le (by omega)] at hys
      clear F1 NL9
      k_steps
      rename Fr h₀ _ _ _ => F9
      rename News h₀ _ _ _ => N9
      rename LCg.Off1 _ _ => hO
      rename (_ ∧ AllLt _ _) => lq
      have mT : (68, tabObj ps) ∈ news1 := hin _ (List.Mem.head _)
      have k1 := off1_mem hO _ mT
      have k2 := allLt_mem lq.2 _ mT
      refine' hret _ R _ rvs ys rn ys.length ps ps2 tl _ _ F9 (news_sub N9 ?hs) hRv hys hst hst2 (fun r hr => Nat.ne_of_gt (htl r hr).1) ?hR (Ne.symm k1) (Nat.ne_of_gt k2)
      case hR => refine neN ?_; omega
      case hs =>
        intro p hp
        simp only [List.mem_cons] at hp ⊢
        rcases hp with h | h | h | h | h | h
        · simp [h]
        · exact .inr (.inr (h ▸ hin _ (List.Mem.head _)))
        · exact .inr (.inr (h ▸ hin _ (List.Mem.tail _ (List.Mem.head _))))
        · exact .inr (.inr (h ▸ hin _ (List.Mem.tail _ (List.Mem.tail _ (List.Mem.head _)))))
        · simp [h]
        · exact .inr (.inr (hin2 _ h))
end Mine

end
noncomputable section
theorem Mine.flush_L12 {w : World} {A : Around} {v : Value} {Q E : Value → Shared → Prop} {s : Shared} (h : Q v s) : wpAny (model Mine.PR w) A (pure v) Q E s := by
  w_top off
  (try walk1)
  first | exact h | exact wpAny_pure h
open PySem PySem.W PyProof.Rows PySem.Calls PySem.Spec
namespace Mine
theorem fillL12 : (∀ P, hd.heap_39 P = hd.heap_39 P) ∧ PySem.Challenge.rw_tl0060_01 = PySem.Challenge.rw_tl0060_01 := by
  k_fill
  exact ⟨fun _ => rfl, rfl⟩
theorem news_d2 {h₀ h : Heap} {L : Addr} {a b c x : Addr × Obj} {R : Led} (N : News h₀ L h (a :: b :: c :: x :: R)) : News h₀ L h (x :: a :: b :: c :: R) := by
  refine news_sub N fun p hp => ?_
  simp only [List.mem_cons] at hp ⊢
  rcases hp with h | h | h | h | h <;> simp [h]
theorem news_d3 {h₀ h : Heap} {L : Addr} {a b c x : Addr × Obj} {R : Led} (N : News h₀ L h (a :: b :: c :: x :: R)) : News h₀ L h (x :: a :: b :: c :: R) := news_d2 N
theorem map5 {M M' : Str → Option Value} {a b c d e : Str} (h : ∀ y, y ≠ a → y ≠ b → y ≠ c → y ≠ d → y ≠ e → M' y = M y) : M' = setO (setO (setO (setO (setO M a (M' a)) b (M' b)) c (M' c)) d (M' d)) e (M' e) := by
  funext y
  by_cases h5 : y = e
  · subst h5; simp [setO]
  by_cases h4 : y = d
  · subst h4; simp [setO, h5]
  by_cases h3 : y = c
  · subst h3; simp [setO, h5, h4]
  by_cases h2 : y = b
  · subst h2; simp [setO, h5, h4, h3]
  by_cases h1 : y = a
  · subst h1; simp [setO, h5, h4, h3, h2]
  simp [setO, h5, h4, h3, h2, h1, h y h1 h2 h3 h4 h5]
theorem map3' {M M' : Str → Option Value} {a b c : Str} (h : ∀ y, y ≠ a → y ≠ b → y ≠ c → M' y = M y) : M' = setO (setO (setO M a (M' a)) b (M' b)) c (M' c) := by
  funext y
  by_cases h3 : y = c
  · subst h3; simp [setO]
  by_cases h2 : y = b
  · subst h2; simp [setO, h3]
  by_cases h1 : y = a
  · subst h1; simp [setO, h3, h2]
  simp [setO, h3, h2, h1, h y h1 h2 h3]
theorem gallE {w : World} {p : Program} {loose : List Str} {mean : ExcName → Option Value} {mg mb : Str → Option Value}
    {dp un : Nat} {gd : Option (List Code)} {cn : Str} {cs : Scope} {a9 : Addr} {ccd : Value} {cl : List (Str × Addr)} {outer : List Env} {A₀ : Around} {base h₀ : Heap} {L : Addr} {m : Str → Option Value} {news : Led} {s : Shared} {Q E : Value → Shared → Prop}
    (C : Cx w p loose mean mg mb dp un cs A₀ base outer h₀) (hd2 : dp + 40 < recursionLimit) (hu2 : un + 600 < cLine) (F : Fr h₀ L s.heap m) (I : Addr) (tk0 : Tok)
    (dx hl : Addr) (hvs : List Value) (n0 n1 : Nat) (N : News h₀ L s.heap news) (hT1 : (hl, lstN hvs n0) ∈ news) (hT2 : (dx, dictOf [tabEnt w tk0 hl] n1) ∈ news) (hT3 : (I, instObj 245 dx) ∈ news)
    (prs : List (List Nat × List Nat)) (nm : List Nat) (x : Str) (hx : x = S nm) (t1 : Tok) (hnm : ∀ c ∈ nm, isC c) (hnz : nm.length < 40) (hvz : hvs.length < 40) (hH : HdsIn news hvs prs) (hP : ∀ p ∈ prs, (∀ c ∈ p.1, isC c) ∧ p.1.length < 40)
    (hret : ∀ q vs k h' tk', Fr h₀ L h' m → News h₀ L h' ((q, lstN vs k) :: news) →
      StrsAre vs ((prs.filter fun p => p.1 == nm).map fun p => S p.2) → Q (.ref q) { s with heap := h', toks := tk' }) :
    wpAny (model PR w) (ktrTop dp un gd cn cs L a9 ccd cl outer) (call (.ref 184) [.ref I, .str x t1]) Q E s := by
  subst hx
  refine gall C hd2 hu2 F I tk0 dx hl hvs n0 n1 (news := news) (news_sub N ?_) prs nm t1 hnm hnz hvz hH hP fun q vs k h' tk' F' N' hv => hret q vs k h' tk' F' (news_sub N' ?_) hv
  · intro p hp
    simp only [List.mem_cons] at hp
    rcases hp with rfl | rfl | rfl | h
    · exact hT1
    · exact hT2
    · exact hT3
    · exact h
  · intro p hp
    rcases List.mem_cons.mp hp with rfl | hp
    · exact List.Mem.head _
    · exact List.Mem.tail _ (List.Mem.tail _ (List.Mem.tail _ (List.Mem.tail _ hp)))
theorem news_j1 {h₀ h : Heap} {L : Addr} {q I c a b e : Addr × Obj} {R : Led} (N : News h₀ L h (q :: I :: c :: a :: b :: e :: R)) : News h₀ L h (c :: q :: I :: a :: b :: e :: R) := by
  refine news_sub N fun p hp => ?_
  simp only [List.mem_cons] at hp ⊢
  rcases hp with h | h | h | h | h | h | h <;> simp [h]
theorem news_d2' {h₀ h : Heap} {L : Addr} {a b c : Addr × Obj} {R : Led} (N : News h₀ L h (a :: b :: c :: R)) : News h₀ L h (c :: a :: b :: R) := by
  refine news_sub N fun p hp => ?_
  simp only [List.mem_cons] at hp ⊢
  rcases hp with h | h | h | h <;> simp [h]
def mxI (a b : Int) : Int := if b > a then b else a
def pkAt (pp : List (List Nat × List Int)) (k : Nat) : Int := (pp.map fun x => dval 5 x.2).getD k 0
noncomputable def aboveAt (a b : Int) : Nat → Int
  | 0 => 16912
  | i + 1 => aboveAt a b i + mxI (Builtin.bitAnd a ([31, 992, 31744].getD i 0)) (Builtin.bitAnd b ([31, 992, 31744].getD i 0))
theorem strsOf : ∀ {vs : List Value} {kvs : List (Str × Value)}, vs.length = kvs.length → (∀ (j : Nat) (u : Value), vs[j]? = some u → ∃ k x, kvs[j]? = some (k, x) ∧ ∃ t, u = .str k t) → StrsAre vs (kvs.map (·.1))
  | [], [], _, _ => .nil
  | [], _ :: _, h, _ => by simp at h
  | _ :: _, [], h, _ => by simp at h
  | u :: vs, p :: kvs, h, hv => by
    obtain ⟨k, x, h1, t, rfl⟩ := hv 0 u rfl
    simp at h1
    subst h1
    exact .cons k t (strsOf (by simpa using h) fun j u hu => by simpa using hv (j + 1) u (by simpa using hu))
section
variable {prog : Program} {w : World} {A : Around} {E : Value → Shared → Prop} {s : Shared} {h₀ : Heap} {L d : Addr} {m : Str → Option Value} {news : Led} {o : Obj} {Q : Value → Shared → Prop}
theorem listKeys {kvs : List (Str × Value)} (hh : A.handled = none) (F : Fr h₀ L s.heap m) (N : News h₀ L s.heap news) (hp : (d, o) ∈ news) (hd : o.IsDictOf (PySem.strKind prog w) kvs) (lo : (d == sysModules) = false) (hn : kvs.length ≤ 16777216)
    (h : ∀ (B : Addr) c h' tk vs, Fr h₀ L h' m → News h₀ L h' ((B, lstN vs c) :: news) → (∀ q ∈ news, q.1 < B) → StrsAre vs (kvs.map (·.1)) → Q (.ref B) { s with heap := h', toks := tk }) :
    wpAny (model prog w) A (call (.type "list") [.ref d]) Q E s := by
  obtain ⟨ep, hat⟩ := (kda_dict N hp hd).dictAt
  refine kdl_N (kdl_dict (knd := PySem.strKind prog w) (kvs := kvs) (ep := ep) lo) hh F N hat (kdl_size hn) fun B c h' tk vs F' N' l1 hl hv => ?_
  exact h B c h' tk vs F' N' l1 (strsOf hl fun j u hu => by
    obtain ⟨k, x, hx, hk⟩ := hv j u hu
    exact ⟨k, x, hx, Value.isStrOf_shape hk⟩)
end
local macro_rules | `(tactic| k_room) => `(tactic| ktr_room)
local macro_rules | `(tactic| k_mem) => `(tactic| assumption)
local macro_rules | `(tactic| k_all) => `(tactic| first | assumption | (tbn_letter; first | (refine neAll1 ?_; tbn_find) | (refine neAll2 ?_; tbn_find) | (refine neAll3 ?_; tbn_find)))
local macro_rules | `(tactic| walk_at "exec For") => `(tactic| (k_here; refine Halt.in ?_))
local macro_rules | `(tactic| walk_at "call ref") => `(tactic| (k_here; refine Halt.in ?_))
local macro_rules | `(tactic| walk_at "exec Assign cons ListComp") => `(tactic| (k_here; (with_reducible show wpAny _ _ (exec (Stmt.Assign [Expr.Name (Str.ofString "packed") _] _ _) _) _ _ _); k_dflt (refine LCg.Assign_ListComp_U (F₀ := by k_asm) (by rfl) (by with_unfolding_all rfl) (by with_unfolding_all rfl) (by decide) (by rfl) (by decide) (by rfl) (by rfl) (by rfl) ?_); k_dflt lcg_toSrc))
local macro_rules | `(tactic| walk_at "exec Assign cons ListComp") => `(tactic| (k_here; (with_reducible show wpAny _ _ (exec (Stmt.Assign [Expr.Name (Str.ofString "under") _] _ _) _) _ _ _); k_dflt (refine LCt.Assign_ListComp_T (F₀ := by k_asm) (by rfl) (by with_unfolding_all rfl) (by with_unfolding_all rfl) (by decide) (by rfl) (by decide) (by rfl) (by rfl) (by rfl) ?_); k_dflt lct_toSrc))
local macro_rules | `(tactic| walk_at "CompSrc") => `(tactic| (k_here; refine Halt.in ?_))
local macro_rules | `(tactic| walk_at "CompSrcT") => `(tactic| (k_here; refine Halt.in ?_))
local macro_rules | `(tactic| walk_at "subscriptTail") => `(tactic| (k_here; (with_reducible show wpAny _ _ (subscriptTail _ _ (Value.ref _) (Value.str _ _)) _ _ _); k_dflt (refine' kda_item (K := Str) ?k1 ?k2 ?k3 ?k4 ?k5 ?_; (case k1 => k_asm); (case k2 => k_mem); (case k3 => assumption); (case k4 => exact strKind_is _ _ _ _); (case k5 => assumption); k_whole)))
local macro_rules | `(tactic| walk_at "subscriptTail Name Name ref int") => `(tactic| (k_here; k_dflt (refine' itemInt ?k1 ?k2 ?k3 ?k4 ?k5 ?k6 ?_; (case k1 => k_asm); (case k2 => k_mem); (case k3 => assumption); (case k4 => omega); (case k5 => (simp only [List.length_map]; omega)); (case k6 => (simp only [List.length_map]; omega)); k_whole); intro _))
local macro_rules | `(tactic| walk_at "subscriptTail Name Name ref int") => `(tactic| (k_here; k_dflt (refine' itemStr ?k1 ?k2 ?k3 ?k4 ?k5 ?k6 ?_; (case k1 => k_asm); (case k2 => k_mem); (case k3 => assumption); (case k4 => omega); (case k5 => (simp only [List.length_map]; omega)); (case k6 => (simp only [List.length_map]; omega)); k_whole); intro _))
local macro_rules | `(tactic| cell_enter) => `(tactic| (refine' code_defC ?k1 ?k2 ?k3 ?k4 ?k5 ?kA ?kF ?kK ?k6 ?k7 ?k8 ?k9 ?kB ?kD ?_ ?c2 ?c3 ?c4; (case kA => exact rfl); (case kF => exact rfl); (case kK => assumption); (case k1 => k_asm); (case k2 => k_asm); (case k3 => k_asm); (case k4 => k_asm); (case k5 => k_asm); (case k6 => k_is); (case k7 => k_is); (case k8 => ktr_room); (case k9 => exact BindsTo.of_eq rfl); (case kB => exact rfl); (case kD => decide +kernel); (case c2 => exact rfl); (case c3 => exact rfl); (case c4 => exact rfl); k_whole; intro g' L' h' tk' cells' FG' F' N' Y' B' X' T' l1; (try k_lt l1); k_cells Y'; (try simp only [List.cons_append, List.nil_append] at N'); (try dsimp only); (try k_lift B'); (try k_fold)))
local macro_rules | `(tactic| walk_at "pyIter ref") => `(tactic| (k_here; (with_reducible show wpAny _ _ (pyIter _) (fun it s₂ => LoopAtV _ _ _ _ _ (Str.ofString "k") _ _ _ it s₂) _ _); refine Halt.in ?_))
local macro_rules | `(tactic| walk_at "pyIter ref") => `(tactic| (k_here; (with_reducible show wpAny _ _ (pyIter _) (fun it s₂ => LoopAtV _ _ _ _ _ (Str.ofString "j") _ _ _ it s₂) _ _); refine Halt.in ?_))
local macro_rules | `(tactic| walk_at "pyIter ref") => `(tactic| (k_here; (with_reducible show wpAny _ _ (pyIter _) (fun it s₂ => LoopAtV _ _ _ _ _ (Str.ofString "mask") _ _ _ it s₂) _ _); refine Halt.in ?_))
local macro_rules | `(tactic| walk_at "call builtin:len") => `(tactic| (k_here; (with_reducible show wpAny _ _ (call (Value.builtin "len") [Value.ref _]) _ _ _); k_dflt (refine' lenL ?k1 ?k2 ?k3 ?_; (case k1 => k_asm); (case k2 => k_mem); (case k3 => (first | assumption | omega)); k_whole); intro _))
local macro_rules | `(tactic| walk_at "compareOp In str ref") => `(tactic| (k_here; k_dflt (refine' in_list_strs (News.isList (by k_asm) ?k2) ?k3 ?_; (case k2 => k_mem); (case k3 => assumption))))
local macro_rules | `(tactic| walk_at "call type:list") => `(tactic| (k_here; refine Halt.in ?_))
/-- What a loop holds to. -/
inductive JoinJ (w : World) (L1 : Nat) (hl : Addr) (dx : Addr) (I : Addr) (tk0 : Tok) (n0 : Nat) (n1 : Nat) (hvs : List Value) (RS : Led) (mm : Str → Option Value) (i : Nat) (m₁ : Str → Option Value) (news₁ : Led) : Prop
  | mk (oa : Obj) (va p1 p2 p3 p4 p5 : Option Value) (h0 : m₁ = setO (setO (setO (setO (setO mm (Str.ofString "k") p1) (Str.ofString "mates") p2) (Str.ofString "j") p3) (Str.ofString "mask") p4) (Str.ofString "under") p5) (h1 : news₁ = (L1 + 1 + 1, oa) :: (hl, lstN hvs n0) :: (dx, dictOf [tabEnt w tk0 hl] n1) :: (I, instObj 245 dx) :: RS) (h2 : oa.data = .cell va) : JoinJ w L1 hl dx I tk0 n0 n1 hvs RS mm i m₁ news₁
/-- What a loop holds to. -/
inductive JoinK (L1 : Nat) (RS2 : Led) (mm : Str → Option Value) (j : Nat) (m₁ : Str → Option Value) (news₁ : Led) : Prop
  | mk (oa : Obj) (va p3 p4 p5 : Option Value) (h0 : m₁ = setO (setO (setO mm (Str.ofString "j") p3) (Str.ofString "mask") p4) (Str.ofString "under") p5) (h1 : news₁ = (L1 + 1 + 1, oa) :: RS2) (h2 : oa.data = .cell va) : JoinK L1 RS2 mm j m₁ news₁
theorem joined {w : World} {p : Program} {loose : List Str} {mean : ExcName → Option Value} {mg mb : Str → Option Value}
    {dp un : Nat} {gd : Option (List Code)} {cn : Str} {cs : Scope} {a9 : Addr} {ccd : Value} {cl : List (Str × Addr)} {outer : List Env} {A₀ : Around} {base h₀ : Heap} {L : Addr} {m : Str → Option Value} {news : Led} {s : Shared} {Q E : Value → Shared → Prop}
    (C : Cx w p loose mean mg mb dp un cs A₀ base outer h₀) (hd2 : dp + 50 < recursionLimit) (hu2 : un + 700 < cLine) (F : Fr h₀ L s.heap m) (d I : Addr) (oD : Obj) (kvs : List (Str × Value)) (ps : Array Value)
    (N : News h₀ L s.heap ((68, tabObj ps) :: news)) (hA : ∀ p ∈ news, p.1 ≠ 68) (hst : TabSt 71 4 q_d2i ps news) (hDm : (d, oD) ∈ news) (hDd : oD.IsDictOf (PySem.strKind PR w) kvs) (hDs : (d == sysModules) = false)
    (pp : List (List Nat × List Int)) (hP : PartsIn news kvs pp) (hpl : pp.length = 7) (hpd : ∀ x ∈ pp, x.2.length = 3 ∧ ∀ y ∈ x.2, 0 ≤ y ∧ y < 32) (hpn : ∀ x ∈ pp, pp.lookup x.1 = some x.2)
    (tk0 : Tok) (dx hl : Addr) (hvs : List Value) (n0 n1 : Nat) (hT1 : (hl, lstN hvs n0) ∈ news) (hT2 : (dx, dictOf [tabEnt w tk0 hl] n1) ∈ news) (hT3 : (I, instObj 245 dx) ∈ news)
    (prs : List (List Nat × List Nat)) (hvz : hvs.length < 40) (hH : HdsIn news hvs prs) (hPr : ∀ p ∈ prs, (∀ c ∈ p.1, isC c) ∧ p.1.length < 40) (hPn : ∀ p ∈ pp, (∀ c ∈ p.1, isC c) ∧ p.1.length < 40)
    (hJ : ∀ k j x y, pp[k]? = some x → pp[j]? = some y → 3 ≤ k → j < k → ((((pp.map fun x => dval 5 x.2).filter fun one => Builtin.bitAnd (aboveAt (pkAt pp k) (pkAt pp j) 3 - one) 16912 == 16912).length == 2) = prs.any fun p => p.1 == x.1 && p.2 == y.1))
    (hret : ∀ psx h' tk', Fr h₀ L h' m → News h₀ L h' ((68, tabObj psx) :: news) → Q (.bool true) { s with heap := h', toks := tk' }) :
    wpAny (model PR w) (ktrTop dp un gd cn cs L a9 ccd cl outer) (call (.ref 271) [.ref d, .ref I]) Q E s := by
  obtain ⟨B, X, T, C1, C2, hk, hdp, hun⟩ := C
  have hdp1 : dp + 1 < recursionLimit := by omega
  have hun1 : un + 8 < cLine := by omega
  have hkl : kvs.length ≤ 100 := by rw [hP.length]; omega
  refine wpAny_call ?_
  k_dflt cell_enter
  k_steps
  refine ⟨?_⟩
  rename Fr _ _ _ _ => F1
  rename News _ _ _ _ => N1
  rename_i g1 L1 z1 z2 FG B1 X1 T1 lL o1 o2 d1 d2
  k_dflt (refine' listKeys (by first | exact rfl | assumption) F1 N1 (List.Mem.tail _ (List.Mem.tail _ (List.Mem.tail _ hDm))) hDd hDs (by omega) ?_)
  intro B5 c5 h5 tk5 nvs F5 N5 lB hnv
  clear F1 N1
  rw [hP.keys] at hnv
  have e2 : o2.data = .cell (some (.ref d)) := d2
  have e1 : o1.data = .cell none := d1
  clear d1 d2
  have lB1 := ltN (lB _ (List.Mem.tail _ (List.Mem.tail _ (List.Mem.head _))))
  have lB2 := ltN (lB _ (List.Mem.head _))
  have lB3 : ∀ q ∈ news, q.1 < B5 := fun q hq => lB q (List.Mem.tail _ (List.Mem.tail _ (List.Mem.tail _ hq)))
  have l1 := ltN lL.1
  have l2 := allLt_mem lL.2
  (try dsimp only at lB1 lB2 l1)
  (try dsimp only)
  (try k_fold)
  k_steps
  refine ⟨?_⟩
  rename Fr _ _ _ _ => F1
  rename News _ _ _ _ => N1
  have N2 := news_d2 N1
  clear N1
  obtain ⟨REST, hREST⟩ : ∃ r, (B5, lstN nvs c5) :: (L1 + 1 + 1, o1) :: (L1 + 1, o2) :: news = r := ⟨_, rfl⟩
  have hR68 : ∀ p ∈ REST, p.1 ≠ 68 := by
    rw [← hREST]
    intro p hp
    simp only [List.mem_cons] at hp
    rcases hp with rfl | rfl | rfl | hp
    · refine neN ?_; (try dsimp only); omega
    · refine neN ?_; (try dsimp only); omega
    · refine neN ?_; (try dsimp only); omega
    · exact hA p hp
  have mB5 : (B5, lstN nvs c5) ∈ REST := by rw [← hREST]; exact List.Mem.head _
  have mC1 : (L1 + 1, o2) ∈ REST := by rw [← hREST]; exact List.Mem.tail _ (List.Mem.tail _ (List.Mem.head _))
  have mN : ∀ p ∈ news, p ∈ REST := by rw [← hREST]; exact fun p hp => List.Mem.tail _ (List.Mem.tail _ (List.Mem.tail _ hp))
  rw [hREST] at N2
  have hnl := hnv.length
  rw [List.length_map] at hnl
  refine LCg.CompSrc.ledger (by rfl) F1 N2 (List.Mem.tail _ mB5) (Nat.le_trans (show nvs.toArray.size ≤ 40 by simp only [List.size_toArray]; omega) (by decide)) ?_
  intro gg
  refine' compInv (n := nvs.length) (fun i ys news1 => ∃ (psx : Array Value) (tl : Led), news1 = (68, tabObj psx) :: (tl ++ REST) ∧ IntsAre ys ((pp.take i).map fun x => dval 5 x.2) ∧ TabSt 71 4 q_d2i psx (tl ++ news) ∧ ∀ r ∈ tl, 68 < r.1) ?turnc ?finc _ 0 [] ((68, tabObj ps) :: ([] ++ REST)) (by simp) ⟨ps, [], rfl, .nil, hst, fun r hr => nomatch hr⟩
  case turnc =>
    intro j v ys news1 I9 oI9 C9 oC9 D9 m9 h9 tk9 E9 hj hv hp21 hC hx F9 N9 off9 ne9
    refine hide fun GG back => ?_
    obtain ⟨psx, tl, rfl, hys, hst9, htl⟩ := hp21
    refine back ?_
    clear back GG
    clear F1 N2
    refine hide fun GG back => ?_
    obtain ⟨y, t, rfl, hy⟩ := hnv.item j v (by simpa using hv)
    rw [List.getElem?_map] at hy
    obtain ⟨x, hxp, rfl⟩ := Option.map_eq_some_iff.mp hy
    have hxm := List.mem_of_getElem? hxp
    obtain ⟨l, vs, n, hva, hlm, hvs⟩ := hP.value x.1 x.2 (hpn x hxm)
    obtain ⟨hx3, hxb⟩ := hpd x hxm
    refine back ?_
    clear back GG
    have mC19 : (L1 + 1, o2) ∈ tl ++ REST := List.mem_append_right _ mC1
    have mD9 : (d, oD) ∈ tl ++ REST := List.mem_append_right _ (mN _ hDm)
    k_steps
    refine ⟨?_⟩
    rename Fr _ _ _ _ => F2
    rename News _ _ _ _ => N2
    k_dflt (refine' d2iS (Cx.mk ?k1 ?k2 ?k3 C1 C2 ?k4 ?k5 ?k6) F2 l vs x.2 n 5 _ psx (news_d3 N2) ?kA (news0 := tl ++ news) ?kh hst9 ?kl hvs ?kz (by decide) hxb ?kR)
    case k1 => k_asm
    case k2 => k_asm
    case k3 => k_asm
    case k4 => first | exact rfl | assumption
    case k5 => ktr_room
    case k6 => ktr_units
    case kA =>
      intro p hp
      simp only [List.mem_cons, List.mem_append] at hp
      have hoff := off9.mem _ (List.Mem.head _)
      rcases hp with rfl | rfl | rfl | hp | hp
      · exact Ne.symm hoff.1
      · exact Ne.symm hoff.2.1
      · exact Ne.symm hoff.2.2
      · exact Nat.ne_of_gt (htl p hp)
      · exact hR68 p hp
    case kh =>
      intro q hq
      rcases List.mem_append.mp hq with hq | hq
      · exact List.Mem.tail _ (List.Mem.tail _ (List.Mem.tail _ (List.mem_append_left _ hq)))
      · exact List.Mem.tail _ (List.Mem.tail _ (List.Mem.tail _ (List.mem_append_right _ (mN _ hq))))
    case kl => exact List.Mem.tail _ (List.Mem.tail _ (List.Mem.tail _ (List.mem_append_right _ (mN _ hlm))))
    case kz => rw [hvs.length]; omega
    intro t2 ps' tl2 h7 tk7 F7 N7 ltl2 hst7
    clear F2 N2
    (try dsimp only)
    (try k_fold)
    k_steps
    refine LCg.CompEnd.intro F7 N7 ((68, tabObj ps') :: ((tl2 ++ tl) ++ REST)) ?sub ?off ?S ⟨ps', tl2 ++ tl, rfl, ?ys, ?st, ?tl⟩
    case sub =>
      intro p hp
      simp only [List.mem_cons, List.mem_append] at hp ⊢
      rcases hp with h | h | h | h | (h | h) | h <;> simp [h]
    case off =>
      refine LCg.Off3.of fun p hp => ?_
      rcases List.mem_cons.mp hp with rfl | hp
      · have hh := off9.mem (68, tabObj psx) (List.Mem.head _)
        exact hh
      simp only [List.mem_append] at hp
      rcases hp with (hp | hp) | hp
      · exact ⟨Nat.ne_of_gt (ltl2 p hp _ (List.Mem.tail _ (List.Mem.head _))), Nat.ne_of_gt (ltl2 p hp _ (List.Mem.tail _ (List.Mem.tail _ (List.Mem.head _)))), Nat.ne_of_gt (ltl2 p hp _ (List.Mem.tail _ (List.Mem.tail _ (List.Mem.tail _ (List.Mem.head _)))))⟩
      · exact off9.mem _ (List.Mem.tail _ (List.mem_append_left _ hp))
      · exact off9.mem _ (List.Mem.tail _ (List.mem_append_right _ hp))
    case S => exact Or.inr ⟨_, List.Mem.tail _ (List.mem_append_right _ mB5), rfl, c5, rfl⟩
    case ys =>
      have et : pp.take (j + 1) = pp.take j ++ [x] := by rw [List.take_add_one, hxp]; rfl
      rw [et, List.map_append]
      exact hys.append (.cons _ _ .nil)
    case st => rw [List.append_assoc]; exact hst7
    case tl =>
      intro r hr
      rcases List.mem_append.mp hr with hr | hr
      · exact ltl2 r hr _ (List.Mem.head _)
      · exact htl r hr
  case finc =>
    intro ys news1 hp22
    refine hide fun GG back => ?_
    obtain ⟨psx, tl, rfl, hys, hst9, htl⟩ := hp22
    refine back ?_
    clear back GG
    rw [List.take_of_length_le (by omega)] at hys
    clear F1 N2
    k_steps
    refine ⟨?_⟩
    rename Fr _ _ _ _ => F1
    rename News _ _ _ _ => N1
    rename IsRange _ _ _ _ _ _ _ _ => R1
    rename (68 ≠ _ ∧ LCg.Off1 _ _) => hoD
    rename_i DN y1 y2 FO NO y3 y8 y4 y5 y6 y7
    clear FO NO
    have hDNc : @Ne Nat DN (L1 + 1 + 1) := by
      have := off1_mem hoD.2 (L1 + 1 + 1, o1) (List.mem_append_right _ (by rw [← hREST]; exact List.Mem.tail _ (List.Mem.head _)))
      exact Ne.symm this
    obtain ⟨RS, hRS⟩ : ∃ r, (DN, lstN ys ys.length) :: (B5, lstN nvs c5) :: (68, tabObj psx) :: news = r := ⟨_, rfl⟩
    have mRN : ∀ p ∈ news, p ∈ RS := by rw [← hRS]; exact fun p hp => List.Mem.tail _ (List.Mem.tail _ (List.Mem.tail _ hp))
    have mDN : (DN, lstN ys ys.length) ∈ RS := by rw [← hRS]; exact List.Mem.head _
    have mBN : (B5, lstN nvs c5) ∈ RS := by rw [← hRS]; exact List.Mem.tail _ (List.Mem.head _)
    have hRSc : ∀ p ∈ RS, p.1 ≠ L1 + 1 + 1 := by
      rw [← hRS]
      intro p hp
      simp only [List.mem_cons] at hp
      rcases hp with rfl | rfl | rfl | hp
      · exact hDNc
      · refine neN ?_; (try dsimp only); omega
      · refine neN ?_; (try dsimp only); omega
      · have := ltN (l2 p hp)
        refine neN ?_; omega
    have N3 : News g1 L1 _ ((L1 + 1 + 1, o1) :: (hl, lstN hvs n0) :: (dx, dictOf [tabEnt w tk0 hl] n1) :: (I, instObj 245 dx) :: RS) := news_sub N1 (by
      intro p hp
      rw [← hRS] at hp
      simp only [List.mem_cons] at hp
      rcases hp with rfl | rfl | rfl | rfl | rfl | rfl | rfl | hp
      · exact List.Mem.tail _ (List.Mem.tail _ (List.mem_append_right _ (by rw [← hREST]; exact List.Mem.tail _ (List.Mem.head _))))
      · exact List.Mem.tail _ (List.Mem.tail _ (List.mem_append_right _ (mN _ hT1)))
      · exact List.Mem.tail _ (List.Mem.tail _ (List.mem_append_right _ (mN _ hT2)))
      · exact List.Mem.tail _ (List.Mem.tail _ (List.mem_append_right _ (mN _ hT3)))
      · exact List.Mem.head _
      · exact List.Mem.tail _ (List.Mem.tail _ (List.mem_append_right _ mB5))
      · exact List.Mem.tail _ (List.Mem.head _)
      · exact List.Mem.tail _ (List.Mem.tail _ (List.mem_append_right _ (mN _ hp))))
    have hcT1 := ltN (l2 _ hT1)
    have hcT2 := ltN (l2 _ hT2)
    have hcT3 := ltN (l2 _ hT3)
    (try dsimp only at hcT1 hcT2 hcT3)
    clear N1 hst9 htl
    refine' iterRangeG (n := 4) (m := ?mm) (fun i m₁ news₁ => JoinJ w L1 hl dx I tk0 n0 n1 hvs RS ?mm i m₁ news₁) ?h1 R1 ?h3 ?h4 F1 N3 ?h2 ?turn ?done
    case h1 => rfl
    case h3 => decide
    case h4 => rfl
    case h2 => exact ⟨o1, _, _, _, _, _, _, map5 (fun _ _ _ _ _ _ => rfl), rfl, e1⟩
    case turn =>
      intro i t m₁ news₁ h6 tk6 I6 o6 hi hp23 hnI F6 N6
      refine hide fun GG back => ?_
      obtain ⟨oa, va, p1, p2, p3, p4, p5, rfl, rfl, f1⟩ := hp23
      refine back ?_
      clear back GG
      refine hidePost fun TT1 hTT1 => ?_
      clear F1 N3
      k_steps
      refine ⟨?_⟩
      rename Fr _ _ _ _ => F1
      rename News _ _ _ _ => N1
      obtain ⟨x, hx⟩ : ∃ x, pp[3 + i]? = some x := ⟨_, List.getElem?_eq_getElem (by omega)⟩
      have hxm := List.mem_of_getElem? hx
      have eN : (List.map (fun p : List Nat × List Int => S p.1) pp).getD (3 + (i : Int)).toNat Str.empty = S x.1 := by
        rw [show (3 + (i : Int)).toNat = 3 + i by omega, List.getD_eq_getElem?_getD, List.getElem?_map, hx]; rfl
      k_dflt (refine' gallE (Cx.mk ?k1g ?k2g ?k3g C1 C2 ?k4g ?k5g ?k6g) ?k7g ?k8g F1 I tk0 dx hl hvs n0 n1 N1 ?m1g ?m2g ?m3g prs x.1 _ eN _ (hPn x hxm).1 (hPn x hxm).2 hvz ?kHg hPr ?kRg)
      case k1g => k_asm
      case k2g => k_asm
      case k3g => k_asm
      case k4g => first | exact rfl | assumption
      case k5g => ktr_room
      case k6g => ktr_units
      case k7g => ktr_room
      case k8g => ktr_units
      case m1g => exact List.Mem.tail _ (List.Mem.tail _ (List.Mem.head _))
      case m2g => exact List.Mem.tail _ (List.Mem.tail _ (List.Mem.tail _ (List.Mem.head _)))
      case m3g => exact List.Mem.tail _ (List.Mem.tail _ (List.Mem.tail _ (List.Mem.tail _ (List.Mem.head _))))
      case kHg => exact hH.mono fun p hp => List.Mem.tail _ (List.Mem.tail _ (List.Mem.tail _ (List.Mem.tail _ (List.Mem.tail _ (mRN p hp)))))
      intro q mvs kk h7 tk7 F7 N7 hmv
      clear F1 N1
      have hqc : q ≠ L1 + 1 + 1 := by
        intro e
        have a1 := (N7 _ (List.Mem.head _)).1
        have a2 := (N7 _ (List.Mem.tail _ (List.Mem.tail _ (List.Mem.head _)))).1
        dsimp only at a1 a2
        rw [e] at a1
        rw [a1] at a2
        injection a2 with a2
        rw [← a2] at f1
        cases f1
      have hI6c := neN (hnI _ (List.Mem.head _))
      have N8 := news_j1 N7
      clear N7
      obtain ⟨RS2, hRS2⟩ : ∃ r, (q, lstN mvs kk) :: (I6, o6) :: (hl, lstN hvs n0) :: (dx, dictOf [tabEnt w tk0 hl] n1) :: (I, instObj 245 dx) :: RS = r := ⟨_, rfl⟩
      have hRS2c : ∀ p ∈ RS2, p.1 ≠ L1 + 1 + 1 := by
        rw [← hRS2]
        intro p hp
        simp only [List.mem_cons] at hp
        rcases hp with rfl | rfl | rfl | rfl | rfl | hp
        · exact hqc
        · exact Ne.symm hI6c
        · refine neN ?_; (try dsimp only); omega
        · refine neN ?_; (try dsimp only); omega
        · refine neN ?_; (try dsimp only); omega
        · exact hRSc p hp
      have mq : (q, lstN mvs kk) ∈ RS2 := by rw [← hRS2]; exact List.Mem.head _
      have mRS : ∀ p ∈ RS, p ∈ RS2 := by rw [← hRS2]; exact fun p hp => List.Mem.tail _ (List.Mem.tail _ (List.Mem.tail _ (List.Mem.tail _ (List.Mem.tail _ hp))))
      have mDN2 := mRS _ mDN
      have mBN2 := mRS _ mBN
      rw [hRS2] at N8
      (try dsimp only)
      (try k_fold)
      k_steps
      refine ⟨?_⟩
      rename Fr _ _ _ _ => F1
      rename News _ _ _ _ => N1
      rename IsRange _ _ _ _ _ _ _ _ => R2
      refine' iterRangeG (n := 3 + i) (m := ?mm2) (fun j m₁ news₁ => JoinK L1 RS2 ?mm2 j m₁ news₁) ?h1u R2 ?h3u ?h4u F1 N1 ?h2u ?turnu ?doneu
      case h1u => rfl
      case h3u => rcases (show i = 0 ∨ i = 1 ∨ i = 2 ∨ i = 3 by omega) with rfl | rfl | rfl | rfl <;> decide
      case h4u => rcases (show i = 0 ∨ i = 1 ∨ i = 2 ∨ i = 3 by omega) with rfl | rfl | rfl | rfl <;> rfl
      case h2u => exact ⟨oa, va, _, _, _, map3' (fun _ _ _ _ => rfl), rfl, f1⟩
      case turnu =>
        intro j tj m₁ news₁ h8 tk8 I8 o8 hj hp24 hnI8 F8 N8
        refine hide fun GG back => ?_
        obtain ⟨oa, va, p3, p4, p5, rfl, rfl, f1⟩ := hp24
        refine back ?_
        clear back GG
        refine hidePost fun TT2 hTT2 => ?_
        clear F1 N1
        have hI8c := neN (hnI8 _ (List.Mem.head _))
        rw [Int.zero_add] at F8
        k_steps
        refine ⟨?_⟩
        rename Fr _ _ _ _ => F1
        rename News _ _ _ _ => N1
        rename (_ ∧ _ ∧ AllLt _ _) => lm
        rename_i w1 ob dob lM w2
        have lm1 := ltN lm.2.1
        (try dsimp only at lm1)
        have N9 := news_d2' N1
        obtain ⟨RS3, hRS3⟩ : ∃ r, (lM, lstN [.int 31 (tk8 + 1), .int 992 (tk8 + 1 + 1), .int 31744 (tk8 + 1 + 1 + 1)] 0) :: (I8, o8) :: RS2 = r := ⟨_, rfl⟩
        have hRS3c : ∀ p ∈ RS3, p.1 ≠ L1 + 1 + 1 := by
          rw [← hRS3]
          intro p hp
          simp only [List.mem_cons] at hp
          rcases hp with rfl | rfl | hp
          · refine neN ?_; (try dsimp only); omega
          · exact Ne.symm hI8c
          · exact hRS2c p hp
        have mLM : (lM, lstN [.int 31 (tk8 + 1), .int 992 (tk8 + 1 + 1), .int 31744 (tk8 + 1 + 1 + 1)] 0) ∈ RS3 := by rw [← hRS3]; exact List.Mem.head _
        have mRS2 : ∀ p ∈ RS2, p ∈ RS3 := by rw [← hRS3]; exact fun p hp => List.Mem.tail _ (List.Mem.tail _ hp)
        have mDN3 := mRS2 _ mDN2
        have hmi : IntsAre [Value.int 31 (tk8 + 1), .int 992 (tk8 + 1 + 1), .int 31744 (tk8 + 1 + 1 + 1)] [31, 992, 31744] := .cons _ _ (.cons _ _ (.cons _ _ .nil))
        refine' iterListG (l := lM) (n := 0) (m := ?mm3) (fun z m₁ news₁ => ∃ (oa : Obj) (p4 : Option Value) (v : Int) (tv : Tok), m₁ = setO ?mm3 (Str.ofString "mask") p4 ∧ news₁ = (L1 + 1 + 1, oa) :: RS3 ∧ oa.data = .cell (some (.int v tv)) ∧ v = aboveAt (pkAt pp (3 + i)) (pkAt pp j) z) ?h1w (List.Mem.tail _ mLM) F1 (hRS3 ▸ N9) ?h2w ?turnw ?donew
        case h1w => rfl
        case h2w => exact ⟨ob, _, _, _, (setO_self _ _).symm, rfl, dob, rfl⟩
        case turnw =>
          intro z v m₁ news₁ h9 tk9 I9 o9 hv9 hp25 hm9 hnI9 F9 N9
          refine hide fun GG back => ?_
          obtain ⟨oa9, p49, v9, tv9, rfl, rfl, f9, hv9e⟩ := hp25
          refine back ?_
          clear back GG
          refine hidePost fun TT3 hTT3 => ?_
          clear F1 N1
          refine hide fun GG back => ?_
          obtain ⟨mk, tmk, rfl, hmk⟩ := hmi.at z v hv9
          refine back ?_
          clear back GG
          have hI9c := neN (hnI9 _ (List.Mem.head _))
          k_steps
          rename Fr _ _ _ _ => F5
          rename News _ _ _ _ => N5
          refine hTT3 _ _ ?_
          refine' TurnG.mk (news' := (L1 + 1 + 1, _) :: RS3) F5 N5 (List.Mem.head _) ?tb9 ?tc9 ?td9 ⟨_, _, _, _, ?tm9, rfl, ?te9, ?tv9⟩
          case te9 => assumption
          case tb9 => exact fun p hp => List.Mem.tail _ hp
          case tc9 =>
            intro p hp
            rcases List.mem_cons.mp hp with rfl | hp
            · exact hI9c
            · exact hnI9 p (List.Mem.tail _ hp)
          case td9 =>
            intro p hp
            rw [List.mem_singleton.mp hp]
            exact List.Mem.tail _ mLM
          case tm9 =>
            funext y
            by_cases h1 : y = Str.ofString "mask"
            · subst h1; simp [setO]; rfl
            · simp [setO, h1]
          case tv9 =>
            rw [hv9e]
            show _ = aboveAt _ _ z + mxI (Builtin.bitAnd _ ([31, 992, 31744].getD z 0)) (Builtin.bitAnd _ ([31, 992, 31744].getD z 0))
            rw [List.getD_eq_getElem?_getD (l := [31, 992, 31744]), hmk]
            rw [show (3 + (i : Int)).toNat = 3 + i by omega, Int.toNat_natCast]
            rfl
        case donew =>
          intro m₁ news₁ h9 tk9 hp26 hm9 F9 N9
          refine hide fun GG back => ?_
          obtain ⟨oa9, p49, v9, tv9, rfl, rfl, f9, hv9e⟩ := hp26
          refine back ?_
          clear back GG
          clear F1 N1
          (try dsimp only)
          (try k_fold)
          k_steps
          refine ⟨?_⟩
          rename Fr _ _ _ _ => F1
          rename News _ _ _ _ => N1
          refine led_eq N1 fun NL hNL hin NL9 => ?_
          clear N1
          have hyl := hys.length
          rw [List.length_map] at hyl
          have mDN4 : (DN, lstN ys ys.length) ∈ NL := hin _ (List.Mem.tail _ mDN3)
          have mAb : (L1 + 1 + 1, oa9) ∈ NL := hin _ (List.Mem.head _)
          refine LCt.CompSrcT.ledger (by rfl) F1 NL9 mDN4 (Nat.le_trans (show ys.toArray.size ≤ 40 by simp only [List.size_toArray]; omega) (by decide)) ?_
          intro gg
          refine' compInvT (n := ys.length) (fun z zs news1 => news1 = NL ∧ IntsAre zs (((pp.map fun x => dval 5 x.2).take z).filter fun one => Builtin.bitAnd (v9 - one) 16912 == 16912)) ?turnx ?finx _ 0 [] NL (by simp) ⟨rfl, .nil⟩
          case turnx =>
            intro z v zs news1 I5 oI C5 oC D5 m5 h5 tk5 E5 hz hv hp27 hC hx F5 N5 off5 ne5
            refine hide fun GG back => ?_
            obtain ⟨rfl, hzs⟩ := hp27
            refine back ?_
            clear back GG
            refine hide fun GG back => ?_
            obtain ⟨one, tone, rfl, hone⟩ := hys.at z v (by simpa using hv)
            refine back ?_
            clear back GG
            clear F1 NL9
            have et : (pp.map fun x => dval 5 x.2).take (z + 1) = (pp.map fun x => dval 5 x.2).take z ++ [one] := by rw [List.take_add_one, hone]; rfl
            k_steps
            · rename Builtin.bitAnd _ _ = _ => hq
              refine LCg.CompEnd.intro (by assumption) (by assumption) news1 (fun p hp => hp) off5 (Or.inr ⟨_, mDN4, rfl, ys.length, rfl⟩) ⟨rfl, ?_⟩
              rw [et, List.filter_append]
              refine hzs.append ?_
              have ef : [one].filter (fun one => Builtin.bitAnd (v9 - one) 16912 == 16912) = [one] := by simp [hq]
              rw [ef]
              exact .cons _ _ .nil
            · rename Builtin.bitAnd _ _ ≠ _ => hq
              refine LCg.CompEnd.intro (by assumption) (by assumption) news1 (fun p hp => hp) off5 (Or.inr ⟨_, mDN4, rfl, ys.length, rfl⟩) ⟨rfl, ?_⟩
              have ef : [one].filter (fun one => Builtin.bitAnd (v9 - one) 16912 == 16912) = [] := by simp [hq]
              rw [et, List.filter_append, ef, List.append_nil]
              exact hzs
          case finx =>
            intro zs news1 hp28
            refine hide fun GG back => ?_
            obtain ⟨rfl, hzs⟩ := hp28
            refine back ?_
            clear back GG
            rw [List.take_of_length_le (by rw [List.length_map]; omega)] at hzs
            clear F1 NL9
            have hzl : zs.length ≤ 7 := by
              rw [hzs.length]
              have := List.length_filter_le (fun one => Builtin.bitAnd (v9 - one) 16912 == 16912) (pp.map fun x => dval 5 x.2)
              rw [List.length_map] at this
              omega
            have mq4 : (q, lstN mvs kk) ∈ news1 := hin _ (List.Mem.tail _ (mRS2 _ mq))
            have mBN4 : (B5, lstN nvs c5) ∈ news1 := hin _ (List.Mem.tail _ (mRS2 _ mBN2))
            obtain ⟨y, hy⟩ : ∃ y, pp[j]? = some y := ⟨_, List.getElem?_eq_getElem (by omega)⟩
            have hc : (((zs.length : Int) == 2) != ((List.map (fun p : List Nat × List Nat => S p.2) (List.filter (fun p => p.1 == x.1) prs)).any fun s => s == (List.map (fun p : List Nat × List Int => S p.1) pp).getD ((j : Nat) : Int).toNat Str.empty)) = false := by
              have h := hJ (3 + i) j x y hx hy (by omega) (by omega)
              have eY : (List.map (fun p : List Nat × List Int => S p.1) pp).getD ((j : Nat) : Int).toNat Str.empty = S y.1 := by
                rw [Int.toNat_natCast, List.getD_eq_getElem?_getD, List.getElem?_map, hy]; rfl
              have ev : v9 = aboveAt (pkAt pp (3 + i)) (pkAt pp j) 3 := hv9e
              rw [eY]
              rw [← ev] at h
              have ez : ((zs.length : Int) == 2) = (zs.length == 2) := by
                rw [Bool.eq_iff_iff]; simp only [beq_iff_eq]; omega
              rw [ez, hzs.length, h, List.any_map, List.any_filter]
              have ef : (fun p : List Nat × List Nat => p.1 == x.1 && ((fun s => s == S y.1) ∘ fun p : List Nat × List Nat => S p.2) p) = fun p => p.1 == x.1 && p.2 == y.1 := by
                funext p
                show (p.1 == x.1 && (S p.2 == S y.1)) = _
                rw [S_beq]
              rw [ef]
              simp
            k_steps
            all_goals (try (rename (_ != _) = true => hq; exact absurd (hq.symm.trans hc) (by decide)))
            rename Fr _ _ _ _ => F5
            rename News _ _ _ _ => N5
            refine hTT2 _ _ ?_
            refine' TurnG.mk (news' := (L1 + 1 + 1, oa9) :: RS2) F5 N5 ?tbx ?tcx ?tdx ?tex ⟨oa9, _, _, _, _, ?tmx, rfl, f9⟩
            case tbx => exact List.Mem.tail _ (hin _ (List.Mem.tail _ (by rw [← hRS3]; exact List.Mem.tail _ (List.Mem.head _))))
            case tcx =>
              intro p hp
              rcases List.mem_cons.mp hp with rfl | hp
              · exact List.Mem.tail _ mAb
              · exact List.Mem.tail _ (hin _ (List.Mem.tail _ (mRS2 _ hp)))
            case tdx =>
              intro p hp
              rcases List.mem_cons.mp hp with rfl | hp
              · exact hI8c
              · exact hnI8 p (List.Mem.tail _ hp)
            case tex => exact fun p hp => nomatch hp
            case tmx =>
              refine map3' fun y h1 h2 h3 => ?_
              simp [setO, h1, h2, h3]
      case doneu =>
        intro m₁ news₁ h8 tk8 hp29 F8 N8
        refine hide fun GG back => ?_
        obtain ⟨oa, va, p3, p4, p5, rfl, rfl, f1⟩ := hp29
        refine back ?_
        clear back GG
        clear F1 N1
        (try dsimp only)
        (try k_fold)
        k_steps
        rename Fr _ _ _ _ => F5
        rename News _ _ _ _ => N5
        refine hTT1 _ _ ?_
        refine' TurnG.mk (news' := (L1 + 1 + 1, oa) :: (hl, lstN hvs n0) :: (dx, dictOf [tabEnt w tk0 hl] n1) :: (I, instObj 245 dx) :: RS) F5 N5 ?tby ?tcy ?tdy ?tey ⟨oa, _, _, _, _, _, _, ?tmy, rfl, f1⟩
        case tby => exact List.Mem.tail _ (by rw [← hRS2]; exact List.Mem.tail _ (List.Mem.head _))
        case tcy =>
          intro p hp
          rcases List.mem_cons.mp hp with rfl | hp
          · exact List.Mem.head _
          · exact List.Mem.tail _ (by rw [← hRS2]; exact List.Mem.tail _ (List.Mem.tail _ hp))
        case tdy =>
          intro p hp
          rcases List.mem_cons.mp hp with rfl | hp
          · exact hI6c
          · exact hnI p (List.Mem.tail _ hp)
        case tey => exact fun p hp => nomatch hp
        case tmy =>
          refine map5 fun y h1 h2 h3 h4 h5 => ?_
          simp [setO, h1, h2, h3, h4, h5]
    case done =>
      intro m₁ news₁ h8 tk8 hp30 F8 N8
      refine hide fun GG back => ?_
      obtain ⟨oa, va, p1, p2, p3, p4, p5, rfl, rfl, f1⟩ := hp30
      refine back ?_
      clear back GG
      clear F1 N3
      (try dsimp only)
      (try k_fold)
      k_steps
      rename Fr h₀ _ _ _ => F9
      rename News h₀ _ _ _ => N9
      refine hret psx _ _ F9 (news_sub N9 ?_)
      intro p hp
      refine List.Mem.tail _ (List.Mem.tail _ (List.Mem.tail _ (List.Mem.tail _ ?_)))
      rw [← hRS]
      exact List.Mem.tail _ (List.Mem.tail _ hp)
end Mine

end
noncomputable section
open PySem PySem.W PyProof.Rows PySem.Calls PySem.Spec
namespace Mine
/-- Of the steps to the three ends that come up at all, what the float says is decided once. -/
def goodS (s0 s1 s2 : Int) (k : Nat) : Bool :=
  decide (Float64.isNaN (Float64.add (Float64.mul (Float64.ofInt (6 * (mx s0 s1 s2 - mn s0 s1 s2))) (hueB s0 s1 s2)) 4602678819172646912) = false ∧
    Float64.isInf (Float64.add (Float64.mul (Float64.ofInt (6 * (mx s0 s1 s2 - mn s0 s1 s2))) (hueB s0 s1 s2)) 4602678819172646912) = false) &&
  (decide ((Flt.toInt Float64.truncOf (Float64.add (Float64.mul (Float64.ofInt (6 * (mx s0 s1 s2 - mn s0 s1 s2))) (hueB s0 s1 s2)) 4602678819172646912)).fmod (6 * (mx s0 s1 s2 - mn s0 s1 s2))
    = (((k : Int) * (6 * (mx s0 s1 s2 - mn s0 s1 s2))).fdiv 3 + wrap3 s0 s1 s2 ((k : Int) - 2) - wrap3 s0 s1 s2 ((k : Int) - 1)).fmod (6 * (mx s0 s1 s2 - mn s0 s1 s2))) &&
  decide (mn s0 s1 s2 < mx s0 s1 s2))
def stepsAt : Nat → List (Int × Int × Int)
  | 0 => [(11, 8, 8), (12, 7, 8), (12, 8, 7), (13, 6, 8), (13, 7, 7), (13, 8, 6), (14, 5, 8), (14, 6, 7), (14, 7, 6), (14, 8, 5), (15, 4, 8), (15, 5, 7), (15, 6, 6), (15, 7, 5), (15, 8, 4), (16, 3, 8), (16, 4, 7), (16, 5, 6), (16, 6, 5), (16, 7, 4), (16, 8, 3), (17, 2, 8), (17, 4, 6), (17, 6, 4), (17, 8, 2)]
  | 1 => [(2, 17, 8), (3, 16, 8), (4, 15, 8), (4, 16, 7), (4, 17, 6), (5, 14, 8), (5, 15, 7), (5, 16, 6), (6, 13, 8), (6, 14, 7), (6, 15, 6), (6, 16, 5), (6, 17, 4), (7, 12, 8), (7, 13, 7), (7, 14, 6), (7, 15, 5), (7, 16, 4), (8, 11, 8), (8, 12, 7), (8, 13, 6), (8, 14, 5), (8, 15, 4), (8, 16, 3), (8, 17, 2)]
  | 2 => [(2, 8, 17), (3, 8, 16), (4, 6, 17), (4, 7, 16), (4, 8, 15), (5, 6, 16), (5, 7, 15), (5, 8, 14), (6, 4, 17), (6, 5, 16), (6, 6, 15), (6, 7, 14), (6, 8, 13), (7, 4, 16), (7, 5, 15), (7, 6, 14), (7, 7, 13), (7, 8, 12), (8, 2, 17), (8, 3, 16), (8, 4, 15), (8, 5, 14), (8, 6, 13), (8, 7, 12), (8, 8, 11)]
  | _ => []
theorem good0 : ∀ x ∈ stepsAt 0, goodS x.1 x.2.1 x.2.2 0 = true := by decide +kernel
theorem good1 : ∀ x ∈ stepsAt 1, goodS x.1 x.2.1 x.2.2 1 = true := by decide +kernel
theorem good2 : ∀ x ∈ stepsAt 2, goodS x.1 x.2.1 x.2.2 2 = true := by decide +kernel
theorem goodAll {k : Nat} {x : Int × Int × Int} (h : x ∈ stepsAt k) : goodS x.1 x.2.1 x.2.2 k = true := by
  match k, h with
  | 0, h => exact good0 x h
  | 1, h => exact good1 x h
  | 2, h => exact good2 x h
def leadB (ps : List (List Nat × List Int)) (n e : List Nat) (k : Nat) : Bool :=
  match ps.lookup e, ps.lookup n with
  | some [a0, a1, a2], some [b0, b1, b2] =>
    decide (0 ≤ a0 ∧ a0 ≤ 20 ∧ 0 ≤ b0 ∧ b0 ≤ 9 + a0) && (decide (0 ≤ a1 ∧ a1 ≤ 20 ∧ 0 ≤ b1 ∧ b1 ≤ 9 + a1) && (decide (0 ≤ a2 ∧ a2 ≤ 20 ∧ 0 ≤ b2 ∧ b2 ≤ 9 + a2) &&
    (decide ((9 + a0 - b0, 9 + a1 - b1, 9 + a2 - b2) ∈ stepsAt k) &&
    (decide (n = e ++ n.drop e.length ∧ n.drop e.length ≠ [] ∧ n.length ≤ 40) && decide (Builtin.Str.lastOccurrence (S n) (Txt.item (Str.ofString "rgb") (k : Int)) 0 (S n).length = some e.length)))))
  | _, _ => false
theorem leadB_at {ps : List (List Nat × List Int)} {n e : List Nat} {k : Nat} (h : leadB ps n e k = true) : ∃ a0 a1 a2 b0 b1 b2, LeadAt ps n e k a0 a1 a2 b0 b1 b2 := by
  unfold leadB at h
  split at h
  · rename_i a0 a1 a2 b0 b1 b2 hA hB
    simp only [Bool.and_eq_true, decide_eq_true_eq] at h
    obtain ⟨h0, h1, h2, h3, h5, h6⟩ := h
    have g := goodAll h3
    dsimp only at g
    unfold goodS at g
    simp only [Bool.and_eq_true, decide_eq_true_eq] at g
    obtain ⟨g1, g2, g3⟩ := g
    exact ⟨a0, a1, a2, b0, b1, b2, ⟨hA, hB, h0, h1, h2, g1, g2, ⟨_, h5⟩, h6, g3⟩⟩
  · cases h
def roadsOf (num : Nat) : List Row := (netAt num 3).2.1
def fieldsOf (num : Nat) : List (List Nat) := (netAt num 3).2.2.map (·.1)
def ppOf (num : Nat) : List (List Nat × List Int) := pParts (roadsOf num) (fieldsOf num)
def leadNum (num : Nat) : Bool := (roadsOf num).all fun r => decide (r.2.length = 3) && ((List.range 3).all fun k => match r.2[k]? with | some e => leadB (ppOf num) r.1 e k | none => false)
def partsNum (num : Nat) : Bool := ((roadsOf num).all fun r => (fieldsOf num).all fun f => okFN f r.1) && (decide ((pInit.map (·.1)) ++ (roadsOf num).map (·.1)).Nodup && decide ((roadsOf num).length ≤ 40))
def prsOf (num : Nat) : List (List Nat × List Nat) := (roadsOf num).flatMap fun r => r.2.map fun e => (r.1, e)
theorem by15 {P : Nat → Bool} (h0 : ∀ k < 15, P k = true) (h1 : ∀ k < 15, P (15 + k) = true) (h2 : ∀ k < 15, P (30 + k) = true) (h3 : ∀ k < 15, P (45 + k) = true) (h4 : ∀ k < 15, P (60 + k) = true) (h5 : ∀ k < 15, P (75 + k) = true) (h6 : ∀ k < 15, P (90 + k) = true) :
    ∀ n < 105, P n = true := by
  intro n hn
  by_cases a0 : n < 15
  · exact h0 n a0
  by_cases a1 : n < 30
  · have := h1 (n - 15) (by omega); rwa [Nat.add_sub_cancel' (by omega)] at this
  by_cases a2 : n < 45
  · have := h2 (n - 30) (by omega); rwa [Nat.add_sub_cancel' (by omega)] at this
  by_cases a3 : n < 60
  · have := h3 (n - 45) (by omega); rwa [Nat.add_sub_cancel' (by omega)] at this
  by_cases a4 : n < 75
  · have := h4 (n - 60) (by omega); rwa [Nat.add_sub_cancel' (by omega)] at this
  by_cases a5 : n < 90
  · have := h5 (n - 75) (by omega); rwa [Nat.add_sub_cancel' (by omega)] at this
  · have := h6 (n - 90) (by omega); rwa [Nat.add_sub_cancel' (by omega)] at this
theorem leadAt0 : ∀ k < 15, leadNum k = true := by decide +kernel
theorem leadAt1 : ∀ k < 15, leadNum (15 + k) = true := by decide +kernel
theorem leadAt2 : ∀ k < 15, leadNum (30 + k) = true := by decide +kernel
theorem leadAt3 : ∀ k < 15, leadNum (45 + k) = true := by decide +kernel
theorem leadAt4 : ∀ k < 15, leadNum (60 + k) = true := by decide +kernel
theorem leadAt5 : ∀ k < 15, leadNum (75 + k) = true := by decide +kernel
theorem leadAt6 : ∀ k < 15, leadNum (90 + k) = true := by decide +kernel
theorem leadAll : ∀ num < 105, leadNum num = true := by15 leadAt0 leadAt1 leadAt2 leadAt3 leadAt4 leadAt5 leadAt6
theorem partsAt0 : ∀ k < 15, partsNum k = true := by decide +kernel
theorem partsAt1 : ∀ k < 15, partsNum (15 + k) = true := by decide +kernel
theorem partsAt2 : ∀ k < 15, partsNum (30 + k) = true := by decide +kernel
theorem partsAt3 : ∀ k < 15, partsNum (45 + k) = true := by decide +kernel
theorem partsAt4 : ∀ k < 15, partsNum (60 + k) = true := by decide +kernel
theorem partsAt5 : ∀ k < 15, partsNum (75 + k) = true := by decide +kernel
theorem partsAt6 : ∀ k < 15, partsNum (90 + k) = true := by decide +kernel
theorem partsAll : ∀ num < 105, partsNum num = true := by15 partsAt0 partsAt1 partsAt2 partsAt3 partsAt4 partsAt5 partsAt6
end Mine

end
noncomputable section
open PySem PySem.W PyProof.Rows PySem.Calls PySem.Spec
namespace Mine
def okC (l : List Nat) : Bool := (l.all fun c => c == 114 || (c == 103 || c == 98)) && decide (l.length < 40)
def joinB (pp : List (List Nat × List Int)) (prs : List (List Nat × List Nat)) : Bool :=
  decide (pp.length = 7) && ((pp.all fun x => decide (x.2.length = 3) && ((x.2.all fun y => decide (0 ≤ y ∧ y < 32)) && (decide (pp.lookup x.1 = some x.2) && okC x.1))) && ((prs.all fun p => okC p.1 && okC p.2) && (decide (prs.length < 40) &&
    (List.range 7).all fun k => decide (k < 3) || (List.range k).all fun j => match pp[k]?, pp[j]? with
      | some x, some y => ((((pp.map fun x => dval 5 x.2).filter fun one => Builtin.bitAnd (aboveAt (pkAt pp k) (pkAt pp j) 3 - one) 16912 == 16912).length == 2) == prs.any fun p => p.1 == x.1 && p.2 == y.1)
      | _, _ => false)))
def joinNum (num : Nat) : Bool := joinB (ppOf num) (prsOf num)
theorem okC_of {l : List Nat} (h : okC l = true) : (∀ c ∈ l, isC c) ∧ l.length < 40 := by
  unfold okC at h
  simp only [Bool.and_eq_true, List.all_eq_true, Bool.or_eq_true, beq_iff_eq, decide_eq_true_eq] at h
  exact ⟨fun c hc => h.1 c hc, h.2⟩
theorem joinB_of {pp : List (List Nat × List Int)} {prs : List (List Nat × List Nat)} (h : joinB pp prs = true) :
    pp.length = 7 ∧ (∀ x ∈ pp, x.2.length = 3 ∧ ∀ y ∈ x.2, 0 ≤ y ∧ y < 32) ∧ (∀ x ∈ pp, pp.lookup x.1 = some x.2) ∧ (∀ p ∈ pp, (∀ c ∈ p.1, isC c) ∧ p.1.length < 40) ∧ (∀ p ∈ prs, ((∀ c ∈ p.1, isC c) ∧ p.1.length < 40) ∧ ((∀ c ∈ p.2, isC c) ∧ p.2.length < 40)) ∧ prs.length < 40 ∧
    (∀ k j x y, pp[k]? = some x → pp[j]? = some y → 3 ≤ k → j < k → ((((pp.map fun x => dval 5 x.2).filter fun one => Builtin.bitAnd (aboveAt (pkAt pp k) (pkAt pp j) 3 - one) 16912 == 16912).length == 2) = prs.any fun p => p.1 == x.1 && p.2 == y.1)) := by
  unfold joinB at h
  simp only [Bool.and_eq_true, decide_eq_true_eq, List.all_eq_true] at h
  obtain ⟨h0, h1, h2, h4, h3⟩ := h
  refine ⟨h0, fun x hx => ⟨(h1 x hx).1, (h1 x hx).2.1⟩, fun x hx => (h1 x hx).2.2.1, fun x hx => okC_of (h1 x hx).2.2.2, fun p hp => ⟨okC_of (h2 p hp).1, okC_of (h2 p hp).2⟩, h4, ?_⟩
  intro k j x y hx hy h5 h6
  have hk : k < pp.length := (List.getElem?_eq_some_iff.mp hx).1
  have := h3 k (List.mem_range.mpr (by omega))
  simp only [Bool.or_eq_true, decide_eq_true_eq, List.all_eq_true, List.mem_range] at this
  rcases this with h | h
  · omega
  · have := h j h6
    rw [hx, hy] at this
    simpa using this
theorem joinAt0 : ∀ k < 15, joinNum k = true := by decide +kernel
theorem joinAt1 : ∀ k < 15, joinNum (15 + k) = true := by decide +kernel
theorem joinAt2 : ∀ k < 15, joinNum (30 + k) = true := by decide +kernel
theorem joinAt3 : ∀ k < 15, joinNum (45 + k) = true := by decide +kernel
theorem joinAt4 : ∀ k < 15, joinNum (60 + k) = true := by decide +kernel
theorem joinAt5 : ∀ k < 15, joinNum (75 + k) = true := by decide +kernel
theorem joinAt6 : ∀ k < 15, joinNum (90 + k) = true := by decide +kernel
theorem joinAll : ∀ num < 105, joinNum num = true := by15 joinAt0 joinAt1 joinAt2 joinAt3 joinAt4 joinAt5 joinAt6
end Mine

end
noncomputable section
theorem Mine.flush_L14 {w : World} {A : Around} {v : Value} {Q E : Value → Shared → Prop} {s : Shared} (h : Q v s) : wpAny (model Mine.PR w) A (pure v) Q E s := by
  w_top off
  (try walk1)
  first | exact h | exact wpAny_pure h
open PySem PySem.W PyProof.Rows PySem.Calls PySem.Spec
namespace Mine
theorem numOf (ns : List Int) : ∃ num : Nat, (61 + (ns.take 12).sum).fmod 105 = (num : Int) ∧ num < 105 := by
  have h0 := Int.fmod_nonneg_of_pos (61 + (ns.take 12).sum) (b := 105) (by decide)
  have h1 := Int.fmod_lt_of_pos (61 + (ns.take 12).sum) (b := 105) (by decide)
  exact ⟨((61 + (ns.take 12).sum).fmod 105).toNat, by omega, by omega⟩
theorem partsOk {num : Nat} (h : partsNum num = true) : (∀ r ∈ roadsOf num, ∀ f ∈ fieldsOf num, okFN f r.1 = true) ∧ ((pInit.map (·.1)) ++ (roadsOf num).map (·.1)).Nodup ∧ (roadsOf num).length ≤ 40 := by
  unfold partsNum at h
  simp only [Bool.and_eq_true, List.all_eq_true, decide_eq_true_eq] at h
  exact ⟨h.1, h.2.1, h.2.2⟩
local macro_rules | `(tactic| k_room) => `(tactic| ktr_room)
local macro_rules | `(tactic| k_mem) => `(tactic| assumption)
local macro_rules | `(tactic| k_all) => `(tactic| first | assumption | (tbn_letter; first | (refine neAll1 ?_; tbn_find) | (refine neAll2 ?_; tbn_find) | (refine neAll3 ?_; tbn_find)))
local macro_rules | `(tactic| walk_at "call ref") => `(tactic| (k_here; (with_reducible show wpAny _ _ (call (Value.ref 254) _) _ _ _); refine Halt.in ?_))
local macro_rules | `(tactic| walk_at "call ref") => `(tactic| (k_here; (with_reducible show wpAny _ _ (call (Value.ref 261) _) _ _ _); refine Halt.in ?_))
local macro_rules | `(tactic| walk_at "call ref") => `(tactic| (k_here; (with_reducible show wpAny _ _ (call (Value.ref 242) _) _ _ _); refine Halt.in ?_))
local macro_rules | `(tactic| walk_at "call ref") => `(tactic| (k_here; (with_reducible show wpAny _ _ (call (Value.ref 266) _) _ _ _); refine Halt.in ?_))
local macro_rules | `(tactic| walk_at "call ref") => `(tactic| (k_here; (with_reducible show wpAny _ _ (call (Value.ref 271) _) _ _ _); refine Halt.in ?_))
local macro_rules | `(tactic| walk_at "exec For") => `(tactic| (k_here; (with_reducible show wpAny _ _ (exec (Stmt.For _ (Expr.Name (Str.ofString "roads") _) _ _ _) _) _ _ _); refine Halt.in ?_))
local macro_rules | `(tactic| walk_at "exec For") => `(tactic| (k_here; (with_reducible show wpAny _ _ (exec (Stmt.For _ (Expr.Name (Str.ofString "ends") _) _ _ _) _) _ _ _); refine Halt.in ?_))
local macro_rules | `(tactic| walk_at "pyIter ref") => `(tactic| (k_here; (with_reducible show wpAny _ _ (pyIter _) (fun it s₂ => LoopAtV _ _ _ _ _ (Str.ofString "end") _ _ _ it s₂) _ _); refine Halt.in ?_))
local macro_rules | `(tactic| walk_at "pyIter ref") => `(tactic| (k_here; (with_reducible show wpAny _ _ (pyIter _) (fun it s₂ => LoopAtT _ _ _ _ _ (Expr.Tuple [Expr.Name (Str.ofString "name") _, _] _ _) _ _ _ it s₂) _ _); refine Halt.in ?_))
local macro_rules | `(tactic| walk_at "exec For") => `(tactic| (k_here; (with_reducible show wpAny _ _ (exec (Stmt.For _ (Expr.Name (Str.ofString "headers") _) _ _ _) _) _ _ _); refine Halt.in ?_))
local macro_rules | `(tactic| walk_at "pyIter ref") => `(tactic| (k_here; (with_reducible show wpAny _ _ (pyIter _) (fun it s₂ => LoopAtT _ _ _ _ _ (Expr.Tuple [Expr.Name (Str.ofString "k") _, _] _ _) _ _ _ it s₂) _ _); refine Halt.in ?_))
theorem news_h1 {h₀ h : Heap} {L : Addr} {a b c : Addr × Obj} {r : Led} (N : News h₀ L h (a :: b :: c :: r)) : News h₀ L h (a :: c :: b :: r) := by
  refine news_sub N fun p hp => ?_
  simp only [List.mem_cons] at hp ⊢
  rcases hp with h | h | h | h <;> simp [h]
theorem news_h2 {h₀ h : Heap} {L : Addr} {x a b c : Addr × Obj} {r : Led} (N : News h₀ L h (x :: a :: b :: c :: r)) : News h₀ L h (a :: b :: c :: x :: r) := by
  refine news_sub N fun p hp => ?_
  simp only [List.mem_cons] at hp ⊢
  rcases hp with h | h | h | h | h <;> simp [h]
theorem news_h3 {h₀ h : Heap} {L : Addr} {x a b c : Addr × Obj} {tl r : Led} (N : News h₀ L h (x :: a :: b :: c :: (tl ++ r))) : News h₀ L h (a :: b :: c :: (tl ++ (x :: r))) := by
  refine news_sub N fun p hp => ?_
  simp only [List.mem_cons, List.mem_append] at hp ⊢
  rcases hp with h | h | h | h | h | h <;> simp [h]
def prsUpto (num i : Nat) : List (List Nat × List Nat) := ((roadsOf num).take i).flatMap fun r => r.2.map fun e => (r.1, e)
theorem leadOk {num : Nat} (h : leadNum num = true) : ∀ r ∈ roadsOf num, r.2.length = 3 ∧ ∀ k < 3, ∃ a0 a1 a2 b0 b1 b2 e, r.2[k]? = some e ∧ LeadAt (ppOf num) r.1 e k a0 a1 a2 b0 b1 b2 := by
  intro r hr
  unfold leadNum at h
  simp only [List.all_eq_true, Bool.and_eq_true, decide_eq_true_eq, List.mem_range] at h
  obtain ⟨h1, h2⟩ := h r hr
  refine ⟨h1, fun k hk => ?_⟩
  have h3 := h2 k hk
  cases he : r.2[k]? with
  | none => rw [he] at h3; cases h3
  | some e =>
    rw [he] at h3
    obtain ⟨a0, a1, a2, b0, b1, b2, hL⟩ := leadB_at h3
    exact ⟨a0, a1, a2, b0, b1, b2, e, rfl, hL⟩
theorem prsOk (num : Nat) (hn : num < 105) : ∀ r ∈ roadsOf num, ∀ e ∈ r.2, ((∀ c ∈ r.1, isC c) ∧ r.1.length < 40) ∧ ((∀ c ∈ e, isC c) ∧ e.length < 40) := by
  intro r hr e he
  have := (joinB_of (joinAll num hn)).2.2.2.2.1 (r.1, e) (List.mem_flatMap.mpr ⟨r, hr, List.mem_map.mpr ⟨e, he, rfl⟩⟩)
  exact this
theorem map1 {M M' : Str → Option Value} {a : Str} (h : ∀ y, y ≠ a → M' y = M y) : M' = setO M a (M' a) := by
  funext y
  by_cases h1 : y = a
  · subst h1; simp [setO]
  simp [setO, h1, h y h1]
theorem PartsIn.monoL {led led' : Led} (hs : ∀ (l : Addr) (vs : List Value) (n : Nat), (l, lstN vs n) ∈ led → (l, lstN vs n) ∈ led') : ∀ {kvs : List (Str × Value)} {ps : List (List Nat × List Int)}, PartsIn led kvs ps → PartsIn led' kvs ps
  | _, _, .nil => .nil
  | _, _, .cons nm l vs ds n hm hi t => .cons nm l vs ds n (hs _ _ _ hm) hi (t.monoL hs)
/-- What a loop holds to. -/
inductive TopJ (w : World) (num : Nat) (hl : Addr) (dx : Addr) (I : Addr) (tk0 : Tok) (RS : Led) (mm : Str → Option Value) (i : Nat) (m₁ : Str → Option Value) (news₁ : Led) : Prop
  | mk (hvs : List Value) (n0 : Nat) (tl3 : Led) (o1 o2 o3 : Option Value) (h0 : m₁ = setO (setO (setO mm (Str.ofString "name") o1) (Str.ofString "ends") o2) (Str.ofString "end") o3) (h1 : news₁ = (hl, lstN hvs n0) :: (dx, dictOf [tabEnt w (tk0 + 1) hl] 1) :: (I, instObj 245 dx) :: (tl3 ++ RS)) (h2 : HdsIn tl3 hvs (prsUpto num i)) (h3 : hvs.length = 3 * i) (h4 : ∀ r ∈ tl3, hl < r.1) : TopJ w num hl dx I tk0 RS mm i m₁ news₁
/-- What a loop holds to. -/
inductive TopK (w : World) (num : Nat) (i : Nat) (hl : Addr) (dx : Addr) (I : Addr) (tk0 : Tok) (I5 : Addr) (o5 : Obj) (r : Row) (RS : Led) (mm : Str → Option Value) (j : Nat) (m₁ : Str → Option Value) (news₁ : Led) : Prop
  | mk (hvs : List Value) (n0 : Nat) (tl3 : Led) (o3 : Option Value) (h0 : m₁ = setO mm (Str.ofString "end") o3) (h1 : news₁ = (hl, lstN hvs n0) :: (dx, dictOf [tabEnt w (tk0 + 1) hl] 1) :: (I, instObj 245 dx) :: (tl3 ++ ((I5, o5) :: RS))) (h2 : HdsIn tl3 hvs (prsUpto num i ++ (r.2.take j).map fun e => (r.1, e))) (h3 : hvs.length = 3 * i + j) (h4 : (∀ r ∈ tl3, hl < r.1)) (h5 : ∀ r ∈ tl3, r.1 ≠ I5) : TopK w num i hl dx I tk0 I5 o5 r RS mm j m₁ news₁
theorem top0 : PySem.Challenge.rw_tl0060_01.Holds := headM rfl rfl rfl (by
  k_go0
  (all_goals try k_fold)
  k_steps
  refine ⟨?_⟩
  rename Fr _ _ _ _ => F1
  rename News _ _ _ _ => N1
  rename Heap.IsList (ghostOf _ _) _ _ => hIs
  rename IntsAre _ _ => hIn
  rename ¬ ((63 : Nat) : Int) < _ => hlen
  rename List Int => ns
  rename World => w
  rename CodeHd _ (72, 68).1 _ => C1
  rename CodeHd _ (65, 61).1 _ => C2
  refine hide fun GG back => ?_
  obtain ⟨num, hn0, hn1⟩ := numOf ns
  obtain ⟨po1, po2, po3⟩ := partsOk (partsAll num hn1)
  refine back ?_
  clear back GG
  k_dflt (refine' net (Cx.mk ?k1 ?k2 ?k3 C1 C2 ?k4 ?k5 ?k6) ?k7 ?k8 F1 _ _ _ N1 hIs hIn ?kl num hn0 hn1 ?kR)
  case k1 => k_asm
  case k2 => k_asm
  case k3 => k_asm
  case k4 => exact rfl
  case k5 => first | decide | ktr_room
  case k6 => first | decide | ktr_units
  case k7 => first | decide | ktr_room
  case k8 => first | decide | ktr_units
  case kl => omega
  case kR =>
    intro q R fi rvs fvs rn fn ps ps2 tl h2 tk2 F2 N2 hRv hFv hst hst2 htl hR hfi hq
    clear F1 N1
    (try dsimp only)
    (try k_fold)
    k_steps
    refine ⟨?_⟩
    rename Fr _ _ _ _ => F1
    rename News _ _ _ _ => N1
    refine led_eq N1 fun LD hLD hin NLD => ?_
    clear N1
    have hsub : ∀ p ∈ tl, p ∈ LD := fun p hp => hin _ (List.Mem.tail _ (List.Mem.tail _ (List.Mem.tail _ (List.Mem.tail _ (List.Mem.tail _ hp)))))
    have hFv' : StrsAre fvs ((fieldsOf num).map S) := by unfold fieldsOf; rw [List.map_map]; exact hFv
    have mR := hin _ (List.Mem.tail _ (List.Mem.tail _ (List.Mem.tail _ (List.Mem.head _))))
    have mFi := hin _ (List.Mem.tail _ (List.Mem.tail _ (List.Mem.tail _ (List.Mem.tail _ (List.Mem.head _)))))
    k_dflt (refine' parts (Cx.mk ?k1p ?k2p ?k3p C1 C2 ?k4p ?k5p ?k6p) F1 R fi rvs fvs rn fn NLD mR mFi (roadsOf num) (fieldsOf num) (hRv.mono hsub) hFv' po1 po2 po3 ?kRp)
    case k1p => k_asm
    case k2p => k_asm
    case k3p => k_asm
    case k4p => exact rfl
    case k5p => first | decide | ktr_room
    case k6p => first | decide | ktr_units
    intro d oD kvs tl2 h3 tk3 F3 N3 hDd hPI ld lt2 lt3
    clear F1 NLD
    (try dsimp only)
    (try k_fold)
    k_steps
    refine ⟨?_⟩
    rename Fr _ _ _ _ => F1
    rename News _ _ _ _ => N1
    rename_i v1 v2 I dx v5 v6 v7 v8 v9 v10 v11 v12 v13 v14 v15 v16 v17 hl v19 v20 v21 tk0 v23
    with_unfolding_all refine' For_invTF F1 ?kF1h ?kF2h
    case kF2h => exact fun _ => rfl
    k_steps
    refine ⟨?_⟩
    refine' iterListGT (vs := []) (n := 0) (fun _ m₁ news₁ => m₁ = ?mmh ∧ news₁ = ?nnh) ?h1h (List.Mem.head _) F1 N1 ⟨rfl, rfl⟩ ?turnh ?doneh
    case h1h => rfl
    case turnh =>
      intro i v m₁ news₁ s₁ I o hv
      simp at hv
    case doneh =>
      intro m₁ news₁ h4 tk4 hp31 _ F4 N4
      refine hide fun GG back => ?_
      obtain ⟨rfl, rfl⟩ := hp31
      refine back ?_
      clear back GG
      clear F1 N1
      (try dsimp only)
      (try k_fold)
      k_steps
      refine ⟨?_⟩
      rename Fr _ _ _ _ => F1
      rename News _ _ _ _ => N1
      obtain ⟨RS, hRS⟩ : ∃ r, (d, oD) :: (tl2 ++ LD) = r := ⟨_, rfl⟩
      have mRS : ∀ p ∈ LD, p ∈ RS := by rw [← hRS]; exact fun p hp => List.Mem.tail _ (List.mem_append_right _ hp)
      have hRSl : ∀ p ∈ RS, p.1 < hl := by
        rw [← hRS]
        exact allLt_mem (l := (d, oD) :: (tl2 ++ LD)) v20.2.2
      have hIl : I < hl := v20.1
      have hdl : dx < hl := v20.2.1
      have N2 := news_h1 N1
      rw [hRS] at N2
      clear N1
      with_unfolding_all refine' For_invTF F1 ?kF1r ?kF2r
      case kF2r => exact fun _ => rfl
      k_steps
      refine ⟨?_⟩
      refine' iterListGT (l := R) (vs := rvs) (n := rn) (m := ?mmr) (fun i m₁ news₁ => TopJ w num hl dx I tk0 RS ?mmr i m₁ news₁) ?h1r ?hmr F1 N2 ?h2r ?turnr ?doner
      case h1r => rfl
      case hmr => exact List.Mem.tail _ (List.Mem.tail _ (List.Mem.tail _ (mRS _ mR)))
      case h2r => exact ⟨[], 0, [], _, _, _, map3 (fun _ _ _ _ => rfl), rfl, .nil, rfl, fun r hr => nomatch hr⟩
      case turnr =>
        intro i v m₁ news₁ s5 I5 o5 hv hp32 hR5 hnI F5 N5
        refine hide fun GG back => ?_
        obtain ⟨hvs, n0, tl3, p1, p2, p3, rfl, rfl, hH, hvl, ht3⟩ := hp32
        refine back ?_
        clear back GG
        refine hidePostT fun TT1 hTT1 => ?_
        clear F1 N2
        refine hide fun GG back => ?_
        obtain ⟨r, hr, a, b, t, es, n, rfl, hm1, hm2, hS⟩ := hRv.at i v hv
        refine back ?_
        clear back GG
        have mm1 : (a, tup2 (.str (S r.1) t) (.ref b)) ∈ tl3 ++ RS := List.mem_append_right _ (mRS _ (hsub _ hm1))
        k_steps
        refine ⟨?_⟩
        rename Fr _ _ _ _ => F1
        rename News _ _ _ _ => N1
        have hnum4 : (roadsOf num).length = 4 := (netOk num 3 (by omega)).2.2
        have hi4 : i < 4 := by
          have := (List.getElem?_eq_some_iff.mp hr).1
          exact hnum4 ▸ this
        have hr3 : r.2.length = 3 := (leadOk (leadAll num hn1) r (List.mem_of_getElem? hr)).1
        have hI5 := hnI _ (List.Mem.head _)
        refine' iterListG (l := b) (vs := es) (n := n) (m := ?mme) (fun j m₁ news₁ => TopK w num i hl dx I tk0 I5 o5 r RS ?mme j m₁ news₁) ?h1e ?hme F1 (news_h3 N1) ?h2e ?turne ?donee
        case h1e => rfl
        case hme => exact List.Mem.tail _ (List.Mem.tail _ (List.Mem.tail _ (List.mem_append_right _ (List.Mem.tail _ (mRS _ (hsub _ hm2))))))
        case h2e => exact ⟨hvs, n0, tl3, _, (setO_self _ _).symm, rfl, by simpa using hH, hvl, ht3, fun p hp => hnI p (List.Mem.tail _ (List.Mem.tail _ (List.Mem.tail _ (List.mem_append_left _ hp))))⟩
        case turne =>
          intro j v m₁ news₁ h7 tk7 I6 o6 hv6 hp33 hb7 hnI6 F7 N7
          refine hide fun GG back => ?_
          obtain ⟨hvs, n0, tl3, o3, rfl, rfl, hH, hvl, ht3, hT3ne⟩ := hp33
          refine back ?_
          clear back GG
          refine hidePost fun TT2 hTT2 => ?_
          refine hide fun GG back => ?_
          obtain ⟨y, ty, rfl, hy⟩ := hS.item j v hv6
          rw [List.getElem?_map] at hy
          obtain ⟨e, he, rfl⟩ := Option.map_eq_some_iff.mp hy
          refine back ?_
          clear back GG
          clear F1 N1
          have hj3 : j < 3 := by
            have := (List.getElem?_eq_some_iff.mp he).1
            omega
          have hpr := prsOk num hn1 r (List.mem_of_getElem? hr) e (List.mem_of_getElem? he)
          k_steps
          refine ⟨?_⟩
          rename Fr _ _ _ _ => F1
          rename News _ _ _ _ => N1
          k_dflt (refine' hadd (Cx.mk ?k1a ?k2a ?k3a C1 C2 ?k4a ?k5a ?k6a) ?k7a ?k8a F1 I (tk0 + 1) dx hl hvs n0 1 (news_h2 N1) r.1 e _ _ hpr.1.1 hpr.2.1 hpr.1.2 hpr.2.2 (by omega) ?kn1 (Nat.ne_of_lt hdl) (Nat.ne_of_lt hIl) ?kRa)
          case k1a => k_asm
          case k2a => k_asm
          case k3a => k_asm
          case k4a => exact rfl
          case k5a => first | decide | ktr_room
          case k6a => first | decide | ktr_units
          case k7a => first | decide | ktr_room
          case k8a => first | decide | ktr_units
          case kn1 =>
            intro p hp
            simp only [List.mem_cons, List.mem_append] at hp
            rcases hp with rfl | hp | rfl | hp
            · exact Ne.symm (hnI6 _ (List.Mem.head _))
            · exact Nat.ne_of_gt (ht3 p hp)
            · exact Ne.symm hI5
            · exact Nat.ne_of_lt (hRSl p hp)
          intro q9 t9 h9 tk9 F9 N9 g1 g2 g3 g4
          clear F1 N1
          (try dsimp only)
          (try k_fold)
          k_steps
          rename Fr _ _ _ _ => F1
          rename News _ _ _ _ => N1
          refine hTT2 _ _ ?_
          refine' TurnG.mk (news' := (hl, lstN (hvs ++ [.ref q9]) (n0 + 1)) :: (dx, dictOf [tabEnt w (tk0 + 1) hl] 1) :: (I, instObj 245 dx) :: (((q9, tup2 (.str (S r.1) t) (.str (S e) t9)) :: tl3) ++ ((I5, o5) :: RS))) F1 N1 ?ta ?tb ?tc ?td ⟨hvs ++ [.ref q9], n0 + 1, (q9, tup2 (.str (S r.1) t) (.str (S e) t9)) :: tl3, _, ?tm, rfl, ?tn, ?to, ?tp, ?tq⟩
          case ta => exact List.Mem.tail _ (List.Mem.tail _ (List.Mem.tail _ (List.Mem.tail _ (List.Mem.head _))))
          case tb =>
            intro p hp
            simp only [List.mem_cons, List.mem_append, List.cons_append] at hp ⊢
            rcases hp with h | h | h | h | h | h | h <;> simp [h]
          case tc =>
            intro p hp
            simp only [List.mem_cons, List.mem_append, List.cons_append] at hp
            rcases hp with rfl | rfl | rfl | rfl | h | rfl | h
            · exact hnI6 (hl, lstN hvs n0) (List.Mem.head _)
            · exact hnI6 _ (List.Mem.tail _ (List.Mem.head _))
            · exact hnI6 _ (List.Mem.tail _ (List.Mem.tail _ (List.Mem.head _)))
            · exact Nat.ne_of_gt (g4 _ (List.Mem.head _))
            · exact hnI6 p (List.Mem.tail _ (List.Mem.tail _ (List.Mem.tail _ (List.mem_append_left _ h))))
            · exact hnI6 _ (List.Mem.tail _ (List.Mem.tail _ (List.Mem.tail _ (List.mem_append_right _ (List.Mem.head _)))))
            · exact hnI6 p (List.Mem.tail _ (List.Mem.tail _ (List.Mem.tail _ (List.mem_append_right _ (List.Mem.tail _ h)))))
          case td =>
            intro p hp
            rw [List.mem_singleton.mp hp]
            exact List.Mem.tail _ (List.Mem.tail _ (List.Mem.tail _ (List.mem_append_right _ (List.Mem.tail _ (mRS _ (hsub _ hm2))))))
          case tm =>
            refine map1 fun y h1 => ?_
            simp [setO, h1]
          case tn =>
            have et : (r.2.take (j + 1)).map (fun e => (r.1, e)) = (r.2.take j).map (fun e => (r.1, e)) ++ [(r.1, e)] := by rw [List.take_add_one, he, List.map_append]; rfl
            rw [et, ← List.append_assoc]
            exact HdsIn.snoc (r := (r.1, e)) ⟨q9, t, t9, rfl, List.Mem.head _⟩ (hH.mono fun p hp => List.Mem.tail _ hp)
          case to => rw [List.length_append, List.length_singleton]; omega
          case tp =>
            intro p hp
            rcases List.mem_cons.mp hp with rfl | hp
            · exact g1
            · exact ht3 p hp
          case tq =>
            intro p hp
            rcases List.mem_cons.mp hp with rfl | hp
            · exact Nat.ne_of_gt (g4 _ (List.Mem.tail _ (List.mem_append_right _ (List.Mem.head _))))
            · exact hT3ne p hp
        case donee =>
          intro m₁ news₁ h7 tk7 hp34 hb7 F7 N7
          refine hide fun GG back => ?_
          obtain ⟨hvs, n0, tl3, o3, rfl, rfl, hH, hvl, ht3, hT3ne⟩ := hp34
          refine back ?_
          clear back GG
          clear F1 N1
          (try dsimp only)
          (try k_fold)
          k_steps
          rename Fr _ _ _ _ => F1
          rename News _ _ _ _ => N1
          have hel : es.length = r.2.length := by have := hS.length; rwa [List.length_map] at this
          refine hTT1 _ _ ?_
          refine' TurnGT.mk (news' := (hl, lstN hvs n0) :: (dx, dictOf [tabEnt w (tk0 + 1) hl] 1) :: (I, instObj 245 dx) :: (tl3 ++ RS)) F1 N1 ?tA ?tB ?tC ?tD ⟨hvs, n0, tl3, _, _, _, ?tM, rfl, ?tN, ?tO, ht3⟩
          case tA => exact List.Mem.tail _ (List.Mem.tail _ (List.Mem.tail _ (List.mem_append_right _ (List.Mem.head _))))
          case tB =>
            intro p hp
            simp only [List.mem_cons, List.mem_append] at hp ⊢
            rcases hp with h | h | h | h | h <;> simp [h]
          case tC =>
            intro p hp
            simp only [List.mem_cons, List.mem_append] at hp
            rcases hp with rfl | rfl | rfl | h | h
            · exact hI5
            · exact hnI _ (List.Mem.tail _ (List.Mem.head _))
            · exact hnI _ (List.Mem.tail _ (List.Mem.tail _ (List.Mem.head _)))
            · have hne := N1 p (List.Mem.tail _ (List.Mem.tail _ (List.Mem.tail _ (List.mem_append_left _ h))))
              exact hT3ne p h
            · exact hnI p (List.Mem.tail _ (List.Mem.tail _ (List.Mem.tail _ (List.mem_append_right _ h))))
          case tD =>
            intro p hp
            rw [List.mem_singleton.mp hp]
            exact List.Mem.tail _ (List.Mem.tail _ (List.Mem.tail _ (List.mem_append_right _ (mRS _ mR))))
          case tM =>
            refine map3 fun y h1 h2 h3 => ?_
            simp [setO, h1, h2, h3]
          case tN =>
            have et : prsUpto num (i + 1) = prsUpto num i ++ r.2.map fun e => (r.1, e) := by
              unfold prsUpto
              have hr' : (roadsOf num)[i]? = some r := hr
              rw [List.take_add_one, hr', List.flatMap_append]
              simp
            rw [et]
            rw [List.take_of_length_le (by omega)] at hH
            exact hH
          case tO => omega
      case doner =>
        intro m₁ news₁ h5 tk5 hp35 hR5 F5 N5
        refine hide fun GG back => ?_
        obtain ⟨hvs, n0, tl3, p1, p2, p3, rfl, rfl, hH, hvl, ht3⟩ := hp35
        refine back ?_
        clear back GG
        clear F1 N2
        (try dsimp only)
        (try k_fold)
        k_steps
        refine ⟨?_⟩
        rename Fr _ _ _ _ => F1
        rename News _ _ _ _ => N1
        have mD : (d, oD) ∈ RS := by rw [← hRS]; exact List.Mem.head _
        have mT : ∀ p ∈ tl2 ++ LD, p ∈ RS := by rw [← hRS]; exact fun p hp => List.Mem.tail _ hp
        have up3 : ∀ p ∈ RS, p ∈ (hl, lstN hvs n0) :: (dx, dictOf [tabEnt w (tk0 + 1) hl] 1) :: (I, instObj 245 dx) :: (tl3 ++ RS) := fun p hp => List.Mem.tail _ (List.Mem.tail _ (List.Mem.tail _ (List.mem_append_right _ hp)))
        k_dflt (refine' lead (Cx.mk ?k1l ?k2l ?k3l C1 C2 ?k4l ?k5l ?k6l) ?k7l ?k8l F1 R d rvs rn oD kvs N1 (up3 _ (mRS _ mR)) (up3 _ mD) hDd (roadsOf num) (ppOf num) (hRv.mono fun p hp => up3 _ (mRS _ (hsub _ hp))) (hPI.mono fun p hp => up3 _ (mT _ hp)) (leadOk (leadAll num hn1)) ?kRl)
        case k1l => k_asm
        case k2l => k_asm
        case k3l => k_asm
        case k4l => exact rfl
        case k5l => first | decide | ktr_room
        case k6l => first | decide | ktr_units
        case k7l => first | decide | ktr_room
        case k8l => first | decide | ktr_units
        intro h6 tk6 F6 N6
        clear F1 N1
        (try dsimp only)
        (try k_fold)
        k_steps
        refine ⟨?_⟩
        rename Fr _ _ _ _ => F1
        rename News _ _ _ _ => N1
        refine hide fun GG back => ?_
        obtain ⟨j1, j2, j3, j4, j5, j6, j7⟩ := joinB_of (joinAll num hn1)
        refine back ?_
        clear back GG
        have hl40 : hvs.length < 40 := by
          have hnum4 : (roadsOf num).length = 4 := (netOk num 3 (by omega)).2.2
          have := hRv.length
          have h4 : rvs.length = 4 := this.trans hnum4
          omega
        have hprs : prsUpto num rvs.length = prsOf num := by
          unfold prsUpto prsOf
          rw [List.take_of_length_le]
          exact Nat.le_of_eq hRv.length.symm
        rw [hprs] at hH
        have h68d : 68 < d := ld _ (hin _ (List.Mem.tail _ (List.Mem.head _)))
        obtain ⟨NJ, hNJ⟩ : ∃ NJ, (hl, lstN hvs n0) :: (dx, dictOf [tabEnt w (tk0 + 1) hl] 1) :: (I, instObj 245 dx) :: (d, oD) :: (q, tup2 (.ref R) (.ref fi)) :: (61, tabObj ps2) :: (R, lstN rvs rn) :: (fi, lstN fvs fn) :: (tl3 ++ (tl2 ++ tl)) = NJ := ⟨_, rfl⟩
        have m68 : (68, tabObj ps) ∈ LD := hin _ (List.Mem.tail _ (List.Mem.head _))
        have mq : (q, tup2 (.ref R) (.ref fi)) ∈ LD := hin _ (List.Mem.head _)
        have m61 : (61, tabObj ps2) ∈ LD := hin _ (List.Mem.tail _ (List.Mem.tail _ (List.Mem.head _)))
        have mT2 : ∀ p ∈ tl2, p ∈ RS := fun p hp => mT p (List.mem_append_left _ hp)
        have hdl68 : d < hl := hRSl _ mD
        have hddx : d < dx := v8.1
        have hdxI : dx < I := v9
        have hNJ68 : ∀ p ∈ NJ, p.1 ≠ 68 := by
          rw [← hNJ]
          intro p hp
          simp only [List.mem_cons, List.mem_append] at hp
          have e1 := ltN h68d
          have e2 := ltN hdl68
          have e3 := ltN hddx
          have e4 := ltN hdxI
          rcases hp with rfl | rfl | rfl | rfl | rfl | rfl | rfl | rfl | hp | hp | hp
          · refine neN ?_; (try dsimp only); omega
          · refine neN ?_; (try dsimp only); omega
          · refine neN ?_; (try dsimp only); omega
          · refine neN ?_; (try dsimp only); omega
          · exact hq
          · exact (show (61 : Nat) ≠ 68 by decide)
          · exact hR
          · exact hfi
          · have := ltN (ht3 p hp)
            refine neN ?_; omega
          · exact Nat.ne_of_gt (lt2 p hp _ m68)
          · exact htl p hp
        have N7 := news_sub (l' := (68, tabObj ps) :: NJ) N1 (by
          rw [← hNJ]
          intro p hp
          simp only [List.mem_cons, List.mem_append] at hp
          rcases hp with rfl | rfl | rfl | rfl | rfl | rfl | rfl | rfl | rfl | hp | hp | hp
          · exact up3 _ (mRS _ m68)
          · exact List.Mem.head _
          · exact List.Mem.tail _ (List.Mem.head _)
          · exact List.Mem.tail _ (List.Mem.tail _ (List.Mem.head _))
          · exact up3 _ mD
          · exact up3 _ (mRS _ mq)
          · exact up3 _ (mRS _ m61)
          · exact up3 _ (mRS _ mR)
          · exact up3 _ (mRS _ mFi)
          · exact List.Mem.tail _ (List.Mem.tail _ (List.Mem.tail _ (List.mem_append_left _ hp)))
          · exact up3 _ (mT2 _ hp)
          · exact up3 _ (mRS _ (hsub _ hp)))
        have hPJ : PartsIn NJ kvs (ppOf num) := hPI.monoL fun l vs n hp => by
          rw [← hNJ]
          refine List.Mem.tail _ (List.Mem.tail _ (List.Mem.tail _ (List.Mem.tail _ ?_)))
          rcases List.mem_append.mp hp with hp | hp
          · exact List.Mem.tail _ (List.Mem.tail _ (List.Mem.tail _ (List.Mem.tail _ (List.mem_append_right _ (List.mem_append_left _ hp)))))
          · rw [← hLD] at hp
            rcases List.mem_cons.mp hp with e | hp
            · rw [e]; exact List.Mem.head _
            rcases List.mem_cons.mp hp with e | hp
            · exact absurd (congrArg (fun x : Addr × Obj => x.2.cls) e) (by simp [tabObj])
            rcases List.mem_cons.mp hp with e | hp
            · rw [e]; exact List.Mem.tail _ (List.Mem.head _)
            rcases List.mem_cons.mp hp with e | hp
            · rw [e]; exact List.Mem.tail _ (List.Mem.tail _ (List.Mem.head _))
            rcases List.mem_cons.mp hp with e | hp
            · rw [e]; exact List.Mem.tail _ (List.Mem.tail _ (List.Mem.tail _ (List.Mem.head _)))
            exact List.Mem.tail _ (List.Mem.tail _ (List.Mem.tail _ (List.Mem.tail _ (List.mem_append_right _ (List.mem_append_right _ hp)))))
        have hstJ : TabSt 71 4 q_d2i ps NJ := hst.mono fun p hp => by
          rw [← hNJ]
          exact List.Mem.tail _ (List.Mem.tail _ (List.Mem.tail _ (List.Mem.tail _ (List.Mem.tail _ (List.Mem.tail _ (List.Mem.tail _ (List.Mem.tail _ (List.mem_append_right _ (List.mem_append_right _ hp)))))))))
        have hHJ : HdsIn NJ hvs (prsOf num) := hH.mono fun p hp => by
          rw [← hNJ]
          exact List.Mem.tail _ (List.Mem.tail _ (List.Mem.tail _ (List.Mem.tail _ (List.Mem.tail _ (List.Mem.tail _ (List.Mem.tail _ (List.Mem.tail _ (List.mem_append_left _ hp))))))))
        have k1J : (d, oD) ∈ NJ := by rw [← hNJ]; exact List.Mem.tail _ (List.Mem.tail _ (List.Mem.tail _ (List.Mem.head _)))
        have k2J : (hl, lstN hvs n0) ∈ NJ := by rw [← hNJ]; exact List.Mem.head _
        have k3J : (dx, dictOf [tabEnt w (tk0 + 1) hl] 1) ∈ NJ := by rw [← hNJ]; exact List.Mem.tail _ (List.Mem.head _)
        have k4J : (I, instObj 245 dx) ∈ NJ := by rw [← hNJ]; exact List.Mem.tail _ (List.Mem.tail _ (List.Mem.head _))
        have hDs : (d == sysModules) = false := by
          have e1 := ltN h68d
          exact beq_eq_false_iff_ne.mpr (Nat.ne_of_gt (Nat.lt_trans (show (1 : Nat) < 68 by decide) e1))
        have m61J : (61, tabObj ps2) ∈ NJ := by rw [← hNJ]; exact List.Mem.tail _ (List.Mem.tail _ (List.Mem.tail _ (List.Mem.tail _ (List.Mem.tail _ (List.Mem.head _)))))
        clear hNJ N1
        k_dflt (refine' joined (Cx.mk ?k1j ?k2j ?k3j C1 C2 ?k4j ?k5j ?k6j) ?k7j ?k8j F1 d I oD kvs ps N7 hNJ68 hstJ k1J hDd hDs (ppOf num) hPJ j1 j2 j3 (tk0 + 1) dx hl hvs n0 1 k2J k3J k4J (prsOf num) hl40 hHJ (fun p hp => (j5 p hp).1) j4 j7 ?kRj)
        case k1j => k_asm
        case k2j => k_asm
        case k3j => k_asm
        case k4j => exact rfl
        case k5j => first | decide | ktr_room
        case k6j => first | decide | ktr_units
        case k7j => first | decide | ktr_room
        case k8j => first | decide | ktr_units
        intro psx h8 tk8 F8 N8
        clear F1 N7
        (try dsimp only)
        (try k_fold)
        k_steps
        )
end Mine

end
theorem PySem.Challenge.cw_tl0060_01_holds : PySem.Challenge.rw_tl0060_01.Holds :=
  Mine.top0
