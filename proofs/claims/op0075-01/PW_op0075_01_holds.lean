import PyProof.Rows.All
import Wide.All
import OpenK.AllK
import Wide.FinOn
import PySem.Challenge.RW_op0075_01
open PySem PySem.W PyProof.Rows
set_option Elab.async false
set_option maxRecDepth 100000
set_option maxHeartbeats 4000000
set_option linter.unusedVariables false
set_option autoImplicit false
set_option compiler.extract_closed false
namespace Mine
/-! what of the text's heap is leaned on: the objects, with the bodies of the defs taken from the text itself -/
noncomputable def stAt (n : Nat) : Option Stmt := PySem.Challenge.pw_op0075_01.main.body[n]?
noncomputable def subAt (n k : Nat) : Option Stmt := match stAt n with
  | some (.ClassDef _ _ _ body _ _ _ _ _ _ _) => body[k]?
  | _ => none
noncomputable def defName : Option Stmt → Str
  | some (.FunctionDef n _ _ _ _ _ _ _ _ _) => n
  | _ => ""
noncomputable def defArgs : Option Stmt → Arguments
  | some (.FunctionDef _ a _ _ _ _ _ _ _ _) => a
  | _ => ⟨[], [], none, [], [], none, []⟩
noncomputable def defBody : Option Stmt → List Stmt
  | some (.FunctionDef _ _ b _ _ _ _ _ _ _) => b
  | _ => []
noncomputable def defScope : Option Stmt → Scope
  | some (.FunctionDef _ _ _ _ _ _ s _ _ _) => s
  | _ => { kind := .function, names := [], isGenerator := false, isCoroutine := false }
noncomputable def fnO (st : Option Stmt) (q : Str) (df : Value) (m : Str) (t : Tok) (c : Addr) : Obj :=
  { cls := .type "function", data := .func { name := defName st, qualname := q, params := defArgs st, body := .stmts (defBody st), scope := defScope st, globals := 3, closure := [], defaults := df, kwdefaults := .none, pyModule := .str m t, code := .ref c } }
noncomputable def tupO : Obj := { cls := .type "tuple", data := .seq #[] }
noncomputable def KH (P : Params) : Frag := [
  (2, { cls := .none, data := .dict #[] }),
  (3, { cls := .type "dict", data := .dict #[{ hash := PyData.keyHash P "__name__", key := .str "__name__" 165, val := .str "law_op0075_01" 399 }, { hash := PyData.keyHash P "__doc__", key := .str "__doc__" 166, val := .none }, { hash := PyData.keyHash P "__package__", key := .str "__package__" 167, val := .none }, { hash := PyData.keyHash P "__loader__", key := .str "__loader__" 168, val := .builtin "__main__.__loader__#opaque" }, { hash := PyData.keyHash P "__spec__", key := .str "__spec__" 169, val := .none }, { hash := PyData.keyHash P "__annotations__", key := .str "__annotations__" 170, val := .ref 6 }, { hash := PyData.keyHash P "__builtins__", key := .str "__builtins__" 171, val := .ref 4 }, { hash := PyData.keyHash P "__file__", key := .str "__file__" 173, val := .str "/claim/cut.py" 172 }, { hash := PyData.keyHash P "__cached__", key := .str "__cached__" 174, val := .none }, { hash := PyData.keyHash P "_wall", key := .str "_wall" 193, val := .ref 21 }, { hash := PyData.keyHash P "unorderable_list_difference", key := .str "unorderable_list_difference" 205, val := .ref 28 }, { hash := PyData.keyHash P "three_way_cmp", key := .str "three_way_cmp" 213, val := .ref 35 }, { hash := PyData.keyHash P "S_IFMT", key := .str "S_IFMT" 222, val := .ref 42 }, { hash := PyData.keyHash P "S_IFDIR", key := .str "S_IFDIR" 224, val := .int 16384 223 }, { hash := PyData.keyHash P "S_IFCHR", key := .str "S_IFCHR" 226, val := .int 8192 225 }, { hash := PyData.keyHash P "S_IFBLK", key := .str "S_IFBLK" 228, val := .int 24576 227 }, { hash := PyData.keyHash P "S_IFREG", key := .str "S_IFREG" 230, val := .int 32768 229 }, { hash := PyData.keyHash P "S_IFIFO", key := .str "S_IFIFO" 232, val := .int 4096 231 }, { hash := PyData.keyHash P "S_IFLNK", key := .str "S_IFLNK" 234, val := .int 40960 233 }, { hash := PyData.keyHash P "S_IFSOCK", key := .str "S_IFSOCK" 236, val := .int 49152 235 }, { hash := PyData.keyHash P "S_ISUID", key := .str "S_ISUID" 238, val := .int 2048 237 }, { hash := PyData.keyHash P "S_ISGID", key := .str "S_ISGID" 240, val := .int 1024 239 }, { hash := PyData.keyHash P "S_ISVTX", key := .str "S_ISVTX" 242, val := .int 512 241 }, { hash := PyData.keyHash P "S_IRUSR", key := .str "S_IRUSR" 244, val := .int 256 243 }, { hash := PyData.keyHash P "S_IWUSR", key := .str "S_IWUSR" 246, val := .int 128 245 }, { hash := PyData.keyHash P "S_IXUSR", key := .str "S_IXUSR" 248, val := .int 64 247 }, { hash := PyData.keyHash P "S_IRGRP", key := .str "S_IRGRP" 250, val := .int 32 249 }, { hash := PyData.keyHash P "S_IWGRP", key := .str "S_IWGRP" 252, val := .int 16 251 }, { hash := PyData.keyHash P "S_IXGRP", key := .str "S_IXGRP" 254, val := .int 8 253 }, { hash := PyData.keyHash P "S_IROTH", key := .str "S_IROTH" 256, val := .int 4 255 }, { hash := PyData.keyHash P "S_IWOTH", key := .str "S_IWOTH" 258, val := .int 2 257 }, { hash := PyData.keyHash P "S_IXOTH", key := .str "S_IXOTH" 260, val := .int 1 259 }, { hash := PyData.keyHash P "_filemode_table", key := .str "_filemode_table" 286, val := .ref 75 }, { hash := PyData.keyHash P "filemode", key := .str "filemode" 298, val := .ref 82 }, { hash := PyData.keyHash P "sep", key := .str "sep" 300, val := .str "/" 299 }, { hash := PyData.keyHash P "_kind", key := .str "_kind" 311, val := .ref 89 }, { hash := PyData.keyHash P "_c_path", key := .str "_c_path" 324, val := .ref 96 }, { hash := PyData.keyHash P "_splitroot", key := .str "_splitroot" 333, val := .ref 103 }, { hash := PyData.keyHash P "_normpath", key := .str "_normpath" 348, val := .ref 110 }, { hash := PyData.keyHash P "normpath", key := .str "normpath" 356, val := .ref 117 }, { hash := PyData.keyHash P "_Ignore", key := .str "_Ignore" 398, val := .ref 140 }, { hash := PyData.keyHash P "_law_row", key := .str "_law_row" 412, val := .ref 151 }, { hash := PyData.keyHash P "_law_tree", key := .str "_law_tree" 428, val := .ref 158 }, { hash := PyData.keyHash P "_law_reader", key := .str "_law_reader" 434, val := .ref 163 }, { hash := PyData.keyHash P "_law_told", key := .str "_law_told" 440, val := .ref 168 }, { hash := PyData.keyHash P "_law_listing", key := .str "_law_listing" 446, val := .ref 173 }, { hash := PyData.keyHash P "_law_nearest", key := .str "_law_nearest" 455, val := .ref 180 }, { hash := PyData.keyHash P "law", key := .str "law" 461, val := .ref 185 }] 48 }),
  (15, tupO),
  (17, { cls := .type "tuple", data := .seq #[.str "k" 190] }),
  (18, tupO),
  (20, { cls := .type "code", data := .fields #[.str "_wall" 187, .str "_wall" 188, .str "/claim/cut.py" 189, .int 1 0, .int 1 0, .int 0 0, .int 0 0, .int 3 0, .ref 15, .bool true, .int 181 0, .ref 16, .none, .ref 17, .ref 18, .ref 19, .int 191 0, .int 1 0, .str "/claim/cut.py" 192] }),
  (21, fnO (stAt 0) "_wall" .none "__main__" 164 20),
  (22, tupO),
  (24, { cls := .type "tuple", data := .seq #[.str "expected" 199, .str "actual" 200, .str "missing" 201, .str "item" 202] }),
  (25, tupO),
  (27, { cls := .type "code", data := .fields #[.str "unorderable_list_difference" 196, .str "unorderable_list_difference" 197, .str "/claim/cut.py" 198, .int 5 0, .int 2 0, .int 0 0, .int 0 0, .int 3 0, .ref 22, .bool true, .int 181 0, .ref 23, .none, .ref 24, .ref 25, .ref 26, .int 203 0, .int 5 0, .str "/claim/cut.py" 204] }),
  (28, fnO (stAt 2) "unorderable_list_difference" .none "cpy313.unittest.util" 194 27),
  (29, tupO),
  (31, { cls := .type "tuple", data := .seq #[.str "x" 209, .str "y" 210] }),
  (32, tupO),
  (34, { cls := .type "code", data := .fields #[.str "three_way_cmp" 206, .str "three_way_cmp" 207, .str "/claim/cut.py" 208, .int 14 0, .int 2 0, .int 0 0, .int 0 0, .int 3 0, .ref 29, .bool true, .int 181 0, .ref 30, .none, .ref 31, .ref 32, .ref 33, .int 211 0, .int 14 0, .str "/claim/cut.py" 212] }),
  (35, fnO (stAt 3) "three_way_cmp" .none "cpy313.unittest.util" 194 34),
  (36, tupO),
  (38, { cls := .type "tuple", data := .seq #[.str "mode" 219] }),
  (39, tupO),
  (41, { cls := .type "code", data := .fields #[.str "S_IFMT" 216, .str "S_IFMT" 217, .str "/claim/cut.py" 218, .int 17 0, .int 1 0, .int 0 0, .int 0 0, .int 3 0, .ref 36, .bool true, .int 181 0, .ref 37, .none, .ref 38, .ref 39, .ref 40, .int 220 0, .int 17 0, .str "/claim/cut.py" 221] }),
  (42, fnO (stAt 5) "S_IFMT" .none "cpy313.stat" 214 41),
  (43, { cls := .type "tuple", data := .seq #[.int 40960 233, .str "l" 261] }),
  (44, { cls := .type "tuple", data := .seq #[.int 49152 235, .str "s" 262] }),
  (45, { cls := .type "tuple", data := .seq #[.int 32768 229, .str "-" 263] }),
  (46, { cls := .type "tuple", data := .seq #[.int 24576 227, .str "b" 264] }),
  (47, { cls := .type "tuple", data := .seq #[.int 16384 223, .str "d" 265] }),
  (48, { cls := .type "tuple", data := .seq #[.int 8192 225, .str "c" 266] }),
  (49, { cls := .type "tuple", data := .seq #[.int 4096 231, .str "p" 267] }),
  (50, { cls := .type "tuple", data := .seq #[.ref 43, .ref 44, .ref 45, .ref 46, .ref 47, .ref 48, .ref 49] }),
  (51, { cls := .type "tuple", data := .seq #[.int 256 243, .str "r" 268] }),
  (52, { cls := .type "tuple", data := .seq #[.ref 51] }),
  (53, { cls := .type "tuple", data := .seq #[.int 128 245, .str "w" 269] }),
  (54, { cls := .type "tuple", data := .seq #[.ref 53] }),
  (55, { cls := .type "tuple", data := .seq #[.int 2112 270, .str "s" 271] }),
  (56, { cls := .type "tuple", data := .seq #[.int 2048 237, .str "S" 272] }),
  (57, { cls := .type "tuple", data := .seq #[.int 64 247, .str "x" 273] }),
  (58, { cls := .type "tuple", data := .seq #[.ref 55, .ref 56, .ref 57] }),
  (59, { cls := .type "tuple", data := .seq #[.int 32 249, .str "r" 274] }),
  (60, { cls := .type "tuple", data := .seq #[.ref 59] }),
  (61, { cls := .type "tuple", data := .seq #[.int 16 251, .str "w" 275] }),
  (62, { cls := .type "tuple", data := .seq #[.ref 61] }),
  (63, { cls := .type "tuple", data := .seq #[.int 1032 276, .str "s" 277] }),
  (64, { cls := .type "tuple", data := .seq #[.int 1024 239, .str "S" 278] }),
  (65, { cls := .type "tuple", data := .seq #[.int 8 253, .str "x" 279] }),
  (66, { cls := .type "tuple", data := .seq #[.ref 63, .ref 64, .ref 65] }),
  (67, { cls := .type "tuple", data := .seq #[.int 4 255, .str "r" 280] }),
  (68, { cls := .type "tuple", data := .seq #[.ref 67] }),
  (69, { cls := .type "tuple", data := .seq #[.int 2 257, .str "w" 281] }),
  (70, { cls := .type "tuple", data := .seq #[.ref 69] }),
  (71, { cls := .type "tuple", data := .seq #[.int 513 282, .str "t" 283] }),
  (72, { cls := .type "tuple", data := .seq #[.int 512 241, .str "T" 284] }),
  (73, { cls := .type "tuple", data := .seq #[.int 1 259, .str "x" 285] }),
  (74, { cls := .type "tuple", data := .seq #[.ref 71, .ref 72, .ref 73] }),
  (75, { cls := .type "tuple", data := .seq #[.ref 50, .ref 52, .ref 54, .ref 58, .ref 60, .ref 62, .ref 66, .ref 68, .ref 70, .ref 74] }),
  (76, tupO),
  (78, { cls := .type "tuple", data := .seq #[.str "mode" 290, .str "perm" 291, .str "index" 292, .str "table" 293, .str "bit" 294, .str "char" 295] }),
  (79, tupO),
  (81, { cls := .type "code", data := .fields #[.str "filemode" 287, .str "filemode" 288, .str "/claim/cut.py" 289, .int 39 0, .int 1 0, .int 0 0, .int 0 0, .int 3 0, .ref 76, .bool true, .int 181 0, .ref 77, .none, .ref 78, .ref 79, .ref 80, .int 296 0, .int 39 0, .str "/claim/cut.py" 297] }),
  (82, fnO (stAt 26) "filemode" .none "cpy313.stat" 214 81),
  (83, tupO),
  (85, { cls := .type "tuple", data := .seq #[.str "name" 306, .str "x" 307, .str "t" 308] }),
  (86, tupO),
  (88, { cls := .type "code", data := .fields #[.str "_kind" 303, .str "_kind" 304, .str "/claim/cut.py" 305, .int 58 0, .int 2 0, .int 0 0, .int 0 0, .int 3 0, .ref 83, .bool true, .int 181 0, .ref 84, .none, .ref 85, .ref 86, .ref 87, .int 309 0, .int 58 0, .str "/claim/cut.py" 310] }),
  (89, fnO (stAt 29) "_kind" .none "os.path" 301 88),
  (90, tupO),
  (92, { cls := .type "tuple", data := .seq #[.str "name" 315, .str "cname" 316, .str "argname" 317, .str "args" 318, .str "kwargs" 319, .str "x" 320, .str "k" 321] }),
  (93, tupO),
  (95, { cls := .type "code", data := .fields #[.str "_c_path" 312, .str "_c_path" 313, .str "/claim/cut.py" 314, .int 79 0, .int 5 0, .int 0 0, .int 0 0, .int 3 0, .ref 90, .bool true, .int 181 0, .ref 91, .none, .ref 92, .ref 93, .ref 94, .int 322 0, .int 79 0, .str "/claim/cut.py" 323] }),
  (96, fnO (stAt 30) "_c_path" .none "os.path" 301 95),
  (97, tupO),
  (99, { cls := .type "tuple", data := .seq #[.str "p" 328, .str "sep" 329, .str "empty" 330] }),
  (100, tupO),
  (102, { cls := .type "code", data := .fields #[.str "_splitroot" 325, .str "_splitroot" 326, .str "/claim/cut.py" 327, .int 90 0, .int 1 0, .int 0 0, .int 0 0, .int 3 0, .ref 97, .bool true, .int 181 0, .ref 98, .none, .ref 99, .ref 100, .ref 101, .int 331 0, .int 90 0, .str "/claim/cut.py" 332] }),
  (103, fnO (stAt 31) "_splitroot" .none "os.path" 301 102),
  (104, tupO),
  (106, { cls := .type "tuple", data := .seq #[.str "path" 337, .str "sep" 338, .str "dot" 339, .str "dotdot" 340, .str "_" 341, .str "initial_slashes" 342, .str "comps" 343, .str "new_comps" 344, .str "comp" 345] }),
  (107, tupO),
  (109, { cls := .type "code", data := .fields #[.str "_normpath" 334, .str "_normpath" 335, .str "/claim/cut.py" 336, .int 99 0, .int 1 0, .int 0 0, .int 0 0, .int 3 0, .ref 104, .bool true, .int 181 0, .ref 105, .none, .ref 106, .ref 107, .ref 108, .int 346 0, .int 99 0, .str "/claim/cut.py" 347] }),
  (110, fnO (stAt 32) "_normpath" .none "os.path" 301 109),
  (111, tupO),
  (113, { cls := .type "tuple", data := .seq #[.str "args" 352, .str "kwargs" 353] }),
  (114, tupO),
  (116, { cls := .type "code", data := .fields #[.str "normpath" 349, .str "normpath" 350, .str "/claim/cut.py" 351, .int 118 0, .int 0 0, .int 0 0, .int 0 0, .int 15 0, .ref 111, .bool true, .int 181 0, .ref 112, .none, .ref 113, .ref 114, .ref 115, .int 354 0, .int 118 0, .str "/claim/cut.py" 355] }),
  (117, fnO (stAt 33) "normpath" .none "os.path" 301 116),
  (125, { cls := .type "tuple", data := .seq #[.none, .none] }),
  (126, tupO),
  (129, { cls := .type "code", data := .fields #[.str "__init__" 371, .str "_Ignore.__init__" 372, .str "/claim/cut.py" 373, .int 123 0, .int 3 0, .int 0 0, .int 0 0, .int 3 0, .ref 126, .bool true, .int 181 0, .ref 127, .none, .none, .none, .ref 128, .int 374 0, .int 123 0, .str "/claim/cut.py" 375] }),
  (130, fnO (subAt 35 0) "_Ignore.__init__" (.ref 125) "cpy313.trace" 357 129),
  (131, tupO),
  (133, { cls := .type "tuple", data := .seq #[.str "self" 380, .str "filename" 381, .str "modulename" 382, .str "mod" 383, .str "d" 384] }),
  (134, tupO),
  (136, { cls := .type "code", data := .fields #[.str "names" 377, .str "_Ignore.names" 378, .str "/claim/cut.py" 379, .int 128 0, .int 3 0, .int 0 0, .int 0 0, .int 3 0, .ref 131, .bool true, .int 181 0, .ref 132, .none, .ref 133, .ref 134, .ref 135, .int 385 0, .int 128 0, .str "/claim/cut.py" 386] }),
  (137, fnO (subAt 35 1) "_Ignore.names" .none "cpy313.trace" 357 136),
  (138, { cls := .type "tuple", data := .seq #[.str "_dirs" 388, .str "_ignore" 389, .str "_mods" 390] }),
  (139, { cls := .type "dict", data := .dict #[{ hash := PyData.keyHash P "__module__", key := .str "__module__" 366, val := .str "cpy313.trace" 357 }, { hash := PyData.keyHash P "__firstlineno__", key := .str "__firstlineno__" 370, val := .int 121 369 }, { hash := PyData.keyHash P "__init__", key := .str "__init__" 376, val := .ref 130 }, { hash := PyData.keyHash P "names", key := .str "names" 387, val := .ref 137 }, { hash := PyData.keyHash P "__static_attributes__", key := .str "__static_attributes__" 391, val := .ref 138 }, { hash := PyData.keyHash P "__dict__", key := .str "__dict__" 393, val := .ref 141 }, { hash := PyData.keyHash P "__weakref__", key := .str "__weakref__" 395, val := .ref 142 }, { hash := PyData.keyHash P "__doc__", key := .str "__doc__" 396, val := .none }] 4 }),
  (140, { cls := .type "type", data := .cls { name := "_Ignore", bases := [.type "object"], mro := [.ref 140, .type "object"], ns := 139, qualname := "_Ignore" }, slots := #[none, none, some (.str "_Ignore" 359), some (.str "_Ignore" 367), some (.builtin "object.__new__"), some (.bool true)] }),
  (141, { cls := .type "getset_descriptor", data := .fields #[.str "__dict__" 392, .ref 140, .builtin "function.__dict__", .builtin "function.__dict__#set"] }),
  (142, { cls := .type "getset_descriptor", data := .fields #[.str "__weakref__" 394, .ref 140, .builtin "ExceptionGroup.__weakref__", .none] }),
  (145, tupO),
  (147, { cls := .type "tuple", data := .seq #[.str "mode" 404, .str "row" 405, .str "place" 406, .str "special" 407, .str "ends" 408, .str "figure" 409] }),
  (148, tupO),
  (150, { cls := .type "code", data := .fields #[.str "_law_row" 401, .str "_law_row" 402, .str "/claim/cut.py" 403, .int 148 0, .int 1 0, .int 0 0, .int 0 0, .int 3 0, .ref 145, .bool true, .int 181 0, .ref 146, .none, .ref 147, .ref 148, .ref 149, .int 410 0, .int 148 0, .str "/claim/cut.py" 411] }),
  (151, fnO (stAt 37) "_law_row" .none "law_op0075_01" 399 150),
  (152, tupO),
  (154, { cls := .type "tuple", data := .seq #[.str "numbers" 416, .str "total" 417, .str "folders" 418, .str "k" 419, .str "number" 420, .str "w" 421, .str "up" 422, .str "path" 423, .str "one" 424, .str "other" 425] }),
  (155, tupO),
  (157, { cls := .type "code", data := .fields #[.str "_law_tree" 413, .str "_law_tree" 414, .str "/claim/cut.py" 415, .int 154 0, .int 1 0, .int 0 0, .int 0 0, .int 3 0, .ref 152, .bool true, .int 181 0, .ref 153, .none, .ref 154, .ref 155, .ref 156, .int 426 0, .int 154 0, .str "/claim/cut.py" 427] }),
  (158, fnO (stAt 38) "_law_tree" .none "law_op0075_01" 399 157),
  (159, tupO),
  (162, { cls := .type "code", data := .fields #[.str "_law_reader" 429, .str "_law_reader" 430, .str "/claim/cut.py" 431, .int 165 0, .int 2 0, .int 0 0, .int 0 0, .int 3 0, .ref 159, .bool true, .int 181 0, .ref 160, .none, .none, .none, .ref 161, .int 432 0, .int 165 0, .str "/claim/cut.py" 433] }),
  (163, fnO (stAt 39) "_law_reader" .none "law_op0075_01" 399 162),
  (164, tupO),
  (167, { cls := .type "code", data := .fields #[.str "_law_told" 435, .str "_law_told" 436, .str "/claim/cut.py" 437, .int 168 0, .int 2 0, .int 0 0, .int 0 0, .int 3 0, .ref 164, .bool true, .int 181 0, .ref 165, .none, .none, .none, .ref 166, .int 438 0, .int 168 0, .str "/claim/cut.py" 439] }),
  (168, fnO (stAt 40) "_law_told" .none "law_op0075_01" 399 167),
  (169, tupO),
  (172, { cls := .type "code", data := .fields #[.str "_law_listing" 441, .str "_law_listing" 442, .str "/claim/cut.py" 443, .int 171 0, .int 3 0, .int 0 0, .int 0 0, .int 3 0, .ref 169, .bool true, .int 181 0, .ref 170, .none, .none, .none, .ref 171, .int 444 0, .int 171 0, .str "/claim/cut.py" 445] }),
  (173, fnO (stAt 41) "_law_listing" .none "law_op0075_01" 399 172),
  (174, tupO),
  (176, { cls := .type "tuple", data := .seq #[.str "folders" 450, .str "held" 451, .str "f" 452] }),
  (177, tupO),
  (179, { cls := .type "code", data := .fields #[.str "_law_nearest" 447, .str "_law_nearest" 448, .str "/claim/cut.py" 449, .int 177 0, .int 3 0, .int 0 0, .int 0 0, .int 3 0, .ref 174, .bool true, .int 181 0, .ref 175, .none, .ref 176, .ref 177, .ref 178, .int 453 0, .int 177 0, .str "/claim/cut.py" 454] }),
  (180, fnO (stAt 42) "_law_nearest" .none "law_op0075_01" 399 179),
  (181, tupO),
  (184, { cls := .type "code", data := .fields #[.str "law" 456, .str "law" 457, .str "/claim/cut.py" 458, .int 181 0, .int 1 0, .int 0 0, .int 0 0, .int 3 0, .ref 181, .bool true, .int 181 0, .ref 182, .none, .none, .none, .ref 183, .int 459 0, .int 181 0, .str "/claim/cut.py" 460] }),
  (185, fnO (stAt 43) "law" .none "law_op0075_01" 399 184)]
noncomputable def khAs : List Addr := [2, 3, 15, 17, 18, 20, 21, 22, 24, 25, 27, 28, 29, 31, 32, 34, 35, 36, 38, 39, 41, 42, 43, 44, 45, 46, 47, 48, 49, 50, 51, 52, 53, 54, 55, 56, 57, 58, 59, 60, 61, 62, 63, 64, 65, 66, 67, 68, 69, 70, 71, 72, 73, 74, 75, 76, 78, 79, 81, 82, 83, 85, 86, 88, 89, 90, 92, 93, 95, 96, 97, 99, 100, 102, 103, 104, 106, 107, 109, 110, 111, 113, 114, 116, 117, 125, 126, 129, 130, 131, 133, 134, 136, 137, 138, 139, 140, 141, 142, 145, 147, 148, 150, 151, 152, 154, 155, 157, 158, 159, 162, 163, 164, 167, 168, 169, 172, 173, 174, 176, 177, 179, 180, 181, 184, 185]
theorem khAs_eq (P : Params) : khAs = (KH P).map (·.1) := rfl

/-- what stands of the heap and is not ours to change -/
abbrev Fx := Addr → Obj → Prop
/-- what is ours: addresses, and what is known of the object there -/
abbrev Own := List (Addr × (Obj → Prop))
abbrev Vars := List (Str × Option Value)

structure Gr (w : World) (h : Heap) : Prop where
  k : (KH w.params).In h
  top : ∃ mg mb, h.Ns mainGlobals mg ∧ h.Ns builtinsNs mb ∧ ∀ x : Str, x ≠ "__name__" → mb x = bootBuiltins x
  nolim : h.NoLimit

theorem Gr.keeps {w : World} {h h' : Heap} (g : Gr w h) (hk : ∀ b o, h.get? b = some o → h'.get? b = some o) : Gr w h' :=
  ⟨g.k.keeps hk, let ⟨mg, mb, a, b, c⟩ := g.top; ⟨mg, mb, a.keeps hk, b.keeps hk, c⟩, g.nolim.keeps hk⟩

def Gd (w : World) (B : Fx) : Prop := ∃ h₀, Gr w h₀ ∧ ∀ b o, h₀.get? b = some o → B b o

structure Lg (w : World) (Z : Shared) (B : Fx) (own : Own) (h : Heap) (g : Array GenState) (q : OsState) : Prop where
  gd : Gd w B
  keep : ∀ b o, B b o → h.get? b = some o
  has : ∀ p ∈ own, ∃ o, h.get? p.1 = some o ∧ p.2 o
  apart : ∀ p ∈ own, ∀ o, ¬ B p.1 o
  nodup : (own.map (·.1)).Nodup
  gens : g = Z.gens
  os : q = Z.os

abbrev At (w : World) (Z : Shared) (B : Fx) (own : Own) (s : Shared) : Prop := Lg w Z B own s.heap s.gens s.os

/-- everything that stood stands -/
structure Kp (s s' : Shared) : Prop where
  keep : ∀ b o, s.heap.get? b = some o → s'.heap.get? b = some o
  gens : s'.gens = s.gens
  os : s'.os = s.os

theorem Kp.refl (s : Shared) : Kp s s := ⟨fun _ _ e => e, rfl, rfl⟩
theorem Kp.trans {a b c : Shared} (x : Kp a b) (y : Kp b c) : Kp a c := ⟨fun _ _ e => y.keep _ _ (x.keep _ _ e), y.gens.trans x.gens, y.os.trans x.os⟩

section
variable {w : World} {Z : Shared} {B B' : Fx} {own own' : Own} {h h' : Heap} {g : Array GenState} {q : OsState} {s s' : Shared}

theorem Lg.gr (S : Lg w Z B own h g q) : Gr w h := let ⟨_, g, k⟩ := S.gd; g.keeps fun b o e => S.keep b o (k b o e)

theorem Lg.kp (S : At w Z (fun b o => Z.heap.get? b = some o) own s) : Kp Z s := ⟨S.keep, S.gens, S.os⟩

theorem Lg.keeps (S : Lg w Z B own h g q) (hk : ∀ b o, h.get? b = some o → h'.get? b = some o) : Lg w Z B own h' g q :=
  ⟨S.gd, fun b o e => hk b o (S.keep b o e), fun p hp => let ⟨o, e, x⟩ := S.has p hp; ⟨o, hk _ _ e, x⟩, S.apart, S.nodup, S.gens, S.os⟩
theorem Lg.on (S : At w Z B own s) (k : Kp s s') : At w Z B own s' :=
  ⟨S.gd, fun b o e => k.keep b o (S.keep b o e), fun p hp => let ⟨o, e, x⟩ := S.has p hp; ⟨o, k.keep _ _ e, x⟩, S.apart, S.nodup, k.gens.trans S.gens, k.os.trans S.os⟩
theorem Lg.push (S : Lg w Z B own h g q) (o : Obj) : Lg w Z B own (h.push o) g q := S.keeps fun _ _ e => Heap.get?_push_of_some o e

theorem Lg.get (S : Lg w Z B own h g q) {a : Addr} {P : Obj → Prop} (hm : (a, P) ∈ own) : ∃ o, h.get? a = some o ∧ P o := S.has _ hm

/-- one entry of the ledger changed -/
inductive Upd (a : Addr) (P P' : Obj → Prop) : Own → Own → Prop where
  | here {r : Own} : Upd a P P' ((a, P) :: r) ((a, P') :: r)
  | next {p : Addr × (Obj → Prop)} {r r' : Own} : Upd a P P' r r' → Upd a P P' (p :: r) (p :: r')

theorem Upd.addrs {a : Addr} {P P' : Obj → Prop} (u : Upd a P P' own own') : own'.map (·.1) = own.map (·.1) := by
  induction u with
  | here => rfl
  | next _ ih => simp only [List.map_cons, ih]
theorem Upd.mem {a : Addr} {P P' : Obj → Prop} (u : Upd a P P' own own') : (a, P) ∈ own := by
  induction u with
  | here => exact .head _
  | next _ ih => exact .tail _ ih
theorem Upd.split {a : Addr} {P P' : Obj → Prop} (u : Upd a P P' own own') : (own.map (·.1)).Nodup → ∀ p ∈ own', p = (a, P') ∨ (p ∈ own ∧ p.1 ≠ a) := by
  induction u with
  | here =>
    intro hn p hp
    rcases List.mem_cons.mp hp with rfl | hp
    · exact .inl rfl
    · refine .inr ⟨.tail _ hp, ?_⟩
      simp only [List.map_cons, List.nodup_cons] at hn
      exact fun e => hn.1 (e ▸ List.mem_map_of_mem hp)
  | next u ih =>
    intro hn p hp
    simp only [List.map_cons, List.nodup_cons] at hn
    rcases List.mem_cons.mp hp with rfl | hp
    · exact .inr ⟨.head _, fun e => hn.1 (e ▸ List.mem_map_of_mem u.mem)⟩
    · rcases ih hn.2 p hp with x | x
      · exact .inl x
      · exact .inr ⟨.tail _ x.1, x.2⟩

/-- the object at a is changed, all else stands -/
theorem Lg.upd {a : Addr} {P P' : Obj → Prop} {o' : Obj} (S : Lg w Z B own h g q) (u : Upd a P P' own own') (hk : ∀ b o, b ≠ a → h.get? b = some o → h'.get? b = some o)
    (ho : h'.get? a = some o') (hp : P' o') : Lg w Z B own' h' g q where
  gd := S.gd
  keep := fun b o e => hk b o (fun q => S.apart _ u.mem o (q ▸ e)) (S.keep b o e)
  has := fun p hp' => by
    rcases u.split S.nodup p hp' with rfl | ⟨m, ne⟩
    · exact ⟨o', ho, hp⟩
    · obtain ⟨o, e, x⟩ := S.has p m; exact ⟨o, hk _ _ ne e, x⟩
  apart := fun p hp' o => by
    rcases u.split S.nodup p hp' with rfl | ⟨m, _⟩
    · exact S.apart _ u.mem o
    · exact S.apart _ m o
  nodup := by rw [u.addrs]; exact S.nodup
  gens := S.gens
  os := S.os
/-- what is known of an object, weakened -/
theorem Lg.weak {a : Addr} {P P' : Obj → Prop} (S : Lg w Z B own h g q) (u : Upd a P P' own own') (hp : ∀ o, P o → P' o) : Lg w Z B own' h g q :=
  let ⟨_, e, x⟩ := S.get u.mem; S.upd u (fun _ _ _ e => e) e (hp _ x)
/-- a new object that is ours -/
theorem Lg.add {a : Addr} {P : Obj → Prop} {o : Obj} (S : Lg w Z B own h g q) (hn : h.get? a = none) (hk : ∀ b o, h.get? b = some o → h'.get? b = some o) (ho : h'.get? a = some o) (hp : P o) :
    Lg w Z B ((a, P) :: own) h' g q where
  gd := S.gd
  keep := fun b o e => hk b o (S.keep b o e)
  has := fun p hp' => by
    rcases List.mem_cons.mp hp' with rfl | m
    · exact ⟨o, ho, hp⟩
    · obtain ⟨o, e, x⟩ := S.has p m; exact ⟨o, hk _ _ e, x⟩
  apart := fun p hp' o' e => by
    rcases List.mem_cons.mp hp' with rfl | m
    · have := S.keep _ _ e; rw [hn] at this; cases this
    · exact S.apart p m o' e
  nodup := by
    rw [List.map_cons, List.nodup_cons]
    refine ⟨fun m => ?_, S.nodup⟩
    obtain ⟨p, hp, e⟩ := List.mem_map.mp m
    obtain ⟨o, e', _⟩ := S.has p hp
    rw [e] at e'; rw [hn] at e'; cases e'
  gens := S.gens
  os := S.os
theorem Lg.addPush {P : Obj → Prop} (S : Lg w Z B own h g q) (o : Obj) (hp : P o) (hf : o.isFreed = false := by rfl) : Lg w Z B ((h.objs.size, P) :: own) (h.push o) g q :=
  S.add (by cases e : h.get? h.objs.size with
    | none => rfl
    | some o' => exact absurd (Heap.lt_size e) (Nat.lt_irrefl _)) (fun _ _ e => Heap.get?_push_of_some o e) (Heap.get?_push_size _ hf) hp
/-- ours no more, and forgotten -/
theorem Lg.drop (S : Lg w Z B own h g q) (hs : own'.Sublist own) : Lg w Z B own' h g q :=
  ⟨S.gd, S.keep, fun p hp => S.has p (hs.subset hp), fun p hp => S.apart p (hs.subset hp), S.nodup.sublist (hs.map _), S.gens, S.os⟩

/-- all of the heap but what is ours -/
def AllBut (own : Own) (h : Heap) : Fx := fun b o => h.get? b = some o ∧ b ∉ own.map (·.1)
theorem Lg.all (S : Lg w Z B own h g q) : Lg w Z (AllBut own h) own h g q :=
  ⟨let ⟨h₀, g, k⟩ := S.gd; ⟨h₀, g, fun b o e => ⟨S.keep b o (k b o e), fun m => by
      obtain ⟨p, hp, e'⟩ := List.mem_map.mp m
      exact S.apart p hp o (e' ▸ k b o e)⟩⟩,
    fun _ _ e => e.1, S.has, fun p hp o e => e.2 (List.mem_map_of_mem hp), S.nodup, S.gens, S.os⟩
theorem Lg.sub_all (S : Lg w Z B own h g q) : ∀ b o, B b o → AllBut own h b o := fun b o e => ⟨S.keep b o e, fun m => by
  obtain ⟨p, hp, e'⟩ := List.mem_map.mp m
  exact S.apart p hp o (e' ▸ e)⟩
theorem Lg.anti (S : Lg w Z B' own h g q) (hs : ∀ b o, B b o → B' b o) (hg : Gd w B) : Lg w Z B own h g q :=
  ⟨hg, fun b o e => S.keep b o (hs b o e), S.has, fun p hp o e => S.apart p hp o (hs _ _ e), S.nodup, S.gens, S.os⟩
theorem Lg.perm (S : Lg w Z B own h g q) (hs : own'.Perm own) : Lg w Z B own' h g q :=
  ⟨S.gd, S.keep, fun p hp => S.has p (hs.subset hp), fun p hp => S.apart p (hs.subset hp), (hs.map _).nodup_iff.mpr S.nodup, S.gens, S.os⟩
end

/-- a frame's names -/
def HasV (l : Vars) (o : Obj) : Prop := (l.map (·.1)).Nodup ∧ ∃ es ep, o.data = .dict es ep ∧ StrKeys es ∧ ∀ x v, (x, some v) ∈ l → nsFind es x = some v
def IsCell (v : Option Value) (o : Obj) : Prop := o.data = .cell v
def IsL (items : List Value) (o : Obj) : Prop := ∃ n, o = { cls := .type "list", data := .seq items.toArray n }
def IsT (items : List Value) (o : Obj) : Prop := ∃ n, o = { cls := .type "tuple", data := .seq items.toArray n }

inductive Put (x : Str) (v : Option Value) : Vars → Vars → Prop where
  | here {u : Option Value} {r : Vars} : Put x v ((x, u) :: r) ((x, v) :: r)
  | next {p : Str × Option Value} {r r' : Vars} : Put x v r r' → Put x v (p :: r) (p :: r')
theorem Put.keys {x : Str} {v : Option Value} {l l' : Vars} (u : Put x v l l') : l'.map (·.1) = l.map (·.1) := by
  induction u with
  | here => rfl
  | next _ ih => simp only [List.map_cons, ih]
theorem Put.key {x : Str} {v : Option Value} {l l' : Vars} (u : Put x v l l') : x ∈ l.map (·.1) := by
  induction u with
  | here => exact .head _
  | next _ ih => exact .tail _ ih
theorem Put.split {x : Str} {v : Option Value} {l l' : Vars} (u : Put x v l l') : (l.map (·.1)).Nodup → ∀ p ∈ l', p = (x, v) ∨ (p ∈ l ∧ p.1 ≠ x) := by
  induction u with
  | here =>
    intro hn p hp
    rcases List.mem_cons.mp hp with rfl | hp
    · exact .inl rfl
    · refine .inr ⟨.tail _ hp, ?_⟩
      simp only [List.map_cons, List.nodup_cons] at hn
      exact fun e => hn.1 (e ▸ List.mem_map_of_mem hp)
  | next u ih =>
    intro hn p hp
    simp only [List.map_cons, List.nodup_cons] at hn
    rcases List.mem_cons.mp hp with rfl | hp
    · exact .inr ⟨.head _, fun e => hn.1 (e ▸ u.key)⟩
    · rcases ih hn.2 p hp with x | x
      · exact .inl x
      · exact .inr ⟨.tail _ x.1, x.2⟩
/-- a name forgotten, or kept -/
theorem HasV.forget {x : Str} {l l' : Vars} {o : Obj} (u : Put x none l l') (h : HasV l o) : HasV l' o := by
  obtain ⟨hn, es, ep, hd, hk, hv⟩ := h
  refine ⟨by rw [u.keys]; exact hn, es, ep, hd, hk, fun y v hy => ?_⟩
  rcases u.split hn _ hy with e | ⟨m, _⟩
  · cases e
  · exact hv y v m

section
variable {M : Model} {A : Around} {E : Value → Shared → Prop} {w : World} {Z : Shared} {B : Fx} {own own' : Own} {s : Shared} {env : Env} {L : Addr} {l l' : Vars} {x : Str} {v : Value}

theorem Lg.hasV (S : At w Z B own s) (ho : (L, HasV l) ∈ own) (hx : (x, some v) ∈ l) : ∃ m, s.heap.Ns L m ∧ m x = some v := by
  obtain ⟨o, e, _, es, ep, hd, hk, hv⟩ := S.get ho
  exact ⟨nsFind es, ⟨o, es, ep, e, hd, hk, fun _ => rfl⟩, hv x v hx⟩

/-- a local name read -/
theorem ldLn {Q : Value → Shared → Prop} (S : At w Z B own s) (hL : env.locals = L) (ho : (L, HasV l) ∈ own) (hx : (x, some v) ∈ l) (hk : env.scope.kind = .function) (hl : env.kindOf x = some .local) (h : Q v s) :
    wpAny M A (loadName env x) Q E s := by
  subst hL
  obtain ⟨m, n, e⟩ := S.hasV ho hx
  exact wpAny_loadName_local hk hl n e h
theorem ldL {pos : Pos} {Q : Value → Shared → Prop} (S : At w Z B own s) (hL : env.locals = L) (ho : (L, HasV l) ∈ own) (hx : (x, some v) ∈ l) (hk : env.scope.kind = .function) (hl : env.kindOf x = some .local)
    (hd : (x == ("__debug__" : Str)) = false) (h : Q v s) : wpAny M A (eval (.Name x pos) env) Q E s := wpAny_Name (ldLn S hL ho hx hk hl h) hd
theorem ldCn {c : Addr} {Q : Value → Shared → Prop} (S : At w Z B own s) (hc : env.cells.lookup x = some c) (ho : (c, IsCell (some v)) ∈ own) (hk : env.scope.kind = .function) (hl : env.kindOf x = some .cell) (h : Q v s) :
    wpAny M A (loadName env x) Q E s := wpAny_loadName_cell hk hl hc (S.get ho) h
theorem ldC {c : Addr} {pos : Pos} {Q : Value → Shared → Prop} (S : At w Z B own s) (hc : env.cells.lookup x = some c) (ho : (c, IsCell (some v)) ∈ own) (hk : env.scope.kind = .function) (hl : env.kindOf x = some .cell)
    (hd : (x == ("__debug__" : Str)) = false) (h : Q v s) : wpAny M A (eval (.Name x pos) env) Q E s := wpAny_Name (ldCn S hc ho hk hl h) hd

theorem nsFind_of {h : Heap} {o : Obj} {a : Addr} {m : Str → Option Value} (n : h.Ns a m) (e : h.get? a = some o) : ∃ es ep, o.data = .dict es ep ∧ StrKeys es ∧ ∀ y, nsFind es y = m y := by
  obtain ⟨o', es, ep, e', r⟩ := n
  rw [e] at e'; cases e'
  exact ⟨es, ep, r⟩

theorem stL {Q : Unit → Shared → Prop} (S : At w Z B own s) (hL : env.locals = L) (u : Upd L (HasV l) (HasV l') own own') (p : Put x (some v) l l') (hk : env.scope.kind = .function) (hl : env.kindOf x = some .local)
    (h : ∀ s', At w Z B own' s' → Q () s') : wpAny M A (storeName env x v) Q E s := by
  subst hL
  obtain ⟨o, e, hn, es, ep, hd, hks, hv⟩ := S.get u.mem
  refine wpAny_storeName_local hl ⟨o, es, ep, e, hd, hks, fun _ => rfl⟩ (fun h' n' sb => h _ ?_) (by rw [hk]; rfl)
  obtain ⟨o', es', ep', e', hd', hk', hv'⟩ := n'
  refine S.upd u (fun b o hb e => sb.extBut b o hb e) e' ⟨by rw [p.keys]; exact hn, es', ep', hd', hk', fun y v' hy => ?_⟩
  rw [hv']
  rcases p.split hn _ hy with q | ⟨m, ne⟩
  · cases q; show (if x = x then some v else _) = some v; rw [if_pos rfl]
  · show (if y = x then some v else _) = some v'; rw [if_neg ne]; exact hv y v' m
theorem stC {c : Addr} {v₀ : Option Value} {Q : Unit → Shared → Prop} (S : At w Z B own s) (hc : env.cells.lookup x = some c) (u : Upd c (IsCell v₀) (IsCell (some v)) own own') (hk : env.scope.kind = .function)
    (hl : env.kindOf x = some .cell) (h : ∀ s', At w Z B own' s' → Q () s') : wpAny M A (storeName env x v) Q E s := by
  obtain ⟨o, e, hd⟩ := S.get u.mem
  refine wpAny_storeName_cell hk hl hc ⟨o, e, hd⟩ fun h' x' sb => h _ ?_
  obtain ⟨o', e', hd'⟩ := x'
  exact S.upd u (fun b o hb e => sb.extBut b o hb e) e' hd'

theorem glob_of {K : Frag} {h : Heap} {mg : Str → Option Value} {n : Str} {r : Option Value} (X : K.In h) (G : h.Ns mainGlobals mg) (e : nsIn K mainGlobals n = some r) : mg n = r := by
  cases r with
  | none => exact mg_none_of X G e
  | some v => exact mg_of X G e
/-- a name of the text's own -/
theorem ldG {pos : Pos} {Q : Value → Shared → Prop} (S : At w Z B own s) (e : nsIn (KH w.params) mainGlobals x = some (some v)) (hg : env.globals = mainGlobals) (hk : env.scope.kind = .function)
    (hx : env.kindOf x = some .globalImplicit) (hd : (x == ("__debug__" : Str)) = false) (h : Q v s) : wpAny M A (eval (.Name x pos) env) Q E s := by
  obtain ⟨mg, mb, g, _, _⟩ := S.gr.top
  exact Calls.Name_function_global hk hx (Calls.loadGlobal_global (env := env) (by rw [hg]; exact g) (glob_of S.gr.k g e) h) hd
/-- a name of the builtins -/
theorem ldB {pos : Pos} {Q : Value → Shared → Prop} (S : At w Z B own s) (hv : bootBuiltins x = some v) (e : nsIn (KH w.params) mainGlobals x = some none) (hg : env.globals = mainGlobals) (hb : env.builtins = builtinsNs)
    (hk : env.scope.kind = .function) (hx : env.kindOf x = some .globalImplicit) (hn : x ≠ "__name__") (hd : (x == ("__debug__" : Str)) = false) (h : Q v s) : wpAny M A (eval (.Name x pos) env) Q E s := by
  obtain ⟨mg, mb, g, b, c⟩ := S.gr.top
  exact Calls.Name_function_global hk hx (Calls.loadGlobal_builtin (env := env) (by rw [hg]; exact g) (glob_of S.gr.k g e) (by rw [hb]; exact b) ((c x hn).trans hv) h) hd
end

/-- room for k calls more -/
structure Rm (A : Around) (k : Nat) : Prop where
  d : A.depth + k < recursionLimit
  u : A.units + 10 * k < cLine
  h : A.handled = none
theorem Rm.deeper {A : Around} {k : Nat} (r : Rm A (k + 1)) (env : Env) : Rm (A.deeper env) k :=
  ⟨by have := r.d; show A.depth + 1 + k < _; omega, by have := r.u; show A.units + 3 + 10 * k < _; omega, r.h⟩
theorem Rm.le {A : Around} {k j : Nat} (r : Rm A k) (h : j ≤ k) : Rm A j := ⟨by have := r.d; omega, by have := r.u; omega, r.h⟩

/-- the frame's environment -/
structure EnvIs (env : Env) (L : Addr) (names : List (Str × NameKind)) (cells : List (Str × Addr)) : Prop where
  kind : env.scope.kind = .function
  loc : env.locals = L
  glob : env.globals = mainGlobals
  bi : env.builtins = builtinsNs
  kof : ∀ x k, (x, k) ∈ names → env.kindOf x = some k
  dbg : ∀ x k, (x, k) ∈ names → (x == ("__debug__" : Str)) = false
  cells : ∀ x c, (x, c) ∈ cells → env.cells.lookup x = some c
theorem EnvIs.inter {env : Env} {L : Addr} {names : List (Str × NameKind)} {cells : List (Str × Addr)} (e : EnvIs env L names cells) : interactive env = false := by
  unfold interactive; rw [e.kind]; rfl

def retOf : Flow → Value
  | .ret v => v
  | _ => .none

theorem lookup_nodup {α : Type} : ∀ {l : List (Str × α)} {x : Str} {v : α}, (l.map (·.1)).Nodup → (x, v) ∈ l → l.lookup x = some v
  | (y, u) :: r, x, v, hn, hm => by
    simp only [List.map_cons, List.nodup_cons] at hn
    rcases List.mem_cons.mp hm with e | m
    · cases e; simp
    · have : x ≠ y := fun e => hn.1 (e ▸ List.mem_map_of_mem (f := (·.1)) m)
      rw [List.lookup_cons, beq_eq_false_iff_ne.mpr this]
      exact lookup_nodup hn.2 m

def varsOf (binds : List (Str × Value)) (rest : List Str) : Vars := binds.map (fun p => (p.1, some p.2)) ++ rest.map fun x => (x, none)
theorem varsOf_keys (binds : List (Str × Value)) (rest : List Str) : (varsOf binds rest).map (·.1) = binds.map (·.1) ++ rest := by
  simp [varsOf, List.map_append, List.map_map, Function.comp_def]
theorem varsOf_mem {binds : List (Str × Value)} {rest : List Str} {x : Str} {v : Value} (h : (x, some v) ∈ varsOf binds rest) : (x, v) ∈ binds := by
  simp only [varsOf, List.mem_append, List.mem_map, Prod.mk.injEq] at h
  rcases h with ⟨p, hp, rfl, e⟩ | ⟨y, _, _, e⟩
  · cases e; exact hp
  · cases e

def namesOk (names : List (Str × NameKind)) : Bool := decide (names.map (·.1)).Nodup && names.all fun p => p.1 != ("__debug__" : Str)
def scopeOk (sc : Scope) : Bool := namesOk sc.names && !sc.isCoroutine && !sc.isGenerator && sc.kind == .function
def enterOk (sc : Scope) (ps rest : List Str) : Bool :=
  scopeOk sc && sc.names.all (fun p => p.2 != .cell) && ps.all (fun x => sc.names.lookup x == some .local) && decide (ps ++ rest).Nodup

theorem scope_kind {sc : Scope} (h : scopeOk sc = true) : sc.kind = .function := by
  simp only [scopeOk, Bool.and_eq_true, Bool.not_eq_true'] at h
  obtain ⟨_, k⟩ := h
  revert k; cases sc.kind <;> decide
theorem names_kof {names : List (Str × NameKind)} (h : namesOk names = true) : (∀ x k, (x, k) ∈ names → names.lookup x = some k) ∧ ∀ x k, (x, k) ∈ names → (x == ("__debug__" : Str)) = false := by
  simp only [namesOk, Bool.and_eq_true, decide_eq_true_eq] at h
  refine ⟨fun x k m => lookup_nodup h.1 m, fun x k m => ?_⟩
  have := List.all_eq_true.mp h.2 _ m
  simpa using this

section
variable {prog : Program} {w : World} {A : Around} {E : Value → Shared → Prop} {s : Shared} {Q : Value → Shared → Prop}

theorem Gr.gd (g : Gr w s.heap) : Gd w (fun b o => s.heap.get? b = some o) := ⟨s.heap, g, fun _ _ e => e⟩

/-- a def without cells is called -/
theorem enterB {f : Addr} {fd : FuncData} {body : List Stmt} {args : List Value} (ps rest : List Str) (binds : List (Str × Value)) {k : Nat} {oc : Value} {od : Option Addr} {osl : Array (Option Value)}
    (g : Gr w s.heap) (r : Rm A (k + 1)) (hK : (KH w.params).lookup f = some ⟨oc, od, .func fd, osl⟩) (hcd : codeIn (KH w.params) fd.code fd.qualname = true) (hbody : fd.body = .stmts body)
    (hbind : BindsTo s fd ⟨args, []⟩ binds) (hps : binds.map (·.1) = ps) (hok : enterOk fd.scope ps rest = true) (hgl : fd.globals = mainGlobals) (hbi : fd.builtins = builtinsNs)
    (h : ∀ A' env L s₁, EnvIs env L fd.scope.names [] → At w s (fun b o => s.heap.get? b = some o) [(L, HasV (varsOf binds rest))] s₁ → Rm A' k →
      wpAny (model prog w) A' (execs body env) (fun fl s' => Q (retOf fl) s') (fun _ _ => False) s₁) :
    wpAny (model prog w) A (call (.ref f) args) Q E s := by
  subst hps
  simp only [enterOk, Bool.and_eq_true, decide_eq_true_eq] at hok
  obtain ⟨⟨⟨hsc, hcell⟩, hloc⟩, hnd⟩ := hok
  have hk := scope_kind hsc
  have hnm : namesOk fd.scope.names = true := by simp only [scopeOk, Bool.and_eq_true] at hsc; exact hsc.1.1.1
  refine wpAny_call (codeAny_call_def (fd := fd) (body := body) (binds := binds) (by have := r.d; omega) (g.k _ _ hK) rfl g.nolim (codeRec_of g.k hcd) hbody hbind
    (fun x hx => by simpa using List.all_eq_true.mp hcell x hx) (fun x hx => by simpa using List.all_eq_true.mp hloc x.1 (List.mem_map_of_mem hx)) (fun h₁ hns hk₁ => ?_)
    (by simp only [scopeOk, Bool.and_eq_true, Bool.not_eq_true'] at hsc; exact hsc.1.1.2) (by simp only [scopeOk, Bool.and_eq_true, Bool.not_eq_true'] at hsc; exact hsc.1.2) hk)
  refine wpAny_mono (h _ _ s.heap.objs.size _ ⟨hk, rfl, hgl, hbi, (names_kof hnm).1, (names_kof hnm).2, fun x c m => nomatch m⟩ ?_ (r.deeper _)) (fun fl s' q => ?_) fun _ _ x => x.elim
  · obtain ⟨o, es, ep, e, hd, hks, hv⟩ := hns
    refine ⟨g.gd, hk₁, fun p hp => ?_, fun p hp o' e' => ?_, by simp, rfl, rfl⟩
    · cases List.mem_singleton.mp hp
      refine ⟨o, e, by rw [varsOf_keys]; exact hnd, es, ep, hd, hks, fun x v m => (hv x).trans ?_⟩
      have hb : (binds.map (·.1)).Nodup := (List.nodup_append.mp hnd).1
      exact lookup_nodup (by rw [List.map_reverse]; exact (List.reverse_perm _).nodup_iff.mpr hb) (List.mem_reverse.mpr (varsOf_mem m))
    · cases List.mem_singleton.mp hp
      exact absurd (Heap.lt_size e') (Nat.lt_irrefl _)
  · cases fl <;> exact q
theorem enter {f : Addr} {fd : FuncData} {body : List Stmt} {args : List Value} (ps rest : List Str) {k : Nat} {oc : Value} {od : Option Addr} {osl : Array (Option Value)}
    (g : Gr w s.heap) (r : Rm A (k + 1)) (hK : (KH w.params).lookup f = some ⟨oc, od, .func fd, osl⟩) (hcd : codeIn (KH w.params) fd.code fd.qualname = true) (hbody : fd.body = .stmts body)
    (hbind : bindArgs fd ⟨args, []⟩ = pure (ps.zip args)) (hps : (ps.zip args).map (·.1) = ps) (hok : enterOk fd.scope ps rest = true) (hgl : fd.globals = mainGlobals) (hbi : fd.builtins = builtinsNs)
    (h : ∀ A' env L s₁, EnvIs env L fd.scope.names [] → At w s (fun b o => s.heap.get? b = some o) [(L, HasV (varsOf (ps.zip args) rest))] s₁ → Rm A' k →
      wpAny (model prog w) A' (execs body env) (fun fl s' => Q (retOf fl) s') (fun _ _ => False) s₁) :
    wpAny (model prog w) A (call (.ref f) args) Q E s := enterB ps rest _ g r hK hcd hbody (BindsTo.of_eq hbind) hps hok hgl hbi h
end

/-- a builtin's name, not hidden by the text's own -/
def IsBi (P : Params) (x : Str) (v : Value) : Prop := nsIn (KH P) mainGlobals x = some none ∧ bootBuiltins x = some v ∧ x ≠ "__name__"
def IsGl (P : Params) (x : Str) (v : Value) : Prop := nsIn (KH P) mainGlobals x = some (some v)
theorem g_unorderable_list_difference (P : Params) : IsGl P "unorderable_list_difference" (.ref 28) := by unfold IsGl; kernel_rfl
theorem g_three_way_cmp (P : Params) : IsGl P "three_way_cmp" (.ref 35) := by unfold IsGl; kernel_rfl
theorem g_S_IFMT (P : Params) : IsGl P "S_IFMT" (.ref 42) := by unfold IsGl; kernel_rfl
theorem g_u_filemode_table (P : Params) : IsGl P "_filemode_table" (.ref 75) := by unfold IsGl; kernel_rfl
theorem g_filemode (P : Params) : IsGl P "filemode" (.ref 82) := by unfold IsGl; kernel_rfl
theorem g_u_kind (P : Params) : IsGl P "_kind" (.ref 89) := by unfold IsGl; kernel_rfl
theorem g_u_c_path (P : Params) : IsGl P "_c_path" (.ref 96) := by unfold IsGl; kernel_rfl
theorem g_u_splitroot (P : Params) : IsGl P "_splitroot" (.ref 103) := by unfold IsGl; kernel_rfl
theorem g_u_normpath (P : Params) : IsGl P "_normpath" (.ref 110) := by unfold IsGl; kernel_rfl
theorem g_normpath (P : Params) : IsGl P "normpath" (.ref 117) := by unfold IsGl; kernel_rfl
theorem g_u_Ignore (P : Params) : IsGl P "_Ignore" (.ref 140) := by unfold IsGl; kernel_rfl
theorem g_u_law_row (P : Params) : IsGl P "_law_row" (.ref 151) := by unfold IsGl; kernel_rfl
theorem g_u_law_tree (P : Params) : IsGl P "_law_tree" (.ref 158) := by unfold IsGl; kernel_rfl
theorem g_u_law_reader (P : Params) : IsGl P "_law_reader" (.ref 163) := by unfold IsGl; kernel_rfl
theorem g_u_law_told (P : Params) : IsGl P "_law_told" (.ref 168) := by unfold IsGl; kernel_rfl
theorem g_u_law_listing (P : Params) : IsGl P "_law_listing" (.ref 173) := by unfold IsGl; kernel_rfl
theorem g_u_law_nearest (P : Params) : IsGl P "_law_nearest" (.ref 180) := by unfold IsGl; kernel_rfl
theorem g_sep (P : Params) : ∃ t, IsGl P "sep" (.str "/" t) := ⟨_, by with_unfolding_all rfl⟩
theorem b_enumerate (P : Params) : IsBi P "enumerate" (.type "enumerate") := ⟨by kernel_rfl, by decide +kernel, by decide⟩
theorem b_range (P : Params) : IsBi P "range" (.type "range") := ⟨by kernel_rfl, by decide +kernel, by decide⟩
theorem b_len (P : Params) : IsBi P "len" (.builtin "len") := ⟨by kernel_rfl, by decide +kernel, by decide⟩
theorem b_list (P : Params) : IsBi P "list" (.type "list") := ⟨by kernel_rfl, by decide +kernel, by decide⟩
theorem b_sum (P : Params) : IsBi P "sum" (.builtin "sum") := ⟨by kernel_rfl, by decide +kernel, by decide⟩
theorem b_sorted (P : Params) : IsBi P "sorted" (.builtin "sorted") := ⟨by kernel_rfl, by decide +kernel, by decide⟩
theorem b_type (P : Params) : IsBi P "type" (.type "type") := ⟨by kernel_rfl, by decide +kernel, by decide⟩
theorem b_str (P : Params) : IsBi P "str" (.type "str") := ⟨by kernel_rfl, by decide +kernel, by decide⟩
theorem b_set (P : Params) : IsBi P "set" (.type "set") := ⟨by kernel_rfl, by decide +kernel, by decide⟩
theorem b_ValueError (P : Params) : IsBi P "ValueError" (.type "ValueError") := ⟨by kernel_rfl, by decide +kernel, by decide⟩

section
variable {M : Model} {A : Around} {E : Value → Shared → Prop} {w : World} {Z : Shared} {B : Fx} {own own' : Own} {s : Shared} {env : Env} {L : Addr} {l l' : Vars} {x : Str} {v : Value}
  {names : List (Str × NameKind)} {cells : List (Str × Addr)} {pos : Pos}
theorem nmL {Q : Value → Shared → Prop} (he : EnvIs env L names cells) (S : At w Z B own s) (hx : (x, NameKind.local) ∈ names) (ho : (L, HasV l) ∈ own) (hv : (x, some v) ∈ l) (h : Q v s) :
    wpAny M A (eval (.Name x pos) env) Q E s := ldL S he.loc ho hv he.kind (he.kof _ _ hx) (he.dbg _ _ hx) h
theorem nmLn {Q : Value → Shared → Prop} (he : EnvIs env L names cells) (S : At w Z B own s) (hx : (x, NameKind.local) ∈ names) (ho : (L, HasV l) ∈ own) (hv : (x, some v) ∈ l) (h : Q v s) :
    wpAny M A (loadName env x) Q E s := ldLn S he.loc ho hv he.kind (he.kof _ _ hx) h
theorem nmC {c : Addr} {Q : Value → Shared → Prop} (he : EnvIs env L names cells) (S : At w Z B own s) (hx : (x, NameKind.cell) ∈ names) (hc : (x, c) ∈ cells) (ho : (c, IsCell (some v)) ∈ own) (h : Q v s) :
    wpAny M A (eval (.Name x pos) env) Q E s := ldC S (he.cells _ _ hc) ho he.kind (he.kof _ _ hx) (he.dbg _ _ hx) h
theorem nmG {Q : Value → Shared → Prop} (he : EnvIs env L names cells) (S : At w Z B own s) (hx : (x, NameKind.globalImplicit) ∈ names) (hg : IsGl w.params x v) (h : Q v s) :
    wpAny M A (eval (.Name x pos) env) Q E s := ldG S hg he.glob he.kind (he.kof _ _ hx) (he.dbg _ _ hx) h
theorem nmB {Q : Value → Shared → Prop} (he : EnvIs env L names cells) (S : At w Z B own s) (hx : (x, NameKind.globalImplicit) ∈ names) (hg : IsBi w.params x v) (h : Q v s) :
    wpAny M A (eval (.Name x pos) env) Q E s := ldB S hg.2.1 hg.1 he.glob he.bi he.kind (he.kof _ _ hx) hg.2.2 (he.dbg _ _ hx) h
theorem sL {Q : Unit → Shared → Prop} (he : EnvIs env L names cells) (S : At w Z B own s) (hx : (x, NameKind.local) ∈ names) (u : Upd L (HasV l) (HasV l') own own') (p : Put x (some v) l l')
    (h : ∀ s', At w Z B own' s' → Q () s') : wpAny M A (storeName env x v) Q E s := stL S he.loc u p he.kind (he.kof _ _ hx) h
theorem sC {c : Addr} {v₀ : Option Value} {Q : Unit → Shared → Prop} (he : EnvIs env L names cells) (S : At w Z B own s) (hx : (x, NameKind.cell) ∈ names) (hc : (x, c) ∈ cells)
    (u : Upd c (IsCell v₀) (IsCell (some v)) own own') (h : ∀ s', At w Z B own' s' → Q () s') : wpAny M A (storeName env x v) Q E s := stC S (he.cells _ _ hc) u he.kind (he.kof _ _ hx) h
end


/-- a def of the text's own -/
def IsFn (f : Addr) : Prop := ∃ o fd, (∀ P, (KH P).lookup f = some o) ∧ o.data = .func fd
theorem fn_28 : IsFn 28 := ⟨_, _, fun _ => rfl, rfl⟩
theorem fn_35 : IsFn 35 := ⟨_, _, fun _ => rfl, rfl⟩
theorem fn_42 : IsFn 42 := ⟨_, _, fun _ => rfl, rfl⟩
theorem fn_82 : IsFn 82 := ⟨_, _, fun _ => rfl, rfl⟩
theorem fn_89 : IsFn 89 := ⟨_, _, fun _ => rfl, rfl⟩
theorem fn_96 : IsFn 96 := ⟨_, _, fun _ => rfl, rfl⟩
theorem fn_103 : IsFn 103 := ⟨_, _, fun _ => rfl, rfl⟩
theorem fn_110 : IsFn 110 := ⟨_, _, fun _ => rfl, rfl⟩
theorem fn_117 : IsFn 117 := ⟨_, _, fun _ => rfl, rfl⟩
theorem fn_151 : IsFn 151 := ⟨_, _, fun _ => rfl, rfl⟩
theorem fn_158 : IsFn 158 := ⟨_, _, fun _ => rfl, rfl⟩
theorem fn_163 : IsFn 163 := ⟨_, _, fun _ => rfl, rfl⟩
theorem fn_168 : IsFn 168 := ⟨_, _, fun _ => rfl, rfl⟩
theorem fn_173 : IsFn 173 := ⟨_, _, fun _ => rfl, rfl⟩
theorem fn_180 : IsFn 180 := ⟨_, _, fun _ => rfl, rfl⟩
theorem callFn {M : Model} {A : Around} {E : Value → Shared → Prop} {w : World} {s : Shared} {env : Env} {pos : Pos} {f : Addr} {e : Expr} {rest : List Expr} {Q : Value → Shared → Prop} (hf : IsFn f) (g : Gr w s.heap)
    (h : wpAny M A (spliced (backTo pos (starEach (e :: rest) env))) (fun vs s₁ => Gr w s₁.heap ∧ wpAny M A (call (.ref f) vs) Q E s₁) E s)
    (he : starEach (e :: rest) env = (false, eval e env) :: starEach rest env) : wpAny M A (callWith pos (.ref f) [] (backTo pos (starEach (e :: rest) env)) []) Q E s := by
  obtain ⟨o, fd, hK, hd⟩ := hf
  exact callWith_def_at (g.k _ _ (hK _)) hd (wpAny_mono h (fun vs s₁ q => ⟨q.1.k _ _ (hK _), q.2⟩) fun _ _ x => x) he
/-! loops -/
section
variable {w : World} {Z : Shared} {B : Fx} {own : Own} {h : Heap} {g : Array GenState} {q : OsState}
theorem Lg.notB (S : Lg w Z B own h g q) {a : Addr} (hn : h.get? a = none) (o : Obj) : ¬ B a o := fun e => by have := S.keep _ _ e; rw [hn] at this; cases this
theorem Lg.notOwn (S : Lg w Z B own h g q) {a : Addr} (hn : h.get? a = none) : a ∉ own.map (·.1) := fun m => by
  obtain ⟨p, hp, e⟩ := List.mem_map.mp m
  obtain ⟨o, e', _⟩ := S.has p hp
  rw [e, hn] at e'; cases e'
theorem Lg.notOwnB (S : Lg w Z B own h g q) {a : Addr} {o : Obj} (e : B a o) : a ∉ own.map (·.1) := fun m => by
  obtain ⟨p, hp, e'⟩ := List.mem_map.mp m
  exact S.apart p hp o (e' ▸ e)
theorem Lg.notOwnG (S : Lg w Z B own h g q) {a : Addr} (f : ∀ h', Gr w h' → ∃ o, h'.get? a = some o) : a ∉ own.map (·.1) := by
  obtain ⟨h₀, g₀, hb⟩ := S.gd
  obtain ⟨o, e⟩ := f h₀ g₀
  exact S.notOwnB (hb _ _ e)
theorem none_of_le {h : Heap} {a : Addr} (l : h.objs.size ≤ a) : h.get? a = none := by
  cases e : h.get? a with
  | none => rfl
  | some o => exact absurd (Heap.lt_size e) (Nat.not_lt.mpr l)

/-- the walk's own objects, held as they are -/
def pins (h : Heap) (wr : List Addr) : Own := wr.filterMap fun b => (h.get? b).map fun o => (b, fun o' => o' = o)
theorem pins_mem {h : Heap} {wr : List Addr} {b : Addr} {o : Obj} (hb : b ∈ wr) (e : h.get? b = some o) : (b, fun o' => o' = o) ∈ pins h wr :=
  List.mem_filterMap.mpr ⟨b, hb, by rw [e]; rfl⟩
theorem pins_of {h : Heap} {wr : List Addr} {p : Addr × (Obj → Prop)} (m : p ∈ pins h wr) : p.1 ∈ wr ∧ ∃ o, h.get? p.1 = some o ∧ p.2 o := by
  obtain ⟨b, hb, e⟩ := List.mem_filterMap.mp m
  cases q : h.get? b with
  | none => rw [q] at e; cases e
  | some o => rw [q] at e; cases e; exact ⟨hb, o, q, rfl⟩
theorem pins_addrs {h : Heap} : ∀ {wr : List Addr}, ((pins h wr).map (·.1)).Sublist wr
  | [] => .slnil
  | b :: r => by
    unfold pins
    rw [List.filterMap_cons]
    cases q : h.get? b with
    | none => exact (pins_addrs (wr := r)).cons _
    | some o => exact (pins_addrs (wr := r)).cons_cons _
theorem Lg.pinned {wr : List Addr} {own R : Own} (S : Lg w Z B (own ++ R) h g q) (hw : wr.Nodup) (hB : ∀ b ∈ wr, ∀ o, ¬ B b o) (ho : ∀ b ∈ wr, b ∉ (own ++ R).map (·.1)) :
    Lg w Z B (own ++ (pins h wr ++ R)) h g q := by
  have S' : Lg w Z B (pins h wr ++ (own ++ R)) h g q := by
    refine ⟨S.gd, S.keep, fun p hp => ?_, fun p hp o e => ?_, ?_, S.gens, S.os⟩
    · rcases List.mem_append.mp hp with m | m
      · exact (pins_of m).2
      · exact S.has p m
    · rcases List.mem_append.mp hp with m | m
      · exact hB _ (pins_of m).1 o e
      · exact S.apart p m o e
    · rw [List.map_append, List.nodup_append]
      refine ⟨hw.sublist pins_addrs, S.nodup, fun a ha b hb e => ?_⟩
      subst e
      exact ho a (pins_addrs.subset ha) hb
  refine S'.perm ?_
  rw [← List.append_assoc, ← List.append_assoc]
  exact List.Perm.append_right _ List.perm_append_comm
end

section
variable {prog : Program} {w : World} {A : Around} {E : Value → Shared → Prop} {s : Shared} {Z : Shared} {B : Fx} {env : Env} {Q : Flow → Shared → Prop}

/-- a for loop, by what holds between its turns -/
theorem for_turns {X : Type} {target : Expr} {body orelse : List Stmt} {I : Addr} {fp wr : List Addr} {n : Nat} {P Md : Nat → Value → Heap → Prop} {Stt : Nat → Heap → Prop} {RE : Value → Shared → Prop}
    (W : KTurns prog w A target I fp wr n P Md Stt) (own : X → Own) (R : Own) (x₀ : X) (has : ∀ x, (own x).map (·.1) = (own x₀).map (·.1)) (Inv : Fx → Nat → X → Prop)
    (mono : ∀ B₁ B₂ i x, (∀ b o, B₁ b o → B₂ b o) → Inv B₁ i x → Inv B₂ i x)
    (hlive : ∀ i h, Stt i h → ∀ b ∈ wr, ∃ o, h.get? b = some o) (hw : wr.Nodup)
    (S : At w Z B (own x₀ ++ R) s) (hst : Stt 0 s.heap) (hB : ∀ b ∈ wr, ∀ o, ¬ B b o) (hfp : ∀ b ∈ fp, b ∉ (own x₀ ++ R).map (·.1)) (h0 : Inv B 0 x₀)
    (turn : ∀ R' B₁ i v x s₁, R.Sublist R' → i < n → P i v s₁.heap → (∀ b o, B b o → B₁ b o) → Inv B₁ i x → At w Z B₁ (own x ++ R') s₁ →
      wpAny (model prog w) A (assign target env v) (fun _ s₃ => wpAny (model prog w) A (execs body env) (fun f s₄ => match f with
        | .next | .cont => ∃ B₂ x', (∀ b o, B₁ b o → B₂ b o) ∧ Inv B₂ (i + 1) x' ∧ At w Z B₂ (own x' ++ R') s₄
        | .brk => Q .next s₄
        | .ret v => Q (.ret v) s₄) (fun _ _ => False) s₃) (fun _ _ => False) s₁)
    (fin : ∀ B₁ x s₁, (∀ b o, B b o → B₁ b o) → Inv B₁ n x → At w Z B₁ (own x ++ R) s₁ → wpAny (model prog w) A (execs orelse env) Q (fun _ _ => False) s₁) :
    codeAny (model prog w) A (.forLoop target (.ref I) body orelse env) (fun r s' => match r with | .ok f => Q f s' | .error e => RE e s') s := by
  have hBw : ∀ b ∈ wr, b ∉ (own x₀ ++ R).map (·.1) := fun b hb => hfp b (W.sub b hb)
  have addrs : ∀ x R', (own x ++ R').map (·.1) = (own x₀ ++ R').map (·.1) := fun x R' => by rw [List.map_append, List.map_append, has x]
  refine codeAny_forLoop_any (fun k s' => ∃ B' x i, (∀ b o, B b o → B' b o) ∧ (∀ b ∈ wr, ∀ o, ¬ B' b o) ∧ Inv B' i x ∧ At w Z B' (own x ++ R) s' ∧ Stt i s'.heap ∧ i ≤ n ∧ k = n + 1 - i) ?_ (n + 1)
    ⟨B, x₀, 0, fun _ _ e => e, hB, h0, S, hst, Nat.zero_le _, rfl⟩
  rintro k s' ⟨B', x, i, hsub, hB', hinv, S', hst', hi, rfl⟩
  have hmove : ∀ (h₁ : Heap) (tk : Nat), (∀ b o, b ∉ wr → s'.heap.get? b = some o → h₁.get? b = some o) → At w Z B' (own x ++ R) { s' with heap := h₁, toks := tk } := fun h₁ tk hk =>
    ⟨S'.gd, fun b o e => hk b o (fun m => hB' b m o e) (S'.keep b o e), fun p hp => let ⟨o, e, y⟩ := S'.has p hp; ⟨o, hk _ _ (fun m => hBw _ m (by rw [← addrs x]; exact List.mem_map_of_mem hp)) e, y⟩, S'.apart, S'.nodup, S'.gens, S'.os⟩
  by_cases hlt : i < n
  · refine W.item i _ _ _ hlt hst' fun v h₁ tk₁ hMd hk₁ => ?_
    refine W.go i v _ _ _ hMd fun h₂ hP hst₂ hk₂ => ?_
    have S₂ : At w Z B' (own x ++ R) { s' with heap := h₂, toks := tk₁ } := hmove h₂ tk₁ fun b o hb e => hk₂ b o hb (hk₁ b o hb e)
    have S₃ := S₂.pinned hw hB' (fun b hb => by rw [addrs x]; exact hBw b hb)
    have S₄ := S₃.all
    refine wpAny_mono (turn _ _ i v x _ (List.sublist_append_right _ _) hlt hP (fun b o e => S₃.sub_all b o (hsub b o e)) (mono _ _ _ _ S₃.sub_all hinv) S₄) (fun _ s₃ h₃ => ?_) fun _ _ y => y.elim
    refine wpAny_mono h₃ (fun f s₄ h₄ => ?_) fun _ _ y => y.elim
    have next : (∃ B₂ x', (∀ b o, AllBut (own x ++ (pins h₂ wr ++ R)) h₂ b o → B₂ b o) ∧ Inv B₂ (i + 1) x' ∧ At w Z B₂ (own x' ++ (pins h₂ wr ++ R)) s₄) →
        ∃ m, m < n + 1 - i ∧ ∃ B' x i, (∀ b o, B b o → B' b o) ∧ (∀ b ∈ wr, ∀ o, ¬ B' b o) ∧ Inv B' i x ∧ At w Z B' (own x ++ R) s₄ ∧ Stt i s₄.heap ∧ i ≤ n ∧ m = n + 1 - i := by
      rintro ⟨B₂, x', hs₂, hinv₂, S₅⟩
      refine ⟨n + 1 - (i + 1), by omega, B₂, x', i + 1, fun b o e => hs₂ _ _ (S₃.sub_all b o (hsub b o e)), fun b hb o e => ?_, hinv₂, S₅.drop ?_, ?_, hlt, rfl⟩
      · obtain ⟨o', e'⟩ := hlive _ _ hst₂ b hb
        exact S₅.apart (b, fun o => o = o') (List.mem_append_right _ (List.mem_append_left _ (pins_mem hb e'))) o e
      · exact (List.Sublist.refl _).append (List.sublist_append_right _ _)
      · refine W.frame _ _ _ hst₂ fun b hb o e => ?_
        by_cases hbw : b ∈ wr
        · obtain ⟨o', e', q⟩ := S₅.has (b, fun o' => o' = o) (List.mem_append_right _ (List.mem_append_left _ (pins_mem hbw e)))
          exact (show o' = o from q) ▸ e'
        · refine S₅.keep b o (hs₂ b o ⟨e, fun m => ?_⟩)
          rw [List.map_append, List.map_append, List.mem_append, List.mem_append] at m
          have := hfp b hb
          rw [List.map_append, List.mem_append] at this
          rcases m with m | m | m
          · exact this (.inl (has x ▸ m))
          · exact hbw (pins_addrs.subset m)
          · exact this (.inr m)
    cases f with
    | next => exact next h₄
    | cont => exact next h₄
    | brk => exact h₄
    | ret v => exact h₄
  · have hin : i = n := by omega
    subst hin
    refine W.done _ _ _ hst' fun h₁ tk₁ hk₁ => ?_
    exact wpAny_mono (fin B' x _ hsub hinv (hmove h₁ tk₁ hk₁)) (fun _ _ y => y) fun _ _ y => y.elim
end

/-- what xv hands out, one after the other, when it is walked from s on -/
def Iters (prog : Program) (w : World) (A : Around) (Z : Shared) (B : Fx) (own : Own) (s : Shared) (xv : Value) (n : Nat) (V : Nat → Value → Prop) : Prop :=
  ∀ (Q : Value → Shared → Prop) (E : Value → Shared → Prop), (∀ I fp wr Stt s₂, At w Z B own s₂ → Kp s s₂ → Walks prog w A I fp wr n V Stt → Stt 0 s₂.heap → wr.Nodup → (∀ b ∈ wr, ∀ o, ¬ B b o) → (∀ b ∈ fp, b ∉ own.map (·.1)) →
    (∀ b ∈ fp, b < s₂.heap.objs.size) → (∀ i h, Stt i h → ∀ b ∈ wr, ∃ o, h.get? b = some o) →
    (∀ target i v s Q E, Stt i s.heap → Q () s → wpAny (model prog w) A (letOwnedTupleGo target (.ref I) v) Q E s) → Q (.ref I) s₂) → wpAny (model prog w) A (pyIter xv) Q E s

section
variable {prog : Program} {w : World} {A : Around} {s : Shared} {Z : Shared} {B : Fx} {own : Own}

theorem Kp.push (s : Shared) (o : Obj) (tk : Nat) : Kp s { s with heap := s.heap.push o, toks := tk } := ⟨fun _ _ e => Heap.get?_push_of_some o e, rfl, rfl⟩

theorem iters_list {l : Addr} {items : List Value} (hh : A.handled = none) (S : At w Z B own s) (hl : s.heap.IsList l items.toArray) (hlo : l ∉ own.map (·.1)) :
    Iters prog w A Z B own s (.ref l) items.length (fun i v => items[i]? = some v) := by
  intro Q E h
  obtain ⟨ol, eol, _⟩ := id hl
  have hlt : l ≠ s.heap.objs.size := Nat.ne_of_lt (Heap.lt_size eol)
  refine wpAny_pyIter_list hl ?_
  have S' := S.push { cls := .type "list_iterator", data := .fields #[.ref l, .int 0 0] }
  have W := Walks.list (prog := prog) (w := w) (A := A) hh s.heap.objs.size l hlt items.toArray
  simp only [List.size_toArray, List.getElem?_toArray] at W
  refine h _ _ _ _ { s with heap := s.heap.push { cls := .type "list_iterator", data := .fields #[.ref l, .int 0 0] } } S' (Kp.push s _ _) W ⟨⟨_, Heap.get?_push_size _ rfl, rfl, rfl⟩, hl.push _⟩ (by simp) (fun b hb o => ?_) (fun b hb => ?_) (fun b hb => ?_) (fun i h' st b hb => ?_) fun target i v s Q E st q => letGo_listiter st.1 q
  · cases List.mem_singleton.mp hb; exact S.notB (none_of_le (Nat.le_refl _)) o
  · rcases List.mem_cons.mp hb with rfl | hb
    · exact S.notOwn (none_of_le (Nat.le_refl _))
    · cases List.mem_singleton.mp hb; exact hlo
  · show b < (s.heap.push _).objs.size
    rw [Heap.size_push]
    rcases List.mem_cons.mp hb with rfl | hb
    · exact Nat.lt_succ_self _
    · cases List.mem_singleton.mp hb; exact Nat.lt_succ_of_lt (Heap.lt_size eol)
  · cases List.mem_singleton.mp hb; obtain ⟨o, e, _⟩ := st.1; exact ⟨o, e⟩

theorem iters_tuple {l : Addr} {items : List Value} (hh : A.handled = none) (S : At w Z B own s) (hl : s.heap.IsTuple l items.toArray) (hlo : l ∉ own.map (·.1)) :
    Iters prog w A Z B own s (.ref l) items.length (fun i v => items[i]? = some v) := by
  intro Q E h
  obtain ⟨ol, eol, r⟩ := id hl
  have hlt : l ≠ s.heap.objs.size := Nat.ne_of_lt (Heap.lt_size eol)
  refine wpAny_pyIter_tuple hl ?_
  have S' := S.push { cls := .type "tuple_iterator", data := .fields #[.ref l, .int 0 0] }
  have W := Walks.tuple (prog := prog) (w := w) (A := A) hh s.heap.objs.size l hlt items.toArray
  simp only [List.size_toArray, List.getElem?_toArray] at W
  refine h _ _ _ _ { s with heap := s.heap.push { cls := .type "tuple_iterator", data := .fields #[.ref l, .int 0 0] } } S' (Kp.push s _ _) W ⟨⟨_, Heap.get?_push_size _ rfl, rfl, rfl⟩, ⟨ol, Heap.get?_push_of_some _ eol, r⟩⟩ (by simp) (fun b hb o => ?_) (fun b hb => ?_) (fun b hb => ?_) (fun i h' st b hb => ?_) fun target i v s Q E st q => letGo_tupleiter st.1 q
  · cases List.mem_singleton.mp hb; exact S.notB (none_of_le (Nat.le_refl _)) o
  · rcases List.mem_cons.mp hb with rfl | hb
    · exact S.notOwn (none_of_le (Nat.le_refl _))
    · cases List.mem_singleton.mp hb; exact hlo
  · show b < (s.heap.push _).objs.size
    rw [Heap.size_push]
    rcases List.mem_cons.mp hb with rfl | hb
    · exact Nat.lt_succ_self _
    · cases List.mem_singleton.mp hb; exact Nat.lt_succ_of_lt (Heap.lt_size eol)
  · cases List.mem_singleton.mp hb; obtain ⟨o, e, _⟩ := st.1; exact ⟨o, e⟩

theorem letGo_rangeiter {E : Value → Shared → Prop} {target : Expr} {I : Addr} {x left step : Int} {v : Value} {Q' : Unit → Shared → Prop} {s' : Shared} (hit : IsRangeIter s'.heap I x left step) (h : Q' () s') :
    wpAny (model prog w) A (letOwnedTupleGo target (.ref I) v) Q' E s' := by
  unfold letOwnedTupleGo
  cases target <;> first
    | exact wpAny_pure h
    | (cases v <;> first
        | exact wpAny_pure h
        | (refine wpAny_bind (wpAny_load hit ?_)
           exact wpAny_pure h))

theorem iters_range {r : Addr} {b : Int} {t u v : Tok} (n : Nat) (hh : A.handled = none) (S : At w Z B own s) (hr : IsRange s.heap r 0 b 1 t u v) (hsmall : Builtin.Range.small 0 b 1 = true) (hn : Builtin.Range.rangeSize 0 b 1 = n) :
    Iters prog w A Z B own s (.ref r) n (fun i v => ∃ t, v = .int i t) := by
  intro Q E h
  refine wpAny_pyIter_range hr hsmall ?_
  have S' := S.push { cls := .type "range_iterator", data := .fields #[rawInt 0, rawInt (Builtin.Range.rangeSize 0 b 1), rawInt 1] }
  have W := Walks.range (prog := prog) (w := w) (A := A) hh s.heap.objs.size 0 1 n
  simp only [Int.mul_one, Int.zero_add] at W
  refine h _ _ _ _ { s with heap := s.heap.push { cls := .type "range_iterator", data := .fields #[rawInt 0, rawInt (Builtin.Range.rangeSize 0 b 1), rawInt 1] } } S' (Kp.push s _ _) W ?_ (by simp) (fun b hb o => ?_) (fun b hb => ?_) (fun b hb => ?_) (fun i h' st b hb => ?_) fun target i v s Q E st q => letGo_rangeiter st q
  · have := Heap.get?_push_size s.heap (o := { cls := .type "range_iterator", data := .fields #[rawInt 0, rawInt (Builtin.Range.rangeSize 0 b 1), rawInt 1] }) rfl
    rw [hn] at this ⊢
    simpa using this
  · cases List.mem_singleton.mp hb; exact S.notB (none_of_le (Nat.le_refl _)) o
  · cases List.mem_singleton.mp hb; exact S.notOwn (none_of_le (Nat.le_refl _))
  · show b < (s.heap.push _).objs.size
    rw [Heap.size_push]
    cases List.mem_singleton.mp hb; exact Nat.lt_succ_self _
  · cases List.mem_singleton.mp hb; exact ⟨_, st⟩
end

section
variable {prog : Program} {w : World} {A : Around} {E : Value → Shared → Prop} {s : Shared} {Z : Shared} {B : Fx} {env : Env} {Q : Flow → Shared → Prop}
theorem for_iter {X : Type} {target : Expr} {body orelse : List Stmt} {xv : Value} {n : Nat} {V : Nat → Value → Prop} {RE : Value → Shared → Prop} (own : X → Own) (R : Own) (x₀ : X)
    (W : Iters prog w A Z B (own x₀ ++ R) s xv n V) (Inv : Fx → Nat → X → Prop) (has : ∀ x, (own x).map (·.1) = (own x₀).map (·.1))
    (mono : ∀ B₁ B₂ i x, (∀ b o, B₁ b o → B₂ b o) → Inv B₁ i x → Inv B₂ i x) (h0 : Inv B 0 x₀)
    (turn : ∀ R' B₁ i v x s₁, R.Sublist R' → i < n → V i v → (∀ b o, B b o → B₁ b o) → Inv B₁ i x → At w Z B₁ (own x ++ R') s₁ →
      wpAny (model prog w) A (assign target env v) (fun _ s₃ => wpAny (model prog w) A (execs body env) (fun f s₄ => match f with
        | .next | .cont => ∃ B₂ x', (∀ b o, B₁ b o → B₂ b o) ∧ Inv B₂ (i + 1) x' ∧ At w Z B₂ (own x' ++ R') s₄
        | .brk => Q .next s₄
        | .ret v => Q (.ret v) s₄) (fun _ _ => False) s₃) (fun _ _ => False) s₁)
    (fin : ∀ B₁ x s₁, (∀ b o, B b o → B₁ b o) → Inv B₁ n x → At w Z B₁ (own x ++ R) s₁ → wpAny (model prog w) A (execs orelse env) Q (fun _ _ => False) s₁) :
    wpAny (model prog w) A (pyIter xv) (fun it s₂ => codeAny (model prog w) A (.forLoop target it body orelse env) (fun r s' => match r with | .ok f => Q f s' | .error e => RE e s') s₂) E s :=
  W _ _ fun I fp wr Stt s₂ S₂ _ Wk st hnd hB hfp _ hlive hgo =>
    for_turns (KTurns.ofWalks Wk fun i v s Q E st q => hgo target i v s Q E st q) own R x₀ has Inv mono hlive hnd S₂ st hB hfp h0 turn fin
end

/-- ours no more, and never changed again -/
theorem Lg.freeze {w : World} {Z : Shared} {B : Fx} {own : Own} {h : Heap} {g : Array GenState} {q : OsState} {a : Addr} {P : Obj → Prop} (S : Lg w Z B ((a, P) :: own) h g q) :
    ∃ B' o, (∀ b o, B b o → B' b o) ∧ B' a o ∧ P o ∧ Lg w Z B' own h g q := by
  have S' := S.drop (List.sublist_cons_self _ _)
  obtain ⟨o, e, p⟩ := S.has (a, P) (.head _)
  refine ⟨_, o, S'.sub_all, ⟨e, ?_⟩, p, S'.all⟩
  have := S.nodup
  rw [List.map_cons, List.nodup_cons] at this
  exact this.1
/-! enumerate over a tuple -/
section
variable {prog : Program} {w : World} {A : Around} {E : Value → Shared → Prop} {s : Shared}
open AutoSeq1 (wpAny_loadPart')

theorem nextOf_tuple_item {it t : Addr} {i : Nat} {items : Array Value} {x : Value} {Q : Value → Shared → Prop} (hit : s.heap.IsTupleIter it t i) (ht : s.heap.IsTuple t items) (hx : items[i]? = some x)
    (hQ : ∀ h', h'.IsTupleIter it t (i + 1) → Heap.SameBut it s.heap h' → Q x { s with heap := h' }) : wpAny (model prog w) A (Builtin.SmallTypes.nextOf (.ref it)) Q E s := by
  obtain ⟨o, ho, hc, hd⟩ := id hit
  obtain ⟨ol, hol, _, nl, hdl⟩ := ht
  unfold Builtin.SmallTypes.nextOf
  refine wpAny_bind (wpAny_callSpecial?_slot (name := Str.ofString "__next__") hit.typeIs F.slot_tuple_iterator_next
    (wpAny_call_entry F.slot_tuple_iterator_next hit.typeIs F.entry_tuple_iterator_next ?_ (F.args_tuple_iterator_next_1 _)))
  show wpAny _ _ (field (.ref it) 0 >>= _) _ _ s
  refine wpAny_bind (wpAny_field ho hd (x := .ref t) rfl ?_)
  show wpAny _ _ (if (Value.ref t == Value.none) = true then _ else _) _ _ s
  rw [if_neg (show ¬ ((Value.ref t == Value.none) = true) from Bool.false_ne_true)]
  show wpAny _ _ (field (.ref it) 1 >>= _) _ _ s
  refine wpAny_bind (wpAny_field ho hd (x := .int i 0) rfl ?_)
  show wpAny _ _ (seqItems? (.ref t) >>= _) _ _ s
  refine wpAny_bind (wpAny_seqItems hol hdl ?_)
  simp only [Int.toNat_natCast, hx]
  refine wpAny_bind (wpAny_setField ho hd (by simp) (wpAny_pure ⟨x, rfl, wpAny_pure (hQ _ ?_ (Heap.SameBut.update ..))⟩))
  exact ⟨_, Heap.get?_update_self _ ho (Obj.isFreed_of_fields (Obj.data_mapFields hd _)), (Obj.cls_mapFields ..).trans hc, by rw [Obj.data_mapFields hd]; simp [rawInt]⟩

theorem nextOf_tuple_end {it t : Addr} {i : Nat} {items : Array Value} {Q : Value → Shared → Prop} (hh : A.handled = none) (hit : s.heap.IsTupleIter it t i) (ht : s.heap.IsTuple t items) (hx : items[i]? = none)
    (hE : ∀ h' e, Heap.ExtBut it s.heap h' → (∃ o, h'.get? e = some o ∧ o.cls = .type "StopIteration") → E (.ref e) { s with heap := h' }) : wpAny (model prog w) A (Builtin.SmallTypes.nextOf (.ref it)) Q E s := by
  obtain ⟨o, ho, hc, hd⟩ := id hit
  obtain ⟨ol, hol, _, nl, hdl⟩ := ht
  unfold Builtin.SmallTypes.nextOf
  refine wpAny_bind (wpAny_callSpecial?_slot (name := Str.ofString "__next__") hit.typeIs F.slot_tuple_iterator_next
    (wpAny_call_entry F.slot_tuple_iterator_next hit.typeIs F.entry_tuple_iterator_next ?_ (F.args_tuple_iterator_next_1 _)))
  show wpAny _ _ (field (.ref it) 0 >>= _) _ _ s
  refine wpAny_bind (wpAny_field ho hd (x := .ref t) rfl ?_)
  show wpAny _ _ (if (Value.ref t == Value.none) = true then _ else _) _ _ s
  rw [if_neg (show ¬ ((Value.ref t == Value.none) = true) from Bool.false_ne_true)]
  show wpAny _ _ (field (.ref it) 1 >>= _) _ _ s
  refine wpAny_bind (wpAny_field ho hd (x := .int i 0) rfl ?_)
  show wpAny _ _ (seqItems? (.ref t) >>= _) _ _ s
  refine wpAny_bind (wpAny_seqItems hol hdl ?_)
  simp only [Int.toNat_natCast, hx]
  refine wpAny_bind (wpAny_rule (wpAny_bind (wpAny_setField ho hd (by simp) ?_)))
  show wpAny _ _ (newExc (.type "StopIteration") [] >>= _) _ _ _
  refine wpAny_bind ?_
  simp only [newExc, newTuple]
  refine wpAny_bind (wpAny_newObj_type ?_ (by size_fits))
  refine wpAny_bind (m := firstArgMember _ _) (wpAny_of_eq (a := Value.none) (by first | rfl | (simp only [firstArgMember]; rfl)) ?_)
  refine wpAny_newObj_type ?_ (by size_fits)
  simp only [raiseNew]
  refine wpAny_bind (wpAny_handled ?_)
  rw [show A.in1.handled = none from hh]
  refine wpAny_bind (wpAny_pure (wpAny_throw ?_))
  exact hE _ _ (((Heap.SameBut.update ..).extBut.push _).push _) ⟨_, Heap.get?_push_size _ rfl, rfl⟩

theorem draws_tuple (hh : A.handled = none) (it l : Addr) (hne : l ≠ it) (items : Array Value) :
    Draws prog w A it [it, l] items.size (fun i v => items[i]? = some v) (fun i h => h.IsTupleIter it l i ∧ h.IsTuple l items) where
  live := fun _ _ st => let ⟨o, ho, _⟩ := st.1; ⟨o, ho⟩
  frame := fun _ _ _ st hk => ⟨st.1.at fun o e => hk it (by simp) o e, st.2.at fun o e => hk l (by simp) o e⟩
  item := fun i s Q E hi st hQ => by
    refine nextOf_tuple_item st.1 st.2 (x := items[i]) (by simp [hi]) fun h' hit' hs' => ?_
    exact hQ _ h' s.toks (by simp [hi]) ⟨hit', st.2.extBut hs'.extBut hne⟩ hs'
  done := fun s Q E st hE => nextOf_tuple_end hh st.1 st.2 (by simp) hE

theorem meets_enumerate_tuple (l : Addr) (items : Array Value) (n : Nat) (dct : Option Addr) (sl : Array (Option Value)) :
    Meets (Builtin.«enumerate.__new__» ⟨[.type "enumerate", .ref l], []⟩) (fun _ R s => s.heap.get? l = some { cls := .type "tuple", dict := dct, data := .seq items n, slots := sl } ∧
      R (.ok (.ret (.ref (s.heap.push { cls := .type "tuple_iterator", data := .fields #[.ref l, .int 0 0] }).objs.size)))
        { s with heap := (s.heap.push { cls := .type "tuple_iterator", data := .fields #[.ref l, .int 0 0] }).push { cls := .type "enumerate", data := .fields #[.none, .bool false, .ref s.heap.objs.size, rawInt 0, .none, .none] } }) :=
  .of_wp fun prog w A R s h => by
    obtain ⟨hp, g, d, tk, os⟩ := s; obtain ⟨hl, h⟩ := h
    have hsub := sub_enumerate
    have hL : Heap.IsTuple (Shared.heap ⟨hp, g, d, tk, os⟩) l items := ⟨_, hl, rfl, n, rfl⟩
    wp_walk using wpAny_loadPart' hl
    refine wpAny_stack_any fun st => wpAny_pure ?_
    split
    · rename_i c _ _ _ _ _
      cases (c == Value.type "enumerate")
      · wp_walk using wpAny_loadPart' hl, wpAny_pyIter_tuple hL
        exact ⟨_, rfl, h⟩
      · wp_walk using wpAny_loadPart' hl, wpAny_pyIter_tuple hL
        exact ⟨_, rfl, h⟩
    · wp_walk using wpAny_loadPart' hl, wpAny_pyIter_tuple hL
      exact ⟨_, rfl, h⟩

theorem call_enumerate_tuple {l : Addr} {items : Array Value} {Q : Value → Shared → Prop} (hL : s.heap.IsTuple l items)
    (h : ∀ h', IsEnum h' (s.heap.objs.size + 1) s.heap.objs.size 0 .none → h'.IsTupleIter s.heap.objs.size l 0 → h'.objs.size = s.heap.objs.size + 2 →
      (∀ b o, s.heap.get? b = some o → h'.get? b = some o) → Q (.ref (s.heap.objs.size + 1)) { s with heap := h' }) :
    wpAny (model prog w) A (call (.type "enumerate") [.ref l]) Q E s := by
  obtain ⟨ol, hol, hc, n, hd⟩ := hL
  obtain ⟨c, dct, dt, sl⟩ := ol
  simp only at hc hd
  subst hc; subst hd
  refine callType_new F.called_enumerate (by decide) (F.typeCall_enumerate_1 _) (F.newCall_enumerate_1 _) (fun obj => F.args_object_init_2 obj _) F.entry_enumerate_new
    (meets_enumerate_tuple l items n dct sl) ⟨hol, ?_⟩
  have hz : (s.heap.push { cls := .type "tuple_iterator", data := .fields #[.ref l, .int 0 0] }).objs.size = s.heap.objs.size + 1 := Heap.size_push ..
  show _ ∧ _
  rw [hz]
  have he : IsEnum ((s.heap.push { cls := .type "tuple_iterator", data := .fields #[.ref l, .int 0 0] }).push
      { cls := .type "enumerate", data := .fields #[.none, .bool false, .ref s.heap.objs.size, rawInt 0, .none, .none] }) (s.heap.objs.size + 1) s.heap.objs.size 0 .none := by
    have := Heap.get?_push_size (s.heap.push { cls := .type "tuple_iterator", data := .fields #[.ref l, .int 0 0] })
      (o := { cls := .type "enumerate", data := .fields #[.none, .bool false, .ref s.heap.objs.size, rawInt 0, .none, .none] }) rfl
    rw [hz] at this; exact this
  refine ⟨⟨_, he, rfl⟩, h _ he ⟨_, Heap.get?_push_of_some _ (Heap.get?_push_size _ rfl), rfl, rfl⟩ (by rw [Heap.size_push, hz]) fun b o x => Heap.get?_push_of_some _ (Heap.get?_push_of_some _ x)⟩

theorem turns_enum_tuple {elts : List Expr} {k : Nat} {pos : Pos} (hh : A.handled = none) (e it l : Addr) (items : Array Value) (hne : l ≠ it) (hei : e ≠ it) (hel : e ≠ l) :
    KTurns prog w A (.Tuple elts k pos) e [e, it, l] [e, it] items.size (fun i v h => ∃ T vals, v = .ref T ∧ (∃ t x, items[i]? = some x ∧ vals = #[.int i t, x]) ∧ h.IsTuple T vals)
      (fun i v h => ∃ T vals, v = .ref T ∧ (∃ t x, items[i]? = some x ∧ vals = #[.int i t, x]) ∧ h.IsTuple T vals ∧
        ((∃ x, IsEnumOut h e it ((i : Int) + 1) x T) ∧ (h.IsTupleIter it l (i + 1) ∧ h.IsTuple l items) ∧ T ≠ e ∧ T ≠ it))
      (fun i h => (∃ old, IsEnum h e it i old) ∧ h.IsTupleIter it l i ∧ h.IsTuple l items) :=
  KTurns.ofWalksU (WalksT.enumerateD (draws_tuple (A := A.in1) hh it l hne items) e hei (by simp [hei, hel]) (by simp)).toU
end
/-! names forgotten; lists and tuples of our own -/
inductive Wk : Vars → Vars → Prop where
  | nil : Wk [] []
  | keep {p : Str × Option Value} {r r' : Vars} : Wk r r' → Wk (p :: r) (p :: r')
  | drop {x : Str} {u : Option Value} {r r' : Vars} : Wk r r' → Wk ((x, u) :: r) ((x, none) :: r')
theorem Wk.keys {l l' : Vars} (k : Wk l l') : l'.map (·.1) = l.map (·.1) := by
  induction k with
  | nil => rfl
  | keep _ ih => simp only [List.map_cons, ih]
  | drop _ ih => simp only [List.map_cons, ih]
theorem Wk.mem {l l' : Vars} (k : Wk l l') : ∀ x v, (x, some v) ∈ l' → (x, some v) ∈ l := by
  induction k with
  | nil => exact fun _ _ h => h
  | keep _ ih =>
    intro x v h
    rcases List.mem_cons.mp h with e | h
    · rw [e]; exact .head _
    · exact .tail _ (ih x v h)
  | drop _ ih =>
    intro x v h
    rcases List.mem_cons.mp h with e | h
    · cases e
    · exact .tail _ (ih x v h)
theorem HasV.wk {l l' : Vars} (k : Wk l l') {o : Obj} (h : HasV l o) : HasV l' o :=
  let ⟨hn, es, ep, hd, hk, hv⟩ := h; ⟨by rw [k.keys]; exact hn, es, ep, hd, hk, fun x v m => hv x v (k.mem x v m)⟩
inductive WkO : Own → Own → Prop where
  | refl {r : Own} : WkO r r
  | same {p : Addr × (Obj → Prop)} {r r' : Own} : WkO r r' → WkO (p :: r) (p :: r')
  | vars {L : Addr} {l l' : Vars} {r r' : Own} : Wk l l' → WkO r r' → WkO ((L, HasV l) :: r) ((L, HasV l') :: r')
theorem WkO.addrs {o o' : Own} (k : WkO o o') : o'.map (·.1) = o.map (·.1) := by
  induction k with
  | refl => rfl
  | same _ ih => simp only [List.map_cons, ih]
  | vars _ _ ih => simp only [List.map_cons, ih]
theorem WkO.mem {o o' : Own} (k : WkO o o') : ∀ p ∈ o', ∃ P, (p.1, P) ∈ o ∧ ∀ x, P x → p.2 x := by
  induction k with
  | refl => exact fun p hp => ⟨p.2, hp, fun _ h => h⟩
  | same _ ih =>
    intro p hp
    rcases List.mem_cons.mp hp with rfl | hp
    · exact ⟨_, .head _, fun _ h => h⟩
    · obtain ⟨P, m, h⟩ := ih p hp; exact ⟨P, .tail _ m, h⟩
  | vars k _ ih =>
    intro p hp
    rcases List.mem_cons.mp hp with rfl | hp
    · exact ⟨_, .head _, fun _ h => h.wk k⟩
    · obtain ⟨P, m, h⟩ := ih p hp; exact ⟨P, .tail _ m, h⟩
theorem Lg.wk {w : World} {Z : Shared} {B : Fx} {own own' : Own} {h : Heap} {g : Array GenState} {q : OsState} (k : WkO own own') (S : Lg w Z B own h g q) : Lg w Z B own' h g q where
  gd := S.gd
  keep := S.keep
  has := fun p hp => let ⟨P, m, i⟩ := k.mem p hp; let ⟨o, e, x⟩ := S.has _ m; ⟨o, e, i o x⟩
  apart := fun p hp o => let ⟨P, m, _⟩ := k.mem p hp; S.apart (p.1, P) m o
  nodup := by rw [k.addrs]; exact S.nodup
  gens := S.gens
  os := S.os

theorem Lg.wk' {w : World} {Z : Shared} {B : Fx} {own own' : Own} {h : Heap} {g : Array GenState} {q : OsState} (S : Lg w Z B own h g q) (k : WkO own own') : Lg w Z B own' h g q := S.wk k

section
variable {M : Model} {A : Around} {E : Value → Shared → Prop} {w : World} {Z : Shared} {B : Fx} {own own' : Own} {s : Shared} {env : Env}

theorem IsL.isList {h : Heap} {a : Addr} {vs : List Value} (e : ∃ o, h.get? a = some o ∧ IsL vs o) : h.IsList a vs.toArray := let ⟨o, e, n, p⟩ := e; ⟨o, e, by rw [p], n, by rw [p]⟩
theorem IsL.plain {h : Heap} {a : Addr} {vs : List Value} (e : ∃ o, h.get? a = some o ∧ IsL vs o) : h.PlainList a vs.toArray := let ⟨o, e, n, p⟩ := e; ⟨n, by rw [e, p]⟩
theorem IsL.of_plain {h : Heap} {a : Addr} {vs : List Value} (e : h.PlainList a vs.toArray) : ∃ o, h.get? a = some o ∧ IsL vs o := let ⟨n, e⟩ := e; ⟨_, e, n, rfl⟩
theorem IsT.isTuple {h : Heap} {a : Addr} {vs : List Value} (e : ∃ o, h.get? a = some o ∧ IsT vs o) : h.IsTuple a vs.toArray := let ⟨o, e, n, p⟩ := e; ⟨o, e, by rw [p], n, by rw [p]⟩
theorem IsT.isTup {h : Heap} {a : Addr} {vs : List Value} (e : ∃ o, h.get? a = some o ∧ IsT vs o) : IsTup h a vs.toArray := let ⟨o, e, n, p⟩ := e; ⟨o, e, by rw [p], n, by rw [p]⟩
theorem Lg.list (S : At w Z B own s) {a : Addr} {vs : List Value} (m : (a, IsL vs) ∈ own) : s.heap.IsList a vs.toArray := IsL.isList (S.get m)

theorem newL {vs : List Value} {Q : Value → Shared → Prop} (S : At w Z B own s) (h : ∀ a s', At w Z B ((a, IsL vs) :: own) s' → s.heap.get? a = none → Q (.ref a) s') (hsz : vs.length ≤ sizeLine := by size_fits) :
    wpAny M A (newList vs) Q E s :=
  wpAny_newObj_type (h _ { s with heap := s.heap.push { cls := .type "list", data := .seq vs.toArray } } (S.addPush _ ⟨0, rfl⟩) (none_of_le (Nat.le_refl _))) (by show vs.toArray.size ≤ sizeLine; rw [List.size_toArray]; exact hsz)
theorem newT {vs : List Value} {Q : Value → Shared → Prop} (S : At w Z B own s) (h : ∀ a s', At w Z B ((a, IsT vs) :: own) s' → s.heap.get? a = none → Q (.ref a) s') (hsz : vs.length ≤ sizeLine := by size_fits) :
    wpAny M A (newTuple vs) Q E s :=
  wpAny_newObj_type (h _ { s with heap := s.heap.push { cls := .type "tuple", data := .seq vs.toArray } } (S.addPush _ ⟨0, rfl⟩) (none_of_le (Nat.le_refl _))) (by show vs.toArray.size ≤ sizeLine; rw [List.size_toArray]; exact hsz)

theorem listMeth {a : Addr} {vs : List Value} {name : Str} {id : String} {pl : Sem Bool} {Q : Value × List Value → Shared → Prop} (S : At w Z B own s) (m : (a, IsL vs) ∈ own) (slot : Slot "list" name id)
    (hty : typeOf (.builtin id) = pure (.type "method_descriptor")) (h : Q (.builtin id, [.ref a]) s) : wpAny M A (getMethod (.ref a) name pl) Q E s := by
  obtain ⟨o, e, n, p⟩ := S.get m
  exact getMethod_builtin ⟨o, e, by rw [p]⟩ F.plainAttrs_list slot hty (fun b hb => by cases hb; exact ⟨o, e, by rw [p]⟩) h

theorem mAppend {a : Addr} {vs : List Value} {pl : Sem Bool} {Q : Value × List Value → Shared → Prop} (S : At w Z B own s) (m : (a, IsL vs) ∈ own) (h : Q (.builtin "list.append", [.ref a]) s) :
    wpAny M A (getMethod (.ref a) (Str.ofString "append") pl) Q E s := listMeth S m F.slot_list_append F.type_list_append h
end
section
variable {prog : Program} {A : Around} {E : Value → Shared → Prop} {w : World} {Z : Shared} {B : Fx} {own own' : Own} {s : Shared} {env : Env}
theorem appendL {a : Addr} {vs : List Value} {v : Value} {Q : Value → Shared → Prop} (S : At w Z B own s) (u : Upd a (IsL vs) (IsL (vs ++ [v])) own own') (h : ∀ s', At w Z B own' s' → Q .none s') (hsz : vs.length ≤ sizeLine := by size_fits) :
    wpAny (model prog w) A (call (.builtin "list.append") [.ref a, v]) Q E s := by
  refine wpAny_list_append_plain (IsL.plain (S.get u.mem)) (fun h' hl sb => h _ ?_) (by rw [List.size_toArray]; exact hsz)
  obtain ⟨n, e⟩ := hl
  exact S.upd u (fun b o hb x => sb.extBut b o hb x) e ⟨n, by simp⟩
theorem asgT {elts : List Expr} {x1 : Nat} {pos : Pos} {t : Addr} {items : List Value} {Q : Unit → Shared → Prop} (hh : A.handled = none) (S : At w Z B own s) (ht : s.heap.IsTuple t items.toArray)
    (hn : (assignEach elts env).length = items.length) (hstar : (assignEach elts env).findIdx? (·.1) = none)
    (h : ∀ s', At w Z B own s' → Kp s s' → wpAny (model prog w) A (assignInOrder ((assignEach elts env).map (·.2)) items) Q E s') :
    wpAny (model prog w) A (assign (.Tuple elts x1 pos) env (.ref t)) Q E s :=
  assign_Tuple_tuple hh ht (by rw [List.size_toArray]; exact hn) hstar fun h' he => by
    have k : Kp s { s with heap := h' } := ⟨fun b o e => he b o (Nat.ne_of_lt (Heap.lt_size e)) e, rfl, rfl⟩
    exact h _ (S.on k) k
end
/-- the texts of a list of texts -/
def Texts (vs : List Value) (xs : List Str) : Prop := ∃ l : List (Str × Tok), vs = strValues l ∧ l.map (·.1) = xs
theorem Texts.nil : Texts [] [] := ⟨[], rfl, rfl⟩
theorem Texts.snoc {vs : List Value} {xs : List Str} {x : Str} {t : Tok} (h : Texts vs xs) : Texts (vs ++ [.str x t]) (xs ++ [x]) := by
  obtain ⟨l, rfl, rfl⟩ := h
  exact ⟨l ++ [(x, t)], by simp [strValues], by simp⟩
theorem Texts.length {vs : List Value} {xs : List Str} (h : Texts vs xs) : vs.length = xs.length := by
  obtain ⟨l, rfl, rfl⟩ := h; simp [strValues]
theorem strValues_snoc (l : List (Str × Tok)) (x : Str) (t : Tok) : strValues (l ++ [(x, t)]) = strValues l ++ [.str x t] := by simp [strValues]
theorem ab_const {c : Const} {k : Nat} {p : Pos} {name : Str} {env : Env} {w : Sem Value} : attributeBase (.Constant c k p) name env w = w := rfl
theorem ab_name {x : Str} {p : Pos} {name : Str} {env : Env} {w : Sem Value} : attributeBase (.Name x p) name env w = w := rfl
theorem ab_attr {o : Expr} {x : Str} {p : Pos} {name : Str} {env : Env} {w : Sem Value} : attributeBase (.Attribute o x p) name env w = w := rfl
theorem ab_sub {o i : Expr} {p : Pos} {name : Str} {env : Env} {w : Sem Value} : attributeBase (.Subscript o i p) name env w = w := rfl
/-- a method's call -/
theorem mcall {M : Model} {A : Around} {E : Value → Shared → Prop} {s : Shared} {env : Env} {o : Expr} {name : Str} {apos pos : Pos} {args : List Expr} {Q : Value → Shared → Prop}
    (hb : attributeBase o name env (eval o env) = eval o env) (hf : methodCallForm (args.length + 0) (backTo pos (starEach args env)) [] = true) (hl : (apos.endLine == pos.line) = true)
    (h : wpAny M A (eval o env) (fun ov s₁ => wpAny M A (getMethod ov name (do return (← importBound o env).getD true)) (fun fx s₂ => wpAny M A (callWith pos fx.1 fx.2 (backTo pos (starEach args env)) []) Q E s₂) E s₁) E s) :
    wpAny M A (eval (.Call (.Attribute o name apos) args [] pos) env) Q E s := by
  rw [arm_eval_Call, hb]
  refine wpAny_bind (wpAny_mono h (fun ov s₁ h₁ => wpAny_bind (wpAny_standAt ?_)) fun _ _ x => x)
  show wpAny M A (methodCall o name apos pos env ov (args.length + 0) (backTo pos (starEach args env)) []) Q E s₁
  unfold methodCall calleeOf methodCallPos
  rw [hf, hl]
  refine wpAny_bind (wpAny_holding (wpAny_mono h₁ (fun fx s₂ h₂ => ?_) fun _ _ x => x))
  exact wpAny_bind (wpAny_pure h₂)
section
variable {prog : Program} {A : Around} {E : Value → Shared → Prop} {w : World} {s : Shared} {value slice : Expr}
theorem itemS {x : Str} {t u : Tok} {i : Int} {Q : Value → Shared → Prop} (h1 : 0 ≤ i) (h2 : i < x.length) (hx : x.length ≤ 16777216)
    (hs : subscripted slice false (.str x t) (.int i u) = operate [.str x t, .int i u] (getItem (.str x t) (.int i u))) (ht : ∀ r, letTemporaryGo value (.str x t) r = pure ())
    (h : Q (.str (Txt.item x i) s.toks) { s with toks := s.toks + 1 }) : wpAny (model prog w) A (subscriptTail value slice (.str x t) (.int i u)) Q E s :=
  item_str (by unfold fitsSsize; simp; omega) (by omega) h2 (fun _ => h) hs ht
end
theorem ifT {P R : Prop} (h : P) : if true = true then P else R := by rw [if_pos rfl]; exact h
theorem ifF {P R : Prop} (h : R) : if false = true then P else R := by rw [if_neg Bool.false_ne_true]; exact h
/-! comprehensions -/
section
variable {prog : Program} {w : World} {A : Around} {E : Value → Shared → Prop} {s : Shared} {R : Result → Shared → Prop}
theorem compLoop_any {elt target iter : Expr} {ifs : List Expr} {scope : Scope} {pos : Pos} {it acc : Value} {env : Env} (I : Nat → Shared → Prop)
    (turn : ∀ n s, I n s → wpAny (model prog w) A (pyNext it) (fun r s₁ => match r with
      | none => R (.ok .next) s₁
      | some v => wpAny (model prog w) A (letOwnedTupleGo target it v) (fun _ s₁' => wpAny (model prog w) A (assign target env v) (fun _ s₂ =>
          wpAny (model prog w) A (forIn ifs true fun c r => if r = true then do let ok ← isTrue c env (eval c env); pure (ForInStep.yield ok) else pure (ForInStep.yield r)) (fun ok s₃ =>
            if ok = true then wpAny (model prog w) A (eval elt env) (fun x s₄ => wpAny (model prog w) A (call (.builtin "list.append") [acc, x]) (fun _ s₅ => ∃ m, m < n ∧ I m s₅) (fun _ _ => False) s₄) (fun _ _ => False) s₃
            else ∃ m, m < n ∧ I m s₃) (fun _ _ => False) s₂) (fun _ _ => False) s₁') (fun _ _ => False) s₁) (fun _ _ => False) s)
    (n : Nat) (h : I n s) : codeAny (model prog w) A (.compLoop (.ListComp elt [⟨target, iter, ifs, 0⟩] scope pos) 0 it acc env) R s := by
  refine codeAny_loop rfl I (fun n s hI => ?_) n h
  show wpAny _ A ((compTurn (.ListComp elt [⟨target, iter, ifs, 0⟩] scope pos) 0 it acc env).onRaise (fun x => do noteFrame x env; theTreesLotGoes x)) _ _ s
  refine wpAny_noted ?_
  rw [compTurn_list]
  refine wpAny_bind (wpAny_standAt (wpAny_bind (wpAny_mono (turn n s hI) (fun r s₁ h₁ => ?_) fun _ _ h' => h'.elim)))
  cases r with
  | none => exact wpAny_pure h₁
  | some v =>
    refine wpAny_bind (wpAny_mono h₁ (fun _ s₁' h₁' => ?_) fun _ _ h' => h'.elim)
    refine wpAny_bind (wpAny_mono h₁' (fun _ s₂ h₂ => wpAny_bind (wpAny_mono h₂ (fun ok s₃ h₃ => ?_) fun _ _ h' => h'.elim)) fun _ _ h' => h'.elim)
    cases ok with
    | false => exact wpAny_pure ⟨rfl, h₃⟩
    | true =>
      exact wpAny_bind (wpAny_bind (wpAny_mono h₃ (fun x s₄ h₄ => wpAny_bind (wpAny_mono h₄ (fun _ s₅ h₅ => wpAny_pure (wpAny_pure ⟨rfl, h₅⟩)) fun _ _ h' => h'.elim)) fun _ _ h' => h'.elim))

end

theorem Upd.right {a : Addr} {P P' : Obj → Prop} {r r' : Own} (u : Upd a P P' r r') : ∀ l : Own, Upd a P P' (l ++ r) (l ++ r')
  | [] => u
  | _ :: l => .next (Upd.right u l)

section
variable {prog : Program} {w : World} {A : Around} {E : Value → Shared → Prop} {s : Shared} {R : Result → Shared → Prop}
/-- the loop of a comprehension, by what holds between its turns -/
theorem comp_turns {Z : Shared} {B : Fx} {elt target iter : Expr} {ifs : List Expr} {scope : Scope} {pos : Pos} {env : Env} {I C D : Addr} {fp wr : List Addr} {n : Nat} {V : Nat → Value → Prop} {Stt : Nat → Heap → Prop} {l₀ : Vars} {own : Own}
    (W : Walks prog w A I fp wr n V Stt) (hlive : ∀ i h, Stt i h → ∀ b ∈ wr, ∃ o, h.get? b = some o) (hgo : ∀ target i v s Q E, Stt i s.heap → Q () s → wpAny (model prog w) A (letOwnedTupleGo target (.ref I) v) Q E s)
    (hw : wr.Nodup) (hsz : n ≤ sizeLine) (Inv : Fx → Nat → List Value → Prop) (mono : ∀ B₁ B₂ i ys, (∀ b o, B₁ b o → B₂ b o) → Inv B₁ i ys → Inv B₂ i ys)
    (S : At w Z B ((C, HasV l₀) :: own ++ [(D, IsL [])]) s) (hst : Stt 0 s.heap) (hB : ∀ b ∈ wr, ∀ o, ¬ B b o) (hfp : ∀ b ∈ fp, b ∉ ((C, HasV l₀) :: own ++ [(D, IsL [])]).map (·.1)) (h0 : Inv B 0 [])
    (turn : ∀ R' B₁ i v ys s₁, i < n → V i v → (∀ b o, B b o → B₁ b o) → Inv B₁ i ys → At w Z B₁ ((C, HasV l₀) :: (own ++ R')) s₁ →
      wpAny (model prog w) A (assign target env v) (fun _ s₂ =>
        wpAny (model prog w) A (forIn ifs true fun c r => if r = true then do let ok ← isTrue c env (eval c env); pure (ForInStep.yield ok) else pure (ForInStep.yield r)) (fun ok s₃ =>
          if ok = true then wpAny (model prog w) A (eval elt env) (fun y s₄ => ∃ B₂, (∀ b o, B₁ b o → B₂ b o) ∧ Inv B₂ (i + 1) (ys ++ [y]) ∧ At w Z B₂ ((C, HasV l₀) :: (own ++ R')) s₄) (fun _ _ => False) s₃
          else ∃ B₂, (∀ b o, B₁ b o → B₂ b o) ∧ Inv B₂ (i + 1) ys ∧ At w Z B₂ ((C, HasV l₀) :: (own ++ R')) s₃) (fun _ _ => False) s₂) (fun _ _ => False) s₁)
    (fin : ∀ B₁ ys s₁, (∀ b o, B b o → B₁ b o) → Inv B₁ n ys → ys.length ≤ n → At w Z B₁ ((C, HasV l₀) :: own ++ [(D, IsL ys)]) s₁ → R (.ok .next) s₁) :
    codeAny (model prog w) A (.compLoop (.ListComp elt [⟨target, iter, ifs, 0⟩] scope pos) 0 (.ref I) (.ref D) env) R s := by
  have addrs : ∀ (ys : List Value) (X : Own), ((C, HasV l₀) :: own ++ (X ++ [(D, IsL ys)])).map (·.1) = ((C, HasV l₀) :: own ++ (X ++ [(D, IsL [])])).map (·.1) := fun ys X => by simp only [List.map_append, List.map_cons, List.map_nil]
  have hBw : ∀ (ys : List Value), ∀ b ∈ wr, b ∉ ((C, HasV l₀) :: own ++ [(D, IsL ys)]).map (·.1) := fun ys b hb => by
    have := addrs ys []; simp only [List.nil_append] at this; rw [this]; exact hfp b (W.sub b hb)
  refine compLoop_any (fun k s' => ∃ B' ys i, (∀ b o, B b o → B' b o) ∧ (∀ b ∈ wr, ∀ o, ¬ B' b o) ∧ Inv B' i ys ∧ At w Z B' ((C, HasV l₀) :: own ++ [(D, IsL ys)]) s' ∧ Stt i s'.heap ∧ ys.length ≤ i ∧ i ≤ n ∧ k = n + 1 - i) ?_ (n + 1)
    ⟨B, [], 0, fun _ _ e => e, hB, h0, S, hst, Nat.le_refl _, Nat.zero_le _, rfl⟩
  rintro k s' ⟨B', ys, i, hsub, hB', hinv, S', hst', hyl, hi, rfl⟩
  have hmove : ∀ (h₁ : Heap) (tk : Nat), (∀ b o, b ∉ wr → s'.heap.get? b = some o → h₁.get? b = some o) → At w Z B' ((C, HasV l₀) :: own ++ [(D, IsL ys)]) { s' with heap := h₁, toks := tk } := fun h₁ tk hk =>
    ⟨S'.gd, fun b o e => hk b o (fun m => hB' b m o e) (S'.keep b o e), fun p hp => let ⟨o, e, y⟩ := S'.has p hp; ⟨o, hk _ _ (fun m => hBw ys _ m (List.mem_map_of_mem hp)) e, y⟩, S'.apart, S'.nodup, S'.gens, S'.os⟩
  by_cases hlt : i < n
  · refine W.item i _ _ _ hlt hst' fun v h₁ tk₁ hV hst₁ hk₁ => ?_
    refine hgo target (i + 1) v _ _ _ hst₁ ?_
    have S₂ := hmove h₁ tk₁ hk₁
    have S₃ := S₂.pinned (own := (C, HasV l₀) :: own) (R := [(D, IsL ys)]) hw hB' (fun b hb => hBw ys b hb)
    have S₄ := S₃.all
    -- what is behind a turn
    have next : ∀ (ys' : List Value) (s₅ : Shared) (B₂ : Fx), ys'.length ≤ i + 1 → (∀ b o, AllBut ((C, HasV l₀) :: own ++ (pins h₁ wr ++ [(D, IsL ys)])) h₁ b o → B₂ b o) → Inv B₂ (i + 1) ys' →
        At w Z B₂ ((C, HasV l₀) :: own ++ (pins h₁ wr ++ [(D, IsL ys')])) s₅ →
        ∃ m, m < n + 1 - i ∧ ∃ B' ys i, (∀ b o, B b o → B' b o) ∧ (∀ b ∈ wr, ∀ o, ¬ B' b o) ∧ Inv B' i ys ∧ At w Z B' ((C, HasV l₀) :: own ++ [(D, IsL ys)]) s₅ ∧ Stt i s₅.heap ∧ ys.length ≤ i ∧ i ≤ n ∧ m = n + 1 - i := by
      intro ys' s₅ B₂ hl hs₂ hinv₂ S₅
      refine ⟨n + 1 - (i + 1), by omega, B₂, ys', i + 1, fun b o e => hs₂ _ _ (S₃.sub_all b o (hsub b o e)), fun b hb o e => ?_, hinv₂, S₅.drop ?_, ?_, hl, hlt, rfl⟩
      · obtain ⟨o', e'⟩ := hlive _ _ hst₁ b hb
        exact S₅.apart (b, fun o => o = o') (List.mem_append_right _ (List.mem_append_left _ (pins_mem hb e'))) o e
      · exact (List.Sublist.refl _).append (List.sublist_append_right _ _)
      · refine W.frame _ _ _ hst₁ fun b hb o e => ?_
        by_cases hbw : b ∈ wr
        · obtain ⟨o', e', q⟩ := S₅.has (b, fun o' => o' = o) (List.mem_append_right _ (List.mem_append_left _ (pins_mem hbw e)))
          exact (show o' = o from q) ▸ e'
        · refine S₅.keep b o (hs₂ b o ⟨e, fun m => ?_⟩)
          have := hfp b hb
          simp only [List.map_append, List.map_cons, List.map_nil, List.mem_append, List.cons_append, List.mem_cons, List.not_mem_nil, or_false] at m this
          rcases m with m | m | m | m
          · exact this (.inl m)
          · exact this (.inr (.inl m))
          · exact hbw (pins_addrs.subset m)
          · exact this (.inr (.inr m))
    refine wpAny_mono (turn _ _ i v ys _ hlt hV (fun b o e => S₃.sub_all b o (hsub b o e)) (mono _ _ _ _ S₃.sub_all hinv) S₄) (fun _ s₃ h₃ => ?_) fun _ _ y => y
    refine wpAny_mono h₃ (fun ok s₄ h₄ => ?_) fun _ _ y => y
    cases ok with
    | false =>
      obtain ⟨B₂, hs₂, hinv₂, S₅⟩ := h₄
      exact next ys s₄ B₂ (Nat.le_succ_of_le hyl) hs₂ hinv₂ S₅
    | true =>
      refine wpAny_mono h₄ (fun y s₅ h₅ => ?_) fun _ _ y => y
      obtain ⟨B₂, hs₂, hinv₂, S₅⟩ := h₅
      refine appendL S₅ (Upd.right (Upd.right .here (pins h₁ wr)) ((C, HasV l₀) :: own)) (fun s₆ S₆ => ?_) (by omega)
      exact next (ys ++ [y]) s₆ B₂ (by rw [List.length_append, List.length_singleton]; omega) hs₂ hinv₂ S₆
  · have hin : i = n := by omega
    subst hin
    refine W.done _ _ _ hst' fun h₁ tk₁ hk₁ => ?_
    exact fin B' ys _ hsub hinv hyl (hmove h₁ tk₁ hk₁)
end

inductive CellsOf (names : List (Str × NameKind)) (cells : List (Str × Addr)) : List (Str × Addr) → Prop where
  | nil : CellsOf names cells []
  | cons {x : Str} {c : Addr} {r : List (Str × Addr)} : (x, c) ∈ cells → (x, NameKind.cell) ∈ names → CellsOf names cells r → CellsOf names cells ((x, c) :: r)
theorem CellsOf.mem {names : List (Str × NameKind)} {cells cl : List (Str × Addr)} (h : CellsOf names cells cl) : ∀ x c, (x, c) ∈ cl → (x, c) ∈ cells ∧ (x, NameKind.cell) ∈ names := by
  induction h with
  | nil => exact fun _ _ h => nomatch h
  | cons a b _ ih =>
    intro x c h
    rcases List.mem_cons.mp h with e | h
    · cases e; exact ⟨a, b⟩
    · exact ih x c h

def freeNames (names : List (Str × NameKind)) : List Str := (names.filter fun p => p.2 == .free).map (·.1)
def compOk (scope : Scope) (cnames : List (Str × NameKind)) (ks cn : List Str) : Bool :=
  scopeOk scope && scope.names.all (fun p => p.2 != .cell) && namesOk cnames && decide (scope.names.map (fun p => if p.2 == .free then (p.1, .cell) else p) = cnames) && decide ks.Nodup && decide ((freeNames scope.names).reverse = cn) && decide cn.Nodup

theorem closure_go (env : Env) : ∀ (names : List (Str × NameKind)) (acc cl : List (Str × Addr)), (∀ x c, (x, c) ∈ cl → env.cells.lookup x = some c) → (freeNames names) = (cl.map (·.1)).reverse →
    (forIn names acc fun (p : Str × NameKind) (cs : List (Str × Addr)) => (if (p.2 == NameKind.free) = true then do let c ← cellOf env p.1; pure (ForInStep.yield ((p.1, c) :: cs)) else pure (ForInStep.yield cs) : Sem _)) = pure (cl ++ acc)
  | [], acc, cl, hc, he => by
    have : cl = [] := by
      have := congrArg List.length he
      simp only [freeNames, List.filter_nil, List.map_nil, List.length_nil, List.length_reverse, List.length_map] at this
      exact List.length_eq_zero_iff.mp this.symm
    subst this; rfl
  | (n, k) :: r, acc, cl, hc, he => by
    rw [List.forIn_cons]
    by_cases hk : (k == NameKind.free) = true
    · have hf : freeNames ((n, k) :: r) = n :: freeNames r := by simp [freeNames, hk]
      rw [hf] at he
      -- the last of cl is n's
      rcases List.eq_nil_or_concat cl with rfl | ⟨cl', q, rfl⟩
      · simp at he
      obtain ⟨x, c⟩ := q
      simp only [List.map_append, List.map_cons, List.map_nil, List.reverse_append, List.reverse_cons, List.reverse_nil, List.nil_append, List.cons_append, List.concat_eq_append, List.cons.injEq] at he
      obtain ⟨rfl, he⟩ := he
      have hc' := hc n c (by simp)
      have hco : cellOf env n = pure c := by unfold cellOf; rw [hc']
      simp only [hk, if_true, hco, pure_bind]
      rw [closure_go env r ((n, c) :: acc) cl' (fun x c m => hc x c (by simp [m])) he]
      simp
    · have hf : freeNames ((n, k) :: r) = freeNames r := by simp [freeNames, hk]
      rw [hf] at he
      simp only [hk]
      exact closure_go env r acc cl hc he
theorem closure_of {env : Env} {scope : Scope} {cl : List (Str × Addr)} (hc : ∀ x c, (x, c) ∈ cl → env.cells.lookup x = some c) (he : (freeNames scope.names).reverse = cl.map (·.1)) : closureFor scope env = pure cl := by
  have h := closure_go env scope.names [] cl hc (by rw [← he, List.reverse_reverse])
  rw [List.append_nil] at h
  unfold closureFor
  show ((forIn scope.names ([] : List (Str × Addr)) fun (p : Str × NameKind) (cs : List (Str × Addr)) => (if (p.2 == NameKind.free) = true then do let c ← cellOf env p.1; pure (ForInStep.yield ((p.1, c) :: cs)) else pure (ForInStep.yield cs) : Sem _)) >>= fun s => pure s) = pure cl
  rw [h]; rfl

theorem relabel_names {env : Env} {scope : Scope} (hk : env.scope.kind = .function) (hf : ∀ x ∈ freeNames scope.names, env.kindOf x = some .cell) :
    (relabel scope env).names = scope.names.map (fun p => if p.2 == .free then (p.1, .cell) else p) := by
  unfold relabel
  refine List.map_congr_left fun p hp => ?_
  obtain ⟨n, k⟩ := p
  show (if (k == NameKind.free && env.scope.kind == .function && env.kindOf n == some .cell) = true then (n, NameKind.cell) else (n, k)) = if (k == NameKind.free) = true then (n, NameKind.cell) else (n, k)
  by_cases hkf : (k == NameKind.free) = true
  · have : env.kindOf n = some .cell := hf n (List.mem_map.mpr ⟨(n, k), List.mem_filter.mpr ⟨hp, hkf⟩, rfl⟩)
    rw [hk, this, hkf]; rfl
  · rw [Bool.not_eq_true] at hkf; rw [hkf]; rfl

section
variable {prog : Program} {w : World} {A : Around} {E : Value → Shared → Prop} {s : Shared} {env : Env} {L : Addr} {names cnames : List (Str × NameKind)} {cells cl : List (Str × Addr)} {scope : Scope} {ks cn : List Str}

structure CompOk (env : Env) (scope : Scope) (cnames : List (Str × NameKind)) (ks : List Str) (cl : List (Str × Addr)) : Prop where
  clos : closureFor scope env = pure cl
  kind : scope.kind = .function
  nms : ∀ x ∈ scope.names, x.2 = .local → scope.names.lookup x.1 = some .local
  nocell : ∀ x ∈ scope.names, x.2 ≠ .cell
  envs : ∀ C, EnvIs (compEnvC scope cl C env) C cnames cl
  keys : ks.Nodup

theorem comp_ok (he : EnvIs env L names cells) (cnames : List (Str × NameKind)) (ks cn : List Str) (cl : List (Str × Addr)) (hok : compOk scope cnames ks cn = true) (hcn : cl.map (·.1) = cn) (hcl : CellsOf names cells cl) : CompOk env scope cnames ks cl := by
  subst hcn
  simp only [compOk, Bool.and_eq_true, decide_eq_true_eq] at hok
  obtain ⟨⟨⟨⟨⟨⟨hsc, hnc⟩, hnm⟩, hcm⟩, hkn⟩, hfr⟩, hcn⟩ := hok
  have hk := scope_kind hsc
  have hsn : namesOk scope.names = true := by simp only [scopeOk, Bool.and_eq_true] at hsc; exact hsc.1.1.1
  have hfree : ∀ x ∈ freeNames scope.names, env.kindOf x = some .cell := fun x hx => by
    have : x ∈ cl.map (·.1) := by rw [← hfr]; exact List.mem_reverse.mpr hx
    obtain ⟨p, hp, rfl⟩ := List.mem_map.mp this
    exact he.kof _ _ (hcl.mem p.1 p.2 hp).2
  refine ⟨closure_of (fun x c m => he.cells x c (hcl.mem x c m).1) hfr, hk, fun x hx hl => ?_, fun x hx => by simpa using List.all_eq_true.mp hnc x hx, fun C => ?_, hkn⟩
  · obtain ⟨n, k⟩ := x; cases hl; exact (names_kof hsn).1 n _ hx
  · have hrn : (relabel scope env).names = cnames := (relabel_names he.kind hfree).trans hcm
    refine ⟨hk, rfl, he.glob, he.bi, fun x k m => ?_, (names_kof hnm).2, fun x c m => lookup_nodup hcn m⟩
    show (relabel scope env).names.lookup x = some k
    rw [hrn]; exact (names_kof hnm).1 x k m

/-- a comprehension over what xv hands out -/
structure CompAt (prog : Program) (w : World) (A : Around) (env : Env) (elt target : Expr) (ifs : List Expr) (scope : Scope) (cnames : List (Str × NameKind)) (ks : List Str) (cl : List (Str × Addr))
    (Z : Shared) (B : Fx) (own : Own) (n : Nat) (V : Nat → Value → Prop) (Inv : Fx → Nat → List Value → Prop) (xv : Value) (s₁ : Shared) : Prop where
  st : At w Z B own s₁
  it : Iters prog w A Z B own s₁ xv n V
  sz : n ≤ sizeLine
  mono : ∀ B₁ B₂ i ys, (∀ b o, B₁ b o → B₂ b o) → Inv B₁ i ys → Inv B₂ i ys
  zero : Inv B 0 []
  turn : ∀ C env' R' B₁ i v ys s₁, EnvIs env' C cnames cl → i < n → V i v → (∀ b o, B b o → B₁ b o) → Inv B₁ i ys → At w Z B₁ ((C, HasV (ks.map fun x => (x, none))) :: (own ++ R')) s₁ →
      wpAny (model prog w) A (assign target env' v) (fun _ s₂ =>
        wpAny (model prog w) A (forIn ifs true fun c r => if r = true then do let ok ← isTrue c env' (eval c env'); pure (ForInStep.yield ok) else pure (ForInStep.yield r)) (fun ok s₃ =>
          if ok = true then wpAny (model prog w) A (eval elt env') (fun y s₄ => ∃ B₂, (∀ b o, B₁ b o → B₂ b o) ∧ Inv B₂ (i + 1) (ys ++ [y]) ∧ At w Z B₂ ((C, HasV (ks.map fun x => (x, none))) :: (own ++ R')) s₄) (fun _ _ => False) s₃
          else ∃ B₂, (∀ b o, B₁ b o → B₂ b o) ∧ Inv B₂ (i + 1) ys ∧ At w Z B₂ ((C, HasV (ks.map fun x => (x, none))) :: (own ++ R')) s₃) (fun _ _ => False) s₂) (fun _ _ => False) s₁

theorem comp_core {elt target iter : Expr} {ifs : List Expr} {pos : Pos} {Z : Shared} {B : Fx} {own : Own} {n : Nat} {V : Nat → Value → Prop} {Inv : Fx → Nat → List Value → Prop} {xv : Value} {RR : Value → Addr → Result → Shared → Prop}
    (ok : CompOk env scope cnames ks cl) (X : CompAt prog w A env elt target ifs scope cnames ks cl Z B own n V Inv xv s)
    (fin : ∀ D C B₁ ys s₁, (∀ b o, B b o → B₁ b o) → Inv B₁ n ys → ys.length ≤ n → At w Z B₁ ((C, HasV (ks.map fun x => (x, none))) :: own ++ [(D, IsL ys)]) s₁ → RR (.ref D) C (.ok .next) s₁) :
    wpAny (model prog w) A (pyIter xv) (fun it s₂ => wpAny (model prog w) A (newList []) (fun acc s₃ => wpAny (model prog w) A (newFunctionEnv scope env.globals cl [] env.qual none .none (some env)) (fun cenv s₄ =>
      codeAny (model prog w) A (.compStart (.ListComp elt [⟨target, iter, ifs, 0⟩] scope pos) 0 it acc { cenv with scope := relabel scope env }) (RR acc cenv.locals) s₄) E s₃) E s₂) E s := by
  refine X.it _ _ fun I fp wr Stt s₂ S₂ _ W hst hw hB hfp hlt hlive hgo => ?_
  refine wpAny_newObj_type (wpAny_newFunctionEnv ok.nocell (by intro y hy; simp at hy) (fun h₁ hns₁ hsb₁ => ?_) ok.kind) (by size_fits)
  dsimp only at hns₁ hsb₁ ⊢
  have S₃ := S₂.addPush (P := IsL []) { cls := .type "list", data := .seq ([] : List Value).toArray } ⟨0, rfl⟩
  generalize hH2 : s₂.heap.push { cls := .type "list", dict := none, data := .seq ([] : List Value).toArray } = H2 at hns₁ hsb₁ S₃ ⊢
  have hC : H2.objs.size = s₂.heap.objs.size + 1 := by rw [← hH2, Heap.size_push]
  have old : ∀ b o, H2.get? b = some o → h₁.get? b = some o := fun b o e => hsb₁.extBut b o (Nat.ne_of_lt (Heap.lt_size e)) (Heap.get?_push_of_some _ e)
  have old2 : ∀ b o, s₂.heap.get? b = some o → h₁.get? b = some o := fun b o e => old b o (hH2 ▸ Heap.get?_push_of_some _ e)
  obtain ⟨oC, esC, epC, eC, hdC, hkC, hvC⟩ := hns₁
  have S₄ := S₃.add (P := HasV (ks.map fun x => (x, none))) (none_of_le (Nat.le_refl _)) old eC ⟨by rw [List.map_map]; simpa [Function.comp_def] using ok.keys, esC, epC, hdC, hkC, fun x v m => by
    obtain ⟨y, _, e⟩ := List.mem_map.mp m; cases e⟩
  have S₅ : At w Z B ((H2.objs.size, HasV (ks.map fun x => (x, none))) :: own ++ [(s₂.heap.objs.size, IsL [])]) { s₂ with heap := h₁, toks := s₂.toks + ([] : List (Str × Value)).length } :=
    S₄.perm (by rw [List.cons_append]; exact List.Perm.cons _ List.perm_append_comm)
  have hst₁ : Stt 0 h₁ := W.frame _ _ _ hst fun b _ o e => old2 b o e
  have loop : ∀ s₃ : Shared, s₃ = { s₂ with heap := h₁, toks := s₂.toks + ([] : List (Str × Value)).length } →
      codeAny (model prog w) A (.compLoop (.ListComp elt [⟨target, iter, ifs, 0⟩] scope pos) 0 (.ref I) (.ref s₂.heap.objs.size) (compEnvC scope cl H2.objs.size env)) (RR (.ref s₂.heap.objs.size) H2.objs.size) s₃ := by
    rintro s₃ rfl
    refine comp_turns W hlive hgo hw X.sz Inv X.mono S₅ hst₁ hB (fun b hb m => ?_) X.zero (fun R' B₁ i v ys s₁ => X.turn _ _ R' B₁ i v ys s₁ (ok.envs _)) (fun B₁ ys s₁ => fin _ _ B₁ ys s₁)
    have hb' := hlt b hb
    simp only [List.map_append, List.map_cons, List.map_nil, List.mem_append, List.cons_append, List.mem_cons, List.not_mem_nil, or_false] at m
    rcases m with m | m | m
    · exact absurd (m ▸ hb') (by rw [hC]; exact Nat.not_lt.mpr (Nat.le_succ _))
    · exact hfp b hb m
    · exact absurd (m ▸ hb') (Nat.lt_irrefl _)
  exact codeAny_compStart_list (loop _ rfl) (W.self 0 _ _ _ hst₁ (loop _ rfl))

theorem Lg.dropAt {Z : Shared} {B : Fx} {own : Own} {h h' : Heap} {g : Array GenState} {q : OsState} {C : Addr} {P : Obj → Prop} (S : Lg w Z B ((C, P) :: own) h g q) (hs : Heap.SameBut C h h') : Lg w Z B own h' g q := by
  have S' := S.drop (List.sublist_cons_self _ _)
  have hn := S.nodup
  rw [List.map_cons, List.nodup_cons] at hn
  have hn1 : C ∉ own.map (·.1) := hn.1
  exact ⟨S'.gd, fun b o e => hs.extBut b o (fun q => S.apart (C, P) (.head _) o (q ▸ e)) (S'.keep b o e), fun p hp => let ⟨o, e, x⟩ := S'.has p hp; ⟨o, hs.extBut _ _ (fun q => hn1 (by rw [← q]; exact List.mem_map_of_mem (f := (·.1)) hp)) e, x⟩, S'.apart, S'.nodup, S'.gens, S'.os⟩

/-- a comprehension's value -/
theorem comp_eval {elt target iter : Expr} {ifs : List Expr} {pos : Pos} {Q : Value → Shared → Prop} (ok : CompOk env scope cnames ks cl) (hs : ∀ x, foldedSetIterable iter env x = pure x)
    (h : wpAny (model prog w) A (eval iter env) (fun xv s₁ => ∃ Z B own n V Inv, CompAt prog w A env elt target ifs scope cnames ks cl Z B own n V Inv xv s₁ ∧
      ∀ D B₁ ys s', (∀ b o, B b o → B₁ b o) → Inv B₁ n ys → ys.length ≤ n → At w Z B₁ ((D, IsL ys) :: own) s' → Q (.ref D) s') E s) :
    wpAny (model prog w) A (eval (.ListComp elt [⟨target, iter, ifs, 0⟩] scope pos) env) Q E s := by
  rw [eval_ListComp]
  refine wpAny_comprehension_free (cl := cl) rfl hs ok.clos ok.kind ok.nms (wpAny_mono h (fun xv s₁ h₁ => ?_) fun _ _ x => x)
  obtain ⟨Z, B, own, n, V, Inv, X, hQ⟩ := h₁
  refine comp_core (RR := compPost (model prog w) A E none Q) ok X fun D C B₁ ys s' hs hi hl S => ?_
  obtain ⟨o, e, hnd, es, ep, hd, hk, hv⟩ := S.has (C, _) (.head _)
  refine ⟨nsFind es, ⟨o, es, ep, e, hd, hk, fun _ => rfl⟩, fun h' hsb => hQ D B₁ ys _ hs hi hl ?_⟩
  exact (S.dropAt hsb).perm (by exact List.perm_append_comm (l₁ := [(D, IsL ys)]))
/-- a name set to a comprehension's value -/
theorem comp_assign {elt target iter : Expr} {ifs : List Expr} {pos spos py : Pos} {y : Str} {Q : Flow → Shared → Prop} (ok : CompOk env scope cnames ks cl) (hs : ∀ x, foldedSetIterable iter env x = pure x)
    (hsw : swapsWith (.ListComp elt [⟨target, iter, ifs, 0⟩] scope pos) (some (.Name y py)) spos.line env = pure true)
    (h : wpAny (model prog w) A (eval iter env) (fun xv s₁ => ∃ Z B own n V Inv, CompAt prog w A env elt target ifs scope cnames ks cl Z B own n V Inv xv s₁ ∧
      ∀ C D B₁ ys s', (∀ b o, B b o → B₁ b o) → Inv B₁ n ys → ys.length ≤ n → At w Z B₁ ((C, HasV (ks.map fun x => (x, none))) :: (D, IsL ys) :: own) s' →
        wpAny (model prog w) A (storeName env y (.ref D)) (fun _ s'' => ∃ B₂ own₂, At w Z B₂ ((C, HasV (ks.map fun x => (x, none))) :: own₂) s'' ∧ ∀ s₃, At w Z B₂ own₂ s₃ → Q .next s₃) E s') E s) :
    wpAny (model prog w) A (exec (.Assign [.Name y py] (.ListComp elt [⟨target, iter, ifs, 0⟩] scope pos) spos) env) Q E s := by
  rw [exec_Assign_Name_used _ _ _ _ hsw]
  refine wpAny_bind (wpAny_standAt (wpAny_bind ?_))
  show wpAny _ A (do let _ ← comprehension (.ListComp elt [⟨target, iter, ifs, 0⟩] scope pos) scope env _ (newList []) false (eval iter env) (some (assign (.Name y py) env))) _ _ s
  refine wpAny_bind (wpAny_mono (wpAny_comprehension_free (cl := cl) (Q := fun _ s' => Q .next s') rfl hs ok.clos ok.kind ok.nms (wpAny_mono h (fun xv s₁ h₁ => ?_) fun _ _ x => x))
    (fun _ s' hq => wpAny_pure (wpAny_pure hq)) fun _ _ e => e)
  obtain ⟨Z, B, own, n, V, Inv, X, hQ⟩ := h₁
  refine comp_core (RR := compPost (model prog w) A E (some (assign (.Name y py) env)) fun _ s' => Q .next s') ok X fun D C B₁ ys s' hs hi hl S => ?_
  show wpAny _ A (assign (.Name y py) env (.ref D)) _ _ s'
  have S' := S.perm (own' := (C, HasV (ks.map fun x => (x, none))) :: (D, IsL ys) :: own) (List.Perm.cons _ (by exact List.perm_append_comm (l₁ := [(D, IsL ys)])))
  refine wpAny_assign_Name (wpAny_mono (hQ C D B₁ ys s' hs hi hl S') (fun _ s'' q => ?_) fun _ _ x => x)
  obtain ⟨B₂, own₂, S₂, k⟩ := q
  obtain ⟨o, e, hnd, es, ep, hd, hk, hv⟩ := S₂.has (C, _) (.head _)
  exact ⟨nsFind es, ⟨o, es, ep, e, hd, hk, fun _ => rfl⟩, fun h' hsb => k _ (S₂.dropAt hsb)⟩
end
/-! defs with cells -/
theorem bindL_not (kof : Str → Option NameKind) : ∀ (binds : List (Str × Value)) (m : Str → Option Value) (x : Str), x ∉ binds.map (·.1) → bindL kof binds m x = m x
  | [], _, _, _ => rfl
  | (n, v) :: r, m, x, h => by
    rw [List.map_cons, List.mem_cons, not_or] at h
    unfold bindL
    rw [bindL_not kof r _ x h.2]
    split
    · show (if x = n then _ else _) = _; rw [if_neg h.1]
    · rfl
theorem bindC_not (kof : Str → Option NameKind) : ∀ (binds : List (Str × Value)) (m : Str → Option Value) (x : Str), x ∉ binds.map (·.1) → bindC kof binds m x = m x
  | [], _, _, _ => rfl
  | (n, v) :: r, m, x, h => by
    rw [List.map_cons, List.mem_cons, not_or] at h
    unfold bindC
    rw [bindC_not kof r _ x h.2]
    split
    · rfl
    · show (if x = n then _ else _) = _; rw [if_neg h.1]
theorem bindL_mem (kof : Str → Option NameKind) : ∀ (binds : List (Str × Value)) (m : Str → Option Value) (x : Str) (v : Value), (binds.map (·.1)).Nodup → (x, v) ∈ binds → kof x = some .local → bindL kof binds m x = some v
  | (n, u) :: r, m, x, v, hn, hm, hk => by
    rw [List.map_cons, List.nodup_cons] at hn
    unfold bindL
    rcases List.mem_cons.mp hm with e | hm
    · cases e
      rw [bindL_not kof r _ _ hn.1, if_pos hk]
      exact if_pos rfl
    · exact bindL_mem kof r _ x v hn.2 hm hk
theorem bindC_lookup (kof : Str → Option NameKind) : ∀ (binds : List (Str × Value)) (m : Str → Option Value) (x : Str), (binds.map (·.1)).Nodup → kof x ≠ some .local → m x = none → bindC kof binds m x = binds.lookup x
  | [], m, x, _, _, hm => hm
  | (n, u) :: r, m, x, hn, hk, hm => by
    rw [List.map_cons, List.nodup_cons] at hn
    unfold bindC
    by_cases e : x = n
    · subst e
      rw [bindC_not kof r _ x hn.1, if_neg hk]
      show (if x = x then _ else _) = _; rw [if_pos rfl]; simp
    · rw [List.lookup_cons, beq_eq_false_iff_ne.mpr e]
      refine bindC_lookup kof r _ x hn.2 hk ?_
      split
      · exact hm
      · show (if x = n then _ else _) = _; rw [if_neg e]; exact hm

def enterCOk (sc : Scope) (ps rest lps cn : List Str) : Bool :=
  scopeOk sc && ps.all (fun x => sc.names.lookup x == some .local || (sc.names.lookup x == some .cell && cn.contains x)) && decide ps.Nodup && decide (lps ++ rest).Nodup && lps.all (fun x => sc.names.lookup x == some .local) &&
  cn.all (fun x => sc.names.lookup x == some .cell) && decide cn.Nodup

section
variable {prog : Program} {w : World} {A : Around} {E : Value → Shared → Prop} {s : Shared} {Q : Value → Shared → Prop}
theorem enterC {f : Addr} {fd : FuncData} {body : List Stmt} {args : List Value} (ps rest lps cn : List Str) (cells : Addr → List (Str × Addr)) (lb : List (Str × Value)) (cv : Addr → List (Addr × Option Value)) {k : Nat} {oc : Value} {od : Option Addr}
    {osl : Array (Option Value)} (g : Gr w s.heap) (r : Rm A (k + 1)) (hK : (KH w.params).lookup f = some ⟨oc, od, .func fd, osl⟩) (hcd : codeIn (KH w.params) fd.code fd.qualname = true) (hbody : fd.body = .stmts body)
    (hbind : bindArgs fd ⟨args, []⟩ = pure (ps.zip args)) (hps : (ps.zip args).map (·.1) = ps) (hok : enterCOk fd.scope ps rest lps cn = true) (hclo : fd.closure = []) (hgl : fd.globals = mainGlobals) (hbi : fd.builtins = builtinsNs)
    (hcs : ∀ L, cellsFrom (L + 1) fd.scope.names [] = cells L) (hcn : ∀ L, (cells L).map (·.1) = cn) (hlb : lb.map (·.1) = lps) (hlm : ∀ p ∈ lb, p ∈ ps.zip args) (hcv : ∀ L, (cells L).map (fun p => (p.2, (ps.zip args).lookup p.1)) = cv L)
    (h : ∀ A' env L s₁, EnvIs env L fd.scope.names (cells L) → At w s (fun b o => s.heap.get? b = some o) ((L, HasV (varsOf lb rest)) :: (cv L).map (fun p => (p.1, IsCell p.2))) s₁ → Rm A' k →
      wpAny (model prog w) A' (execs body env) (fun fl s' => Q (retOf fl) s') (fun _ _ => False) s₁) :
    wpAny (model prog w) A (call (.ref f) args) Q E s := by
  simp only [enterCOk, Bool.and_eq_true, decide_eq_true_eq] at hok
  obtain ⟨⟨⟨⟨⟨⟨hsc, hpk⟩, hpn⟩, hln⟩, hll⟩, hcl⟩, hcnn⟩ := hok
  have hk := scope_kind hsc
  have hnm : namesOk fd.scope.names = true := by simp only [scopeOk, Bool.and_eq_true] at hsc; exact hsc.1.1.1
  have hlook : ∀ L x c, (x, c) ∈ cells L → (cells L).lookup x = some c := fun L x c m => lookup_nodup (by rw [hcn]; exact hcnn) m
  refine wpAny_call (codeAny_call_cells (fd := fd) (body := body) (binds := ps.zip args) (by have := r.d; omega) (g.k _ _ hK) rfl g.nolim (codeRec_of g.k hcd) hbody hbind hclo (fun x hx => ?_) (fun s₁ X => ?_)
    (by simp only [scopeOk, Bool.and_eq_true, Bool.not_eq_true'] at hsc; exact hsc.1.1.2) (by simp only [scopeOk, Bool.and_eq_true, Bool.not_eq_true'] at hsc; exact hsc.1.2) hk)
  · have hx1 : x.1 ∈ ps := by rw [← hps]; exact List.mem_map_of_mem hx
    have := List.all_eq_true.mp hpk _ hx1
    simp only [Bool.or_eq_true, Bool.and_eq_true, beq_iff_eq, List.contains_iff_mem] at this
    rcases this with a | ⟨a, b⟩
    · exact .inl a
    · refine .inr ⟨a, ?_⟩
      rw [hcs]
      obtain ⟨p, hp, e⟩ := List.mem_map.mp ((hcn s.heap.objs.size) ▸ b)
      rw [hlook _ x.1 p.2 (by rw [← e]; exact hp)]; rfl
  · have hcells : (callEnvC fd s.heap.objs.size f).cells = cells s.heap.objs.size := hcs _
    have hkof : ∀ x, (callEnvC fd s.heap.objs.size f).kindOf x = fd.scope.names.lookup x := fun x => rfl
    refine wpAny_mono (h _ _ s.heap.objs.size _ ⟨hk, rfl, hgl, hbi, (names_kof hnm).1, (names_kof hnm).2, fun x c m => by rw [hcells]; exact hlook _ x c m⟩ ?_ (r.deeper _)) (fun fl s' q => ?_) fun _ _ x => x.elim
    · obtain ⟨X0, Xc, Xa, Xl⟩ := X
      obtain ⟨hp, tk, hsame⟩ := X0.same
      have hcell : ∀ p ∈ cells s.heap.objs.size, s₁.heap.IsCell p.2 ((ps.zip args).lookup p.1) := fun p hp => by
        have := Xc p.1 p.2 (by rw [hcells]; exact hlook _ _ _ hp)
        rw [bindC_lookup _ _ _ _ (by rw [hps]; exact hpn) (by
          rw [hkof]
          have := List.all_eq_true.mp hcl p.1 (by rw [← hcn s.heap.objs.size]; exact List.mem_map_of_mem hp)
          rw [beq_iff_eq.mp this]; intro e; cases e) rfl] at this
        exact this
      have hown : (cv s.heap.objs.size).map (fun p => (p.1, IsCell p.2)) = (cells s.heap.objs.size).map (fun p => (p.2, IsCell ((ps.zip args).lookup p.1))) := by rw [← hcv, List.map_map]; rfl
      rw [hown]
      have hlt : ∀ p ∈ cells s.heap.objs.size, s.heap.objs.size < p.2 := fun p hp => Xl p.1 p.2 (by rw [hcells]; exact hp)
      have hX0 := X0.ns
      obtain ⟨o, es, ep, e, hd, hks, hv⟩ := hX0
      refine ⟨g.gd, fun b o e => X0.keep b o e, fun p hp => ?_, fun p hp o' e' => ?_, ?_, by rw [hsame], by rw [hsame]⟩
      · rcases List.mem_cons.mp hp with rfl | hp
        · refine ⟨o, e, by rw [varsOf_keys, hlb]; exact hln, es, ep, hd, hks, fun x v m => (hv x).trans ?_⟩
          have hm := varsOf_mem m
          refine bindL_mem _ _ _ x v (by rw [hps]; exact hpn) (hlm _ hm) ?_
          rw [hkof]
          have := List.all_eq_true.mp hll x (by rw [← hlb]; exact List.mem_map_of_mem (f := (·.1)) hm)
          exact beq_iff_eq.mp this
        · obtain ⟨q, hq, rfl⟩ := List.mem_map.mp hp
          exact hcell q hq
      · rcases List.mem_cons.mp hp with rfl | hp
        · exact absurd (Heap.lt_size e') (Nat.lt_irrefl _)
        · obtain ⟨q, hq, rfl⟩ := List.mem_map.mp hp
          exact absurd (Heap.lt_size e') (Nat.not_lt.mpr (Nat.le_of_lt (hlt q hq)))
      · rw [List.map_cons, List.nodup_cons, List.map_map]
        refine ⟨fun m => ?_, ?_⟩
        · obtain ⟨q, hq, e'⟩ := List.mem_map.mp m
          exact absurd (show q.2 = s.heap.objs.size from e') (Nat.ne_of_gt (hlt q hq))
        · have hap : (cells s.heap.objs.size).Pairwise fun x y => x.2 ≠ y.2 := by have := Xa; rw [hcells] at this; exact this
          exact List.pairwise_map.mpr hap
    · cases fl <;> exact q
end
/-! rules that keep the proofs' terms small -/
def Nx (Q : Flow → Shared → Prop) (P : Shared → Prop) : Prop := ∀ s, P s → Q .next s
def Ot (Q Q₀ : Flow → Shared → Prop) : Prop := ∀ f s, f ≠ .next → Q₀ f s → Q f s
theorem Nx.use {Q : Flow → Shared → Prop} {P : Shared → Prop} {s : Shared} (h : Nx Q P) (p : P s) : Q .next s := h s p
theorem Ot.ret {Q Q₀ : Flow → Shared → Prop} {v : Value} {s : Shared} (h : Ot Q Q₀) (p : Q₀ (.ret v) s) : Q (.ret v) s := h _ s (fun e => nomatch e) p
theorem Ot.brk {Q Q₀ : Flow → Shared → Prop} {s : Shared} (h : Ot Q Q₀) (p : Q₀ .brk s) : Q .brk s := h _ s (fun e => nomatch e) p
theorem Ot.cont {Q Q₀ : Flow → Shared → Prop} {s : Shared} (h : Ot Q Q₀) (p : Q₀ .cont s) : Q .cont s := h _ s (fun e => nomatch e) p
theorem mem0 {α : Type} {a : α} {r : List α} : a ∈ a :: r := .head _
theorem mem1 {α : Type} {b0 a : α} {r : List α} : a ∈ b0 :: a :: r := .tail _ mem0
theorem mem2 {α : Type} {b0 b1 a : α} {r : List α} : a ∈ b0 :: b1 :: a :: r := .tail _ mem1
theorem mem3 {α : Type} {b0 b1 b2 a : α} {r : List α} : a ∈ b0 :: b1 :: b2 :: a :: r := .tail _ mem2
theorem mem4 {α : Type} {b0 b1 b2 b3 a : α} {r : List α} : a ∈ b0 :: b1 :: b2 :: b3 :: a :: r := .tail _ mem3
theorem mem5 {α : Type} {b0 b1 b2 b3 b4 a : α} {r : List α} : a ∈ b0 :: b1 :: b2 :: b3 :: b4 :: a :: r := .tail _ mem4
theorem mem6 {α : Type} {b0 b1 b2 b3 b4 b5 : α} {a : α} {r : List α} (h : a ∈ r) : a ∈ b0 :: b1 :: b2 :: b3 :: b4 :: b5 :: r := .tail _ (.tail _ (.tail _ (.tail _ (.tail _ (.tail _ h)))))
section
variable {M : Model} {A : Around} {E : Value → Shared → Prop} {s : Shared} {env : Env}
theorem execsC {st : Stmt} {rest : List Stmt} {Q : Flow → Shared → Prop} (h : ∀ Q', Nx Q' (fun s' => wpAny M A (execs rest env) Q E s') → Ot Q' Q → wpAny M A (exec st env) Q' E s) : wpAny M A (execs (st :: rest) env) Q E s :=
  wpAny_execs_cons (h _ (fun _ p => p) (fun f _ n p => by cases f <;> first | exact absurd rfl n | exact p))
theorem exec1 {st : Stmt} {Q : Flow → Shared → Prop} (h : wpAny M A (exec st env) Q E s) : wpAny M A (execs [st] env) Q E s :=
  wpAny_execs_cons (wpAny_mono h (fun f _ p => by cases f <;> first | exact wpAny_execs_nil p | exact p) fun _ _ x => x)
theorem hideQ {α : Type} {t : Sem α} {Q : α → Shared → Prop} (h : ∀ Q', (∀ v s', Q v s' → Q' v s') → wpAny M A t Q' E s) : wpAny M A t Q E s := h Q fun _ _ x => x
end
section
variable {prog : Program} {w : World} {A : Around} {E : Value → Shared → Prop} {env : Env} {h : Heap} {gs : Array GenState} {d : Drawn} {k : Nat} {o : OsState} {Q : Value → Shared → Prop} {a b : Int} {t u : Tok}
theorem kInt {M : Model} {n : Nat} {pos : Pos} (hq : ∀ t k, Q (.int a t) ⟨h, gs, d, k, o⟩) : wpAny M A (eval (.Constant (.int a) n pos) env) Q E ⟨h, gs, d, k, o⟩ := wpAny_Constant_int (hq _ _)
theorem kStr {M : Model} {x : Str} {n : Nat} {pos : Pos} (hq : ∀ t k, Q (.str x t) ⟨h, gs, d, k, o⟩) : wpAny M A (eval (.Constant (.str x) n pos) env) Q E ⟨h, gs, d, k, o⟩ := Calls.Constant_str (hq _ _)
theorem oAdd (hq : ∀ t k, Q (.int (a + b) t) ⟨h, gs, d, k, o⟩) : wpAny (model prog w) A (binaryOp .Add (.int a t) (.int b u)) Q E ⟨h, gs, d, k, o⟩ := add_int (hq _ _)
theorem oSub (hq : ∀ t k, Q (.int (a - b) t) ⟨h, gs, d, k, o⟩) : wpAny (model prog w) A (binaryOp .Sub (.int a t) (.int b u)) Q E ⟨h, gs, d, k, o⟩ := sub_int (hq _ _)
theorem oAnd (hq : ∀ t k, Q (.int (Builtin.bitAnd a b) t) ⟨h, gs, d, k, o⟩) : wpAny (model prog w) A (binaryOp .BitAnd (.int a t) (.int b u)) Q E ⟨h, gs, d, k, o⟩ := and_int (hq _ _)
theorem oMul (hm : IntMulOk a b) (hq : ∀ t k, Q (.int (a * b) t) ⟨h, gs, d, k, o⟩) : wpAny (model prog w) A (binaryOp .Mult (.int a t) (.int b u)) Q E ⟨h, gs, d, k, o⟩ := mul_int (hq _ _) hm
theorem oMod (hb : b ≠ 0) (hq : ∀ t k, Q (.int (a.fmod b) t) ⟨h, gs, d, k, o⟩) : wpAny (model prog w) A (binaryOp .Mod (.int a t) (.int b u)) Q E ⟨h, gs, d, k, o⟩ := mod_int' hb (hq _ _)
theorem oDiv (hb : b ≠ 0) (hs : b.natAbs < 1073741824) (hq : ∀ t k, Q (.int (a.fdiv b) t) ⟨h, gs, d, k, o⟩) : wpAny (model prog w) A (binaryOp .FloorDiv (.int a t) (.int b u)) Q E ⟨h, gs, d, k, o⟩ := floordiv_int hb (hq _ _) (Or.inl (PyProof.noPylong_small hs))
theorem oNeg (hq : ∀ t k, Q (.int (-a) t) ⟨h, gs, d, k, o⟩) : wpAny (model prog w) A (unaryOp .USub (.int a t)) Q E ⟨h, gs, d, k, o⟩ := neg_int (hq _ _)
theorem itemSt {value slice : Expr} {x : Str} {i : Int} (h1 : 0 ≤ i) (h2 : i < x.length) (hx : x.length ≤ 16777216)
    (hs : subscripted slice false (.str x t) (.int i u) = operate [.str x t, .int i u] (getItem (.str x t) (.int i u))) (ht : ∀ r, letTemporaryGo value (.str x t) r = pure ())
    (hq : ∀ t k, Q (.str (Txt.item x i) t) ⟨h, gs, d, k, o⟩) : wpAny (model prog w) A (subscriptTail value slice (.str x t) (.int i u)) Q E ⟨h, gs, d, k, o⟩ := itemS h1 h2 hx hs ht (hq _ _)
theorem oCat {x y : Str} (hsz : x.length + y.length ≤ sizeLine) (hq : ∀ t k, Q (.str (x ++ y) t) ⟨h, gs, d, k, o⟩) : wpAny (model prog w) A (binaryOp .Add (.str x t) (.str y u)) Q E ⟨h, gs, d, k, o⟩ := add_str (fun _ _ => hq _ _) hsz
theorem oCatI {x y : Str} (hsz : x.length + y.length ≤ sizeLine) (hq : ∀ t k, Q (.str (x ++ y) t) ⟨h, gs, d, k, o⟩) : wpAny (model prog w) A (inplaceOp .Add (.str x t) (.str y u)) Q E ⟨h, gs, d, k, o⟩ := iadd_str (fun _ _ => hq _ _) hsz
end
section
variable {prog : Program} {w : World} {A : Around} {E : Value → Shared → Prop} {s : Shared} {Z : Shared} {B : Fx} {env : Env} {Q : Flow → Shared → Prop}
/-- a for loop, with what comes behind it hidden -/
theorem forI {X : Type} {target : Expr} {body orelse : List Stmt} {xv : Value} {n : Nat} {V : Nat → Value → Prop} {RE : Value → Shared → Prop} (own : X → Own) (R : Own) (x₀ : X)
    (W : Iters prog w A Z B (own x₀ ++ R) s xv n V) (Inv : Fx → Nat → X → Prop) (has : ∀ x, (own x).map (·.1) = (own x₀).map (·.1))
    (mono : ∀ B₁ B₂ i x, (∀ b o, B₁ b o → B₂ b o) → Inv B₁ i x → Inv B₂ i x) (h0 : Inv B 0 x₀)
    (turn : ∀ R' B₁ i v x s₁ Qb, R.Sublist R' → i < n → V i v → (∀ b o, B b o → B₁ b o) → Inv B₁ i x → At w Z B₁ (own x ++ R') s₁ →
      (∀ f B₂ x' s₂, f = .next ∨ f = .cont → (∀ b o, B₁ b o → B₂ b o) → Inv B₂ (i + 1) x' → At w Z B₂ (own x' ++ R') s₂ → Qb f s₂) → (∀ s₂, Q .next s₂ → Qb .brk s₂) → (∀ v s₂, Q (.ret v) s₂ → Qb (.ret v) s₂) →
      wpAny (model prog w) A (assign target env v) (fun _ s₃ => wpAny (model prog w) A (execs body env) Qb (fun _ _ => False) s₃) (fun _ _ => False) s₁)
    (fin : ∀ B₁ x s₁, (∀ b o, B b o → B₁ b o) → Inv B₁ n x → At w Z B₁ (own x ++ R) s₁ → wpAny (model prog w) A (execs orelse env) Q (fun _ _ => False) s₁) :
    wpAny (model prog w) A (pyIter xv) (fun it s₂ => codeAny (model prog w) A (.forLoop target it body orelse env) (fun r s' => match r with | .ok f => Q f s' | .error e => RE e s') s₂) E s :=
  for_iter own R x₀ W Inv has mono h0 (fun R' B₁ i v x s₁ h1 h2 h3 h4 h5 h6 => turn R' B₁ i v x s₁ _ h1 h2 h3 h4 h5 h6 (fun f B₂ x' s₂ hf hs hi S => by rcases hf with rfl | rfl <;> exact ⟨B₂, x', hs, hi, S⟩) (fun _ q => q) fun _ _ q => q) fin
end
local macro_rules | `(tactic| walk_at "mem") => `(tactic| with_reducible first | exact mem0 | exact mem1 | exact mem2 | exact mem3 | exact mem4 | exact mem5 | (apply mem6; walk_at "mem"))
local macro_rules | `(tactic| walk_at "upd") => `(tactic| first | with_reducible exact Upd.here | (with_reducible apply Upd.next; walk_at "upd"))
local macro_rules | `(tactic| walk_at "put") => `(tactic| first | with_reducible exact Put.here | (with_reducible apply Put.next; walk_at "put"))
local macro_rules | `(tactic| walk_at "glob") => `(tactic| first | with_reducible exact g_unorderable_list_difference _ | with_reducible exact g_three_way_cmp _ | with_reducible exact g_S_IFMT _ | with_reducible exact g_u_filemode_table _ | with_reducible exact g_filemode _ | with_reducible exact g_u_kind _ | with_reducible exact g_u_c_path _ | with_reducible exact g_u_splitroot _ | with_reducible exact g_u_normpath _ | with_reducible exact g_normpath _ | with_reducible exact g_u_Ignore _ | with_reducible exact g_u_law_row _ | with_reducible exact g_u_law_tree _ | with_reducible exact g_u_law_reader _ | with_reducible exact g_u_law_told _ | with_reducible exact g_u_law_listing _ | with_reducible exact g_u_law_nearest _)
local macro_rules | `(tactic| walk_at "boot") => `(tactic| first | with_reducible exact b_enumerate _ | with_reducible exact b_range _ | with_reducible exact b_len _ | with_reducible exact b_list _ | with_reducible exact b_sum _ | with_reducible exact b_sorted _ | with_reducible exact b_type _ | with_reducible exact b_str _ | with_reducible exact b_set _ | with_reducible exact b_ValueError _)
local macro_rules | `(tactic| walk_at "nm") => `(tactic| first
  | with_reducible refine nmL (by assumption) (by assumption) (by walk_at "mem") (by walk_at "mem") (by walk_at "mem") ?_
  | with_reducible refine nmC (by assumption) (by assumption) (by walk_at "mem") (by walk_at "mem") (by walk_at "mem") ?_
  | with_reducible refine nmG (by assumption) (by assumption) (by walk_at "mem") (by walk_at "glob") ?_
  | with_reducible refine nmB (by assumption) (by assumption) (by walk_at "mem") (by walk_at "boot") ?_)
local macro_rules | `(tactic| walk_at "fn") => `(tactic| first | with_reducible exact fn_28 | with_reducible exact fn_35 | with_reducible exact fn_42 | with_reducible exact fn_82 | with_reducible exact fn_89 | with_reducible exact fn_96 | with_reducible exact fn_103 | with_reducible exact fn_110 | with_reducible exact fn_117 | with_reducible exact fn_151 | with_reducible exact fn_158 | with_reducible exact fn_163 | with_reducible exact fn_168 | with_reducible exact fn_173 | with_reducible exact fn_180)
local macro_rules | `(tactic| walk_at "st") => `(tactic| first
  | (with_reducible refine' sL (by assumption) (by assumption) (by walk_at "mem") ?ku ?kp ?_; (case ku => walk_at "upd"); (case kp => walk_at "put"))
  | (with_reducible refine' sC (by assumption) (by assumption) (by walk_at "mem") (by walk_at "mem") ?ku ?_; (case ku => walk_at "upd")))
local macro_rules | `(tactic| walk_at "fits") => `(tactic| assumption)
local macro_rules | `(tactic| walk_at "ev") => `(tactic| first
  | with_reducible refine exec1 ?_
  | (with_reducible refine execsC ?_; intro _ _ _)
  | with_reducible refine Nx.use (by assumption) ?_
  | with_reducible refine Ot.ret (by assumption) ?_
  | with_reducible refine Ot.brk (by assumption) ?_
  | with_reducible refine Ot.cont (by assumption) ?_
  | with_reducible refine wpAny_execs_nil ?_
  | with_reducible refine wpAny_Return_some ?_
  | with_reducible refine wpAny_If ?_
  | with_reducible refine ifT ?_
  | with_reducible refine ifF ?_
  | with_reducible refine wpAny_Break ?_
  | with_reducible refine wpAny_Assign_Name ?_ (by with_unfolding_all rfl)
  | with_reducible refine wpAny_AugAssign_Name ?_
  | with_reducible refine nmLn (by assumption) (by assumption) (by walk_at "mem") (by walk_at "mem") (by walk_at "mem") ?_
  | with_reducible refine wpAny_Expr ?_ (EnvIs.inter (by assumption)) (by with_unfolding_all rfl)
  | with_reducible refine wpAny_isTrue_Compare1 ?_
  | with_reducible refine isTrue_not ?_
  | with_reducible refine isTrue_and ?_
  | with_reducible refine isTrue_or ?_
  | with_reducible refine isTrue_and_nil ?_
  | with_reducible refine isTrue_or_nil ?_
  | with_reducible refine wpAny_BinOp ?_
  | with_reducible refine wpAny_Compare1 ?_
  | (with_reducible refine kInt ?_; intro _ _)
  | (with_reducible refine kStr ?_; intro _ _)
  | with_reducible refine wpAny_Constant_bool ?_
  | with_reducible refine wpAny_Constant_none ?_
  | ((with_reducible show wpAny _ _ (eval (Expr.Name _ _) _) _ _ _); walk_at "nm")
  | with_reducible refine IfExp_ ?_
  | with_reducible refine Subscript_ ?_
  | ((with_reducible show wpAny _ _ (eval (Expr.Call (Expr.Attribute _ _ _) _ [] _) _) _ _ _); with_reducible refine mcall (by first | exact ab_name | exact ab_const | exact ab_attr | exact ab_sub) (by with_unfolding_all rfl) (by with_unfolding_all rfl) ?_)
  | ((with_reducible show wpAny _ _ (eval (Expr.Call (Expr.Name _ _) _ [] _) _) _ _ _); with_reducible refine Call_ ?_ (by with_unfolding_all rfl))
  | ((with_reducible show wpAny _ _ (callWith _ (Value.ref _) [] _ _) _ _ _); with_reducible refine callFn (by walk_at "fn") (Lg.gr (by assumption)) ?_ (by with_unfolding_all rfl))
  | ((with_reducible show wpAny _ _ (callWith _ (Value.type _) _ _ _) _ _ _); first | with_reducible refine callWith_type1 ?_ (by with_unfolding_all rfl) (by with_unfolding_all rfl) | with_reducible refine callWith_type0 ?_)
  | ((with_reducible show wpAny _ _ (callWith _ (Value.builtin _) _ _ _) _ _ _); first | with_reducible refine callWith_method1 ?_ (by with_unfolding_all rfl) (by with_unfolding_all rfl) | with_reducible refine callWith_method0 ?_)
  | ((with_reducible show wpAny _ _ (call (Value.builtin _) (_ ++ _)) _ _ _); dsimp only [List.cons_append, List.nil_append])
  | with_reducible refine spliced_none ?_
  | with_reducible refine spliced_more ?_ (by with_unfolding_all rfl)
  | with_reducible refine Tuple_ ?_
  | with_reducible refine List_ ?_
  | with_reducible refine wpAny_truthy_bool ?_
  | ((with_reducible show wpAny _ _ (storeName _ _ _) _ _ _); walk_at "st"; intro _ _)
  | with_reducible refine wpAny_For ?_ (by intro _; with_unfolding_all rfl)
  | with_reducible refine truthy_none ?_
  | with_reducible refine isTrue_IfExp ?_
  | ((with_reducible show wpAny _ _ (isTrue _ _ _) _ _ _); with_reducible refine isTrue_plain ?_ (by with_unfolding_all rfl))
  | (with_reducible refine And.intro (Lg.gr (by assumption)) ?_)
  | with_reducible refine eq_int ?_
  | with_reducible refine ne_int ?_
  | with_reducible refine ge_int ?_
  | (with_reducible refine oAdd ?_; intro _ _)
  | (with_reducible refine oSub ?_; intro _ _)
  | (with_reducible refine oAnd ?_; intro _ _)
  | (with_reducible refine oDiv (by decide) (by decide) ?_; intro _ _)
  | (with_reducible refine oMod (by decide) ?_; intro _ _)
  | with_reducible refine eq_str ?_
  | with_reducible refine ne_str ?_
  | ((with_reducible show wpAny _ _ (getMethod (Value.ref _) (Str.ofString "append") _) _ _ _); with_reducible refine mAppend (by assumption) (by walk_at "mem") ?_)
  | ((with_reducible show wpAny _ _ (call (Value.builtin "list.append") [Value.ref _, _]) _ _ _); (with_reducible refine' appendL (by assumption) ?ku ?_ ?kz; (case ku => walk_at "upd"); (case kz => walk_at "fits")); intro _ _)
  | with_reducible refine GM.join ?_
  | dsimp only)
local macro_rules | `(tactic| walk_at "evs") => `(tactic| repeat walk_at "ev")
local macro_rules | `(tactic| walk_at "wk") => `(tactic| first | with_reducible exact Wk.nil | (with_reducible refine Wk.keep ?_; walk_at "wk") | (with_reducible refine Wk.drop ?_; walk_at "wk"))
local macro_rules | `(tactic| walk_at "wko") => `(tactic| first | with_reducible exact WkO.refl | (with_reducible refine WkO.same ?_; walk_at "wko") | (with_reducible refine WkO.vars (by walk_at "wk") ?_; walk_at "wko"))
local macro_rules | `(tactic| walk_at "at") => `(tactic| ((try dsimp only [List.cons_append, List.nil_append, List.map]); exact Lg.wk' (by assumption) (by walk_at "wko")))
local macro_rules | `(tactic| walk_at "sz") => `(tactic| (simp only [List.length_cons, List.length_nil]; decide))
local macro_rules | `(tactic| walk_at "aio") => `(tactic| (refine assignInOrder_cons ?_; refine wpAny_assign_Name ?_; walk_at "st"; intro _ _))
local macro_rules | `(tactic| walk_at "cl") => `(tactic| first | with_reducible exact CellsOf.nil | (with_reducible refine CellsOf.cons (by walk_at "mem") (by walk_at "mem") ?_; walk_at "cl"))
section
variable {prog : Program} {w : World} {A : Around} {E : Value → Shared → Prop} {s : Shared} {Q : Value → Shared → Prop}

theorem S_IFMT_call {m : Int} {t : Tok} (g : Gr w s.heap) (r : Rm A 1) (h : ∀ t' s', Kp s s' → Q (.int (Builtin.bitAnd m 61440) t') s') :
    wpAny (model prog w) A (call (.ref 42) [.int m t]) Q E s := by
  refine enter ["mode"] [] g r rfl (by kernel_rfl) rfl rfl rfl (by decide +kernel) rfl rfl ?_
  intro A' env L s₁ he S r'
  conv => arg 3; arg 1; whnf
  conv at he => arg 3; whnf
  dsimp only [varsOf, List.map, List.append_nil, List.zip, List.zipWith, List.nil_append, List.cons_append] at he S
  iterate 5 walk_at "ev"
  refine and_int ?_
  exact h _ _ (Lg.kp S)
theorem three_way_cmp_call {x y : Str} {t u : Tok} (g : Gr w s.heap) (r : Rm A 1) (h : ∀ t' s', Kp s s' → Q (.int (b2i (decide (y.cps.toList < x.cps.toList)) - b2i (decide (x.cps.toList < y.cps.toList))) t') s') :
    wpAny (model prog w) A (call (.ref 35) [.str x t, .str y u]) Q E s := by
  refine enter ["x", "y"] [] g r rfl (by kernel_rfl) rfl rfl rfl (by decide +kernel) rfl rfl ?_
  intro A' env L s₁ he S r'
  conv => arg 3; arg 1; whnf
  conv at he => arg 3; whnf
  dsimp only [varsOf, List.map, List.append_nil, List.zip, List.zipWith, List.nil_append, List.cons_append] at he S
  iterate 6 walk_at "ev"
  refine P.gt_str ?_
  iterate 3 walk_at "ev"
  refine lt_str ?_
  refine sub_bool ?_
  exact h _ _ (Lg.kp S)
end
/-! filemode -/
def fmTab : List (Addr × List (Addr × Int × Str)) := [
  (50, [(43, 40960, "l"), (44, 49152, "s"), (45, 32768, "-"), (46, 24576, "b"), (47, 16384, "d"), (48, 8192, "c"), (49, 4096, "p")]),
  (52, [(51, 256, "r")]), (54, [(53, 128, "w")]), (58, [(55, 2112, "s"), (56, 2048, "S"), (57, 64, "x")]),
  (60, [(59, 32, "r")]), (62, [(61, 16, "w")]), (66, [(63, 1032, "s"), (64, 1024, "S"), (65, 8, "x")]),
  (68, [(67, 4, "r")]), (70, [(69, 2, "w")]), (74, [(71, 513, "t"), (72, 512, "T"), (73, 1, "x")])]
def fmTest (m : Int) (i : Nat) (bit : Int) : Bool := if i = 0 then Builtin.bitAnd m 61440 == bit else Builtin.bitAnd m bit == bit
def fmPick (m : Int) (i : Nat) (ps : List (Addr × Int × Str)) : Str := match ps.find? (fun p => fmTest m i p.2.1) with
  | some p => p.2.2
  | none => if i = 0 then "?" else "-"
def fmSigns (m : Int) (n : Nat) : List Str := (List.range n).map fun i => fmPick m i ((fmTab[i]?.map (·.2)).getD [])
def fmRow (m : Int) : Str := Txt.join "" (fmSigns m 10)

theorem fm_table {P : Params} {h : Heap} (X : (KH P).In h) : h.IsTuple 75 (fmTab.map fun r => Value.ref r.1).toArray := ⟨_, X _ _ rfl, rfl, _, rfl⟩
theorem fm_rows {P : Params} {h : Heap} (X : (KH P).In h) : ∀ r ∈ fmTab, h.IsTuple r.1 (r.2.map fun p => Value.ref p.1).toArray ∧ ∀ p ∈ r.2, ∃ t u, h.IsTuple p.1 [Value.int p.2.1 t, Value.str p.2.2 u].toArray := by
  simp only [fmTab, List.forall_mem_cons, List.not_mem_nil, false_implies, implies_true, and_true]
  refine ⟨⟨⟨_, X _ _ rfl, rfl, _, rfl⟩, ?_⟩, ⟨⟨_, X _ _ rfl, rfl, _, rfl⟩, ?_⟩, ⟨⟨_, X _ _ rfl, rfl, _, rfl⟩, ?_⟩, ⟨⟨_, X _ _ rfl, rfl, _, rfl⟩, ?_⟩, ⟨⟨_, X _ _ rfl, rfl, _, rfl⟩, ?_⟩,
    ⟨⟨_, X _ _ rfl, rfl, _, rfl⟩, ?_⟩, ⟨⟨_, X _ _ rfl, rfl, _, rfl⟩, ?_⟩, ⟨⟨_, X _ _ rfl, rfl, _, rfl⟩, ?_⟩, ⟨⟨_, X _ _ rfl, rfl, _, rfl⟩, ?_⟩, ⟨⟨_, X _ _ rfl, rfl, _, rfl⟩, ?_⟩⟩ <;>
  (repeat' apply And.intro) <;> exact ⟨_, _, _, X _ _ rfl, rfl, _, rfl⟩

theorem fm_len1 (m : Int) (i : Nat) : (fmPick m i ((fmTab[i]?.map (·.2)).getD [])).length = 1 := by
  have h : ∀ r ∈ fmTab, ∀ p ∈ r.2, p.2.2.length = 1 := by decide
  unfold fmPick
  split
  · rename_i p hp
    have hm := List.mem_of_find?_eq_some hp
    cases e : fmTab[i]? with
    | none => rw [e] at hm; cases hm
    | some r => rw [e] at hm; exact h r (List.mem_of_getElem? e) p hm
  · split <;> rfl
theorem fm_len (m : Int) : ∀ n, ((fmSigns m n).map (·.length)).sum + (fmSigns m n).length * (Str.ofString "").length ≤ n
  | 0 => by simp [fmSigns]
  | n + 1 => by
    have ih := fm_len m n
    have e : (Str.ofString "").length = 0 := rfl
    rw [e, Nat.mul_zero, Nat.add_zero] at ih ⊢
    have h1 := fm_len1 m n
    simp only [fmSigns, List.range_succ, List.map_append, List.map_cons, List.map_nil, List.sum_append, List.sum_cons, List.sum_nil, h1] at ih ⊢
    omega
theorem fm_find {α : Type} : ∀ (l : List α) (f : α → Bool) (j : Nat) (p : α), l[j]? = some p → f p = true → (∀ j' q, j' < j → l[j']? = some q → f q = false) → l.find? f = some p
  | [], f, j, p, h, _, _ => by simp at h
  | a :: r, f, 0, p, h, e, _ => by simp at h; subst h; simp [e]
  | a :: r, f, j + 1, p, h, e, hn => by
    rw [List.find?_cons, hn 0 a (Nat.zero_lt_succ _) rfl]
    exact fm_find r f j p (by simpa using h) e fun j' q hj hq => hn (j' + 1) q (Nat.succ_lt_succ hj) (by simpa using hq)
section
variable {prog : Program} {w : World} {A : Around} {E : Value → Shared → Prop} {s : Shared} {Q : Value → Shared → Prop}
theorem filemode_call {m : Int} {t : Tok} (g : Gr w s.heap) (r : Rm A 2) (h : ∀ t' s', Kp s s' → Q (.str (fmRow m) t') s') :
    wpAny (model prog w) A (call (.ref 82) [.int m t]) Q E s := by
  refine enter ["mode"] ["perm", "index", "table", "bit", "char"] g r rfl (by kernel_rfl) rfl rfl rfl (by decide +kernel) rfl rfl ?_
  intro A' env L s₁ he S r'
  conv => arg 3; arg 1; whnf
  conv at he => arg 3; whnf
  dsimp only [varsOf, List.map, List.append_nil, List.zip, List.zipWith, List.nil_append, List.cons_append] at he S
  walk_at "evs"
  refine newL S ?_ (Nat.zero_le _)
  intro pa s₂ S₂ hpa
  walk_at "evs"
  refine call_enumerate_tuple (fm_table (Lg.gr (by assumption)).k) ?_
  intro h' hen hit hsz hk
  rename_i s₃ S₃ _ _ _
  have S₄ : At w s _ _ { s₃ with heap := h' } := S₃.keeps hk
  have h75 : 75 < s₃.heap.objs.size := by obtain ⟨o, e, _⟩ := fm_table S₃.gr.k; exact Heap.lt_size e
  refine wpAny_pyIter_enum hen ?_
  refine for_turns (turns_enum_tuple r'.h (s₃.heap.objs.size + 1) s₃.heap.objs.size 75 (fmTab.map fun r => Value.ref r.1).toArray (Nat.ne_of_lt h75) (Nat.succ_ne_self _) (Nat.ne_of_gt (Nat.lt_succ_of_lt h75)))
    (fun l : List (Str × Tok) => [(pa, IsL (strValues l)), (L, HasV [("mode", some (.int m t)), ("perm", some (.ref pa)), ("index", none), ("table", none), ("bit", none), ("char", none)])]) [] []
    (fun _ => rfl) (fun _ i l => l.map (·.1) = fmSigns m i) (fun _ _ _ _ _ h => h) ?live (by simp) S₄ ⟨⟨_, hen⟩, hit, fm_table S₄.gr.k⟩ ?hB ?hfp rfl ?turn ?fin
  case live =>
    rintro i h ⟨⟨_, a⟩, ⟨o, b, _⟩, _⟩ c hc
    rcases List.mem_cons.mp hc with rfl | hc
    · exact ⟨_, a⟩
    · cases List.mem_singleton.mp hc; exact ⟨_, b⟩
  case hB =>
    intro b hb o
    refine S₃.notB (none_of_le ?_) o
    rcases List.mem_cons.mp hb with rfl | hb
    · omega
    · cases List.mem_singleton.mp hb; omega
  case hfp =>
    intro b hb
    rcases List.mem_cons.mp hb with rfl | hb
    · exact S₃.notOwn (none_of_le (by omega))
    rcases List.mem_cons.mp hb with rfl | hb
    · exact S₃.notOwn (none_of_le (by omega))
    cases List.mem_singleton.mp hb
    exact S₃.notOwnB (S₃.gd.elim fun h₀ x => x.2 _ _ (x.1.k _ _ rfl))
  case turn =>
    rintro R' B₁ i v l s₅ - hi ⟨T, vals, rfl, ⟨t₁, x, hx, rfl⟩, hT⟩ hs hinv S₅
    obtain ⟨row, hrow, rfl⟩ : ∃ row, fmTab[i]? = some row ∧ x = .ref row.1 := by
      simp only [List.getElem?_toArray, List.getElem?_map, Option.map_eq_some_iff] at hx
      obtain ⟨row, a, b⟩ := hx; exact ⟨row, a, b.symm⟩
    refine asgT r'.h S₅ hT rfl rfl ?_
    intro s₆ S₆ k₆
    dsimp only [List.cons_append, List.nil_append] at S₆
    refine assignInOrder_cons ?_
    refine wpAny_assign_Name ?_
    walk_at "evs"
    refine assignInOrder_cons ?_
    refine wpAny_assign_Name ?_
    walk_at "evs"
    refine assignInOrder_nil ?_
    walk_at "evs"
    rename_i s₇ S₇
    have hmem : row ∈ fmTab := List.mem_of_getElem? hrow
    have hlen : l.length ≤ 10 := by
      have h1 := congrArg List.length hinv
      simp only [List.length_map, fmSigns, List.length_range] at h1
      have h2 : i < 10 := hi
      omega
    have hpick : ∀ (ch : Str) (u : Tok), fmPick m i row.2 = ch → List.map (·.1) (l ++ [(ch, u)]) = fmSigns m (i + 1) := by
      intro ch u e
      have e2 : (Option.map (fun x : Addr × List (Addr × Int × Str) => x.snd) fmTab[i]?).getD [] = row.2 := by rw [hrow]; rfl
      simp only [List.map_append, List.map_cons, List.map_nil, hinv, fmSigns, List.range_succ, e2, e]
    have hz : (strValues l).length ≤ sizeLine := by
      have : (strValues l).length = l.length := by simp [strValues]
      rw [this, sizeLine_eq]; omega
    have hro := S₇.notOwnG fun h' g' => let ⟨o, e, _⟩ := (fm_rows g'.k row hmem).1; ⟨o, e⟩
    refine for_iter (fun _ : Unit => [(pa, IsL (strValues l)), (L, HasV [("mode", some (.int m t)), ("perm", some (.ref pa)), ("index", some (.int i t₁)), ("table", some (.ref row.1)), ("bit", none), ("char", none)])]) R' ()
      (iters_tuple r'.h S₇ (fm_rows S₇.gr.k row hmem).1 hro) (fun _ j _ => ∀ j' p, j' < j → row.2[j']? = some p → fmTest m i p.2.1 = false) (fun _ => rfl) (fun _ _ _ _ _ h => h) (fun _ _ h => absurd h (Nat.not_lt_zero _)) ?turn2 ?fin2
    case turn2 =>
      rintro R'' B₂ j v ⟨⟩ s₈ hR hj hv hs₂ hinv₂ S₈
      obtain ⟨p, hp, rfl⟩ : ∃ p, row.2[j]? = some p ∧ v = .ref p.1 := by
        simp only [List.getElem?_map, Option.map_eq_some_iff] at hv
        obtain ⟨p, a, b⟩ := hv; exact ⟨p, a, b.symm⟩
      obtain ⟨t₂, u₂, hT₂⟩ := (fm_rows S₈.gr.k row hmem).2 p (List.mem_of_getElem? hp)
      refine asgT r'.h S₈ hT₂ rfl rfl ?_
      intro s₉ S₉ k₉
      dsimp only [List.cons_append, List.nil_append] at S₉
      refine assignInOrder_cons ?_
      refine wpAny_assign_Name ?_
      walk_at "evs"
      refine assignInOrder_cons ?_
      refine wpAny_assign_Name ?_
      walk_at "evs"
      refine assignInOrder_nil ?_
      walk_at "evs"
      have hno : fmTest m i p.2.1 = false → ∀ j' q, j' < j + 1 → row.2[j']? = some q → fmTest m i q.2.1 = false := by
        intro e j' q hj' hq
        rcases Nat.lt_succ_iff_lt_or_eq.mp hj' with h1 | h1
        · exact hinv₂ j' q h1 hq
        · subst h1; rw [hp] at hq; cases hq; exact e
      have hyes : fmTest m i p.2.1 = true → fmPick m i row.2 = p.2.2 := by
        intro e
        unfold fmPick
        rw [fm_find row.2 (fun p => fmTest m i p.2.1) j p hp e hinv₂]
      split
      · rename_i hi0
        have hi0 : i = 0 := by simpa using hi0
        walk_at "evs"
        refine S_IFMT_call (Lg.gr (by assumption)) r' ?_
        intro t₃ sa ka
        have Sa := Lg.on (by assumption) ka
        walk_at "evs"
        split
        · rename_i ht
          have ht : fmTest m i p.2.1 = true := by unfold fmTest; rw [if_pos hi0]; exact ht
          walk_at "evs"
          rename_i sb Sb
          refine ⟨B₂, l ++ [(p.2.2, u₂)], hs₂, hpick _ _ (hyes ht), ?_⟩
          rw [strValues_snoc]
          have Sc := Sb.drop ((hR.cons_cons _).cons_cons _)
          walk_at "at"
        · rename_i ht
          have ht : fmTest m i p.2.1 = false := by unfold fmTest; rw [if_pos hi0]; exact Bool.eq_false_iff.mpr ht
          walk_at "evs"
          refine ⟨B₂, (), fun _ _ e => e, hno ht, ?_⟩
          walk_at "at"
      · rename_i hi0
        have hi0 : ¬ i = 0 := by simpa using hi0
        walk_at "evs"
        split
        · rename_i ht
          have ht : fmTest m i p.2.1 = true := by unfold fmTest; rw [if_neg hi0]; exact ht
          walk_at "evs"
          rename_i sb Sb
          refine ⟨B₂, l ++ [(p.2.2, u₂)], hs₂, hpick _ _ (hyes ht), ?_⟩
          rw [strValues_snoc]
          have Sc := Sb.drop ((hR.cons_cons _).cons_cons _)
          walk_at "at"
        · rename_i ht
          have ht : fmTest m i p.2.1 = false := by unfold fmTest; rw [if_neg hi0]; exact Bool.eq_false_iff.mpr ht
          walk_at "evs"
          refine ⟨B₂, (), fun _ _ e => e, hno ht, ?_⟩
          walk_at "at"
    case fin2 =>
      rintro B₂ ⟨⟩ s₈ hs₂ hinv₂ S₈
      dsimp only [List.cons_append, List.nil_append] at S₈
      have hnone : row.2.find? (fun p => fmTest m i p.2.1) = none := by
        rw [List.find?_eq_none]
        intro p hp
        obtain ⟨j, hj⟩ := List.getElem?_of_mem hp
        rw [hinv₂ j p (by rw [List.length_map]; exact (List.getElem?_eq_some_iff.mp hj).1) hj]; exact Bool.false_ne_true
      walk_at "evs"
      split
      · rename_i hi0
        have hi0 : i = 0 := by simpa using hi0
        walk_at "evs"
        rename_i tq kq sb Sb
        refine ⟨B₂, l ++ [(("?" : Str), tq)], hs₂, hpick _ _ (by unfold fmPick; rw [hnone, if_pos hi0]), ?_⟩
        rw [strValues_snoc]
        walk_at "at"
      · rename_i hi0
        have hi0 : ¬ i = 0 := by simpa using hi0
        walk_at "evs"
        rename_i tq kq sb Sb
        refine ⟨B₂, l ++ [(("-" : Str), tq)], hs₂, hpick _ _ (by unfold fmPick; rw [hnone, if_neg hi0]), ?_⟩
        rw [strValues_snoc]
        walk_at "at"
  case fin =>
    rintro B₁ l s₅ hs hinv S₅
    dsimp only [List.cons_append, List.nil_append] at S₅
    have e10 : (List.map (fun r => Value.ref r.1) fmTab).toArray.size = 10 := rfl
    rw [e10] at hinv
    walk_at "evs"
    refine SC.join (l := l) (texts := fmSigns m 10) (Lg.list S₅ (by walk_at "mem")) hinv (joinOk_of ?_) ?_
    · exact Nat.le_trans (fm_len m 10) (by decide)
    · intro t' k
      exact h _ _ (Lg.kp (S₅.anti hs g.gd))
end
/-! _law_row -/
def lrTab : List (Int × Int × Str) := [(64, 2048, "-xSs"), (8, 1024, "-xSs"), (1, 512, "-xTt")]
def lrSign (m : Int) (p : Int × Int × Str) : Str :=
  Txt.item "-r" (((m.fdiv p.1).fmod 8).fdiv 4) ++ Txt.item "-w" ((((m.fdiv p.1).fmod 8).fdiv 2).fmod 2) ++ Txt.item p.2.2 (((m.fdiv p.1).fmod 8).fmod 2 + 2 * (m.fdiv p.2.1).fmod 2)
def lrRow (m : Int) (n : Nat) : Str := (lrTab.take n).foldl (fun r p => r ++ lrSign m p) (Txt.item "?pc?d?b?-?l?s???" ((m.fdiv 4096).fmod 16))
theorem lr_facts : ∀ p ∈ lrTab, p.1 ≠ 0 ∧ p.1.natAbs < 1073741824 ∧ p.2.1 ≠ 0 ∧ p.2.1.natAbs < 1073741824 ∧ p.2.2.length = 4 := by decide
theorem len_app (x y : Str) : (x ++ y).length = x.length + y.length := Str.length_append x y
theorem fdiv4_bd {x : Int} (h0 : 0 ≤ x) (h1 : x < 8) : 0 ≤ x.fdiv 4 ∧ x.fdiv 4 < 2 := by rw [Int.fdiv_eq_ediv_of_nonneg _ (by decide)]; omega
section
variable {prog : Program} {w : World} {A : Around} {E : Value → Shared → Prop} {s : Shared} {Q : Value → Shared → Prop}
theorem law_row_call {m : Int} {t : Tok} (g : Gr w s.heap) (r : Rm A 1) (h : ∀ t' s', Kp s s' → Q (.str (lrRow m 3) t') s') :
    wpAny (model prog w) A (call (.ref 151) [.int m t]) Q E s := by
  refine enter ["mode"] ["row", "place", "special", "ends", "figure"] g r rfl (by kernel_rfl) rfl rfl rfl (by decide +kernel) rfl rfl ?_
  intro A' env L s₁ he S r'
  conv => arg 3; arg 1; whnf
  conv at he => arg 3; whnf
  dsimp only [varsOf, List.map, List.append_nil, List.zip, List.zipWith, List.nil_append, List.cons_append] at he S
  walk_at "evs"
  have b16 := fmod_lo (m.fdiv 4096) (n := 16) (by decide)
  have b17 := fmod_hi (m.fdiv 4096) (n := 16) (by decide)
  have l16 : (Str.ofString "?pc?d?b?-?l?s???").length = 16 := by decide
  with_reducible refine itemSt b16 (by rw [l16]; omega) (by rw [l16]; decide) (by with_unfolding_all rfl) (by intro _; with_unfolding_all rfl) ?_
  intro _ _
  walk_at "evs"
  with_reducible refine newT (by assumption) ?_ (by walk_at "sz")
  intro a₁ sa Sa _
  walk_at "evs"
  with_reducible refine newT (by assumption) ?_ (by walk_at "sz")
  intro a₂ sb Sb _
  walk_at "evs"
  with_reducible refine newT (by assumption) ?_ (by walk_at "sz")
  intro a₃ sc Sc _
  walk_at "evs"
  with_reducible refine newT (by assumption) ?_ (by walk_at "sz")
  intro aT sd Sd _
  obtain ⟨B₁, o₁, hb₁, hoT, pT, S₁⟩ := Sd.freeze
  obtain ⟨B₂, o₂, hb₂, ho₃, p₃, S₂⟩ := S₁.freeze
  obtain ⟨B₃, o₃, hb₃, ho₂, p₂, S₃⟩ := S₂.freeze
  obtain ⟨B₄, o₄, hb₄, ho₁, p₁, S₄⟩ := S₃.freeze
  have hbs : ∀ b o, s.heap.get? b = some o → B₄ b o := fun b o e => hb₄ _ _ (hb₃ _ _ (hb₂ _ _ (hb₁ _ _ e)))
  have hT : B₄ aT o₁ := hb₄ _ _ (hb₃ _ _ (hb₂ _ _ hoT))
  have h₃ : B₄ a₃ o₂ := hb₄ _ _ (hb₃ _ _ ho₃)
  have h₂ : B₄ a₂ o₃ := hb₄ _ _ ho₂
  have hitem : ∀ (i : Nat) (v : Value), [Value.ref a₁, .ref a₂, .ref a₃][i]? = some v → ∃ a o p t₁ t₂ t₃, v = .ref a ∧ B₄ a o ∧ lrTab[i]? = some p ∧ IsT [.int p.1 t₁, .int p.2.1 t₂, .str p.2.2 t₃] o := by
    intro i v e
    match i, e with
    | 0, e => cases e; exact ⟨_, _, _, _, _, _, rfl, ho₁, rfl, p₁⟩
    | 1, e => cases e; exact ⟨_, _, _, _, _, _, rfl, h₂, rfl, p₂⟩
    | 2, e => cases e; exact ⟨_, _, _, _, _, _, rfl, h₃, rfl, p₃⟩
    | i + 3, e => simp at e
  refine forI (fun x : Str × Tok => [(L, HasV [("mode", some (.int m t)), ("row", some (.str x.1 x.2)), ("place", none), ("special", none), ("ends", none), ("figure", none)])]) [] (_, _)
    (iters_tuple r'.h S₄ (IsT.isTuple ⟨_, S₄.keep _ _ hT, pT⟩) (S₄.notOwnB hT)) (fun _ i x => x.1 = lrRow m i ∧ x.1.length = 1 + 3 * i) (fun _ => rfl) (fun _ _ _ _ _ h => h) ⟨rfl, rfl⟩ ?turn ?fin
  case turn =>
    rintro R' B₅ i v ⟨row, tr⟩ s₅ Qb - hi hv hs₅ ⟨hrow, hlen⟩ S₅ hN - -
    dsimp only at hrow hlen
    obtain ⟨a, o, p, t₁, t₂, t₃, rfl, hao, hp, po⟩ := hitem i v hv
    refine asgT r'.h S₅ (IsT.isTuple ⟨_, S₅.keep _ _ (hs₅ _ _ hao), po⟩) rfl rfl ?_
    intro s₆ S₆ k₆
    dsimp only [List.cons_append, List.nil_append] at S₆
    iterate 3 walk_at "aio"
    refine assignInOrder_nil ?_
    walk_at "evs"
    obtain ⟨f1, f2, f3, f4, f5⟩ := lr_facts p (List.mem_of_getElem? hp)
    have hi3 : i < 3 := hi
    with_reducible refine oDiv f1 f2 ?_
    intro _ _
    walk_at "evs"
    have g0 := fmod_lo (m.fdiv p.1) (n := 8) (by decide)
    have g1 := fmod_hi (m.fdiv p.1) (n := 8) (by decide)
    have g2 := fdiv4_bd g0 g1
    have g3 := fmod_lo (((m.fdiv p.1).fmod 8).fdiv 2) (n := 2) (by decide)
    have g4 := fmod_hi (((m.fdiv p.1).fmod 8).fdiv 2) (n := 2) (by decide)
    have g5 := fmod_lo ((m.fdiv p.1).fmod 8) (n := 2) (by decide)
    have g6 := fmod_hi ((m.fdiv p.1).fmod 8) (n := 2) (by decide)
    have g7 := fmod_lo (m.fdiv p.2.1) (n := 2) (by decide)
    have g8 := fmod_hi (m.fdiv p.2.1) (n := 2) (by decide)
    have l2 : (Str.ofString "-r").length = 2 := by decide
    have l3 : (Str.ofString "-w").length = 2 := by decide
    with_reducible refine itemSt g2.1 (by rw [l2]; have := g2.2; omega) (by rw [l2]; decide) (by with_unfolding_all rfl) (by intro _; with_unfolding_all rfl) ?_
    intro _ _
    walk_at "evs"
    with_reducible refine itemSt g3 (by rw [l3]; omega) (by rw [l3]; decide) (by with_unfolding_all rfl) (by intro _; with_unfolding_all rfl) ?_
    intro _ _
    with_reducible refine oCat (by rw [len_item, len_item]; decide) ?_
    intro t₄ k₄
    walk_at "evs"
    with_reducible refine oDiv f3 f4 ?_
    intro _ _
    walk_at "evs"
    with_reducible refine oMul (PySem.IntMulOk.of_left (PySem.intBits_le_64 (by decide) (by decide))) ?_
    intro _ _
    walk_at "evs"
    with_reducible refine itemSt (by omega) (by rw [f5]; omega) (by rw [f5]; decide) (by with_unfolding_all rfl) (by intro _; with_unfolding_all rfl) ?_
    intro _ _
    with_reducible refine oCat (by rw [len_app, len_item, len_item, len_item]; decide) ?_
    intro t₅ k₅
    with_reducible refine oCatI (by rw [len_app, len_app, len_item, len_item, len_item, hlen, sizeLine_eq]; omega) ?_
    intro t₆ k₆
    walk_at "evs"
    refine hN _ B₅ (row ++ lrSign m p, t₆) _ (.inl rfl) (fun _ _ e => e) ⟨?_, ?_⟩ ?_
    rotate_left 2
    · have e : lrSign m p = _ := rfl
      unfold lrSign
      walk_at "at"
    · dsimp only
      rw [hrow]
      unfold lrRow
      have e3 : lrTab.take (i + 1) = lrTab.take i ++ [p] := by rw [List.take_add_one, hp]; rfl
      rw [e3, List.foldl_append]
      rfl
    · dsimp only
      unfold lrSign
      rw [len_app, len_app, len_app, len_item, len_item, len_item, hlen]; omega
  case fin =>
    rintro B₅ ⟨row, tr⟩ s₅ hs₅ ⟨hrow, hlen⟩ S₅
    dsimp only [List.cons_append, List.nil_append] at S₅ hrow hlen
    walk_at "evs"
    rw [hrow]
    exact h _ _ (Lg.kp (S₅.anti (fun b o e => hs₅ _ _ (hbs _ _ e)) g.gd))
end
/-! the folders; _law_nearest -/
structure Fold where
  up : Int
  path : Str
  mode : Int
  w : Int
def Ints (vs : List Value) (ns : List Int) : Prop := ∃ l : List (Int × Tok), vs = l.map (fun p => Value.int p.1 p.2) ∧ l.map (·.1) = ns
def FoldAt (B : Fx) (a : Addr) (f : Fold) : Prop := ∃ o t1 t2 t3 t4, B a o ∧ IsT [.int f.up t1, .str f.path t2, .int f.mode t3, .int f.w t4] o
def Folders (B : Fx) (fa : Addr) (fs : List Fold) : Prop := ∃ (o : Obj) (as : List Addr), B fa o ∧ IsL (as.map Value.ref) o ∧ as.length = fs.length ∧ ∀ (k : Nat) a f, as[k]? = some a → fs[k]? = some f → FoldAt B a f
def IntL (B : Fx) (a : Addr) (ns : List Int) : Prop := ∃ o vs, B a o ∧ IsL vs o ∧ Ints vs ns
theorem FoldAt.mono {B B' : Fx} {a : Addr} {f : Fold} (h : FoldAt B a f) (hs : ∀ b o, B b o → B' b o) : FoldAt B' a f := let ⟨o, t1, t2, t3, t4, e, p⟩ := h; ⟨o, t1, t2, t3, t4, hs _ _ e, p⟩
theorem Folders.mono {B B' : Fx} {a : Addr} {fs : List Fold} (h : Folders B a fs) (hs : ∀ b o, B b o → B' b o) : Folders B' a fs :=
  let ⟨o, as, e, p, l, k⟩ := h; ⟨o, as, hs _ _ e, p, l, fun i a f h1 h2 => (k i a f h1 h2).mono hs⟩
theorem IntL.mono {B B' : Fx} {a : Addr} {ns : List Int} (h : IntL B a ns) (hs : ∀ b o, B b o → B' b o) : IntL B' a ns := let ⟨o, vs, e, p, i⟩ := h; ⟨o, vs, hs _ _ e, p, i⟩
theorem Folders.get {B : Fx} {fa : Addr} {fs : List Fold} (h : Folders B fa fs) {k : Nat} {f : Fold} (hk : fs[k]? = some f) : ∃ (o : Obj) (as : List Addr) (a : Addr), B fa o ∧ IsL (as.map Value.ref) o ∧ (as.map Value.ref)[k]? = some (.ref a) ∧ FoldAt B a f := by
  obtain ⟨o, as, e, p, l, q⟩ := h
  have hlt : k < as.length := by rw [l]; exact (List.getElem?_eq_some_iff.mp hk).1
  exact ⟨o, as, as[k], e, p, by simp [hlt], q k _ f (by simp [hlt]) hk⟩

def Valid (fs : List Fold) : Prop := ∀ (k : Nat) f, fs[k]? = some f → -1 ≤ f.up ∧ f.up < k
def upAt (fs : List Fold) (f : Int) : Int := match fs[f.toNat]? with
  | some x => x.up
  | none => -1
def nearN (fs : List Fold) (held : List Int) : Nat → Int → Int
  | 0, f => f
  | n + 1, f => if 0 ≤ f ∧ f ∉ held then nearN fs held n (upAt fs f) else f
def near (fs : List Fold) (held : List Int) (f : Int) : Int := nearN fs held (f + 1).toNat f

theorem upAt_bd {fs : List Fold} (hV : Valid fs) {f : Int} (h0 : 0 ≤ f) (h1 : f < fs.length) : -1 ≤ upAt fs f ∧ upAt fs f < f := by
  unfold upAt
  have hlt : f.toNat < fs.length := by omega
  rw [List.getElem?_eq_getElem hlt]
  have := hV f.toNat fs[f.toNat] (List.getElem?_eq_getElem hlt)
  show -1 ≤ fs[f.toNat].up ∧ fs[f.toNat].up < f
  omega
theorem nearN_stable {fs : List Fold} (hV : Valid fs) (held : List Int) : ∀ (n m : Nat) (f : Int), -1 ≤ f → f < fs.length → (f + 1).toNat ≤ n → (f + 1).toNat ≤ m → nearN fs held n f = nearN fs held m f
  | 0, 0, _, _, _, _, _ => rfl
  | 0, m + 1, f, h0, h1, hn, _ => by
    have : f = -1 := by omega
    subst this; simp [nearN]
  | n + 1, 0, f, h0, h1, _, hm => by
    have : f = -1 := by omega
    subst this; simp [nearN]
  | n + 1, m + 1, f, h0, h1, hn, hm => by
    unfold nearN
    split
    · rename_i h
      have := upAt_bd hV h.1 h1
      exact nearN_stable hV held n m _ (by omega) (by omega) (by omega) (by omega)
    · rfl
theorem near_step {fs : List Fold} (hV : Valid fs) (held : List Int) {f : Int} (h0 : -1 ≤ f) (h1 : f < fs.length) : near fs held f = if 0 ≤ f ∧ f ∉ held then near fs held (upAt fs f) else f := by
  by_cases h : 0 ≤ f
  · have e : (f + 1).toNat = (f.toNat) + 1 := by omega
    unfold near
    rw [e]
    rw [nearN]
    split
    · have := upAt_bd hV h h1
      exact nearN_stable hV held _ _ _ (by omega) (by omega) (by omega) (by omega)
    · rfl
  · have : f = -1 := by omega
    subst this; simp [near, nearN]

section
variable {prog : Program} {w : World} {A : Around} {E : Value → Shared → Prop} {s : Shared} {Q : Value → Shared → Prop}
theorem notIn_ints {l : Addr} {vs : List Value} {ns : List Int} {k : Int} {t : Tok} {Q : Value → Shared → Prop} (hl : s.heap.IsList l vs.toArray) (hi : Ints vs ns) (h : Q (.bool (decide (k ∉ ns))) s) :
    wpAny (model prog w) A (compareOp .NotIn (.int k t) (.ref l)) Q E s := by
  obtain ⟨q, rfl, rfl⟩ := hi
  refine SeqAt.notIn_listAt (fun y => match y with | .int a _ => a == k | _ => false) hl (fun y hy => ?_) ?_
  · obtain ⟨p, hp, rfl⟩ := List.mem_map.mp (List.mem_toArray.mp hy)
    exact SeqAt.EqAt.int_int _ _ _ _
  · have : (!(List.map (fun p => Value.int p.1 p.2) q).toArray.any fun y => match y with | .int a _ => a == k | _ => false) = decide (k ∉ q.map (·.1)) := by
      rw [Bool.eq_iff_iff]
      simp
      constructor
      · intro h x hm; exact h k x hm rfl
      · intro h x t hm e; subst e; exact h t hm
    rw [this]; exact h

theorem nearest_call {fs : List Fold} {held : List Int} {fa ha : Addr} {f : Int} {t : Tok} (g : Gr w s.heap) (r : Rm A 1) (hF : Folders (fun b o => s.heap.get? b = some o) fa fs) (hV : Valid fs)
    (hH : IntL (fun b o => s.heap.get? b = some o) ha held) (hf : -1 ≤ f) (hf2 : f < fs.length) (hsz : fs.length ≤ 1000) (h : ∀ t' s', Kp s s' → Q (.int (near fs held f) t') s') :
    wpAny (model prog w) A (call (.ref 180) [.ref fa, .ref ha, .int f t]) Q E s := by
  refine enter ["folders", "held", "f"] [] g r rfl (by kernel_rfl) rfl rfl rfl (by decide +kernel) rfl rfl ?_
  intro A' env L s₁ he S r'
  conv => arg 3; arg 1; whnf
  conv at he => arg 3; whnf
  dsimp only [varsOf, List.map, List.append_nil, List.zip, List.zipWith, List.nil_append, List.cons_append] at he S
  walk_at "ev"
  with_reducible refine wpAny_While ?_
  refine codeAny_whileLoop (fun n s₂ => ∃ (f₂ : Int) (t₂ : Tok), -1 ≤ f₂ ∧ f₂ < fs.length ∧ near fs held f₂ = near fs held f ∧ n = (f₂ + 1).toNat + 1 ∧
    At w s (fun b o => s.heap.get? b = some o) [(L, HasV [("folders", some (.ref fa)), ("held", some (.ref ha)), ("f", some (.int f₂ t₂))])] s₂) ?_ ((f + 1).toNat + 1) ⟨f, t, hf, hf2, rfl, rfl, S⟩
  rintro n s₂ ⟨f₂, t₂, h1, h2, h3, rfl, S₂⟩
  have stop : near fs held f₂ = f₂ → ∀ k, Q (.int f₂ t₂) { s₂ with toks := k } := fun e k => by rw [← e, h3]; exact h _ _ (Lg.kp (s := { s₂ with toks := k }) S₂)
  walk_at "evs"
  split
  · rename_i c1
    have c1 : 0 ≤ f₂ := by simpa using c1
    obtain ⟨o, vs, ho, po, hi⟩ := hH
    walk_at "evs"
    with_reducible refine notIn_ints (IsL.isList ⟨_, S₂.keep _ _ ho, po⟩) hi ?_
    walk_at "evs"
    split
    · rename_i c2
      have c2 : f₂ ∉ held := by simpa using c2
      have hlt : f₂.toNat < fs.length := by omega
      obtain ⟨o', as, a, hfa, pfa, hla, ⟨o₂, u1, u2, u3, u4, ha₂, pa₂⟩⟩ := hF.get (List.getElem?_eq_getElem hlt)
      have hb := upAt_bd hV c1 h2
      have hup : upAt fs f₂ = fs[f₂.toNat].up := by unfold upAt; rw [List.getElem?_eq_getElem hlt]
      walk_at "evs"
      with_reducible refine item_listL (IsL.isList ⟨_, S₂.keep _ _ hfa, pfa⟩) c1 (by omega) hla ?_ (by with_unfolding_all rfl) (by intro _; with_unfolding_all rfl)
      walk_at "evs"
      with_reducible refine item_tupleT (IsT.isTup ⟨_, S₂.keep _ _ ha₂, pa₂⟩) (by decide) (by decide) (by with_unfolding_all rfl) (by with_unfolding_all rfl) ?_ (by with_unfolding_all rfl)
      walk_at "evs"
      rw [← hup] at *
      refine ⟨_, ?_, upAt fs f₂, u1, hb.1, by omega, ?_, rfl, by assumption⟩
      · omega
      · rw [← h3, near_step hV held (f := f₂) h1 h2, if_pos ⟨c1, c2⟩]
    · rename_i c2
      have c2 : f₂ ∈ held := by simpa using c2
      walk_at "evs"
      exact stop (by rw [near_step hV held h1 h2, if_neg (fun q => q.2 c2)]) _
  · rename_i c1
    have c1 : ¬ 0 ≤ f₂ := by simpa using c1
    walk_at "evs"
    exact stop (by rw [near_step hV held h1 h2, if_neg (fun q => c1 q.1)]) _
end
/-! _law_listing -/
def StrL (B : Fx) (a : Addr) (xs : List Str) : Prop := ∃ o vs, B a o ∧ IsL vs o ∧ Texts vs xs
theorem StrL.mono {B B' : Fx} {a : Addr} {ns : List Str} (h : StrL B a ns) (hs : ∀ b o, B b o → B' b o) : StrL B' a ns := let ⟨o, vs, e, p, i⟩ := h; ⟨o, vs, hs _ _ e, p, i⟩
def FitsAt (B : Fx) (fa : Addr) (ft : List (List Int)) : Prop := ∃ (o : Obj) (as : List Addr), B fa o ∧ IsL (as.map Value.ref) o ∧ as.length = ft.length ∧ ∀ (k : Nat) a f, as[k]? = some a → ft[k]? = some f → IntL B a f
theorem FitsAt.mono {B B' : Fx} {a : Addr} {ft : List (List Int)} (h : FitsAt B a ft) (hs : ∀ b o, B b o → B' b o) : FitsAt B' a ft :=
  let ⟨o, as, e, p, l, k⟩ := h; ⟨o, as, hs _ _ e, p, l, fun i a f h1 h2 => (k i a f h1 h2).mono hs⟩
theorem FitsAt.get {B : Fx} {fa : Addr} {fs : List (List Int)} (h : FitsAt B fa fs) {k : Nat} {f : List Int} (hk : fs[k]? = some f) : ∃ (o : Obj) (as : List Addr) (a : Addr), B fa o ∧ IsL (as.map Value.ref) o ∧ (as.map Value.ref)[k]? = some (.ref a) ∧ IntL B a f := by
  obtain ⟨o, as, e, p, l, q⟩ := h
  have hlt : k < as.length := by rw [l]; exact (List.getElem?_eq_some_iff.mp hk).1
  exact ⟨o, as, as[k], e, p, by simp [hlt], q k _ f (by simp [hlt]) hk⟩
def fitAt (ft : List (List Int)) (k f : Int) : Int := (((ft[k.toNat]?).getD [])[f.toNat]?).getD 0
def fitting (ft : List (List Int)) (order : List Int) (f : Int) : List Int := order.filter fun k => fitAt ft k f == 1
def rowAt (xs : List Str) (i : Int) : Str := (xs[(if i < 0 then i + xs.length else i).toNat]?).getD ""
def listN (order : List Int) (ft : List (List Int)) (xs : List Str) (n : Nat) : List Str := (List.range n).map fun (f : Nat) => rowAt xs ((fitting ft order (f : Int)).headD (-1))
def SixBy (ft : List (List Int)) : Prop := ft.length = 6 ∧ ∀ r ∈ ft, r.length = 6
theorem Lg.addOn {w : World} {Z : Shared} {B : Fx} {own : Own} {s s' : Shared} {a : Addr} {P : Obj → Prop} (S : At w Z B own s) (k : Kp s s') (hn : s.heap.get? a = none) (hp : ∃ o, s'.heap.get? a = some o ∧ P o) : At w Z B ((a, P) :: own) s' := by
  obtain ⟨o, e, p⟩ := hp
  have := S.add (h' := s'.heap) hn k.keep e p
  rw [← k.gens, ← k.os] at this
  exact this
theorem Ints.are {vs : List Value} {ns : List Int} (h : Ints vs ns) : IntsAre vs ns := by
  obtain ⟨l, rfl, rfl⟩ := h
  induction l with
  | nil => exact .nil
  | cons a r ih => exact .cons _ _ ih
theorem Ints.snoc {vs : List Value} {ns : List Int} {n : Int} {t : Tok} (h : Ints vs ns) : Ints (vs ++ [.int n t]) (ns ++ [n]) := by
  obtain ⟨l, rfl, rfl⟩ := h
  exact ⟨l ++ [(n, t)], by simp, by simp⟩
theorem Ints.nil : Ints [] [] := ⟨[], rfl, rfl⟩
theorem Ints.length {vs : List Value} {xs : List Int} (h : Ints vs xs) : vs.length = xs.length := by
  obtain ⟨l, rfl, rfl⟩ := h; simp
theorem Ints.get {vs : List Value} {ns : List Int} (h : Ints vs ns) {k : Nat} {n : Int} (e : ns[k]? = some n) : ∃ t, vs[k]? = some (.int n t) := by
  obtain ⟨l, rfl, rfl⟩ := h
  rw [List.getElem?_map, Option.map_eq_some_iff] at e
  obtain ⟨p, a, b⟩ := e
  exact ⟨p.2, by rw [List.getElem?_map, a]; simp [← b]⟩
theorem Ints.val {vs : List Value} {ns : List Int} (h : Ints vs ns) {k : Nat} {v : Value} (e : vs[k]? = some v) : ∃ n t, ns[k]? = some n ∧ v = .int n t := by
  obtain ⟨l, rfl, rfl⟩ := h
  rw [List.getElem?_map, Option.map_eq_some_iff] at e
  obtain ⟨p, a, b⟩ := e
  exact ⟨p.1, p.2, by rw [List.getElem?_map, a]; rfl, b.symm⟩
theorem Texts.get {vs : List Value} {ns : List Str} (h : Texts vs ns) {k : Nat} {n : Str} (e : ns[k]? = some n) : ∃ t, vs[k]? = some (.str n t) := by
  obtain ⟨l, rfl, rfl⟩ := h
  rw [List.getElem?_map, Option.map_eq_some_iff] at e
  obtain ⟨p, a, b⟩ := e
  exact ⟨p.2, by rw [strValues, List.getElem?_map, a]; simp [← b]⟩
theorem Texts.val {vs : List Value} {ns : List Str} (h : Texts vs ns) {k : Nat} {v : Value} (e : vs[k]? = some v) : ∃ n t, ns[k]? = some n ∧ v = .str n t := by
  obtain ⟨l, rfl, rfl⟩ := h
  rw [strValues, List.getElem?_map, Option.map_eq_some_iff] at e
  obtain ⟨p, a, b⟩ := e
  exact ⟨p.1, p.2, by rw [List.getElem?_map, a]; rfl, b.symm⟩
theorem swaps {env : Env} {L : Addr} {names : List (Str × NameKind)} {cells : List (Str × Addr)} {elt : Expr} {gs : List Comprehension} {scope : Scope} {pos py : Pos} {y : Str} {ln : Nat} (he : EnvIs env L names cells) (hy : (y, NameKind.local) ∈ names)
    (h : (py.line == pos.line && !(scope.names.any fun p => p.1 == y && (p.2 == .local || p.2 == .cell))) = true) : swapsWith (.ListComp elt gs scope pos) (some (.Name y py)) ln env = pure true := by
  show (pure (env.blockKind == .function && env.kindOf y == some .local && py.line == pos.line && !(scope.names.any fun p => p.1 == y && (p.2 == .local || p.2 == .cell))) : Sem Bool) = pure true
  rw [he.kof _ _ hy]
  have : env.blockKind = .function := by unfold Env.blockKind; rw [he.kind]; rfl
  rw [this, Bool.and_assoc, h]
  rfl
theorem Rm.units {A : Around} (r : Rm A 7) : A.units + 64 < cLine := by have := r.u; omega
section
variable {prog : Program} {w : World} {A : Around} {E : Value → Shared → Prop} {s : Shared} {Q : Value → Shared → Prop}
theorem newR {Z : Shared} {B : Fx} {own : Own} {n : Int} {t : Tok} (S : At w Z B own s) (h : ∀ a t u v s', At w Z B own s' → IsRange s'.heap a 0 n 1 t u v → Kp s s' → Q (.ref a) s') : wpAny (model prog w) A (call (.type "range") [.int n t]) Q E s :=
  call_range_1 (h _ _ _ _ { s with heap := s.heap.push { cls := .type "range", data := .fields #[.int 0 s.toks, .int n t, .int 1 (s.toks + 1)] }, toks := s.toks + 1 + 1 } (S.push _) (Heap.get?_push_size _ rfl) (Kp.push s _ _))
theorem itemL {value slice : Expr} {a : Addr} {l : List Value} {k : Int} {u : Tok} {x : Value} (hl : s.heap.IsList a l.toArray) (h0 : 0 ≤ k) (hfit : k < 2 ^ 63) (hx : l[k.toNat]? = some x) (h : Q x s)
    (hs : subscripted slice false (.ref a) (.int k u) = operate [.ref a, .int k u] (getItem (.ref a) (.int k u))) : wpAny (model prog w) A (subscriptTail value slice (.ref a) (.int k u)) Q E s :=
  tail_any hl.typeIs slot_list_getitem.lookup (getItem_listL hl h0 hfit hx h) hs
theorem rowAt_some {xs : List Str} {i : Int} (h0 : -(xs.length : Int) ≤ i) (h1 : i < xs.length) : xs[(if i < 0 then i + xs.length else i).toNat]? = some (rowAt xs i) := by
  unfold rowAt
  have : (if i < 0 then i + (xs.length : Int) else i).toNat < xs.length := by split <;> omega
  rw [List.getElem?_eq_getElem this]; rfl
theorem rowL {value slice : Expr} {a : Addr} {vs : List Value} {xs : List Str} {k : Int} {u : Tok} (hl : s.heap.IsList a vs.toArray) (ht : Texts vs xs) (h0 : -(xs.length : Int) ≤ k) (h1 : k < xs.length) (hx : xs.length ≤ 1000) (h : ∀ t, Q (.str (rowAt xs k) t) s)
    (hs : subscripted slice false (.ref a) (.int k u) = operate [.ref a, .int k u] (getItem (.ref a) (.int k u))) : wpAny (model prog w) A (subscriptTail value slice (.ref a) (.int k u)) Q E s := by
  obtain ⟨t, e⟩ := ht.get (rowAt_some h0 h1)
  by_cases hk : k < 0
  · rw [if_pos hk] at e
    refine kde_neg hl hk (by omega) (j := (k + xs.length).toNat) ?_ e (h t) hs
    unfold seqIndex?
    simp only [hk, if_true, ht.length]
    rw [if_pos (by simp; omega)]
  · rw [if_neg hk] at e
    exact itemL hl (by omega) (by omega) e (h t) hs
theorem ifs1 {c : Expr} {env : Env} {Q : Bool → Shared → Prop} (h : wpAny (model prog w) A (isTrue c env (eval c env)) Q E s) :
    wpAny (model prog w) A (forIn [c] true fun c r => if r = true then do let ok ← isTrue c env (eval c env); pure (ForInStep.yield ok) else pure (ForInStep.yield r)) Q E s := by
  rw [List.forIn_cons]
  refine wpAny_bind ?_
  rw [if_pos rfl]
  exact wpAny_bind (wpAny_mono h (fun _ _ q => wpAny_pure (wpAny_pure q)) fun _ _ x => x)
theorem ifs0 {env : Env} {Q : Bool → Shared → Prop} (h : Q true s) :
    wpAny (model prog w) A (forIn ([] : List Expr) true fun c r => if r = true then do let ok ← isTrue c env (eval c env); pure (ForInStep.yield ok) else pure (ForInStep.yield r)) Q E s := wpAny_pure h
theorem listing_call {order : List Int} {ft : List (List Int)} {xs : List Str} {oa fa ra : Addr} (g : Gr w s.heap) (r : Rm A 8) (hO : IntL (fun b o => s.heap.get? b = some o) oa order) (hF : FitsAt (fun b o => s.heap.get? b = some o) fa ft)
    (hR : StrL (fun b o => s.heap.get? b = some o) ra xs) (h6 : SixBy ft) (h7 : xs.length = 7) (ho : ∀ k ∈ order, 0 ≤ k ∧ k < 6) (hol : order.length ≤ 6)
    (h : ∀ D ys s', Kp s s' → s.heap.get? D = none → (∃ o, s'.heap.get? D = some o ∧ IsL ys o) → Texts ys (listN order ft xs 6) → Q (.ref D) s') :
    wpAny (model prog w) A (call (.ref 173) [.ref oa, .ref fa, .ref ra]) Q E s := by
  refine enterC ["order", "fits", "rows"] ["listing", "fitting"] ["order", "rows"] ["f", "fits"] (fun L => [("f", L + 2), ("fits", L + 1)]) [("order", .ref oa), ("rows", .ref ra)] (fun L => [(L + 2, none), (L + 1, some (.ref fa))]) g r rfl (by kernel_rfl) rfl rfl rfl (by decide +kernel) rfl rfl rfl (fun _ => rfl) (fun _ => rfl) rfl (by simp) (fun _ => rfl) ?_
  intro A' env L s₁ he S r'
  conv => arg 3; arg 1; whnf
  conv at he => arg 3; whnf
  dsimp only [varsOf, List.map, List.append_nil, List.zip, List.zipWith, List.nil_append, List.cons_append] at he S
  walk_at "evs"
  with_reducible refine newL S ?_ (Nat.zero_le _)
  intro la s₂ S₂ hla
  walk_at "evs"
  with_reducible refine newR (by assumption) ?_
  intro ar t1 u1 v1 s₃ S₃ hr _
  refine forI (fun x : List (Str × Tok) × Option Value => [(la, IsL (strValues x.1)), (L, HasV [("order", some (.ref oa)), ("rows", some (.ref ra)), ("listing", some (.ref la)), ("fitting", none)]), (L + 2, IsCell x.2), (L + 1, IsCell (some (.ref fa)))]) [] ([], none)
    (iters_range 6 r'.h S₃ hr (by decide) (by decide)) (fun _ i x => x.1.map (·.1) = listN order ft xs i) (fun _ => rfl) (fun _ _ _ _ _ h => h) rfl ?turn ?fin
  case turn =>
    rintro R' B₁ i v ⟨l, fv⟩ s₄ Qb - hi ⟨tf, rfl⟩ hs hinv S₄ hN - -
    dsimp only [List.cons_append, List.nil_append] at S₄ hinv
    refine wpAny_assign_Name ?_
    walk_at "evs"
    rename_i s₅ S₅ _ _ _
    with_reducible refine comp_assign (comp_ok he [(".0", .local), ("k", .local), ("f", .cell), ("fits", .cell)] ["k"] ["fits", "f"] [("fits", L + 1), ("f", L + 2)] (by decide +kernel) rfl (by walk_at "cl")) (fun _ => by with_unfolding_all rfl) (swaps he (by walk_at "mem") (by decide)) ?_
    walk_at "evs"
    obtain ⟨oo, vo, hoo, poo, io⟩ := id hO
    refine ⟨s, B₁, _, _, _, fun _ j ys => Ints ys (fitting ft (order.take j) i), ⟨S₅, iters_list r'.h S₅ (IsL.isList ⟨_, S₅.keep _ _ (hs _ _ hoo), poo⟩) (S₅.notOwnB (hs _ _ hoo)), ?_, fun _ _ _ _ _ h => h, Ints.nil, ?_⟩, ?_⟩
    · rw [io.length, sizeLine_eq]; omega
    · rintro C env' R₂ B₂ j v ys s₆ he' hj hv hs₂ hinv₂ S₆
      obtain ⟨k, tk, hk, rfl⟩ := io.val hv
      have hkm := ho k (List.mem_of_getElem? hk)
      dsimp only [List.map, List.cons_append, List.nil_append] at S₆
      refine wpAny_assign_Name ?_
      walk_at "evs"
      with_reducible refine ifs1 ?_
      walk_at "evs"
      have hlt : k.toNat < ft.length := by rw [h6.1]; omega
      obtain ⟨o', as, a, hfa, pfa, hla, ⟨oi, vi, hoi, poi, ii⟩⟩ := hF.get (List.getElem?_eq_getElem hlt)
      rename_i s₇ S₇
      with_reducible refine item_listL (IsL.isList ⟨_, S₇.keep _ _ (hs₂ _ _ (hs _ _ hfa)), pfa⟩) hkm.1 (by omega) hla ?_ (by with_unfolding_all rfl) (by intro _; with_unfolding_all rfl)
      walk_at "evs"
      have hlt2 : i < (ft[k.toNat]).length := by rw [h6.2 _ (List.getElem_mem hlt)]; exact hi
      obtain ⟨tv, hvi⟩ := ii.get (List.getElem?_eq_getElem hlt2)
      with_reducible refine itemL (IsL.isList ⟨_, S₇.keep _ _ (hs₂ _ _ (hs _ _ hoi)), poi⟩) (Int.natCast_nonneg _) (by omega) (by rw [Int.toNat_natCast]; exact hvi) ?_ (by with_unfolding_all rfl)
      walk_at "evs"
      have hfit : fitAt ft k i = ft[k.toNat][i] := by unfold fitAt; simp [List.getElem?_eq_getElem hlt, List.getElem?_eq_getElem hlt2]
      have htk : order.take (j + 1) = order.take j ++ [k] := by rw [List.take_add_one, hk]; rfl
      split
      · rename_i c
        walk_at "evs"
        refine ⟨B₂, fun _ _ e => e, ?_, ?_⟩
        · have e : fitting ft (order.take (j + 1)) i = fitting ft (order.take j) i ++ [k] := by
            unfold fitting; rw [htk, List.filter_append]; simp only [List.filter_cons, List.filter_nil, hfit, c, if_true]
          rw [e]; exact Ints.snoc hinv₂
        · walk_at "at"
      · rename_i c
        refine ⟨B₂, fun _ _ e => e, ?_, ?_⟩
        · have e : fitting ft (order.take (j + 1)) i = fitting ft (order.take j) i := by
            unfold fitting; rw [htk, List.filter_append]; simp only [List.filter_cons, List.filter_nil, hfit, c]; simp
          rw [e]; exact hinv₂
        · walk_at "at"
    · intro C D B₂ ys s₆ hs₂ hinv₂ hlen S₆
      dsimp only [List.map] at S₆
      walk_at "evs"
      rename_i s₇ S₇
      refine ⟨B₂, _, S₇, ?_⟩
      intro s₈ S₈
      walk_at "evs"
      with_reducible refine newL S₈ ?_ (Nat.zero_le _)
      intro ea s₉ S₉ _
      with_reducible refine ke_ne_ints (S₉.list (by walk_at "mem")) (S₉.list (by walk_at "mem")) hinv₂.are .nil r'.units ?_
      have hall : order.take vo.length = order := by rw [io.length]; exact List.take_length
      rw [hall] at hinv₂
      have hz : (strValues l).length ≤ sizeLine := by
        have h1 := congrArg List.length hinv
        simp only [List.length_map, listN, List.length_range] at h1
        have : (strValues l).length = l.length := by simp [strValues]
        rw [this, sizeLine_eq]; omega
      obtain ⟨oR, vR, hoR, poR, iR⟩ := id hR
      walk_at "evs"
      split
      · rename_i c
        have c : fitting ft order i ≠ [] := by simpa [hall] using c
        obtain ⟨k, rest, hk⟩ : ∃ k rest, fitting ft order i = k :: rest := by
          cases e : fitting ft order i with
          | nil => exact absurd e c
          | cons k rest => exact ⟨k, rest, rfl⟩
        have hkm := ho k ((List.mem_filter.mp (show k ∈ fitting ft order i by rw [hk]; exact .head _)).1)
        obtain ⟨tk, hvk⟩ := hinv₂.get (k := 0) (n := k) (by rw [hk]; rfl)
        walk_at "evs"
        with_reducible refine itemL (S₉.list (by walk_at "mem")) (by decide) (by decide) hvk ?_ (by with_unfolding_all rfl)
        with_reducible refine rowL (IsL.isList ⟨_, S₉.keep _ _ (hs₂ _ _ (hs _ _ hoR)), poR⟩) iR (by omega) (by omega) (by omega) ?_ (by with_unfolding_all rfl)
        intro tr
        walk_at "evs"
        refine hN _ B₂ (l ++ [(rowAt xs k, tr)], some (.int i tf)) _ (.inl rfl) hs₂ ?_ ?_
        · dsimp only
          rw [List.map_append, hinv]
          simp [listN, List.range_succ, hk]
        · dsimp only
          rw [strValues_snoc]
          rename_i S₁₀
          have S₁₁ := S₁₀.drop (.cons _ (.cons _ (.refl _)))
          walk_at "at"
      · rename_i c
        have c : fitting ft order i = [] := by simpa [hall] using c
        walk_at "evs"
        with_reducible refine wpAny_UnaryOp ?_
        walk_at "evs"
        with_reducible refine neg_int ?_
        with_reducible refine rowL (IsL.isList ⟨_, S₉.keep _ _ (hs₂ _ _ (hs _ _ hoR)), poR⟩) iR (by omega) (by omega) (by omega) ?_ (by with_unfolding_all rfl)
        intro tr
        walk_at "evs"
        refine hN _ B₂ (l ++ [(rowAt xs (-1), tr)], some (.int i tf)) _ (.inl rfl) hs₂ ?_ ?_
        · dsimp only
          rw [List.map_append, hinv]
          simp [listN, List.range_succ, c]
        · dsimp only
          rw [strValues_snoc]
          rename_i S₁₀
          have S₁₁ := S₁₀.drop (.cons _ (.cons _ (.refl _)))
          walk_at "at"
  case fin =>
    rintro B₁ ⟨l, fv⟩ s₄ hs hinv S₄
    dsimp only [List.cons_append, List.nil_append] at S₄ hinv
    walk_at "evs"
    refine h la _ _ (Lg.kp (S₄.anti hs g.gd)) ?_ (S₄.get (by walk_at "mem")) ⟨l, rfl, hinv⟩
    cases e : s.heap.get? la with
    | none => rfl
    | some o => exact absurd (hs _ _ e) (S₄.apart (la, _) (by walk_at "mem") o)
end
/-! _law_tree -/
def upPath (fs : List Fold) (u : Int) : Str := if u < 0 then "" else ((fs[u.toNat]?).map (·.path)).getD ""
def Tree (fs : List Fold) : Prop := ∀ (k : Nat) f, fs[k]? = some f → (-1 ≤ f.up ∧ f.up < k) ∧ f.path = (upPath fs f.up ++ "/") ++ Txt.mul "x" ((k : Int) + 1) ∧ f.path.length ≤ 8 * (k + 1)
theorem upPath_app {fs : List Fold} {f : Fold} {u : Int} (h : u < fs.length) : upPath (fs ++ [f]) u = upPath fs u := by
  unfold upPath
  split
  · rfl
  · rw [List.getElem?_append_left (by omega)]
theorem Tree.snoc {fs : List Fold} {f : Fold} (T : Tree fs) (h0 : -1 ≤ f.up) (h1 : f.up < fs.length) (hp : f.path = (upPath fs f.up ++ "/") ++ Txt.mul "x" ((fs.length : Int) + 1)) (hl : f.path.length ≤ 8 * (fs.length + 1)) : Tree (fs ++ [f]) := by
  intro k g hk
  by_cases e : k < fs.length
  · rw [List.getElem?_append_left e] at hk
    obtain ⟨a, b, c⟩ := T k g hk
    exact ⟨a, by rw [upPath_app (by omega)]; exact b, c⟩
  · have hlt := (List.getElem?_eq_some_iff.mp hk).1
    rw [List.length_append, List.length_singleton] at hlt
    have : k = fs.length := by omega
    subst this
    rw [List.getElem?_concat_length] at hk
    cases hk
    exact ⟨⟨h0, h1⟩, by rw [upPath_app h1]; exact hp, hl⟩
theorem mulOk_x : ∀ k < 6, MulOk "x" ((k : Nat) + 1 : Int) ∧ (Txt.mul "x" ((k : Nat) + 1 : Int)).length = k + 1 := by
  unfold MulOk; decide
section
variable {prog : Program} {w : World} {A : Around} {E : Value → Shared → Prop} {s : Shared} {Q : Value → Shared → Prop} {Z : Shared} {B : Fx} {own : Own}
theorem Lg.onT {h : Heap} {gs : Array GenState} {q : OsState} {d : Drawn} {t : Nat} {s' : Shared} (S : Lg w Z B own h gs q) (k : Kp { heap := h, gens := gs, drawn := d, toks := t, os := q } s') : At w Z B own s' := Lg.on (s := { heap := h, gens := gs, drawn := d, toks := t, os := q }) S k
/-- what a walk leaves -/
theorem Lg.walked {wr : List Addr} {h' : Heap} {tk : Nat} (S : At w Z B own s) (hB : ∀ b ∈ wr, ∀ o, ¬ B b o) (ho : ∀ b ∈ wr, b ∉ own.map (·.1)) (hk : ∀ b o, b ∉ wr → s.heap.get? b = some o → h'.get? b = some o) : At w Z B own { s with heap := h', toks := tk } :=
  ⟨S.gd, fun b o e => hk b o (fun m => hB b m o e) (S.keep b o e), fun p hp => let ⟨o, e, y⟩ := S.has p hp; ⟨o, hk _ _ (fun m => ho _ m (List.mem_map_of_mem hp)) e, y⟩, S.apart, S.nodup, S.gens, S.os⟩
theorem sumL {l : Addr} {vs : List Value} {ns : List Int} (hh : A.handled = none) (S : At w Z B own s) (hl : s.heap.IsList l vs.toArray) (hlo : l ∉ own.map (·.1)) (hi : Ints vs ns) (h : ∀ n t s', At w Z B own s' → Q (.int n t) s') :
    wpAny (model prog w) A (call (.builtin "sum") [.ref l]) Q E s := by
  refine call_sum_walkG (iters_list (A := A.in1) hh S hl hlo _ _ ?_)
  intro I fp wr Stt s₂ S₂ _ W hst hw hB hfp hlt hlive hgo
  refine ⟨I, fp, wr, _, _, Stt, fun i => (ns[i]?).getD 0, rfl, W, hst, hlt, fun i v hv => ?_, fun h' tk t' hk => h _ _ _ (S₂.walked hB (fun b hb => hfp b (W.sub b hb)) hk)⟩
  obtain ⟨n, t, e, rfl⟩ := hi.val hv
  exact ⟨t, by show _ = Value.int ((ns[i]?).getD 0) t; rw [e]; rfl⟩
theorem sliceE {M : Model} {lower upper step : Option Expr} {p : Pos} {env : Env} {Q : Value → Shared → Prop}
    (h : wpAny M A (evalPart lower env) (fun l s₁ => wpAny M A (evalPart upper env) (fun u s₂ => wpAny M A (evalPart step env) (fun st s₃ => ∀ sl s', s'.heap.IsSliceOf sl l u st → Kp s₃ s' → Q (.ref sl) s') E s₂) E s₁) E s) :
    wpAny M A (eval (.Slice lower upper step p) env) Q E s :=
  wpAny_Slice (wpAny_mono h (fun _ _ h₁ => wpAny_mono h₁ (fun _ _ h₂ => wpAny_mono h₂ (fun _ s₃ h₃ => h₃ _ { s₃ with heap := _ } (Heap.IsSliceOf.new _ _ _ _) (Kp.push s₃ _ s₃.toks)) fun _ _ x => x) fun _ _ x => x) fun _ _ x => x)
/-- a list's slice -/
theorem sliceL {value slice : Expr} {a sl : Addr} {vs : List Value} {l u k : Value} {lo hi st : Option Int} {ops : List Value} (S : At w Z B own s) (hl : s.heap.IsList a vs.toArray) (hs : s.heap.IsSliceOf sl l u k) (pl : IsPart l lo) (pu : IsPart u hi) (pk : IsPart k st) (h0 : st ≠ some 0)
    (hsz : vs.length ≤ sizeLine) (hsub : subscripted slice false (.ref a) (.ref sl) = operate ops (getItem (.ref a) (.ref sl))) (h : ∀ D s', At w Z B ((D, IsL (slicePick vs.toArray lo hi st).toList) :: own) s' → Q (.ref D) s') :
    wpAny (model prog w) A (subscriptTail value slice (.ref a) (.ref sl)) Q E s := by
  refine tail_any hl.typeIs slot_list_getitem.lookup (wpAny_getItem_list_slice hl hs pl pu pk h0 ?_ ?_) hsub
  · exact h _ { s with heap := _ } (S.addPush _ ⟨0, by rw [Array.toArray_toList]⟩)
  · rw [List.size_toArray]; exact hsz
theorem pick_mem {vs : List Value} {lo hi st : Option Int} : ∀ v ∈ (slicePick vs.toArray lo hi st).toList, v ∈ vs := by
  intro v hv
  simp [slicePick] at hv
  obtain ⟨i, _, h⟩ := hv
  exact List.mem_of_getElem? h
theorem Ints.sub {vs : List Value} {ns : List Int} (h : Ints vs ns) {us : List Value} (hs : ∀ v ∈ us, v ∈ vs) : ∃ ms, Ints us ms := by
  obtain ⟨l, rfl, rfl⟩ := h
  induction us with
  | nil => exact ⟨[], Ints.nil⟩
  | cons v r ih =>
    obtain ⟨ms, q, rfl, rfl⟩ := ih fun v hv => hs v (.tail _ hv)
    obtain ⟨p, hp, rfl⟩ := List.mem_map.mp (hs v (.head _))
    exact ⟨p.1 :: q.map (·.1), p :: q, rfl, rfl⟩
end
section
variable {prog : Program} {w : World} {A : Around} {E : Value → Shared → Prop} {s : Shared} {Q : Value → Shared → Prop}
theorem iteS {M : Model} {c : Prop} [Decidable c] {env : Env} {e1 e2 : Expr} {Q : Value → Shared → Prop} {hp : Heap} {gs : Array GenState} {d : Drawn} {k₀ : Nat} {o : OsState} (x : Str)
    (h1 : c → ∀ Q', (∀ t k, Q' (.str x t) ⟨hp, gs, d, k, o⟩) → wpAny M A (eval e1 env) Q' E ⟨hp, gs, d, k₀, o⟩) (h2 : ¬ c → ∀ Q', (∀ t k, Q' (.str x t) ⟨hp, gs, d, k, o⟩) → wpAny M A (eval e2 env) Q' E ⟨hp, gs, d, k₀, o⟩)
    (h : ∀ t k, Q (.str x t) ⟨hp, gs, d, k, o⟩) : if c then wpAny M A (eval e1 env) Q E ⟨hp, gs, d, k₀, o⟩ else wpAny M A (eval e2 env) Q E ⟨hp, gs, d, k₀, o⟩ := by
  split
  · exact h1 (by assumption) Q h
  · exact h2 (by assumption) Q h
theorem unpackT {Z : Shared} {B : Fx} {own : Own} {items : List Value} {n : Nat} {ta : Addr} {Q : List Value → Shared → Prop} (hh : A.handled = none) (S : At w Z B own s) (ht : s.heap.IsTuple ta items.toArray) (hn : items.length = n) (h : ∀ s', At w Z B own s' → Q items s') :
    wpAny (model prog w) A (unpackItems (.ref ta) n none) Q E s := by
  subst hn
  have := wpAny_unpackItems_tuple (prog := prog) (w := w) (A := A) (E := E) (Q := Q) hh ht fun h' he => h { s with heap := h' } (S.on ⟨fun b o e => he b o (Nat.ne_of_lt (Heap.lt_size e)) e, rfl, rfl⟩)
  rw [List.size_toArray] at this
  exact this
theorem five {a b c d e : Int} {t1 t2 t3 t4 t5 : Tok} {j : Nat} (h : j < 5) : ∃ n t, [Value.int a t1, .int b t2, .int c t3, .int d t4, .int e t5][j]? = some (.int n t) := by
  match j, h with
  | 0, _ => exact ⟨_, _, rfl⟩
  | 1, _ => exact ⟨_, _, rfl⟩
  | 2, _ => exact ⟨_, _, rfl⟩
  | 3, _ => exact ⟨_, _, rfl⟩
  | 4, _ => exact ⟨_, _, rfl⟩
theorem idx5 {n : Int} : seqIndex? (n.fmod 5) 5 = some (n.fmod 5).toNat ∧ (n.fmod 5).toNat < 5 ∧ 0 ≤ n.fmod 5 ∧ n.fmod 5 < 5 := by
  have h0 := fmod_lo n (n := 5) (by decide)
  have h1 := fmod_hi n (n := 5) (by decide)
  refine ⟨?_, by omega, h0, by omega⟩
  have h2 : ¬ n.fmod 5 < 0 := by omega
  unfold seqIndex?
  simp only [h2, if_false]
  rw [if_pos (by simp; omega)]
theorem item5 {value slice : Expr} {ta : Addr} {a b c d e ww : Int} {t1 t2 t3 t4 t5 u : Tok} (ht : IsTup s.heap ta [Value.int a t1, .int b t2, .int c t3, .int d t4, .int e t5].toArray) (h : ∀ n t, Q (.int n t) s)
    (hs : subscripted slice false (.ref ta) (.int (ww.fmod 5) u) = operate [.ref ta, .int (ww.fmod 5) u] (getItem (.ref ta) (.int (ww.fmod 5) u))) : wpAny (model prog w) A (subscriptTail value slice (.ref ta) (.int (ww.fmod 5) u)) Q E s := by
  obtain ⟨x1, x2, x3, x4⟩ := idx5 (n := ww)
  obtain ⟨n, t, e⟩ := five (a := a) (b := b) (c := c) (d := d) (e := e) (t1 := t1) (t2 := t2) (t3 := t3) (t4 := t4) (t5 := t5) x2
  exact item_tupleT ht (by omega) (by omega) x1 e (h n t) hs
theorem swapped2 {env : Env} {L : Addr} {names : List (Str × NameKind)} {cells : List (Str × Addr)} {a b : Str} {pa pb p1 p2 q1 q2 : Pos} {k1 k2 : Nat} {l1 r1 l2 r2 : Expr} {o1 o2 : Operator} (he : EnvIs env L names cells) (ha : (a, NameKind.local) ∈ names) (hb : (b, NameKind.local) ∈ names) (hne : (b == a) = false) (hl : pb.line = pa.line)
    (hc : [Expr.BinOp l1 o1 r1 q1, .BinOp l2 o2 r2 q2].all (constantsAlone 8) = false) :
    swappedStores [.Tuple [.Name a pa, .Name b pb] k1 p1] (.Tuple [.BinOp l1 o1 r1 q1, .BinOp l2 o2 r2 q2] k2 p2) env = pure (some [a, b]) := by
  have hbk : env.blockKind = .function := by unfold Env.blockKind; rw [he.kind]; rfl
  unfold swappedStores
  simp only [hbk, hc, he.kof _ _ ha, he.kof _ _ hb, hl, List.filterMap, List.head?, Option.map, Option.getD, Expr.pos]
  simp [hne, List.eraseDups, List.eraseDupsBy, List.eraseDupsBy.loop, foldedForSure]
theorem tree_call {ns : List Int} {na : Addr} (g : Gr w s.heap) (r : Rm A 1) (hN : IntL (fun b o => s.heap.get? b = some o) na ns) (hl : ns.length ≤ 1000)
    (h : ∀ fa fs s', At w s (fun b o => s.heap.get? b = some o) [] s' → (∀ o, ¬ s.heap.get? fa = some o) → Folders (fun b o => s'.heap.get? b = some o) fa fs → Tree fs → fs.length = 6 → Q (.ref fa) s') :
    wpAny (model prog w) A (call (.ref 158) [.ref na]) Q E s := by
  refine enter ["numbers"] ["total", "folders", "k", "number", "w", "up", "path", "one", "other"] g r rfl (by kernel_rfl) rfl rfl rfl (by decide +kernel) rfl rfl ?_
  intro A' env L s₁ he S r'
  conv => arg 3; arg 1; whnf
  conv at he => arg 3; whnf
  dsimp only [varsOf, List.map, List.append_nil, List.zip, List.zipWith, List.nil_append, List.cons_append] at he S
  obtain ⟨on, vn, hon, pon, in'⟩ := id hN
  walk_at "evs"
  with_reducible refine sumL r'.h S (IsL.isList ⟨_, S.keep _ _ hon, pon⟩) (S.notOwnB hon) in' ?_
  intro total tt s₂ S₂
  walk_at "evs"
  with_reducible refine newL (by assumption) ?_ (Nat.zero_le _)
  intro la s₃ S₃ hla
  walk_at "evs"
  with_reducible refine newR (by assumption) ?_
  intro ar t1 u1 v1 s₄ S₄ hr _
  refine forI (fun x : List Addr × List Fold => [(la, IsL (x.1.map Value.ref)), (L, HasV [("numbers", some (.ref na)), ("total", some (.int total tt)), ("folders", some (.ref la)), ("k", none), ("number", none), ("w", none), ("up", none), ("path", none), ("one", none), ("other", none)])]) [] ([], [])
    (iters_range 6 r'.h S₄ hr (by decide) (by decide)) (fun B i x => x.1.length = i ∧ x.2.length = i ∧ Tree x.2 ∧ ∀ (k : Nat) a f, x.1[k]? = some a → x.2[k]? = some f → FoldAt B a f) (fun _ => rfl)
    (fun _ _ _ _ hm ⟨a, b, c, d⟩ => ⟨a, b, c, fun k a f h1 h2 => (d k a f h1 h2).mono hm⟩) ⟨rfl, rfl, fun _ _ h => by simp at h, fun _ _ _ h => by simp at h⟩ ?turn ?fin
  case turn =>
    rintro R' B₁ i v ⟨as, fs⟩ s₅ Qb - hi ⟨tk, rfl⟩ hs ⟨hla1, hlf, hT, hat⟩ S₅ hN - -
    dsimp only [List.cons_append, List.nil_append] at S₅ hla1 hlf hT hat
    refine wpAny_assign_Name ?_
    walk_at "evs"
    with_reducible refine sliceE ?_
    with_reducible refine wpAny_evalPart_some ?_
    walk_at "evs"
    with_reducible refine wpAny_evalPart_none ?_
    with_reducible refine wpAny_evalPart_some ?_
    walk_at "evs"
    intro sl s₆ hsl k₆
    have S₆ := Lg.onT (by assumption) k₆
    with_reducible refine sliceL S₆ (IsL.isList ⟨_, S₆.keep _ _ (hs _ _ hon), pon⟩) hsl (.int _ _) .none (.int _ _) (by decide) (by rw [in'.length, sizeLine_eq]; omega) (by with_unfolding_all rfl) ?_
    intro D s₇ S₇
    obtain ⟨ms, im⟩ := in'.sub (pick_mem (vs := vn) (lo := some (i : Int)) (hi := none) (st := some 6))
    obtain ⟨B₂, oD, hb₂, hoD, pD, S₈⟩ := S₇.freeze
    walk_at "evs"
    with_reducible refine sumL r'.h S₈ (IsL.isList ⟨_, S₈.keep _ _ hoD, pD⟩) (S₈.notOwnB hoD) im ?_
    intro number tn s₉ S₉
    have hk1 : ((i : Int) + 1).natAbs < 1073741824 := by omega
    have hk0 : ((i : Int) + 1) ≠ 0 := by omega
    walk_at "evs"
    with_reducible refine oDiv hk0 hk1 ?_
    intro _ _
    walk_at "evs"
    with_reducible refine oMod hk0 ?_
    intro _ _
    walk_at "evs"
    have hm0 := Int.fmod_nonneg_of_pos number (b := (i : Int) + 1) (by omega)
    have hm1 := Int.fmod_lt_of_pos number (b := (i : Int) + 1) (by omega)
    have hup1 : (i : Int) - 1 - number.fmod (i + 1) < i := by omega
    generalize hupE : (i : Int) - 1 - number.fmod (i + 1) = up at *
    generalize hwE : number.fdiv (i + 1) + i = ww at *
    refine iteS (upPath fs up) ?p1 ?p2 ?p3
    case p1 =>
      intro c Q' hq
      have c : 0 ≤ up := by simpa using c
      have hlt : up.toNat < fs.length := by omega
      have hlta : up.toNat < as.length := by omega
      obtain ⟨oF, u1, u2, u3, u4, hoF, pF⟩ := hat up.toNat _ _ (List.getElem?_eq_getElem hlta) (List.getElem?_eq_getElem hlt)
      walk_at "evs"
      have hlr : (as.map Value.ref)[up.toNat]? = some (.ref as[up.toNat]) := by rw [List.getElem?_map, List.getElem?_eq_getElem hlta]; rfl
      with_reducible refine item_listL (Lg.list (by assumption) (by walk_at "mem")) c (by omega) hlr ?_ (by with_unfolding_all rfl) (by intro _; with_unfolding_all rfl)
      walk_at "evs"
      with_reducible refine item_tupleT (IsT.isTup ⟨_, Lg.keep (by assumption) _ _ (hb₂ _ _ hoF), pF⟩) (by decide) (by decide) (by with_unfolding_all rfl) (by with_unfolding_all rfl) ?_ (by with_unfolding_all rfl)
      have e : upPath fs up = fs[up.toNat].path := by unfold upPath; rw [if_neg (by omega), List.getElem?_eq_getElem hlt]; rfl
      rw [← e]
      exact hq _ _
    case p2 =>
      intro c Q' hq
      have c : up < 0 := by simpa using c
      walk_at "evs"
      have e : upPath fs up = "" := by unfold upPath; rw [if_pos c]
      rw [← e]
      exact hq _ _
    case p3 =>
      intro _ _
      have hupl : (upPath fs up).length ≤ 8 * i := by
        unfold upPath
        split
        · exact Nat.zero_le _
        · have hlt : up.toNat < fs.length := by omega
          rw [List.getElem?_eq_getElem hlt]
          have := (hT up.toNat _ (List.getElem?_eq_getElem hlt)).2.2
          show fs[up.toNat].path.length ≤ 8 * i
          omega
      obtain ⟨hmo, hml⟩ := mulOk_x i hi
      have l1 : (Str.ofString "/").length = 1 := by decide
      walk_at "evs"
      with_reducible refine oCat (by rw [l1, sizeLine_eq]; omega) ?_
      intro _ _
      walk_at "evs"
      with_reducible refine SB.mul hmo ?_
      intro _ _
      with_reducible refine oCat (by rw [len_app, l1, hml, sizeLine_eq]; omega) ?_
      intro _ _
      walk_at "evs"
      with_reducible refine Assign_Tuple_swapped (names := ["one", "other"]) ?_ (by with_unfolding_all rfl) (swapped2 he (by walk_at "mem") (by walk_at "mem") (by decide) rfl (by decide))
      walk_at "evs"
      with_reducible refine oMul (PySem.IntMulOk.of_left (PySem.intBits_le_64 (by decide) (by decide))) ?_
      intro _ _
      walk_at "evs"
      with_reducible refine oMul (PySem.IntMulOk.of_left (PySem.intBits_le_64 (by decide) (by decide))) ?_
      intro _ _
      walk_at "evs"
      with_reducible refine newT (by assumption) ?_ (by walk_at "sz")
      intro ta s₁₁ S₁₁ _
      with_reducible refine unpackT r'.h S₁₁ (IsT.isTuple (S₁₁.get (by walk_at "mem"))) (by with_unfolding_all rfl) ?_
      intro s₁₂ S₁₂
      show wpAny _ _ (assignInOrder [bindName env "other", bindName env "one"] [_, _]) _ _ _
      refine assignInOrder_cons ?_
      refine wpAny_bindName ?_
      walk_at "st"; intro _ _
      refine assignInOrder_cons ?_
      refine wpAny_bindName ?_
      walk_at "st"; intro _ _
      refine assignInOrder_nil ?_
      walk_at "evs"
      with_reducible refine oMul (PySem.IntMulOk.of_left (PySem.intBits_le_64 (by decide) (by decide))) ?_
      intro _ _
      walk_at "evs"
      with_reducible refine newT (by assumption) ?_ (by walk_at "sz")
      intro tb s₁₃ S₁₃ _
      walk_at "evs"
      have hz : (as.map Value.ref).length ≤ sizeLine := by rw [List.length_map, sizeLine_eq]; omega
      with_reducible refine item5 (IsT.isTup (S₁₃.get (by walk_at "mem"))) ?_ (by with_unfolding_all rfl)
      intro mm tm
      walk_at "evs"
      with_reducible refine newT (by assumption) ?_ (by walk_at "sz")
      intro tc s₁₄ S₁₄ _
      walk_at "evs"
      obtain ⟨B₃, oT, hb₃, hoT, pT, S₁₅⟩ := Lg.freeze (by assumption)
      have S₁₆ := S₁₅.drop (.cons _ (.cons _ (.refl _)))
      refine hN _ B₃ (as ++ [tc], fs ++ [⟨up, upPath fs up ++ "/" ++ Txt.mul "x" ((i : Int) + 1), 65536 * ww + mm, ww⟩]) _ (.inl rfl) (fun b o e => hb₃ _ _ (hb₂ _ _ e)) ⟨?_, ?_, ?_, ?_⟩ ?_
      · simp [hla1]
      · simp [hlf]
      · refine Tree.snoc hT ?_ ?_ ?_ ?_
        · dsimp only; omega
        · dsimp only; omega
        · dsimp only; rw [hlf]
        · dsimp only; rw [len_app, len_app, l1, hml, hlf]; omega
      · intro k a f h1 h2
        dsimp only at h1 h2
        by_cases hk : k < i
        · rw [List.getElem?_append_left (by omega)] at h1 h2
          exact (hat k a f h1 h2).mono fun b o e => hb₃ _ _ (hb₂ _ _ e)
        · have hlt := (List.getElem?_eq_some_iff.mp h1).1
          rw [List.length_append, List.length_singleton] at hlt
          have hki : k = as.length := by omega
          have hkf : k = fs.length := by omega
          rw [hki, List.getElem?_concat_length] at h1
          rw [hkf, List.getElem?_concat_length] at h2
          cases h1; cases h2
          exact ⟨oT, _, _, _, _, hoT, pT⟩
      · dsimp only
        rw [List.map_append]
        walk_at "at"
  case fin =>
    rintro B₁ ⟨as, fs⟩ s₅ hs ⟨h1, h2, h3, h4⟩ S₅
    dsimp only [List.cons_append, List.nil_append] at S₅ h1 h2 h3 h4
    walk_at "evs"
    obtain ⟨o, e, p⟩ := S₅.get (a := la) (by walk_at "mem")
    refine h la fs _ ((S₅.anti hs g.gd).drop (List.nil_sublist _)) (fun o' e' => S₅.apart (la, _) (by walk_at "mem") o' (hs _ _ e')) ⟨o, as, e, p, by rw [h1, h2], fun k a f q1 q2 => (h4 k a f q1 q2).mono fun b o e => S₅.keep b o e⟩ h3 h2
end
/-! normpath: _kind, _c_path, _splitroot -/
section
variable {prog : Program} {w : World} {A : Around} {E : Value → Shared → Prop} {s : Shared} {Q : Value → Shared → Prop}
theorem dictMono {hp h' : Heap} {da : Addr} {kvs : List (Str × Value)} (hD : hp.DictOf (strKind prog w) da kvs) (hk : ∀ b o, hp.get? b = some o → h'.get? b = some o) : h'.DictOf (strKind prog w) da kvs :=
  let ⟨o, es, ep, e, r⟩ := hD; ⟨o, es, ep, hk _ _ e, r⟩
theorem truD {da : Addr} {kvs : List (Str × Value)} {h : Heap} {gs : Array GenState} {d : Drawn} {k : Nat} {o : OsState} {Q : Bool → Shared → Prop} (hds : (da == sysModules) = false) (hm : h.DictOf (strKind prog w) da kvs) (hfit : kvs.length ≤ 1000) (hq : ∀ k, Q (!kvs.isEmpty) ⟨h, gs, d, k, o⟩) :
    wpAny (model prog w) A (truthy (.ref da)) Q E ⟨h, gs, d, k, o⟩ := wpAny_truthy_dict hds hm (by omega) (hq _)
theorem lenT {ta : Addr} {vs : List Value} {h : Heap} {gs : Array GenState} {d : Drawn} {k : Nat} {o : OsState} (ht : ∃ ob, h.get? ta = some ob ∧ IsT vs ob) (hfit : vs.length ≤ 1000) (hq : ∀ t k, Q (.int vs.length t) ⟨h, gs, d, k, o⟩) : wpAny (model prog w) A (call (.builtin "len") [.ref ta]) Q E ⟨h, gs, d, k, o⟩ := by
  obtain ⟨ob, e, n, rfl⟩ := ht
  refine P.len_tuple (s := ⟨h, gs, d, k, o⟩) (items := vs.toArray) (n := n) e (by rw [List.size_toArray]; omega) ?_
  rw [List.size_toArray]; exact hq _ _
theorem truS {x : Str} {t : Tok} {h : Heap} {gs : Array GenState} {d : Drawn} {k : Nat} {o : OsState} {Q : Bool → Shared → Prop} (hfit : x.length ≤ 1000000) (hq : ∀ k, Q (decide (x.length ≠ 0)) ⟨h, gs, d, k, o⟩) : wpAny (model prog w) A (truthy (.str x t)) Q E ⟨h, gs, d, k, o⟩ := by
  refine P.truthy_str (by omega) ?_
  have : ((x.length : Int) != 0) = decide (x.length ≠ 0) := by rw [Bool.eq_iff_iff]; simp
  rw [this]; exact hq _
theorem kind_call {n x : Str} {t u : Tok} (g : Gr w s.heap) (r : Rm A 1) (h : ∀ t' s', Kp s s' → Q (.str "" t') s') :
    wpAny (model prog w) A (call (.ref 89) [.str n t, .str x u]) Q E s := by
  refine enter ["name", "x"] ["t"] g r rfl (by kernel_rfl) rfl rfl rfl (by decide +kernel) rfl rfl ?_
  intro A' env L s₁ he S r'
  conv => arg 3; arg 1; whnf
  conv at he => arg 3; whnf
  dsimp only [varsOf, List.map, List.append_nil, List.zip, List.zipWith, List.nil_append, List.cons_append] at he S
  walk_at "evs"
  with_reducible refine call_type_of (typeIs_str _ _ _) (by decide) ?_
  walk_at "evs"
  with_reducible refine wpAny_is_self (by with_unfolding_all rfl) ?_
  walk_at "evs"
  exact h _ _ (Lg.kp (by assumption))
theorem c_path_call {n1 n2 n3 x : Str} {t1 t2 t3 u : Tok} {ta da : Addr} (g : Gr w s.heap) (r : Rm A 2) (hT : ∃ o, s.heap.get? ta = some o ∧ IsT [.str x u] o) (hD : s.heap.DictOf (strKind prog w) da []) (hds : (da == sysModules) = false)
    (h : ∀ s', Kp s s' → Q (.str x u) s') : wpAny (model prog w) A (call (.ref 96) [.str n1 t1, .str n2 t2, .str n3 t3, .ref ta, .ref da]) Q E s := by
  refine enter ["name", "cname", "argname", "args", "kwargs"] ["x", "k"] g r rfl (by kernel_rfl) rfl rfl rfl (by decide +kernel) rfl rfl ?_
  intro A' env L s₁ he S r'
  conv => arg 3; arg 1; whnf
  conv at he => arg 3; whnf
  dsimp only [varsOf, List.map, List.append_nil, List.zip, List.zipWith, List.nil_append, List.cons_append] at he S
  obtain ⟨oT, eT, pT⟩ := hT
  walk_at "evs"
  with_reducible refine lenT ⟨oT, S.keep _ _ eT, pT⟩ (by walk_at "sz") ?_
  intro _ _
  walk_at "evs"
  rw [if_pos (by rfl)]
  walk_at "evs"
  with_reducible refine truD hds (dictMono hD S.keep) (by decide) ?_
  intro _
  walk_at "evs"
  rw [if_pos (by rfl)]
  walk_at "evs"
  with_reducible refine item_tupleT (IsT.isTup ⟨_, S.keep _ _ eT, pT⟩) (by decide) (by decide) (by with_unfolding_all rfl) (by with_unfolding_all rfl) ?_ (by with_unfolding_all rfl)
  walk_at "evs"
  with_reducible refine kind_call (Lg.gr (by assumption)) r' ?_
  intro t' s₂ k₂
  have S₂ := Lg.on (by assumption) k₂
  walk_at "evs"
  with_reducible refine truS (by decide) ?_
  intro _
  rw [if_neg (by decide)]
  walk_at "evs"
  exact h _ (Lg.kp (by assumption))
theorem sliceS {value slice : Expr} {x : Str} {t : Tok} {sl : Addr} (l u : Option (Int × Tok)) {ops : List Value} {hp : Heap} {gs : Array GenState} {d : Drawn} {k : Nat} {o : OsState} (hs : hp.IsSliceOf sl (partValue l) (partValue u) .none) (hsz : x.length ≤ sizeLine)
    (hsub : subscripted slice false (.str x t) (.ref sl) = operate ops (getItem (.str x t) (.ref sl))) (hq : ∀ t k, Q (.str (Txt.slice x (l.map (·.1)) (u.map (·.1))) t) ⟨hp, gs, d, k, o⟩) :
    wpAny (model prog w) A (subscriptTail value slice (.str x t) (.ref sl)) Q E ⟨hp, gs, d, k, o⟩ :=
  tail_any (typeIs_str _ _ _) F.slot_str_getitem.lookup (wpAny_getItem_str_slice (l := l) (u := u) (st := none) hs rfl (post_val_or_str ⟨Nat.le_trans (Txt.slice_le x _ _) hsz, fun t' k => hq t' k⟩)) hsub
theorem sliceTo {value slice : Expr} {x : Str} {t : Tok} {sl : Addr} {j : Int} {tj : Tok} {ops : List Value} {hp : Heap} {gs : Array GenState} {d : Drawn} {k : Nat} {o : OsState} (hs : hp.IsSliceOf sl .none (.int j tj) .none) (hsz : x.length ≤ sizeLine)
    (hsub : subscripted slice false (.str x t) (.ref sl) = operate ops (getItem (.str x t) (.ref sl))) (hq : ∀ t k, Q (.str (Txt.slice x none (some j)) t) ⟨hp, gs, d, k, o⟩) :
    wpAny (model prog w) A (subscriptTail value slice (.str x t) (.ref sl)) Q E ⟨hp, gs, d, k, o⟩ := sliceS none (some (j, tj)) hs hsz hsub hq
theorem sliceFr {value slice : Expr} {x : Str} {t : Tok} {sl : Addr} {i : Int} {ti : Tok} {ops : List Value} {hp : Heap} {gs : Array GenState} {d : Drawn} {k : Nat} {o : OsState} (hs : hp.IsSliceOf sl (.int i ti) .none .none) (hsz : x.length ≤ sizeLine)
    (hsub : subscripted slice false (.str x t) (.ref sl) = operate ops (getItem (.str x t) (.ref sl))) (hq : ∀ t k, Q (.str (Txt.slice x (some i) none) t) ⟨hp, gs, d, k, o⟩) :
    wpAny (model prog w) A (subscriptTail value slice (.str x t) (.ref sl)) Q E ⟨hp, gs, d, k, o⟩ := sliceS (some (i, ti)) none hs hsz hsub hq
theorem sliceFT {value slice : Expr} {x : Str} {t : Tok} {sl : Addr} {i j : Int} {ti tj : Tok} {ops : List Value} {hp : Heap} {gs : Array GenState} {d : Drawn} {k : Nat} {o : OsState} (hs : hp.IsSliceOf sl (.int i ti) (.int j tj) .none) (hsz : x.length ≤ sizeLine)
    (hsub : subscripted slice false (.str x t) (.ref sl) = operate ops (getItem (.str x t) (.ref sl))) (hq : ∀ t k, Q (.str (Txt.slice x (some i) (some j)) t) ⟨hp, gs, d, k, o⟩) :
    wpAny (model prog w) A (subscriptTail value slice (.str x t) (.ref sl)) Q E ⟨hp, gs, d, k, o⟩ := sliceS (some (i, ti)) (some (j, tj)) hs hsz hsub hq
end
theorem str_ext {x y : Str} (h : x.cps.toList = y.cps.toList) : x = y := by cases x; cases y; simp only [Str.mk.injEq]; exact Array.toList_inj.mp h
theorem str_app (x y : Str) : (x ++ y).cps.toList = x.cps.toList ++ y.cps.toList := by
  show (x.cps ++ y.cps).toList = _
  simp
theorem str_len (x : Str) : x.length = x.cps.toList.length := by show x.cps.size = _; simp
def RootP (p rest : Str) : Prop := p = Str.ofString "/" ++ rest ∧ ∃ c r, rest.cps.toList = c :: r ∧ c ≠ 47
theorem slash_cps : (Str.ofString "/").cps.toList = [47] := by decide
theorem RootP.s01 {p rest : Str} (h : RootP p rest) : Txt.slice p none (some 1) = Str.ofString "/" := by
  obtain ⟨rfl, c, r, hr, hc⟩ := h
  have := slice_closes_toL (x := Str.ofString "/" ++ rest) (j := 1) (by decide) (by rw [str_len, str_app, slash_cps]; simp; omega)
  rw [beq_iff_eq.mp this]
  refine str_ext ?_
  rw [slash_cps, str_app, slash_cps]; simp
theorem RootP.s12 {p rest : Str} (h : RootP p rest) : Txt.slice p (some 1) (some 2) ≠ Str.ofString "/" := by
  obtain ⟨rfl, c, r, hr, hc⟩ := h
  have := slice_closesL (x := Str.ofString "/" ++ rest) (i := 1) (j := 2) (by decide) (by decide) (by rw [str_len, str_app, slash_cps, hr]; simp; omega)
  rw [beq_iff_eq.mp this]
  intro e
  have e := congrArg (fun x => x.cps.toList) e
  simp only [slash_cps, str_app, hr] at e
  simp at e
  exact hc e
theorem RootP.s1 {p rest : Str} (h : RootP p rest) : Txt.slice p (some 1) none = rest := by
  obtain ⟨rfl, c, r, hr, hc⟩ := h
  have := slice_closes_fromL (x := Str.ofString "/" ++ rest) (i := 1) (b := (Str.ofString "/" ++ rest).length) (by decide) (by rw [str_len, str_app, slash_cps]; simp; omega) rfl
  rw [beq_iff_eq.mp this]
  refine str_ext ?_
  rw [str_len, str_app, slash_cps]
  simp
  rw [← Array.length_toList]; exact List.take_length
section
variable {prog : Program} {w : World} {A : Around} {E : Value → Shared → Prop} {s : Shared} {Q : Value → Shared → Prop}
theorem splitroot_call {p rest : Str} {t : Tok} (g : Gr w s.heap) (r : Rm A 1) (hp : RootP p rest) (hl : p.length ≤ 1000)
    (h : ∀ a t1 t2 t3 s', Kp s s' → (∃ o, s'.heap.get? a = some o ∧ IsT [.str "" t1, .str "/" t2, .str rest t3] o) → Q (.ref a) s') :
    wpAny (model prog w) A (call (.ref 103) [.str p t]) Q E s := by
  refine enter ["p"] ["sep", "empty"] g r rfl (by kernel_rfl) rfl rfl rfl (by decide +kernel) rfl rfl ?_
  intro A' env L s₁ he S r'
  conv => arg 3; arg 1; whnf
  conv at he => arg 3; whnf
  dsimp only [varsOf, List.map, List.append_nil, List.zip, List.zipWith, List.nil_append, List.cons_append] at he S
  have hz : p.length ≤ sizeLine := by rw [sizeLine_eq]; omega
  walk_at "evs"
  with_reducible refine sliceE ?_
  with_reducible refine wpAny_evalPart_none ?_
  with_reducible refine wpAny_evalPart_some ?_
  walk_at "evs"
  with_reducible refine wpAny_evalPart_none ?_
  intro sl s₂ hsl k₂
  have S₂ := Lg.onT (by assumption) k₂
  with_reducible refine sliceTo hsl hz (by with_unfolding_all rfl) ?_
  intro _ _
  rw [hp.s01]
  walk_at "evs"
  rw [if_neg (by simp)]
  walk_at "evs"
  with_reducible refine sliceE ?_
  with_reducible refine wpAny_evalPart_some ?_
  walk_at "evs"
  with_reducible refine wpAny_evalPart_some ?_
  walk_at "evs"
  with_reducible refine wpAny_evalPart_none ?_
  intro sl₂ s₃ hsl₂ k₃
  have S₃ := Lg.onT (by assumption) k₃
  with_reducible refine sliceFT hsl₂ hz (by with_unfolding_all rfl) ?_
  intro _ _
  walk_at "evs"
  rw [if_pos (by simpa using hp.s12)]
  walk_at "evs"
  with_reducible refine sliceE ?_
  with_reducible refine wpAny_evalPart_some ?_
  walk_at "evs"
  with_reducible refine wpAny_evalPart_none ?_
  with_reducible refine wpAny_evalPart_none ?_
  intro sl₃ s₄ hsl₃ k₄
  have S₄ := Lg.onT (by assumption) k₄
  with_reducible refine sliceFr hsl₃ hz (by with_unfolding_all rfl) ?_
  intro _ _
  rw [hp.s1]
  walk_at "evs"
  with_reducible refine newT (by assumption) ?_ (by walk_at "sz")
  intro a s₅ S₅ _
  walk_at "evs"
  exact h a _ _ _ _ (Lg.kp S₅) (S₅.get (by walk_at "mem"))
end
/-! _normpath -/
theorem Lg.freezeAt {w : World} {Z : Shared} {B : Fx} {own : Own} {h : Heap} {g : Array GenState} {q : OsState} {a : Addr} {o : Obj} (S : Lg w Z B own h g q) (e : h.get? a = some o) (hn : a ∉ own.map (·.1)) :
    ∃ B', (∀ b o, B b o → B' b o) ∧ B' a o ∧ Lg w Z B' own h g q := ⟨_, S.sub_all, ⟨e, hn⟩, S.all⟩
theorem notVars {L : Addr} {l : Vars} {a : Addr} {o : Obj} {vs : Array Value} {n : Nat} {h : Heap} {own : Own} (hL : ∃ o, h.get? L = some o ∧ HasV l o) (e : h.get? a = some o) (p : o.data = .seq vs n) (hr : a ∉ own.map (·.1)) : a ∉ ((L, HasV l) :: own).map (·.1) := by
  intro m
  rcases List.mem_cons.mp m with m | m
  · obtain ⟨o', e', _, es, ep, hd, _⟩ := hL
    have m : a = L := m
    subst m
    rw [e] at e'; cases e'
    rw [p] at hd; cases hd
  · exact hr m
section
variable {prog : Program} {w : World} {A : Around} {E : Value → Shared → Prop} {s : Shared} {Q : Value → Shared → Prop}
theorem splitS {Z : Shared} {B : Fx} {own : Own} {x y : Str} {t u : Tok} (S : At w Z B own s) (hy : (y.length == 0) = false) (hx : x.length ≤ 1000) (h : ∀ D l s', l.map (·.1) = Txt.split x y → At w Z B own s' → s'.heap.IsList D (strValues l).toArray → Q (.ref D) s') :
    wpAny (model prog w) A (call (.builtin "str.split") [.str x t, .str y u]) Q E s := by
  refine SCH.split1 (P := fun h' => ∀ b o, s.heap.get? b = some o → h'.get? b = some o) (fun _ ob p b o e => Heap.get?_push_of_some _ (p b o e)) (fun _ _ e => e) hy (fun D l h' k hl hk hL => ?_) (by rw [sizeLine_eq]; omega) ?_
  · exact h D l { s with heap := h', toks := k } hl (S.keeps hk) hL
  · have e1 := StrLaws.occ_length_le x y 0 x.length (x.length + 1)
    rw [length_partsBetween, sizeLine_eq]; omega
theorem normpath0_call {p rest : Str} {cs : List Str} {t : Tok} (g : Gr w s.heap) (r : Rm A 2) (hp : RootP p rest) (hl : p.length ≤ 100) (hs : Txt.split rest "/" = cs) (hc : ∀ c ∈ cs, c.length ≠ 0 ∧ c ≠ Str.ofString "." ∧ c ≠ Str.ofString "..")
    (h : ∀ t' s', Kp s s' → Q (.str p t') s') : wpAny (model prog w) A (call (.ref 110) [.str p t]) Q E s := by
  refine enter ["path"] ["sep", "dot", "dotdot", "_", "initial_slashes", "comps", "new_comps", "comp"] g r rfl (by kernel_rfl) rfl rfl rfl (by decide +kernel) rfl rfl ?_
  intro A' env L s₁ he S r'
  conv => arg 3; arg 1; whnf
  conv at he => arg 3; whnf
  dsimp only [varsOf, List.map, List.append_nil, List.zip, List.zipWith, List.nil_append, List.cons_append] at he S
  have hpl : p.length = 1 + rest.length := by rw [hp.1, len_app]; rfl
  walk_at "evs"
  with_reducible refine truS (by omega) ?_
  intro _
  rw [if_neg (by simp; omega)]
  walk_at "evs"
  with_reducible refine Assign_Tuple ?_ (by with_unfolding_all rfl) (by with_unfolding_all rfl)
  walk_at "evs"
  with_reducible refine splitroot_call (Lg.gr (by assumption)) (r'.le (by decide)) hp (by omega) ?_
  intro ta t1 t2 t3 s₂ k₂ hT
  have S₂ := Lg.onT (by assumption) k₂
  obtain ⟨oT, eT, pT⟩ := hT
  refine asgT r'.h S₂ (IsT.isTuple ⟨_, eT, pT⟩) rfl rfl ?_
  intro s₃ S₃ k₃
  iterate 3 walk_at "aio"
  refine assignInOrder_nil ?_
  walk_at "evs"
  with_reducible refine GM.split ?_
  walk_at "evs"
  with_reducible refine splitS (by assumption) (by decide) (by omega) ?_
  intro D l s₄ hlD S₄ hD
  obtain ⟨oD, eD, cD, nD, dD⟩ := id hD
  obtain ⟨B₁, hb₁, hoD, S₅⟩ := S₄.freezeAt eD (notVars (S₄.get (by walk_at "mem")) eD dD (by simp))
  walk_at "evs"
  with_reducible refine newL (by assumption) ?_ (Nat.zero_le _)
  intro la s₆ S₆ hla
  walk_at "evs"
  rename_i s₇ S₇ _ _ _
  have hDl : s₇.heap.IsList D (strValues l).toArray := ⟨oD, S₇.keep _ _ hoD, cD, nD, dD⟩
  refine forI (fun x : List (Str × Tok) => [(la, IsL (strValues x)), (L, HasV [("path", some (.str rest t3)), ("sep", some (.str "/" _)), ("dot", some (.str "." _)), ("dotdot", some (.str ".." _)), ("_", some (.str "" t1)), ("initial_slashes", some (.str "/" t2)), ("comps", some (.ref D)), ("new_comps", some (.ref la)), ("comp", none)])]) [] []
    (iters_list r'.h S₇ hDl (S₇.notOwnB hoD)) (fun _ i x => x.map (·.1) = cs.take i) (fun _ => rfl) (fun _ _ _ _ _ h => h) rfl ?turn ?fin
  case turn =>
    rintro R' B₂ i v x s₈ Qb - hi hv hb₂ hinv S₈ hN - -
    dsimp only [List.cons_append, List.nil_append] at S₈
    obtain ⟨c, tc, hci, rfl⟩ : ∃ c tc, cs[i]? = some c ∧ v = .str c tc := by
      obtain ⟨n, u, e1, e2⟩ := Texts.val ⟨l, rfl, hlD.trans hs⟩ hv
      exact ⟨n, u, e1, e2⟩
    obtain ⟨hc1, hc2, hc3⟩ := hc c (List.mem_of_getElem? hci)
    have hcl : c.length ≤ rest.length := part_short (y := Str.ofString "/") (by rw [hs]; exact List.mem_of_getElem? hci)
    have hcs : cs.length ≤ rest.length + 2 := by rw [← hs]; exact split_le _ _
    have hxl : x.length ≤ cs.length := by
      have := congrArg List.length hinv
      rw [List.length_map, List.length_take] at this
      omega
    have hz : (strValues x).length ≤ sizeLine := by
      have : (strValues x).length = x.length := by simp [strValues]
      rw [this, sizeLine_eq]; omega
    refine wpAny_assign_Name ?_
    walk_at "evs"
    with_reducible refine truS (by omega) ?_
    intro _
    rw [if_neg (by simp; omega)]
    walk_at "evs"
    rw [if_neg (by simpa using hc2)]
    walk_at "evs"
    rw [if_pos (by simpa using hc3)]
    walk_at "evs"
    refine hN _ B₂ (x ++ [(c, tc)]) _ (.inl rfl) (fun _ _ e => e) ?_ ?_
    · rw [List.map_append, hinv, List.take_add_one, hci]; rfl
    · rw [strValues_snoc]
      walk_at "at"
  case fin =>
    rintro B₂ x s₈ hb₂ hinv S₈
    dsimp only [List.cons_append, List.nil_append] at S₈
    have hlen : (strValues l).length = cs.length := by
      have := congrArg List.length (hlD.trans hs)
      simpa [strValues] using this
    rw [hlen, List.take_length] at hinv
    walk_at "evs"
    have hw := split_weight rest (Str.ofString "/") (by decide)
    rw [hs] at hw
    refine SC.join (l := x) (texts := cs) (Lg.list (by assumption) (by walk_at "mem")) hinv (joinOk_of_weight (by omega) (by decide)) ?_
    intro t4 k4
    have hj : Txt.join (Str.ofString "/") cs = rest := by rw [← hs]; exact (StrLaws.glued_eq_join _ _).trans (StrLaws.join_split _ _)
    rw [hj]
    have l1 : (Str.ofString "/").length = 1 := by decide
    with_reducible refine oCat (by rw [l1, sizeLine_eq]; omega) ?_
    intro t5 k5
    rw [← hp.1]
    walk_at "evs"
    with_reducible refine BoolOp_or ?_
    walk_at "evs"
    with_reducible refine truS (by omega) ?_
    intro _
    rw [if_pos (by simp; omega)]
    walk_at "evs"
    exact h _ _ (Lg.kp (Lg.anti (by assumption) (fun b o e => hb₂ _ _ (hb₁ _ _ e)) g.gd))
end
/-! normpath -/
section
variable {prog : Program} {w : World} {A : Around} {E : Value → Shared → Prop} {s : Shared} {Q : Value → Shared → Prop}
theorem notSys {a : Addr} {h : Heap} (g : Gr w h) (hn : h.objs.size ≤ a) : (a == sysModules) = false := by
  have h2 : 2 < h.objs.size := Heap.lt_size (g.k 2 _ rfl)
  have : a ≠ sysModules := by intro e; rw [e] at hn; exact absurd h2 (Nat.not_lt.mpr (Nat.le_trans hn (by decide)))
  exact beq_eq_false_iff_ne.mpr this
theorem Gr.at0 (g : Gr w s.heap) : At w s (fun b o => s.heap.get? b = some o) [] s := ⟨g.gd, fun _ _ e => e, fun _ m => (nomatch m), fun _ m => (nomatch m), List.nodup_nil, rfl, rfl⟩
theorem normpath_call {p rest : Str} {cs : List Str} {t : Tok} (g : Gr w s.heap) (r : Rm A 3) (hp : RootP p rest) (hl : p.length ≤ 100) (hs : Txt.split rest "/" = cs) (hc : ∀ c ∈ cs, c.length ≠ 0 ∧ c ≠ Str.ofString "." ∧ c ≠ Str.ofString "..")
    (h : ∀ t' s', Kp s s' → Q (.str p t') s') : wpAny (model prog w) A (call (.ref 117) [.str p t]) Q E s := by
  obtain ⟨fd, hK, hb, h1, h2, h3, h4, h5, h6, h7⟩ : ∃ fd : FuncData, (KH w.params).lookup 117 = some ⟨.type "function", none, .func fd, #[]⟩ ∧
      bindArgs fd ⟨[.str p t], []⟩ = (newTuple [.str p t] >>= fun tp => alloc { cls := .type "dict", data := .dict #[] } >>= fun d => pure [((Str.ofString "args" : Str), tp), (Str.ofString "kwargs", .ref d)]) ∧
      fd.scope = defScope (stAt 33) ∧ fd.body = .stmts (defBody (stAt 33)) ∧ fd.closure = [] ∧ fd.globals = mainGlobals ∧ fd.builtins = builtinsNs ∧ codeIn (KH w.params) fd.code fd.qualname = true ∧
      enterOk fd.scope ["args", "kwargs"] [] = true := ⟨_, rfl, by kernel_rfl, rfl, rfl, rfl, rfl, rfl, by kernel_rfl, by decide +kernel⟩
  simp only [enterOk, Bool.and_eq_true, decide_eq_true_eq] at h7
  obtain ⟨⟨⟨hsc, hcell⟩, hloc⟩, hnd⟩ := h7
  have hk := scope_kind hsc
  have hnm : namesOk fd.scope.names = true := by simp only [scopeOk, Bool.and_eq_true] at hsc; exact hsc.1.1.1
  refine wpAny_call (codeAny_call_function (fd := fd) (by have := r.d; omega) (g.k _ _ hK) rfl (by simp only [scopeOk, Bool.and_eq_true, Bool.not_eq_true'] at hsc; exact hsc.1.1.2) (by simp only [scopeOk, Bool.and_eq_true, Bool.not_eq_true'] at hsc; exact hsc.1.2) h2 (codeRec_of g.k h6) ?_)
  rw [hb, h3]
  have S₀ : At w s (fun b o => s.heap.get? b = some o) [] s := g.at0
  refine wpAny_bind (newT S₀ (fun ta s₁ S₁ _ => ?_) (by walk_at "sz"))
  refine wpAny_bind (wpAny_alloc (wpAny_pure ?_))
  have hds : (s₁.heap.objs.size == sysModules) = false := notSys S₁.gr (Nat.le_refl _)
  have hD := Heap.DictOf.new (knd := strKind prog w) s₁.heap
  have S₂ := S₁.push { cls := .type "dict", data := .dict #[] }
  generalize hda : s₁.heap.objs.size = da at hds hD ⊢
  generalize hh2 : s₁.heap.push { cls := .type "dict", data := .dict #[] } = hp2 at hD S₂ ⊢
  refine wpAny_newFunctionEnv (fun x hx => by simpa using List.all_eq_true.mp hcell x hx) (fun x hx => by simpa using List.all_eq_true.mp hloc x.1 (by rcases List.mem_cons.mp hx with rfl | hx; exact .head _; cases List.mem_singleton.mp hx; exact .tail _ (.head _))) (fun h₀ hns₀ hsb₀ => ⟨S₂.gr.nolim.fresh _ hsb₀, codeAny_func ?_⟩) hk
  have hk₁ : ∀ b o, hp2.get? b = some o → h₀.get? b = some o := fun b o e => hsb₀.extBut b o (Nat.ne_of_lt (Heap.lt_size e)) (Heap.get?_push_of_some _ e)
  obtain ⟨o, es, ep, e, hd, hks, hv⟩ := hns₀
  have S₃ : At w s (fun b o => s.heap.get? b = some o) ((hp2.objs.size, HasV (varsOf [("args", .ref ta), ("kwargs", .ref da)] [])) :: [(ta, IsT [.str p t])]) { s₁ with heap := h₀, toks := s₁.toks + 2 } :=
    S₂.add (none_of_le (Nat.le_refl _)) hk₁ e ⟨by rw [varsOf_keys]; simpa using hnd, es, ep, hd, hks, fun x v m => by
      rw [hv]
      exact lookup_nodup (by simpa using (List.reverse_perm _).nodup_iff.mpr hnd) (List.mem_reverse.mpr (varsOf_mem m))⟩
  have hD₃ := dictMono hD hk₁
  have he : EnvIs (newEnv fd.scope hp2.objs.size fd.globals [] (fd.qualname ++ Str.ofString ".<locals>.") (some 117) fd.code none fd.builtins) hp2.objs.size fd.scope.names [] := ⟨hk, rfl, h4, h5, (names_kof hnm).1, (names_kof hnm).2, fun x c m => nomatch m⟩
  have r' : Rm (A.deeper (newEnv fd.scope hp2.objs.size fd.globals [] (fd.qualname ++ Str.ofString ".<locals>.") (some 117) fd.code none fd.builtins)) 2 := r.deeper _
  rw [h1] at he r' ⊢
  refine wpAny_mono (Q := fun fl s' => Q (retOf fl) s') (E := fun _ _ => False) ?_ (fun fl s' q => by cases fl <;> exact q) fun _ _ x => x.elim
  generalize newEnv (defScope (stAt 33)) _ _ _ _ _ _ _ _ = env at he r' ⊢
  generalize A.deeper env = A' at r' ⊢
  conv => arg 3; arg 1; whnf
  conv at he => arg 3; whnf
  dsimp only [varsOf, List.map, List.append_nil, List.zip, List.zipWith, List.nil_append, List.cons_append] at he S₃
  walk_at "evs"
  with_reducible refine c_path_call (Lg.gr (by assumption)) r' (S₃.get (by walk_at "mem")) hD₃ hds ?_
  intro s₄ k₄
  have S₄ := Lg.onT (by assumption) k₄
  walk_at "evs"
  with_reducible refine normpath0_call (Lg.gr (by assumption)) r' hp hl hs hc ?_
  intro t₅ s₅ k₅
  have S₅ := Lg.on (by assumption) k₅
  walk_at "evs"
  exact h _ _ (Lg.kp (by assumption))
end
/-! sets of texts -/
structure SetD (prog : Program) (w : World) (xs : List Str) (es : Array (Int × Value)) (t : SetTable) : Prop where
  el : ElemsOf (strKind prog w) es.toList
  mem : ∀ k, k ∈ xs ↔ ∃ e ∈ es.toList, (strKind prog w).is k e.2 = true
  size : es.size ≤ xs.length
  fits : t.fits es.size = true
  plain : t.plain = true → es.size = 0
def IsSet (prog : Program) (w : World) (xs : List Str) (o : Obj) : Prop :=
  o.ExactSet ∧ ∃ es ep t, o.data = .set es ep t ∧ SetD prog w xs es t ∧ (es.size ≠ 0 → t.led = !w.params.followText "set-order")
theorem IsSet.fresh {prog : Program} {w : World} (led : Bool) : IsSet prog w [] { cls := .type "set", dict := none, data := .set #[] 0 (.fresh 0 0 led) } :=
  ⟨⟨rfl, rfl, rfl⟩, #[], 0, _, rfl, ⟨fun e he => by simp at he, fun k => by simp, by simp, by rfl, fun _ => rfl⟩, fun h => absurd rfl h⟩
theorem orStandIn_led (t : SetTable) (n : Nat) : (t.orStandIn n).led = t.led := by unfold SetTable.orStandIn; split <;> rfl
theorem layNew_t (t : SetTable) (es : Array (Int × Value)) (h : Int) (x : Value) : (layNew t es h x).2.1.led = t.led := by
  unfold layNew
  split
  · exact orStandIn_led _ _
  · rfl
theorem relay_t (t : SetTable) (es : Array (Int × Value)) (n : Nat) : (relayAll t es n).2.1.led = t.led ∧ ((relayAll t es n).2.1.plain = true → t.plain = true) := by
  unfold relayAll
  split
  · rename_i t' order e
    dsimp only
    have e' : t'.led = t.led ∧ t'.plain = t.plain := by
      unfold SetTable.relaid SetTable.laid at e
      cases q : SetTable.layClean (SetTable.sizeAbove n - 1) (es.map (·.1)) with
      | none => rw [q] at e; cases e
      | some ow => rw [q] at e; cases e; exact ⟨rfl, rfl⟩
    split
    · exact ⟨e'.1, fun h => e'.2 ▸ h⟩
    · exact ⟨rfl, fun h => by cases h⟩
  · exact ⟨rfl, fun h => by cases h⟩
section
variable {prog : Program} {w : World} {A : Around} {E : Value → Shared → Prop} {s : Shared}
theorem setAddS {a : Addr} {o : Obj} {es : Array (Int × Value)} {ep : Nat} {t : SetTable} {xs : List Str} {x : Str} {tk : Tok} {Q : Bool → Shared → Prop} (ho : s.heap.get? a = some o) (hex : o.ExactSet) (hd : o.data = .set es ep t) (D : SetD prog w xs es t)
    (hroom : es.size + 1 < scanBound)
    (h : ∀ b h' o' es' ep' t', Heap.SameBut a s.heap h' → h'.get? a = some o' → o'.ExactSet → o'.data = .set es' ep' t' → SetD prog w (xs ++ [x]) es' t' → t'.led = t.led → Q b { s with heap := h', toks := s.toks + 1 }) :
    wpAny (model prog w) A (setAdd a (.str x tk)) Q E s := by
  unfold setAdd
  refine wpAny_holding (wpAny_bind ((strKind prog w).pyHash (strKind_is prog w x tk) ?_))
  have hb : es.size < scanBound := Nat.lt_of_succ_lt hroom
  unfold setAddHashed setAddHashedIn
  refine wpAny_holding (wpAny_bind (wpAny_setState_of (s := { s with toks := s.toks + 1 }) ho hd D.fits ?_))
  dsimp only
  rw [byScan_of (knd := strKind prog w) (x := .str x tk) rfl hb D.el, if_pos rfl]
  unfold setAddByScan
  refine wpAny_bind (wpAny_bind (wpAny_rule (wpAny_bind (wpAny_setScan_of (s := { s with toks := s.toks + 1 }) (strKind_is prog w x tk) ho hd D.fits D.el ?_))))
  cases hr : es.toList.findIdx? (fun e => (strKind prog w).is x e.2) with
  | some j =>
    dsimp only
    refine wpAny_pure (wpAny_pure ?_)
    obtain ⟨hj, hpj, _⟩ := List.findIdx?_eq_some_iff_getElem.mp hr
    have hx : x ∈ xs := (D.mem x).mpr ⟨_, List.getElem_mem hj, hpj⟩
    refine h _ s.heap o es ep t (Heap.SameBut.refl a _) ho hex hd ⟨D.el, fun k => ?_, by rw [List.length_append]; exact Nat.le_add_right_of_le D.size, D.fits, D.plain⟩ rfl
    rw [← D.mem k, List.mem_append, List.mem_singleton]
    exact ⟨fun q => q.elim id (fun e => e ▸ hx), .inl⟩
  | none =>
    dsimp only
    have hperm := layNew_perm t es ((strKind prog w).hash x) (.str x tk)
    have hfits := layNew_fits t es ((strKind prog w).hash x) (.str x tk)
    have hled := layNew_t t es ((strKind prog w).hash x) (.str x tk)
    generalize layNew t es ((strKind prog w).hash x) (.str x tk) = L at hperm hfits hled ⊢
    obtain ⟨es1, t1, was, gave⟩ := L
    dsimp only at hperm hfits hled ⊢
    rw [Array.toList_push] at hperm
    have el1 : ElemsOf (strKind prog w) es1.toList := (D.el.push (strKind_is prog w x tk) rfl).perm hperm
    have mem1 : ∀ k, k ∈ xs ++ [x] ↔ ∃ e ∈ es1.toList, (strKind prog w).is k e.2 = true := fun k => by
      rw [List.mem_append, List.mem_singleton, D.mem k]
      constructor
      · rintro (⟨e, he, p⟩ | rfl)
        · exact ⟨e, hperm.mem_iff.mpr (List.mem_append_left _ he), p⟩
        · exact ⟨_, hperm.mem_iff.mpr (List.mem_append_right _ (.head _)), strKind_is prog w k tk⟩
      · rintro ⟨e, he, p⟩
        rcases List.mem_append.mp (hperm.mem_iff.mp he) with he | he
        · exact .inl ⟨e, he, p⟩
        · cases List.mem_singleton.mp he
          exact .inr ((strKind prog w).inj _ k x p (strKind_is prog w x tk))
    have sz1 : es1.size = es.size + 1 := by rw [← Array.length_toList, hperm.length_eq, List.length_append, Array.length_toList]; rfl
    have len1 : es1.size ≤ (xs ++ [x]).length := by rw [sz1, List.length_append]; exact Nat.add_le_add_right D.size 1
    have gw : ∀ (b : Bool) (s₁ : Shared) (Q' : Unit → Shared → Prop), Q' () s₁ → wpAny (model prog w) A (match b with | true => rule "set.scan.the-table-gave-way" | false => pure ()) Q' E s₁ :=
      fun b s₁ Q' hq => by cases b <;> first | exact wpAny_pure hq | exact wpAny_rule hq
    refine wpAny_bind (gw _ _ _ ?_)
    -- what is behind the new element
    have tail : ∀ t2 : SetTable, t2.fits es1.size = true → t2.led = t.led → t2.plain = false → wpAny (model prog w) A (do
        storeSet a es1 t2
        if (!was && t2.tooFull) = true then do
            (match (relayAll t2 es1 (SetTable.grown es1.size)).2.2 with | true => rule "set.scan.the-table-gave-way" | false => pure () : Sem Unit)
            storeSet a (relayAll t2 es1 (SetTable.grown es1.size)).1 (relayAll t2 es1 (SetTable.grown es1.size)).2.1
            pure (some true)
          else pure (some true)) (fun r s' => wpAny (model prog w) A (match r with | some added => pure added | none => setAddHashedIn a (.str x tk) ((strKind prog w).hash x) 99999) Q E s') E { s with toks := s.toks + 1 } := by
      intro t2 f2 l2 p2
      refine wpAny_bind (wpAny_storeSet_of (s := { s with toks := s.toks + 1 }) ho hd ?_ (fits_of_scanBound (by omega)))
      have g1 : (s.heap.update a (Obj.putSet es1 t2)).get? a = some { o with data := .set es1 (ep + 1) t2 } := by
        have := Heap.get?_update_self (Obj.putSet es1 t2) ho (by rw [putSet_of es1 t2 hd]; rfl)
        rw [putSet_of es1 t2 hd] at this; exact this
      have b1 := Heap.SameBut.update s.heap a (Obj.putSet es1 t2)
      split
      · have hp := relayAll_perm t2 es1 (SetTable.grown es1.size)
        have hf := relayAll_fits t2 es1 (SetTable.grown es1.size)
        have hl := relay_t t2 es1 (SetTable.grown es1.size)
        generalize relayAll t2 es1 (SetTable.grown es1.size) = R at hp hf hl ⊢
        obtain ⟨es2, t3, gave2⟩ := R
        dsimp only at hp hf hl ⊢
        have sz2 : es2.size = es1.size := by rw [← Array.length_toList, hp.length_eq, Array.length_toList]
        refine wpAny_bind (gw _ _ _ ?_)
        refine wpAny_bind (wpAny_storeSet_of (s := { s with heap := _, toks := s.toks + 1 }) g1 rfl ?_ (fits_of_scanBound (by omega)))
        have g2 : ((s.heap.update a (Obj.putSet es1 t2)).update a (Obj.putSet es2 t3)).get? a = some { o with data := .set es2 (ep + 1 + 1) t3 } := by
          have := Heap.get?_update_self (Obj.putSet es2 t3) g1 (by rw [putSet_of es2 t3 rfl]; rfl)
          rw [putSet_of es2 t3 rfl] at this; exact this
        refine wpAny_pure (wpAny_pure (h _ _ _ es2 _ t3 (b1.trans (Heap.SameBut.update _ a _)) g2 hex rfl ⟨el1.perm hp, fun k => (mem1 k).trans ⟨fun ⟨e, he, q⟩ => ⟨e, hp.mem_iff.mpr he, q⟩, fun ⟨e, he, q⟩ => ⟨e, hp.mem_iff.mp he, q⟩⟩, by rw [sz2]; exact len1, hf, fun e => ?_⟩ (hl.1.trans l2)))
        have := hl.2 e; rw [p2] at this; cases this
      · exact wpAny_pure (wpAny_pure (h _ _ _ es1 _ t2 b1 g1 hex rfl ⟨el1, mem1, len1, f2, fun e => by rw [p2] at e; cases e⟩ l2))
    split
    · refine wpAny_bind ?_
      rw [hashByValue_scannable 8 rfl]
      refine wpAny_pure ?_
      exact tail { t1 with plain := false } (SetTable.fits_plain_off hfits) hled rfl
    · rename_i hpl
      refine wpAny_bind (wpAny_pure ?_)
      rw [if_pos rfl]
      exact tail t1 hfits hled (by simpa using hpl)
end
/-! set(xs), x in a set -/
section
variable {prog : Program} {w : World} {A : Around} {R : Result → Shared → Prop} {E : Value → Shared → Prop} {s : Shared} {Q : Value → Shared → Prop}
def SetNow (prog : Program) (w : World) (xs : List Str) (a : Addr) (h : Heap) : Prop :=
  ∃ o es ep t, h.get? a = some o ∧ o.ExactSet ∧ o.data = .set es ep t ∧ SetD prog w xs es t ∧ t.led = !w.params.followText "set-order"
theorem SetNow.isSet {xs : List Str} {a : Addr} {h : Heap} (x : SetNow prog w xs a h) : ∃ o, h.get? a = some o ∧ IsSet prog w xs o :=
  let ⟨o, es, ep, t, e, hx, hd, D, l⟩ := x; ⟨o, e, hx, es, ep, t, hd, D, fun _ => l⟩
theorem update_loop {I S : Addr} {fp wr : List Addr} {vs : List Value} {xs : List Str} {St : Nat → Heap → Prop} (W : Walks prog w A.in1 I fp wr vs.length (fun i v => vs[i]? = some v) St) (hSf : S ∉ fp) (ht : Texts vs xs) (hb : xs.length + 1 < scanBound) :
    ∀ (k i : Nat) (s : Shared), vs.length - i = k → i ≤ vs.length → St i s.heap → SetNow prog w (xs.take i) S s.heap →
      (∀ h' tk, (∀ b o, b ≠ S → b ∉ wr → s.heap.get? b = some o → h'.get? b = some o) → SetNow prog w xs S h' → R (.ok (.ret .none)) { s with heap := h', toks := tk }) →
      codeAny (model prog w) A (.builtin "set.update.loop" ⟨[.ref S, .ref I], []⟩) R s := by
  have hSw : S ∉ wr := fun h => hSf (W.sub _ h)
  intro k
  induction k with
  | zero =>
    intro i s hk hi hst hS hR
    have hin : i = vs.length := by omega
    subst hin
    refine codeAny_builtin PyProof.Rows.F.entry_set_update_loop ?_
    rw [Around.under_plainId PyProof.Rows.F.plain_set_update_loop _]
    show wpAny _ A.in1 (pyNext (.ref I) >>= _) _ _ s
    refine wpAny_bind (W.done s _ _ hst fun h' tk hk' => ?_)
    refine wpAny_pure (hR h' tk (fun b o _ hb e => hk' b o hb e) ?_)
    rw [ht.length, List.take_length] at hS
    obtain ⟨o, es, ep, t, e, r⟩ := hS
    exact ⟨o, es, ep, t, hk' _ _ hSw e, r⟩
  | succ k ih =>
    intro i s hk hi hst hS hR
    have hlt : i < vs.length := by omega
    refine codeAny_builtin PyProof.Rows.F.entry_set_update_loop ?_
    rw [Around.under_plainId PyProof.Rows.F.plain_set_update_loop _]
    show wpAny _ A.in1 (pyNext (.ref I) >>= _) _ _ s
    refine wpAny_bind (W.item i s _ _ hlt hst fun v h₁ tk₁ hv hst₁ hk₁ => ?_)
    obtain ⟨x, t, hx, rfl⟩ := ht.val hv
    obtain ⟨o, es, ep, tb, e, hex, hd, D, hl⟩ := hS
    show wpAny _ A.in1 (holding [Value.str x t] (setAdd S (.str x t)) >>= _) _ _ _
    refine wpAny_bind (wpAny_holding ?_)
    have hxl : i < xs.length := by rw [← ht.length]; exact hlt
    have hlen : es.size + 1 < scanBound := by have := D.size; rw [List.length_take] at this; omega
    refine setAddS (s := { s with heap := h₁, toks := tk₁ }) (hk₁ _ _ hSw e) hex hd D hlen fun b h₂ o' es' ep' t' hsb e' hex' hd' D' hl' => ?_
    have htk : xs.take i ++ [x] = xs.take (i + 1) := by rw [List.take_add_one, hx]; rfl
    rw [htk] at D'
    refine wpAny_pure ⟨plainId_quiet PyProof.Rows.F.plain_set_update_loop _, ih (i + 1) { s with heap := h₂, toks := _ } (by omega) hlt (W.frame _ _ _ hst₁ fun b hb o e => ?_) ⟨o', es', ep', t', e', hex', hd', D', hl'.trans hl⟩ fun h₃ tk₃ hk₃ hS₃ => hR h₃ tk₃ (fun b o hb hbw e => ?_) hS₃⟩
    · exact hsb.extBut b o (fun q => hSf (q ▸ hb)) e
    · exact hk₃ b o hb hbw (hsb.extBut b o hb (hk₁ b o hbw e))

theorem code_setNew (a : Value) {Q₁ : Value → Shared → Prop}
    (h : Q₁ (.ref s.heap.objs.size) { s with heap := s.heap.push { cls := .type "set", dict := none, data := .set #[] 0 (.fresh 0 0 (!w.params.followText "set-order")) } }) :
    codeAny (model prog w) A (.call (.builtin "set.__new__") ⟨[.type "set", a], []⟩) (wants Q₁ E) s := by
  refine codeAny_of_tree ?_
  show wpAny _ A.in1 (do checkBuiltinCall "set.__new__" ⟨[.type "set", a], []⟩; again (.builtin "set.__new__" ⟨[.type "set", a], []⟩)) _ _ s
  refine wpAny_bind (wpAny_of_eq (F.newCall_set_1 a) (wpAny_pure ⟨plainId_quiet F.plain_set_new _, codeAny_builtin F.entry_set_new ?_⟩))
  rw [Around.under_plainId F.plain_set_new _]
  unfold Builtin.«set.__new__» Builtin.Frozenset.newClass
  have hsub := sub_set_self
  obtain ⟨hp, g, d, tk, os⟩ := s
  dsimp only
  wp_walk
  refine wpAny_askSetting (wpAny_pure ?_)
  dsimp only
  simp only [newObj]
  exact wpAny_bind (wpAny_alloc (wpAny_pure (wpAny_pure h)))

abbrev freshSet (w : World) : Obj := { cls := .type "set", dict := none, data := .set #[] 0 (.fresh 0 0 (!w.params.followText "set-order")) }
theorem newSetL {Z : Shared} {B : Fx} {own : Own} {l : Addr} {vs : List Value} {xs : List Str} (hh : A.handled = none) (S : At w Z B own s) (hl : s.heap.IsList l vs.toArray) (ht : Texts vs xs) (hb : xs.length + 1 < scanBound)
    (h : ∀ a s', At w Z B ((a, IsSet prog w xs) :: own) s' → Q (.ref a) s') : wpAny (model prog w) A (call (.type "set") [.ref l]) Q E s := by
  obtain ⟨c, tl, hmro⟩ := F.called_set.mro
  have hmade := F.called_set.made
  have hsub := F.called_set.sub
  refine wpAny_call (codeAny_of_tree ?_)
  show wpAny _ _ (callAny (.type "set") _) _ _ _
  refine wpAny_pure ⟨Code.quiet_builtin _ (by decide +kernel), codeAny_builtin F.entry_type_call ?_⟩
  rw [Around.under_plain (weight_type_call_type "set" [.ref l] []) rfl]
  have h1 := F.called_set.notType
  have h2 := F.called_set.canCreate
  have hct := F.typeCall_set_1 (.ref l)
  repeat (any_goals (first | assumption | wp_step))
  refine codeAny_mono (code_setNew (.ref l) (E := E) (Q₁ := fun obj s₁ => obj = .ref s.heap.objs.size ∧ s₁ = { s with heap := s.heap.push (freshSet w) }) ⟨rfl, rfl⟩) fun r s₁ hr => ?_
  rcases r with e | (obj | _ | _ | _) <;> first | exact hr | exact hr.elim | skip
  obtain ⟨rfl, rfl⟩ := hr
  have S₁ := S.push (freshSet w)
  have hS : (s.heap.push (freshSet w)).get? s.heap.objs.size = some (freshSet w) := Heap.get?_push_size _ rfl
  have hT : Shared.TypeIs { s with heap := s.heap.push (freshSet w) } (.ref s.heap.objs.size) "set" := ⟨_, hS, rfl⟩
  have hli := F.called_set.init.lookup
  have hbi := F.called_set.init.bind (.ref s.heap.objs.size)
  repeat (any_goals (first | assumption | wp_step))
  refine codeAny_mono (codeAny_call_builtin (R := wants (fun r s₂ => r = .none ∧ ∃ h' tk, s₂ = { s with heap := h', toks := tk } ∧ SetNow prog w xs s.heap.objs.size h' ∧ (∀ b o, s.heap.get? b = some o → h'.get? b = some o)) E)
    F.called_set.init.plain F.entry_set_init (check_set_init_1 hT ?_)) fun r₂ s₂ hr₂ => ?_
  · obtain ⟨⟨ocls, odict, odata, oslots⟩, hol, hcl, nl, hdl⟩ := id hl
    simp only at hcl hdl
    subst hcl; subst hdl
    have hol' : (s.heap.push (freshSet w)).get? l = some { cls := .type "list", dict := odict, data := .seq vs.toArray nl, slots := oslots } := Heap.get?_push_of_some _ hol
    have hsls := F.sub_list_set
    have hslf := F.sub_list_frozenset
    have hne : (Value.type "list" == Value.type "dict") = false := by decide
    have hl1 : (s.heap.push (freshSet w)).IsList l vs.toArray := ⟨_, hol', rfl, nl, rfl⟩
    unfold Builtin.«set.__init__» noKeywords Builtin.Frozenset.updateFrom
    generalize hPI : pyIter = PI
    wp_walk
    subst hPI
    refine wpAny_pyIter_list hl1 ?_
    refine wpAny_bind (wpAny_runValue ?_)
    have hlS : l < s.heap.objs.size := Heap.lt_size hol
    have hh3 : A.in1.in1.in1.handled = none := by simp [hh]
    have hneI : l ≠ (s.heap.push (freshSet w)).objs.size := by rw [Heap.size_push]; exact Nat.ne_of_lt (Nat.lt_succ_of_lt hlS)
    have hSf : s.heap.objs.size ∉ [(s.heap.push (freshSet w)).objs.size, l] := by
      rw [Heap.size_push]; simp only [List.mem_cons, List.not_mem_nil, or_false, not_or]
      exact ⟨Nat.ne_of_lt (Nat.lt_succ_self _), Nat.ne_of_gt hlS⟩
    have W := Walks.list (prog := prog) (w := w) hh3 (s.heap.push (freshSet w)).objs.size l hneI vs.toArray
    simp only [List.size_toArray, List.getElem?_toArray] at W
    refine update_loop W hSf ht hb _ 0 _ rfl (Nat.zero_le _) ⟨⟨_, Heap.get?_push_size _ rfl, rfl, rfl⟩, hl1.push _⟩ ⟨freshSet w, #[], 0, _, Heap.get?_push_of_some _ hS, ⟨rfl, rfl, rfl⟩, rfl, ⟨fun e he => by simp at he, fun k => by simp, by simp, by rfl, fun _ => rfl⟩, rfl⟩ ?_
    intro h' tk hk hS'
    show wpAny _ _ _ _ _ _
    refine wpAny_pure ?_
    show wpAny _ _ (ret Value.none) _ _ _
    refine wpAny_pure ⟨rfl, h', tk, rfl, hS', fun b o e => hk b o (Nat.ne_of_lt (Heap.lt_size e)) (fun m => ?_) (Heap.get?_push_of_some _ (Heap.get?_push_of_some _ e))⟩
    cases List.mem_singleton.mp m
    have := Heap.lt_size e
    rw [Heap.size_push] at this
    exact absurd this (Nat.not_lt.mpr (Nat.le_succ _))
  · rcases r₂ with e | (r | _ | _ | _) <;> first | exact hr₂ | exact hr₂.elim | skip
    obtain ⟨rfl, h', tk, rfl, hS', hk'⟩ := hr₂
    repeat (any_goals (first | assumption | wp_step))
    obtain ⟨o, e, p⟩ := hS'.isSet
    exact h _ { s with heap := h', toks := tk } (S.add (none_of_le (Nat.le_refl _)) hk' e p)
theorem newSet0 {Z : Shared} {B : Fx} {own : Own} (S : At w Z B own s) (h : ∀ a s', At w Z B ((a, IsSet prog w []) :: own) s' → Q (.ref a) s') : wpAny (model prog w) A (call (.type "set") []) Q E s :=
  call_set_0 fun led => h _ { s with heap := _ } (S.addPush _ (IsSet.fresh led))
theorem IsSet.setOf {h : Heap} {a : Addr} {o : Obj} {xs : List Str} (e : h.get? a = some o) (p : IsSet prog w xs o) (hb : xs.length < scanBound) : ∃ n, h.SetOf (strKind prog w) a (fun k => decide (k ∈ xs)) n :=
  let ⟨hex, es, ep, t, hd, D, _⟩ := p
  ⟨_, o, es, ep, t, e, hex, hd, D.el, fun k => by rw [decide_eq_true_eq]; exact D.mem k, Nat.lt_of_le_of_lt D.size hb, D.fits, rfl⟩
theorem inSet {a : Addr} {o : Obj} {xs : List Str} {x : Str} {tx : Tok} {h : Heap} {gs : Array GenState} {d : Drawn} {k : Nat} {os : OsState} (e : h.get? a = some o) (p : IsSet prog w xs o) (hb : xs.length < scanBound) (hq : ∀ k, Q (.bool (decide (x ∈ xs))) ⟨h, gs, d, k, os⟩) :
    wpAny (model prog w) A (compareOp .In (.str x tx) (.ref a)) Q E ⟨h, gs, d, k, os⟩ := by
  obtain ⟨n, hS⟩ := p.setOf (h := h) e hb
  exact wpAny_inSet_of (s := ⟨h, gs, d, k, os⟩) (strKind_is prog w x tx) rfl hS (hq _)
end
/-! a set is walked -/
theorem slot_sit_next : Slot "set_iterator" "__next__" "set_iterator.__next__" :=
  .of (owner := "set_iterator") (n := "__next__") (by rw [typeLookup_type, builtinLookup_eq_fast]; kernel_rfl) (by decide +kernel) (by decide +kernel) (by decide +kernel)
    (by first | exact .inl (by decide +kernel) | exact .inr (by decide +kernel)) (by rw [isSubtype_type]; kernel_rfl)
theorem entry_sit_next : entryFor table "set_iterator.__next__" = some Builtin.«set_iterator.__next__» := entryFor_of_tree (by kernel_rfl)
theorem args_sit_next (a : Value) : argsOk "set_iterator.__next__" ⟨[a], []⟩ := by unfold argsOk; kernel_rfl
theorem entry_set_iter : entryFor table "set.__iter__" = some Builtin.«frozenset.__iter__» :=
  entryFor_alias (id' := "frozenset.__iter__") (by kernel_rfl) rfl (by decide +kernel) (by kernel_rfl)

def SetIt (h : Heap) (I a : Addr) (first : Value) (i n ep : Nat) : Prop := h.get? I = some { cls := .type "set_iterator", data := .fields #[first, .int i 0, .ref a, .int n 0, .int ep 0] }

section
variable {prog : Program} {w : World} {A : Around} {E : Value → Shared → Prop} {s : Shared}
theorem erase_perm {α : Type} : ∀ (l : List α) (i : Nat) (h : i < l.length), (l[i] :: l.eraseIdx i).Perm l
  | x :: r, 0, _ => .refl _
  | x :: r, i + 1, h => (List.Perm.swap _ _ _).trans ((erase_perm r i (Nat.lt_of_succ_lt_succ h)).cons x)
theorem wpAny_choose {M : Model} {src : Source} {n : Nat} {Q : Nat → Shared → Prop} (hn : n ≠ 0) (h : ∀ i d, i < n → Q i { s with drawn := d }) : wpAny M A (choose src n) Q E s := fun Γ p _ => by
  unfold choose
  rw [Sem.wp_choose]
  refine ⟨hn, ?_⟩
  rw [Sem.wp_pure]
  exact h _ _ (Nat.mod_lt _ (Nat.pos_of_ne_zero hn))
theorem wpAny_drawOrder {α : Type} : ∀ (n : Nat) (xs : List α) (s : Shared) (Q : List α → Shared → Prop), xs.length = n → (∀ ys d, ys.Perm xs → Q ys { s with drawn := d }) → wpAny (model prog w) A (drawOrder n xs) Q E s
  | 0, xs, s, Q, hl, h => by
    have : xs = [] := List.length_eq_zero_iff.mp hl
    subst this
    exact wpAny_pure (h [] s.drawn .nil)
  | n + 1, [], s, Q, hl, h => by cases hl
  | n + 1, x :: r, s, Q, hl, h => by
    refine wpAny_bind (wpAny_choose (by simp) fun i d hi => ?_)
    rw [List.getElem?_eq_getElem hi]
    refine wpAny_bind (wpAny_drawOrder n _ _ _ (by rw [List.length_eraseIdx_of_lt hi]; omega) fun ys d' hp => wpAny_pure (h _ d' ?_))
    exact (hp.cons _).trans (erase_perm _ _ hi)
theorem pickGo_perm {α : Type} (next : Nat → Nat) : ∀ (fuel k : Nat) (left : List α) (out : Array α), left.length = fuel → (pickOrder.go next fuel k left out).toList.Perm (out.toList ++ left)
  | 0, k, left, out, hl => by
    have : left = [] := List.length_eq_zero_iff.mp hl
    subst this
    simp [pickOrder.go]
  | fuel + 1, k, left, out, hl => by
    have hi : next k % left.length < left.length := Nat.mod_lt _ (by omega)
    unfold pickOrder.go
    rw [List.getElem?_eq_getElem hi]
    refine (pickGo_perm next fuel (k + 1) _ _ (by rw [List.length_eraseIdx_of_lt hi]; omega)).trans ?_
    rw [Array.toList_push, List.append_assoc]
    exact (erase_perm _ _ hi).append_left _
theorem pick_perm {α : Type} (next : Nat → Nat) (xs : Array α) : (pickOrder next xs).toList.Perm xs.toList := by
  have := pickGo_perm next xs.size 0 xs.toList #[] (by simp)
  simpa [pickOrder] using this

theorem SetIt.typeIs {I a : Addr} {first : Value} {i n ep : Nat} (x : SetIt s.heap I a first i n ep) : s.TypeIs (.ref I) "set_iterator" := ⟨_, x, rfl⟩
theorem wpAny_stop {M : Model} {Q : Fin → Shared → Prop} (hh : A.handled = none)
    (hE : ∀ h' e, (∀ b o, s.heap.get? b = some o → h'.get? b = some o) → (∃ o, h'.get? e = some o ∧ o.cls = .type "StopIteration") → E (.ref e) { s with heap := h' }) : wpAny M A (newExc (.type "StopIteration") [] >>= fun e => raiseNew e) Q E s := by
  refine wpAny_bind ?_
  simp only [newExc, newTuple]
  refine wpAny_bind (wpAny_newObj_type ?_ (by size_fits))
  refine wpAny_bind (m := firstArgMember _ _) (wpAny_of_eq (a := Value.none) (by first | rfl | (simp only [firstArgMember]; rfl)) ?_)
  refine wpAny_newObj_type ?_ (by size_fits)
  simp only [raiseNew]
  refine wpAny_bind (wpAny_handled ?_)
  rw [hh]
  refine wpAny_bind (wpAny_pure (wpAny_throw ?_))
  exact hE _ _ (fun b o e => Heap.get?_push_of_some _ (Heap.get?_push_of_some _ e)) ⟨_, Heap.get?_push_size _ rfl, rfl⟩

theorem SetIt.put {h : Heap} {I : Addr} {fs : Array Value} {k : Nat} {x : Value} (e : h.get? I = some { cls := .type "set_iterator", data := .fields fs }) :
    (h.update I (Obj.mapFields (·.setIfInBounds k x))).get? I = some { cls := .type "set_iterator", data := .fields (fs.setIfInBounds k x) } := Heap.get?_update_self _ e rfl
theorem stop_end {M : Model} {e : Addr} {Q : Option Value → Shared → Prop} (h : ∃ o, s.heap.get? e = some o ∧ o.cls = .type "StopIteration") (q : Q none s) :
    wpAny M A (do if ← isInstance (.ref e) (.type "StopIteration") then pure none else throw (.ref e)) Q E s :=
  wpAny_bind (wpAny_isInstance (T := "StopIteration") (b := true) h isSubtype_stop (wpAny_pure q))
def Gives {α : Type} (prog : Program) (w : World) (A : Around) (t : Sem α) (r : α) (s : Shared) : Prop := ∀ Q E, Q r s → wpAny (model prog w) A t Q E s

section
variable {I a : Addr} {o : Obj} {es : Array (Int × Value)} {ep i : Nat} {t : SetTable} {Q : Option Value → Shared → Prop}
theorem slot_item {slot next : Nat} {x : Value} (hit : SetIt s.heap I a (.int slot 0) i es.size ep) (ho : s.heap.get? a = some o) (hd : o.data = .set es ep t) (hf : t.fits es.size = true) (hg : Gives prog w A.in1 (setNext a slot i ep) (some (x, next)) s)
    (hQ : ∀ h', SetIt h' I a (.int next 0) (i + 1) es.size ep → Heap.SameBut I s.heap h' → Q (some x) { s with heap := h' }) : wpAny (model prog w) A (pyNext (.ref I)) Q E s := by
  unfold pyNext
  refine wpAny_bind (wpAny_attempt (wpAny_callSpecial?_slot (name := Str.ofString "__next__") hit.typeIs slot_sit_next (wpAny_call_entry slot_sit_next hit.typeIs entry_sit_next ?_ (args_sit_next _))))
  show wpAny _ _ (fieldsOf (.ref I) >>= _) _ _ s
  refine wpAny_bind (wpAny_fieldsOf hit rfl ?_)
  show wpAny _ _ (setEntries a >>= _) _ _ s
  refine wpAny_bind (wpAny_setEntries_of ho hd hf ?_)
  rw [if_neg (by simp)]
  dsimp only [Int.toNat_natCast]
  refine wpAny_bind (hg _ _ ?_)
  dsimp only
  refine wpAny_bind (wpAny_setField hit rfl (by decide : 0 < 5) ?_)
  have e1 := SetIt.put (k := 0) (x := rawInt next) hit
  refine wpAny_bind (wpAny_setField (s := { s with heap := _ }) e1 rfl (by decide : 1 < 5) ?_)
  have e2 := SetIt.put (k := 1) (x := rawInt (i + 1)) e1
  exact wpAny_pure ⟨x, rfl, wpAny_pure (hQ _ e2 ((Heap.SameBut.update ..).trans (Heap.SameBut.update ..)))⟩
theorem slot_stop {slot : Nat} (hh : A.handled = none) (hit : SetIt s.heap I a (.int slot 0) i es.size ep) (ho : s.heap.get? a = some o) (hd : o.data = .set es ep t) (hf : t.fits es.size = true) (hg : Gives prog w A.in1 (setNext a slot i ep) none s)
    (hQ : ∀ h', (∀ b o, b ≠ I → s.heap.get? b = some o → h'.get? b = some o) → Q none { s with heap := h' }) : wpAny (model prog w) A (pyNext (.ref I)) Q E s := by
  unfold pyNext
  refine wpAny_bind (wpAny_attempt (wpAny_callSpecial?_slot (name := Str.ofString "__next__") hit.typeIs slot_sit_next (wpAny_call_entry slot_sit_next hit.typeIs entry_sit_next ?_ (args_sit_next _))))
  show wpAny _ _ (fieldsOf (.ref I) >>= _) _ _ s
  refine wpAny_bind (wpAny_fieldsOf hit rfl ?_)
  show wpAny _ _ (setEntries a >>= _) _ _ s
  refine wpAny_bind (wpAny_setEntries_of ho hd hf ?_)
  rw [if_neg (by simp)]
  dsimp only [Int.toNat_natCast]
  refine wpAny_bind (hg _ _ ?_)
  dsimp only
  refine wpAny_bind (wpAny_setField hit rfl (by decide : 2 < 5) ?_)
  refine wpAny_stop (A := A.in1) (s := { s with heap := _ }) hh fun h' e hk he => ?_
  exact stop_end he (hQ h' fun b o hb q => hk b o ((Heap.SameBut.update ..).extBut b o hb q))
theorem drawn_item {P : Addr} {oP : Obj} {places : Array Value} {nP place : Nat} {x : Value} (hit : SetIt s.heap I a (.ref P) i es.size ep) (ho : s.heap.get? a = some o) (hd : o.data = .set es ep t) (hf : t.fits es.size = true)
    (hP : s.heap.get? P = some oP) (hPd : oP.data = .seq places nP) (hp : places[i]? = some (.int place 0)) (hx : (es[place]?).map (·.2) = some x)
    (hQ : ∀ h', SetIt h' I a (.ref P) (i + 1) es.size ep → Heap.SameBut I s.heap h' → Q (some x) { s with heap := h' }) : wpAny (model prog w) A (pyNext (.ref I)) Q E s := by
  unfold pyNext
  refine wpAny_bind (wpAny_attempt (wpAny_callSpecial?_slot (name := Str.ofString "__next__") hit.typeIs slot_sit_next (wpAny_call_entry slot_sit_next hit.typeIs entry_sit_next ?_ (args_sit_next _))))
  show wpAny _ _ (fieldsOf (.ref I) >>= _) _ _ s
  refine wpAny_bind (wpAny_fieldsOf hit rfl ?_)
  show wpAny _ _ (setEntries a >>= _) _ _ s
  refine wpAny_bind (wpAny_setEntries_of ho hd hf ?_)
  rw [if_neg (by simp)]
  dsimp only [Int.toNat_natCast]
  refine wpAny_bind (wpAny_seqItems hP hPd ?_)
  dsimp only
  rw [hp]
  dsimp only
  unfold setNextDrawn
  refine wpAny_bind (wpAny_bind (wpAny_setState_of ho hd hf ?_))
  dsimp only
  rw [if_neg (by simp)]
  obtain ⟨e, he, rfl⟩ := Option.map_eq_some_iff.mp hx
  rw [Int.toNat_natCast, he]
  refine wpAny_pure ?_
  refine wpAny_bind (wpAny_setField hit rfl (by decide : 1 < 5) ?_)
  have e2 := SetIt.put (k := 1) (x := rawInt (i + 1)) hit
  exact wpAny_pure ⟨_, rfl, wpAny_pure (hQ _ e2 (Heap.SameBut.update ..))⟩
theorem drawn_stop {P : Addr} {oP : Obj} {places : Array Value} {nP : Nat} (hh : A.handled = none) (hit : SetIt s.heap I a (.ref P) i es.size ep) (ho : s.heap.get? a = some o) (hd : o.data = .set es ep t) (hf : t.fits es.size = true)
    (hP : s.heap.get? P = some oP) (hPd : oP.data = .seq places nP) (hp : places[i]? = none)
    (hQ : ∀ h', (∀ b o, b ≠ I → s.heap.get? b = some o → h'.get? b = some o) → Q none { s with heap := h' }) : wpAny (model prog w) A (pyNext (.ref I)) Q E s := by
  unfold pyNext
  refine wpAny_bind (wpAny_attempt (wpAny_callSpecial?_slot (name := Str.ofString "__next__") hit.typeIs slot_sit_next (wpAny_call_entry slot_sit_next hit.typeIs entry_sit_next ?_ (args_sit_next _))))
  show wpAny _ _ (fieldsOf (.ref I) >>= _) _ _ s
  refine wpAny_bind (wpAny_fieldsOf hit rfl ?_)
  show wpAny _ _ (setEntries a >>= _) _ _ s
  refine wpAny_bind (wpAny_setEntries_of ho hd hf ?_)
  rw [if_neg (by simp)]
  dsimp only [Int.toNat_natCast]
  refine wpAny_bind (wpAny_seqItems hP hPd ?_)
  dsimp only
  rw [hp]
  dsimp only
  refine wpAny_bind (wpAny_setField hit rfl (by decide : 0 < 5) ?_)
  have e1 := SetIt.put (k := 0) (x := rawInt 0) hit
  refine wpAny_bind (wpAny_setField (s := { s with heap := _ }) e1 rfl (by decide : 2 < 5) ?_)
  refine wpAny_stop (A := A.in1) (s := { s with heap := _ }) hh fun h' e hk he => ?_
  exact stop_end he (hQ h' fun b o hb q => hk b o ((Heap.SameBut.update ..).extBut b o hb ((Heap.SameBut.update ..).extBut b o hb q)))
end
end
/-! for x in a set -/
section
variable {prog : Program} {w : World} {A : Around} {E : Value → Shared → Prop} {s : Shared} {a : Addr} {o : Obj} {es : Array (Int × Value)} {ep i : Nat} {t : SetTable}
theorem gives_pick (hb : w.params.followText "set-order" = true) (ho : s.heap.get? a = some o) (hd : o.data = .set es ep t) (hf : t.fits es.size = true) :
    Gives prog w A (setNext a 0 i ep) (((pickOrder (w.params.setOrder a ep) es)[i]?).map fun e => (e.2, 0)) s := fun Q E q => by
  unfold setNext setsByText setWalk setsByText
  refine wpAny_bind (wpAny_setState_of ho hd hf (wpAny_bind (wpAny_bind (wpAny_askSetting (wpAny_pure ?_)))))
  show wpAny _ _ (if w.params.followText "set-order" = true then _ else _) _ _ _
  rw [if_pos hb]
  dsimp only
  rw [if_neg (by simp)]
  refine wpAny_bind (wpAny_bind (wpAny_setState_of ho hd hf (wpAny_bind (wpAny_bind (wpAny_askSetting (wpAny_pure ?_))))))
  show wpAny _ _ (if w.params.followText "set-order" = true then _ else _) _ _ _
  rw [if_pos hb]
  exact wpAny_bind (wpAny_askSetting (wpAny_pure (wpAny_pure q)))
theorem gives_slot {slot : Nat} {r : Option (Value × Nat)} (hb : w.params.followText "set-order" = false) (h1 : es.size ≤ 1) (hl : es.size ≠ 0 → t.led = true) (ho : s.heap.get? a = some o) (hd : o.data = .set es ep t) (hf : t.fits es.size = true)
    (hr : (match es[SetTable.below t.place slot]?, t.place[SetTable.below t.place slot]? with | some (_, x), some j => some (x, j + 1) | _, _ => none) = r) :
    Gives prog w A (setNext a slot i ep) r s := fun Q E q => by
  unfold setNext setsByText
  refine wpAny_bind (wpAny_setState_of ho hd hf (wpAny_bind (wpAny_bind (wpAny_askSetting (wpAny_pure ?_)))))
  show wpAny _ _ (if w.params.followText "set-order" = true then _ else _) _ _ _
  rw [if_neg (by rw [hb]; exact Bool.false_ne_true)]
  show wpAny _ _ (if (!t.plain && decide (es.size > 1)) = true then _ else _) _ _ _
  rw [if_neg (by have : ¬ es.size > 1 := by omega
                 simp [this])]
  show wpAny _ _ ((if (!t.led && !es.isEmpty) = true then _ else _) >>= _) _ _ _
  rw [if_neg (by
    by_cases h0 : es.size = 0
    · have : es = #[] := Array.eq_empty_of_size_eq_zero h0
      subst this; simp
    · rw [hl h0]; simp)]
  refine wpAny_bind (wpAny_pure ?_)
  subst hr
  exact wpAny_pure q
theorem gives_drawn (ho : s.heap.get? a = some o) (hd : o.data = .set es ep t) (hf : t.fits es.size = true) : Gives prog w A (setDrawn a) (!w.params.followText "set-order" && (!t.plain && decide (es.size > 1))) s := fun Q E q => by
  unfold setDrawn setsByText
  exact wpAny_bind (wpAny_setState_of ho hd hf (wpAny_bind (wpAny_bind (wpAny_askSetting (wpAny_pure (wpAny_pure q))))))
theorem iter_slot {Q : Value → Shared → Prop} (hex : o.ExactSet) (ho : s.heap.get? a = some o) (hd : o.data = .set es ep t) (hf : t.fits es.size = true) (hn : (!w.params.followText "set-order" && (!t.plain && decide (es.size > 1))) = false)
    (h : Q (.ref s.heap.objs.size) { s with heap := s.heap.push { cls := .type "set_iterator", data := .fields #[.int (0 : Nat) 0, .int (0 : Nat) 0, .ref a, .int es.size 0, .int ep 0] } }) : wpAny (model prog w) A (pyIter (.ref a)) Q E s := by
  have hT : s.TypeIs (.ref a) "set" := ⟨o, ho, hex.1⟩
  refine wpAny_pyIter_slot hT F.slot_set_iter (wpAny_call_entry F.slot_set_iter hT entry_set_iter ?_ (F.args_set_iter_1 _))
  unfold Builtin.«frozenset.__iter__» Builtin.Frozenset.slot0 Builtin.Frozenset.sizeOf
  show wpAny _ _ ((setEntries a >>= fun x => pure x.size) >>= _) _ _ s
  refine wpAny_bind (wpAny_bind (wpAny_setEntries_of ho hd hf (wpAny_pure ?_)))
  refine wpAny_bind (gives_drawn ho hd hf _ _ ?_)
  rw [hn, if_neg Bool.false_ne_true]
  refine wpAny_bind (wpAny_pure (wpAny_bind (wpAny_setEpoch_of ho hd hf ?_)))
  exact wpAny_bind (wpAny_newObj_type (wpAny_pure ⟨_, rfl, "set_iterator", _, ⟨_, Heap.get?_push_size _ rfl, rfl⟩, slot_sit_next.lookup, h⟩))
theorem iter_drawn {Q : Value → Shared → Prop} (hex : o.ExactSet) (ho : s.heap.get? a = some o) (hd : o.data = .set es ep t) (hf : t.fits es.size = true) (hsz : es.size < scanBound) (hn : (!w.params.followText "set-order" && (!t.plain && decide (es.size > 1))) = true)
    (h : ∀ (ps : List Nat) d, ps.Perm (List.range es.size) → Q (.ref (s.heap.objs.size + 1)) { s with drawn := d, heap := (s.heap.push { cls := .type "tuple", data := .seq (ps.map fun (i : Nat) => Value.int i 0).toArray }).push { cls := .type "set_iterator", data := .fields #[.ref s.heap.objs.size, .int (0 : Nat) 0, .ref a, .int es.size 0, .int ep 0] } }) :
    wpAny (model prog w) A (pyIter (.ref a)) Q E s := by
  have hT : s.TypeIs (.ref a) "set" := ⟨o, ho, hex.1⟩
  refine wpAny_pyIter_slot hT F.slot_set_iter (wpAny_call_entry F.slot_set_iter hT entry_set_iter ?_ (F.args_set_iter_1 _))
  unfold Builtin.«frozenset.__iter__» Builtin.Frozenset.slot0 Builtin.Frozenset.sizeOf
  show wpAny _ _ ((setEntries a >>= fun x => pure x.size) >>= _) _ _ s
  refine wpAny_bind (wpAny_bind (wpAny_setEntries_of ho hd hf (wpAny_pure ?_)))
  refine wpAny_bind (gives_drawn ho hd hf _ _ ?_)
  rw [hn, if_pos rfl]
  refine wpAny_bind (wpAny_drawOrder _ _ _ _ List.length_range fun ps d hp => wpAny_bind ?_)
  have hlen : ps.length = es.size := by rw [hp.length_eq, List.length_range]
  refine wpAny_newObj_type ?_ (by show (List.toArray _).size ≤ _; rw [List.size_toArray, List.length_map, hlen]; exact fits_of_scanBound hsz)
  refine wpAny_bind (wpAny_setEpoch_of (s := { s with drawn := d, heap := _ }) (Heap.get?_push_of_some _ ho) hd hf ?_)
  refine wpAny_bind (wpAny_newObj_type (wpAny_pure ⟨_, rfl, "set_iterator", _, ⟨_, Heap.get?_push_size _ rfl, rfl⟩, slot_sit_next.lookup, ?_⟩))
  have := h ps d hp
  rw [Heap.size_push]
  exact this

theorem arr_one {α : Type} {xs : Array α} (h : xs.size = 1) : ∃ x, xs = #[x] := by
  obtain ⟨l⟩ := xs
  match l, h with
  | [e], _ => exact ⟨e, rfl⟩
theorem texts_of : ∀ {l : List (Int × Value)}, ElemsOf (strKind prog w) l → ∃ ys, Texts (l.map (·.2)) ys ∧ ∀ k, k ∈ ys ↔ ∃ e ∈ l, (strKind prog w).is k e.2 = true
  | [], _ => ⟨[], Texts.nil, fun k => by simp⟩
  | e :: r, h => by
    obtain ⟨ys, ⟨q, hq, rfl⟩, hm⟩ := texts_of h.tail
    obtain ⟨⟨k, hk, _⟩, _⟩ := h.head
    obtain ⟨u, hu⟩ := Value.isStrOf_shape hk
    refine ⟨k :: q.map (·.1), ⟨(k, u) :: q, by rw [List.map_cons, hq, hu]; rfl, rfl⟩, fun k' => ?_⟩
    rw [List.mem_cons, hm]
    constructor
    · rintro (rfl | ⟨e', he', p⟩)
      · exact ⟨e, .head _, hk⟩
      · exact ⟨e', .tail _ he', p⟩
    · rintro ⟨e', he', p⟩
      rcases List.mem_cons.mp he' with rfl | he'
      · exact .inl ((strKind prog w).inj _ _ _ p hk)
      · exact .inr ⟨e', he', p⟩
theorem turns_slot {x : Str} {px : Pos} {I : Addr} {vs : List Value} (hh : A.handled = none) (hne : a ≠ I) (hd : o.data = .set es ep t) (hf : t.fits es.size = true) (slotAt : Nat → Nat)
    (hg : ∀ (s : Shared) i, i ≤ vs.length → s.heap.get? a = some o → Gives prog w A.in1 (setNext a (slotAt i) i ep) (vs[i]?.map fun x => (x, slotAt (i + 1))) s) :
    KTurns prog w A (.Name x px) I [I, a] [I] vs.length (fun i v _ => vs[i]? = some v) (fun i v h => vs[i]? = some v ∧ SetIt h I a (.int (slotAt (i + 1)) 0) (i + 1) es.size ep ∧ h.get? a = some o)
      (fun i h => SetIt h I a (.int (slotAt i) 0) i es.size ep ∧ h.get? a = some o) where
  sub := fun b hb => by simp at hb; simp [hb]
  frame := fun _ _ _ st hk => ⟨hk I (by simp) _ st.1, hk a (by simp) _ st.2⟩
  item := fun i s Q E hi st hQ => by
    have e : vs[i]? = some vs[i] := List.getElem?_eq_getElem hi
    refine slot_item (next := slotAt (i + 1)) (x := vs[i]) st.1 st.2 hd hf (by have := hg s i (Nat.le_of_lt hi) st.2; rw [e] at this; exact this) fun h' hit' hs' => ?_
    exact hQ _ h' s.toks ⟨e, hit', hs'.extBut a o hne st.2⟩ fun b o hb e => hs'.extBut b o (fun h => hb (by simp [h])) e
  go := fun i v s Q E hm hQ => wpAny_pure (hQ s.heap hm.1 hm.2 fun _ _ _ e => e)
  done := fun s Q E st hQ => slot_stop hh st.1 st.2 hd hf (by have := hg s vs.length (Nat.le_refl _) st.2; rw [List.getElem?_eq_none (Nat.le_refl _)] at this; exact this) fun h' hk => hQ h' s.toks fun b o hb e => hk b o (fun h => hb (by simp [h])) e
theorem turns_drawn {x : Str} {px : Pos} {I P : Addr} {oP : Obj} {ps : List Nat} {nP : Nat} {vs : List Value} (hh : A.handled = none) (hne : a ≠ I) (hPI : P ≠ I) (hd : o.data = .set es ep t) (hf : t.fits es.size = true) (hPd : oP.data = .seq (ps.map fun (i : Nat) => Value.int i 0).toArray nP)
    (hlen : ps.length = vs.length) (hg : ∀ i (h : i < ps.length), (es[ps[i]]?).map (·.2) = vs[i]?) :
    KTurns prog w A (.Name x px) I [I, a, P] [I] vs.length (fun i v _ => vs[i]? = some v) (fun i v h => vs[i]? = some v ∧ SetIt h I a (.ref P) (i + 1) es.size ep ∧ h.get? a = some o ∧ h.get? P = some oP)
      (fun i h => SetIt h I a (.ref P) i es.size ep ∧ h.get? a = some o ∧ h.get? P = some oP) where
  sub := fun b hb => by simp at hb; simp [hb]
  frame := fun _ _ _ st hk => ⟨hk I (by simp) _ st.1, hk a (by simp) _ st.2.1, hk P (by simp) _ st.2.2⟩
  item := fun i s Q E hi st hQ => by
    have e : vs[i]? = some vs[i] := List.getElem?_eq_getElem hi
    have hi' : i < ps.length := by omega
    refine drawn_item (place := ps[i]) (x := vs[i]) st.1 st.2.1 hd hf st.2.2 hPd (by simp [hi']) (by rw [hg i hi', e]) fun h' hit' hs' => ?_
    exact hQ _ h' s.toks ⟨e, hit', hs'.extBut a o hne st.2.1, hs'.extBut P oP hPI st.2.2⟩ fun b o hb e => hs'.extBut b o (fun h => hb (by simp [h])) e
  go := fun i v s Q E hm hQ => wpAny_pure (hQ s.heap hm.1 hm.2 fun _ _ _ e => e)
  done := fun s Q E st hQ => drawn_stop hh st.1 st.2.1 hd hf st.2.2 hPd (by simp [hlen]) fun h' hk => hQ h' s.toks fun b o hb e => hk b o (fun h => hb (by simp [h])) e
end
section
variable {prog : Program} {w : World} {A : Around} {E : Value → Shared → Prop} {s : Shared} {Z : Shared} {B : Fx} {env : Env} {Q : Flow → Shared → Prop}
theorem forS {X : Type} {x : Str} {px : Pos} {body orelse : List Stmt} {a : Addr} {o : Obj} {xs : List Str} {RE : Value → Shared → Prop} (own : X → Own) (R : Own) (x₀ : X) (hh : A.handled = none) (S : At w Z B (own x₀ ++ R) s) (hB : B a o) (p : IsSet prog w xs o)
    (hsz : xs.length < scanBound) (Inv : Fx → List Str → X → Prop) (has : ∀ x, (own x).map (·.1) = (own x₀).map (·.1)) (mono : ∀ B₁ B₂ i x, (∀ b o, B₁ b o → B₂ b o) → Inv B₁ i x → Inv B₂ i x) (h0 : Inv B [] x₀)
    (turn : ∀ R' B₁ pre y ty z s₁ Qb, R.Sublist R' → y ∈ xs → (∀ b o, B b o → B₁ b o) → Inv B₁ pre z → At w Z B₁ (own z ++ R') s₁ →
      (∀ f B₂ z' s₂, f = .next ∨ f = .cont → (∀ b o, B₁ b o → B₂ b o) → Inv B₂ (pre ++ [y]) z' → At w Z B₂ (own z' ++ R') s₂ → Qb f s₂) → (∀ s₂, Q .next s₂ → Qb .brk s₂) → (∀ v s₂, Q (.ret v) s₂ → Qb (.ret v) s₂) →
      wpAny (model prog w) A (assign (.Name x px) env (.str y ty)) (fun _ s₃ => wpAny (model prog w) A (execs body env) Qb (fun _ _ => False) s₃) (fun _ _ => False) s₁)
    (fin : ∀ B₁ pre z s₁, (∀ b o, B b o → B₁ b o) → (∀ k, k ∈ xs → k ∈ pre) → Inv B₁ pre z → At w Z B₁ (own z ++ R) s₁ → wpAny (model prog w) A (execs orelse env) Q (fun _ _ => False) s₁) :
    wpAny (model prog w) A (pyIter (.ref a)) (fun it s₂ => codeAny (model prog w) A (.forLoop (.Name x px) it body orelse env) (fun r s' => match r with | .ok f => Q f s' | .error e => RE e s') s₂) E s := by
  obtain ⟨hex, es, ep, t, hd, D, hled⟩ := id p
  have ho := S.keep _ _ hB
  have hao : a ∉ (own x₀ ++ R).map (·.1) := S.notOwnB hB
  have hlt := Heap.lt_size ho
  have hss : es.size < scanBound := Nat.lt_of_le_of_lt D.size hsz
  -- the loop, once the texts are in a row
  have loop : ∀ {I : Addr} {fp : List Addr} {vs : List Value} {ys : List Str} {Md : Nat → Value → Heap → Prop} {Stt : Nat → Heap → Prop} (s₂ : Shared), Texts vs ys → (∀ k, k ∈ ys ↔ k ∈ xs) → KTurns prog w A (.Name x px) I fp [I] vs.length (fun i v _ => vs[i]? = some v) Md Stt →
      At w Z B (own x₀ ++ R) s₂ → Stt 0 s₂.heap → (∀ i h, Stt i h → ∃ o, h.get? I = some o) → (∀ o, ¬ B I o) → (∀ b ∈ fp, b ∉ (own x₀ ++ R).map (·.1)) →
      codeAny (model prog w) A (.forLoop (.Name x px) (.ref I) body orelse env) (fun r s' => match r with | .ok f => Q f s' | .error e => RE e s') s₂ := by
    intro I fp vs ys Md Stt s₂ ht hy W S₂ st hlive hBI hfp
    refine for_turns W own R x₀ has (fun B i z => Inv B (ys.take i) z) (fun B₁ B₂ i z h q => mono _ _ _ _ h q) (fun i h st b hb => by cases List.mem_singleton.mp hb; exact hlive i h st) (by simp) S₂ st (fun b hb o => by cases List.mem_singleton.mp hb; exact hBI o) hfp h0 ?_ ?_
    · intro R' B₁ i v z s₁ hR hi hv hb hinv S₁
      obtain ⟨y, ty, hyi, rfl⟩ := ht.val hv
      have htk : ys.take (i + 1) = ys.take i ++ [y] := by rw [List.take_add_one, hyi]; rfl
      exact turn R' B₁ _ y ty z s₁ _ hR ((hy y).mp (List.mem_of_getElem? hyi)) hb hinv S₁ (fun f B₂ z' s₂ hf hs hi S => by rw [← htk] at hi; rcases hf with rfl | rfl <;> exact ⟨B₂, z', hs, hi, S⟩) (fun _ q => q) fun _ _ q => q
    · intro B₁ z s₁ hb hinv S₁
      rw [ht.length, List.take_length] at hinv
      exact fin B₁ ys z s₁ hb (fun k hk => (hy k).mpr hk) hinv S₁
  obtain ⟨ys, ht, hy⟩ := texts_of D.el
  have hy' : ∀ k, k ∈ ys ↔ k ∈ xs := fun k => (hy k).trans (D.mem k).symm
  by_cases hn : (!w.params.followText "set-order" && (!t.plain && decide (es.size > 1))) = true
  · refine iter_drawn hex ho hd D.fits hss hn fun ps d hp => ?_
    have hpl : ps.length = es.size := by rw [hp.length_eq, List.length_range]
    have hin : ∀ i (h : i < ps.length), ps[i] < es.size := fun i h => List.mem_range.mp (hp.mem_iff.mp (List.getElem_mem h))
    -- the elements in the order of the places
    have hrange : (List.range es.size).map (fun j => es.getD j (0, .none)) = es.toList := by
      refine List.ext_getElem (by simp) fun i h1 h2 => ?_
      have h3 : i < es.size := by simpa using h1
      simp [Array.getD, h3]
    have hperm : (ps.map fun j => es.getD j (0, .none)).Perm es.toList := by rw [← hrange]; exact hp.map _
    obtain ⟨zs, htz, hz⟩ := texts_of (D.el.perm hperm)
    have hz' : ∀ k, k ∈ zs ↔ k ∈ xs := fun k => (hz k).trans (Iff.trans ⟨fun ⟨e, he, q⟩ => ⟨e, hperm.mem_iff.mp he, q⟩, fun ⟨e, he, q⟩ => ⟨e, hperm.mem_iff.mpr he, q⟩⟩ (D.mem k).symm)
    have hne : ∀ b, b < s.heap.objs.size → b ≠ s.heap.objs.size + 1 := fun b hb => by omega
    refine loop _ htz hz' (turns_drawn hh (hne _ hlt) (by omega : s.heap.objs.size ≠ s.heap.objs.size + 1) hd D.fits (oP := { cls := .type "tuple", data := .seq (ps.map fun (i : Nat) => Value.int i 0).toArray }) rfl (by simp) (fun i h => ?_)) ?_ ⟨?_, ?_, ?_⟩ (fun i h st => ⟨_, st.1⟩) (fun o' e => absurd (Heap.lt_size (S.keep _ _ e)) (Nat.not_lt.mpr (Nat.le_succ _))) fun b hb m => ?_
    · have h3 := hin i h
      simp [Array.getD, h, h3]
    · exact (S.push _).push _
    · have := Heap.get?_push_size (s.heap.push { cls := .type "tuple", data := .seq (ps.map fun (i : Nat) => Value.int i 0).toArray }) (o := { cls := .type "set_iterator", data := .fields #[.ref s.heap.objs.size, .int (0 : Nat) 0, .ref a, .int es.size 0, .int ep 0] }) rfl
      rw [Heap.size_push] at this; exact this
    · exact Heap.get?_push_of_some _ (Heap.get?_push_of_some _ ho)
    · exact Heap.get?_push_of_some _ (Heap.get?_push_size _ rfl)
    · simp only [List.mem_cons, List.not_mem_nil, or_false] at hb
      rcases hb with rfl | rfl | rfl
      · exact S.notOwn (none_of_le (Nat.le_succ _)) m
      · exact hao m
      · exact S.notOwn (none_of_le (Nat.le_refl _)) m
  · rw [Bool.not_eq_true] at hn
    refine iter_slot hex ho hd D.fits hn ?_
    have S' := S.push { cls := .type "set_iterator", data := .fields #[.int (0 : Nat) 0, .int (0 : Nat) 0, .ref a, .int es.size 0, .int ep 0] }
    have hit : SetIt (s.heap.push { cls := .type "set_iterator", data := .fields #[.int (0 : Nat) 0, .int (0 : Nat) 0, .ref a, .int es.size 0, .int ep 0] }) s.heap.objs.size a (.int (0 : Nat) 0) 0 es.size ep := Heap.get?_push_size _ rfl
    have hapart : ∀ b ∈ [s.heap.objs.size, a], b ∉ (own x₀ ++ R).map (·.1) := fun b hb m => by
      simp only [List.mem_cons, List.not_mem_nil, or_false] at hb
      rcases hb with rfl | rfl
      · exact S.notOwn (none_of_le (Nat.le_refl _)) m
      · exact hao m
    have hfresh : ∀ o, ¬ B s.heap.objs.size o := fun o' e => absurd (Heap.lt_size (S.keep _ _ e)) (Nat.lt_irrefl _)
    by_cases hb : w.params.followText "set-order" = true
    · have hperm := pick_perm (w.params.setOrder a ep) es
      obtain ⟨zs, htz, hz⟩ := texts_of (D.el.perm hperm)
      have hz' : ∀ k, k ∈ zs ↔ k ∈ xs := fun k => (hz k).trans (Iff.trans ⟨fun ⟨e, he, q⟩ => ⟨e, hperm.mem_iff.mp he, q⟩, fun ⟨e, he, q⟩ => ⟨e, hperm.mem_iff.mpr he, q⟩⟩ (D.mem k).symm)
      refine loop _ htz hz' (turns_slot hh (Nat.ne_of_lt hlt) hd D.fits (fun _ => 0) fun s₁ i hi e => ?_) S' ⟨hit, Heap.get?_push_of_some _ ho⟩ (fun i h st => ⟨_, st.1⟩) hfresh hapart
      have := gives_pick (prog := prog) (A := A.in1) (i := i) hb e hd D.fits
      rw [List.getElem?_map, Array.getElem?_toList, Option.map_map]
      exact this
    · rw [Bool.not_eq_true] at hb
      have h1 : es.size ≤ 1 := by
        rw [hb] at hn
        by_cases hp : t.plain = true
        · rw [D.plain hp]; omega
        · rw [Bool.not_eq_true] at hp; rw [hp] at hn; simpa using hn
      have hl : es.size ≠ 0 → t.led = true := fun h => by rw [hled h, hb]; rfl
      by_cases h0 : es.size = 0
      · have he : es = #[] := Array.eq_empty_of_size_eq_zero h0
        subst he
        refine loop _ ht hy' (turns_slot hh (Nat.ne_of_lt hlt) hd D.fits (fun _ => 0) fun s₁ i hi e => ?_) S' ⟨hit, Heap.get?_push_of_some _ ho⟩ (fun i h st => ⟨_, st.1⟩) hfresh hapart
        exact gives_slot hb h1 hl e hd D.fits (by simp)
      · have h2 : es.size = 1 := by omega
        have h3 : t.place.size = 1 := by have := D.fits; simp only [SetTable.fits, Bool.and_eq_true, beq_iff_eq] at this; rw [this.1, h2]
        obtain ⟨e, he⟩ : ∃ e, es = #[e] := arr_one h2
        obtain ⟨j, hj⟩ : ∃ j, t.place = #[j] := arr_one h3
        subst he
        refine loop _ ht hy' (turns_slot hh (Nat.ne_of_lt hlt) hd D.fits (fun i => if i = 0 then 0 else j + 1) fun s₁ i hi e' => ?_) S' ⟨hit, Heap.get?_push_of_some _ ho⟩ (fun i h st => ⟨_, st.1⟩) hfresh hapart
        refine gives_slot hb h1 hl e' hd D.fits ?_
        rw [hj]
        have hi' : i ≤ 1 := by simpa using hi
        rcases Nat.le_one_iff_eq_zero_or_eq_one.mp hi' with rfl | rfl
        · simp [SetTable.below, SetTable.below.go]
        · simp [SetTable.below, SetTable.below.go]
end
/-! instances of _Ignore -/
def entsOf (P : Params) (q : List (Str × Tok × Value)) : List DictEntry := q.map fun e => ⟨PyData.keyHash P e.1, .str e.1 e.2.1, e.2.2⟩
def IsAtt (P : Params) (l : List (Str × Value)) (o : Obj) : Prop := ∃ (q : List (Str × Tok × Value)) (n : Nat), q.map (fun e => (e.1, e.2.2)) = l ∧ o = dictOf (entsOf P q) n
def IsI (dx : Addr) (o : Obj) : Prop := o = instObj 140 dx
theorem isStr_str (x y : Str) (t : Tok) : (Value.str y t).isStr x = (y == x) := rfl
theorem find_mem {P : Params} {name : Str} {v : Value} : ∀ {q : List (Str × Tok × Value)}, ((q.map fun e => (e.1, e.2.2)).map (·.1)).Nodup → (name, v) ∈ q.map (fun e => (e.1, e.2.2)) → ∃ e, (entsOf P q).find? (·.key.isStr name) = some e ∧ e.val = v
  | [], _, h => nomatch h
  | e :: r, hn, h => by
    rw [List.map_cons, List.map_cons, List.nodup_cons] at hn
    unfold entsOf
    rw [List.map_cons, List.find?_cons]
    dsimp only
    rw [isStr_str]
    rw [List.map_cons] at h
    rcases List.mem_cons.mp h with e' | h
    · cases e'; rw [beq_self_eq_true]; exact ⟨_, rfl, rfl⟩
    · have : e.1 ≠ name := fun q => hn.1 (q ▸ List.mem_map_of_mem (f := (·.1)) h)
      rw [beq_eq_false_iff_ne.mpr this]
      exact find_mem (P := P) hn.2 h
theorem getL_mem {P : Params} {name : Str} {v : Value} {q : List (Str × Tok × Value)} (hn : ((q.map fun e => (e.1, e.2.2)).map (·.1)).Nodup) (h : (name, v) ∈ q.map (fun e => (e.1, e.2.2))) : getL name (entsOf P q) = some (some v) := by
  obtain ⟨e, he, rfl⟩ := find_mem (P := P) hn h
  unfold getL
  rw [he]
theorem ents_no {P : Params} {name : Str} {q : List (Str × Tok × Value)} (h : name ∉ (q.map fun e => (e.1, e.2.2)).map (·.1)) : ∀ e ∈ entsOf P q, e.key.isStr name = false := fun e he => by
  obtain ⟨p, hp, rfl⟩ := List.mem_map.mp he
  rw [isStr_str]
  refine beq_eq_false_iff_ne.mpr fun e => h ?_
  rw [← e, List.map_map]
  exact List.mem_map_of_mem (f := (·.1)) hp
theorem ents_ref {P : Params} {q : List (Str × Tok × Value)} : (entsOf P q).any (·.refKey) = false := by
  rw [List.any_eq_false]
  intro e he
  obtain ⟨p, hp, rfl⟩ := List.mem_map.mp he
  simp [DictEntry.refKey]
theorem getL_none {P : Params} {name : Str} {q : List (Str × Tok × Value)} (h : name ∉ (q.map fun e => (e.1, e.2.2)).map (·.1)) : getL name (entsOf P q) = some none := by
  unfold getL
  rw [List.find?_eq_none.mpr fun e he => by rw [ents_no h e he]; exact Bool.false_ne_true, ents_ref]
  rfl
theorem cl_set (P : Params) : findIn (KH P) (.ref 140) "__setattr__" = some (some (.builtin "object.__setattr__")) := by kernel_rfl
theorem cl_over (P : Params) : plainOver (KH P) 140 = true := by kernel_rfl
theorem cl_get (P : Params) : findIn (KH P) (.ref 140) "__getattribute__" = some (some (.builtin "object.__getattribute__")) := by kernel_rfl
theorem cl_hook (P : Params) : findIn (KH P) (.ref 140) "__getattr__" = some none := by kernel_rfl
theorem cl_dict (P : Params) : hasDictIn (KH P) 140 = true := by kernel_rfl
theorem cl_names (P : Params) : findIn (KH P) (.ref 140) "names" = some (some (.ref 137)) := by kernel_rfl
theorem cl_fn137 (P : Params) : typeIn (KH P) (.ref 137) = some (.type "function") := by kernel_rfl
theorem cl_init (P : Params) : findIn (KH P) (.ref 140) "__init__" = some (some (.ref 130)) := by kernel_rfl
theorem cl_fn130 (P : Params) : typeIn (KH P) (.ref 130) = some (.type "function") := by kernel_rfl
theorem cl_makes (P : Params) : makesIn (KH P) 140 = true := by kernel_rfl
theorem cl_mods (P : Params) : findIn (KH P) (.ref 140) "_mods" = some none := by kernel_rfl
theorem cl_dirs (P : Params) : findIn (KH P) (.ref 140) "_dirs" = some none := by kernel_rfl
theorem cl_ignore (P : Params) : findIn (KH P) (.ref 140) "_ignore" = some none := by kernel_rfl
section
variable {prog : Program} {w : World} {A : Around} {E : Value → Shared → Prop} {s : Shared} {Z : Shared} {B : Fx} {own own' : Own} {env : Env}
/-- an attribute of an own instance set for the first time -/
theorem setA {x dx : Addr} {name : Str} {v : Value} {l : List (Str × Value)} {Q : Unit → Shared → Prop} (S : At w Z B own s) (mx : (x, IsI dx) ∈ own) (u : Upd dx (IsAtt w.params l) (IsAtt w.params (l ++ [(name, v)])) own own') (hn : name ∉ l.map (·.1)) (hl : l.length ≤ 100)
    (hf : findIn (KH w.params) (.ref 140) name = some none) (h : ∀ s', At w Z B own' s' → Q () s') : wpAny (model prog w) A (setAttr (.ref x) name v) Q E s := by
  obtain ⟨ox, ex, rfl⟩ := S.get mx
  obtain ⟨od, ed, q, n, rfl, rfl⟩ := S.get u.mem
  have I : InstAt s.heap x (instObj 140 dx) 140 (some (dictOf (entsOf w.params q) n)) := ⟨ex, rfl, rfl, ed⟩
  have ht : takerIn (KH w.params) 140 name = some none := by unfold takerIn; rw [hf]; rfl
  refine set_plain S.gr.k I (cl_set _) (osa_open (s := { s with toks := s.toks + 1 }) S.gr.k I (cl_over _) ht fun b => ?_)
  obtain ⟨cd, hc, hd'⟩ := any_some (cl_dict w.params)
  refine wpAny_bind (wpAny_pure (wpAny_bind (wpAny_bind (wpAny_loadPart ex (wpAny_bind ((looks_clsIn S.gr.k hc).at ?_))))))
  rw [hd']
  refine wpAny_pure (a := some dx) (wpAny_bind (wpAny_pure (wpAny_bind ?_)))
  unfold nsSet
  refine wpAny_bind (wpAny_bind (wpAny_askSetting (wpAny_pure (wpAny_bind (wpAny_mkText (wpAny_bind (wpAny_loadPart ed ?_)))))))
  dsimp only
  have c : (!(entsOf w.params q).toArray.any (·.key.isStr name) && (entsOf w.params q).toArray.any (·.refKey)) = false := by
    rw [List.any_toArray, List.any_toArray, ents_ref, Bool.and_false]
  rw [aRefKeyMayBeTheName_at, c]
  refine wpAny_updatePart ed ?_
  have e1 : Obj.putName name (PyData.keyHash w.params name) (.str name (s.toks + 1)) v (dictOf (entsOf w.params q) n) = dictOf (entsOf w.params (q ++ [(name, s.toks + 1, v)])) (putN name (entsOf w.params q) n) := by
    rw [putName_dict, putL_new (ents_no hn)]
    unfold entsOf
    rw [List.map_append]; rfl
  have g1 := Heap.get?_update_self (Obj.putName name (PyData.keyHash w.params name) (.str name (s.toks + 1)) v) ed (by rw [e1]; rfl)
  rw [e1] at g1
  refine wpAny_bind (wpAny_lookBehind g1 (pastItsLine_dict (by rw [List.size_toArray]; unfold entsOf; rw [List.length_map] at hl ⊢; rw [List.length_append, sizeLine_eq]; simp; omega)) ?_)
  exact wpAny_pure (h { s with heap := _, toks := _ } (S.upd u (fun b o hb e => (Heap.SameBut.update ..).extBut b o hb e) g1 ⟨_, _, by rw [List.map_append]; rfl, rfl⟩))
theorem getA {x dx : Addr} {name : Str} {v : Value} {l : List (Str × Value)} {expr : Bool} {od : Obj} {Q : Value → Shared → Prop} (g : Gr w s.heap) (ex : s.heap.get? x = some (instObj 140 dx)) (ed : s.heap.get? dx = some od) (p : IsAtt w.params l od) (hn : (l.map (·.1)).Nodup) (hm : (name, v) ∈ l)
    (hf : findIn (KH w.params) (.ref 140) name = some none) (hh : handedIn v = true) (h : Q v { s with toks := s.toks + 1 }) : wpAny (model prog w) A (getAttr (.ref x) name expr) Q E s := by
  obtain ⟨q, n, rfl, rfl⟩ := p
  have I : InstAt s.heap x (instObj 140 dx) 140 (some (dictOf (entsOf w.params q) n)) := ⟨ex, rfl, rfl, ed⟩
  exact get_value g.k I (cl_get _) (findObj_own (cl_dict _) hf rfl (getL_mem hn hm)) hh h
theorem methA {x dx : Addr} {l : List (Str × Value)} {od : Obj} {pl : Sem Bool} {Q : Value × List Value → Shared → Prop} (g : Gr w s.heap) (ex : s.heap.get? x = some (instObj 140 dx)) (ed : s.heap.get? dx = some od) (p : IsAtt w.params l od) (hn : Str.ofString "names" ∉ l.map (·.1))
    (h : Q (.ref 137, [.ref x]) s) : wpAny (model prog w) A (getMethod (.ref x) (Str.ofString "names") pl) Q E s := by
  obtain ⟨q, n, rfl, rfl⟩ := p
  have I : InstAt s.heap x (instObj 140 dx) 140 (some (dictOf (entsOf w.params q) n)) := ⟨ex, rfl, rfl, ed⟩
  exact method_fn g.k I (cl_get _) (cl_hook _) (cl_names _) (cl_fn137 _) (by show (lookIn _ _).map _ = _; rw [lookIn_dict, getL_none hn]; rfl) h
theorem attr_ {M : Model} {o : Expr} {name : Str} {pos : Pos} {Q : Value → Shared → Prop} (hb : attributeBase o name env (eval o env) = eval o env) (hl : ∀ ov r, letTemporaryGo o ov r = pure ())
    (h : wpAny M A (eval o env) (fun ov s₁ => wpAny M A (getAttr ov name true) Q E s₁) E s) : wpAny M A (eval (.Attribute o name pos) env) Q E s := by
  rw [arm_eval_Attribute, hb]
  refine wpAny_bind (wpAny_mono h (fun ov s₁ h₁ => wpAny_bind (wpAny_standAt (wpAny_bind (wpAny_holding (wpAny_mono h₁ (fun r s₂ h₂ => ?_) fun _ _ x => x))))) fun _ _ x => x)
  rw [hl]
  exact wpAny_bind (wpAny_pure (wpAny_pure h₂))
end
/-! _Ignore.__init__ -/
def IsIg (prog : Program) (w : World) (kvs : List (Str × Value)) (o : Obj) : Prop := o.IsDictOf (strKind prog w) kvs
theorem kp_140 (P : Params) : keepIn (KH P) (.ref 140) = true := by kernel_rfl
theorem kp_137 (P : Params) : keepIn (KH P) (.ref 137) = true := by kernel_rfl
section
variable {prog : Program} {w : World} {A : Around} {E : Value → Shared → Prop} {s : Shared} {Q : Value → Shared → Prop} {Z : Shared} {B : Fx} {own own' : Own} {env : Env} {R : Result → Shared → Prop}
theorem callK {pos : Pos} {f : Value} {first : List Value} {e : Expr} {rest : List Expr} (hk : keepIn (KH w.params) f = true) (g : Gr w s.heap)
    (h : wpAny (model prog w) A (spliced (backTo pos (starEach (e :: rest) env))) (fun vs s₁ => Gr w s₁.heap ∧ wpAny (model prog w) A (call f (first ++ vs)) Q E s₁) E s)
    (he : starEach (e :: rest) env = (false, eval e env) :: starEach rest env) (hplain : (backTo pos (starEach rest env)).any (·.1) = false) :
    wpAny (model prog w) A (callWith pos f first (backTo pos (starEach (e :: rest) env)) []) Q E s :=
  callWith_K g.k hk (wpAny_mono h (fun _ _ q => ⟨q.1.k, q.2⟩) fun _ _ x => x) he hplain
theorem dictOne {k : Str} {n : Int} {n1 n2 : Nat} {p1 p2 pos : Pos} (S : At w Z B own s) (h : ∀ a t s', At w Z B ((a, IsIg prog w [(k, .int n t)]) :: own) s' → (a == sysModules) = false → Q (.ref a) s') :
    wpAny (model prog w) A (eval (.Dict [some (.Constant (.str k) n1 p1)] [.Constant (.int n) n2 p2] pos) env) Q E s := by
  refine wpAny_Dict_pairs (knd := strKind prog w) (pairs := [(eval (.Constant (.str k) n1 p1) env, do let x ← eval (.Constant (.int n) n2 p2) env; standAt pos; pure x)]) rfl (by simp) (by simp) ?_
  unfold evalPairs
  refine wpAny_bind (kStr (fun t k₁ => ?_))
  refine wpAny_bind (wpAny_holding (wpAny_bind (kInt (fun u k₂ => wpAny_bind (wpAny_standAt (wpAny_pure ?_))))))
  refine wpAny_bind (wpAny_holding ?_)
  unfold evalPairs
  refine wpAny_pure (wpAny_pure ⟨[(k, .int n u)], ⟨strKind_is prog w k t, rfl, trivial⟩, Heap.DictOf.new _, fun h' hD hsb => ?_⟩)
  have e1 : merged [] [(k, Value.int n u)] = [(k, .int n u)] := by simp [merged, stored]
  rw [e1] at hD
  obtain ⟨o, e, p⟩ := Heap.dictOf_iff.mp hD
  have old : ∀ b o, s.heap.get? b = some o → h'.get? b = some o := fun b o e => hsb.extBut b o (Nat.ne_of_lt (Heap.lt_size e)) (Heap.get?_push_of_some _ e)
  exact h _ u { s with heap := h', toks := _ } (S.add (none_of_le (Nat.le_refl _)) old e p) (notSys S.gr (Nat.le_refl _))
/-- a def without cells is called, as a code -/
theorem enterCodeF {f : Addr} {fd : FuncData} {body : List Stmt} {args : List Value} (ps rest : List Str) (binds : List (Str × Value)) {k : Nat} {oc : Value} {od : Option Addr} {osl : Array (Option Value)} (S : At w Z B own s)
    (r : Rm A (k + 1)) (hK : (KH w.params).lookup f = some ⟨oc, od, .func fd, osl⟩) (hcd : codeIn (KH w.params) fd.code fd.qualname = true) (hbody : fd.body = .stmts body)
    (hbind : BindsTo s fd ⟨args, []⟩ binds) (hps : binds.map (·.1) = ps) (hok : enterOk fd.scope ps rest = true) (hgl : fd.globals = mainGlobals) (hbi : fd.builtins = builtinsNs)
    (h : ∀ A' env L s₁, EnvIs env L fd.scope.names [] → At w Z B ((L, HasV (varsOf binds rest)) :: own) s₁ → Rm A' k → A'.frames = A.frames.map (env :: ·) → env.frame = some L → wpAny (model prog w) A' (execs body env) (fun fl s' => R (.ok (.ret (retOf fl))) s') (fun _ _ => False) s₁) :
    codeAny (model prog w) A (.call (.ref f) ⟨args, []⟩) R s := by
  subst hps
  simp only [enterOk, Bool.and_eq_true, decide_eq_true_eq] at hok
  obtain ⟨⟨⟨hsc, hcell⟩, hloc⟩, hnd⟩ := hok
  have hk := scope_kind hsc
  have hnm : namesOk fd.scope.names = true := by simp only [scopeOk, Bool.and_eq_true] at hsc; exact hsc.1.1.1
  refine codeAny_call_def (fd := fd) (body := body) (binds := binds) (by have := r.d; omega) (S.gr.k _ _ hK) rfl S.gr.nolim (codeRec_of S.gr.k hcd) hbody hbind
    (fun x hx => by simpa using List.all_eq_true.mp hcell x hx) (fun x hx => by simpa using List.all_eq_true.mp hloc x.1 (List.mem_map_of_mem hx)) (fun h₁ hns hk₁ => ?_)
    (by simp only [scopeOk, Bool.and_eq_true, Bool.not_eq_true'] at hsc; exact hsc.1.1.2) (by simp only [scopeOk, Bool.and_eq_true, Bool.not_eq_true'] at hsc; exact hsc.1.2) hk
  refine wpAny_mono (h _ _ s.heap.objs.size _ ⟨hk, rfl, hgl, hbi, (names_kof hnm).1, (names_kof hnm).2, fun x c m => nomatch m⟩ ?_ (r.deeper _) rfl rfl) (fun fl s' q => ?_) fun _ _ x => x.elim
  · obtain ⟨o, es, ep, e, hd, hks, hv⟩ := hns
    refine Lg.add (o := o) S (none_of_le (Nat.le_refl _)) hk₁ e ⟨by rw [varsOf_keys]; exact hnd, es, ep, hd, hks, fun x v m => (hv x).trans ?_⟩
    have hb : (binds.map (·.1)).Nodup := (List.nodup_append.mp hnd).1
    exact lookup_nodup (by rw [List.map_reverse]; exact (List.reverse_perm _).nodup_iff.mpr hb) (List.mem_reverse.mpr (varsOf_mem m))
  · cases fl <;> exact q
/-- a def without cells is called, as a code -/
theorem enterCode {f : Addr} {fd : FuncData} {body : List Stmt} {args : List Value} (ps rest : List Str) (binds : List (Str × Value)) {k : Nat} {oc : Value} {od : Option Addr} {osl : Array (Option Value)} (S : At w Z B own s)
    (r : Rm A (k + 1)) (hK : (KH w.params).lookup f = some ⟨oc, od, .func fd, osl⟩) (hcd : codeIn (KH w.params) fd.code fd.qualname = true) (hbody : fd.body = .stmts body)
    (hbind : BindsTo s fd ⟨args, []⟩ binds) (hps : binds.map (·.1) = ps) (hok : enterOk fd.scope ps rest = true) (hgl : fd.globals = mainGlobals) (hbi : fd.builtins = builtinsNs)
    (h : ∀ A' env L s₁, EnvIs env L fd.scope.names [] → At w Z B ((L, HasV (varsOf binds rest)) :: own) s₁ → Rm A' k → wpAny (model prog w) A' (execs body env) (fun fl s' => R (.ok (.ret (retOf fl))) s') (fun _ _ => False) s₁) :
    codeAny (model prog w) A (.call (.ref f) ⟨args, []⟩) R s :=
  enterCodeF ps rest binds S r hK hcd hbody hbind hps hok hgl hbi fun A' env L s₁ he S₁ r' _ _ => h A' env L s₁ he S₁ r'
theorem asgA {o : Expr} {attr : Str} {pos' pos : Pos} {value : Expr} {Q : Flow → Shared → Prop} (hs : swapsWith value (some (.Attribute o attr pos')) pos.line env = pure false)
    (h : wpAny (model prog w) A (eval value env) (fun v s₁ => wpAny (model prog w) A (eval o env) (fun ov s₂ => wpAny (model prog w) A (setAttr ov attr v) (fun _ => Q .next) E s₂) E s₁) E s) :
    wpAny (model prog w) A (exec (.Assign [.Attribute o attr pos'] value pos) env) Q E s := plainObj_wpAny_Assign_Attribute h hs
theorem truL {a : Addr} {vs : List Value} {Q : Bool → Shared → Prop} {h : Heap} {gs : Array GenState} {d : Drawn} {k : Nat} {os : OsState} (hl : h.IsList a vs.toArray) (hz : vs.length ≤ 1000) (hq : ∀ k, Q (decide (vs ≠ [])) ⟨h, gs, d, k, os⟩) : wpAny (model prog w) A (truthy (.ref a)) Q E ⟨h, gs, d, k, os⟩ := by
  refine wpAny_truthy_list hl (by rw [List.size_toArray]; omega) ?_
  have : (!vs.toArray.isEmpty) = decide (vs ≠ []) := by cases vs <;> simp
  rw [this]; exact hq _
end
def GoodDir (d : Str) : Prop := ∃ rest cs, RootP d rest ∧ d.length ≤ 100 ∧ Txt.split rest "/" = cs ∧ ∀ c ∈ cs, c.length ≠ 0 ∧ c ≠ Str.ofString "." ∧ c ≠ Str.ofString ".."
def IgnAt (prog : Program) (w : World) (B : Fx) (x ia : Addr) (mods dirs : List Str) : Prop :=
  ∃ dx ma la od om, B x (instObj 140 dx) ∧ B dx od ∧ IsAtt w.params [("_mods", .ref ma), ("_dirs", .ref la), ("_ignore", .ref ia)] od ∧ B ma om ∧ IsSet prog w mods om ∧ StrL B la dirs ∧ (ia == sysModules) = false
section
variable {prog : Program} {w : World} {A : Around} {E : Value → Shared → Prop} {s : Shared} {Z : Shared} {B : Fx} {own : Own} {R : Result → Shared → Prop}
theorem init_code {x dx ba da : Addr} {mods dirs : List Str} (r : Rm A 5) (S : At w Z B ((x, IsI dx) :: (dx, IsAtt w.params []) :: own) s) (hM : StrL B ba mods) (hD : StrL B da dirs) (hml : mods.length ≤ 100) (hdl : dirs.length ≤ 100) (hg : ∀ d ∈ dirs, GoodDir d)
    (h : ∀ B' ia t s', (∀ b o, B b o → B' b o) → IgnAt prog w B' x ia mods dirs → At w Z B' ((ia, IsIg prog w [("<string>", .int 1 t)]) :: own) s' → R (.ok (.ret .none)) s') :
    codeAny (model prog w) A (.call (.ref 130) ⟨[.ref x, .ref ba, .ref da], []⟩) R s := by
  refine enterCode ["self", "modules", "dirs"] [] [("self", .ref x), ("modules", .ref ba), ("dirs", .ref da)] S r rfl (by kernel_rfl) rfl (BindsTo.of_defaults rfl (S.gr.k 125 _ rfl) rfl rfl rfl) rfl (by decide +kernel) rfl rfl ?_
  intro A' env L s₁ he S₁ r'
  conv => arg 3; arg 1; whnf
  conv at he => arg 3; whnf
  dsimp only [varsOf, List.map, List.append_nil, List.nil_append, List.cons_append] at he S₁
  walk_at "ev"
  refine asgA (by with_unfolding_all rfl) ?_
  obtain ⟨ob, vb, hob, pob, tb⟩ := hM
  refine wpAny_mono (Q := fun v s' => ∃ ma, v = .ref ma ∧ At w Z B ((ma, IsSet prog w mods) :: (L, HasV [("self", some (.ref x)), ("modules", some (.ref ba)), ("dirs", some (.ref da))]) :: (x, IsI dx) :: (dx, IsAtt w.params []) :: own) s') ?_ ?_ fun _ _ x => x
  · walk_at "evs"
    with_reducible refine truL (IsL.isList ⟨_, S₁.keep _ _ hob, pob⟩) (by rw [tb.length]; omega) ?_
    intro _
    split
    · rename_i c
      have hm : mods = [] := by
        have : vb = [] := by simpa using c
        rw [this] at tb
        exact List.length_eq_zero_iff.mp (by rw [← tb.length]; rfl)
      walk_at "evs"
      with_reducible refine newSet0 (by assumption) ?_
      intro ma s₂ S₂
      rw [hm]
      exact ⟨ma, rfl, S₂⟩
    · walk_at "evs"
      with_reducible refine newSetL r'.h (by assumption) (IsL.isList ⟨_, S₁.keep _ _ hob, pob⟩) tb (by unfold scanBound; omega) ?_
      intro ma s₂ S₂
      exact ⟨ma, rfl, S₂⟩
  rintro _ s₂ ⟨ma, rfl, S₂⟩
  walk_at "evs"
  refine setA S₂ (by walk_at "mem") (by walk_at "upd") (by simp) (by simp) (cl_mods _) ?_
  intro s₃ S₃
  dsimp only [List.nil_append] at S₃
  obtain ⟨B₁, om, hb₁, hom, pom, S₄⟩ := S₃.freeze
  walk_at "evs"
  refine asgA (by with_unfolding_all rfl) ?_
  obtain ⟨oD, vD, hoD, poD, tD⟩ := hD
  refine wpAny_mono (Q := fun v s' => ∃ la B₂, v = .ref la ∧ (∀ b o, B₁ b o → B₂ b o) ∧ StrL B₂ la dirs ∧ At w Z B₂ ((L, HasV [("self", some (.ref x)), ("modules", some (.ref ba)), ("dirs", some (.ref da))]) :: (x, IsI dx) :: (dx, IsAtt w.params [("_mods", .ref ma)]) :: own) s') ?_ ?_ fun _ _ x => x
  · walk_at "evs"
    with_reducible refine truL (IsL.isList ⟨_, S₄.keep _ _ (hb₁ _ _ hoD), poD⟩) (by rw [tD.length]; omega) ?_
    intro _
    split
    · rename_i c
      have hm : dirs = [] := by
        have : vD = [] := by simpa using c
        rw [this] at tD
        exact List.length_eq_zero_iff.mp (by rw [← tD.length]; rfl)
      walk_at "evs"
      with_reducible refine newL (by assumption) ?_ (Nat.zero_le _)
      intro la s₅ S₅ _
      obtain ⟨B₂, ol, hb₂, hol, pol, S₆⟩ := S₅.freeze
      rw [hm]
      exact ⟨la, B₂, rfl, hb₂, ⟨ol, [], hol, pol, Texts.nil⟩, S₆⟩
    · with_reducible refine comp_eval (comp_ok he [(".0", .local), ("d", .local), ("normpath", .globalImplicit)] ["d"] [] [] (by decide +kernel) rfl (by walk_at "cl")) (fun _ => by with_unfolding_all rfl) ?_
      walk_at "evs"
      rename_i s₅ S₅
      refine ⟨Z, B₁, _, _, _, fun _ j ys => Texts ys (dirs.take j), ⟨S₄, iters_list r'.h S₄ (IsL.isList ⟨_, S₄.keep _ _ (hb₁ _ _ hoD), poD⟩) (S₄.notOwnB (hb₁ _ _ hoD)), ?_, fun _ _ _ _ _ h => h, Texts.nil, ?_⟩, ?_⟩
      · rw [tD.length, sizeLine_eq]; omega
      · rintro C env' R₂ B₂ j v ys s₆ he' hj hv hs₂ hinv₂ S₆
        obtain ⟨d, td, hdj, rfl⟩ := tD.val hv
        obtain ⟨rest, cs, g1, g2, g3, g4⟩ := hg d (List.mem_of_getElem? hdj)
        dsimp only [List.map, List.cons_append, List.nil_append] at S₆
        refine wpAny_assign_Name ?_
        walk_at "evs"
        with_reducible refine ifs0 ?_
        walk_at "evs"
        with_reducible refine normpath_call (Lg.gr (by assumption)) (r'.le (by decide)) g1 g2 g3 g4 ?_
        intro t' s₇ k₇
        have S₇ := Lg.onT (by assumption) k₇
        refine ⟨B₂, fun _ _ e => e, ?_, ?_⟩
        · rw [List.take_add_one, hdj]; exact hinv₂.snoc
        · walk_at "at"
      · intro D B₂ ys s₆ hs₂ hinv₂ hlen S₆
        rw [tD.length, List.take_length] at hinv₂
        obtain ⟨B₃, ol, hb₃, hol, pol, S₇⟩ := S₆.freeze
        exact ⟨D, B₃, rfl, fun b o e => hb₃ _ _ (hs₂ _ _ e), ⟨ol, ys, hol, pol, hinv₂⟩, S₇⟩
  rintro _ s₅ ⟨la, B₂, rfl, hb₂, hla, S₅⟩
  walk_at "evs"
  refine setA S₅ (by walk_at "mem") (by walk_at "upd") (by simp only [List.map]; decide) (by simp only [List.length_cons, List.length_nil]; decide) (cl_dirs _) ?_
  intro s₆ S₆
  dsimp only [List.nil_append, List.cons_append] at S₆
  walk_at "evs"
  refine asgA (by with_unfolding_all rfl) ?_
  with_reducible refine dictOne S₆ ?_
  intro ia t s₇ S₇ hia
  walk_at "evs"
  refine setA S₇ (by walk_at "mem") (by walk_at "upd") (by simp only [List.map]; decide) (by simp only [List.length_cons, List.length_nil]; decide) (cl_ignore _) ?_
  intro s₈ S₈
  dsimp only [List.nil_append, List.cons_append] at S₈
  have S₉ := (S₈.drop (own' := (ia, _) :: (x, IsI dx) :: (dx, _) :: own) (.cons_cons _ (.cons _ (.refl _)))).perm (own' := (x, IsI dx) :: (dx, _) :: (ia, _) :: own) ((List.Perm.cons _ (List.Perm.swap _ _ _)).trans (List.Perm.swap _ _ _))
  obtain ⟨B₃, ox, hb₃, hox, pox, S₁₀⟩ := S₉.freeze
  obtain ⟨B₄, od, hb₄, hod, pod, S₁₁⟩ := S₁₀.freeze
  walk_at "evs"
  have hbb : ∀ b o, B₂ b o → B₄ b o := fun b o e => hb₄ _ _ (hb₃ _ _ e)
  refine h B₄ ia t _ (fun b o e => hbb _ _ (hb₂ _ _ (hb₁ _ _ e))) ⟨dx, ma, la, od, om, ?_, hod, pod, hbb _ _ (hb₂ _ _ hom), pom, hla.mono hbb, hia⟩ S₁₁
  rw [← (show ox = instObj 140 dx from pox)]
  exact hb₄ _ _ hox
end
/-! _Ignore(..), .names(..) -/
theorem Rm.under {A : Around} {k : Nat} (r : Rm A (k + 1)) (C : Addr) (args : List Value) : Rm (A.under (.builtin "type.__call__" ⟨.ref C :: args, []⟩)) k := by
  have hw : (Code.builtin "type.__call__" ⟨.ref C :: args, []⟩).weight = 1 := rfl
  have hu : (Code.builtin "type.__call__" ⟨.ref C :: args, []⟩).cUnits = 1 := rfl
  refine ⟨?_, ?_, r.h⟩
  · show A.depth + Code.weight _ + k < _
    rw [hw]; have := r.d; omega
  · show A.units + Code.cUnits _ + 10 * k < _
    rw [hu]; have := r.u; omega
def toldB (mods dirs : List Str) (fn mn : Str) : Bool := mods.any (fun m => Txt.startswith mn (m ++ Str.ofString ".")) || dirs.any (fun d => Txt.startswith fn (d ++ Str.ofString "/"))
def told (mods dirs : List Str) (fn mn : Str) : Int := if toldB mods dirs fn mn then 1 else 0
theorem valueAt_absent {kvs : List (Str × Value)} {k : Str} (h : k ∉ kvs.map (·.1)) : valueAt kvs k = none := by
  unfold valueAt
  rw [List.find?_eq_none.mpr]
  · rfl
  · intro p hp
    simp only [decide_eq_true_eq]
    exact fun e => h (e ▸ List.mem_map_of_mem hp)
theorem valueAt_not {kvs : List (Str × Value)} {k : Str} (h : valueAt kvs k = none) : k ∉ kvs.map (·.1) := fun m => by
  obtain ⟨p, hp, rfl⟩ := List.mem_map.mp m
  unfold valueAt at h
  rw [Option.map_eq_none_iff, List.find?_eq_none] at h
  exact h p hp (by simp)
theorem IgnAt.mono {prog : Program} {w : World} {B B' : Fx} {x ia : Addr} {mods dirs : List Str} (I : IgnAt prog w B x ia mods dirs) (hs : ∀ b o, B b o → B' b o) : IgnAt prog w B' x ia mods dirs :=
  let ⟨dx, ma, la, od, om, h1, h2, h3, h4, h5, h6, h7⟩ := I; ⟨dx, ma, la, od, om, hs _ _ h1, hs _ _ h2, h3, hs _ _ h4, h5, h6.mono hs, h7⟩
section
variable {prog : Program} {w : World} {A : Around} {E : Value → Shared → Prop} {s : Shared} {Z : Shared} {B : Fx} {own own' : Own} {Q : Value → Shared → Prop}
theorem ignore_call {ba da : Addr} {mods dirs : List Str} (r : Rm A 6) (S : At w Z B own s) (hM : StrL B ba mods) (hD : StrL B da dirs) (hml : mods.length ≤ 100) (hdl : dirs.length ≤ 100) (hg : ∀ d ∈ dirs, GoodDir d)
    (h : ∀ B' x ia t s', (∀ b o, B b o → B' b o) → IgnAt prog w B' x ia mods dirs → At w Z B' ((ia, IsIg prog w [("<string>", .int 1 t)]) :: own) s' → Q (.ref x) s') :
    wpAny (model prog w) A (call (.ref 140) [.ref ba, .ref da]) Q E s := by
  obtain ⟨hh, g, d, t, os⟩ := s
  refine wpAny_call (make_core (makes_of S.gr.k (cl_makes _)) (looks_findIn S.gr.k (cl_init _)) (fun self => bind_fn S.gr.k self (cl_fn130 _)) (.inl rfl) ?_)
  have S₁ := S.addPush (P := IsAtt w.params []) emptyDict ⟨[], 0, rfl, rfl⟩
  have S₂ := S₁.addPush (P := IsI hh.objs.size) (instObj 140 hh.objs.size) rfl
  have e1 : (hh.push emptyDict).objs.size = hh.objs.size + 1 := Heap.size_push ..
  rw [e1] at S₂
  refine init_code (Z := Z) (s := ⟨_, g, d, t, os⟩) (r.under _ _) S₂ hM hD hml hdl hg ?_
  intro B' ia t s' hb I S'
  exact ⟨rfl, h B' _ ia t s' hb I S'⟩
theorem asgD {o i : Expr} {pos' pos : Pos} {value : Expr} {env : Env} {Q : Flow → Shared → Prop} (hs : swapsWith value (some (.Subscript o i pos')) pos.line env = pure false)
    (h : wpAny (model prog w) A (eval value env) (fun v s₁ => wpAny (model prog w) A (eval o env) (fun ov s₂ => wpAny (model prog w) A (eval i env) (fun iv s₃ => wpAny (model prog w) A (setItem ov iv v) (fun _ => Q .next) E s₃) E s₂) E s₁) E s) :
    wpAny (model prog w) A (exec (.Assign [.Subscript o i pos'] value pos) env) Q E s := wpAny_Assign_Subscript h hs
theorem setD {ia : Addr} {kvs : List (Str × Value)} {k : Str} {t : Tok} {v : Value} {Q : Unit → Shared → Prop} (S : At w Z B own s) (u : Upd ia (IsIg prog w kvs) (IsIg prog w (kvs ++ [(k, v)])) own own') (hk : k ∉ kvs.map (·.1)) (hz : kvs.length ≤ 1000)
    (h : ∀ s', At w Z B own' s' → Q () s') : wpAny (model prog w) A (setItem (.ref ia) (.str k t) v) Q E s := by
  obtain ⟨o, e, p⟩ := S.get u.mem
  refine wpAny_setItem_pairs (knd := strKind prog w) (strKind_is prog w k t) (Heap.dictOf_iff.mpr ⟨o, e, p⟩) (fun h' hD hsb => ?_) (by rw [sizeLine_eq]; omega)
  rw [stored_absent (valueAt_absent hk)] at hD
  obtain ⟨o', e', p'⟩ := Heap.dictOf_iff.mp hD
  exact h { s with heap := h', toks := _ } (S.upd u (fun b o hb e => hsb.extBut b o hb e) e' p')
theorem inD {ia : Addr} {kvs : List (Str × Value)} {k : Str} {t : Tok} {h : Heap} {gs : Array GenState} {d : Drawn} {n : Nat} {os : OsState} (e : ∃ o, h.get? ia = some o ∧ IsIg prog w kvs o) (hds : (ia == sysModules) = false) (hk : k ∉ kvs.map (·.1)) (hq : ∀ n, Q (.bool false) ⟨h, gs, d, n, os⟩) :
    wpAny (model prog w) A (compareOp .In (.str k t) (.ref ia)) Q E ⟨h, gs, d, n, os⟩ := by
  refine wpAny_in_of (knd := strKind prog w) (s := ⟨h, gs, d, n, os⟩) (strKind_is prog w k t) hds (Heap.DictOf.mapOf (Heap.dictOf_iff.mpr e)) ?_
  rw [valueAt_absent hk]
  exact hq _
theorem inDT {ia : Addr} {kvs : List (Str × Value)} {k : Str} {t : Tok} {v : Value} {h : Heap} {gs : Array GenState} {d : Drawn} {n : Nat} {os : OsState} (e : ∃ o, h.get? ia = some o ∧ IsIg prog w kvs o) (hds : (ia == sysModules) = false) (hk : valueAt kvs k = some v) (hq : ∀ n, Q (.bool true) ⟨h, gs, d, n, os⟩) :
    wpAny (model prog w) A (compareOp .In (.str k t) (.ref ia)) Q E ⟨h, gs, d, n, os⟩ := by
  refine wpAny_in_of (knd := strKind prog w) (s := ⟨h, gs, d, n, os⟩) (strKind_is prog w k t) hds (Heap.DictOf.mapOf (Heap.dictOf_iff.mpr e)) ?_
  rw [hk]
  exact hq _
theorem getDT {value slice : Expr} {ia : Addr} {kvs : List (Str × Value)} {k : Str} {t : Tok} {v : Value} {ops : List Value} {h : Heap} {gs : Array GenState} {d : Drawn} {n : Nat} {os : OsState} (e : ∃ o, h.get? ia = some o ∧ IsIg prog w kvs o) (hk : valueAt kvs k = some v)
    (hs : subscripted slice false (.ref ia) (.str k t) = operate ops (getItem (.ref ia) (.str k t))) (hq : ∀ n, Q v ⟨h, gs, d, n, os⟩) : wpAny (model prog w) A (subscriptTail value slice (.ref ia) (.str k t)) Q E ⟨h, gs, d, n, os⟩ :=
  have M := Heap.DictOf.mapOf (Heap.dictOf_iff.mpr e)
  tail_any (s := ⟨h, gs, d, n, os⟩) (Heap.MapOf.typeIs M) slot_dict_getitem.lookup (wpAny_getItem_of (knd := strKind prog w) (s := ⟨h, gs, d, n, os⟩) (strKind_is prog w k t) M hk (hq _)) hs
theorem names_call {x ia : Addr} {mods dirs : List Str} {kvs : List (Str × Value)} {fn mn : Str} {tf tm : Tok} (r : Rm A 1) (S : At w Z B ((ia, IsIg prog w kvs) :: own) s) (I : IgnAt prog w B x ia mods dirs) (hv : ∀ v, valueAt kvs mn = some v → ∃ t, v = .int (told mods dirs fn mn) t) (hz : kvs.length ≤ 1000) (hm : mn ∉ mods)
    (hml : mods.length ≤ 100) (hdl : dirs.length ≤ 100) (h1 : ∀ m ∈ mods, m.length ≤ 1000) (h2 : ∀ d ∈ dirs, d.length ≤ 1000)
    (h' : ∀ kvs' t' s', (kvs' = kvs ∨ ∃ t, mn ∉ kvs.map (·.1) ∧ kvs' = kvs ++ [(mn, .int (told mods dirs fn mn) t)]) → At w Z B ((ia, IsIg prog w kvs') :: own) s' → Q (.int (told mods dirs fn mn) t') s') :
    wpAny (model prog w) A (call (.ref 137) [.ref x, .str fn tf, .str mn tm]) Q E s := by
  refine wpAny_call (enterCode ["self", "filename", "modulename"] ["mod", "d"] [("self", .ref x), ("filename", .str fn tf), ("modulename", .str mn tm)] S r rfl (by kernel_rfl) rfl (BindsTo.of_eq rfl) rfl (by decide +kernel) rfl rfl ?_)
  obtain ⟨dx, ma, la, od, om, i1, i2, i3, i4, i5, i6, i7⟩ := I
  intro A' env L s₁ he S₁ r'
  conv => arg 3; arg 1; whnf
  conv at he => arg 3; whnf
  dsimp only [varsOf, List.map, List.append_nil, List.nil_append, List.cons_append] at he S₁
  have getIg : ∀ {s : Shared} {o : Own} {B₁ : Fx} {expr : Bool} {Q : Value → Shared → Prop} {E : Value → Shared → Prop}, At w Z B₁ o s → (∀ b o, B b o → B₁ b o) → Q (.ref ia) { s with toks := s.toks + 1 } → wpAny (model prog w) A' (getAttr (.ref x) (Str.ofString "_ignore") expr) Q E s :=
    fun S hb q => getA S.gr (S.keep _ _ (hb _ _ i1)) (S.keep _ _ (hb _ _ i2)) i3 (by simp only [List.map]; decide) (by simp) (cl_ignore _) rfl q
  walk_at "evs"
  refine attr_ ab_name (fun _ _ => rfl) ?_
  walk_at "evs"
  refine getIg (by assumption) (fun _ _ e => e) ?_
  cases hva : valueAt kvs mn with
  | some v =>
    obtain ⟨tv, rfl⟩ := hv v hva
    refine inDT (S₁.get (by walk_at "mem")) i7 hva ?_
    intro _
    walk_at "evs"
    refine attr_ ab_name (fun _ _ => rfl) ?_
    walk_at "evs"
    refine getIg (by assumption) (fun _ _ e => e) ?_
    walk_at "evs"
    refine getDT (S₁.get (by walk_at "mem")) hva (by with_unfolding_all rfl) ?_
    intro _
    walk_at "evs"
    exact h' kvs tv _ (.inl rfl) (Lg.drop (by assumption) (.cons _ (.refl _)))
  | none =>
  have hk : mn ∉ kvs.map (·.1) := valueAt_not hva
  have h : ∀ t t' s', At w Z B ((ia, IsIg prog w (kvs ++ [(mn, .int (told mods dirs fn mn) t)])) :: own) s' → Q (.int (told mods dirs fn mn) t') s' := fun t t' s' S => h' _ t' s' (.inr ⟨t, hk, rfl⟩) S
  with_reducible refine inD (S₁.get (by walk_at "mem")) i7 hk ?_
  intro _
  walk_at "evs"
  refine attr_ ab_name (fun _ _ => rfl) ?_
  walk_at "evs"
  refine getA S₁.gr (S₁.keep _ _ i1) (S₁.keep _ _ i2) i3 (by simp only [List.map]; decide) mem0 (cl_mods _) rfl ?_
  with_reducible refine inSet (S₁.keep _ _ i4) i5 (by unfold scanBound; omega) ?_
  intro _
  rw [decide_eq_false hm]
  walk_at "evs"
  refine attr_ ab_name (fun _ _ => rfl) ?_
  walk_at "evs"
  refine getA S₁.gr (S₁.keep _ _ i1) (S₁.keep _ _ i2) i3 (by simp only [List.map]; decide) mem0 (cl_mods _) rfl ?_
  have hyes : ∀ {s : Shared} {B₁ : Fx} {R' : Own} {t t' : Tok} {l : Vars}, toldB mods dirs fn mn = true → (∀ b o, B b o → B₁ b o) → own.Sublist R' → At w Z B₁ ((L, HasV l) :: (ia, IsIg prog w (kvs ++ [(mn, .int 1 t)])) :: R') s → Q (.int 1 t') s := by
    intro s B₁ R' t t' l hb hs hR S
    have e : told mods dirs fn mn = 1 := if_pos hb
    have S' := (S.anti hs S₁.gd).drop (own' := (ia, IsIg prog w (kvs ++ [(mn, .int 1 t)])) :: own) (.cons _ (hR.cons_cons _))
    rw [← e] at S' ⊢
    exact h t t' s S'
  refine forS (fun _ : Unit => [(L, HasV [("self", some (.ref x)), ("filename", some (.str fn tf)), ("modulename", some (.str mn tm)), ("mod", none), ("d", none)]), (ia, IsIg prog w kvs)]) own () r'.h (Lg.on (by assumption) ⟨fun _ _ e => e, rfl, rfl⟩) i4 i5 (by unfold scanBound; omega)
    (fun _ pre _ => ∀ m ∈ pre, Txt.startswith mn (m ++ Str.ofString ".") = false) (fun _ => rfl) (fun _ _ _ _ _ h => h) (by simp) ?turn1 ?fin1
  case turn1 =>
    rintro R' B₁ pre y ty ⟨⟩ s₂ Qb hR hy hb hinv S₂ hN - hRet
    dsimp only [List.cons_append, List.nil_append] at S₂
    refine wpAny_assign_Name ?_
    walk_at "evs"
    with_reducible refine GM.startswith ?_
    walk_at "evs"
    have ld : (Str.ofString ".").length = 1 := by decide
    with_reducible refine oCat (by rw [ld, sizeLine_eq]; have := h1 y hy; omega) ?_
    intro _ _
    walk_at "evs"
    with_reducible refine SC.startswith ?_
    walk_at "evs"
    split
    · rename_i c
      walk_at "ev"
      refine asgD (by with_unfolding_all rfl) ?_
      walk_at "evs"
      refine attr_ ab_name (fun _ _ => rfl) ?_
      walk_at "evs"
      refine getIg (by assumption) hb ?_
      walk_at "evs"
      refine setD (own := (L, _) :: (ia, IsIg prog w kvs) :: _) (by assumption) (by walk_at "upd") hk hz ?_
      intro s₃ S₃
      walk_at "evs"
      refine hRet _ _ ?_
      walk_at "evs"
      exact hyes (by unfold toldB; rw [List.any_eq_true.mpr ⟨y, hy, c⟩]; rfl) hb hR S₃
    · rename_i c
      walk_at "evs"
      refine hN _ B₁ () _ (.inl rfl) (fun _ _ e => e) ?_ ?_
      · intro m hm
        rcases List.mem_append.mp hm with hm | hm
        · exact hinv m hm
        · cases List.mem_singleton.mp hm; exact Bool.eq_false_iff.mpr c
      · walk_at "at"
  case fin1 =>
    rintro B₁ pre ⟨⟩ s₂ hb hall hinv S₂
    dsimp only [List.cons_append, List.nil_append] at S₂
    have hno : mods.any (fun m => Txt.startswith mn (m ++ Str.ofString ".")) = false := by
      rw [List.any_eq_false]; intro m hm; rw [hinv m (hall m hm)]; exact Bool.false_ne_true
    walk_at "evs"
    with_reducible refine is_str_none ?_
    walk_at "evs"
    refine attr_ ab_name (fun _ _ => rfl) ?_
    walk_at "evs"
    refine getA S₂.gr (S₂.keep _ _ (hb _ _ i1)) (S₂.keep _ _ (hb _ _ i2)) i3 (by simp only [List.map]; decide) mem1 (cl_dirs _) rfl ?_
    obtain ⟨oD, vD, hoD, poD, tD⟩ := i6
    refine forI (Z := Z) (B := B₁) (fun _ : Unit => [(L, HasV [("self", some (.ref x)), ("filename", some (.str fn tf)), ("modulename", some (.str mn tm)), ("mod", none), ("d", none)]), (ia, IsIg prog w kvs)]) own () (iters_list r'.h (Lg.on S₂ ⟨fun _ _ e => e, rfl, rfl⟩) (IsL.isList ⟨_, S₂.keep _ _ (hb _ _ hoD), poD⟩) (S₂.notOwnB (hb _ _ hoD)))
      (fun _ i _ => ∀ d ∈ dirs.take i, Txt.startswith fn (d ++ Str.ofString "/") = false) (fun _ => rfl) (fun _ _ _ _ _ h => h) (by simp) ?turn2 ?fin2
    case turn2 =>
      rintro R' B₂ i v ⟨⟩ s₃ Qb hR hi hv hb₂ hinv₂ S₃ hN - hRet
      obtain ⟨y, ty, hyi, rfl⟩ := tD.val hv
      have hy := List.mem_of_getElem? hyi
      have hbb : ∀ b o, B b o → B₂ b o := fun b o e => hb₂ _ _ (hb _ _ e)
      dsimp only [List.cons_append, List.nil_append] at S₃
      refine wpAny_assign_Name ?_
      walk_at "evs"
      with_reducible refine GM.startswith ?_
      walk_at "evs"
      obtain ⟨ts, hsep⟩ := g_sep w.params
      refine nmG he (by assumption) (by walk_at "mem") hsep ?_
      have ld : (Str.ofString "/").length = 1 := by decide
      with_reducible refine oCat (by rw [ld, sizeLine_eq]; have := h2 y hy; omega) ?_
      intro _ _
      walk_at "evs"
      with_reducible refine SC.startswith ?_
      walk_at "evs"
      split
      · rename_i c
        walk_at "ev"
        refine asgD (by with_unfolding_all rfl) ?_
        walk_at "evs"
        refine attr_ ab_name (fun _ _ => rfl) ?_
        walk_at "evs"
        refine getIg (by assumption) hbb ?_
        walk_at "evs"
        refine setD (own := (L, _) :: (ia, IsIg prog w kvs) :: _) (by assumption) (by walk_at "upd") hk hz ?_
        intro s₄ S₄
        walk_at "evs"
        refine hRet _ _ ?_
        walk_at "evs"
        exact hyes (by unfold toldB; rw [List.any_eq_true.mpr ⟨y, hy, c⟩, Bool.or_true]) hbb hR S₄
      · rename_i c
        walk_at "evs"
        refine hN _ B₂ () _ (.inl rfl) (fun _ _ e => e) ?_ ?_
        · intro m hm
          rw [List.take_add_one, hyi] at hm
          rcases List.mem_append.mp hm with hm | hm
          · exact hinv₂ m hm
          · cases List.mem_singleton.mp hm; exact Bool.eq_false_iff.mpr c
        · walk_at "at"
    case fin2 =>
      rintro B₂ ⟨⟩ s₃ hb₂ hinv₂ S₃
      dsimp only [List.cons_append, List.nil_append] at S₃
      rw [tD.length, List.take_length] at hinv₂
      have hno2 : dirs.any (fun d => Txt.startswith fn (d ++ Str.ofString "/")) = false := by
        rw [List.any_eq_false]; intro m hm; rw [hinv₂ m hm]; exact Bool.false_ne_true
      have e : told mods dirs fn mn = 0 := by unfold told toldB; rw [hno, hno2]; rfl
      rw [e] at h
      walk_at "evs"
      refine asgD (by with_unfolding_all rfl) ?_
      walk_at "evs"
      refine attr_ ab_name (fun _ _ => rfl) ?_
      walk_at "evs"
      refine getIg (by assumption) (fun b o e => hb₂ _ _ (hb _ _ e)) ?_
      walk_at "evs"
      refine setD (own := (L, _) :: (ia, IsIg prog w kvs) :: _) (by assumption) (by walk_at "upd") hk hz ?_
      intro s₄ S₄
      walk_at "evs"
      exact h _ _ _ ((Lg.anti (by assumption) (fun b o e => hb₂ _ _ (hb _ _ e)) S₁.gd).drop (.cons _ (.refl _)))
end
/-! path[1:].replace('/', '.'); defs with cells, with what is ours kept -/
def dot (p : Str) : Str := Txt.replace (Txt.slice p (some 1) none) (Str.ofString "/") (Str.ofString ".")
section
variable {prog : Program} {w : World} {A : Around} {E : Value → Shared → Prop} {s : Shared} {Q : Value → Shared → Prop} {env : Env}
theorem dotE {e : Expr} {n1 n2 n3 : Nat} {q1 q2 q3 q4 q5 apos pos : Pos} (hl : (apos.endLine == pos.line) = true)
    (hs1 : ∀ p t sl, ∃ ops, subscripted (.Slice (some (.Constant (.int 1) n1 q1)) none none q2) false (.str p t) (.ref sl) = operate ops (getItem (.str p t) (.ref sl)))
    (h : wpAny (model prog w) A (eval e env) (fun v s₁ => ∃ p t, v = .str p t ∧ p.length ≤ 1000 ∧ ∀ t' s', Kp s₁ s' → Q (.str (dot p) t') s') E s) :
    wpAny (model prog w) A (eval (.Call (.Attribute (.Subscript e (.Slice (some (.Constant (.int 1) n1 q1)) none none q2) q3) (Str.ofString "replace") apos) [.Constant (.str (Str.ofString "/")) n2 q4, .Constant (.str (Str.ofString ".")) n3 q5] [] pos) env) Q E s := by
  refine mcall ab_sub rfl hl ?_
  refine Subscript_ (wpAny_mono h (fun v s₁ h₁ => ?_) fun _ _ x => x)
  obtain ⟨p, t, rfl, hp, hq⟩ := h₁
  refine wpAny_Slice (wpAny_evalPart_some (wpAny_Constant_int ?_))
  refine wpAny_evalPart_none (wpAny_evalPart_none ?_)
  obtain ⟨ops, hs⟩ := hs1 p t s₁.heap.objs.size
  refine wpAny_with_toks (n := 1) (Nat.le_add_left _ _) ?_
  refine sliceFr (i := 1) (ti := s₁.toks) (ops := ops) (Heap.IsSliceOf.new _ _ _ _) (by rw [sizeLine_eq]; omega) hs ?_
  intro t₂ k₂ hk₂
  refine GM.replace ?_
  refine callWith_method1 (spliced_more (Calls.Constant_str (spliced_more (Calls.Constant_str (spliced_none ?_)) rfl)) rfl) (by rfl) (by rfl)
  dsimp only [List.cons_append, List.nil_append]
  have hk₂ : 1 ≤ k₂ := hk₂
  have hlen : (Txt.slice p (some 1) none).length ≤ 1000 := Nat.le_trans (Txt.slice_le p _ _) hp
  refine SC.replaceW (s := { s₁ with heap := _, toks := k₂ + 1 + 1 }) (by show (k₂ : Tok) ≠ 0; omega) (by show (k₂ + 1 : Tok) ≠ 0; omega) (by show (k₂ : Tok) ≠ k₂ + 1; omega) (by decide) (by omega) (by decide) ?_
  intro t' k'
  exact hq t' { s₁ with heap := _, toks := k' } (Kp.push s₁ _ k')
end

theorem Lg.join {w : World} {Z s s₁ : Shared} {B : Fx} {own new : Own} (S : At w Z B own s) (S₁ : At w s (fun b o => s.heap.get? b = some o) new s₁) : At w Z B (new ++ own) s₁ where
  gd := S.gd
  keep := fun b o e => S₁.keep b o (S.keep b o e)
  has := fun p hp => by
    rcases List.mem_append.mp hp with m | m
    · exact S₁.has p m
    · obtain ⟨o, e, x⟩ := S.has p m; exact ⟨o, S₁.keep _ _ e, x⟩
  apart := fun p hp o e => by
    rcases List.mem_append.mp hp with m | m
    · exact S₁.apart p m o (S.keep _ _ e)
    · exact S.apart p m o e
  nodup := by
    rw [List.map_append, List.nodup_append]
    refine ⟨S₁.nodup, S.nodup, fun a ha b hb e => ?_⟩
    subst e
    obtain ⟨p, hp, rfl⟩ := List.mem_map.mp ha
    obtain ⟨q, hq, e⟩ := List.mem_map.mp hb
    obtain ⟨o, e', _⟩ := S.has q hq
    rw [e] at e'
    exact S₁.apart p hp o e'
  gens := S₁.gens.trans S.gens
  os := S₁.os.trans S.os
section
variable {prog : Program} {w : World} {A : Around} {E : Value → Shared → Prop} {s : Shared} {Q : Value → Shared → Prop} {Z : Shared} {B : Fx} {own : Own}
/-! _law_reader, _law_told -/
def wAt (fs : List Fold) (k : Int) : Int := ((fs[k.toNat]?).map (·.w)).getD 0
def pathAt (fs : List Fold) (k : Int) : Str := ((fs[k.toNat]?).map (·.path)).getD ""
def modsOf (fs : List Fold) (ks : List Int) : List Str := (ks.filter fun k => (wAt fs k).fmod 2 == 1).map fun k => dot (pathAt fs k)
def dirsOf (fs : List Fold) (ks : List Int) : List Str := (ks.filter fun k => (wAt fs k).fmod 2 == 0).map fun k => pathAt fs k
structure Nice (fs : List Fold) : Prop where
  good : ∀ f ∈ fs, GoodDir f.path
  dots : ∀ f ∈ fs, (dot f.path).length ≤ 100
  mods : ∀ f ∈ fs, ∀ g ∈ fs, dot f.path ++ Str.ofString ".y" ≠ dot g.path
  str : ∀ f ∈ fs, dot f.path ++ Str.ofString ".y" ≠ Str.ofString "<string>"
  inj : (fs.map fun f => dot f.path ++ Str.ofString ".y").Nodup
theorem Nice.len {fs : List Fold} (N : Nice fs) {f : Fold} (h : f ∈ fs) : f.path.length ≤ 100 := let ⟨_, _, _, h2, _⟩ := N.good f h; h2
theorem at_fold {fs : List Fold} {k : Int} (h0 : 0 ≤ k) (h1 : k < fs.length) : ∃ f, fs[k.toNat]? = some f ∧ f ∈ fs ∧ wAt fs k = f.w ∧ pathAt fs k = f.path := by
  have hlt : k.toNat < fs.length := by omega
  exact ⟨fs[k.toNat], List.getElem?_eq_getElem hlt, List.getElem_mem hlt, by unfold wAt; rw [List.getElem?_eq_getElem hlt]; rfl, by unfold pathAt; rw [List.getElem?_eq_getElem hlt]; rfl⟩
theorem modsOf_snoc (fs : List Fold) (ks : List Int) (k : Int) : modsOf fs (ks ++ [k]) = modsOf fs ks ++ if (wAt fs k).fmod 2 == 1 then [dot (pathAt fs k)] else [] := by
  unfold modsOf; rw [List.filter_append, List.map_append, List.filter_cons, List.filter_nil]; split <;> rfl
theorem dirsOf_snoc (fs : List Fold) (ks : List Int) (k : Int) : dirsOf fs (ks ++ [k]) = dirsOf fs ks ++ if (wAt fs k).fmod 2 == 0 then [pathAt fs k] else [] := by
  unfold dirsOf; rw [List.filter_append, List.map_append, List.filter_cons, List.filter_nil]; split <;> rfl
theorem modsOf_len (fs : List Fold) (ks : List Int) : (modsOf fs ks).length ≤ ks.length := by unfold modsOf; rw [List.length_map]; exact List.length_filter_le _ _
theorem dirsOf_len (fs : List Fold) (ks : List Int) : (dirsOf fs ks).length ≤ ks.length := by unfold dirsOf; rw [List.length_map]; exact List.length_filter_le _ _
theorem dirsOf_good {fs : List Fold} {ks : List Int} (N : Nice fs) (hk : ∀ k ∈ ks, 0 ≤ k ∧ k < fs.length) : ∀ d ∈ dirsOf fs ks, GoodDir d := fun d hd => by
  obtain ⟨k, hk', rfl⟩ := List.mem_map.mp hd
  obtain ⟨k0, k1⟩ := hk k (List.mem_filter.mp hk').1
  obtain ⟨f, _, hfm, _, ep⟩ := at_fold k0 k1
  rw [ep]; exact N.good f hfm
theorem reader_call {fs : List Fold} {ks : List Int} {fa pa : Addr} (r : Rm A 7) (S : At w Z B own s) (hF : Folders B fa fs) (hK : IntL B pa ks) (N : Nice fs) (h6 : fs.length ≤ 1000) (hk : ∀ k ∈ ks, 0 ≤ k ∧ k < fs.length) (hkl : ks.length ≤ 100)
    (h : ∀ B' x ia t s', (∀ b o, B b o → B' b o) → IgnAt prog w B' x ia (modsOf fs ks) (dirsOf fs ks) → At w Z B' ((ia, IsIg prog w [("<string>", .int 1 t)]) :: own) s' → Q (.ref x) s') :
    wpAny (model prog w) A (call (.ref 163) [.ref fa, .ref pa]) Q E s := by
  refine enterC ["folders", "picked"] ["by_name"] ["picked"] ["folders"] (fun L => [("folders", L + 1)]) [("picked", .ref pa)] (fun L => [(L + 1, some (.ref fa))]) S.gr r rfl (by kernel_rfl) rfl rfl rfl (by decide +kernel) rfl rfl rfl (fun _ => rfl) (fun _ => rfl) rfl (by simp) (fun _ => rfl) ?_
  intro A' env L s₁ he S₁ r'
  have S₂ := S.join S₁
  clear S₁
  conv => arg 3; arg 1; whnf
  conv at he => arg 3; whnf
  dsimp only [varsOf, List.map, List.append_nil, List.zip, List.zipWith, List.nil_append, List.cons_append] at he S₂
  walk_at "ev"
  obtain ⟨oK, vK, hoK, poK, iK⟩ := hK
  with_reducible refine comp_assign (comp_ok he [(".0", .local), ("k", .local), ("folders", .cell)] ["k"] ["folders"] [("folders", L + 1)] (by decide +kernel) rfl (by walk_at "cl")) (fun _ => by with_unfolding_all rfl) (swaps he (by walk_at "mem") (by decide)) ?_
  walk_at "evs"
  refine ⟨Z, B, _, _, _, fun _ j ys => Texts ys (modsOf fs (ks.take j)), ⟨S₂, iters_list r'.h S₂ (IsL.isList ⟨_, S₂.keep _ _ hoK, poK⟩) (S₂.notOwnB hoK), ?_, fun _ _ _ _ _ h => h, Texts.nil, ?_⟩, ?_⟩
  · rw [iK.length, sizeLine_eq]; omega
  · rintro C env' R₂ B₂ j v ys s₃ he' hj hv hb hinv S₃
    obtain ⟨k, tk, hkj, rfl⟩ := iK.val hv
    obtain ⟨k0, k1⟩ := hk k (List.mem_of_getElem? hkj)
    obtain ⟨f, hf, hfm, ew, ep⟩ := at_fold k0 k1
    obtain ⟨oF, as, a, hfa, pfa, hla, ⟨o₂, u1, u2, u3, u4, ha₂, pa₂⟩⟩ := hF.get hf
    have htk : ks.take (j + 1) = ks.take j ++ [k] := by rw [List.take_add_one, hkj]; rfl
    dsimp only [List.map, List.cons_append, List.nil_append] at S₃
    refine wpAny_assign_Name ?_
    walk_at "evs"
    rename_i s₄ S₄
    with_reducible refine ifs1 ?_
    walk_at "evs"
    with_reducible refine item_listL (IsL.isList ⟨_, S₄.keep _ _ (hb _ _ hfa), pfa⟩) k0 (by omega) hla ?_ (by with_unfolding_all rfl) (by intro _; with_unfolding_all rfl)
    walk_at "evs"
    with_reducible refine item_tupleT (IsT.isTup ⟨_, S₄.keep _ _ (hb _ _ ha₂), pa₂⟩) (by decide) (by decide) (by with_unfolding_all rfl) (by with_unfolding_all rfl) ?_ (by with_unfolding_all rfl)
    walk_at "evs"
    split
    · rename_i c
      refine dotE (by rfl) (fun _ _ _ => ⟨_, by with_unfolding_all rfl⟩) ?_
      walk_at "evs"
      with_reducible refine item_listL (IsL.isList ⟨_, S₄.keep _ _ (hb _ _ hfa), pfa⟩) k0 (by omega) hla ?_ (by with_unfolding_all rfl) (by intro _; with_unfolding_all rfl)
      walk_at "evs"
      with_reducible refine item_tupleT (IsT.isTup ⟨_, S₄.keep _ _ (hb _ _ ha₂), pa₂⟩) (by decide) (by decide) (by with_unfolding_all rfl) (by with_unfolding_all rfl) ?_ (by with_unfolding_all rfl)
      refine ⟨_, _, rfl, by have := N.len hfm; omega, fun t' s₅ k₅ => ⟨B₂, fun _ _ e => e, ?_, ?_⟩⟩
      · rw [htk, modsOf_snoc, ew, if_pos c, ep]; exact hinv.snoc
      · have S₅ := Lg.onT S₄ k₅
        walk_at "at"
    · rename_i c
      refine ⟨B₂, fun _ _ e => e, ?_, ?_⟩
      · rw [htk, modsOf_snoc, ew, if_neg c, List.append_nil]; exact hinv
      · walk_at "at"
  · intro C D B₂ ys s₃ hb hinv hlen S₃
    rw [iK.length, List.take_length] at hinv
    dsimp only [List.map, List.cons_append, List.nil_append] at S₃
    walk_at "evs"
    rename_i s₄ S₄
    refine ⟨B₂, _, S₄, ?_⟩
    intro s₅ S₅
    obtain ⟨B₃, oM, hb₃, hoM, poM, S₆⟩ := S₅.freeze
    have hbb : ∀ b o, B b o → B₃ b o := fun b o e => hb₃ _ _ (hb _ _ e)
    walk_at "evs"
    refine callK (kp_140 _) (Lg.gr (by assumption)) ?_ (by with_unfolding_all rfl) (by with_unfolding_all rfl)
    walk_at "evs"
    with_reducible refine comp_eval (comp_ok he [(".0", .local), ("k", .local), ("folders", .cell)] ["k"] ["folders"] [("folders", L + 1)] (by decide +kernel) rfl (by walk_at "cl")) (fun _ => by with_unfolding_all rfl) ?_
    walk_at "evs"
    refine ⟨Z, B₃, _, _, _, fun _ j ys => Texts ys (dirsOf fs (ks.take j)), ⟨S₆, iters_list r'.h S₆ (IsL.isList ⟨_, S₆.keep _ _ (hbb _ _ hoK), poK⟩) (S₆.notOwnB (hbb _ _ hoK)), ?_, fun _ _ _ _ _ h => h, Texts.nil, ?_⟩, ?_⟩
    · rw [iK.length, sizeLine_eq]; omega
    · rintro C₂ env' R₂ B₄ j v ys₂ s₆ he' hj hv hb₄ hinv₂ S₇
      have hb : ∀ b o, B b o → B₄ b o := fun b o e => hb₄ _ _ (hbb _ _ e)
      obtain ⟨k, tk, hkj, rfl⟩ := iK.val hv
      obtain ⟨k0, k1⟩ := hk k (List.mem_of_getElem? hkj)
      obtain ⟨f, hf, hfm, ew, ep⟩ := at_fold k0 k1
      obtain ⟨oF, as, a, hfa, pfa, hla, ⟨o₂, u1, u2, u3, u4, ha₂, pa₂⟩⟩ := hF.get hf
      have htk : ks.take (j + 1) = ks.take j ++ [k] := by rw [List.take_add_one, hkj]; rfl
      dsimp only [List.map, List.cons_append, List.nil_append] at S₇
      refine wpAny_assign_Name ?_
      walk_at "evs"
      rename_i s₈ S₈
      with_reducible refine ifs1 ?_
      walk_at "evs"
      with_reducible refine item_listL (IsL.isList ⟨_, S₈.keep _ _ (hb _ _ hfa), pfa⟩) k0 (by omega) hla ?_ (by with_unfolding_all rfl) (by intro _; with_unfolding_all rfl)
      walk_at "evs"
      with_reducible refine item_tupleT (IsT.isTup ⟨_, S₈.keep _ _ (hb _ _ ha₂), pa₂⟩) (by decide) (by decide) (by with_unfolding_all rfl) (by with_unfolding_all rfl) ?_ (by with_unfolding_all rfl)
      walk_at "evs"
      split
      · rename_i c
        walk_at "evs"
        with_reducible refine item_listL (IsL.isList ⟨_, S₈.keep _ _ (hb _ _ hfa), pfa⟩) k0 (by omega) hla ?_ (by with_unfolding_all rfl) (by intro _; with_unfolding_all rfl)
        walk_at "evs"
        with_reducible refine item_tupleT (IsT.isTup ⟨_, S₈.keep _ _ (hb _ _ ha₂), pa₂⟩) (by decide) (by decide) (by with_unfolding_all rfl) (by with_unfolding_all rfl) ?_ (by with_unfolding_all rfl)
        refine ⟨B₄, fun _ _ e => e, ?_, ?_⟩
        · rw [htk, dirsOf_snoc, ew, if_pos c, ep]; exact hinv₂.snoc
        · walk_at "at"
      · rename_i c
        refine ⟨B₄, fun _ _ e => e, ?_, ?_⟩
        · rw [htk, dirsOf_snoc, ew, if_neg c, List.append_nil]; exact hinv₂
        · walk_at "at"
    · intro D₂ B₄ ys₂ s₆ hb₄ hinv₂ hlen₂ S₇
      rw [iK.length, List.take_length] at hinv₂
      obtain ⟨B₅, oD, hb₅, hoD, poD, S₈⟩ := S₇.freeze
      have hM' : StrL B₅ D (modsOf fs ks) := ⟨oM, ys, hb₅ _ _ (hb₄ _ _ hoM), poM, hinv⟩
      have hD' : StrL B₅ D₂ (dirsOf fs ks) := ⟨oD, ys₂, hoD, poD, hinv₂⟩
      walk_at "evs"
      dsimp only [List.nil_append]
      with_reducible refine ignore_call (r'.le (by decide)) S₈ (mods := modsOf fs ks) (dirs := dirsOf fs ks) hM' hD' (by have := modsOf_len fs ks; omega) (by have := dirsOf_len fs ks; omega) (dirsOf_good N hk) ?_
      intro B₆ x ia t s₉ hb₆ I S₉
      walk_at "evs"
      exact h B₆ x ia t _ (fun b o e => hb₆ _ _ (hb₅ _ _ (hb₄ _ _ (hbb _ _ e)))) I (S₉.drop (.cons_cons _ (.cons _ (.cons _ (.refl _)))))
end
/-! _law_told -/
def mnOf (f : Fold) : Str := dot f.path ++ Str.ofString ".y"
def toldOf (fs : List Fold) (ks : List Int) (f : Fold) : Int := told (modsOf fs ks) (dirsOf fs ks) (f.path ++ Str.ofString "/y") (mnOf f)
def toldL (fs : List Fold) (ks : List Int) : List Int := fs.map (toldOf fs ks)
def KvOk (fs : List Fold) (ks : List Int) (kvs : List (Str × Value)) : Prop := ∀ p ∈ kvs, p.1 = Str.ofString "<string>" ∨ ∃ f ∈ fs, p.1 = mnOf f ∧ ∃ t, p.2 = .int (toldOf fs ks f) t
def PIg (prog : Program) (w : World) (fs : List Fold) (ks : List Int) (o : Obj) : Prop := ∃ kvs, IsIg prog w kvs o ∧ KvOk fs ks kvs
theorem nodup_inj {α β : Type} {f : α → β} : ∀ {l : List α}, (l.map f).Nodup → ∀ {a b : α}, a ∈ l → b ∈ l → f a = f b → a = b
  | [], _, _, _, ha, _, _ => nomatch ha
  | x :: r, hn, a, b, ha, hb, e => by
    rw [List.map_cons, List.nodup_cons] at hn
    rcases List.mem_cons.mp ha with ea | ha'
    · rcases List.mem_cons.mp hb with eb | hb'
      · rw [ea, eb]
      · exact absurd (by rw [← ea, e]; exact List.mem_map_of_mem hb') hn.1
    · rcases List.mem_cons.mp hb with eb | hb'
      · exact absurd (by rw [← eb, ← e]; exact List.mem_map_of_mem ha') hn.1
      · exact nodup_inj hn.2 ha' hb' e
theorem valueAt_mem {kvs : List (Str × Value)} {k : Str} {v : Value} (h : valueAt kvs k = some v) : (k, v) ∈ kvs := by
  unfold valueAt at h
  obtain ⟨p, hp, rfl⟩ := Option.map_eq_some_iff.mp h
  have e := List.find?_some hp
  simp only [decide_eq_true_eq] at e
  subst e
  exact List.mem_of_find?_eq_some hp
section
variable {prog : Program} {w : World} {A : Around} {E : Value → Shared → Prop} {s : Shared} {Q : Value → Shared → Prop}
theorem kv_len {fs : List Fold} {ks : List Int} {kvs : List (Str × Value)} {o : Obj} (p : IsIg prog w kvs o) (k : KvOk fs ks kvs) : kvs.length ≤ fs.length + 1 := by
  obtain ⟨es, ep, _, _, _, _, hn⟩ := p
  have := hn.length_le_of_subset (l₂ := Str.ofString "<string>" :: fs.map mnOf) fun x hx => by
    obtain ⟨p, hp, rfl⟩ := List.mem_map.mp hx
    rcases k p hp with e | ⟨f, hf, e, _⟩
    · rw [e]; exact .head _
    · rw [e]; exact .tail _ (List.mem_map_of_mem hf)
  simpa using this
theorem told_call {fs : List Fold} {ks : List Int} {fa pa : Addr} (g : Gr w s.heap) (r : Rm A 8) (hF : Folders (fun b o => s.heap.get? b = some o) fa fs) (hK : IntL (fun b o => s.heap.get? b = some o) pa ks) (N : Nice fs) (h6 : fs.length ≤ 100)
    (hk : ∀ k ∈ ks, 0 ≤ k ∧ k < fs.length) (hkl : ks.length ≤ 100)
    (h : ∀ D ys s', Kp s s' → s.heap.get? D = none → (∃ o, s'.heap.get? D = some o ∧ IsL ys o) → Ints ys (toldL fs ks) → Q (.ref D) s') : wpAny (model prog w) A (call (.ref 168) [.ref fa, .ref pa]) Q E s := by
  refine enterC ["folders", "picked"] [] ["folders", "picked"] ["reader"] (fun L => [("reader", L + 1)]) [("folders", .ref fa), ("picked", .ref pa)] (fun L => [(L + 1, none)]) g r rfl (by kernel_rfl) rfl rfl rfl (by decide +kernel) rfl rfl rfl (fun _ => rfl) (fun _ => rfl) rfl (by simp) (fun _ => rfl) ?_
  intro A' env L s₁ he S₁ r'
  conv => arg 3; arg 1; whnf
  conv at he => arg 3; whnf
  dsimp only [varsOf, List.map, List.append_nil, List.zip, List.zipWith, List.nil_append, List.cons_append] at he S₁
  walk_at "evs"
  with_reducible refine reader_call r' S₁ hF hK N (by omega) hk hkl ?_
  intro B₁ x ia t s₂ hb₁ I S₂
  have S₃ : At w s B₁ ((ia, PIg prog w fs ks) :: (L, HasV [("folders", some (.ref fa)), ("picked", some (.ref pa))]) :: (L + 1, IsCell none) :: []) s₂ := S₂.weak .here (fun o p => ⟨_, p, fun q hq => by cases List.mem_singleton.mp hq; exact .inl rfl⟩)
  clear S₂
  walk_at "evs"
  with_reducible refine comp_eval (comp_ok he [(".0", .local), ("up", .local), ("path", .local), ("mode", .local), ("w", .local), ("reader", .cell)] ["up", "path", "mode", "w"] ["reader"] [("reader", L + 1)] (by decide +kernel) rfl (by walk_at "cl")) (fun _ => by with_unfolding_all rfl) ?_
  walk_at "evs"
  rename_i s₄ S₄
  obtain ⟨oF, as, hoF, poF, hlen, hat⟩ := id hF
  refine ⟨s, B₁, _, _, _, fun _ j ys => Ints ys ((fs.take j).map (toldOf fs ks)), ⟨S₄, iters_list r'.h S₄ (IsL.isList ⟨_, S₄.keep _ _ (hb₁ _ _ hoF), poF⟩) (S₄.notOwnB (hb₁ _ _ hoF)), ?_, fun _ _ _ _ _ h => h, Ints.nil, ?_⟩, ?_⟩
  · rw [List.length_map, hlen, sizeLine_eq]; omega
  · rintro C env' R₂ B₂ j v ys s₅ he' hj hv hb₂ hinv S₅
    have hjl : j < fs.length := by rw [← hlen]; simpa using hj
    have hf : fs[j]? = some fs[j] := List.getElem?_eq_getElem hjl
    have hfm : fs[j] ∈ fs := List.getElem_mem hjl
    generalize fs[j] = f at hf hfm
    obtain ⟨a, hja, rfl⟩ : ∃ a, as[j]? = some a ∧ v = .ref a := by
      rw [List.getElem?_map, Option.map_eq_some_iff] at hv
      obtain ⟨a, q1, q2⟩ := hv; exact ⟨a, q1, q2.symm⟩
    obtain ⟨o₂, u1, u2, u3, u4, ha₂, pa₂⟩ := hat j a f hja hf
    dsimp only [List.map, List.cons_append, List.nil_append] at S₅
    refine asgT r'.h S₅ (IsT.isTuple ⟨_, S₅.keep _ _ (hb₂ _ _ (hb₁ _ _ ha₂)), pa₂⟩) rfl rfl ?_
    intro s₆ S₆ k₆
    iterate 4 walk_at "aio"
    refine assignInOrder_nil ?_
    with_reducible refine ifs0 ?_
    walk_at "evs"
    rename_i s₇ S₇
    obtain ⟨dx, ma, la, od, om, i1, i2, i3, i4⟩ := id I
    refine methA S₇.gr (S₇.keep _ _ (hb₂ _ _ i1)) (S₇.keep _ _ (hb₂ _ _ i2)) i3 (by simp only [List.map]; decide) ?_
    dsimp only
    refine callK (kp_137 _) (Lg.gr (by assumption)) ?_ (by with_unfolding_all rfl) (by with_unfolding_all rfl)
    walk_at "evs"
    have hpl := N.len hfm
    have hdl := N.dots f hfm
    have l2 : (Str.ofString "/y").length = 2 := by decide
    have l3 : (Str.ofString ".y").length = 2 := by decide
    with_reducible refine oCat (by rw [l2, sizeLine_eq]; omega) ?_
    intro t₈ k₈
    iterate 2 walk_at "ev"
    refine dotE (by rfl) (fun _ _ _ => ⟨_, by with_unfolding_all rfl⟩) ?_
    walk_at "evs"
    refine ⟨_, _, rfl, by omega, fun t₉ s₉ k₉ => ?_⟩
    have S₉ := Lg.onT (by assumption) k₉
    walk_at "evs"
    with_reducible refine oCat (by rw [l3, sizeLine_eq]; omega) ?_
    intro t₁₀ k₁₀
    walk_at "evs"
    dsimp only [List.cons_append, List.nil_append]
    obtain ⟨oI, eI, kvs, pI, kI⟩ := S₉.get (a := ia) (P := PIg prog w fs ks) (by walk_at "mem")
    have S₁₀ := (S₉.upd (P' := IsIg prog w kvs) (.next .here) (fun _ _ _ e => e) eI pI).perm (List.Perm.swap _ _ _)
    have hlk := kv_len pI kI
    refine names_call (mods := modsOf fs ks) (dirs := dirsOf fs ks) (r'.le (by decide)) (Lg.on S₁₀ ⟨fun _ _ e => e, rfl, rfl⟩) (I.mono hb₂) ?_ (by omega) ?_ (by have := modsOf_len fs ks; omega) (by have := dirsOf_len fs ks; omega) ?_ ?_ ?_
    · intro v hv'
      rcases kI _ (valueAt_mem hv') with e | ⟨f', hf', e, t, et⟩
      · exact absurd e (N.str f hfm)
      · have : f = f' := nodup_inj N.inj hfm hf' e
        subst this
        exact ⟨t, et⟩
    · intro hm
      obtain ⟨k, hk', e⟩ := List.mem_map.mp hm
      obtain ⟨k0, k1⟩ := hk k (List.mem_filter.mp hk').1
      obtain ⟨f', _, hfm', _, ep⟩ := at_fold k0 k1
      rw [ep] at e
      exact N.mods f hfm f' hfm' e.symm
    · intro m hm
      obtain ⟨k, hk', rfl⟩ := List.mem_map.mp hm
      obtain ⟨k0, k1⟩ := hk k (List.mem_filter.mp hk').1
      obtain ⟨f', _, hfm', _, ep⟩ := at_fold k0 k1
      rw [ep]; have := N.dots f' hfm'; omega
    · intro m hm
      obtain ⟨rest, cs, _, q, _⟩ := dirsOf_good N hk m hm
      omega
    · intro kvs' t' s₁₁ hkv S₁₁
      have hok : KvOk fs ks kvs' := by
        rcases hkv with rfl | ⟨t, _, rfl⟩
        · exact kI
        · intro p hp
          rcases List.mem_append.mp hp with hp | hp
          · exact kI p hp
          · cases List.mem_singleton.mp hp
            exact .inr ⟨f, hfm, rfl, t, rfl⟩
      have S₁₂ := (S₁₁.weak (P' := PIg prog w fs ks) .here (fun o p => ⟨_, p, hok⟩)).perm (List.Perm.swap _ _ _)
      refine ⟨B₂, fun _ _ e => e, ?_, ?_⟩
      · rw [List.take_add_one, hf, List.map_append]; exact hinv.snoc
      · walk_at "at"
  · intro D B₂ ys s₅ hb₂ hinv hlen₂ S₅
    rw [List.length_map, hlen, List.take_length] at hinv
    walk_at "evs"
    have hbb : ∀ b o, s.heap.get? b = some o → B₂ b o := fun b o e => hb₂ _ _ (hb₁ _ _ e)
    refine h D ys _ (Lg.kp (S₅.anti hbb g.gd)) ?_ (S₅.get (by walk_at "mem")) hinv
    cases e : s.heap.get? D with
    | none => rfl
    | some o => exact absurd (hbb _ _ e) (S₅.apart (D, _) (by walk_at "mem") o)
end
/-! try: .. except ValueError: .. -/
theorem nodup_same {own : Own} (hn : (own.map (·.1)).Nodup) {a : Addr} {P P' : Obj → Prop} (h : (a, P) ∈ own) (h' : (a, P') ∈ own) : P = P' := by
  have := nodup_inj (f := fun p : Addr × (Obj → Prop) => p.1) hn h h' rfl
  exact congrArg (·.2) this
theorem HasV.slots {l : Vars} {o : Obj} {sl : Array (Option Value)} (h : HasV l o) : HasV l { o with slots := sl } := h
theorem HasV.noFields {l : Vars} {o : Obj} (h : HasV l o) : ∀ vs, o.data ≠ .fields vs := fun vs e => by
  obtain ⟨_, es, ep, hd, _⟩ := h
  rw [e] at hd; cases hd
def FrOk (own : Own) (l : List Env) : Prop := ∀ env ∈ l, env.scope.kind ≠ .module ∧ ∃ L vs, env.frame = some L ∧ (L, HasV vs) ∈ own
theorem FrOk.mem {own : Own} {l : List Env} (h : FrOk own l) {b : Addr} (hb : b ∈ l.filterMap (·.frame)) : ∃ vs, (b, HasV vs) ∈ own := by
  obtain ⟨env, he, hf⟩ := List.mem_filterMap.mp hb
  obtain ⟨_, L, vs, hL, hm⟩ := h env he
  rw [hf] at hL; cases hL
  exact ⟨vs, hm⟩
theorem ve_exc : isSubtype (.type "ValueError") (.type "BaseException") = pure true := by rw [isSubtype_type]; kernel_rfl
theorem ve_tup : isSubtype (.type ((Manifest.find? "ValueError").elim "type" fun x => x.metatype)) (.type "tuple") = pure false := by
  have : (Manifest.find? "ValueError").elim "type" (fun x => x.metatype) = "type" := by kernel_rfl
  rw [this, isSubtype_type]; kernel_rfl
theorem ve_self : isSubtype (.type "ValueError") (.type "ValueError") = pure true := by rw [isSubtype_type]; kernel_rfl
section
variable {prog : Program} {w : World} {A : Around} {E : Value → Shared → Prop} {s : Shared} {Z : Shared} {B : Fx} {own own' : Own}
theorem frames_fun (S : At w Z B own s) {h : Heap} (hk : ∀ b o, s.heap.get? b = some o → h.get? b = some o) : ∀ {l : List Env}, FrOk own l → ∀ as : List Addr, (∀ b ∈ l.filterMap (·.frame), b ∈ as) → h.FunFrames (hideAll s.heap as) l
  | [], _, _, _ => trivial
  | env :: r, hF, as, has => by
    obtain ⟨k, L, vs, hL, hm⟩ := hF env (.head _)
    obtain ⟨o, e, p⟩ := S.get hm
    have hin : L ∈ (env :: r).filterMap (·.frame) := List.mem_filterMap.mpr ⟨env, .head _, hL⟩
    refine ⟨k, ⟨L, o, hL, hideAll_none _ (has L hin), hk _ _ e, p.noFields⟩, frames_fun S hk (fun env he => hF env (.tail _ he)) as fun b hb => has b ?_⟩
    rw [List.filterMap_cons, hL]; exact .tail _ hb
/-- what stands when frames alone have got new slots -/
theorem Lg.slotted {l : List Env} {h' : Heap} {tk : Nat} (S : At w Z B own s) (hF : FrOk own l) (h1 : (hideAll s.heap (l.filterMap (·.frame))).StaysIn h') (h2 : ∀ b ∈ l.filterMap (·.frame), ∀ o, s.heap.get? b = some o → ∃ sl, h'.get? b = some { o with slots := sl }) :
    At w Z B own { s with heap := h', toks := tk } where
  gd := S.gd
  keep := fun b o e => h1 b o (hideAll_get _ (S.keep b o e) fun m => by
    obtain ⟨vs, hm⟩ := hF.mem m
    exact S.apart _ hm o e)
  has := fun p hp => by
    obtain ⟨o, e, x⟩ := S.has p hp
    by_cases m : p.1 ∈ l.filterMap (·.frame)
    · obtain ⟨vs, hm⟩ := hF.mem m
      obtain ⟨sl, e'⟩ := h2 _ m o e
      refine ⟨_, e', ?_⟩
      have : p.2 = HasV vs := nodup_same S.nodup (show (p.1, p.2) ∈ own from hp) hm
      rw [this] at x ⊢
      exact x.slots
    · exact ⟨o, h1 _ _ (hideAll_get _ e m), x⟩
  apart := S.apart
  nodup := S.nodup
  gens := S.gens
  os := S.os
theorem caughtVE {env : Env} {outer : List Env} {L e : Addr} {names : List (Str × NameKind)} {cells : List (Str × Addr)} {h₁ : Heap} {tk : Nat} {b₀ : Stmt} {suite : List Stmt} {pos np : Pos} {rest : List ExceptHandler} {Q : Flow → Shared → Prop}
    (S : At w Z B own s) (hx : Heap.NewExc s.heap h₁ e "ValueError") (hfr : A.frames = some (env :: outer)) (hf : env.frame = some L) (hF : FrOk own (env :: outer)) (he : EnvIs env L names cells) (hn : (Str.ofString "ValueError", NameKind.globalImplicit) ∈ names)
    (h : ∀ s', At w Z B own s' → wpAny (model prog w) (A.mark (some (.ref e))) (execs (b₀ :: suite) env) Q (fun _ _ => False) s') :
    wpAny (model prog w) A (noteFrame (.ref e) env) (fun _ s₂ => wpAny (model prog w) A (setFlight (.ref e) none) (fun _ s₃ =>
      wpAny (model prog w) A (handleBy (.ref e) env (.ExceptHandler (some (.Name (Str.ofString "ValueError") np)) none (b₀ :: suite) pos :: rest)) Q E s₃) E s₂) E { s with heap := h₁, toks := tk } := by
  obtain ⟨keeps, new, oe, t, e1, hc, hd⟩ := hx
  generalize hLs : (env :: outer).filterMap (·.frame) = Ls
  have hnone : (hideAll s.heap Ls).get? e = none := by
    cases q : (hideAll s.heap Ls).get? e with
    | none => rfl
    | some o => have := of_hideAll _ q; rw [new] at this; cases this
  have stays : (hideAll s.heap Ls).StaysIn h₁ := fun b o q => keeps b o (of_hideAll _ q)
  have frs := frames_fun S keeps hF Ls (by rw [hLs]; exact fun _ h => h)
  unfold noteFrame
  simp only [hf]
  refine wpAny_bind (wpAny_field e1 hd (x := .none) rfl ?_)
  rw [if_neg (by decide)]
  refine wpAny_newEntry hfr frs hf e1 stays hnone hd (by simp) fun h₂ hLeft => ?_
  obtain ⟨st2, fr2, ⟨oe2, vs2, T, oT, ts, q1, q2, q3, q4, q5, q6, q7, q8, q9⟩, up2⟩ := hLeft
  have S₂ : At w Z B own { s with heap := h₂, toks := tk } := S.slotted hF (by rw [hLs]; exact st2) fun b hb o e' => by
    obtain ⟨vs, hm⟩ := hF.mem hb
    obtain ⟨o', e'', p⟩ := S.get hm
    rw [e'] at e''; cases e''
    exact up2 b o (keeps _ _ e') p.noFields
  -- the second note of the flight turns the traceback alone
  have hT : ∀ b o, b ≠ T → h₂.get? b = some o → (h₂.update T (Obj.mapFields (·.setIfInBounds 3 .none))).get? b = some o := fun b o hb e' => (Heap.SameBut.update ..).extBut b o hb e'
  have hTown : T ∉ own.map (·.1) := fun m => by
    obtain ⟨p, hp, e'⟩ := List.mem_map.mp m
    obtain ⟨o, e'', _⟩ := S.has p hp
    rw [e'] at e''
    by_cases hb : T ∈ Ls
    · obtain ⟨vs, hm⟩ := hF.mem (hLs ▸ hb)
      obtain ⟨o', e3, p'⟩ := S₂.get hm
      rw [show ({ s with heap := h₂, toks := tk } : Shared).heap.get? T = some oT from q7] at e3
      cases e3
      exact p'.noFields _ q8
    · have := hideAll_get Ls e'' hb
      rw [q5] at this; cases this
  have hTB : ∀ o, ¬ B T o := fun o e' => by
    have e'' := S.keep _ _ e'
    by_cases hb : T ∈ Ls
    · obtain ⟨vs, hm⟩ := hF.mem (hLs ▸ hb)
      exact S.apart _ hm o e'
    · have := hideAll_get Ls e'' hb
      rw [q5] at this; cases this
  have S₃ : At w Z B own { s with heap := h₂.update T (Obj.mapFields (·.setIfInBounds 3 .none)), toks := tk } :=
    ⟨S₂.gd, fun b o e' => hT b o (fun q => hTB o (q ▸ e')) (S₂.keep b o e'), fun p hp => let ⟨o, e', x⟩ := S₂.has p hp; ⟨o, hT _ _ (fun q => hTown (by rw [← q]; exact List.mem_map_of_mem (f := (·.1)) hp)) e', x⟩, S₂.apart, S₂.nodup, S₂.gens, S₂.os⟩
  have hcls : oe2.cls = .type "ValueError" := q2.trans hc
  refine wpAny_handleBy_builtin (X := "ValueError") (T := "ValueError") (b := true) ve_exc ve_tup ve_self ?_
  refine nmB he S₂ hn (b_ValueError _) ⟨rfl, ⟨oe2, q1, hcls⟩, ?_⟩
  rw [if_pos rfl]
  refine wpAny_setFlight_none (s := { s with heap := h₂, toks := tk }) q1 q3 q4 q7 q8 (Array.getElem?_eq_some_iff.mp q9).1 ?_
  exact wpAny_mono (h _ S₃) (fun _ _ q => q) fun _ _ x => x.elim
end
/-! unorderable_list_difference -/
/-- what is left of as, and what was missed, when the items of xs are taken out one after the other -/
def ulR : List Str → List Str → List Str → List Str × List Str
  | [], as, ms => (ms, as)
  | x :: r, as, ms => if x ∈ as then ulR r (as.erase x) ms else ulR r as (ms ++ [x])
theorem eraseIdx_map' {α β : Type} (f : α → β) : ∀ (l : List α) (j : Nat), (l.map f).eraseIdx j = (l.eraseIdx j).map f
  | [], _ => rfl
  | a :: r, 0 => rfl
  | a :: r, j + 1 => by simp [eraseIdx_map' f r j]
theorem str_beq (x y : Str) : (x.cps.toList == y.cps.toList) = (x == y) := by
  rw [Bool.eq_iff_iff]
  simp only [beq_iff_eq]
  exact ⟨str_ext, fun e => by rw [e]⟩
theorem idx_spec {α : Type} [BEq α] [LawfulBEq α] {x : α} : ∀ {l : List α}, x ∈ l → ∃ j, ∃ h : j < l.length, l[j] = x ∧ (∀ i (hi : i < l.length), i < j → l[i] ≠ x) ∧ l.erase x = l.eraseIdx j
  | a :: r, h => by
    by_cases e : a = x
    · exact ⟨0, by simp, e, fun i hi q => absurd q (Nat.not_lt_zero _), by rw [List.erase_cons, e, beq_self_eq_true]; rfl⟩
    · have h' : x ∈ r := (List.mem_cons.mp h).resolve_left fun q => e q.symm
      obtain ⟨j, hj, h1, h2, h3⟩ := idx_spec h'
      refine ⟨j + 1, by simpa using hj, by simpa using h1, fun i hi q => ?_, ?_⟩
      · cases i with
        | zero => exact e
        | succ i => exact h2 i (by simpa using hi) (Nat.lt_of_succ_lt_succ q)
      · rw [List.erase_cons, beq_eq_false_iff_ne.mpr e]
        simp [h3]
theorem IsL.seq {items : Array Value} {vs : List Value} {n : Nat} {f : Array Value → Array Value} (e : f items = vs.toArray) : IsL vs (Obj.mapSeq f { cls := .type "list", data := .seq items n }) :=
  ⟨_, by unfold Obj.mapSeq; dsimp only; rw [e]⟩
section
variable {prog : Program} {w : World} {A : Around} {E : Value → Shared → Prop} {s : Shared} {Z : Shared} {B : Fx} {own own' : Own} {Q : Value → Shared → Prop}
theorem popL {a : Addr} {vs : List Value} {v : Value} (S : At w Z B own s) (u : Upd a (IsL (vs ++ [v])) (IsL vs) own own') (hz : vs.length ≤ 1000) (h : ∀ s', At w Z B own' s' → Q v s') : wpAny (model prog w) A (call (.builtin "list.pop") [.ref a]) Q E s := by
  obtain ⟨o, e, n, rfl⟩ := S.get u.mem
  refine call_meets F.slot_list_pop ⟨_, e, rfl⟩ F.entry_list_pop (F.args_list_pop_1 _) (MeetsSeq.list_pop_last a (vs ++ [v]).toArray n v (by simp) (by simp [sizeLine_eq]; omega)) ⟨e, ?_⟩
  have g1 := Heap.get?_update_self (Obj.mapSeq fun xs => xs.eraseIdxIfInBounds ((vs ++ [v]).toArray.size - 1)) e rfl
  refine h { s with heap := _ } (S.upd u (fun b o hb q => (Heap.SameBut.update ..).extBut b o hb q) g1 (IsL.seq ?_))
  show (vs ++ [v]).toArray.eraseIdxIfInBounds ((vs ++ [v]).toArray.size - 1) = vs.toArray
  simp [Array.eraseIdxIfInBounds, List.eraseIdx_append_of_length_le]
theorem remL {a : Addr} {l : List (Str × Tok)} {x : Str} {t : Tok} {own' : List (Str × Tok) → Own} (S : At w Z B own s) (hz : l.length ≤ 1000) (hm : x ∈ l.map (·.1)) (u : ∀ l', Upd a (IsL (strValues l)) (IsL (strValues l')) own (own' l'))
    (h : ∀ l' s', l'.map (·.1) = (l.map (·.1)).erase x → At w Z B (own' l') s' → Q .none s') : wpAny (model prog w) A (call (.builtin "list.remove") [.ref a, .str x t]) Q E s := by
  obtain ⟨o, e, n, rfl⟩ := S.get (u l).mem
  obtain ⟨j, hj, h1, h2, h3⟩ := idx_spec hm
  have hj' : j < l.length := by simpa using hj
  refine call_meets F.slot_list_remove ⟨_, e, rfl⟩ F.entry_list_remove (F.args_list_remove_2 _ _)
    (MeetsSeq.list_remove a (strValues l).toArray n (.str x t) (fun y => match y with | .str y _ => y == x | _ => false) (fun y hy => ?_) j (by simpa [strValues] using hj') ?_ (fun i hi hlt => ?_) (by simp [strValues, sizeLine_eq]; omega)) ⟨e, ?_⟩
  · obtain ⟨p, hp, rfl⟩ := List.mem_map.mp (List.mem_toArray.mp hy)
    have := SeqRoads2.EqGives.str p.1 x p.2 t
    rw [str_beq] at this
    exact this
  · have e1 : (strValues l).toArray[j]'(by simpa [strValues] using hj') = .str l[j].1 l[j].2 := by simp [strValues]
    rw [e1]
    simp only [List.getElem_map] at h1
    simp [h1]
  · have hi' : i < l.length := by simpa [strValues] using hi
    have e1 : (strValues l).toArray[i] = .str l[i].1 l[i].2 := by simp [strValues]
    rw [e1]
    have := h2 i (by simpa using hi') hlt
    simp only [List.getElem_map] at this
    simpa using this
  · have g1 := Heap.get?_update_self (Obj.mapSeq fun xs => xs.eraseIdxIfInBounds j) e rfl
    refine h (l.eraseIdx j) { s with heap := _ } ?_ (S.upd (u _) (fun b o hb q => (Heap.SameBut.update ..).extBut b o hb q) g1 (IsL.seq ?_))
    · rw [h3, eraseIdx_map']
    · show (strValues l).toArray.eraseIdxIfInBounds j = (strValues (l.eraseIdx j)).toArray
      simp [Array.eraseIdxIfInBounds, strValues, hj', eraseIdx_map']
theorem remNo {a : Addr} {l : List (Str × Tok)} {x : Str} {t : Tok} (hh : A.handled = none) (S : At w Z B own s) (m : (a, IsL (strValues l)) ∈ own) (hm : x ∉ l.map (·.1))
    (h : ∀ h' tk e, Heap.NewExc s.heap h' e "ValueError" → E (.ref e) { s with heap := h', toks := tk }) : wpAny (model prog w) A (call (.builtin "list.remove") [.ref a, .str x t]) Q E s := by
  obtain ⟨o, e, n, rfl⟩ := S.get m
  refine call_meets F.slot_list_remove ⟨_, e, rfl⟩ F.entry_list_remove (F.args_list_remove_2 _ _)
    (MeetsSeq.list_remove_none a (strValues l).toArray n (.str x t) (fun y => match y with | .str y _ => y == x | _ => false) (fun y hy => ?_) (fun i hi => ?_)) ⟨e, hh, h⟩
  · obtain ⟨p, hp, rfl⟩ := List.mem_map.mp (List.mem_toArray.mp hy)
    have := SeqRoads2.EqGives.str p.1 x p.2 t
    rw [str_beq] at this
    exact this
  · have hi' : i < l.length := by simpa [strValues] using hi
    have e1 : (strValues l).toArray[i] = .str l[i].1 l[i].2 := by simp [strValues]
    rw [e1]
    have : l[i].1 ≠ x := fun e => hm (e ▸ List.mem_map_of_mem (List.getElem_mem hi'))
    simpa using this
theorem ul_step {x : Str} {r as ms : List Str} : ulR (x :: r) as ms = if x ∈ as then ulR r (as.erase x) ms else ulR r as (ms ++ [x]) := rfl
theorem strValues_len (l : List (Str × Tok)) : (strValues l).length = l.length := by simp [strValues]
theorem diff_call {env₀ : Env} {ea aa : Addr} {es as : List (Str × Tok)} (r : Rm A 1) (S : At w Z B ((ea, IsL (strValues es)) :: (aa, IsL (strValues as)) :: own) s) (hfr : A.frames = some [env₀]) (hF : FrOk own [env₀]) (hel : es.length ≤ 100) (hal : as.length ≤ 100)
    (h : ∀ ta ma ms' as' s', At w Z B ((ta, IsT [.ref ma, .ref aa]) :: (ma, IsL (strValues ms')) :: (aa, IsL (strValues as')) :: own) s' → (ms'.map (·.1), as'.map (·.1)) = ulR (es.map (·.1)).reverse (as.map (·.1)) [] → Q (.ref ta) s') :
    wpAny (model prog w) A (call (.ref 28) [.ref ea, .ref aa]) Q E s := by
  refine wpAny_call (enterCodeF ["expected", "actual"] ["missing", "item"] [("expected", .ref ea), ("actual", .ref aa)] S r rfl (by kernel_rfl) rfl (BindsTo.of_eq rfl) rfl (by decide +kernel) rfl rfl ?_)
  intro A' env L s₁ he S₁ r' hA' hL
  rw [hfr] at hA'
  conv => arg 3; arg 1; whnf
  conv at he => arg 3; whnf
  dsimp only [varsOf, List.map, List.append_nil, List.nil_append, List.cons_append] at he S₁
  walk_at "evs"
  with_reducible refine newL (by assumption) ?_ (Nat.zero_le _)
  intro ma s₂ S₂ _
  walk_at "evs"
  rename_i s₃ S₃ _ _ _
  with_reducible refine wpAny_While ?_
  refine codeAny_whileLoop (fun n s₄ => ∃ (e a m : List (Str × Tok)), n = e.length ∧ e.length ≤ es.length ∧ a.length ≤ as.length ∧ m.length + e.length ≤ es.length ∧ ulR (e.map (·.1)).reverse (a.map (·.1)) (m.map (·.1)) = ulR (es.map (·.1)).reverse (as.map (·.1)) [] ∧
    At w Z B ((ma, IsL (strValues m)) :: (L, HasV [("expected", some (.ref ea)), ("actual", some (.ref aa)), ("missing", some (.ref ma)), ("item", none)]) :: (ea, IsL (strValues e)) :: (aa, IsL (strValues a)) :: own) s₄) ?_ es.length
    ⟨es, as, [], rfl, Nat.le_refl _, Nat.le_refl _, by simp, rfl, S₃⟩
  rintro n s₄ ⟨e, a, m, rfl, he1, ha1, hm1, hul, S₄⟩
  walk_at "evs"
  with_reducible refine truL (S₄.list (by walk_at "mem")) (by rw [strValues_len]; omega) ?_
  intro _
  split
  · rename_i c
    obtain ⟨e', ⟨x, tx⟩, rfl⟩ : ∃ e' q, e = e' ++ [q] := by
      rcases List.eq_nil_or_concat e with q | ⟨e', q, h⟩
      · subst q; exact absurd c (by simp [strValues])
      · exact ⟨e', q, by rw [h, List.concat_eq_append]⟩
    rw [strValues_snoc] at S₄
    rw [List.length_append, List.length_singleton] at he1 hm1
    rw [List.map_append, List.reverse_append] at hul
    walk_at "evs"
    with_reducible refine listMeth S₄ (by walk_at "mem") F.slot_list_pop F.type_list_pop ?_
    walk_at "evs"
    refine popL (own := (ma, _) :: (L, _) :: (ea, _) :: (aa, _) :: own) (Lg.on S₄ ⟨fun _ _ e => e, rfl, rfl⟩) (.next (.next .here)) (by rw [strValues_len]; omega) ?_
    intro s₅ S₅
    walk_at "evs"
    rename_i s₆ S₆
    with_reducible refine wpAny_Try_except ?_
    walk_at "evs"
    with_reducible refine listMeth S₆ (by walk_at "mem") F.slot_list_remove F.type_list_remove ?_
    walk_at "evs"
    by_cases hx : x ∈ a.map (·.1)
    · refine remL (own' := fun l' => (ma, _) :: (L, _) :: (ea, _) :: (aa, IsL (strValues l')) :: own) (Lg.on S₆ ⟨fun _ _ e => e, rfl, rfl⟩) (by omega) hx (fun l' => .next (.next (.next .here))) ?_
      intro a' s₇ hl S₇
      walk_at "evs"
      refine ⟨e'.length, by simp, e', a', m, rfl, by omega, ?_, by omega, ?_, ?_⟩
      · have := congrArg List.length hl
        simp only [List.length_map] at this
        rw [this]; exact Nat.le_trans (List.length_erase_le) (by simpa using ha1)
      · rw [hl, ← hul]; simp only [List.map_cons, List.map_nil, List.reverse_cons, List.reverse_nil, List.nil_append, List.cons_append]
        rw [ul_step, if_pos hx]
      · walk_at "at"
    · refine remNo r'.h (Lg.on S₆ ⟨fun _ _ e => e, rfl, rfl⟩) (by walk_at "mem") hx ?_
      intro h' tk e hxx
      refine caughtVE S₆ hxx hA' hL ?_ he (by walk_at "mem") ?_
      · intro env' henv
        rcases List.mem_cons.mp henv with rfl | henv
        · exact ⟨by rw [he.kind]; decide, L, _, hL, mem1⟩
        · obtain ⟨k, L', vs, q, hm⟩ := hF env' henv
          exact ⟨k, L', vs, q, .tail _ (.tail _ (.tail _ (.tail _ hm)))⟩
      · intro s₇ S₇
        walk_at "evs"
        refine appendL S₇ (.here) ?_ (by rw [strValues_len, sizeLine_eq]; omega)
        intro s₈ S₈
        walk_at "evs"
        refine ⟨e'.length, by simp, e', a, m ++ [(x, tx)], rfl, by omega, ha1, by simp; omega, ?_, ?_⟩
        · rw [← hul]; simp only [List.map_cons, List.map_nil, List.reverse_cons, List.reverse_nil, List.nil_append, List.cons_append, List.map_append]
          rw [ul_step, if_neg hx]
        · rw [strValues_snoc]
          walk_at "at"
  · rename_i c
    have e0 : e = [] := by
      have : strValues e = [] := by simpa using c
      simpa [strValues] using this
    subst e0
    walk_at "evs"
    with_reducible refine newT (by assumption) ?_ (by walk_at "sz")
    intro ta s₅ S₅ _
    refine h ta ma m a s₅ (S₅.drop (.cons_cons _ (.cons_cons _ (.cons _ (.cons _ (.refl _)))))) ?_
    rw [← hul]; rfl
end
/-! lists: +, list(..), insert, len, *, sorted, [::-1], == -/
theorem Texts.append {vs us : List Value} {xs ys : List Str} (h : Texts vs xs) (k : Texts us ys) : Texts (vs ++ us) (xs ++ ys) := by
  obtain ⟨l, rfl, rfl⟩ := h
  obtain ⟨m, rfl, rfl⟩ := k
  exact ⟨l ++ m, by simp [strValues], by simp⟩
theorem Ints.append {vs us : List Value} {xs ys : List Int} (h : Ints vs xs) (k : Ints us ys) : Ints (vs ++ us) (xs ++ ys) := by
  obtain ⟨l, rfl, rfl⟩ := h
  obtain ⟨m, rfl, rfl⟩ := k
  exact ⟨l ++ m, by simp, by simp⟩
theorem Ints.reverse {vs : List Value} {xs : List Int} (h : Ints vs xs) : Ints vs.reverse xs.reverse := by
  obtain ⟨l, rfl, rfl⟩ := h
  exact ⟨l.reverse, by simp, by simp⟩
theorem Ints.take {vs : List Value} {xs : List Int} (h : Ints vs xs) (n : Nat) : Ints (vs.take n) (xs.take n) := by
  obtain ⟨l, rfl, rfl⟩ := h
  exact ⟨l.take n, by simp, by simp⟩
theorem Ints.drop {vs : List Value} {xs : List Int} (h : Ints vs xs) (n : Nat) : Ints (vs.drop n) (xs.drop n) := by
  obtain ⟨l, rfl, rfl⟩ := h
  exact ⟨l.drop n, by simp, by simp⟩
theorem Ints.of {vs : List Value} {ns : List Int} (h : IntsAre vs ns) : Ints vs ns := by
  induction h with
  | nil => exact Ints.nil
  | cons n t _ ih =>
    obtain ⟨l, rfl, rfl⟩ := ih
    exact ⟨(n, t) :: l, rfl, rfl⟩
def insAt {α : Type} (l : List α) (i : Nat) (x : α) : List α := l.take i ++ x :: l.drop i
theorem Ints.ins {vs : List Value} {xs : List Int} (h : Ints vs xs) (i : Nat) (n : Int) (t : Tok) : Ints (insAt vs i (.int n t)) (insAt xs i n) :=
  (h.take i).append (by obtain ⟨l, e, q⟩ := h.drop i; exact ⟨(n, t) :: l, by rw [e]; rfl, by rw [List.map_cons, q]⟩)
def repT {α : Type} (n : Nat) (x : α) : List α := List.replicate n x
section
variable {prog : Program} {w : World} {A : Around} {E : Value → Shared → Prop} {s : Shared} {Z : Shared} {B : Fx} {own own' : Own} {Q : Value → Shared → Prop}
theorem IsL.at {h : Heap} {a : Addr} {vs : List Value} (e : ∃ o, h.get? a = some o ∧ IsL vs o) : ∃ n, PySem.IsL h a vs.toArray n := let ⟨o, e, n, p⟩ := e; ⟨n, by rw [p] at e; exact e⟩
theorem addLL {a b : Addr} {vs us : List Value} (S : At w Z B own s) (ha : ∃ o, s.heap.get? a = some o ∧ IsL vs o) (hb : ∃ o, s.heap.get? b = some o ∧ IsL us o) (hz : vs.length + us.length ≤ 1000) (h : ∀ c s', At w Z B ((c, IsL (vs ++ us)) :: own) s' → Q (.ref c) s') :
    wpAny (model prog w) A (binaryOp .Add (.ref a) (.ref b)) Q E s := by
  obtain ⟨n, ea⟩ := IsL.at ha
  obtain ⟨m, eb⟩ := IsL.at hb
  refine P.add_list ea eb ?_ (by rw [List.size_toArray, List.size_toArray, sizeLine_eq]; omega)
  exact h _ { s with heap := _ } (S.addPush _ ⟨0, by simp⟩)
theorem copyLL {a : Addr} {vs : List Value} (S : At w Z B own s) (ha : ∃ o, s.heap.get? a = some o ∧ IsL vs o) (hz : vs.length ≤ 1000) (h : ∀ c s', At w Z B ((c, IsL vs) :: own) s' → Q (.ref c) s') : wpAny (model prog w) A (call (.type "list") [.ref a]) Q E s := by
  obtain ⟨o, e, n, rfl⟩ := ha
  refine call_list_seq (T := "list") a (.inl rfl) e rfl rfl (fun h' c' hk hc => ?_) (by rw [List.size_toArray, sizeLine_eq]; omega)
  exact h _ { s with heap := h' } (S.add (none_of_le (Nat.le_refl _)) hk hc ⟨c', rfl⟩)
theorem insLL {a : Addr} {vs : List Value} {i : Nat} {n : Int} {t u : Tok} (S : At w Z B own s) (hi : i ≤ vs.length) (hz : vs.length ≤ 1000) (up : Upd a (IsL vs) (IsL (insAt vs i (.int n u))) own own') (h : ∀ s', At w Z B own' s' → Q .none s') :
    wpAny (model prog w) A (call (.builtin "list.insert") [.ref a, .int i t, .int n u]) Q E s := by
  obtain ⟨o, e, m, rfl⟩ := S.get up.mem
  obtain ⟨x, hx⟩ : ∃ x : Int, x = i := ⟨_, rfl⟩
  rw [← hx]
  have fits : ¬(!Builtin.List.listFitsIndex x) = true := by
    have : x < 2 ^ 63 := by omega
    unfold Builtin.List.listFitsIndex
    simp
    omega
  refine call_meets F.slot_list_insert ⟨_, e, rfl⟩ F.entry_list_insert (F.args_list_insert_3 _ _ _) (AutoListH.list_insert_list_int_int_1 a vs.toArray m x t n u fits (by rw [List.size_toArray, sizeLine_eq]; omega)) ⟨e, ?_⟩
  have g1 := Heap.get?_update_self (Obj.mapSeq fun xs => have k := if x < 0 then (x + ((xs.size : Nat) : Int)).toNat else min x.toNat xs.size; (xs.extract 0 k).push (Value.int n u) ++ xs.extract k) e rfl
  refine h { s with heap := _ } (S.upd up (fun b o hb q => (Heap.SameBut.update ..).extBut b o hb q) g1 (IsL.seq ?_))
  have h0 : ¬ (x < 0) := by omega
  have h1 : x.toNat = i := by omega
  simp only [h0, if_false, h1, List.size_toArray, Nat.min_eq_left hi]
  simp [insAt, List.extract_eq_take_drop, List.take_of_length_le]
theorem lenLL {a : Addr} {vs : List Value} {h : Heap} {gs : Array GenState} {d : Drawn} {k : Nat} {os : OsState} (ha : ∃ o, h.get? a = some o ∧ IsL vs o) (hz : vs.length ≤ 1000) (hq : ∀ t k, Q (.int vs.length t) ⟨h, gs, d, k, os⟩) : wpAny (model prog w) A (call (.builtin "len") [.ref a]) Q E ⟨h, gs, d, k, os⟩ := by
  refine Calls.call_len_list (IsL.isList ha) (by rw [List.size_toArray]; omega) ?_
  rw [List.size_toArray]; exact hq _ _
theorem mulLL {a : Addr} {v : Value} {n : Nat} {t : Tok} (S : At w Z B own s) (ha : ∃ o, s.heap.get? a = some o ∧ IsL [v] o) (hz : n ≤ 1000) (h : ∀ c s', At w Z B ((c, IsL (List.replicate n v)) :: own) s' → Q (.ref c) s') :
    wpAny (model prog w) A (binaryOp .Mult (.ref a) (.int n t)) Q E s := by
  obtain ⟨o, e, k, rfl⟩ := ha
  have hf : ∀ m, (List.foldl (fun x1 x2 => x1 ++ x2) #[] (List.replicate m #[v])) = (List.replicate m v).toArray := by
    intro m
    induction m with
    | zero => rfl
    | succ m ih => rw [List.replicate_succ', List.foldl_append, ih, List.replicate_succ']; rw [List.foldl_cons, List.foldl_nil, List.append_toArray]
  obtain ⟨x, hx⟩ : ∃ x : Int, x = n := ⟨_, rfl⟩
  rw [← hx]
  refine wpAny_binaryOp_repeat_ref (T := "list") (U := "int") (by decide) ⟨_, e, rfl⟩ (fun s' => typeIs_int s' x t) noFill_list_mul F.fills_int_mul F.slot_int_rmul repeat_list F.slot_int_index.lookup
    (call_meets F.slot_int_rmul (typeIs_int s x t) F.entry_int_rmul (F.args_int_rmul_2 _ _) (int___rmul___int_list x t a [v].toArray k)
      ⟨e, rfl, ⟨_, e, rfl⟩, call_meets F.slot_list_mul ⟨_, e, rfl⟩ F.entry_list_mul (F.args_list_mul_2 _ _)
        (AutoListH.list___mul___list_int_3 a [v].toArray k x t (by simp [Builtin.List.listFitsIndex]; omega) (by simp; omega) (by simp [Builtin.List.listTooLong, sizeLine]; omega))
        ⟨e, ?_⟩⟩)
  refine h _ { s with heap := _ } (S.addPush _ ⟨0, ?_⟩)
  have h1 : x.toNat = n := by omega
  have := hf n
  simp [h1] at this ⊢
  exact this
theorem sortLL {a : Addr} {vs : List Value} {ns : List Int} (S : At w Z B own s) (ha : ∃ o, s.heap.get? a = some o ∧ IsL vs o) (hi : Ints vs ns) (hz : vs.length < 64) (h : ∀ c us ms s', At w Z B ((c, IsL us) :: own) s' → Ints us ms → ms.Perm ns → ms.Pairwise (· ≤ ·) → Q (.ref c) s') :
    wpAny (model prog w) A (call (.builtin "sorted") [.ref a]) Q E s := by
  refine sorted_ints (IsL.isList ha) hi.are hz fun out ns' a1 a2 a3 => ?_
  obtain ⟨e, he⟩ := sortedAll_at s.heap vs out
  refine h _ out.toList ns' { s with heap := _ } (S.add (o := seqObj "list" out e) (none_of_le (Nat.le_succ _)) (fun _ _ => sortedAll_old) he ⟨e, by simp [seqObj]⟩) (Ints.of a1) a2 a3
theorem revLL {value slice : Expr} {a sl : Addr} {vs : List Value} {t : Tok} {ops : List Value} (S : At w Z B own s) (ha : ∃ o, s.heap.get? a = some o ∧ IsL vs o) (hs : s.heap.IsSliceOf sl .none .none (.int (-1) t)) (hz : vs.length ≤ 1000)
    (hsub : subscripted slice false (.ref a) (.ref sl) = operate ops (getItem (.ref a) (.ref sl))) (h : ∀ D s', At w Z B ((D, IsL vs.reverse) :: own) s' → Q (.ref D) s') : wpAny (model prog w) A (subscriptTail value slice (.ref a) (.ref sl)) Q E s :=
  sliceL S (IsL.isList ha) hs .none .none (.int _ _) (by decide) (by rw [sizeLine_eq]; omega) hsub fun D s' S' => by
    have e : (slicePick vs.toArray none none (some (-1))).toList = vs.reverse := by rw [krv_pick]
    rw [e] at S'
    exact h D s' S'
end
/-! == and != of lists of texts, of lists of numbers, of pairs of lists of texts -/
def OkS (xs : List Str) : Prop := xs.all PyData.strOk = true
theorem OkS.mem {xs : List Str} (h : OkS xs) {x : Str} (m : x ∈ xs) : PyData.strOk x = true := List.all_eq_true.mp h x m
theorem OkS.of {xs : List Str} (h : ∀ x ∈ xs, PyData.strOk x = true) : OkS xs := List.all_eq_true.mpr h
theorem Texts.readsA {vs : List Value} {xs : List Str} (h : Texts vs xs) (hp : Heap) : ReadsAll hp vs (xs.map .str) [] := by
  obtain ⟨l, rfl, rfl⟩ := h
  induction l with
  | nil => exact .nil
  | cons p l ih => exact ReadsAll.cons (as := []) (.str p.1 p.2) ih
theorem Texts.reads {vs : List Value} {xs : List Str} (h : Texts vs xs) {hp : Heap} {a : Addr} (e : ∃ o, hp.get? a = some o ∧ IsL vs o) : Reads hp (.ref a) (.list (xs.map .str)) [a] := by
  obtain ⟨o, e, n, rfl⟩ := e
  exact Reads.list e rfl rfl (h.readsA hp)
theorem shapedS {xs : List Str} (h : OkS xs) : SeqAt.shaped (.list (xs.map .str)) = true := by
  simp only [SeqAt.shaped, PyData.canLay0, canLayAll_strs', PyData.depth, depthAll_strs', Bool.and_eq_true, decide_eq_true_eq]
  exact ⟨h, by decide⟩
theorem hasS (xs : List Str) : (Spec.Shape.list .str).has (.list (xs.map .str)) = true := list_map_has fun _ => rfl
theorem sameAllS : ∀ xs ys : List Str, PySem.Spec.sameAll (xs.map PyData.str) (ys.map PyData.str) = decide (xs = ys)
  | [], [] => by simp [PySem.Spec.sameAll]
  | [], _ :: _ => by simp [PySem.Spec.sameAll]
  | _ :: _, [] => by simp [PySem.Spec.sameAll]
  | a :: r, b :: t => by
    simp only [List.map_cons, PySem.Spec.sameAll, PySem.Spec.same, sameAllS r t]
    by_cases h : a = b <;> by_cases h' : r = t <;> simp [h, h']
theorem sameS (xs ys : List Str) : PySem.Spec.same (.list (xs.map PyData.str)) (.list (ys.map PyData.str)) = decide (xs = ys) := by
  simp only [PySem.Spec.same]; exact sameAllS xs ys
section
variable {prog : Program} {w : World} {A : Around} {E : Value → Shared → Prop} {s : Shared} {a b : Addr} {vs us : List Value} {xs ys : List Str} {Q : Value → Shared → Prop}
theorem ne_texts (r : Rm A 7) (ha : ∃ o, s.heap.get? a = some o ∧ IsL vs o) (hb : ∃ o, s.heap.get? b = some o ∧ IsL us o) (hx : Texts vs xs) (hy : Texts us ys) (ox : OkS xs) (oy : OkS ys) (h : Q (.bool (!decide (xs = ys))) s) :
    wpAny (model prog w) A (compareOp .NotEq (.ref a) (.ref b)) Q E s :=
  ne_dataH_same (hx.reads ha) (hy.reads hb) (shapedS ox) (shapedS oy) r.units (SeqAt.noMix_of_shape (.list .str) rfl _ _ (hasS _) (hasS _)) (by rw [sameS]; exact h)
theorem eq_intsL {ns ms : List Int} (r : Rm A 7) (ha : ∃ o, s.heap.get? a = some o ∧ IsL vs o) (hb : ∃ o, s.heap.get? b = some o ∧ IsL us o) (hx : Ints vs ns) (hy : Ints us ms) (h : Q (.bool (decide (ns = ms))) s) :
    wpAny (model prog w) A (compareOp .Eq (.ref a) (.ref b)) Q E s := ke_eq_ints (IsL.isList ha) (IsL.isList hb) hx.are hy.are r.units h
theorem ne_intsL {ns ms : List Int} (r : Rm A 7) (ha : ∃ o, s.heap.get? a = some o ∧ IsL vs o) (hb : ∃ o, s.heap.get? b = some o ∧ IsL us o) (hx : Ints vs ns) (hy : Ints us ms) (h : Q (.bool (!decide (ns = ms))) s) :
    wpAny (model prog w) A (compareOp .NotEq (.ref a) (.ref b)) Q E s := ke_ne_ints (IsL.isList ha) (IsL.isList hb) hx.are hy.are r.units h
/-- a pair of lists of texts -/
structure PairAt (h : Heap) (t : Addr) (xs ys : List Str) : Prop where
  pair : ∃ o, h.get? t = some o ∧ ∃ p q vs us, IsT [.ref p, .ref q] o ∧ (∃ o, h.get? p = some o ∧ IsL vs o) ∧ (∃ o, h.get? q = some o ∧ IsL us o) ∧ Texts vs xs ∧ Texts us ys
theorem PairAt.reads {h : Heap} {t : Addr} {xs ys : List Str} (H : PairAt h t xs ys) : ∃ as, Reads h (.ref t) (.tuple [.list (xs.map .str), .list (ys.map .str)]) as := by
  obtain ⟨o, e, p, q, vs, us, ⟨n, rfl⟩, ep, eq, hx, hy⟩ := H.pair
  exact ⟨_, Reads.tuple e rfl rfl (ReadsAll.cons (hx.reads ep) (ReadsAll.cons (hy.reads eq) .nil))⟩
theorem shapedT {xs ys : List Str} (hx : OkS xs) (hy : OkS ys) : SeqAt.shaped (.tuple [.list (xs.map .str), .list (ys.map .str)]) = true := by
  simp only [SeqAt.shaped, PyData.canLay0, PyData.canLayAll0, canLayAll_strs', PyData.depth, PyData.depthAll, depthAll_strs', Bool.and_eq_true, decide_eq_true_eq]
  exact ⟨⟨hx, hy, trivial⟩, by decide⟩
theorem hasT (xs ys : List Str) : (Spec.Shape.tuple [.list .str, .list .str]).has (.tuple [.list (xs.map .str), .list (ys.map .str)]) = true := by
  have h1 := hasS xs
  have h2 := hasS ys
  simp [Spec.Shape.has, Spec.Shape.hasAll] at h1 h2 ⊢
theorem sameT (xs ys xs' ys' : List Str) : PySem.Spec.same (.tuple [.list (xs.map PyData.str), .list (ys.map PyData.str)]) (.tuple [.list (xs'.map PyData.str), .list (ys'.map PyData.str)]) = decide ((xs, ys) = (xs', ys')) := by
  have h1 := sameS xs xs'
  have h2 := sameS ys ys'
  simp only [PySem.Spec.same, PySem.Spec.sameAll] at h1 h2 ⊢
  rw [h1, h2]
  by_cases h : xs = xs' <;> by_cases h' : ys = ys' <;> simp [h, h']
theorem eq_pair {xs' ys' : List Str} (r : Rm A 7) (ha : PairAt s.heap a xs ys) (hb : PairAt s.heap b xs' ys') (o1 : OkS xs) (o2 : OkS ys) (o3 : OkS xs') (o4 : OkS ys') (h : Q (.bool (decide ((xs, ys) = (xs', ys')))) s) :
    wpAny (model prog w) A (compareOp .Eq (.ref a) (.ref b)) Q E s := by
  obtain ⟨_, ra⟩ := ha.reads
  obtain ⟨_, rb⟩ := hb.reads
  exact eq_dataH_same ra rb (shapedT o1 o2) (shapedT o3 o4) r.units (SeqAt.noMix_of_shape (.tuple [.list .str, .list .str]) rfl _ _ (hasT _ _) (hasT _ _)) (by rw [sameT]; exact h)
theorem ne_pair {xs' ys' : List Str} (r : Rm A 7) (ha : PairAt s.heap a xs ys) (hb : PairAt s.heap b xs' ys') (o1 : OkS xs) (o2 : OkS ys) (o3 : OkS xs') (o4 : OkS ys') (h : Q (.bool (!decide ((xs, ys) = (xs', ys')))) s) :
    wpAny (model prog w) A (compareOp .NotEq (.ref a) (.ref b)) Q E s := by
  obtain ⟨_, ra⟩ := ha.reads
  obtain ⟨_, rb⟩ := hb.reads
  exact ne_dataH_same ra rb (shapedT o1 o2) (shapedT o3 o4) r.units (SeqAt.noMix_of_shape (.tuple [.list .str, .list .str]) rfl _ _ (hasT _ _) (hasT _ _)) (by rw [sameT]; exact h)
end
/-! law: its statements one by one -/
section
variable {prog : Program} {w : World} {A : Around} {E : Value → Shared → Prop} {s : Shared} {Q : Value → Shared → Prop}
theorem enterCF {f : Addr} {fd : FuncData} {body : List Stmt} {args : List Value} (ps rest lps cn : List Str) (cells : Addr → List (Str × Addr)) (lb : List (Str × Value)) (cv : Addr → List (Addr × Option Value)) {k : Nat} {oc : Value} {od : Option Addr}
    {osl : Array (Option Value)} (g : Gr w s.heap) (r : Rm A (k + 1)) (hK : (KH w.params).lookup f = some ⟨oc, od, .func fd, osl⟩) (hcd : codeIn (KH w.params) fd.code fd.qualname = true) (hbody : fd.body = .stmts body)
    (hbind : bindArgs fd ⟨args, []⟩ = pure (ps.zip args)) (hps : (ps.zip args).map (·.1) = ps) (hok : enterCOk fd.scope ps rest lps cn = true) (hclo : fd.closure = []) (hgl : fd.globals = mainGlobals) (hbi : fd.builtins = builtinsNs)
    (hcs : ∀ L, cellsFrom (L + 1) fd.scope.names [] = cells L) (hcn : ∀ L, (cells L).map (·.1) = cn) (hlb : lb.map (·.1) = lps) (hlm : ∀ p ∈ lb, p ∈ ps.zip args) (hcv : ∀ L, (cells L).map (fun p => (p.2, (ps.zip args).lookup p.1)) = cv L)
    (h : ∀ A' env L s₁, EnvIs env L fd.scope.names (cells L) → At w s (fun b o => s.heap.get? b = some o) ((L, HasV (varsOf lb rest)) :: (cv L).map (fun p => (p.1, IsCell p.2))) s₁ → Rm A' k → A'.frames = A.frames.map (env :: ·) → env.frame = some L →
      wpAny (model prog w) A' (execs body env) (fun fl s' => Q (retOf fl) s') (fun _ _ => False) s₁) :
    wpAny (model prog w) A (call (.ref f) args) Q E s := by
  simp only [enterCOk, Bool.and_eq_true, decide_eq_true_eq] at hok
  obtain ⟨⟨⟨⟨⟨⟨hsc, hpk⟩, hpn⟩, hln⟩, hll⟩, hcl⟩, hcnn⟩ := hok
  have hk := scope_kind hsc
  have hnm : namesOk fd.scope.names = true := by simp only [scopeOk, Bool.and_eq_true] at hsc; exact hsc.1.1.1
  have hlook : ∀ L x c, (x, c) ∈ cells L → (cells L).lookup x = some c := fun L x c m => lookup_nodup (by rw [hcn]; exact hcnn) m
  refine wpAny_call (codeAny_call_cells (fd := fd) (body := body) (binds := ps.zip args) (by have := r.d; omega) (g.k _ _ hK) rfl g.nolim (codeRec_of g.k hcd) hbody hbind hclo (fun x hx => ?_) (fun s₁ X => ?_)
    (by simp only [scopeOk, Bool.and_eq_true, Bool.not_eq_true'] at hsc; exact hsc.1.1.2) (by simp only [scopeOk, Bool.and_eq_true, Bool.not_eq_true'] at hsc; exact hsc.1.2) hk)
  · have hx1 : x.1 ∈ ps := by rw [← hps]; exact List.mem_map_of_mem hx
    have := List.all_eq_true.mp hpk _ hx1
    simp only [Bool.or_eq_true, Bool.and_eq_true, beq_iff_eq, List.contains_iff_mem] at this
    rcases this with a | ⟨a, b⟩
    · exact .inl a
    · refine .inr ⟨a, ?_⟩
      rw [hcs]
      obtain ⟨p, hp, e⟩ := List.mem_map.mp ((hcn s.heap.objs.size) ▸ b)
      rw [hlook _ x.1 p.2 (by rw [← e]; exact hp)]; rfl
  · have hcells : (callEnvC fd s.heap.objs.size f).cells = cells s.heap.objs.size := hcs _
    have hkof : ∀ x, (callEnvC fd s.heap.objs.size f).kindOf x = fd.scope.names.lookup x := fun x => rfl
    refine wpAny_mono (h _ _ s.heap.objs.size _ ⟨hk, rfl, hgl, hbi, (names_kof hnm).1, (names_kof hnm).2, fun x c m => by rw [hcells]; exact hlook _ x c m⟩ ?_ (r.deeper _) rfl rfl) (fun fl s' q => ?_) fun _ _ x => x.elim
    · obtain ⟨X0, Xc, Xa, Xl⟩ := X
      obtain ⟨hp, tk, hsame⟩ := X0.same
      have hcell : ∀ p ∈ cells s.heap.objs.size, s₁.heap.IsCell p.2 ((ps.zip args).lookup p.1) := fun p hp => by
        have := Xc p.1 p.2 (by rw [hcells]; exact hlook _ _ _ hp)
        rw [bindC_lookup _ _ _ _ (by rw [hps]; exact hpn) (by
          rw [hkof]
          have := List.all_eq_true.mp hcl p.1 (by rw [← hcn s.heap.objs.size]; exact List.mem_map_of_mem hp)
          rw [beq_iff_eq.mp this]; intro e; cases e) rfl] at this
        exact this
      have hown : (cv s.heap.objs.size).map (fun p => (p.1, IsCell p.2)) = (cells s.heap.objs.size).map (fun p => (p.2, IsCell ((ps.zip args).lookup p.1))) := by rw [← hcv, List.map_map]; rfl
      rw [hown]
      have hlt : ∀ p ∈ cells s.heap.objs.size, s.heap.objs.size < p.2 := fun p hp => Xl p.1 p.2 (by rw [hcells]; exact hp)
      have hX0 := X0.ns
      obtain ⟨o, es, ep, e, hd, hks, hv⟩ := hX0
      refine ⟨g.gd, fun b o e => X0.keep b o e, fun p hp => ?_, fun p hp o' e' => ?_, ?_, by rw [hsame], by rw [hsame]⟩
      · rcases List.mem_cons.mp hp with rfl | hp
        · refine ⟨o, e, by rw [varsOf_keys, hlb]; exact hln, es, ep, hd, hks, fun x v m => (hv x).trans ?_⟩
          have hm := varsOf_mem m
          refine bindL_mem _ _ _ x v (by rw [hps]; exact hpn) (hlm _ hm) ?_
          rw [hkof]
          have := List.all_eq_true.mp hll x (by rw [← hlb]; exact List.mem_map_of_mem (f := (·.1)) hm)
          exact beq_iff_eq.mp this
        · obtain ⟨q, hq, rfl⟩ := List.mem_map.mp hp
          exact hcell q hq
      · rcases List.mem_cons.mp hp with rfl | hp
        · exact absurd (Heap.lt_size e') (Nat.lt_irrefl _)
        · obtain ⟨q, hq, rfl⟩ := List.mem_map.mp hp
          exact absurd (Heap.lt_size e') (Nat.not_lt.mpr (Nat.le_of_lt (hlt q hq)))
      · rw [List.map_cons, List.nodup_cons, List.map_map]
        refine ⟨fun m => ?_, ?_⟩
        · obtain ⟨q, hq, e'⟩ := List.mem_map.mp m
          exact absurd (show q.2 = s.heap.objs.size from e') (Nat.ne_of_gt (hlt q hq))
        · have hap : (cells s.heap.objs.size).Pairwise fun x y => x.2 ≠ y.2 := by have := Xa; rw [hcells] at this; exact this
          exact List.pairwise_map.mpr hap
    · cases fl <;> exact q
end
noncomputable def lawB : List Stmt := defBody (stAt 43)
noncomputable def lawS (n : Nat) : Stmt := match lawB[n]? with
  | some s => s
  | none => .Pass ⟨0, 0, 0, 0⟩
theorem lawB_eq : lawB = [lawS 0, lawS 1, lawS 2, lawS 3, lawS 4, lawS 5, lawS 6, lawS 7, lawS 8, lawS 9, lawS 10, lawS 11, lawS 12, lawS 13] := by kernel_rfl
noncomputable def lawN : List (Str × NameKind) := (defScope (stAt 43)).names
/-! law: numbers, folders, rows and their check -/
def lawC (L : Addr) : List (Str × Addr) := [("kept", L + 6), ("shown", L + 5), ("k", L + 4), ("order", L + 3), ("rows", L + 2), ("folders", L + 1)]
def lawO (L : Addr) (sc nu ah fi le ab ma to fo ro od k sh ke : Option Value) : Own :=
  [(L, HasV [("script", sc), ("numbers", nu), ("ahead", ah), ("fits", fi), ("left", le), ("above", ab), ("many", ma), ("told", to)]), (L + 6, IsCell ke), (L + 5, IsCell sh), (L + 4, IsCell k), (L + 3, IsCell od), (L + 2, IsCell ro), (L + 1, IsCell fo)]
/-- the given list -/
def ArgL (B : Fx) (a : Addr) (ns : List Int) : Prop := ∃ o vs n, B a o ∧ o.cls = .type "list" ∧ o.data = .seq vs.toArray n ∧ Ints vs ns
def rowsL (fs : List Fold) : List Str := fs.map (fun f => fmRow f.mode) ++ [fmRow 0]
def rowsR (fs : List Fold) : List Str := fs.map (fun f => lrRow f.mode 3) ++ [("?---------" : Str)]
def Sq (o : Obj) : Prop := ∃ vs n, o.data = .seq vs n
theorem IsL.sq {vs : List Value} {o : Obj} (h : IsL vs o) : Sq o := let ⟨_, e⟩ := h; ⟨_, _, by rw [e]⟩
theorem IsT.sq {vs : List Value} {o : Obj} (h : IsT vs o) : Sq o := let ⟨_, e⟩ := h; ⟨_, _, by rw [e]⟩
theorem IntL.sq {B B' : Fx} {a : Addr} {ns : List Int} (h : IntL B a ns) (k : ∀ b o, B b o → Sq o → B' b o) : IntL B' a ns := let ⟨o, vs, e, p, i⟩ := h; ⟨o, vs, k _ _ e p.sq, p, i⟩
theorem StrL.sq {B B' : Fx} {a : Addr} {ns : List Str} (h : StrL B a ns) (k : ∀ b o, B b o → Sq o → B' b o) : StrL B' a ns := let ⟨o, vs, e, p, i⟩ := h; ⟨o, vs, k _ _ e p.sq, p, i⟩
theorem Folders.sq {B B' : Fx} {a : Addr} {fs : List Fold} (h : Folders B a fs) (k : ∀ b o, B b o → Sq o → B' b o) : Folders B' a fs :=
  let ⟨o, as, e, p, l, q⟩ := h; ⟨o, as, k _ _ e p.sq, p, l, fun i a f h1 h2 => let ⟨o', t1, t2, t3, t4, e', p'⟩ := q i a f h1 h2; ⟨o', t1, t2, t3, t4, k _ _ e' p'.sq, p'⟩⟩
theorem FitsAt.sq {B B' : Fx} {a : Addr} {ft : List (List Int)} (h : FitsAt B a ft) (k : ∀ b o, B b o → Sq o → B' b o) : FitsAt B' a ft :=
  let ⟨o, as, e, p, l, q⟩ := h; ⟨o, as, k _ _ e p.sq, p, l, fun i a f h1 h2 => (q i a f h1 h2).sq k⟩
theorem lawAll {w : World} {Z s : Shared} {B : Fx} {L : Addr} {sc nu ah fi le ab ma to fo ro od k sh ke : Option Value} (S : At w Z B (lawO L sc nu ah fi le ab ma to fo ro od k sh ke) s) :
    ∃ B₂ : Fx, (∀ b o, B b o → B₂ b o) ∧ (∀ b o, s.heap.get? b = some o → Sq o → B₂ b o) ∧ At w Z B₂ (lawO L sc nu ah fi le ab ma to fo ro od k sh ke) s := by
  refine ⟨_, S.sub_all, fun b o e q => ⟨e, fun m => ?_⟩, S.all⟩
  obtain ⟨p, hp, rfl⟩ := List.mem_map.mp m
  obtain ⟨o', e', y⟩ := S.has p hp
  rw [e] at e'; cases e'
  obtain ⟨vs, n, hq⟩ := q
  simp only [lawO, List.mem_cons, List.not_mem_nil, or_false] at hp
  rcases hp with rfl | rfl | rfl | rfl | rfl | rfl | rfl
  · obtain ⟨_, es, ep, hd, _⟩ := y; rw [hd] at hq; cases hq
  all_goals (have y' : o.data = _ := y; rw [y'] at hq; cases hq)
section
variable {prog : Program} {w : World} {A : Around} {E : Value → Shared → Prop} {s : Shared} {Q : Flow → Shared → Prop} {Z : Shared} {B : Fx} {own : Own} {env : Env} {L : Addr} {sc nu ah fi le ab ma to fo ro od k sh ke : Option Value}
theorem lawS0 {la : Addr} {ns : List Int} (he : EnvIs env L lawN (lawC L)) (r : Rm A 8) (S : At w Z B (lawO L (some (.ref la)) nu ah fi le ab ma to fo ro od k sh ke) s) (hN : ArgL B la ns) (hl : ns.length ≤ 1000)
    (h : ∀ B' na ms s', (∀ b o, B b o → B' b o) → IntL B' na ms → ms.length ≤ ns.length → At w Z B' (lawO L (some (.ref la)) (some (.ref na)) ah fi le ab ma to fo ro od k sh ke) s' → Q .next s') : wpAny (model prog w) A (exec (lawS 0) env) Q E s := by
  conv => arg 3; arg 1; whnf
  conv at he => arg 3; whnf
  dsimp only [lawC, lawO] at he S h
  obtain ⟨on, vn, nn, hon, pon, dn, in'⟩ := id hN
  walk_at "evs"
  with_reducible refine sliceE ?_
  with_reducible refine wpAny_evalPart_none ?_
  with_reducible refine wpAny_evalPart_some ?_
  walk_at "evs"
  with_reducible refine wpAny_evalPart_none ?_
  intro sl s₁ hsl k₁
  have S₁ := Lg.onT (by assumption) k₁
  have hls : s₁.heap.IsList la vn.toArray := ⟨on, S₁.keep _ _ hon, pon, nn, dn⟩
  with_reducible refine sliceL S₁ hls hsl .none (.int _ _) .none (by decide) (by rw [in'.length, sizeLine_eq]; omega) (by with_unfolding_all rfl) ?_
  intro D s₂ S₂
  obtain ⟨ms, im⟩ := in'.sub (pick_mem (vs := vn) (lo := none) (hi := some 24) (st := none))
  have hlen : ms.length ≤ ns.length := by
    rw [← im.length, ← in'.length]
    have := slicePick_size_le vn.toArray none (some 24) none
    simpa using this
  obtain ⟨B₂, oD, hb₂, hoD, pD, S₃⟩ := S₂.freeze
  walk_at "evs"
  exact h B₂ D ms _ hb₂ ⟨_, _, hoD, pD, im⟩ hlen (by assumption)
theorem lawS1 {na : Addr} {ns : List Int} (he : EnvIs env L lawN (lawC L)) (r : Rm A 8) (S : At w Z B (lawO L sc (some (.ref na)) ah fi le ab ma to fo ro od k sh ke) s) (hN : IntL B na ns) (hl : ns.length ≤ 1000)
    (h : ∀ B' fa fs s', (∀ b o, B b o → B' b o) → Folders B' fa fs → Tree fs → fs.length = 6 → At w Z B' (lawO L sc (some (.ref na)) ah fi le ab ma to (some (.ref fa)) ro od k sh ke) s' → Q .next s') : wpAny (model prog w) A (exec (lawS 1) env) Q E s := by
  conv => arg 3; arg 1; whnf
  conv at he => arg 3; whnf
  dsimp only [lawC, lawO] at he S h
  walk_at "evs"
  refine tree_call (Lg.gr S) (r.le (by decide)) (hN.mono fun b o e => S.keep b o e) hl ?_
  intro fa fs s₁ S₁ hno hF hT h6
  have S₂ := S.join S₁
  clear S₁
  dsimp only [List.nil_append] at S₂
  obtain ⟨B₂, hb, hsq, S₃⟩ := lawAll S₂
  have hB₂ := hF.sq hsq
  dsimp only [lawO] at S₃
  walk_at "evs"
  exact h B₂ fa fs _ hb hB₂ hT h6 (by assumption)
end
/-! law: rows and their check -/
def fmJ (fs : List Fold) (j : Nat) : List Str := (fs.take j).map fun f => fmRow f.mode
def lrJ (fs : List Fold) (j : Nat) : List Str := (fs.take j).map fun f => lrRow f.mode 3
theorem fmJ_succ {fs : List Fold} {j : Nat} {f : Fold} (h : fs[j]? = some f) : fmJ fs (j + 1) = fmJ fs j ++ [fmRow f.mode] := by
  unfold fmJ; rw [List.take_add_one, h, List.map_append]; rfl
theorem lrJ_succ {fs : List Fold} {j : Nat} {f : Fold} (h : fs[j]? = some f) : lrJ fs (j + 1) = lrJ fs j ++ [lrRow f.mode 3] := by
  unfold lrJ; rw [List.take_add_one, h, List.map_append]; rfl
theorem fmJ_all (fs : List Fold) : fmJ fs fs.length = fs.map fun f => fmRow f.mode := by unfold fmJ; rw [List.take_length]
theorem lrJ_all (fs : List Fold) : lrJ fs fs.length = fs.map fun f => lrRow f.mode 3 := by unfold lrJ; rw [List.take_length]
theorem Texts.one {x : Str} {t : Tok} : Texts [.str x t] [x] := ⟨[(x, t)], rfl, rfl⟩
section
variable {prog : Program} {w : World} {A : Around} {E : Value → Shared → Prop} {s : Shared} {Q : Flow → Shared → Prop} {Z : Shared} {B : Fx} {own : Own} {env : Env} {L : Addr} {sc nu ah fi le ab ma to fo ro od k sh ke : Option Value}
theorem lawS2 {fa : Addr} {fs : List Fold} (he : EnvIs env L lawN (lawC L)) (r : Rm A 8) (S : At w Z B (lawO L sc nu ah fi le ab ma to (some (.ref fa)) ro od k sh ke) s) (hF : Folders B fa fs) (h6 : fs.length = 6)
    (h : ∀ B' ra s', (∀ b o, B b o → B' b o) → StrL B' ra (rowsL fs) → At w Z B' (lawO L sc nu ah fi le ab ma to (some (.ref fa)) (some (.ref ra)) od k sh ke) s' → Q .next s') : wpAny (model prog w) A (exec (lawS 2) env) Q E s := by
  conv => arg 3; arg 1; whnf
  conv at he => arg 3; whnf
  dsimp only [lawC, lawO] at he S h
  obtain ⟨oF, as, hoF, poF, hlen, hat⟩ := id hF
  walk_at "evs"
  with_reducible refine comp_eval (comp_ok he [(".0", .local), ("up", .local), ("path", .local), ("mode", .local), ("w", .local), ("filemode", .globalImplicit)] ["up", "path", "mode", "w"] [] [] (by decide +kernel) rfl (by walk_at "cl")) (fun _ => by with_unfolding_all rfl) ?_
  walk_at "evs"
  refine ⟨Z, B, _, _, _, fun _ j ys => Texts ys (fmJ fs j), ⟨S, iters_list r.h S (IsL.isList ⟨_, S.keep _ _ hoF, poF⟩) (S.notOwnB hoF), ?_, fun _ _ _ _ _ h => h, Texts.nil, ?_⟩, ?_⟩
  · rw [List.length_map, hlen, sizeLine_eq]; omega
  · rintro C env' R₂ B₂ j v ys s₁ he' hj hv hb₂ hinv S₁
    have hjl : j < fs.length := by rw [← hlen]; simpa using hj
    have hf : fs[j]? = some fs[j] := List.getElem?_eq_getElem hjl
    generalize fs[j] = f at hf
    obtain ⟨a, hja, rfl⟩ : ∃ a, as[j]? = some a ∧ v = .ref a := by
      rw [List.getElem?_map, Option.map_eq_some_iff] at hv
      obtain ⟨a, q1, q2⟩ := hv; exact ⟨a, q1, q2.symm⟩
    obtain ⟨o₂, u1, u2, u3, u4, ha₂, pa₂⟩ := hat j a f hja hf
    dsimp only [List.map, List.cons_append, List.nil_append] at S₁
    refine asgT r.h S₁ (IsT.isTuple ⟨_, S₁.keep _ _ (hb₂ _ _ ha₂), pa₂⟩) rfl rfl ?_
    intro s₂ S₂ k₂
    iterate 4 walk_at "aio"
    refine assignInOrder_nil ?_
    with_reducible refine ifs0 ?_
    walk_at "evs"
    rename_i s₃ S₃
    refine filemode_call (Lg.gr S₃) (r.le (by decide)) ?_
    intro t₄ s₄ k₄
    have S₄ := S₃.onT k₄
    refine ⟨B₂, fun _ _ e => e, ?_, ?_⟩
    · rw [fmJ_succ hf]; exact hinv.snoc
    · walk_at "at"
  · intro D B₂ ys s₁ hb₂ hinv hlen₂ S₁
    rw [List.length_map, hlen, fmJ_all] at hinv
    walk_at "evs"
    refine filemode_call (Lg.gr S₁) (r.le (by decide)) ?_
    intro t₂ s₂ k₂
    have S₂ := S₁.onT k₂
    walk_at "evs"
    with_reducible refine newL S₂ ?_ (by walk_at "sz")
    intro a s₃ S₃ _
    have hyl : ys.length = 6 := by rw [hinv.length, List.length_map, h6]
    refine addLL S₃ (S₃.get (by walk_at "mem")) (S₃.get (by walk_at "mem")) (by rw [hyl, List.length_singleton]; decide) ?_
    intro ra s₄ S₄
    obtain ⟨B₅, oR, hb₅, hoR, pR, S₅⟩ := S₄.freeze
    have S₆ := S₅.drop (.cons _ (.cons _ (.refl _)))
    walk_at "evs"
    refine h B₅ ra _ (fun b o e => hb₅ _ _ (hb₂ _ _ e)) ⟨_, _, hoR, pR, hinv.append Texts.one⟩ (by assumption)
theorem lawS3 {fa ra : Addr} {fs : List Fold} (he : EnvIs env L lawN (lawC L)) (r : Rm A 8) (S : At w Z B (lawO L sc nu ah fi le ab ma to (some (.ref fa)) (some (.ref ra)) od k sh ke) s) (hF : Folders B fa fs) (h6 : fs.length = 6)
    (hR : StrL B ra (rowsL fs)) (hO : OkS (rowsL fs)) (hEq : rowsL fs = rowsR fs)
    (h : ∀ s', At w Z B (lawO L sc nu ah fi le ab ma to (some (.ref fa)) (some (.ref ra)) od k sh ke) s' → Q .next s') : wpAny (model prog w) A (exec (lawS 3) env) Q E s := by
  conv => arg 3; arg 1; whnf
  conv at he => arg 3; whnf
  dsimp only [lawC, lawO] at he S h
  obtain ⟨oF, as, hoF, poF, hlen, hat⟩ := id hF
  obtain ⟨oR, vr, hoR, poR, hvr⟩ := id hR
  walk_at "evs"
  with_reducible refine comp_eval (comp_ok he [(".0", .local), ("up", .local), ("path", .local), ("mode", .local), ("w", .local), ("_law_row", .globalImplicit)] ["up", "path", "mode", "w"] [] [] (by decide +kernel) rfl (by walk_at "cl")) (fun _ => by with_unfolding_all rfl) ?_
  walk_at "evs"
  refine ⟨Z, B, _, _, _, fun _ j ys => Texts ys (lrJ fs j), ⟨S, iters_list r.h S (IsL.isList ⟨_, S.keep _ _ hoF, poF⟩) (S.notOwnB hoF), ?_, fun _ _ _ _ _ h => h, Texts.nil, ?_⟩, ?_⟩
  · rw [List.length_map, hlen, sizeLine_eq]; omega
  · rintro C env' R₂ B₂ j v ys s₁ he' hj hv hb₂ hinv S₁
    have hjl : j < fs.length := by rw [← hlen]; simpa using hj
    have hf : fs[j]? = some fs[j] := List.getElem?_eq_getElem hjl
    generalize fs[j] = f at hf
    obtain ⟨a, hja, rfl⟩ : ∃ a, as[j]? = some a ∧ v = .ref a := by
      rw [List.getElem?_map, Option.map_eq_some_iff] at hv
      obtain ⟨a, q1, q2⟩ := hv; exact ⟨a, q1, q2.symm⟩
    obtain ⟨o₂, u1, u2, u3, u4, ha₂, pa₂⟩ := hat j a f hja hf
    dsimp only [List.map, List.cons_append, List.nil_append] at S₁
    refine asgT r.h S₁ (IsT.isTuple ⟨_, S₁.keep _ _ (hb₂ _ _ ha₂), pa₂⟩) rfl rfl ?_
    intro s₂ S₂ k₂
    iterate 4 walk_at "aio"
    refine assignInOrder_nil ?_
    with_reducible refine ifs0 ?_
    walk_at "evs"
    rename_i s₃ S₃
    refine law_row_call (Lg.gr S₃) (r.le (by decide)) ?_
    intro t₄ s₄ k₄
    have S₄ := S₃.onT k₄
    refine ⟨B₂, fun _ _ e => e, ?_, ?_⟩
    · rw [lrJ_succ hf]; exact hinv.snoc
    · walk_at "at"
  · intro D B₂ ys s₁ hb₂ hinv hlen₂ S₁
    rw [List.length_map, hlen, lrJ_all] at hinv
    walk_at "evs"
    with_reducible refine newL (by assumption) ?_ (by walk_at "sz")
    intro a s₃ S₃ _
    have hyl : ys.length = 6 := by rw [hinv.length, List.length_map, h6]
    refine addLL S₃ (S₃.get (by walk_at "mem")) (S₃.get (by walk_at "mem")) (by rw [hyl, List.length_singleton]; decide) ?_
    intro ra' s₄ S₄
    refine ne_texts (r.le (by decide)) ⟨_, S₄.keep _ _ (hb₂ _ _ hoR), poR⟩ (S₄.get (by walk_at "mem")) hvr (hinv.append Texts.one) hO (by rw [hEq] at hO; exact hO) ?_
    rw [show (!decide (rowsL fs = fs.map (fun f => lrRow f.mode 3) ++ [(Str.ofString "?---------")])) = false from by rw [hEq]; simp [rowsR]]
    have S₅ := (S₄.anti hb₂ S.gd).drop (.cons _ (.cons _ (.cons _ (.refl _))))
    walk_at "evs"
    exact h _ (by assumption)
end
/-! law: the order of the rules -/
theorem Lg.thaw {w : World} {Z : Shared} {B B₂ : Fx} {own : Own} {h : Heap} {g : Array GenState} {q : OsState} {a : Addr} {P : Obj → Prop} {o : Obj} (S : Lg w Z B₂ own h g q) (hb : ∀ b o, B b o → B₂ b o) (gd : Gd w B) (ha : ∀ o, ¬ B a o) (hB : B₂ a o) (hp : P o) : Lg w Z B ((a, P) :: own) h g q where
  gd := gd
  keep := fun b o e => S.keep b o (hb b o e)
  has := fun p hp' => by
    rcases List.mem_cons.mp hp' with rfl | m
    · exact ⟨o, S.keep _ _ hB, hp⟩
    · exact S.has p m
  apart := fun p hp' o' e => by
    rcases List.mem_cons.mp hp' with rfl | m
    · exact ha _ e
    · exact S.apart p m o' (hb _ _ e)
  nodup := by
    rw [List.map_cons, List.nodup_cons]
    refine ⟨fun m => ?_, S.nodup⟩
    obtain ⟨p, hp, e⟩ := List.mem_map.mp m
    exact S.apart p hp o (e ▸ hB)
  gens := S.gens
  os := S.os
def cmpS (x y : Str) : Int := b2i (decide (y.cps.toList < x.cps.toList)) - b2i (decide (x.cps.toList < y.cps.toList))
def aheadOf (fs : List Fold) (ord : List Int) (k : Int) : List Int := ord.filter fun o => cmpS (pathAt fs o) (pathAt fs k) == 1
def ordStep (fs : List Fold) (ord : List Int) (k : Int) : List Int := if (wAt fs k).fmod 5 ≠ 0 then insAt ord (aheadOf fs ord k).length k else ord
def ordN (fs : List Fold) : Nat → List Int
  | 0 => []
  | n + 1 => ordStep fs (ordN fs n) n
theorem ahead_len (fs : List Fold) (ord : List Int) (k : Int) : (aheadOf fs ord k).length ≤ ord.length := List.length_filter_le _ _
theorem ordN_bd (fs : List Fold) : ∀ n, (ordN fs n).length ≤ n ∧ ∀ k ∈ ordN fs n, 0 ≤ k ∧ k < n
  | 0 => ⟨Nat.le_refl _, fun _ h => nomatch h⟩
  | n + 1 => by
    obtain ⟨h1, h2⟩ := ordN_bd fs n
    unfold ordN ordStep
    split
    · refine ⟨?_, fun k hk => ?_⟩
      · simp only [insAt, List.length_append, List.length_cons, List.length_take, List.length_drop]; omega
      · simp only [insAt, List.mem_append, List.mem_cons] at hk
        rcases hk with hk | rfl | hk
        · have := h2 k (List.mem_of_mem_take hk); omega
        · omega
        · have := h2 k (List.mem_of_mem_drop hk); omega
    · exact ⟨by omega, fun k hk => by have := h2 k hk; omega⟩
def aheadJ (fs : List Fold) (ord : List Int) (k : Int) (j : Nat) : List Int := aheadOf fs (ord.take j) k
theorem aheadJ_succ {fs : List Fold} {ord : List Int} {k o : Int} {j : Nat} (h : ord[j]? = some o) : aheadJ fs ord k (j + 1) = aheadJ fs ord k j ++ if cmpS (pathAt fs o) (pathAt fs k) == 1 then [o] else [] := by
  unfold aheadJ aheadOf; rw [List.take_add_one, h, List.filter_append]; simp only [Option.toList, List.filter_cons, List.filter_nil]
section
variable {prog : Program} {w : World} {A : Around} {E : Value → Shared → Prop} {s : Shared} {Q : Flow → Shared → Prop} {Z : Shared} {B : Fx} {own : Own} {env : Env} {L : Addr} {sc nu ah fi le ab ma to fo ro od k sh ke : Option Value}
theorem lawS4 (he : EnvIs env L lawN (lawC L)) (r : Rm A 8) (S : At w Z B (lawO L sc nu ah fi le ab ma to fo ro od k sh ke) s)
    (h : ∀ oa s', At w Z B ((oa, IsL []) :: lawO L sc nu ah fi le ab ma to fo ro (some (.ref oa)) k sh ke) s' → Q .next s') : wpAny (model prog w) A (exec (lawS 4) env) Q E s := by
  conv => arg 3; arg 1; whnf
  conv at he => arg 3; whnf
  dsimp only [lawC, lawO] at he S h
  walk_at "evs"
  with_reducible refine newL S ?_ (Nat.zero_le _)
  intro oa s₁ S₁ _
  walk_at "evs"
  exact h oa _ (by assumption)
theorem lawS5 {fa oa : Addr} {fs : List Fold} (he : EnvIs env L lawN (lawC L)) (r : Rm A 8) (S : At w Z B ((oa, IsL []) :: lawO L sc nu ah fi le ab ma to (some (.ref fa)) ro (some (.ref oa)) k sh ke) s) (hF : Folders B fa fs) (h6 : fs.length = 6)
    (h : ∀ B' ah' k' s', (∀ b o, B b o → B' b o) → IntL B' oa (ordN fs 6) → At w Z B' (lawO L sc nu ah' fi le ab ma to (some (.ref fa)) ro (some (.ref oa)) k' sh ke) s' → Q .next s') : wpAny (model prog w) A (exec (lawS 5) env) Q E s := by
  conv => arg 3; arg 1; whnf
  conv at he => arg 3; whnf
  dsimp only [lawC, lawO] at he S h
  walk_at "evs"
  with_reducible refine newR (by assumption) ?_
  intro ar t1 u1 v1 s₁ S₁ hr _
  refine forI (fun x : List Value × Option Value × Option Value => (oa, IsL x.1) :: lawO L sc nu x.2.1 fi le ab ma to (some (.ref fa)) ro (some (.ref oa)) x.2.2 sh ke) [] ([], ah, k)
    (iters_range 6 r.h S₁ hr (by decide) (by decide)) (fun _ i x => Ints x.1 (ordN fs i)) (fun _ => rfl) (fun _ _ _ _ _ h => h) Ints.nil ?turn ?fin
  case turn =>
    rintro R' B₁ i v ⟨vs, ah₁, k₁⟩ s₂ Qb - hi ⟨tk, rfl⟩ hs hinv S₂ hN - -
    dsimp only [List.cons_append, List.nil_append, lawO] at S₂ hinv hN
    obtain ⟨kk, hkk⟩ : ∃ x : Int, x = i := ⟨_, rfl⟩
    rw [← hkk]
    refine wpAny_assign_Name ?_
    walk_at "evs"
    rename_i s₃ S₃
    have hk0 : 0 ≤ kk := by omega
    have hk1 : kk < fs.length := by omega
    obtain ⟨f, hf, hfm, ew, ep⟩ := at_fold hk0 hk1
    obtain ⟨oF, as, a, hfa, pfa, hla, ⟨o₂, u1, u2, u3, u4, ha₂, pa₂⟩⟩ := hF.get hf
    with_reducible refine item_listL (IsL.isList ⟨_, S₃.keep _ _ (hs _ _ hfa), pfa⟩) hk0 (by omega) hla ?_ (by with_unfolding_all rfl) (by intro _; with_unfolding_all rfl)
    walk_at "evs"
    with_reducible refine item_tupleT (IsT.isTup ⟨_, S₃.keep _ _ (hs _ _ ha₂), pa₂⟩) (by decide) (by decide) (by with_unfolding_all rfl) (by with_unfolding_all rfl) ?_ (by with_unfolding_all rfl)
    walk_at "evs"
    have hbd := ordN_bd fs i
    have hbdl := hinv.length
    have hstep : ordN fs (i + 1) = if f.w.fmod 5 ≠ 0 then insAt (ordN fs i) (aheadOf fs (ordN fs i) kk).length kk else ordN fs i := by
      rw [hkk, ← ew, hkk]; rfl
    split
    · rename_i c
      have c : f.w.fmod 5 ≠ 0 := by simpa using c
      rw [if_pos c] at hstep
      obtain ⟨B₂, oO, hb₂, hoO, pO, S₄⟩ := S₃.freeze
      walk_at "ev"
      with_reducible refine comp_assign (comp_ok he [(".0", .local), ("one", .local), ("three_way_cmp", .globalImplicit), ("folders", .cell), ("k", .cell)] ["one"] ["k", "folders"] [("k", L + 4), ("folders", L + 1)] (by decide +kernel) rfl (by walk_at "cl")) (fun _ => by with_unfolding_all rfl) (swaps he (by walk_at "mem") (by decide)) ?_
      walk_at "evs"
      refine ⟨Z, B₂, _, _, _, fun _ j ys => Ints ys (aheadJ fs (ordN fs i) kk j), ⟨(by assumption), iters_list r.h (by assumption) (IsL.isList ⟨_, S₄.keep _ _ hoO, pO⟩) (S₄.notOwnB hoO), ?_, ?_, Ints.nil, ?_⟩, ?_⟩
      · rw [hbdl, sizeLine_eq]; omega
      · intro _ _ _ _ _ h; exact h
      · rintro C env' R₂ B₃ j v ys s₅ he' hj hv hb₃ hinv₂ S₅
        obtain ⟨n, tn, hnj, rfl⟩ := hinv.val hv
        obtain ⟨n0, n1⟩ := hbd.2 n (List.mem_of_getElem? hnj)
        obtain ⟨g, hg, hgm, ew', ep'⟩ := at_fold (fs := fs) n0 (by omega)
        obtain ⟨oG, as', a', hga, pga, hlg, ⟨o₃, v1, v2, v3, v4, hg₂, pg₂⟩⟩ := hF.get hg
        dsimp only [List.map, List.cons_append, List.nil_append] at S₅
        refine wpAny_assign_Name ?_
        walk_at "evs"
        rename_i s₆ S₆
        have hbb : ∀ b o, B b o → B₃ b o := fun b o e => hb₃ _ _ (hb₂ _ _ (hs _ _ e))
        with_reducible refine ifs1 ?_
        walk_at "evs"
        with_reducible refine item_listL (IsL.isList ⟨_, S₆.keep _ _ (hbb _ _ hga), pga⟩) n0 (by omega) hlg ?_ (by with_unfolding_all rfl) (by intro _; with_unfolding_all rfl)
        walk_at "evs"
        with_reducible refine item_tupleT (IsT.isTup ⟨_, S₆.keep _ _ (hbb _ _ hg₂), pg₂⟩) (by decide) (by decide) (by with_unfolding_all rfl) (by with_unfolding_all rfl) ?_ (by with_unfolding_all rfl)
        walk_at "evs"
        with_reducible refine item_listL (IsL.isList ⟨_, S₆.keep _ _ (hbb _ _ hfa), pfa⟩) hk0 (by omega) hla ?_ (by with_unfolding_all rfl) (by intro _; with_unfolding_all rfl)
        walk_at "evs"
        with_reducible refine item_tupleT (IsT.isTup ⟨_, S₆.keep _ _ (hbb _ _ ha₂), pa₂⟩) (by decide) (by decide) (by with_unfolding_all rfl) (by with_unfolding_all rfl) ?_ (by with_unfolding_all rfl)
        walk_at "evs"
        refine three_way_cmp_call (Lg.gr S₆) (r.le (by decide)) ?_
        intro t₇ s₇ k₇
        have S₇ := S₆.onT k₇
        walk_at "evs"
        have hcmp : (b2i (decide (f.path.cps.toList < g.path.cps.toList)) - b2i (decide (g.path.cps.toList < f.path.cps.toList)) == 1) = (cmpS (pathAt fs n) (pathAt fs kk) == 1) := by rw [ep, ep']; rfl
        rw [hcmp, aheadJ_succ hnj]
        split
        · rename_i c₂
          walk_at "evs"
          refine ⟨B₃, fun _ _ e => e, hinv₂.snoc, ?_⟩
          walk_at "at"
        · rename_i c₂
          refine ⟨B₃, fun _ _ e => e, by rw [List.append_nil]; exact hinv₂, ?_⟩
          walk_at "at"
      · intro C D B₃ ys s₅ hb₃ hinv₂ hlen₂ S₅
        dsimp only [List.map, List.cons_append, List.nil_append] at S₅
        have hJ : aheadJ fs (ordN fs i) kk vs.length = aheadOf fs (ordN fs i) kk := by unfold aheadJ; rw [hbdl, List.take_length]
        rw [hJ] at hinv₂
        walk_at "evs"
        rename_i s₆ S₆
        refine ⟨B₃, _, S₆, ?_⟩
        intro s₇ S₇
        have hbb : ∀ b o, B₁ b o → B₃ b o := fun b o e => hb₃ _ _ (hb₂ _ _ e)
        have S₈ := S₇.thaw hbb S₃.gd (S₃.apart (oa, _) (by walk_at "mem")) (hb₃ _ _ hoO) pO
        clear S₄
        walk_at "evs"
        with_reducible refine listMeth S₈ (by walk_at "mem") F.slot_list_insert F.type_list_insert ?_
        walk_at "evs"
        have hyl := hinv₂.length
        have hal := ahead_len fs (ordN fs i) kk
        refine lenLL ((Lg.on S₈ ⟨fun _ _ e => e, rfl, rfl⟩ : At w Z B₁ _ _).get (by walk_at "mem")) (by omega) ?_
        intro tl _
        walk_at "evs"
        refine insLL (own' := (oa, IsL (insAt vs ys.length (.int kk tk))) :: (D, IsL ys) :: (L, HasV [("script", sc), ("numbers", nu), ("ahead", some (.ref D)), ("fits", fi), ("left", le), ("above", ab), ("many", ma), ("told", to)]) :: (L + 6, IsCell ke) :: (L + 5, IsCell sh) :: (L + 4, IsCell (some (.int kk tk))) :: (L + 3, IsCell (some (.ref oa))) :: (L + 2, IsCell ro) :: (L + 1, IsCell (some (.ref fa))) :: R') (Lg.on S₈ ⟨fun _ _ e => e, rfl, rfl⟩) (by omega) (by omega) .here ?_
        intro s₉ S₉
        walk_at "evs"
        refine hN _ B₁ (insAt vs ys.length (.int kk tk), some (.ref D), some (.int kk tk)) _ (.inl rfl) (fun _ _ e => e) ?_ ?_
        · rw [hstep, ← hyl]; exact hinv.ins _ _ _
        · exact S₉.drop (.cons_cons _ (.cons _ (.refl _)))
    · rename_i c
      have c : f.w.fmod 5 = 0 := by simpa using c
      rw [if_neg (by simpa using c)] at hstep
      walk_at "evs"
      refine hN _ B₁ (vs, ah₁, some (.int kk tk)) _ (.inl rfl) (fun _ _ e => e) ?_ (by assumption)
      rw [hstep]; exact hinv
  case fin =>
    rintro B₁ ⟨vs, ah₁, k₁⟩ s₂ hs hinv S₂
    dsimp only [List.cons_append, List.nil_append, lawO] at S₂ hinv
    obtain ⟨B₃, oO, hb₃, hoO, pO, S₃⟩ := S₂.freeze
    walk_at "evs"
    exact h B₃ _ _ _ (fun b o e => hb₃ _ _ (hs _ _ e)) ⟨_, _, hoO, pO, hinv⟩ S₃
end
/-! law: fits, shown and its check -/
def fitsOf (fs : List Fold) : List (List Int) := (List.range 6).map fun (k : Nat) => toldL fs [(k : Int)]
theorem fitsOf_get {fs : List Fold} {k : Nat} (h : k < 6) : (fitsOf fs)[k]? = some (toldL fs [(k : Int)]) := by
  unfold fitsOf; rw [List.getElem?_map, List.getElem?_range h]; rfl
theorem fitsOf_six {fs : List Fold} (h6 : fs.length = 6) : SixBy (fitsOf fs) := by
  refine ⟨by simp [fitsOf], fun r hr => ?_⟩
  obtain ⟨k, _, rfl⟩ := List.mem_map.mp hr
  simp [toldL, h6]
def FitJ (fs : List Fold) (B : Fx) (j : Nat) (ys : List Value) : Prop := ∃ as : List Addr, ys = as.map Value.ref ∧ as.length = j ∧ ∀ (k : Nat) a, as[k]? = some a → IntL B a (toldL fs [(k : Int)])
theorem nearN_bd {fs : List Fold} (hV : Valid fs) (held : List Int) : ∀ (n : Nat) (f : Int), -1 ≤ f → f < fs.length → -1 ≤ nearN fs held n f ∧ nearN fs held n f ≤ f
  | 0, f, h, _ => ⟨h, Int.le_refl _⟩
  | n + 1, f, h, h1 => by
    unfold nearN
    split
    · rename_i c
      have := upAt_bd hV c.1 h1
      have := nearN_bd hV held n _ this.1 (by omega)
      omega
    · exact ⟨h, Int.le_refl _⟩
theorem near_bd {fs : List Fold} (hV : Valid fs) (held : List Int) {f : Int} (h0 : -1 ≤ f) (h1 : f < fs.length) : -1 ≤ near fs held f ∧ near fs held f ≤ f := nearN_bd hV held _ _ h0 h1
def nearRows (fs : List Fold) (held : List Int) (xs : List Str) (n : Nat) : List Str := (List.range n).map fun (f : Nat) => rowAt xs (near fs held f)
theorem nearRows_succ (fs : List Fold) (held : List Int) (xs : List Str) (n : Nat) : nearRows fs held xs (n + 1) = nearRows fs held xs n ++ [rowAt xs (near fs held n)] := by
  unfold nearRows; rw [List.range_succ, List.map_append]; rfl
theorem rowAt_mem {xs : List Str} (h : xs ≠ []) {i : Int} (h0 : -(xs.length : Int) ≤ i) (h1 : i < xs.length) : rowAt xs i ∈ xs := List.mem_of_getElem? (rowAt_some h0 h1)
theorem OkS.sub {xs ys : List Str} (h : OkS xs) (hs : ∀ y ∈ ys, y ∈ xs) : OkS ys := .of fun y hy => h.mem (hs y hy)
theorem nearRows_ok {fs : List Fold} (hV : Valid fs) {held : List Int} {xs : List Str} (h : OkS xs) (hx : xs.length = fs.length + 1) : ∀ n, n ≤ fs.length → OkS (nearRows fs held xs n) := fun n hn => h.sub fun y hy => by
  obtain ⟨f, hf, rfl⟩ := List.mem_map.mp hy
  have hf := List.mem_range.mp hf
  have := near_bd hV held (f := (f : Int)) (by omega) (by omega)
  exact rowAt_mem (by intro e; rw [e] at hx; simp at hx) (by omega) (by omega)
theorem rowsL_len (fs : List Fold) : (rowsL fs).length = fs.length + 1 := by simp [rowsL]
section
variable {prog : Program} {w : World} {A : Around} {E : Value → Shared → Prop} {s : Shared} {Q : Flow → Shared → Prop} {Z : Shared} {B : Fx} {own : Own} {env : Env} {L : Addr} {sc nu ah fi le ab ma to fo ro od k sh ke : Option Value}
theorem lawS6 {fa : Addr} {fs : List Fold} (he : EnvIs env L lawN (lawC L)) (r : Rm A 8) (S : At w Z B (lawO L sc nu ah fi le ab ma to (some (.ref fa)) ro od k sh ke) s) (hF : Folders B fa fs) (h6 : fs.length = 6) (N : Nice fs)
    (h : ∀ B' ta s', (∀ b o, B b o → B' b o) → FitsAt B' ta (fitsOf fs) → At w Z B' (lawO L sc nu ah (some (.ref ta)) le ab ma to (some (.ref fa)) ro od k sh ke) s' → Q .next s') : wpAny (model prog w) A (exec (lawS 6) env) Q E s := by
  conv => arg 3; arg 1; whnf
  conv at he => arg 3; whnf
  dsimp only [lawC, lawO] at he S h
  with_reducible refine comp_assign (comp_ok he [(".0", .local), ("k", .local), ("_law_told", .globalImplicit), ("folders", .cell)] ["k"] ["folders"] [("folders", L + 1)] (by decide +kernel) rfl (by walk_at "cl")) (fun _ => by with_unfolding_all rfl) (swaps he (by walk_at "mem") (by decide)) ?_
  walk_at "evs"
  with_reducible refine newR (by assumption) ?_
  intro ar t1 u1 v1 s₁ S₁ hr _
  refine ⟨Z, B, _, _, _, FitJ fs, ⟨S₁, iters_range 6 r.h S₁ hr (by decide) (by decide), by decide, ?_, ⟨[], rfl, rfl, fun _ _ h => by simp at h⟩, ?_⟩, ?_⟩
  · rintro B₁ B₂ i ys hb ⟨as, e1, e2, e3⟩
    exact ⟨as, e1, e2, fun k a hk => (e3 k a hk).mono hb⟩
  · rintro C env' R₂ B₂ j v ys s₂ he' hj ⟨tk, rfl⟩ hb₂ hinv S₂
    dsimp only [List.map, List.cons_append, List.nil_append] at S₂
    obtain ⟨kk, hkk⟩ : ∃ x : Int, x = j := ⟨_, rfl⟩
    rw [← hkk]
    refine wpAny_assign_Name ?_
    walk_at "evs"
    rename_i s₃ S₃
    with_reducible refine ifs0 ?_
    walk_at "evs"
    with_reducible refine newL (by assumption) ?_ (by walk_at "sz")
    intro pa s₄ S₄ _
    obtain ⟨oK, eK, pK⟩ := S₄.get (a := pa) (by walk_at "mem")
    walk_at "evs"
    refine told_call (ks := [kk]) (Lg.gr S₄) (r.le (by decide)) (hF.mono fun b o e => S₄.keep b o (hb₂ _ _ e)) ⟨oK, _, eK, pK, ⟨[(kk, tk)], rfl, rfl⟩⟩ N (by omega) ?_ (by walk_at "sz") ?_
    · intro k hk
      cases List.mem_singleton.mp hk
      omega
    intro D us s₅ k₅ hn₅ hp₅ iu
    have S₅ := (S₄.drop (List.sublist_cons_self _ _)).addOn k₅ hn₅ hp₅
    obtain ⟨B₃, oD, hb₃, hoD, pD, S₆⟩ := S₅.freeze
    refine ⟨B₃, hb₃, ?_, ?_⟩
    · obtain ⟨as, rfl, e2, e3⟩ := hinv
      refine ⟨as ++ [D], by simp, by simp [e2], fun i a hi => ?_⟩
      rcases Nat.lt_trichotomy i as.length with hl | hl | hl
      · rw [List.getElem?_append_left hl] at hi
        exact (e3 i a hi).mono hb₃
      · subst hl
        rw [List.getElem?_concat_length] at hi
        cases hi
        rw [e2, ← hkk]
        exact ⟨_, _, hoD, pD, iu⟩
      · rw [List.getElem?_eq_none (by simp; omega)] at hi; cases hi
    · walk_at "at"
  · intro C D B₂ ys s₂ hb₂ hinv hlen₂ S₂
    dsimp only [List.map, List.cons_append, List.nil_append] at S₂
    walk_at "evs"
    rename_i s₃ S₃
    refine ⟨B₂, _, S₃, ?_⟩
    intro s₄ S₄
    obtain ⟨B₃, oD, hb₃, hoD, pD, S₅⟩ := S₄.freeze
    obtain ⟨as, rfl, e2, e3⟩ := hinv
    refine h B₃ D _ (fun b o e => hb₃ _ _ (hb₂ _ _ e)) ⟨oD, as, hoD, pD, by rw [e2]; simp [fitsOf], fun i a f hi hf => ?_⟩ S₅
    have hi6 : i < 6 := by have := (List.getElem?_eq_some_iff.mp hi).1; omega
    rw [fitsOf_get hi6] at hf
    cases hf
    exact (e3 i a hi).mono hb₃
theorem lawS7 {oa ta ra : Addr} {ft : List (List Int)} {ord : List Int} {xs : List Str} (he : EnvIs env L lawN (lawC L)) (r : Rm A 8) (S : At w Z B (lawO L sc nu ah (some (.ref ta)) le ab ma to fo (some (.ref ra)) (some (.ref oa)) k sh ke) s) (hF : FitsAt B ta ft) (hO : IntL B oa ord) (hR : StrL B ra xs) (hS : SixBy ft) (h7 : xs.length = 7)
    (ho : ∀ k ∈ ord, 0 ≤ k ∧ k < 6) (hol : ord.length ≤ 6)
    (h : ∀ B' sa s', (∀ b o, B b o → B' b o) → StrL B' sa (listN ord ft xs 6) → At w Z B' (lawO L sc nu ah (some (.ref ta)) le ab ma to fo (some (.ref ra)) (some (.ref oa)) k (some (.ref sa)) ke) s' → Q .next s') : wpAny (model prog w) A (exec (lawS 7) env) Q E s := by
  conv => arg 3; arg 1; whnf
  conv at he => arg 3; whnf
  dsimp only [lawC, lawO] at he S h
  walk_at "evs"
  refine listing_call (Lg.gr S) (r.le (by decide)) (hO.mono fun b o e => S.keep b o e) (hF.mono fun b o e => S.keep b o e) (hR.mono fun b o e => S.keep b o e) hS h7 ho hol ?_
  intro D us s₅ k₅ hn₅ hp₅ iu
  have S₅ := S.addOn k₅ hn₅ hp₅
  clear S
  walk_at "evs"
  rename_i s₆ S₆
  obtain ⟨B₃, oD, hb₃, hoD, pD, S₇⟩ := S₆.freeze
  exact h B₃ D _ hb₃ ⟨_, _, hoD, pD, iu⟩ S₇
theorem lawS8 {fa oa ra sa : Addr} {fs : List Fold} {ord : List Int} {xs sw : List Str} (he : EnvIs env L lawN (lawC L)) (r : Rm A 8) (S : At w Z B (lawO L sc nu ah fi le ab ma to (some (.ref fa)) (some (.ref ra)) (some (.ref oa)) k (some (.ref sa)) ke) s) (hF : Folders B fa fs) (h6 : fs.length = 6) (hV : Valid fs) (hO : IntL B oa ord) (hR : StrL B ra xs) (h7 : xs.length = 7) (hS : StrL B sa sw) (hok : OkS xs) (hsw : sw = nearRows fs ord xs 6)
    (h : ∀ s', At w Z B (lawO L sc nu ah fi le ab ma to (some (.ref fa)) (some (.ref ra)) (some (.ref oa)) k (some (.ref sa)) ke) s' → Q .next s') : wpAny (model prog w) A (exec (lawS 8) env) Q E s := by
  conv => arg 3; arg 1; whnf
  conv at he => arg 3; whnf
  dsimp only [lawC, lawO] at he S h
  obtain ⟨oS, vS, hoS, poS, hvS⟩ := id hS
  obtain ⟨oR, vR, hoR, poR, iR⟩ := id hR
  walk_at "evs"
  with_reducible refine comp_eval (comp_ok he [(".0", .local), ("f", .local), ("_law_nearest", .globalImplicit), ("folders", .cell), ("order", .cell), ("rows", .cell)] ["f"] ["rows", "order", "folders"] [("rows", L + 2), ("order", L + 3), ("folders", L + 1)] (by decide +kernel) rfl (by walk_at "cl")) (fun _ => by with_unfolding_all rfl) ?_
  walk_at "evs"
  with_reducible refine newR (by assumption) ?_
  intro ar t1 u1 v1 s₁ S₁ hr _
  refine ⟨Z, B, _, _, _, fun _ j ys => Texts ys (nearRows fs ord xs j), ⟨S₁, iters_range 6 r.h S₁ hr (by decide) (by decide), by decide, ?_, Texts.nil, ?_⟩, ?_⟩
  · intro _ _ _ _ _ h; exact h
  · rintro C env' R₂ B₂ j v ys s₂ he' hj ⟨tk, rfl⟩ hb₂ hinv S₂
    dsimp only [List.map, List.cons_append, List.nil_append] at S₂
    obtain ⟨kk, hkk⟩ : ∃ x : Int, x = j := ⟨_, rfl⟩
    rw [← hkk]
    refine wpAny_assign_Name ?_
    walk_at "evs"
    rename_i s₃ S₃
    with_reducible refine ifs0 ?_
    walk_at "evs"
    refine nearest_call (held := ord) (Lg.gr S₃) (r.le (by decide)) (hF.mono fun b o e => S₃.keep b o (hb₂ _ _ e)) hV (hO.mono fun b o e => S₃.keep b o (hb₂ _ _ e)) (by omega) (by omega) (by omega) ?_
    intro t₄ s₄ k₄
    have S₄ := S₃.onT k₄
    have hnb := near_bd hV ord (f := kk) (by omega) (by omega)
    with_reducible refine rowL (IsL.isList ⟨_, S₄.keep _ _ (hb₂ _ _ hoR), poR⟩) iR (by omega) (by omega) (by omega) ?_ (by with_unfolding_all rfl)
    intro tr
    refine ⟨B₂, fun _ _ e => e, ?_, ?_⟩
    · rw [nearRows_succ, ← hkk]; exact hinv.snoc
    · walk_at "at"
  · intro D B₂ ys s₂ hb₂ hinv hlen₂ S₂
    walk_at "evs"
    refine ne_texts (r.le (by decide)) ⟨_, S₂.keep _ _ (hb₂ _ _ hoS), poS⟩ (S₂.get (by walk_at "mem")) hvS hinv ?_ (nearRows_ok hV hok (by omega) _ (by omega)) ?_
    · rw [hsw]; exact nearRows_ok hV hok (by omega) _ (by omega)
    rw [show (!decide (sw = nearRows fs ord xs 6)) = false from by rw [hsw]; simp]
    have S₅ := (S₂.anti hb₂ S.gd).drop (.cons _ (.refl _))
    clear S S₁ S₂
    walk_at "evs"
    exact h _ (by assumption)
end
/-! law: kept; a turn of the main loop: left, above, many -/
noncomputable def lawTB : List Stmt := match lawS 10 with
  | .For _ _ body _ _ => body
  | _ => []
noncomputable def lawT (n : Nat) : Stmt := match lawTB[n]? with
  | some s => s
  | none => .Pass ⟨0, 0, 0, 0⟩
theorem lawTB_eq : lawTB = [lawT 0, lawT 1, lawT 2, lawT 3, lawT 4, lawT 5] := by kernel_rfl
def leftOf (K : List Int) (k : Int) : List Int := K.filter fun o => o != k
def leftJ (K : List Int) (k : Int) (j : Nat) : List Int := leftOf (K.take j) k
theorem leftJ_succ {K : List Int} {k o : Int} {j : Nat} (h : K[j]? = some o) : leftJ K k (j + 1) = leftJ K k j ++ if (o != k) = true then [o] else [] := by
  unfold leftJ leftOf; rw [List.take_add_one, h, List.filter_append]; simp only [Option.toList, List.filter_cons, List.filter_nil]
theorem leftJ_all (K : List Int) (k : Int) : leftJ K k K.length = leftOf K k := by unfold leftJ; rw [List.take_length]
theorem leftOf_len (K : List Int) (k : Int) : (leftOf K k).length ≤ K.length := List.length_filter_le _ _
def manyJ (fs : List Fold) (K : List Int) (k : Int) (j : Nat) : List Int := ((List.range j).map fun (f : Nat) => (f : Int)).filter fun f => near fs K f == k
theorem manyJ_succ (fs : List Fold) (K : List Int) (k : Int) (j : Nat) : manyJ fs K k (j + 1) = manyJ fs K k j ++ if (near fs K j == k) = true then [(j : Int)] else [] := by
  unfold manyJ; rw [List.range_succ, List.map_append, List.filter_append]; simp only [List.map_cons, List.map_nil, List.filter_cons, List.filter_nil]
theorem manyJ_len (fs : List Fold) (K : List Int) (k : Int) (j : Nat) : (manyJ fs K k j).length ≤ j := by
  have := List.length_filter_le (fun f => near fs K f == k) ((List.range j).map fun (f : Nat) => (f : Int))
  simpa [manyJ] using this
section
variable {prog : Program} {w : World} {A : Around} {E : Value → Shared → Prop} {s : Shared} {Q : Flow → Shared → Prop} {Z : Shared} {B : Fx} {own : Own} {env : Env} {L : Addr} {sc nu ah fi le ab ma to fo ro od k sh ke : Option Value} {R : Own}
theorem lawS9 {oa : Addr} {ord : List Int} (he : EnvIs env L lawN (lawC L)) (r : Rm A 8) (S : At w Z B (lawO L sc nu ah fi le ab ma to fo ro (some (.ref oa)) k sh ke) s) (hO : IntL B oa ord) (hol : ord.length ≤ 6)
    (h : ∀ B' ka s', (∀ b o, B b o → B' b o) → IntL B' ka ord → At w Z B' (lawO L sc nu ah fi le ab ma to fo ro (some (.ref oa)) k sh (some (.ref ka))) s' → Q .next s') : wpAny (model prog w) A (exec (lawS 9) env) Q E s := by
  conv => arg 3; arg 1; whnf
  conv at he => arg 3; whnf
  dsimp only [lawC, lawO] at he S h
  obtain ⟨oO, vO, hoO, poO, iO⟩ := id hO
  walk_at "evs"
  refine copyLL S ⟨_, S.keep _ _ hoO, poO⟩ (by rw [iO.length]; omega) ?_
  intro c s₁ S₁
  obtain ⟨B₂, oD, hb₂, hoD, pD, S₂⟩ := S₁.freeze
  clear S S₁
  walk_at "evs"
  exact h B₂ c _ hb₂ ⟨_, _, hoD, pD, iO⟩ (by assumption)
theorem lawT0 {ka : Addr} {K : List Int} {kk : Int} {tk : Tok} (he : EnvIs env L lawN (lawC L)) (r : Rm A 8) (S : At w Z B (lawO L sc nu ah fi le ab ma to fo ro od (some (.int kk tk)) sh (some (.ref ka)) ++ R) s) (hK : IntL B ka K) (hl : K.length ≤ 6)
    (h : ∀ B' la s', (∀ b o, B b o → B' b o) → IntL B' la (leftOf K kk) → At w Z B' (lawO L sc nu ah fi (some (.ref la)) ab ma to fo ro od (some (.int kk tk)) sh (some (.ref ka)) ++ R) s' → Q .next s') : wpAny (model prog w) A (exec (lawT 0) env) Q E s := by
  conv => arg 3; arg 1; whnf
  conv at he => arg 3; whnf
  dsimp only [lawC, lawO, List.cons_append, List.nil_append] at he S h
  obtain ⟨oK, vK, hoK, poK, iK⟩ := id hK
  with_reducible refine comp_assign (comp_ok he [(".0", .local), ("one", .local), ("k", .cell)] ["one"] ["k"] [("k", L + 4)] (by decide +kernel) rfl (by walk_at "cl")) (fun _ => by with_unfolding_all rfl) (swaps he (by walk_at "mem") (by decide)) ?_
  walk_at "evs"
  refine ⟨Z, B, _, _, _, fun _ j ys => Ints ys (leftJ K kk j), ⟨S, iters_list r.h S (IsL.isList ⟨_, S.keep _ _ hoK, poK⟩) (S.notOwnB hoK), ?_, ?_, Ints.nil, ?_⟩, ?_⟩
  · rw [iK.length, sizeLine_eq]; omega
  · intro _ _ _ _ _ h; exact h
  · rintro C env' R₂ B₃ j v ys s₅ he' hj hv hb₃ hinv₂ S₅
    obtain ⟨n, tn, hnj, rfl⟩ := iK.val hv
    dsimp only [List.map, List.cons_append, List.nil_append] at S₅
    refine wpAny_assign_Name ?_
    walk_at "evs"
    rename_i s₆ S₆
    with_reducible refine ifs1 ?_
    walk_at "evs"
    rw [leftJ_succ hnj]
    split
    · rename_i c₂
      walk_at "evs"
      refine ⟨B₃, fun _ _ e => e, hinv₂.snoc, ?_⟩
      walk_at "at"
    · rename_i c₂
      refine ⟨B₃, fun _ _ e => e, by rw [List.append_nil]; exact hinv₂, ?_⟩
      walk_at "at"
  · intro C D B₃ ys s₅ hb₃ hinv₂ hlen₂ S₅
    dsimp only [List.map, List.cons_append, List.nil_append] at S₅
    rw [iK.length, leftJ_all] at hinv₂
    walk_at "evs"
    rename_i s₆ S₆
    refine ⟨B₃, _, S₆, ?_⟩
    intro s₇ S₇
    obtain ⟨B₄, oD, hb₄, hoD, pD, S₈⟩ := S₇.freeze
    exact h B₄ D _ (fun b o e => hb₄ _ _ (hb₃ _ _ e)) ⟨_, _, hoD, pD, hinv₂⟩ S₈
theorem lawT1 {fa ra la : Addr} {fs : List Fold} {M : List Int} {xs : List Str} {kk : Int} {tk : Tok} (he : EnvIs env L lawN (lawC L)) (r : Rm A 8) (S : At w Z B (lawO L sc nu ah fi (some (.ref la)) ab ma to (some (.ref fa)) (some (.ref ra)) od (some (.int kk tk)) sh ke ++ R) s) (hM : IntL B la M) (hF : Folders B fa fs) (h6 : fs.length = 6) (hV : Valid fs) (hR : StrL B ra xs) (h7 : xs.length = 7) (hk0 : 0 ≤ kk) (hk1 : kk < 6)
    (h : ∀ ta s', At w Z B (lawO L sc nu ah fi (some (.ref la)) (some (.str (rowAt xs (near fs M kk)) ta)) ma to (some (.ref fa)) (some (.ref ra)) od (some (.int kk tk)) sh ke ++ R) s' → Q .next s') : wpAny (model prog w) A (exec (lawT 1) env) Q E s := by
  conv => arg 3; arg 1; whnf
  conv at he => arg 3; whnf
  dsimp only [lawC, lawO, List.cons_append, List.nil_append] at he S h
  obtain ⟨oR, vR, hoR, poR, iR⟩ := id hR
  walk_at "evs"
  refine nearest_call (held := M) (Lg.gr S) (r.le (by decide)) (hF.mono fun b o e => S.keep b o e) hV (hM.mono fun b o e => S.keep b o e) (by omega) (by omega) (by omega) ?_
  intro t₄ s₄ k₄
  have S₄ := S.onT k₄
  clear S
  have hnb := near_bd hV M (f := kk) (by omega) (by omega)
  with_reducible refine rowL (IsL.isList ⟨_, S₄.keep _ _ hoR, poR⟩) iR (by omega) (by omega) (by omega) ?_ (by with_unfolding_all rfl)
  intro tr
  walk_at "evs"
  exact h tr _ (by assumption)
theorem lawT2 {fa ka : Addr} {fs : List Fold} {K : List Int} {kk : Int} {tk : Tok} (he : EnvIs env L lawN (lawC L)) (r : Rm A 8) (S : At w Z B (lawO L sc nu ah fi le ab ma to (some (.ref fa)) ro od (some (.int kk tk)) sh (some (.ref ka)) ++ R) s) (hK : IntL B ka K) (hF : Folders B fa fs) (h6 : fs.length = 6) (hV : Valid fs)
    (h : ∀ tm s', At w Z B (lawO L sc nu ah fi le ab (some (.int (manyJ fs K kk 6).length tm)) to (some (.ref fa)) ro od (some (.int kk tk)) sh (some (.ref ka)) ++ R) s' → Q .next s') : wpAny (model prog w) A (exec (lawT 2) env) Q E s := by
  conv => arg 3; arg 1; whnf
  conv at he => arg 3; whnf
  dsimp only [lawC, lawO, List.cons_append, List.nil_append] at he S h
  walk_at "evs"
  with_reducible refine comp_eval (comp_ok he [(".0", .local), ("f", .local), ("_law_nearest", .globalImplicit), ("folders", .cell), ("k", .cell), ("kept", .cell)] ["f"] ["kept", "k", "folders"] [("kept", L + 6), ("k", L + 4), ("folders", L + 1)] (by decide +kernel) rfl (by walk_at "cl")) (fun _ => by with_unfolding_all rfl) ?_
  walk_at "evs"
  with_reducible refine newR (by assumption) ?_
  intro ar t1 u1 v1 s₁ S₁ hr _
  refine ⟨Z, B, _, _, _, fun _ j ys => Ints ys (manyJ fs K kk j), ⟨S₁, iters_range 6 r.h S₁ hr (by decide) (by decide), by decide, ?_, Ints.nil, ?_⟩, ?_⟩
  · intro _ _ _ _ _ h; exact h
  · rintro C env' R₂ B₂ j v ys s₂ he' hj ⟨tj, rfl⟩ hb₂ hinv S₂
    dsimp only [List.map, List.cons_append, List.nil_append] at S₂
    rw [manyJ_succ]
    obtain ⟨f, hkk⟩ : ∃ x : Int, x = j := ⟨_, rfl⟩
    rw [← hkk]
    refine wpAny_assign_Name ?_
    walk_at "evs"
    rename_i s₃ S₃
    with_reducible refine ifs1 ?_
    walk_at "evs"
    refine nearest_call (held := K) (Lg.gr S₃) (r.le (by decide)) (hF.mono fun b o e => S₃.keep b o (hb₂ _ _ e)) hV (hK.mono fun b o e => S₃.keep b o (hb₂ _ _ e)) (by omega) (by omega) (by omega) ?_
    intro t₄ s₄ k₄
    have S₄ := S₃.onT k₄
    walk_at "evs"
    split
    · rename_i c₂
      walk_at "evs"
      refine ⟨B₂, fun _ _ e => e, hinv.snoc, ?_⟩
      walk_at "at"
    · rename_i c₂
      refine ⟨B₂, fun _ _ e => e, by rw [List.append_nil]; exact hinv, ?_⟩
      walk_at "at"
  · intro D B₂ ys s₂ hb₂ hinv hlen₂ S₂
    walk_at "evs"
    refine lenLL (S₂.get (by walk_at "mem")) (by have := manyJ_len fs K kk 6; rw [hinv.length]; omega) ?_
    intro tl _
    rw [hinv.length]
    have S₅ := (S₂.anti hb₂ S.gd).drop (.cons _ (.refl _))
    clear S S₁ S₂
    walk_at "evs"
    exact h _ _ (by assumption)
end
/-! a turn of the main loop: told, its check, the update -/
def PairB (B : Fx) (t : Addr) (xs ys : List Str) : Prop := ∃ o p q op oq vs us, B t o ∧ IsT [.ref p, .ref q] o ∧ B p op ∧ IsL vs op ∧ B q oq ∧ IsL us oq ∧ Texts vs xs ∧ Texts us ys
theorem PairB.pair {w : World} {Z s : Shared} {B : Fx} {own : Own} {t : Addr} {xs ys : List Str} (P : PairB B t xs ys) (S : At w Z B own s) : PairAt s.heap t xs ys := by
  obtain ⟨o, p, q, op, oq, vs, us, h1, h2, h3, h4, h5, h6, h7, h8⟩ := P
  exact ⟨o, S.keep _ _ h1, p, q, vs, us, h2, ⟨_, S.keep _ _ h3, h4⟩, ⟨_, S.keep _ _ h5, h6⟩, h7, h8⟩
def toldS (sw : List Str) (M : List Int) (ft : List (List Int)) (xs : List Str) : List Str × List Str := ulR sw.reverse (listN M ft xs 6) []
def wantS (fs : List Fold) (xs : List Str) (K : List Int) (k : Int) : List Str × List Str :=
  if rowAt xs k = rowAt xs (near fs (leftOf K k) k) then ([], []) else (List.replicate (manyJ fs K k 6).length (rowAt xs k), List.replicate (manyJ fs K k 6).length (rowAt xs (near fs (leftOf K k) k)))
theorem Texts.rep {x : Str} {t : Tok} (n : Nat) : Texts (List.replicate n (.str x t)) (List.replicate n x) := ⟨List.replicate n (x, t), by simp [strValues], by simp⟩
theorem OkS.rep {xs : List Str} {x : Str} (h : OkS xs) (m : x ∈ xs) (n : Nat) : OkS (List.replicate n x) := h.sub fun y hy => by rw [List.eq_of_mem_replicate hy]; exact m
theorem OkS.nil : OkS [] := rfl
section
variable {prog : Program} {w : World} {A : Around} {E : Value → Shared → Prop} {s : Shared} {Q : Flow → Shared → Prop} {Z : Shared} {B : Fx} {own : Own} {env : Env} {L : Addr} {sc nu ah fi le ab ma to fo ro od k sh ke : Option Value} {R : Own}
theorem lawT3 {la ta ra sa : Addr} {M : List Int} {ft : List (List Int)} {xs sw : List Str} (he : EnvIs env L lawN (lawC L)) (r : Rm A 8) (hA : A.frames = some [env]) (hL : env.frame = some L) (S : At w Z B (lawO L sc nu ah (some (.ref ta)) (some (.ref la)) ab ma to fo (some (.ref ra)) od k (some (.ref sa)) ke ++ R) s)
    (hM : IntL B la M) (hF : FitsAt B ta ft) (hR : StrL B ra xs) (hS : SixBy ft) (h7 : xs.length = 7) (ho : ∀ k ∈ M, 0 ≤ k ∧ k < 6) (hol : M.length ≤ 6) (hW : StrL B sa sw) (hw6 : sw.length = 6)
    (h : ∀ B' ua s', (∀ b o, B b o → B' b o) → PairB B' ua (toldS sw M ft xs).1 (toldS sw M ft xs).2 → At w Z B' (lawO L sc nu ah (some (.ref ta)) (some (.ref la)) ab ma (some (.ref ua)) fo (some (.ref ra)) od k (some (.ref sa)) ke ++ R) s' → Q .next s') : wpAny (model prog w) A (exec (lawT 3) env) Q E s := by
  conv => arg 3; arg 1; whnf
  conv at he => arg 3; whnf
  dsimp only [lawC, lawO, List.cons_append, List.nil_append] at he S h
  obtain ⟨oW, vW, hoW, poW, l, rfl, iW⟩ := id hW
  walk_at "evs"
  refine copyLL S ⟨_, S.keep _ _ hoW, poW⟩ (by rw [strValues_len, ← List.length_map (f := (·.1)), iW]; omega) ?_
  intro ea s₁ S₁
  clear S
  walk_at "evs"
  refine listing_call (Lg.gr S₁) (r.le (by decide)) (hM.mono fun b o e => S₁.keep b o e) (hF.mono fun b o e => S₁.keep b o e) (hR.mono fun b o e => S₁.keep b o e) hS h7 ho hol ?_
  intro aa us s₂ k₂ hn₂ hp₂ ⟨l₂, e₂, iu⟩
  subst e₂
  have S₂ := (S₁.addOn k₂ hn₂ hp₂).perm (List.Perm.swap _ _ _)
  clear S₁
  walk_at "evs"
  have hl2 : (listN M ft xs 6).length = 6 := by simp [listN]
  refine diff_call (r.le (by decide)) S₂ hA ?_ (by rw [← List.length_map (f := (·.1)), iW]; omega) (by rw [← List.length_map (f := (·.1)), iu]; omega) ?_
  · intro env' hm
    cases List.mem_singleton.mp hm
    exact ⟨by rw [he.kind]; decide, L, _, hL, mem0⟩
  intro ua ma' ms' as' s₃ S₃ hul
  clear S₂
  rw [iW, iu] at hul
  walk_at "evs"
  rename_i s₄ S₄
  obtain ⟨B₁, o₁, b₁, h₁, p₁, S₅⟩ := S₄.freeze
  obtain ⟨B₂, o₂, b₂, h₂, p₂, S₆⟩ := S₅.freeze
  obtain ⟨B₃, o₃, b₃, h₃, p₃, S₇⟩ := S₆.freeze
  refine h B₃ ua _ (fun b o e => b₃ _ _ (b₂ _ _ (b₁ _ _ e))) ?_ S₇
  unfold toldS
  rw [← hul]
  exact ⟨o₁, ma', aa, o₂, o₃, _, _, b₃ _ _ (b₂ _ _ h₁), p₁, b₃ _ _ h₂, p₂, h₃, p₃, ⟨ms', rfl, rfl⟩, ⟨as', rfl, rfl⟩⟩
theorem lawT4 {ua ra : Addr} {xs : List Str} {kk : Int} {tk ta tm : Tok} {a : Str} {n : Nat} {d : List Str × List Str} (he : EnvIs env L lawN (lawC L)) (r : Rm A 8) (S : At w Z B (lawO L sc nu ah fi le (some (.str a ta)) (some (.int n tm)) (some (.ref ua)) fo (some (.ref ra)) od (some (.int kk tk)) sh ke ++ R) s)
    (hR : StrL B ra xs) (h7 : xs.length = 7) (hP : PairB B ua d.1 d.2) (hk0 : 0 ≤ kk) (hk1 : kk < 6) (hn : n ≤ 6) (ha : a ∈ xs) (hok : OkS xs) (hd : d = if rowAt xs kk = a then ([], []) else (List.replicate n (rowAt xs kk), List.replicate n a))
    (h : ∀ s', At w Z B (lawO L sc nu ah fi le (some (.str a ta)) (some (.int n tm)) (some (.ref ua)) fo (some (.ref ra)) od (some (.int kk tk)) sh ke ++ R) s' → Q .next s') : wpAny (model prog w) A (exec (lawT 4) env) Q E s := by
  conv => arg 3; arg 1; whnf
  conv at he => arg 3; whnf
  dsimp only [lawC, lawO, List.cons_append, List.nil_append] at he S h
  obtain ⟨oR, vR, hoR, poR, iR⟩ := id hR
  have hrm : rowAt xs kk ∈ xs := rowAt_mem (by intro e; rw [e] at h7; cases h7) (by omega) (by omega)
  walk_at "evs"
  with_reducible refine rowL (IsL.isList ⟨_, S.keep _ _ hoR, poR⟩) iR (by omega) (by omega) (by omega) ?_ (by with_unfolding_all rfl)
  intro t₁
  walk_at "evs"
  split
  · rename_i c
    have c : rowAt xs kk = a := by simpa using c
    rw [if_pos c] at hd
    walk_at "evs"
    with_reducible refine newL (by assumption) ?_ (by walk_at "sz")
    intro p s₁ S₁ _
    walk_at "evs"
    with_reducible refine newL (by assumption) ?_ (by walk_at "sz")
    intro q s₂ S₂ _
    walk_at "evs"
    with_reducible refine newT (by assumption) ?_ (by walk_at "sz")
    intro t s₃ S₃ _
    obtain ⟨o, e, pt⟩ := S₃.get (a := t) mem0
    refine ne_pair (r.le (by decide)) (hP.pair S₃) ⟨o, e, p, q, _, _, pt, S₃.get mem2, S₃.get mem1, Texts.nil, Texts.nil⟩ (by rw [hd]; exact OkS.nil) (by rw [hd]; exact OkS.nil) OkS.nil OkS.nil ?_
    rw [show (!decide ((d.1, d.2) = (([] : List Str), ([] : List Str)))) = false from by rw [hd]; rfl]
    have S₅ := S₃.drop (.cons _ (.cons _ (.cons _ (.refl _))))
    clear S S₁ S₂ S₃
    walk_at "evs"
    exact h _ (by assumption)
  · rename_i c
    have c : rowAt xs kk ≠ a := by simpa using c
    rw [if_neg c] at hd
    walk_at "evs"
    with_reducible refine rowL (IsL.isList ⟨_, S.keep _ _ hoR, poR⟩) iR (by omega) (by omega) (by omega) ?_ (by with_unfolding_all rfl)
    intro t₂
    walk_at "evs"
    with_reducible refine newL (by assumption) ?_ (by walk_at "sz")
    intro p₀ s₁ S₁ _
    walk_at "evs"
    refine mulLL S₁ (S₁.get mem0) (by omega) ?_
    intro p s₂ S₂
    walk_at "evs"
    with_reducible refine newL (by assumption) ?_ (by walk_at "sz")
    intro q₀ s₃ S₃ _
    walk_at "evs"
    refine mulLL S₃ (S₃.get mem0) (by omega) ?_
    intro q s₄ S₄
    walk_at "evs"
    with_reducible refine newT (by assumption) ?_ (by walk_at "sz")
    intro t s₅ S₅ _
    obtain ⟨o, e, pt⟩ := S₅.get (a := t) mem0
    refine ne_pair (r.le (by decide)) (hP.pair S₅) ⟨o, e, p, q, _, _, pt, S₅.get mem3, S₅.get mem1, Texts.rep n, Texts.rep n⟩ (by rw [hd]; exact hok.rep hrm n) (by rw [hd]; exact hok.rep ha n) (hok.rep hrm n) (hok.rep ha n) ?_
    rw [show (!decide ((d.1, d.2) = (List.replicate n (rowAt xs kk), List.replicate n a))) = false from by rw [hd]; simp]
    have S₆ := S₅.drop (.cons _ (.cons _ (.cons _ (.cons _ (.cons _ (.refl _))))))
    clear S S₁ S₂ S₃ S₄ S₅
    walk_at "evs"
    exact h _ (by assumption)
theorem lawT5 {ua la ka : Addr} {M K : List Int} {d : List Str × List Str} (he : EnvIs env L lawN (lawC L)) (r : Rm A 8) (S : At w Z B (lawO L sc nu ah fi (some (.ref la)) ab ma (some (.ref ua)) fo ro od k sh (some (.ref ka)) ++ R) s)
    (hP : PairB B ua d.1 d.2) (o1 : OkS d.1) (o2 : OkS d.2) (hM : IntL B la M) (hK : IntL B ka K)
    (h : ∀ ka' s', IntL B ka' (if d = ([], []) then M else K) → At w Z B (lawO L sc nu ah fi (some (.ref la)) ab ma (some (.ref ua)) fo ro od k sh (some (.ref ka')) ++ R) s' → Q .next s') : wpAny (model prog w) A (exec (lawT 5) env) Q E s := by
  conv => arg 3; arg 1; whnf
  conv at he => arg 3; whnf
  dsimp only [lawC, lawO, List.cons_append, List.nil_append] at he S h
  walk_at "evs"
  with_reducible refine newL (by assumption) ?_ (by walk_at "sz")
  intro p s₁ S₁ _
  walk_at "evs"
  with_reducible refine newL (by assumption) ?_ (by walk_at "sz")
  intro q s₂ S₂ _
  walk_at "evs"
  with_reducible refine newT (by assumption) ?_ (by walk_at "sz")
  intro t s₃ S₃ _
  obtain ⟨o, e, pt⟩ := S₃.get (a := t) mem0
  refine eq_pair (r.le (by decide)) (hP.pair S₃) ⟨o, e, p, q, _, _, pt, S₃.get mem2, S₃.get mem1, Texts.nil, Texts.nil⟩ o1 o2 OkS.nil OkS.nil ?_
  have S₅ := S₃.drop (.cons _ (.cons _ (.cons _ (.refl _))))
  clear S S₁ S₂ S₃
  walk_at "evs"
  split
  · rename_i c
    have c : d = ([], []) := by
      have c' : d.fst = [] ∧ d.snd = [] := by simpa using c
      exact Prod.ext c'.1 c'.2
    walk_at "evs"
    refine h la _ ?_ (by assumption)
    rw [if_pos c]; exact hM
  · rename_i c
    have c : d ≠ ([], []) := fun e => by rw [e] at c; simp at c
    walk_at "evs"
    refine h ka _ ?_ (by assumption)
    rw [if_neg c]; exact hK
end
/-! law: the main loop -/
noncomputable def lawTgt : Expr := match lawS 10 with
  | .For t _ _ _ _ => t
  | _ => .Constant .none 0 ⟨0, 0, 0, 0⟩
noncomputable def lawIter : Expr := match lawS 10 with
  | .For _ i _ _ _ => i
  | _ => .Constant .none 0 ⟨0, 0, 0, 0⟩
noncomputable def lawPos : Pos := match lawS 10 with
  | .For _ _ _ _ p => p
  | _ => ⟨0, 0, 0, 0⟩
theorem lawS10_eq : lawS 10 = .For lawTgt lawIter lawTB [] lawPos := by kernel_rfl
def keptStep (sw : List Str) (ft : List (List Int)) (xs : List Str) (K : List Int) (k : Int) : List Int := if toldS sw (leftOf K k) ft xs = ([], []) then leftOf K k else K
def keptN (sw : List Str) (ft : List (List Int)) (xs : List Str) (ord ks : List Int) (i : Nat) : List Int := (ks.take i).foldl (keptStep sw ft xs) ord
theorem keptN_succ {sw : List Str} {ft : List (List Int)} {xs : List Str} {ord ks : List Int} {i : Nat} {k : Int} (h : ks[i]? = some k) : keptN sw ft xs ord ks (i + 1) = keptStep sw ft xs (keptN sw ft xs ord ks i) k := by
  unfold keptN; rw [List.take_add_one, h, List.foldl_append]; rfl
theorem keptN_sub (sw : List Str) (ft : List (List Int)) (xs : List Str) (ord : List Int) : ∀ (ks : List Int), (ks.foldl (keptStep sw ft xs) ord).Sublist ord := by
  intro ks
  induction ks generalizing ord with
  | nil => exact .refl _
  | cons k r ih =>
    refine (ih _).trans ?_
    unfold keptStep leftOf
    split
    · exact List.filter_sublist
    · exact .refl _
section
variable {prog : Program} {w : World} {A : Around} {E : Value → Shared → Prop} {s : Shared} {Q : Flow → Shared → Prop} {Z : Shared} {B : Fx} {own : Own} {env : Env} {L : Addr} {sc nu ah fi le ab ma to fo ro od k sh ke : Option Value} {R : Own}
theorem lawTurn {fa ra ta sa ka : Addr} {fs : List Fold} {ft : List (List Int)} {xs sw : List Str} {K : List Int} {kk : Int} {tk : Tok} (he : EnvIs env L lawN (lawC L)) (r : Rm A 8) (hA : A.frames = some [env]) (hL : env.frame = some L)
    (S : At w Z B (lawO L sc nu ah (some (.ref ta)) le ab ma to (some (.ref fa)) (some (.ref ra)) od (some (.int kk tk)) (some (.ref sa)) (some (.ref ka)) ++ R) s)
    (hF : Folders B fa fs) (h6 : fs.length = 6) (hV : Valid fs) (hT : FitsAt B ta ft) (hS : SixBy ft) (hR : StrL B ra xs) (h7 : xs.length = 7) (hok : OkS xs) (hW : StrL B sa sw) (hw6 : sw.length = 6) (hK : IntL B ka K) (hKb : ∀ k ∈ K, 0 ≤ k ∧ k < 6) (hKl : K.length ≤ 6) (hk0 : 0 ≤ kk) (hk1 : kk < 6)
    (hst : toldS sw (leftOf K kk) ft xs = wantS fs xs K kk)
    (h : ∀ B' le' ab' ma' to' ka' s', (∀ b o, B b o → B' b o) → IntL B' ka' (keptStep sw ft xs K kk) → At w Z B' (lawO L sc nu ah (some (.ref ta)) le' ab' ma' to' (some (.ref fa)) (some (.ref ra)) od (some (.int kk tk)) (some (.ref sa)) (some (.ref ka')) ++ R) s' → Q .next s') :
    wpAny (model prog w) A (execs lawTB env) Q E s := by
  have hnb := near_bd hV (leftOf K kk) (f := kk) (by omega) (by omega)
  have ham : rowAt xs (near fs (leftOf K kk) kk) ∈ xs := rowAt_mem (by intro e; rw [e] at h7; cases h7) (by omega) (by omega)
  have hrm : rowAt xs kk ∈ xs := rowAt_mem (by intro e; rw [e] at h7; cases h7) (by omega) (by omega)
  have hww : OkS (wantS fs xs K kk).1 ∧ OkS (wantS fs xs K kk).2 := by
    unfold wantS
    split
    · exact ⟨OkS.nil, OkS.nil⟩
    · exact ⟨hok.rep hrm _, hok.rep ham _⟩
  rw [lawTB_eq]
  refine execsC ?_
  intro Q₀ N₀ _
  refine lawT0 he r S hK hKl ?_
  intro B₁ la s₁ b₁ hM S₁
  refine N₀ _ ?_
  refine execsC ?_
  intro Q₁ N₁ _
  refine lawT1 he r S₁ hM (hF.mono b₁) h6 hV (hR.mono b₁) h7 hk0 hk1 ?_
  intro tb s₂ S₂
  refine N₁ _ ?_
  refine execsC ?_
  intro Q₂ N₂ _
  refine lawT2 he r S₂ (hK.mono b₁) (hF.mono b₁) h6 hV ?_
  intro tm s₃ S₃
  refine N₂ _ ?_
  refine execsC ?_
  intro Q₃ N₃ _
  refine lawT3 he r hA hL S₃ hM (hT.mono b₁) (hR.mono b₁) hS h7 (fun k hk => hKb k (List.mem_filter.mp hk).1) (Nat.le_trans (leftOf_len K kk) hKl) (hW.mono b₁) hw6 ?_
  intro B₄ ua s₄ b₄ hP S₄
  have bb : ∀ b o, B b o → B₄ b o := fun b o e => b₄ _ _ (b₁ _ _ e)
  refine N₃ _ ?_
  refine execsC ?_
  intro Q₄ N₄ _
  refine lawT4 he r S₄ (hR.mono bb) h7 hP hk0 hk1 (manyJ_len fs K kk 6) ham hok hst ?_
  intro s₅ S₅
  refine N₄ _ ?_
  refine exec1 ?_
  refine lawT5 he r S₅ hP (by rw [hst]; exact hww.1) (by rw [hst]; exact hww.2) (hM.mono b₄) (hK.mono bb) ?_
  intro ka' s₆ hK' S₆
  exact h B₄ _ _ _ _ ka' _ bb hK' S₆
theorem lawLoop {fa ra ta sa ka ia : Addr} {fs : List Fold} {ft : List (List Int)} {xs sw : List Str} {ord ks : List Int} (he : EnvIs env L lawN (lawC L)) (r : Rm A 8) (hA : A.frames = some [env]) (hL : env.frame = some L) {RE : Value → Shared → Prop}
    (S : At w Z B (lawO L sc nu ah (some (.ref ta)) le ab ma to (some (.ref fa)) (some (.ref ra)) od k (some (.ref sa)) (some (.ref ka))) s)
    (hF : Folders B fa fs) (h6 : fs.length = 6) (hV : Valid fs) (hT : FitsAt B ta ft) (hS : SixBy ft) (hR : StrL B ra xs) (h7 : xs.length = 7) (hok : OkS xs) (hW : StrL B sa sw) (hw6 : sw.length = 6) (hK : IntL B ka ord) (hKb : ∀ k ∈ ord, 0 ≤ k ∧ k < 6) (hKl : ord.length ≤ 6)
    (hI : IntL B ia ks) (hks : ∀ k ∈ ks, 0 ≤ k ∧ k < 6) (hkl : ks.length ≤ 6)
    (hst : ∀ i k, ks[i]? = some k → toldS sw (leftOf (keptN sw ft xs ord ks i) k) ft xs = wantS fs xs (keptN sw ft xs ord ks i) k)
    (h : ∀ B' le' ab' ma' to' k' ka' s', (∀ b o, B b o → B' b o) → IntL B' ka' (keptN sw ft xs ord ks ks.length) → At w Z B' (lawO L sc nu ah (some (.ref ta)) le' ab' ma' to' (some (.ref fa)) (some (.ref ra)) od k' (some (.ref sa)) (some (.ref ka'))) s' → Q .next s') :
    wpAny (model prog w) A (pyIter (.ref ia)) (fun it s₂ => codeAny (model prog w) A (.forLoop lawTgt it lawTB [] env) (fun r s' => match r with | .ok f => Q f s' | .error e => RE e s') s₂) E s := by
  obtain ⟨oI, vI, hoI, poI, iI⟩ := id hI
  refine forI (fun x : Addr × Option Value × Option Value × Option Value × Option Value × Option Value => lawO L sc nu ah (some (.ref ta)) x.2.1 x.2.2.1 x.2.2.2.1 x.2.2.2.2.1 (some (.ref fa)) (some (.ref ra)) od x.2.2.2.2.2 (some (.ref sa)) (some (.ref x.1))) [] (ka, le, ab, ma, to, k)
    (iters_list r.h S (IsL.isList ⟨_, S.keep _ _ hoI, poI⟩) (S.notOwnB hoI)) (fun B' i x => IntL B' x.1 (keptN sw ft xs ord ks i)) (fun _ => rfl) (fun _ _ _ _ hb h => h.mono hb) hK ?turn ?fin
  case turn =>
    rintro R' B₁ i v ⟨ka₁, le₁, ab₁, ma₁, to₁, k₁⟩ s₂ Qb - hi hv hs hinv S₂ hN - -
    obtain ⟨kk, tk, hkk, rfl⟩ := iI.val hv
    obtain ⟨hk0, hk1⟩ := hks kk (List.mem_of_getElem? hkk)
    dsimp only at S₂ hinv hN
    refine wpAny_mono (Q := fun _ s₃ => At w Z B₁ (lawO L sc nu ah (some (.ref ta)) le₁ ab₁ ma₁ to₁ (some (.ref fa)) (some (.ref ra)) od (some (.int kk tk)) (some (.ref sa)) (some (.ref ka₁)) ++ R') s₃) ?_ ?_ fun _ _ x => x
    · have he' := he
      clear he
      conv => arg 3; arg 1; whnf
      conv at he' => arg 3; whnf
      dsimp only [lawC, lawO, List.cons_append, List.nil_append] at he' S₂ ⊢
      refine wpAny_assign_Name ?_
      walk_at "evs"
      assumption
    · intro _ s₃ S₃
      have hsub := keptN_sub sw ft xs ord (ks.take i)
      refine lawTurn he r hA hL S₃ (hF.mono hs) h6 hV (hT.mono hs) hS (hR.mono hs) h7 hok (hW.mono hs) hw6 hinv (fun k hk => hKb k (hsub.subset hk)) (Nat.le_trans hsub.length_le hKl) hk0 hk1 (hst i kk hkk) ?_
      intro B' le' ab' ma' to' ka' s' hb hK' S'
      refine hN _ B' (ka', le', ab', ma', to', some (.int kk tk)) _ (.inl rfl) hb ?_ S'
      rw [keptN_succ hkk]; exact hK'
  case fin =>
    rintro B₁ ⟨ka₁, le₁, ab₁, ma₁, to₁, k₁⟩ s₂ hs hinv S₂
    refine wpAny_execs_nil ?_
    refine h B₁ le₁ ab₁ ma₁ to₁ k₁ ka₁ _ hs ?_ S₂
    rw [← iI.length]; exact hinv
theorem lawS10 {na oa fa ra ta sa ka : Addr} {ns : List Int} {fs : List Fold} {ft : List (List Int)} {xs sw : List Str} {ord : List Int} (he : EnvIs env L lawN (lawC L)) (r : Rm A 8) (hA : A.frames = some [env]) (hL : env.frame = some L)
    (S : At w Z B (lawO L sc (some (.ref na)) ah (some (.ref ta)) le ab ma to (some (.ref fa)) (some (.ref ra)) (some (.ref oa)) k (some (.ref sa)) (some (.ref ka))) s)
    (hF : Folders B fa fs) (h6 : fs.length = 6) (hV : Valid fs) (hT : FitsAt B ta ft) (hS : SixBy ft) (hR : StrL B ra xs) (h7 : xs.length = 7) (hok : OkS xs) (hW : StrL B sa sw) (hw6 : sw.length = 6) (hK : IntL B ka ord) (hKb : ∀ k ∈ ord, 0 ≤ k ∧ k < 6) (hKl : ord.length ≤ 6)
    (hO : IntL B oa ord) (hN : IntL B na ns)
    (hst : ∀ ks, ks = ord ∨ ks = ord.reverse → ∀ i k, ks[i]? = some k → toldS sw (leftOf (keptN sw ft xs ord ks i) k) ft xs = wantS fs xs (keptN sw ft xs ord ks i) k)
    (h : ∀ B' le' ab' ma' to' k' ka' ks s', (∀ b o, B b o → B' b o) → (ks = ord ∨ ks = ord.reverse) → IntL B' ka' (keptN sw ft xs ord ks ks.length) → At w Z B' (lawO L sc (some (.ref na)) ah (some (.ref ta)) le' ab' ma' to' (some (.ref fa)) (some (.ref ra)) (some (.ref oa)) k' (some (.ref sa)) (some (.ref ka'))) s' → Q .next s') :
    wpAny (model prog w) A (exec (lawS 10) env) Q E s := by
  rw [lawS10_eq]
  refine wpAny_For ?_ (by intro _; with_unfolding_all rfl)
  obtain ⟨oN, vN, hoN, poN, iN⟩ := id hN
  obtain ⟨oO, vO, hoO, poO, iO⟩ := id hO
  refine wpAny_mono (Q := fun x s₁ => ∃ ia B' ks, x = .ref ia ∧ (∀ b o, B b o → B' b o) ∧ (ks = ord ∨ ks = ord.reverse) ∧ IntL B' ia ks ∧ At w Z B' (lawO L sc (some (.ref na)) ah (some (.ref ta)) le ab ma to (some (.ref fa)) (some (.ref ra)) (some (.ref oa)) k (some (.ref sa)) (some (.ref ka))) s₁) ?_ ?_ fun _ _ x => x
  · have he' := he
    clear he
    conv => arg 3; arg 1; whnf
    conv at he' => arg 3; whnf
    dsimp only [lawC, lawO] at he' S ⊢
    walk_at "evs"
    with_reducible refine sumL r.h (by assumption) (IsL.isList ⟨_, S.keep _ _ hoN, poN⟩) (S.notOwnB hoN) iN ?_
    intro n t s₁ S₁
    clear S
    walk_at "evs"
    split
    · walk_at "evs"
      exact ⟨oa, B, ord, rfl, fun _ _ e => e, .inl rfl, hO, (by assumption)⟩
    · walk_at "evs"
      with_reducible refine sliceE ?_
      with_reducible refine wpAny_evalPart_none ?_
      with_reducible refine wpAny_evalPart_none ?_
      with_reducible refine wpAny_evalPart_some ?_
      walk_at "evs"
      with_reducible refine wpAny_UnaryOp ?_
      walk_at "evs"
      with_reducible refine neg_int ?_
      intro sl s₆ hsl k₆
      have S₆ := Lg.onT (by assumption) k₆
      refine revLL S₆ ⟨_, S₆.keep _ _ hoO, poO⟩ hsl (by rw [iO.length]; omega) (by with_unfolding_all rfl) ?_
      intro D s₇ S₇
      obtain ⟨B₂, oD, hb₂, hoD, pD, S₈⟩ := S₇.freeze
      exact ⟨D, B₂, ord.reverse, rfl, hb₂, .inr rfl, ⟨_, _, hoD, pD, iO.reverse⟩, S₈⟩
  · rintro x s₁ ⟨ia, B₁, ks, rfl, hb, hks, hI, S₁⟩
    have hkb : ∀ k ∈ ks, 0 ≤ k ∧ k < 6 := fun k hk => hKb k (by rcases hks with rfl | rfl; exact hk; exact List.mem_reverse.mp hk)
    have hkl : ks.length ≤ 6 := by rcases hks with rfl | rfl; exact hKl; rw [List.length_reverse]; exact hKl
    refine lawLoop he r hA hL S₁ (hF.mono hb) h6 hV (hT.mono hb) hS (hR.mono hb) h7 hok (hW.mono hb) hw6 (hK.mono hb) hKb hKl hI hkb hkl (hst ks hks) ?_
    intro B' le' ab' ma' to' k' ka' s' hb' hK' S'
    exact h B' le' ab' ma' to' k' ka' ks _ (fun b o e => hb' _ _ (hb _ _ e)) hks hK' S'
end
/-! law: the last checks -/
def flagsJ (fs : List Fold) (K : List Int) (j : Nat) : List Int := (List.range j).map fun (f : Nat) => if 0 ≤ near fs K f then 1 else 0
theorem flagsJ_succ (fs : List Fold) (K : List Int) (j : Nat) : flagsJ fs K (j + 1) = flagsJ fs K j ++ [if 0 ≤ near fs K j then 1 else 0] := by
  unfold flagsJ; rw [List.range_succ, List.map_append]; rfl
def upRow (fs : List Fold) (sw xs : List Str) (f : Int) : Str := if 0 ≤ upAt fs f then rowAt sw (upAt fs f) else rowAt xs (-1)
def standJ (fs : List Fold) (sw xs : List Str) (j : Nat) : List Int := ((List.range j).map fun (f : Nat) => (f : Int)).filter fun f => rowAt sw f != upRow fs sw xs f
theorem standJ_succ (fs : List Fold) (sw xs : List Str) (j : Nat) : standJ fs sw xs (j + 1) = standJ fs sw xs j ++ if (rowAt sw j != upRow fs sw xs j) = true then [(j : Int)] else [] := by
  unfold standJ; rw [List.range_succ, List.map_append, List.filter_append]; simp only [List.map_cons, List.map_nil, List.filter_cons, List.filter_nil]
section
variable {prog : Program} {w : World} {A : Around} {E : Value → Shared → Prop} {s : Shared} {Q : Flow → Shared → Prop} {Z : Shared} {B : Fx} {own : Own} {env : Env} {L : Addr} {sc nu ah fi le ab ma to fo ro od k sh ke : Option Value} {R : Own}
theorem lawS11 {ta ra sa ka : Addr} {ft : List (List Int)} {xs sw : List Str} {K : List Int} (he : EnvIs env L lawN (lawC L)) (r : Rm A 8)
    (S : At w Z B (lawO L sc nu ah (some (.ref ta)) le ab ma to fo (some (.ref ra)) od k (some (.ref sa)) (some (.ref ka))) s)
    (hT : FitsAt B ta ft) (hS : SixBy ft) (hR : StrL B ra xs) (h7 : xs.length = 7) (hW : StrL B sa sw) (hok : OkS sw) (hK : IntL B ka K) (hKb : ∀ k ∈ K, 0 ≤ k ∧ k < 6) (hKl : K.length ≤ 6) (hEq : listN K ft xs 6 = sw)
    (h : ∀ s', At w Z B (lawO L sc nu ah (some (.ref ta)) le ab ma to fo (some (.ref ra)) od k (some (.ref sa)) (some (.ref ka))) s' → Q .next s') : wpAny (model prog w) A (exec (lawS 11) env) Q E s := by
  conv => arg 3; arg 1; whnf
  conv at he => arg 3; whnf
  dsimp only [lawC, lawO] at he S h
  obtain ⟨oW, vW, hoW, poW, iW⟩ := id hW
  walk_at "evs"
  refine listing_call (Lg.gr S) (r.le (by decide)) (hK.mono fun b o e => S.keep b o e) (hT.mono fun b o e => S.keep b o e) (hR.mono fun b o e => S.keep b o e) hS h7 hKb hKl ?_
  intro D us s₂ k₂ hn₂ hp₂ iu
  have S₂ := S.addOn k₂ hn₂ hp₂
  clear S
  walk_at "evs"
  refine ne_texts (r.le (by decide)) (S₂.get mem0) ⟨_, S₂.keep _ _ hoW, poW⟩ iu iW (by rw [hEq]; exact hok) hok ?_
  rw [show (!decide (listN K ft xs 6 = sw)) = false from by rw [hEq]; simp]
  have S₃ := S₂.drop (List.sublist_cons_self _ _)
  clear S₂
  walk_at "evs"
  exact h _ (by assumption)
theorem lawS12 {fa ka : Addr} {fs : List Fold} {K : List Int} (he : EnvIs env L lawN (lawC L)) (r : Rm A 8)
    (S : At w Z B (lawO L sc nu ah fi le ab ma to (some (.ref fa)) ro od k sh (some (.ref ka))) s) (hF : Folders B fa fs) (h6 : fs.length = 6) (hV : Valid fs) (N : Nice fs) (hK : IntL B ka K) (hKb : ∀ k ∈ K, 0 ≤ k ∧ k < 6) (hKl : K.length ≤ 6) (hEq : toldL fs K = flagsJ fs K 6)
    (h : ∀ s', At w Z B (lawO L sc nu ah fi le ab ma to (some (.ref fa)) ro od k sh (some (.ref ka))) s' → Q .next s') : wpAny (model prog w) A (exec (lawS 12) env) Q E s := by
  conv => arg 3; arg 1; whnf
  conv at he => arg 3; whnf
  dsimp only [lawC, lawO] at he S h
  walk_at "evs"
  refine told_call (ks := K) (Lg.gr S) (r.le (by decide)) (hF.mono fun b o e => S.keep b o e) (hK.mono fun b o e => S.keep b o e) N (by omega) (fun k hk => by have := hKb k hk; omega) (by omega) ?_
  intro T us s₁ k₁ hn₁ hp₁ iu
  obtain ⟨B₁, oT, hb₁, hoT, pT, S₁⟩ := (S.addOn k₁ hn₁ hp₁).freeze
  have hgd := S.gd
  clear S
  walk_at "evs"
  with_reducible refine comp_eval (comp_ok he [(".0", .local), ("f", .local), ("_law_nearest", .globalImplicit), ("folders", .cell), ("kept", .cell)] ["f"] ["kept", "folders"] [("kept", L + 6), ("folders", L + 1)] (by decide +kernel) rfl (by walk_at "cl")) (fun _ => by with_unfolding_all rfl) ?_
  walk_at "evs"
  with_reducible refine newR (by assumption) ?_
  intro ar t1 u1 v1 s₁ S₂ hr _
  refine ⟨Z, B₁, _, _, _, fun _ j ys => Ints ys (flagsJ fs K j), ⟨S₂, iters_range 6 r.h S₂ hr (by decide) (by decide), by decide, ?_, Ints.nil, ?_⟩, ?_⟩
  · intro _ _ _ _ _ h; exact h
  · rintro C env' R₂ B₂ j v ys s₂ he' hj ⟨tj, rfl⟩ hb₂ hinv S₂
    dsimp only [List.map, List.cons_append, List.nil_append] at S₂
    rw [flagsJ_succ]
    obtain ⟨f, hkk⟩ : ∃ x : Int, x = j := ⟨_, rfl⟩
    rw [← hkk]
    refine wpAny_assign_Name ?_
    walk_at "evs"
    rename_i s₃ S₃
    with_reducible refine ifs0 ?_
    walk_at "evs"
    have hbb : ∀ b o, B b o → B₂ b o := fun b o e => hb₂ _ _ (hb₁ _ _ e)
    refine nearest_call (held := K) (Lg.gr S₃) (r.le (by decide)) (hF.mono fun b o e => S₃.keep b o (hbb _ _ e)) hV (hK.mono fun b o e => S₃.keep b o (hbb _ _ e)) (by omega) (by omega) (by omega) ?_
    intro t₄ s₄ k₄
    have S₄ := S₃.onT k₄
    walk_at "evs"
    split
    · rename_i c₂
      walk_at "evs"
      refine ⟨B₂, fun _ _ e => e, ?_, ?_⟩
      · rw [if_pos (by simpa using c₂)]; exact hinv.snoc
      · walk_at "at"
    · rename_i c₂
      walk_at "evs"
      refine ⟨B₂, fun _ _ e => e, ?_, ?_⟩
      · rw [if_neg (by simpa using c₂)]; exact hinv.snoc
      · walk_at "at"
  · intro D B₂ ys s₂ hb₂ hinv hlen₂ S₃
    walk_at "evs"
    refine ne_intsL (r.le (by decide)) ⟨_, S₃.keep _ _ (hb₂ _ _ hoT), pT⟩ (S₃.get mem0) iu hinv ?_
    rw [show (!decide (toldL fs K = flagsJ fs K 6)) = false from by rw [hEq]; simp]
    have S₅ := (S₃.anti (fun b o e => hb₂ _ _ (hb₁ _ _ e)) hgd).drop (.cons _ (.refl _))
    clear S₁ S₂ S₃
    walk_at "evs"
    exact h _ (by assumption)
theorem lawS13 {fa ra sa ka : Addr} {fs : List Fold} {xs sw : List Str} {K : List Int} (he : EnvIs env L lawN (lawC L)) (r : Rm A 8)
    (S : At w Z B (lawO L sc nu ah fi le ab ma to (some (.ref fa)) (some (.ref ra)) od k (some (.ref sa)) (some (.ref ka))) s) (hF : Folders B fa fs) (h6 : fs.length = 6) (hV : Valid fs) (hR : StrL B ra xs) (h7 : xs.length = 7) (hW : StrL B sa sw) (hw6 : sw.length = 6) (hK : IntL B ka K) (hKl : K.length ≤ 6)
    (hEq : ∀ ms : List Int, ms.Perm K → ms.Pairwise (· ≤ ·) → ms = standJ fs sw xs 6)
    (h : ∀ s', At w Z B (lawO L sc nu ah fi le ab ma to (some (.ref fa)) (some (.ref ra)) od k (some (.ref sa)) (some (.ref ka))) s' → Q (.ret (.bool true)) s') : wpAny (model prog w) A (exec (lawS 13) env) Q E s := by
  conv => arg 3; arg 1; whnf
  conv at he => arg 3; whnf
  dsimp only [lawC, lawO] at he S h
  obtain ⟨oW, vW, hoW, poW, iW⟩ := id hW
  obtain ⟨oR, vR, hoR, poR, iR⟩ := id hR
  obtain ⟨oK, vK, hoK, poK, iK⟩ := id hK
  walk_at "evs"
  refine sortLL S ⟨_, S.keep _ _ hoK, poK⟩ iK (by rw [iK.length]; omega) ?_
  intro c us ms s₁ S₁ iu hp hs
  have hms := hEq ms hp hs
  subst hms
  clear S
  walk_at "evs"
  with_reducible refine comp_eval (comp_ok he [(".0", .local), ("f", .local), ("folders", .cell), ("rows", .cell), ("shown", .cell)] ["f"] ["shown", "rows", "folders"] [("shown", L + 5), ("rows", L + 2), ("folders", L + 1)] (by decide +kernel) rfl (by walk_at "cl")) (fun _ => by with_unfolding_all rfl) ?_
  walk_at "evs"
  with_reducible refine newR (by assumption) ?_
  intro ar t1 u1 v1 s₁ S₂ hr _
  refine ⟨Z, B, _, _, _, fun _ j ys => Ints ys (standJ fs sw xs j), ⟨S₂, iters_range 6 r.h S₂ hr (by decide) (by decide), by decide, ?_, Ints.nil, ?_⟩, ?_⟩
  · intro _ _ _ _ _ h; exact h
  · rintro C env' R₂ B₂ j v ys s₂ he' hj ⟨tj, rfl⟩ hb₂ hinv S₂
    dsimp only [List.map, List.cons_append, List.nil_append] at S₂
    rw [standJ_succ]
    obtain ⟨f, hkk⟩ : ∃ x : Int, x = j := ⟨_, rfl⟩
    rw [← hkk]
    refine wpAny_assign_Name ?_
    walk_at "evs"
    rename_i s₃ S₃
    with_reducible refine ifs1 ?_
    walk_at "evs"
    obtain ⟨g, hg, hgm, ew', ep'⟩ := at_fold (fs := fs) (k := f) (by omega) (by omega)
    obtain ⟨oG, as', a', hga, pga, hlg, ⟨o₃, v1, v2, v3, v4, hg₂, pg₂⟩⟩ := hF.get hg
    have hup : upAt fs f = g.up := by unfold upAt; rw [hg]
    have hub := upAt_bd hV (f := f) (by omega) (by omega)
    with_reducible refine rowL (IsL.isList ⟨_, S₃.keep _ _ (hb₂ _ _ hoW), poW⟩) iW (by omega) (by omega) (by omega) ?_ (by with_unfolding_all rfl)
    intro t₄
    walk_at "evs"
    with_reducible refine item_listL (IsL.isList ⟨_, S₃.keep _ _ (hb₂ _ _ hga), pga⟩) (by omega) (by omega) hlg ?_ (by with_unfolding_all rfl) (by intro _; with_unfolding_all rfl)
    walk_at "evs"
    with_reducible refine item_tupleT (IsT.isTup ⟨_, S₃.keep _ _ (hb₂ _ _ hg₂), pg₂⟩) (by decide) (by decide) (by with_unfolding_all rfl) (by with_unfolding_all rfl) ?_ (by with_unfolding_all rfl)
    walk_at "evs"
    split
    · rename_i c
      have c : 0 ≤ g.up := by simpa using c
      have hrow : upRow fs sw xs f = rowAt sw g.up := by unfold upRow; rw [hup, if_pos c]
      walk_at "evs"
      with_reducible refine item_listL (IsL.isList ⟨_, S₃.keep _ _ (hb₂ _ _ hga), pga⟩) (by omega) (by omega) hlg ?_ (by with_unfolding_all rfl) (by intro _; with_unfolding_all rfl)
      walk_at "evs"
      with_reducible refine item_tupleT (IsT.isTup ⟨_, S₃.keep _ _ (hb₂ _ _ hg₂), pg₂⟩) (by decide) (by decide) (by with_unfolding_all rfl) (by with_unfolding_all rfl) ?_ (by with_unfolding_all rfl)
      walk_at "evs"
      with_reducible refine rowL (IsL.isList ⟨_, S₃.keep _ _ (hb₂ _ _ hoW), poW⟩) iW (by omega) (by omega) (by omega) ?_ (by with_unfolding_all rfl)
      intro t₅
      walk_at "evs"
      split
      · rename_i c₂
        walk_at "evs"
        refine ⟨B₂, fun _ _ e => e, ?_, ?_⟩
        · rw [if_pos (by rw [hrow]; exact c₂)]; exact hinv.snoc
        · walk_at "at"
      · rename_i c₂
        walk_at "evs"
        refine ⟨B₂, fun _ _ e => e, ?_, ?_⟩
        · rw [if_neg (by rw [hrow]; exact c₂), List.append_nil]; exact hinv
        · walk_at "at"
    · rename_i c
      have c : ¬ 0 ≤ g.up := by simpa using c
      have hrow : upRow fs sw xs f = rowAt xs (-1) := by unfold upRow; rw [hup, if_neg c]
      walk_at "evs"
      with_reducible refine wpAny_UnaryOp ?_
      walk_at "evs"
      with_reducible refine neg_int ?_
      with_reducible refine rowL (IsL.isList ⟨_, S₃.keep _ _ (hb₂ _ _ hoR), poR⟩) iR (by omega) (by omega) (by omega) ?_ (by with_unfolding_all rfl)
      intro t₅
      walk_at "evs"
      split
      · rename_i c₂
        walk_at "evs"
        refine ⟨B₂, fun _ _ e => e, ?_, ?_⟩
        · rw [if_pos (by rw [hrow]; exact c₂)]; exact hinv.snoc
        · walk_at "at"
      · rename_i c₂
        walk_at "evs"
        refine ⟨B₂, fun _ _ e => e, ?_, ?_⟩
        · rw [if_neg (by rw [hrow]; exact c₂), List.append_nil]; exact hinv
        · walk_at "at"
  · intro D B₂ ys s₂ hb₂ hinv hlen₂ S₃
    walk_at "evs"
    refine eq_intsL (r.le (by decide)) (S₃.get mem1) (S₃.get mem0) iu hinv ?_
    rw [show (decide (standJ fs sw xs 6 = standJ fs sw xs 6)) = true from by simp]
    have S₅ := (S₃.anti hb₂ S₁.gd).drop (.cons _ (.cons _ (.refl _)))
    clear S₁ S₂ S₃
    walk_at "evs"
    exact h _ (by assumption)
end
/-! law, called -/
def lawSw (fs : List Fold) : List Str := listN (ordN fs 6) (fitsOf fs) (rowsL fs) 6
def lawK (fs : List Fold) (ks : List Int) (i : Nat) : List Int := keptN (lawSw fs) (fitsOf fs) (rowsL fs) (ordN fs 6) ks i
structure Facts (fs : List Fold) : Prop where
  nice : Nice fs
  valid : Valid fs
  rows : rowsL fs = rowsR fs
  ok : OkS (rowsL fs)
  shown : lawSw fs = nearRows fs (ordN fs 6) (rowsL fs) 6
  step : ∀ ks, ks = ordN fs 6 ∨ ks = (ordN fs 6).reverse → ∀ i k, ks[i]? = some k → toldS (lawSw fs) (leftOf (lawK fs ks i) k) (fitsOf fs) (rowsL fs) = wantS fs (rowsL fs) (lawK fs ks i) k
  same : ∀ ks, ks = ordN fs 6 ∨ ks = (ordN fs 6).reverse → listN (lawK fs ks ks.length) (fitsOf fs) (rowsL fs) 6 = lawSw fs
  told : ∀ ks, ks = ordN fs 6 ∨ ks = (ordN fs 6).reverse → toldL fs (lawK fs ks ks.length) = flagsJ fs (lawK fs ks ks.length) 6
  stand : ∀ ks, ks = ordN fs 6 ∨ ks = (ordN fs 6).reverse → ∀ ms : List Int, ms.Perm (lawK fs ks ks.length) → ms.Pairwise (· ≤ ·) → ms = standJ fs (lawSw fs) (rowsL fs) 6
section
variable {prog : Program} {w : World} {A : Around} {E : Value → Shared → Prop} {s : Shared} {Q : Value → Shared → Prop}
theorem law_call {la : Addr} {ns : List Int} (g : Gr w s.heap) (r : Rm A 9) (hfr : A.frames = some []) (hN : ArgL (fun b o => s.heap.get? b = some o) la ns) (hl : ns.length ≤ 1000) (HF : ∀ fs, Tree fs → fs.length = 6 → Facts fs)
    (h : ∀ s', Kp s s' → Q (.bool true) s') : wpAny (model prog w) A (call (.ref 185) [.ref la]) Q E s := by
  refine enterCF ["script"] ["numbers", "ahead", "fits", "left", "above", "many", "told"] ["script"] ["kept", "shown", "k", "order", "rows", "folders"] lawC [("script", .ref la)] (fun L => [(L + 6, none), (L + 5, none), (L + 4, none), (L + 3, none), (L + 2, none), (L + 1, none)]) g r rfl (by kernel_rfl) rfl rfl rfl (by decide +kernel) rfl rfl rfl (fun _ => rfl) (fun _ => rfl) rfl (by simp) (fun _ => rfl) ?_
  intro A' env L s₀ he₀ S₀ r' hA hL
  rw [hfr] at hA
  have hA : A'.frames = some [env] := hA
  have he : EnvIs env L lawN (lawC L) := he₀
  have S₁ : At w s (fun b o => s.heap.get? b = some o) (lawO L (some (.ref la)) none none none none none none none none none none none none none) s₀ := S₀
  clear S₀ he₀
  show wpAny (model prog w) A' (execs lawB env) _ _ _
  rw [lawB_eq]
  refine execsC ?_
  intro Q₀ N₀ _
  refine lawS0 he r' S₁ hN hl ?_
  intro B₁ na ms s₂ b₁ hn hml S₂
  refine N₀ _ ?_
  clear S₁ N₀
  refine execsC ?_
  intro Q₁ N₁ _
  refine lawS1 he r' S₂ hn (by omega) ?_
  intro B₂ fa fs s₃ b₂ hF hT h6 S₃
  refine N₁ _ ?_
  clear S₂ N₁
  have G := HF fs hT h6
  have h7 : (rowsL fs).length = 7 := by rw [rowsL_len, h6]
  refine execsC ?_
  intro Q₂ N₂ _
  refine lawS2 he r' S₃ hF h6 ?_
  intro B₃ ra s₄ b₃ hR S₄
  refine N₂ _ ?_
  clear S₃ N₂
  refine execsC ?_
  intro Q₃ N₃ _
  refine lawS3 he r' S₄ (hF.mono b₃) h6 hR G.ok G.rows ?_
  intro s₅ S₅
  refine N₃ _ ?_
  clear S₄ N₃
  refine execsC ?_
  intro Q₄ N₄ _
  refine lawS4 he r' S₅ ?_
  intro oa s₆ S₆
  refine N₄ _ ?_
  clear S₅ N₄
  refine execsC ?_
  intro Q₅ N₅ _
  refine lawS5 he r' S₆ (hF.mono b₃) h6 ?_
  intro B₄ ah' k' s₇ b₄ hO S₇
  refine N₅ _ ?_
  clear S₆ N₅
  have hF₄ := (hF.mono b₃).mono b₄
  have hR₄ := hR.mono b₄
  have hbd := ordN_bd fs 6
  refine execsC ?_
  intro Q₆ N₆ _
  refine lawS6 he r' S₇ hF₄ h6 G.nice ?_
  intro B₅ ta s₈ b₅ hTa S₈
  refine N₆ _ ?_
  clear S₇ N₆
  refine execsC ?_
  intro Q₇ N₇ _
  refine lawS7 he r' S₈ hTa (hO.mono b₅) (hR₄.mono b₅) (fitsOf_six h6) h7 hbd.2 hbd.1 ?_
  intro B₆ sa s₉ b₆ hW S₉
  refine N₇ _ ?_
  clear S₈ N₇
  have b56 : ∀ b o, B₄ b o → B₆ b o := fun b o e => b₆ _ _ (b₅ _ _ e)
  have hswl : (lawSw fs).length = 6 := by simp [lawSw, listN]
  have hswok : OkS (lawSw fs) := by rw [G.shown]; exact nearRows_ok G.valid G.ok (by rw [h7, h6]) 6 (by omega)
  refine execsC ?_
  intro Q₈ N₈ _
  refine lawS8 he r' S₉ (hF₄.mono b56) h6 G.valid (hO.mono b56) (hR₄.mono b56) h7 hW G.ok G.shown ?_
  intro s₁₀ S₁₀
  refine N₈ _ ?_
  clear S₉ N₈
  refine execsC ?_
  intro Q₉ N₉ _
  refine lawS9 he r' S₁₀ (hO.mono b56) hbd.1 ?_
  intro B₇ ka s₁₁ b₇ hK S₁₁
  refine N₉ _ ?_
  clear S₁₀ N₉
  have b57 : ∀ b o, B₄ b o → B₇ b o := fun b o e => b₇ _ _ (b56 _ _ e)
  have b17 : ∀ b o, B₁ b o → B₇ b o := fun b o e => b57 _ _ (b₄ _ _ (b₃ _ _ (b₂ _ _ e)))
  refine execsC ?_
  intro Q₁₀ N₁₀ _
  refine lawS10 he r' hA hL S₁₁ (hF₄.mono b57) h6 G.valid (hTa.mono fun b o e => b₇ _ _ (b₆ _ _ e)) (fitsOf_six h6) (hR₄.mono b57) h7 G.ok (hW.mono b₇) hswl hK hbd.2 hbd.1 (hO.mono b57) (hn.mono b17) G.step ?_
  intro B₈ le' ab' ma' to' k'' ka' ks s₁₂ b₈ hks hK' S₁₂
  refine N₁₀ _ ?_
  clear S₁₁ N₁₀
  have b58 : ∀ b o, B₄ b o → B₈ b o := fun b o e => b₈ _ _ (b57 _ _ e)
  have hsub : (lawK fs ks ks.length).Sublist (ordN fs 6) := keptN_sub _ _ _ _ _
  have hkb : ∀ k ∈ lawK fs ks ks.length, 0 ≤ k ∧ k < 6 := fun k hk => hbd.2 k (hsub.subset hk)
  have hkl : (lawK fs ks ks.length).length ≤ 6 := Nat.le_trans hsub.length_le hbd.1
  refine execsC ?_
  intro Q₁₁ N₁₁ _
  refine lawS11 he r' S₁₂ (hTa.mono fun b o e => b₈ _ _ (b₇ _ _ (b₆ _ _ e))) (fitsOf_six h6) (hR₄.mono b58) h7 (hW.mono fun b o e => b₈ _ _ (b₇ _ _ e)) hswok hK' hkb hkl (G.same ks hks) ?_
  intro s₁₃ S₁₃
  refine N₁₁ _ ?_
  clear S₁₂ N₁₁
  refine execsC ?_
  intro Q₁₂ N₁₂ _
  refine lawS12 he r' S₁₃ (hF₄.mono b58) h6 G.valid G.nice hK' hkb hkl (G.told ks hks) ?_
  intro s₁₄ S₁₄
  refine N₁₂ _ ?_
  clear S₁₃ N₁₂
  refine exec1 ?_
  refine lawS13 he r' S₁₄ (hF₄.mono b58) h6 G.valid (hR₄.mono b58) h7 (hW.mono fun b o e => b₈ _ _ (b₇ _ _ e)) hswl hK' hkl (G.stand ks hks) ?_
  intro s₁₅ S₁₅
  refine h _ (Lg.kp (S₁₅.anti (fun b o e => b58 _ _ (b₄ _ _ (b₃ _ _ (b₂ _ _ (b₁ _ _ e))))) g.gd))
end
/-! the bridge from the open law's head -/
theorem law_tail {p : Program} {loose : List Str} {mean : ExcName → Option Value} {R : WRecords} {prog : Program} {w : World} {s₁ : Shared} {mg mb : Str → Option Value} {fa : Addr} {args : List WData} {vals : List Value} {as : List Addr} {cl : Str → Option Addr} {mn : ExcName → Option Value}
    (T : Top p loose mean mg mb s₁.heap) (Y : (KH w.params).In s₁.heap) (hmg : mg (Str.ofString "law") = some (.ref fa)) (hg : s₁.gens = #[]) (hpre : PySem.Challenge.rw_op0075_01.row.claim.pre args = true) (hlay : WData.layableAll args = true)
    (hrd : ReadsAllW R cl s₁.heap vals args as) (hwl : WellAll w.params s₁.heap vals args) (hlo : ∀ (a : Addr), a ∈ as → (a == sysModules) = false) (HF : ∀ fs, Tree fs → fs.length = 6 → Facts fs) :
    wpAny (model prog w) callerA (call (.ref fa) vals) (fun v s' => GoodWG PySem.Challenge.rw_op0075_01.row.claim cl mn args s₁ (.ok (.ret v)) s') (fun e s' => GoodWG PySem.Challenge.rw_op0075_01.row.claim cl mn args s₁ (.error e) s') s₁ := by
  have g : Gr w s₁.heap := ⟨Y, ⟨mg, mb, T.g, T.b, T.builtins⟩, T.nolimit⟩
  have h185 : mg (Str.ofString "law") = some (.ref 185) := glob_of Y T.g (by kernel_rfl)
  rw [h185] at hmg
  cases hmg
  wrow_args hpre hlay hrd hwl hlo
  rename_i ns _ _ _ _ _ _ _ la vs _ hL _ _ _ hI _ _ hlen
  have hlen : ns.length ≤ 63 := by omega
  obtain ⟨o, e, hc, n, hd⟩ := hL
  refine law_call g ⟨by show 301 + 9 < _; decide, by show 4 + 90 < _; decide, rfl⟩ rfl ⟨o, vs, n, e, hc, hd, Ints.of hI⟩ (by omega) HF ?_
  intro s' k
  have hn : ∀ cls, PySem.Challenge.rw_op0075_01.row.claim.raises [ofPy (PyData.list (List.map PyData.int ns))] cls = false := fun cls => rfl
  have hp : PySem.Challenge.rw_op0075_01.row.claim.post [ofPy (PyData.list (List.map PyData.int ns))] (.bool true) [ofPy (PyData.list (List.map PyData.int ns))] = true := by
    first
    | rfl
    | exact postW_of (by wrow_shape) (by wtm_val) (by w_fin)
  exact GoodW.toG ⟨.inl ⟨.bool true, .bool true, [], rfl, hn, .bool true, hp, unshared_nil⟩, k.keep, k.os, k.gens.trans hg⟩
/-! the plain law: order, listing, nearest -/
def gtP (fs : List Fold) (a b : Int) : Prop := (pathAt fs b).cps.toList < (pathAt fs a).cps.toList
theorem gtP_asymm {fs : List Fold} {a b : Int} (h : gtP fs a b) (k : gtP fs b a) : False := List.lt_asymm h k
theorem gtP_trans {fs : List Fold} {a b c : Int} (h : gtP fs a b) (k : gtP fs b c) : gtP fs a c := List.lt_trans k h
theorem gtP_irr {fs : List Fold} {a : Int} (h : gtP fs a a) : False := List.lt_irrefl _ h
theorem cmp_gt (fs : List Fold) (a b : Int) : (cmpS (pathAt fs a) (pathAt fs b) == 1) = true ↔ gtP fs a b := by
  unfold cmpS gtP
  by_cases h : (pathAt fs b).cps.toList < (pathAt fs a).cps.toList
  · have h2 : ¬ (pathAt fs a).cps.toList < (pathAt fs b).cps.toList := List.lt_asymm h
    simp [h, h2, b2i]
  · by_cases h2 : (pathAt fs a).cps.toList < (pathAt fs b).cps.toList <;> simp [h, h2, b2i]
structure Geo (fs : List Fold) : Prop where
  valid : Valid fs
  six : fs.length = 6
  deep : ∀ a b : Int, 0 ≤ a → a < 6 → 0 ≤ b → b < 6 → near fs [b] a = b → a ≠ b → gtP fs a b
  inj : ∀ a b : Int, 0 ≤ a → a < 6 → 0 ≤ b → b < 6 → (pathAt fs a).cps.toList = (pathAt fs b).cps.toList → a = b
  fit : ∀ K : List Int, (∀ k ∈ K, 0 ≤ k ∧ k < 6) → ∀ f : Nat, f < 6 → (toldL fs K)[f]? = some (if K.any (fun k => near fs [k] f == k) = true then 1 else 0)
theorem Geo.tri {fs : List Fold} (G : Geo fs) {a b : Int} (h0 : 0 ≤ a) (h1 : a < 6) (h2 : 0 ≤ b) (h3 : b < 6) (hne : a ≠ b) : gtP fs a b ∨ gtP fs b a := by
  by_cases h : gtP fs a b
  · exact .inl h
  · by_cases k : gtP fs b a
    · exact .inr k
    · exact absurd (G.inj a b h0 h1 h2 h3 (List.le_antisymm (List.not_lt.mp h) (List.not_lt.mp k))) hne
/-- laid behind those that are greater -/
theorem ins_sorted {fs : List Fold} (G : Geo fs) {k : Int} (hk0 : 0 ≤ k) (hk1 : k < 6) : ∀ ord : List Int, ord.Pairwise (gtP fs) → (∀ o ∈ ord, 0 ≤ o ∧ o < 6 ∧ o ≠ k) → (insAt ord (aheadOf fs ord k).length k).Pairwise (gtP fs)
  | [], _, _ => by simp [insAt, aheadOf]
  | o :: r, hp, hb => by
    obtain ⟨ho0, ho1, hok⟩ := hb o (.head _)
    rw [List.pairwise_cons] at hp
    by_cases h : gtP fs o k
    · have e : (aheadOf fs (o :: r) k).length = (aheadOf fs r k).length + 1 := by
        unfold aheadOf; rw [List.filter_cons, if_pos ((cmp_gt fs o k).mpr h)]; rfl
      rw [e]
      show (o :: insAt r (aheadOf fs r k).length k).Pairwise (gtP fs)
      rw [List.pairwise_cons]
      refine ⟨fun x hx => ?_, ins_sorted G hk0 hk1 r hp.2 fun o ho => hb o (.tail _ ho)⟩
      simp only [insAt, List.mem_append, List.mem_cons] at hx
      rcases hx with hx | rfl | hx
      · exact hp.1 x (List.mem_of_mem_take hx)
      · exact h
      · exact hp.1 x (List.mem_of_mem_drop hx)
    · have hko : gtP fs k o := (G.tri ho0 ho1 hk0 hk1 hok).resolve_left h
      have e : aheadOf fs (o :: r) k = [] := by
        unfold aheadOf
        rw [List.filter_eq_nil_iff]
        intro x hx
        intro hxk
        have hxk := (cmp_gt fs x k).mp hxk
        rcases List.mem_cons.mp hx with rfl | hx
        · exact h hxk
        · exact gtP_asymm (gtP_trans hko (hp.1 x hx)) hxk
      rw [e]
      show (k :: o :: r).Pairwise (gtP fs)
      rw [List.pairwise_cons, List.pairwise_cons]
      refine ⟨fun x hx => ?_, hp⟩
      rcases List.mem_cons.mp hx with rfl | hx
      · exact hko
      · exact gtP_trans hko (hp.1 x hx)
theorem ord_sorted {fs : List Fold} (G : Geo fs) : ∀ n, n ≤ 6 → (ordN fs n).Pairwise (gtP fs)
  | 0, _ => .nil
  | n + 1, hn => by
    have ih := ord_sorted G n (by omega)
    unfold ordN ordStep
    split
    · exact ins_sorted G (by omega) (by omega) _ ih fun o ho => by have := (ordN_bd fs n).2 o ho; omega
    · exact ih
theorem anc_step {fs : List Fold} (hV : Valid fs) {a f : Int} (ha : 0 ≤ a) (h0 : -1 ≤ f) (h1 : f < fs.length) : (near fs [a] f = a) ↔ (0 ≤ f ∧ (f = a ∨ near fs [a] (upAt fs f) = a)) := by
  rw [near_step hV [a] h0 h1]
  by_cases hf : 0 ≤ f
  · by_cases e : f = a
    · subst e; simp [hf]
    · have : f ∉ [a] := by simpa using e
      rw [if_pos ⟨hf, this⟩]; simp [hf, e]
  · have : f = -1 := by omega
    subst this
    simp; omega
theorem near_head {fs : List Fold} (G : Geo fs) {K : List Int} (hp : K.Pairwise (gtP fs)) (hb : ∀ k ∈ K, 0 ≤ k ∧ k < 6) : ∀ (n : Nat) (f : Int), -1 ≤ f → f < 6 → (f + 1).toNat ≤ n → (K.filter fun k => near fs [k] f == k).headD (-1) = near fs K f
  | n, f, h0, h1, hn => by
    have h6 := G.six
    rw [near_step G.valid K h0 (by omega)]
    by_cases hf : 0 ≤ f
    · by_cases hm : f ∈ K
      · rw [if_neg (fun c => c.2 hm)]
        have hff : near fs [f] f = f := (anc_step G.valid hf (by omega) (by omega)).mpr ⟨hf, .inl rfl⟩
        have hmem : f ∈ K.filter fun k => near fs [k] f == k := List.mem_filter.mpr ⟨hm, by simpa using hff⟩
        cases e : K.filter fun k => near fs [k] f == k with
        | nil => rw [e] at hmem; cases hmem
        | cons h t =>
          show h = f
          by_cases hh : h = f
          · exact hh
          · have hs : (h :: t).Pairwise (gtP fs) := e ▸ hp.filter _
            have h3 : h ∈ K.filter fun k => near fs [k] f == k := by rw [e]; exact .head _
            obtain ⟨h4, h5⟩ := List.mem_filter.mp h3
            have h5 : near fs [h] f = h := by simpa using h5
            rw [e] at hmem
            have h7 : f ∈ t := (List.mem_cons.mp hmem).resolve_left fun q => hh q.symm
            have := hb h h4
            exact (gtP_asymm ((List.pairwise_cons.mp hs).1 f h7) (G.deep f h hf h1 this.1 this.2 h5 (fun q => hh q.symm))).elim
      · rw [if_pos ⟨hf, hm⟩]
        have hu := upAt_bd G.valid hf (by omega)
        match n, hn with
        | 0, hn => omega
        | n + 1, hn =>
          rw [← near_head G hp hb n (upAt fs f) hu.1 (by omega) (by omega)]
          congr 1
          refine List.filter_congr fun x hx => ?_
          have hx0 := (hb x hx).1
          have := anc_step G.valid hx0 h0 (by omega : f < fs.length)
          have hne : f ≠ x := fun e => hm (e ▸ hx)
          rw [Bool.eq_iff_iff]
          simp only [beq_iff_eq]
          rw [this]
          simp [hf, hne]
    · have : f = -1 := by omega
      subst this
      rw [if_neg (by omega)]
      have : (K.filter fun k => near fs [k] (-1) == k) = [] := by
        rw [List.filter_eq_nil_iff]
        intro k hk
        have hk0 := (hb k hk).1
        have := anc_step G.valid hk0 (by omega : (-1 : Int) ≤ -1) (by omega)
        simp only [beq_iff_eq]
        rw [this]
        omega
      rw [this]; rfl
theorem fitAt_eq {fs : List Fold} (G : Geo fs) {k : Int} (h0 : 0 ≤ k) (h1 : k < 6) {f : Nat} (hf : f < 6) : (fitAt (fitsOf fs) k f == 1) = (near fs [k] f == k) := by
  have hk : k.toNat < 6 := by omega
  have hkk : ((k.toNat : Nat) : Int) = k := by omega
  unfold fitAt
  rw [fitsOf_get hk, Option.getD_some, Int.toNat_natCast, hkk, G.fit [k] (by simp; omega) f hf, Option.getD_some]
  simp only [List.any_cons, List.any_nil, Bool.or_false]
  cases near fs [k] f == k <;> rfl
theorem list_near {fs : List Fold} (G : Geo fs) {K : List Int} (hp : K.Pairwise (gtP fs)) (hb : ∀ k ∈ K, 0 ≤ k ∧ k < 6) (xs : List Str) : listN K (fitsOf fs) xs 6 = nearRows fs K xs 6 := by
  unfold listN nearRows
  refine List.map_congr_left fun f hf => ?_
  have hf := List.mem_range.mp hf
  congr 1
  rw [← near_head G hp hb ((f : Int) + 1).toNat f (by omega) (by omega) (Nat.le_refl _)]
  congr 1
  unfold fitting
  exact List.filter_congr fun k hk => fitAt_eq G (hb k hk).1 (hb k hk).2 hf
theorem near_any {fs : List Fold} (G : Geo fs) {K : List Int} (hp : K.Pairwise (gtP fs)) (hb : ∀ k ∈ K, 0 ≤ k ∧ k < 6) {f : Int} (h0 : -1 ≤ f) (h1 : f < 6) : K.any (fun k => near fs [k] f == k) = true ↔ 0 ≤ near fs K f := by
  rw [← near_head G hp hb (f + 1).toNat f h0 h1 (Nat.le_refl _)]
  cases e : K.filter fun k => near fs [k] f == k with
  | nil =>
    rw [List.filter_eq_nil_iff] at e
    simp only [List.headD_nil]
    rw [List.any_eq_true]
    constructor
    · rintro ⟨x, hx, hx2⟩; exact absurd hx2 (e x hx)
    · intro h; omega
  | cons h t =>
    have hm : h ∈ K.filter fun k => near fs [k] f == k := by rw [e]; exact .head _
    obtain ⟨h4, h5⟩ := List.mem_filter.mp hm
    simp only [List.headD_cons]
    rw [List.any_eq_true]
    exact ⟨fun _ => (hb h h4).1, fun _ => ⟨h, h4, h5⟩⟩
theorem told_flags {fs : List Fold} (G : Geo fs) {K : List Int} (hp : K.Pairwise (gtP fs)) (hb : ∀ k ∈ K, 0 ≤ k ∧ k < 6) : toldL fs K = flagsJ fs K 6 := by
  refine List.ext_getElem? fun f => ?_
  by_cases hf : f < 6
  · rw [G.fit K hb f hf]
    unfold flagsJ
    rw [List.getElem?_map, List.getElem?_range hf]
    simp only [Option.map_some, Option.some.injEq]
    have := near_any G hp hb (f := (f : Int)) (by omega) (by omega)
    by_cases h : 0 ≤ near fs K f
    · rw [if_pos (this.mpr h), if_pos h]
    · rw [if_neg (fun c => h (this.mp c)), if_neg h]
  · rw [List.getElem?_eq_none (by simp [toldL, G.six]; omega), List.getElem?_eq_none (by simp [flagsJ]; omega)]
/-- without one of the rules -/
theorem near_left {fs : List Fold} (G : Geo fs) {K : List Int} {k : Int} (hk0 : 0 ≤ k) (hk1 : k < 6) : ∀ (n : Nat) (f : Int), -1 ≤ f → f < 6 → (f + 1).toNat ≤ n → near fs (leftOf K k) f = if near fs K f = k then near fs (leftOf K k) k else near fs K f
  | n, f, h0, h1, hn => by
    have h6 := G.six
    by_cases hf : 0 ≤ f
    · have hu := upAt_bd G.valid hf (by omega)
      by_cases hm : f ∈ K
      · have e1 : near fs K f = f := by rw [near_step G.valid K h0 (by omega), if_neg (fun c => c.2 hm)]
        rw [e1]
        by_cases e : f = k
        · rw [if_pos e, e]
        · rw [if_neg e, near_step G.valid _ h0 (by omega), if_neg]
          exact fun c => c.2 (List.mem_filter.mpr ⟨hm, by simpa using e⟩)
      · have hm' : f ∉ leftOf K k := fun c => hm (List.mem_filter.mp c).1
        have e1 : near fs K f = near fs K (upAt fs f) := by rw [near_step G.valid K h0 (by omega), if_pos ⟨hf, hm⟩]
        have e2 : near fs (leftOf K k) f = near fs (leftOf K k) (upAt fs f) := by rw [near_step G.valid _ h0 (by omega), if_pos ⟨hf, hm'⟩]
        rw [e1, e2]
        match n, hn with
        | 0, hn => omega
        | n + 1, hn => exact near_left G hk0 hk1 n _ hu.1 (by omega) (by omega)
    · have : f = -1 := by omega
      subst this
      have e : ∀ K, near fs K (-1) = -1 := fun K => by rw [near_step G.valid K (by omega) (by omega), if_neg (by omega)]
      rw [e, e, if_neg (by omega)]
/-! the plain law: the difference and the strike-out -/
theorem ul_count (x : Str) : ∀ es as ms : List Str, (ulR es as ms).1.count x = ms.count x + (es.count x - as.count x) ∧ (ulR es as ms).2.count x = as.count x - es.count x
  | [], as, ms => by simp [ulR]
  | y :: r, as, ms => by
    unfold ulR
    split
    · rename_i h
      obtain ⟨h1, h2⟩ := ul_count x r (as.erase y) ms
      rw [h1, h2, List.count_erase, List.count_cons]
      by_cases e : y = x
      · subst e
        have := List.count_pos_iff.mpr h
        simp only [beq_self_eq_true, if_true]
        omega
      · have e' : (y == x) = false := by simpa using e
        simp only [e', Bool.false_eq_true, if_false]
        omega
    · rename_i h
      obtain ⟨h1, h2⟩ := ul_count x r as (ms ++ [y])
      rw [h1, h2, List.count_append, List.count_cons, List.count_cons, List.count_nil]
      by_cases e : y = x
      · subst e
        have := List.count_eq_zero.mpr h
        simp only [beq_self_eq_true, if_true]
        omega
      · have e' : (y == x) = false := by simpa using e
        simp only [e', Bool.false_eq_true, if_false]
        omega
theorem list_of_count {l : List Str} {a : Str} {m : Nat} (h : ∀ x, l.count x = if a = x then m else 0) : l = List.replicate m a := by
  have h2 : ∀ b ∈ l, b = a := fun b hb => by
    have h1 := List.count_pos_iff.mpr hb
    rw [h b] at h1
    by_cases e : a = b
    · exact e.symm
    · rw [if_neg e] at h1; omega
  have h3 := List.eq_replicate_iff.mpr ⟨rfl, h2⟩
  have h4 := h a
  rw [if_pos rfl, h3, List.count_replicate_self] at h4
  rw [h3, h4]
theorem count_swap {x a b : Str} {p : Nat → Bool} {c : Nat → Str} {s l : Nat → Str} (hs : ∀ f, s f = if p f = true then a else c f) (hl : ∀ f, l f = if p f = true then b else c f) : ∀ fs : List Nat,
    (fs.map s).count x + (if b = x then (fs.filter p).length else 0) = (fs.map l).count x + (if a = x then (fs.filter p).length else 0)
  | [] => by simp
  | f :: r => by
    have ih := count_swap (x := x) hs hl r
    rw [List.map_cons, List.map_cons, List.count_cons, List.count_cons, List.filter_cons, hs f, hl f]
    by_cases hp : p f = true
    · simp only [hp, if_true, List.length_cons, beq_iff_eq]
      by_cases h1 : a = x <;> by_cases h2 : b = x <;> simp only [h1, h2, if_true, if_false] at ih ⊢ <;> omega
    · simp only [hp, if_false, Bool.false_eq_true, beq_iff_eq]
      split <;> omega
theorem ul_swap {a b : Str} {p : Nat → Bool} {c s l : Nat → Str} (hs : ∀ f, s f = if p f = true then a else c f) (hl : ∀ f, l f = if p f = true then b else c f) (fs : List Nat) :
    ulR (fs.map s).reverse (fs.map l) [] = if a = b then ([], []) else (List.replicate (fs.filter p).length a, List.replicate (fs.filter p).length b) := by
  have hc := fun x => count_swap (x := x) hs hl fs
  have hu := fun x => ul_count x (fs.map s).reverse (fs.map l) []
  have e1 : ∀ x, (ulR (fs.map s).reverse (fs.map l) []).1.count x = if a = x then (if a = b then 0 else (fs.filter p).length) else 0 := fun x => by
    rw [(hu x).1, List.count_nil, List.count_reverse]
    have := hc x
    by_cases h3 : a = b
    · subst h3
      rw [if_pos rfl]
      split <;> omega
    · rw [if_neg h3]
      by_cases h1 : a = x
      · subst h1
        rw [if_pos rfl] at this ⊢
        rw [if_neg (fun e => h3 e.symm)] at this
        omega
      · rw [if_neg h1] at this ⊢
        split at this <;> omega
  have e2 : ∀ x, (ulR (fs.map s).reverse (fs.map l) []).2.count x = if b = x then (if a = b then 0 else (fs.filter p).length) else 0 := fun x => by
    rw [(hu x).2, List.count_reverse]
    have := hc x
    by_cases h3 : a = b
    · subst h3
      rw [if_pos rfl]
      split <;> omega
    · rw [if_neg h3]
      by_cases h1 : b = x
      · subst h1
        rw [if_pos rfl] at this ⊢
        rw [if_neg h3] at this
        omega
      · rw [if_neg h1] at this ⊢
        split at this <;> omega
  have e3 := list_of_count e1
  have e4 := list_of_count e2
  refine Prod.ext ?_ ?_
  · rw [e3]; split <;> rfl
  · rw [e4]; split <;> rfl
/-! the plain law: the strike-out, and the whole -/
def shC (fs : List Fold) (f : Int) : Str := rowAt (rowsL fs) (near fs (ordN fs 6) f)
structure StInv (fs : List Fold) (ks : List Int) (i : Nat) (K : List Int) : Prop where
  sub : K.Sublist (ordN fs 6)
  same : ∀ f : Int, -1 ≤ f → f < 6 → rowAt (rowsL fs) (near fs K f) = shC fs f
  todo : ∀ k ∈ ordN fs 6, k ∉ ks.take i → k ∈ K
  done : ∀ k ∈ ks.take i, k ∈ K ↔ rowAt (rowsL fs) k ≠ shC fs (upAt fs k)
theorem StInv.sorted {fs : List Fold} {ks : List Int} {i : Nat} {K : List Int} (I : StInv fs ks i K) (G : Geo fs) : K.Pairwise (gtP fs) := (ord_sorted G 6 (Nat.le_refl _)).sublist I.sub
theorem StInv.bd {fs : List Fold} {ks : List Int} {i : Nat} {K : List Int} (I : StInv fs ks i K) : ∀ k ∈ K, 0 ≤ k ∧ k < 6 := fun k hk => (ordN_bd fs 6).2 k (I.sub.subset hk)
theorem sw_eq {fs : List Fold} (G : Geo fs) : lawSw fs = nearRows fs (ordN fs 6) (rowsL fs) 6 := list_near G (ord_sorted G 6 (Nat.le_refl _)) (ordN_bd fs 6).2 _
theorem StInv.rows {fs : List Fold} {ks : List Int} {i : Nat} {K : List Int} (I : StInv fs ks i K) (G : Geo fs) : nearRows fs K (rowsL fs) 6 = lawSw fs := by
  rw [sw_eq G]
  unfold nearRows
  refine List.map_congr_left fun f hf => ?_
  have hf := List.mem_range.mp hf
  exact I.same f (by omega) (by omega)
theorem told_want {fs : List Fold} {ks : List Int} {i : Nat} {K : List Int} (G : Geo fs) (I : StInv fs ks i K) {k : Int} (hk : k ∈ K) : toldS (lawSw fs) (leftOf K k) (fitsOf fs) (rowsL fs) = wantS fs (rowsL fs) K k := by
  have hkb := I.bd k hk
  have hM : (leftOf K k).Pairwise (gtP fs) := (I.sorted G).filter _
  have hMb : ∀ x ∈ leftOf K k, 0 ≤ x ∧ x < 6 := fun x hx => I.bd x (List.mem_filter.mp hx).1
  have e1 : lawSw fs = (List.range 6).map fun (f : Nat) => rowAt (rowsL fs) (near fs K f) := (I.rows G).symm
  have e2 : listN (leftOf K k) (fitsOf fs) (rowsL fs) 6 = (List.range 6).map fun (f : Nat) => if near fs K f = k then rowAt (rowsL fs) (near fs (leftOf K k) k) else rowAt (rowsL fs) (near fs K f) := by
    rw [list_near G hM hMb]
    unfold nearRows
    refine List.map_congr_left fun f hf => ?_
    have hf := List.mem_range.mp hf
    rw [near_left G hkb.1 hkb.2 ((f : Int) + 1).toNat f (by omega) (by omega) (Nat.le_refl _)]
    split <;> rfl
  unfold toldS
  rw [e1, e2]
  rw [ul_swap (a := rowAt (rowsL fs) k) (b := rowAt (rowsL fs) (near fs (leftOf K k) k)) (p := fun f : Nat => near fs K f == k) (c := fun f : Nat => rowAt (rowsL fs) (near fs K f)) (fun f => ?_) (fun f => ?_) (List.range 6)]
  · have e3 : (manyJ fs K k 6).length = ((List.range 6).filter fun f : Nat => near fs K f == k).length := by
      unfold manyJ; rw [List.filter_map, List.length_map]; rfl
    unfold wantS
    rw [e3]
  · by_cases e : near fs K f = k
    · simp [e]
    · simp [e]
  · by_cases e : near fs K f = k
    · simp [e]
    · simp [e]
theorem left_up {fs : List Fold} {ks : List Int} {i : Nat} {K : List Int} (G : Geo fs) (I : StInv fs ks i K) {k : Int} (hk : k ∈ K) : rowAt (rowsL fs) (near fs (leftOf K k) k) = shC fs (upAt fs k) := by
  have hkb := I.bd k hk
  have hu := upAt_bd G.valid hkb.1 (by rw [G.six]; exact hkb.2)
  have hnm : k ∉ leftOf K k := fun c => by have := (List.mem_filter.mp c).2; simp at this
  have hb := near_bd G.valid K (f := upAt fs k) hu.1 (by rw [G.six]; omega)
  rw [near_step G.valid _ (by omega) (by rw [G.six]; exact hkb.2), if_pos ⟨hkb.1, hnm⟩, near_left G hkb.1 hkb.2 _ _ hu.1 (by omega) (Nat.le_refl _), if_neg (by omega)]
  exact I.same _ hu.1 (by omega)
theorem many_pos {fs : List Fold} {ks : List Int} {i : Nat} {K : List Int} (G : Geo fs) (I : StInv fs ks i K) {k : Int} (hk : k ∈ K) : 0 < (manyJ fs K k 6).length := by
  have hkb := I.bd k hk
  refine List.length_pos_of_mem (a := k) (List.mem_filter.mpr ⟨?_, ?_⟩)
  · exact List.mem_map.mpr ⟨k.toNat, List.mem_range.mpr (by omega), by omega⟩
  · have : near fs K k = k := by rw [near_step G.valid K (by omega) (by rw [G.six]; exact hkb.2), if_neg (fun c => c.2 hk)]
    simp [this]
theorem StInv.step {fs : List Fold} {ks : List Int} {i : Nat} {K : List Int} (G : Geo fs) (I : StInv fs ks i K) {k : Int} (hi : ks[i]? = some k) (hnd : ks.Nodup) (hko : k ∈ ordN fs 6) : k ∈ K ∧ StInv fs ks (i + 1) (keptStep (lawSw fs) (fitsOf fs) (rowsL fs) K k) := by
  have htk : ks.take (i + 1) = ks.take i ++ [k] := by rw [List.take_add_one, hi]; rfl
  have hnt : k ∉ ks.take i := by
    have : (ks.take (i + 1)).Nodup := hnd.sublist (List.take_sublist _ _)
    rw [htk, List.nodup_append] at this
    exact fun c => this.2.2 k c k (.head _) rfl
  have hk := I.todo k hko hnt
  refine ⟨hk, ?_⟩
  have hkb := I.bd k hk
  have hup := left_up G I hk
  have hw := told_want G I hk
  have hm := many_pos G I hk
  have hiff : toldS (lawSw fs) (leftOf K k) (fitsOf fs) (rowsL fs) = ([], []) ↔ rowAt (rowsL fs) k = shC fs (upAt fs k) := by
    rw [hw, ← hup]
    unfold wantS
    constructor
    · intro h
      by_cases e : rowAt (rowsL fs) k = rowAt (rowsL fs) (near fs (leftOf K k) k)
      · exact e
      · rw [if_neg e] at h
        have := congrArg (fun p => p.1.length) h
        simp only [List.length_replicate, List.length_nil] at this
        omega
    · intro h; rw [if_pos h]
  unfold keptStep
  by_cases e : rowAt (rowsL fs) k = shC fs (upAt fs k)
  · rw [if_pos (hiff.mpr e)]
    refine ⟨List.filter_sublist.trans I.sub, fun f h0 h1 => ?_, fun x hx hn => ?_, fun x hx => ?_⟩
    · rw [near_left G hkb.1 hkb.2 _ f h0 h1 (Nat.le_refl _), ← I.same f h0 h1]
      split
      · rename_i c; rw [hup, ← e, c]
      · rfl
    · rw [htk, List.mem_append, not_or] at hn
      exact List.mem_filter.mpr ⟨I.todo x hx hn.1, by have := hn.2; simpa using this⟩
    · rw [htk, List.mem_append] at hx
      rcases hx with hx | hx
      · have hne : x ≠ k := fun q => hnt (q ▸ hx)
        rw [← I.done x hx]
        unfold leftOf
        rw [List.mem_filter]
        simp [hne]
      · cases List.mem_singleton.mp hx
        unfold leftOf
        rw [List.mem_filter]
        simp [e]
  · rw [if_neg (fun c => e (hiff.mp c))]
    refine ⟨I.sub, I.same, fun x hx hn => I.todo x hx (fun c => hn (by rw [htk]; exact List.mem_append_left _ c)), fun x hx => ?_⟩
    rw [htk, List.mem_append] at hx
    rcases hx with hx | hx
    · exact I.done x hx
    · cases List.mem_singleton.mp hx
      simp [hk, e]
theorem st_inv {fs : List Fold} (G : Geo fs) {ks : List Int} (hnd : ks.Nodup) (hko : ∀ k ∈ ks, k ∈ ordN fs 6) : ∀ i, i ≤ ks.length → StInv fs ks i (lawK fs ks i)
  | 0, _ => ⟨.refl _, fun _ _ _ => rfl, fun _ h _ => h, fun _ h => by simp at h⟩
  | i + 1, hi => by
    have hlt : i < ks.length := hi
    have hk := List.getElem?_eq_getElem hlt
    have := (st_inv G hnd hko i (by omega)).step G hk hnd (hko _ (List.getElem_mem hlt))
    have e : lawK fs ks (i + 1) = keptStep (lawSw fs) (fitsOf fs) (rowsL fs) (lawK fs ks i) ks[i] := keptN_succ hk
    rw [e]; exact this.2
theorem ord_nodup {fs : List Fold} (G : Geo fs) : (ordN fs 6).Nodup := List.Pairwise.imp (R := gtP fs) (S := (· ≠ ·)) (fun {a b} h e => by rw [e] at h; exact gtP_irr h) (ord_sorted G 6 (Nat.le_refl _))
theorem facts_of {fs : List Fold} (G : Geo fs) (N : Nice fs) (hr : rowsL fs = rowsR fs) (ho : OkS (rowsL fs)) : Facts fs := by
  have hnd := ord_nodup G
  have key : ∀ ks, ks = ordN fs 6 ∨ ks = (ordN fs 6).reverse → ks.Nodup ∧ (∀ k, k ∈ ks ↔ k ∈ ordN fs 6) := fun ks h => by
    rcases h with rfl | rfl
    · exact ⟨hnd, fun _ => Iff.rfl⟩
    · exact ⟨(List.reverse_perm _).nodup_iff.mpr hnd, fun _ => List.mem_reverse⟩
  have inv : ∀ ks, ks = ordN fs 6 ∨ ks = (ordN fs 6).reverse → ∀ i, i ≤ ks.length → StInv fs ks i (lawK fs ks i) := fun ks h => st_inv G (key ks h).1 fun k hk => ((key ks h).2 k).mp hk
  refine ⟨N, G.valid, hr, ho, sw_eq G, fun ks h i k hi => ?_, fun ks h => ?_, fun ks h => ?_, fun ks h ms hp hs => ?_⟩
  · have hlt := (List.getElem?_eq_some_iff.mp hi).1
    have I := inv ks h i (by omega)
    exact told_want G I (I.step G hi (key ks h).1 (((key ks h).2 k).mp (List.mem_of_getElem? hi))).1
  · have I := inv ks h _ (Nat.le_refl _)
    rw [list_near G (I.sorted G) I.bd, I.rows G]
  · have I := inv ks h _ (Nat.le_refl _)
    exact told_flags G (I.sorted G) I.bd
  · have I := inv ks h _ (Nat.le_refl _)
    have hsw : ∀ f : Int, 0 ≤ f → f < 6 → rowAt (lawSw fs) f = shC fs f := fun f h0 h1 => by
      rw [sw_eq G]
      unfold rowAt nearRows
      rw [if_neg (by omega), List.getElem?_map, List.getElem?_range (by omega)]
      simp only [Option.map_some, Option.getD_some]
      have : ((f.toNat : Nat) : Int) = f := by omega
      rw [this]; rfl
    have hneg : near fs (ordN fs 6) (-1) = -1 := by rw [near_step G.valid _ (by omega) (by rw [G.six]; omega), if_neg (by omega)]
    have hst : ∀ f : Int, 0 ≤ f → f < 6 → ((rowAt (lawSw fs) f != upRow fs (lawSw fs) (rowsL fs) f) = true ↔ f ∈ lawK fs ks ks.length) := fun f h0 h1 => by
      have hu := upAt_bd G.valid h0 (by rw [G.six]; exact h1)
      have hur : upRow fs (lawSw fs) (rowsL fs) f = shC fs (upAt fs f) := by
        unfold upRow
        split
        · rename_i c; exact hsw _ c (by omega)
        · have : upAt fs f = -1 := by omega
          rw [this]; unfold shC; rw [hneg]
      rw [hsw f h0 h1, hur, bne_iff_ne]
      by_cases hf : f ∈ ordN fs 6
      · have hd := I.done f (by rw [List.take_length]; exact ((key ks h).2 f).mpr hf)
        have e : shC fs f = rowAt (rowsL fs) f := by
          unfold shC; rw [near_step G.valid _ (by omega) (by rw [G.six]; exact h1), if_neg (fun c => c.2 hf)]
        rw [e, hd]
      · have e : shC fs f = shC fs (upAt fs f) := by
          unfold shC; rw [near_step G.valid _ (by omega) (by rw [G.six]; exact h1), if_pos ⟨h0, hf⟩]
        constructor
        · intro c; exact absurd e c
        · intro c; exact absurd (I.sub.subset c) hf
    have hrange : ((List.range 6).map fun (f : Nat) => (f : Int)).Pairwise (· < ·) := by decide
    have hso : (standJ fs (lawSw fs) (rowsL fs) 6).Pairwise (· < ·) := hrange.filter _
    have hKn : (lawK fs ks ks.length).Nodup := hnd.sublist I.sub
    have hsn : (standJ fs (lawSw fs) (rowsL fs) 6).Nodup := hso.imp fun {a b} h e => by omega
    have hperm : (standJ fs (lawSw fs) (rowsL fs) 6).Perm (lawK fs ks ks.length) := (List.perm_ext_iff_of_nodup hsn hKn).mpr fun a => by
      unfold standJ
      rw [List.mem_filter]
      constructor
      · rintro ⟨h1, h2⟩
        obtain ⟨f, hf, rfl⟩ := List.mem_map.mp h1
        have hf := List.mem_range.mp hf
        exact (hst f (by omega) (by omega)).mp h2
      · intro ha
        have hb := I.bd a ha
        exact ⟨List.mem_map.mpr ⟨a.toNat, List.mem_range.mpr (by omega), by omega⟩, (hst a hb.1 hb.2).mpr ha⟩
    exact List.Perm.eq_of_pairwise (le := (· ≤ ·)) (fun a b _ _ h1 h2 => by omega) hs (hso.imp fun {a b} h => by omega) (hp.trans hperm.symm)
/-! the plain law: the rows -/
theorem and_pow (n i : Nat) : n &&& 2 ^ i = n / 2 ^ i % 2 * 2 ^ i := by
  refine Nat.eq_of_testBit_eq fun j => ?_
  rw [Nat.testBit_and, Nat.testBit_two_pow]
  by_cases h : i = j
  · subst h
    have h2 : n / 2 ^ i % 2 = 0 ∨ n / 2 ^ i % 2 = 1 := by omega
    rw [Nat.testBit_eq_decide_div_mod_eq]
    rcases h2 with h2 | h2
    · rw [h2]; simp
    · rw [h2]; simp [Nat.testBit_two_pow_self]
  · have h2 : n / 2 ^ i % 2 = 0 ∨ n / 2 ^ i % 2 = 1 := by omega
    rcases h2 with h2 | h2
    · rw [h2]; simp [h]
    · rw [h2, Nat.one_mul, Nat.testBit_two_pow]; simp [h]
theorem band_of {m c : Int} (hc : 0 ≤ c) (f : Nat → Nat) (hf : ∀ n : Nat, n &&& c.toNat = f n) : Builtin.bitAnd m c = if 0 ≤ m then (f m.toNat : Int) else c - (f (-m - 1).toNat : Int) := by
  split
  · rename_i hm
    rw [bitAnd_pp hm hc, hf]
  · rename_i hm
    rw [bitAnd_np hm hc, Nat.and_comm, hf]; rfl
theorem neg_div (n c : Nat) (hc : 0 < c) : (-(n : Int) - 1) / (c : Int) = -((n / c : Nat) : Int) - 1 := by
  have h := Nat.div_add_mod n c
  have h2 := Nat.mod_lt n hc
  generalize n / c = q at *
  generalize n % c = r at *
  subst h
  refine (Int.ediv_emod_unique (by omega)).mpr ⟨(?_ : (c : Int) - 1 - r + c * (-(q : Int) - 1) = _), by omega, by omega⟩ |>.1
  rw [Int.mul_sub, Int.mul_neg]
  push_cast
  omega
theorem aP (m : Int) (i : Nat) : Builtin.bitAnd m ((2 ^ i : Nat) : Int) = m / ((2 ^ i : Nat) : Int) % 2 * ((2 ^ i : Nat) : Int) := by
  have hp : 0 < 2 ^ i := Nat.two_pow_pos i
  rw [band_of (c := ((2 ^ i : Nat) : Int)) (by omega) (fun n => n / 2 ^ i % 2 * 2 ^ i) (fun n => by rw [Int.toNat_natCast]; exact and_pow n i)]
  split
  · rename_i h
    obtain ⟨n, rfl⟩ := Int.eq_ofNat_of_zero_le h
    rw [Int.toNat_natCast]
    push_cast
    rfl
  · rename_i h
    obtain ⟨n, hn⟩ := Int.eq_ofNat_of_zero_le (show 0 ≤ -m - 1 by omega)
    have hm : m = -(n : Int) - 1 := by omega
    rw [hn, Int.toNat_natCast, hm, neg_div n _ hp]
    generalize n / 2 ^ i = q
    generalize 2 ^ i = c
    have h2 : q % 2 = 0 ∧ (-(q : Int) - 1) % 2 = 1 ∨ q % 2 = 1 ∧ (-(q : Int) - 1) % 2 = 0 := by omega
    rcases h2 with ⟨e1, e2⟩ | ⟨e1, e2⟩
    · rw [e1, e2]; omega
    · rw [e1, e2]; omega
theorem a256 (m : Int) : Builtin.bitAnd m 256 = m / 256 % 2 * 256 := aP m 8
theorem a128 (m : Int) : Builtin.bitAnd m 128 = m / 128 % 2 * 128 := aP m 7
theorem a64 (m : Int) : Builtin.bitAnd m 64 = m / 64 % 2 * 64 := aP m 6
theorem a32 (m : Int) : Builtin.bitAnd m 32 = m / 32 % 2 * 32 := aP m 5
theorem a16 (m : Int) : Builtin.bitAnd m 16 = m / 16 % 2 * 16 := aP m 4
theorem a8 (m : Int) : Builtin.bitAnd m 8 = m / 8 % 2 * 8 := aP m 3
theorem a4 (m : Int) : Builtin.bitAnd m 4 = m / 4 % 2 * 4 := aP m 2
theorem a2 (m : Int) : Builtin.bitAnd m 2 = m / 2 % 2 * 2 := aP m 1
theorem a1 (m : Int) : Builtin.bitAnd m 1 = m % 2 := by have := aP m 0; rw [show ((2 ^ 0 : Nat) : Int) = 1 from rfl, Int.ediv_one, Int.mul_one] at this; exact this
theorem a2048 (m : Int) : Builtin.bitAnd m 2048 = m / 2048 % 2 * 2048 := aP m 11
theorem a1024 (m : Int) : Builtin.bitAnd m 1024 = m / 1024 % 2 * 1024 := aP m 10
theorem a512 (m : Int) : Builtin.bitAnd m 512 = m / 512 % 2 * 512 := aP m 9
theorem band_add {m a b c : Int} (ha : 0 ≤ a) (hb : 0 ≤ b) (hc : 0 ≤ c) (e : c = a + b) (h : ∀ n : Nat, n &&& c.toNat = (n &&& a.toNat) + (n &&& b.toNat)) : Builtin.bitAnd m c = Builtin.bitAnd m a + Builtin.bitAnd m b := by
  rw [band_of hc _ h, band_of ha (fun n => n &&& a.toNat) (fun _ => rfl), band_of hb (fun n => n &&& b.toNat) (fun _ => rfl)]
  split <;> omega
theorem or_two (n i j : Nat) (h : ∀ a, a < 2 → ∀ b, b < 2 → a * 2 ^ i ||| b * 2 ^ j = a * 2 ^ i + b * 2 ^ j) : n &&& (2 ^ i ||| 2 ^ j) = (n &&& 2 ^ i) + (n &&& 2 ^ j) := by
  rw [Nat.and_or_distrib_left, and_pow, and_pow]
  exact h _ (Nat.mod_lt _ (by decide)) _ (Nat.mod_lt _ (by decide))
theorem a2112 (m : Int) : Builtin.bitAnd m 2112 = m / 2048 % 2 * 2048 + m / 64 % 2 * 64 := by rw [band_add (c := 2112) (a := 2048) (b := 64) (by decide) (by decide) (by decide) rfl (fun n => or_two n 11 6 (by decide)), a2048, a64]
theorem a1032 (m : Int) : Builtin.bitAnd m 1032 = m / 1024 % 2 * 1024 + m / 8 % 2 * 8 := by rw [band_add (c := 1032) (a := 1024) (b := 8) (by decide) (by decide) (by decide) rfl (fun n => or_two n 10 3 (by decide)), a1024, a8]
theorem a513 (m : Int) : Builtin.bitAnd m 513 = m / 512 % 2 * 512 + m % 2 := by rw [band_add (c := 513) (a := 512) (b := 1) (by decide) (by decide) (by decide) rfl (fun n => or_two n 9 0 (by decide)), a512, a1]
theorem or_four (n : Nat) : n &&& 61440 = (n &&& 49152) + (n &&& 12288) := by
  have h : ∀ a, a < 2 → ∀ b, b < 2 → ∀ c, c < 2 → ∀ d, d < 2 → (a * 2 ^ 15 ||| b * 2 ^ 14) ||| (c * 2 ^ 13 ||| d * 2 ^ 12) = (a * 2 ^ 15 ||| b * 2 ^ 14) + (c * 2 ^ 13 ||| d * 2 ^ 12) := by decide
  have e : n &&& 61440 = n &&& ((2 ^ 15 ||| 2 ^ 14) ||| (2 ^ 13 ||| 2 ^ 12)) := rfl
  have e1 : n &&& 49152 = n &&& (2 ^ 15 ||| 2 ^ 14) := rfl
  have e2 : n &&& 12288 = n &&& (2 ^ 13 ||| 2 ^ 12) := rfl
  rw [e, e1, e2, Nat.and_or_distrib_left n (2 ^ 15 ||| 2 ^ 14), Nat.and_or_distrib_left, Nat.and_or_distrib_left, and_pow, and_pow, and_pow, and_pow]
  exact h _ (Nat.mod_lt _ (by decide)) _ (Nat.mod_lt _ (by decide)) _ (Nat.mod_lt _ (by decide)) _ (Nat.mod_lt _ (by decide))
theorem a61440 (m : Int) : Builtin.bitAnd m 61440 = m / 4096 % 16 * 4096 := by
  rw [band_add (c := 61440) (a := 49152) (b := 12288) (by decide) (by decide) (by decide) rfl or_four, band_add (c := 49152) (a := 32768) (b := 16384) (by decide) (by decide) (by decide) rfl (fun n => or_two n 15 14 (by decide)), band_add (c := 12288) (a := 8192) (b := 4096) (by decide) (by decide) (by decide) rfl (fun n => or_two n 13 12 (by decide)),
    show Builtin.bitAnd m 32768 = _ from aP m 15, show Builtin.bitAnd m 16384 = _ from aP m 14, show Builtin.bitAnd m 8192 = _ from aP m 13, show Builtin.bitAnd m 4096 = _ from aP m 12]
  show m / 32768 % 2 * 32768 + m / 16384 % 2 * 16384 + (m / 8192 % 2 * 8192 + m / 4096 % 2 * 4096) = _
  omega
theorem pick1 {m : Int} {i : Nat} (hi : i ≠ 0) (a : Addr) (b : Int) (x : Str) : fmPick m i [(a, b, x)] = if (Builtin.bitAnd m b == b) = true then x else "-" := by
  unfold fmPick
  simp only [List.find?_cons, List.find?_nil, fmTest, if_neg hi]
  cases Builtin.bitAnd m b == b <;> rfl
theorem pick3 {m : Int} {i : Nat} (hi : i ≠ 0) (a1 a2 a3 : Addr) (b1 b2 b3 : Int) (x1 x2 x3 : Str) : fmPick m i [(a1, b1, x1), (a2, b2, x2), (a3, b3, x3)] = if (Builtin.bitAnd m b1 == b1) = true then x1 else if (Builtin.bitAnd m b2 == b2) = true then x2 else if (Builtin.bitAnd m b3 == b3) = true then x3 else "-" := by
  unfold fmPick
  simp only [List.find?_cons, List.find?_nil, fmTest, if_neg hi]
  cases Builtin.bitAnd m b1 == b1 <;> cases Builtin.bitAnd m b2 == b2 <;> cases Builtin.bitAnd m b3 == b3 <;> rfl
def tab0 : List (Addr × Int × Str) := [(43, 40960, "l"), (44, 49152, "s"), (45, 32768, "-"), (46, 24576, "b"), (47, 16384, "d"), (48, 8192, "c"), (49, 4096, "p")]
def pick0 (q : Int) : Str := match tab0.find? (fun p => q * 4096 == p.2.1) with
  | some p => p.2.2
  | none => "?"
theorem pick0_eq (m : Int) : fmPick m 0 tab0 = pick0 (m / 4096 % 16) := by
  have e : (fun p : Addr × Int × Str => fmTest m 0 p.2.1) = fun p => m / 4096 % 16 * 4096 == p.2.1 := funext fun p => by unfold fmTest; rw [if_pos rfl, a61440]
  unfold fmPick pick0
  rw [e]; rfl
theorem pick0_item : ∀ q : Nat, q < 16 → pick0 q = Txt.item "?pc?d?b?-?l?s???" q := by decide
theorem signs10 (m : Int) : fmSigns m 10 = [pick0 (m / 4096 % 16), if (Builtin.bitAnd m 256 == 256) = true then "r" else "-", if (Builtin.bitAnd m 128 == 128) = true then "w" else "-",
    if (Builtin.bitAnd m 2112 == 2112) = true then "s" else if (Builtin.bitAnd m 2048 == 2048) = true then "S" else if (Builtin.bitAnd m 64 == 64) = true then "x" else "-",
    if (Builtin.bitAnd m 32 == 32) = true then "r" else "-", if (Builtin.bitAnd m 16 == 16) = true then "w" else "-",
    if (Builtin.bitAnd m 1032 == 1032) = true then "s" else if (Builtin.bitAnd m 1024 == 1024) = true then "S" else if (Builtin.bitAnd m 8 == 8) = true then "x" else "-",
    if (Builtin.bitAnd m 4 == 4) = true then "r" else "-", if (Builtin.bitAnd m 2 == 2) = true then "w" else "-",
    if (Builtin.bitAnd m 513 == 513) = true then "t" else if (Builtin.bitAnd m 512 == 512) = true then "T" else if (Builtin.bitAnd m 1 == 1) = true then "x" else "-"] := by
  have e : fmSigns m 10 = [fmPick m 0 tab0, fmPick m 1 [(51, 256, "r")], fmPick m 2 [(53, 128, "w")], fmPick m 3 [(55, 2112, "s"), (56, 2048, "S"), (57, 64, "x")],
    fmPick m 4 [(59, 32, "r")], fmPick m 5 [(61, 16, "w")], fmPick m 6 [(63, 1032, "s"), (64, 1024, "S"), (65, 8, "x")], fmPick m 7 [(67, 4, "r")], fmPick m 8 [(69, 2, "w")], fmPick m 9 [(71, 513, "t"), (72, 512, "T"), (73, 1, "x")]] := rfl
  rw [e, pick0_eq, pick1 (by decide), pick1 (by decide), pick3 (by decide), pick1 (by decide), pick1 (by decide), pick3 (by decide), pick1 (by decide), pick1 (by decide), pick3 (by decide)]
theorem join10 (a0 a1 a2 a3 a4 a5 a6 a7 a8 a9 : Str) : Txt.join "" [a0, a1, a2, a3, a4, a5, a6, a7, a8, a9] = ((a0 ++ (a1 ++ a2 ++ a3)) ++ (a4 ++ a5 ++ a6)) ++ (a7 ++ a8 ++ a9) := by
  have e : ∀ x y : Str, x ++ y = ⟨x.cps ++ y.cps⟩ := fun _ _ => rfl
  unfold Txt.join Builtin.Str.glued
  have e2 : (Str.ofString "").cps = #[] := rfl
  simp only [e, e2, List.headD_cons, List.drop_succ_cons, List.drop_zero, List.foldl_cons, List.foldl_nil, Array.append_empty, Array.append_assoc]
theorem grp1 : ∀ a, a < 2 → ∀ b, b < 2 → ∀ c, c < 2 → ∀ d, d < 2 → ((if (((a : Nat) : Int) * 256 == 256) = true then ("r" : Str) else "-") ++ (if (((b : Nat) : Int) * 128 == 128) = true then ("w" : Str) else "-") ++ (if (((d : Nat) : Int) * 2048 + ((c : Nat) : Int) * 64 == 2112) = true then ("s" : Str) else if ((d : Int) * 2048 == 2048) = true then "S" else if ((c : Int) * 64 == 64) = true then "x" else "-"))
    = Txt.item "-r" ((4 * (a : Int) + 2 * b + c).fdiv 4) ++ Txt.item "-w" (((4 * (a : Int) + 2 * b + c).fdiv 2).fmod 2) ++ Txt.item "-xSs" ((4 * (a : Int) + 2 * b + c).fmod 2 + 2 * d) := by decide +kernel
theorem grp2 : ∀ a, a < 2 → ∀ b, b < 2 → ∀ c, c < 2 → ∀ d, d < 2 → ((if (((a : Nat) : Int) * 32 == 32) = true then ("r" : Str) else "-") ++ (if (((b : Nat) : Int) * 16 == 16) = true then ("w" : Str) else "-") ++ (if (((d : Nat) : Int) * 1024 + ((c : Nat) : Int) * 8 == 1032) = true then ("s" : Str) else if ((d : Int) * 1024 == 1024) = true then "S" else if ((c : Int) * 8 == 8) = true then "x" else "-"))
    = Txt.item "-r" ((4 * (a : Int) + 2 * b + c).fdiv 4) ++ Txt.item "-w" (((4 * (a : Int) + 2 * b + c).fdiv 2).fmod 2) ++ Txt.item "-xSs" ((4 * (a : Int) + 2 * b + c).fmod 2 + 2 * d) := by decide +kernel
theorem grp3 : ∀ a, a < 2 → ∀ b, b < 2 → ∀ c, c < 2 → ∀ d, d < 2 → ((if (((a : Nat) : Int) * 4 == 4) = true then ("r" : Str) else "-") ++ (if (((b : Nat) : Int) * 2 == 2) = true then ("w" : Str) else "-") ++ (if (((d : Nat) : Int) * 512 + ((c : Nat) : Int) == 513) = true then ("t" : Str) else if ((d : Int) * 512 == 512) = true then "T" else if ((c : Int) == 1) = true then "x" else "-"))
    = Txt.item "-r" ((4 * (a : Int) + 2 * b + c).fdiv 4) ++ Txt.item "-w" (((4 * (a : Int) + 2 * b + c).fdiv 2).fmod 2) ++ Txt.item "-xTt" ((4 * (a : Int) + 2 * b + c).fmod 2 + 2 * d) := by decide +kernel
theorem bit_nat (n : Int) : ∃ a : Nat, a < 2 ∧ n % 2 = a := ⟨(n % 2).toNat, by omega, by omega⟩
theorem fm_lr (m : Int) : fmRow m = lrRow m 3 := by
  have fd : ∀ (n k : Int), 0 ≤ k → n.fdiv k = n / k := fun n k h => Int.fdiv_eq_ediv_of_nonneg _ h
  have fo : ∀ (n k : Int), 0 ≤ k → n.fmod k = n % k := fun n k h => Int.fmod_eq_emod_of_nonneg _ h
  have el : lrRow m 3 = ((Txt.item "?pc?d?b?-?l?s???" ((m.fdiv 4096).fmod 16) ++ lrSign m (64, 2048, "-xSs")) ++ lrSign m (8, 1024, "-xSs")) ++ lrSign m (1, 512, "-xTt") := rfl
  have s1 : lrSign m (64, 2048, "-xSs") = (if (Builtin.bitAnd m 256 == 256) = true then ("r" : Str) else "-") ++ (if (Builtin.bitAnd m 128 == 128) = true then ("w" : Str) else "-") ++ (if (Builtin.bitAnd m 2112 == 2112) = true then ("s" : Str) else if (Builtin.bitAnd m 2048 == 2048) = true then "S" else if (Builtin.bitAnd m 64 == 64) = true then "x" else "-") := by
    obtain ⟨a, ha, ea⟩ := bit_nat (m / 256)
    obtain ⟨b, hb, eb⟩ := bit_nat (m / 128)
    obtain ⟨c, hc, ec⟩ := bit_nat (m / 64)
    obtain ⟨d, hd, ed⟩ := bit_nat (m / 2048)
    have e : m / 64 % 8 = 4 * (a : Int) + 2 * b + c := by omega
    unfold lrSign
    rw [a256, a128, a2112, a2048, a64, ea, eb, ec, ed, grp1 a ha b hb c hc d hd]
    simp only [fd m 64 (by decide), fd m 2048 (by decide), fo (m / 64) 8 (by decide), fo (m / 2048) 2 (by decide), e, ed]
  have s2 : lrSign m (8, 1024, "-xSs") = (if (Builtin.bitAnd m 32 == 32) = true then ("r" : Str) else "-") ++ (if (Builtin.bitAnd m 16 == 16) = true then ("w" : Str) else "-") ++ (if (Builtin.bitAnd m 1032 == 1032) = true then ("s" : Str) else if (Builtin.bitAnd m 1024 == 1024) = true then "S" else if (Builtin.bitAnd m 8 == 8) = true then "x" else "-") := by
    obtain ⟨a, ha, ea⟩ := bit_nat (m / 32)
    obtain ⟨b, hb, eb⟩ := bit_nat (m / 16)
    obtain ⟨c, hc, ec⟩ := bit_nat (m / 8)
    obtain ⟨d, hd, ed⟩ := bit_nat (m / 1024)
    have e : m / 8 % 8 = 4 * (a : Int) + 2 * b + c := by omega
    unfold lrSign
    rw [a32, a16, a1032, a1024, a8, ea, eb, ec, ed, grp2 a ha b hb c hc d hd]
    simp only [fd m 8 (by decide), fd m 1024 (by decide), fo (m / 8) 8 (by decide), fo (m / 1024) 2 (by decide), e, ed]
  have s3 : lrSign m (1, 512, "-xTt") = (if (Builtin.bitAnd m 4 == 4) = true then ("r" : Str) else "-") ++ (if (Builtin.bitAnd m 2 == 2) = true then ("w" : Str) else "-") ++ (if (Builtin.bitAnd m 513 == 513) = true then ("t" : Str) else if (Builtin.bitAnd m 512 == 512) = true then "T" else if (Builtin.bitAnd m 1 == 1) = true then "x" else "-") := by
    obtain ⟨a, ha, ea⟩ := bit_nat (m / 4)
    obtain ⟨b, hb, eb⟩ := bit_nat (m / 2)
    obtain ⟨c, hc, ec⟩ := bit_nat m
    obtain ⟨d, hd, ed⟩ := bit_nat (m / 512)
    have e : m / 1 % 8 = 4 * (a : Int) + 2 * b + c := by omega
    unfold lrSign
    rw [a4, a2, a513, a512, a1, ea, eb, ec, ed, grp3 a ha b hb c hc d hd]
    simp only [fd m 1 (by decide), fd m 512 (by decide), fo (m / 1) 8 (by decide), fo (m / 512) 2 (by decide), e, ed]
  have s0 : pick0 (m / 4096 % 16) = Txt.item "?pc?d?b?-?l?s???" ((m.fdiv 4096).fmod 16) := by
    rw [fd m 4096 (by decide), fo (m / 4096) 16 (by decide)]
    have := pick0_item (m / 4096 % 16).toNat (by omega)
    rw [show (((m / 4096 % 16).toNat : Nat) : Int) = m / 4096 % 16 by omega] at this
    exact this
  rw [el, s1, s2, s3, ← s0]
  unfold fmRow
  rw [signs10, join10]
theorem fm_zero : fmRow 0 = "?---------" := by rw [fm_lr]; decide
theorem rows_eq (fs : List Fold) : rowsL fs = rowsR fs := by
  unfold rowsL rowsR
  rw [fm_zero]
  congr 1
  exact List.map_congr_left fun f _ => fm_lr f.mode
theorem strOk_app (x y : Str) : PyData.strOk (x ++ y) = (PyData.strOk x && PyData.strOk y) := by
  show (x.cps ++ y.cps).all _ = _
  rw [Array.all_append]; rfl
theorem fm_ok (m : Int) : PyData.strOk (fmRow m) = true := by
  unfold fmRow
  rw [signs10, join10]
  have h0 : PyData.strOk (pick0 (m / 4096 % 16)) = true := by
    have := pick0_item (m / 4096 % 16).toNat (by omega)
    rw [show (((m / 4096 % 16).toNat : Nat) : Int) = m / 4096 % 16 by omega] at this
    rw [this]
    have h : ∀ q : Nat, q < 16 → PyData.strOk (Txt.item "?pc?d?b?-?l?s???" q) = true := by decide +kernel
    have := h (m / 4096 % 16).toNat (by omega)
    rw [show (((m / 4096 % 16).toNat : Nat) : Int) = m / 4096 % 16 by omega] at this
    exact this
  have hi : ∀ (c : Prop) [Decidable c] (x y : Str), PyData.strOk x = true → PyData.strOk y = true → PyData.strOk (if c then x else y) = true := fun c _ x y h k => by split <;> assumption
  simp only [strOk_app, Bool.and_eq_true]
  refine ⟨⟨⟨h0, ⟨?_, ?_⟩, ?_⟩, ⟨?_, ?_⟩, ?_⟩, ⟨?_, ?_⟩, ?_⟩
  all_goals (repeat' (first | apply hi | decide +kernel))
theorem rows_ok (fs : List Fold) : OkS (rowsL fs) := .of fun x hx => by
  rcases List.mem_append.mp hx with h | h
  · obtain ⟨f, _, rfl⟩ := List.mem_map.mp h; exact fm_ok _
  · cases List.mem_singleton.mp h; exact fm_ok _
/-! the plain law: paths as rows of signs -/
theorem first_sep {s : Nat} : ∀ {a b c d : List Nat}, s ∉ a → s ∉ c → a ++ s :: b = c ++ s :: d → a = c ∧ b = d
  | [], _, [], _, _, _, h => ⟨rfl, (List.cons.inj h).2⟩
  | [], _, y :: c, _, _, hc, h => absurd (List.mem_cons.mpr (.inl (List.cons.inj h).1)) hc
  | x :: a, _, [], _, ha, _, h => absurd (List.mem_cons.mpr (.inl (List.cons.inj h).1.symm)) ha
  | x :: a, b, y :: c, d, ha, hc, h => by
    obtain ⟨h1, h2⟩ := List.cons.inj h
    obtain ⟨h3, h4⟩ := first_sep (fun m => ha (.tail _ m)) (fun m => hc (.tail _ m)) h2
    exact ⟨by rw [h1, h3], h4⟩
theorem pre_sep {s : Nat} {A B T : List Nat} (hT : s ∉ T) : A ++ [s] <+: B ++ s :: T ↔ A ++ [s] <+: B ++ [s] := by
  constructor
  · rintro ⟨t, h⟩
    rw [List.append_assoc] at h
    rcases List.append_eq_append_iff.mp h with ⟨e, h1, h2⟩ | ⟨e, h1, h2⟩
    · cases e with
      | nil => rw [h1, List.append_nil]; exact List.prefix_refl _
      | cons x e =>
        have : x = s := (List.cons.inj h2).1.symm
        subst this
        rw [h1]
        exact ⟨e ++ [x], by simp⟩
    · cases e with
      | nil => rw [h1, List.append_nil]; exact List.prefix_refl _
      | cons x e =>
        have h3 := (List.cons.inj h2).2
        exact absurd (by rw [h3]; simp) hT
  · intro h
    exact h.trans ⟨T, by simp⟩
theorem rep_inj {s : Nat} (hs : s ≠ 120) : ∀ {a b : Nat} {l r : List Nat}, List.replicate a 120 ++ s :: l = List.replicate b 120 ++ s :: r → a = b
  | 0, 0, _, _, _ => rfl
  | 0, b + 1, _, _, h => by rw [List.replicate_succ] at h; exact absurd (List.cons.inj h).1 hs
  | a + 1, 0, _, _, h => by rw [List.replicate_succ] at h; exact absurd (List.cons.inj h).1.symm hs
  | a + 1, b + 1, _, _, h => by
    rw [List.replicate_succ, List.replicate_succ] at h
    rw [rep_inj hs (List.cons.inj h).2]
theorem run_inj {s : Nat} (hs : s ≠ 120) {a b : Nat} {l r : List Nat} (h : l ++ s :: List.replicate a 120 = r ++ s :: List.replicate b 120) : a = b := by
  have := congrArg List.reverse h
  simp only [List.reverse_append, List.reverse_cons, List.reverse_replicate, List.append_assoc, List.singleton_append] at this
  exact rep_inj hs this
theorem lex_pre (c : Nat) (t : List Nat) : ∀ l : List Nat, l < l ++ c :: t
  | [] => List.nil_lt_cons _ _
  | x :: l => List.cons_lt_cons_iff.mpr (.inr ⟨rfl, lex_pre c t l⟩)
def turnS (s c : Nat) : Nat := if c = 47 then s else c
def Pq (fs : List Fold) (s : Nat) (f : Int) : List Nat := if f < 0 then [] else (pathAt fs f).cps.toList.map (turnS s)
theorem turn_id : turnS 47 = id := by funext c; unfold turnS; split <;> simp_all
theorem Pq_47 (fs : List Fold) {f : Int} (h : 0 ≤ f) : Pq fs 47 f = (pathAt fs f).cps.toList := by
  unfold Pq; rw [if_neg (by omega), turn_id, List.map_id]
theorem Pq_neg {fs : List Fold} {s : Nat} {f : Int} (h : f < 0) : Pq fs s f = [] := if_pos h
theorem tree_valid {fs : List Fold} (T : Tree fs) : Valid fs := fun k f h => (T k f h).1
theorem mul_cps : ∀ k < 6, (Txt.mul "x" ((k : Nat) + 1 : Int)).cps.toList = List.replicate (k + 1) 120 := by decide
theorem Pq_step {fs : List Fold} (T : Tree fs) (h6 : fs.length = 6) {s : Nat} {f : Int} (h0 : 0 ≤ f) (h1 : f < 6) : Pq fs s f = Pq fs s (upAt fs f) ++ s :: List.replicate (f.toNat + 1) 120 := by
  obtain ⟨g, hg, hgm, ew, ep⟩ := at_fold (fs := fs) h0 (by omega)
  obtain ⟨⟨u0, u1⟩, hp, -⟩ := T f.toNat g hg
  have hup : upAt fs f = g.up := by unfold upAt; rw [hg]
  have hr : (List.replicate (f.toNat + 1) 120).map (turnS s) = List.replicate (f.toNat + 1) 120 := by rw [List.map_replicate]; rfl
  have h47 : turnS s 47 = s := rfl
  unfold Pq
  rw [if_neg (by omega), ep, hp, str_app, str_app, slash_cps, mul_cps _ (by omega), hup]
  simp only [List.map_append, List.map_cons, List.map_nil, hr, h47]
  by_cases hu : g.up < 0
  · have e : upPath fs g.up = "" := by unfold upPath; rw [if_pos hu]
    rw [if_pos hu, e]; rfl
  · rw [if_neg hu]
    have e : upPath fs g.up = pathAt fs g.up := by unfold upPath pathAt; rw [if_neg hu]
    rw [e, List.append_assoc]; rfl
theorem Pq_inj {fs : List Fold} (T : Tree fs) (h6 : fs.length = 6) {s : Nat} (hs : s ≠ 120) {a b : Int} (h0 : 0 ≤ a) (h1 : a < 6) (h2 : 0 ≤ b) (h3 : b < 6) (h : Pq fs s a = Pq fs s b) : a = b := by
  rw [Pq_step T h6 h0 h1, Pq_step T h6 h2 h3] at h
  have := run_inj hs h
  omega
/-- the folder k is f or above it -/
theorem pre_anc {fs : List Fold} (T : Tree fs) (h6 : fs.length = 6) {s : Nat} (hs : s ≠ 120) {k : Int} (hk0 : 0 ≤ k) (hk1 : k < 6) : ∀ (n : Nat) (f : Int), -1 ≤ f → f < 6 → (f + 1).toNat ≤ n → (Pq fs s k ++ [s] <+: Pq fs s f ++ [s] ↔ near fs [k] f = k)
  | n, f, h0, h1, hn => by
    have hV := tree_valid T
    rw [anc_step hV hk0 h0 (by omega)]
    by_cases hf : 0 ≤ f
    · have hu := upAt_bd hV hf (by omega)
      match n, hn with
      | 0, hn => omega
      | n + 1, hn =>
        rw [← pre_anc T h6 hs hk0 hk1 n (upAt fs f) hu.1 (by omega) (by omega)]
        have hX : s ∉ List.replicate (f.toNat + 1) 120 := fun m => hs (List.eq_of_mem_replicate m)
        rw [List.prefix_concat_iff]
        constructor
        · rintro (h | h)
          · have h := List.append_cancel_right h
            exact ⟨hf, .inl (Pq_inj T h6 hs hk0 hk1 hf h1 h).symm⟩
          · rw [Pq_step T h6 hf h1, pre_sep hX] at h
            exact ⟨hf, .inr h⟩
        · rintro ⟨-, h | h⟩
          · rw [h]; exact .inl rfl
          · refine .inr ?_
            rw [Pq_step T h6 hf h1, pre_sep hX]; exact h
    · have : f = -1 := by omega
      subst this
      rw [Pq_neg (f := (-1 : Int)) (by omega)]
      constructor
      · intro h
        have := h.length_le
        rw [Pq_step T h6 hk0 hk1] at this
        simp at this
        omega
      · intro h; omega
theorem pre_anc2 {fs : List Fold} (T : Tree fs) (h6 : fs.length = 6) {s : Nat} (hs : s ≠ 120) (hs2 : s ≠ 121) {k f : Int} (hk0 : 0 ≤ k) (hk1 : k < 6) (h0 : -1 ≤ f) (h1 : f < 6) : (Pq fs s k ++ [s] <+: Pq fs s f ++ [s, 121] ↔ near fs [k] f = k) := by
  rw [pre_sep (by simpa using hs2)]
  exact pre_anc T h6 hs hk0 hk1 _ f h0 h1 (Nat.le_refl _)
theorem deep_of {fs : List Fold} (T : Tree fs) (h6 : fs.length = 6) {a b : Int} (h0 : 0 ≤ a) (h1 : a < 6) (h2 : 0 ≤ b) (h3 : b < 6) (h : near fs [b] a = b) (hne : a ≠ b) : gtP fs a b := by
  have hp := (pre_anc T h6 (s := 47) (by decide) h2 h3 _ a (by omega) h1 (Nat.le_refl _)).mpr h
  rw [List.prefix_concat_iff] at hp
  unfold gtP
  rw [← Pq_47 fs h0, ← Pq_47 fs h2]
  rcases hp with hp | ⟨t, ht⟩
  · exact absurd (Pq_inj T h6 (by decide) h2 h3 h0 h1 (List.append_cancel_right hp)).symm hne
  · rw [← ht, List.append_assoc]
    exact lex_pre 47 t _
/-! the plain law: split, replace, startswith; Nice and Geo of a tree -/
inductive Seg : List Nat → Prop where
  | one (n : Nat) : Seg (List.replicate (n + 1) 120)
  | cons (n : Nat) (l : List Nat) : Seg l → Seg (List.replicate (n + 1) 120 ++ 47 :: l)
theorem Seg.snoc {l : List Nat} {n : Nat} (h : Seg l) : Seg (l ++ 47 :: List.replicate (n + 1) 120) := by
  induction h with
  | one m => exact .cons m _ (.one n)
  | cons m l _ ih => rw [List.append_assoc]; exact .cons m _ ih
theorem Seg.head {l : List Nat} (h : Seg l) : ∃ r, l = 120 :: r := by
  cases h with
  | one n => exact ⟨_, List.replicate_succ⟩
  | cons n l _ => exact ⟨_, by rw [List.replicate_succ]; rfl⟩
theorem Seg.mem {l : List Nat} (h : Seg l) : ∀ c ∈ l, c = 120 ∨ c = 47 := by
  induction h with
  | one n => intro c hc; exact .inl (List.eq_of_mem_replicate hc)
  | cons n l _ ih =>
    intro c hc
    rcases List.mem_append.mp hc with hc | hc
    · exact .inl (List.eq_of_mem_replicate hc)
    · rcases List.mem_cons.mp hc with rfl | hc
      · exact .inr rfl
      · exact ih c hc
theorem no47 (n : Nat) : 47 ∉ List.replicate n 120 := fun m => absurd (List.eq_of_mem_replicate m) (by decide)
theorem seg_parts {l : List Nat} (h : Seg l) : ∀ parts : List Str, (∀ p ∈ parts, 47 ∉ p.cps.toList) → (Str.join (Str.ofString "/") parts).cps.toList = l → ∀ p ∈ parts, ∃ n, p.cps.toList = List.replicate (n + 1) 120 := by
  induction h with
  | one n =>
    intro parts hp hj p hm
    match parts, hp, hj, hm with
    | [q], hp, hj, hm => cases List.mem_singleton.mp hm; exact ⟨n, hj⟩
    | q :: r :: t, hp, hj, hm =>
      exfalso
      have e : Str.join (Str.ofString "/") (q :: r :: t) = q ++ Str.ofString "/" ++ Str.join (Str.ofString "/") (r :: t) := rfl
      rw [e, str_app, str_app, slash_cps] at hj
      exact no47 (n + 1) (by rw [← hj]; simp)
  | cons n l _ ih =>
    intro parts hp hj p hm
    match parts, hp, hj, hm with
    | [q], hp, hj, hm =>
      have hj : q.cps.toList = _ := hj
      exact absurd (show 47 ∈ q.cps.toList by rw [hj]; simp) (hp q (.head _))
    | q :: r :: t, hp, hj, hm =>
      have e : Str.join (Str.ofString "/") (q :: r :: t) = q ++ Str.ofString "/" ++ Str.join (Str.ofString "/") (r :: t) := rfl
      rw [e, str_app, str_app, slash_cps, List.append_assoc] at hj
      obtain ⟨h1, h2⟩ := first_sep (hp q (.head _)) (no47 _) hj
      rcases List.mem_cons.mp hm with rfl | hm
      · exact ⟨n, h1⟩
      · exact ih (r :: t) (fun p hp' => hp p (.tail _ hp')) h2 p hm
theorem turn_free {s : Nat} {l : List Nat} (h : 47 ∉ l) : l.map (turnS s) = l := by
  have e : l.map (turnS s) = l.map id := List.map_congr_left fun c hc => by
    have hne : c ≠ 47 := fun q => h (q ▸ hc)
    unfold turnS; rw [if_neg hne]; rfl
  rw [e, List.map_id]
theorem join_turn : ∀ parts : List Str, (∀ p ∈ parts, 47 ∉ p.cps.toList) → (Str.join (Str.ofString ".") parts).cps.toList = (Str.join (Str.ofString "/") parts).cps.toList.map (turnS 46)
  | [], _ => rfl
  | [q], hp => by
    have h := hp q (.head _)
    exact (turn_free h).symm
  | q :: r :: t, hp => by
    have h := hp q (.head _)
    have ih := join_turn (r :: t) fun p hp' => hp p (.tail _ hp')
    have e1 : Str.join (Str.ofString "/") (q :: r :: t) = q ++ Str.ofString "/" ++ Str.join (Str.ofString "/") (r :: t) := rfl
    have e2 : Str.join (Str.ofString ".") (q :: r :: t) = q ++ Str.ofString "." ++ Str.join (Str.ofString ".") (r :: t) := rfl
    have dot_cps : (Str.ofString ".").cps.toList = [46] := by decide
    rw [e1, e2, str_app, str_app, str_app, str_app, slash_cps, dot_cps, ih, List.map_append, List.map_append]
    rw [turn_free h]; rfl
theorem slash_str : Str.ofString "/" = ⟨#[47]⟩ := by decide
theorem seg_of {fs : List Fold} (T : Tree fs) (h6 : fs.length = 6) : ∀ (n : Nat) (f : Int), 0 ≤ f → f < 6 → (f + 1).toNat ≤ n → ∃ l, Seg l ∧ Pq fs 47 f = 47 :: l
  | 0, f, h0, _, hn => by omega
  | n + 1, f, h0, h1, hn => by
    have hu := upAt_bd (tree_valid T) h0 (by omega)
    rw [Pq_step T h6 h0 h1]
    by_cases h : 0 ≤ upAt fs f
    · obtain ⟨l, hl, e⟩ := seg_of T h6 n (upAt fs f) h (by omega) (by omega)
      exact ⟨_, hl.snoc (n := f.toNat), by rw [e]; rfl⟩
    · rw [Pq_neg (by omega)]
      exact ⟨_, .one f.toNat, rfl⟩
/-- a folder's path, told -/
theorem path_told {fs : List Fold} (T : Tree fs) (h6 : fs.length = 6) {f : Int} (h0 : 0 ≤ f) (h1 : f < 6) :
    ∃ rest, RootP (pathAt fs f) rest ∧ Seg rest.cps.toList ∧ Pq fs 46 f = 46 :: (dot (pathAt fs f)).cps.toList ∧ (dot (pathAt fs f)).cps.toList = rest.cps.toList.map (turnS 46) ∧ (∀ c ∈ Txt.split rest "/", ∃ n, c.cps.toList = List.replicate (n + 1) 120) := by
  obtain ⟨l, hl, e⟩ := seg_of T h6 _ f h0 h1 (Nat.le_refl _)
  rw [Pq_47 fs h0] at e
  have hR : RootP (pathAt fs f) ⟨l.toArray⟩ := by
    refine ⟨str_ext ?_, ?_⟩
    · rw [str_app, slash_cps, e]; rfl
    · obtain ⟨r, hr⟩ := hl.head
      exact ⟨120, r, hr, by decide⟩
  have hfree : ∀ p ∈ Txt.split ⟨l.toArray⟩ "/", 47 ∉ p.cps.toList := fun p hp => StrLaws.split_free ⟨l.toArray⟩ 47 p (by rw [← slash_str]; exact hp)
  have hjoin : Str.join (Str.ofString "/") (Txt.split ⟨l.toArray⟩ "/") = ⟨l.toArray⟩ := StrLaws.join_split _ _
  have hdot : (dot (pathAt fs f)).cps.toList = l.map (turnS 46) := by
    unfold dot
    rw [hR.s1, slash_str, StrLaws.replace_one, ← slash_str]
    have := join_turn _ hfree
    rw [hjoin] at this
    exact this
  refine ⟨⟨l.toArray⟩, hR, hl, ?_, hdot, fun c hc => seg_parts hl _ hfree (by rw [hjoin]) c hc⟩
  unfold Pq
  rw [if_neg (by omega), e, hdot]; rfl
theorem starts_iff (x y : Str) : Txt.startswith x y = true ↔ y.cps.toList <+: x.cps.toList := by
  unfold Txt.startswith
  rw [StrLaws.subAt_eq, List.drop_zero, Bool.and_eq_true, decide_eq_true_eq, beq_iff_eq, List.prefix_iff_eq_take, str_len, str_len]
  constructor
  · rintro ⟨_, h⟩; exact h.symm
  · intro h
    refine ⟨?_, h.symm⟩
    have := congrArg List.length h
    rw [List.length_take] at this
    omega
theorem fold_at {fs : List Fold} {g : Fold} (h : g ∈ fs) : ∃ f : Int, 0 ≤ f ∧ f < fs.length ∧ g.path = pathAt fs f ∧ fs[f.toNat]? = some g := by
  obtain ⟨k, hk⟩ := List.mem_iff_getElem?.mp h
  have hlt := (List.getElem?_eq_some_iff.mp hk).1
  refine ⟨k, by omega, by omega, ?_, by rw [Int.toNat_natCast]; exact hk⟩
  unfold pathAt; rw [Int.toNat_natCast, hk]; rfl
theorem y_cps : (Str.ofString ".y").cps.toList = [46, 121] := by decide
theorem sy_cps : (Str.ofString "/y").cps.toList = [47, 121] := by decide
theorem dot_cps : (Str.ofString ".").cps.toList = [46] := by decide
theorem dot_mem {fs : List Fold} (T : Tree fs) (h6 : fs.length = 6) {f : Int} (h0 : 0 ≤ f) (h1 : f < 6) : ∀ c ∈ (dot (pathAt fs f)).cps.toList, c = 120 ∨ c = 46 := by
  obtain ⟨rest, hR, hS, e1, e2, e3⟩ := path_told T h6 h0 h1
  rw [e2]
  intro c hc
  obtain ⟨d, hd, rfl⟩ := List.mem_map.mp hc
  rcases hS.mem d hd with rfl | rfl
  · exact .inl rfl
  · exact .inr rfl
theorem nice_of {fs : List Fold} (T : Tree fs) (h6 : fs.length = 6) : Nice fs := by
  have hat : ∀ g ∈ fs, ∃ f : Int, 0 ≤ f ∧ f < 6 ∧ g.path = pathAt fs f ∧ g.path.length ≤ 48 := fun g hg => by
    obtain ⟨f, h0, h1, h2, h3⟩ := fold_at hg
    have := (T f.toNat g h3).2.2
    exact ⟨f, h0, by omega, h2, by omega⟩
  refine ⟨fun g hg => ?_, fun g hg => ?_, fun g hg k hk => ?_, fun g hg => ?_, ?_⟩
  · obtain ⟨f, h0, h1, e, hl⟩ := hat g hg
    obtain ⟨rest, hR, hS, e1, e2, e3⟩ := path_told T h6 h0 h1
    refine ⟨rest, _, by rw [e]; exact hR, by omega, rfl, fun c hc => ?_⟩
    obtain ⟨n, hn⟩ := e3 c hc
    refine ⟨?_, fun q => ?_, fun q => ?_⟩
    · rw [str_len, hn, List.length_replicate]; omega
    · rw [q, dot_cps, List.replicate_succ] at hn; exact absurd (List.cons.inj hn).1 (by decide)
    · have e : (Str.ofString "..").cps.toList = [46, 46] := by decide
      rw [q, e, List.replicate_succ] at hn; exact absurd (List.cons.inj hn).1 (by decide)
  · obtain ⟨f, h0, h1, e, hl⟩ := hat g hg
    obtain ⟨rest, hR, hS, e1, e2, e3⟩ := path_told T h6 h0 h1
    rw [e, str_len, e2, List.length_map]
    have := hR.1
    rw [← e] at this
    rw [this, str_len, str_app, List.length_append] at hl
    omega
  · obtain ⟨f, h0, h1, e, hl⟩ := hat g hg
    obtain ⟨f', h0', h1', e', hl'⟩ := hat k hk
    rw [e, e']
    intro q
    have q := congrArg (fun x => x.cps.toList) q
    simp only [str_app, y_cps] at q
    have := dot_mem T h6 h0' h1' 121 (by rw [← q]; simp)
    omega
  · obtain ⟨f, h0, h1, e, hl⟩ := hat g hg
    rw [e]
    intro q
    have q := congrArg (fun x => x.cps.toList) q
    simp only [str_app, y_cps] at q
    have e2 : (Str.ofString "<string>").cps.toList = [60, 115, 116, 114, 105, 110, 103, 62] := by decide
    rw [e2] at q
    have : (60 : Nat) ∈ (dot (pathAt fs f)).cps.toList ++ [46, 121] := by rw [q]; simp
    rcases List.mem_append.mp this with h | h
    · have := dot_mem T h6 h0 h1 60 h
      omega
    · simp at h
  · refine List.pairwise_map.mpr (List.pairwise_iff_getElem.mpr fun i j hi hj hij q => ?_)
    have q := congrArg (fun x => x.cps.toList) q
    simp only [str_app] at q
    have q := List.append_cancel_right q
    have p1 : ∀ (i : Nat) (hi : i < fs.length), fs[i].path = pathAt fs i := fun i hi => by unfold pathAt; rw [Int.toNat_natCast, List.getElem?_eq_getElem hi]; rfl
    rw [p1 i hi, p1 j hj] at q
    obtain ⟨_, _, _, a1, _, _⟩ := path_told T h6 (f := (i : Int)) (by omega) (by omega)
    obtain ⟨_, _, _, b1, _, _⟩ := path_told T h6 (f := (j : Int)) (by omega) (by omega)
    have := Pq_inj T h6 (s := 46) (by decide) (a := (i : Int)) (b := (j : Int)) (by omega) (by omega) (by omega) (by omega) (by rw [a1, b1, q])
    omega
theorem told_at {fs : List Fold} (T : Tree fs) (h6 : fs.length = 6) {K : List Int} (hb : ∀ k ∈ K, 0 ≤ k ∧ k < 6) {f : Nat} (hf : f < 6) : (toldL fs K)[f]? = some (if K.any (fun k => near fs [k] f == k) = true then 1 else 0) := by
  have hlt : f < fs.length := by omega
  unfold toldL
  rw [List.getElem?_map, List.getElem?_eq_getElem hlt]
  have pf : fs[f].path = pathAt fs f := by unfold pathAt; rw [Int.toNat_natCast, List.getElem?_eq_getElem hlt]; rfl
  simp only [Option.map_some, Option.some.injEq]
  unfold toldOf told
  have key : toldB (modsOf fs K) (dirsOf fs K) (fs[f].path ++ Str.ofString "/y") (mnOf fs[f]) = true ↔ K.any (fun k => near fs [k] f == k) = true := by
    unfold toldB mnOf
    rw [pf, Bool.or_eq_true, List.any_eq_true, List.any_eq_true, List.any_eq_true]
    have hm : ∀ k ∈ K, (Txt.startswith (dot (pathAt fs f) ++ Str.ofString ".y") (dot (pathAt fs k) ++ Str.ofString ".") = true ↔ near fs [k] f = k) := fun k hk => by
      obtain ⟨k0, k1⟩ := hb k hk
      obtain ⟨_, _, _, a1, _, _⟩ := path_told T h6 (f := (f : Int)) (by omega) (by omega)
      obtain ⟨_, _, _, b1, _, _⟩ := path_told T h6 k0 k1
      rw [starts_iff, str_app, str_app, y_cps, dot_cps, ← pre_anc2 T h6 (s := 46) (by decide) (by decide) k0 k1 (by omega : (-1 : Int) ≤ f) (by omega), a1, b1]
      simp [List.cons_append, List.cons_prefix_cons]
    have hd : ∀ k ∈ K, (Txt.startswith (pathAt fs f ++ Str.ofString "/y") (pathAt fs k ++ Str.ofString "/") = true ↔ near fs [k] f = k) := fun k hk => by
      obtain ⟨k0, k1⟩ := hb k hk
      rw [starts_iff, str_app, str_app, sy_cps, slash_cps, ← pre_anc2 T h6 (s := 47) (by decide) (by decide) k0 k1 (by omega : (-1 : Int) ≤ f) (by omega), Pq_47 fs (f := (f : Int)) (by omega), Pq_47 fs k0]
    constructor
    · rintro (⟨m, hm1, hm2⟩ | ⟨m, hm1, hm2⟩)
      · obtain ⟨k, hk, rfl⟩ := List.mem_map.mp hm1
        have hk := (List.mem_filter.mp hk).1
        exact ⟨k, hk, by simpa using (hm k hk).mp hm2⟩
      · obtain ⟨k, hk, rfl⟩ := List.mem_map.mp hm1
        have hk := (List.mem_filter.mp hk).1
        exact ⟨k, hk, by simpa using (hd k hk).mp hm2⟩
    · rintro ⟨k, hk, hk2⟩
      have hk2 : near fs [k] f = k := by simpa using hk2
      have h2 : (wAt fs k).fmod 2 = 0 ∨ (wAt fs k).fmod 2 = 1 := by
        have := Int.fmod_nonneg_of_pos (wAt fs k) (b := 2) (by decide)
        have := Int.fmod_lt_of_pos (wAt fs k) (b := 2) (by decide)
        omega
      rcases h2 with h2 | h2
      · exact .inr ⟨_, List.mem_map.mpr ⟨k, List.mem_filter.mpr ⟨hk, by rw [h2]; rfl⟩, rfl⟩, (hd k hk).mpr hk2⟩
      · exact .inl ⟨_, List.mem_map.mpr ⟨k, List.mem_filter.mpr ⟨hk, by rw [h2]; rfl⟩, rfl⟩, (hm k hk).mpr hk2⟩
  by_cases h : K.any (fun k => near fs [k] f == k) = true
  · rw [if_pos h, if_pos (key.mpr h)]
  · rw [if_neg h, if_neg (fun c => h (key.mp c))]
theorem geo_of {fs : List Fold} (T : Tree fs) (h6 : fs.length = 6) : Geo fs where
  valid := tree_valid T
  six := h6
  deep := fun a b h0 h1 h2 h3 h hne => deep_of T h6 h0 h1 h2 h3 h hne
  inj := fun a b h0 h1 h2 h3 h => Pq_inj T h6 (s := 47) (by decide) h0 h1 h2 h3 (by rw [Pq_47 fs h0, Pq_47 fs h2, h])
  fit := fun K hb f hf => told_at T h6 hb hf
theorem plain_law (fs : List Fold) (T : Tree fs) (h6 : fs.length = 6) : Facts fs := facts_of (geo_of T h6) (nice_of T h6) (rows_eq fs) (rows_ok fs)
/-! the head -/
theorem left_of_boot {p q : Program} {loose : List Str} {Xt : Shared → Bool} {α : Type} {Yf : Shared → α} {Ya : World → α} {N : Nat} {g0 : Bool} (e : opening p = plainProg p.main.scope.names) (hN : Nat.ble 600 N = true) (f : ∀ s, fenceModules? p s = some s)
    (h : ∀ (w : World) (os : OsState), (topFrom treeTable p w N ⟨boot_heap w.params, Array.mk [], boot_drawn, boot_toks, os⟩).map (fun s => (openSeen q loose (importedModules p.main.body) Xt g0 s, Yf s)) = some (openGood q loose, Ya w)) :
    LeftO p q loose Xt Yf Ya N g0 := fun w => by
  obtain ⟨⟨hp, gs, d, k, os⟩, e1, e2⟩ := Option.map_eq_some_iff.mp (boot_open e hN f w)
  simp only [Prod.mk.injEq] at e2
  obtain ⟨rfl, rfl, rfl, rfl⟩ := e2
  unfold openEnds
  rw [e1]
  exact h w os
noncomputable def vw : Program := view PySem.Challenge.pw_op0075_01 [0, 2, 3, 5, 6, 7, 8, 9, 10, 11, 12, 13, 14, 15, 16, 17, 18, 19, 20, 21, 22, 23, 24, 25, 26, 27, 29, 30, 31, 32, 33, 35, 37, 38, 39, 40, 41, 42, 43]
noncomputable abbrev hkH : Hook := kHook KH khAs (fun P => khAs_eq P)
theorem law_holds : PySem.Challenge.rw_op0075_01.Holds := by
  w_on
  o_law
  refine holds_open (q := vw) (loose := ["_filemode_table"]) (Xt := fun s => xlAt vw [] s && recOk (RowW.records (OpenRow.toRowW (OpenLaw.row PySem.Challenge.rw_op0075_01))) s) (XP := XL vw []) (Yf := Hook.obs hkH) (Ya := Hook.val hkH) (YP := Hook.says hkH) (N := 2460) ?hl (Hook.of hkH) (Hook.keeps hkH) (fun s e => xl_of s (Bool.and_eq_true_iff.mp e).1) XL.keeps (by rfl) (by rfl) (by rfl) (fun s e => recFacts_of (Bool.and_eq_true_iff.mp e).2) (by rfl) (by first | assumption | decide +kernel) (by decide +kernel) ⟨rfl, rfl, rfl, rfl, rfl, by decide +kernel⟩ ?hw ?hc
  case hl => exact left_of_boot (by kernel_rfl) (by decide) (fun s => by rfl) (fun w os => by kernel_rfl)
  case hw => w_witness2
  case hc =>
    w_strict (
      intro w s₀ s₁ mg mb G Y fa o pm cd doc dV kV ho hd hcd hD hmg hg args vals as hpre hlay hrd hwl hlo
      exact law_tail G.T (kIn_of Y) hmg hg hpre hlay hrd hwl hlo plain_law)
end Mine
set_option maxRecDepth 100000 in
set_option maxHeartbeats 8000000 in
theorem PySem.Challenge.cw_op0075_01_holds : PySem.Challenge.rw_op0075_01.Holds := by
  exact Mine.law_holds
