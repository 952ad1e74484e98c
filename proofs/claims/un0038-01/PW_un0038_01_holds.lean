import PyProof.Rows.All
import Wide.All
import OpenK.AllK
import Wide.FinOn
import KE.KFromBytes
import KE.KItem
import KE.BitLaws
import Lean
import PySem.Challenge.RW_un0038_01
set_option Elab.async false
set_option linter.unusedVariables false
set_option linter.unusedSimpArgs false
set_option linter.unusedSectionVars false
set_option maxRecDepth 100000
set_option maxHeartbeats 8000000

namespace Mine

-- T1
section
set_option maxRecDepth 100000
set_option maxHeartbeats 8000000
open PySem PySem.W PyProof.Rows PySem.Calls
noncomputable def en (P : Params) (x : Str) (t : Nat) (v : Value) : DictEntry := ⟨PyData.keyHash P x, .str x t, v⟩
noncomputable def tu (vs : List Value) : Obj := ⟨.type "tuple", none, .seq vs.toArray, #[]⟩
noncomputable def cO (n q : Str) (t line ac kwo flags b : Nat) (cells : Bool) (l u : Nat) : Obj :=
  ⟨.type "code", none, .fields #[.str n t, .str q (t + 1), .str "/claim/cut.py" (t + 2), .int line 0, .int ac 0, .int 0 0, .int kwo 0, .int flags 0, .ref b, .bool true, .int 181 0, .ref (b + 1), .none,
    if cells then .none else .ref (b + 2), if cells then .none else .ref (b + 3), .ref (if cells then b + 2 else b + 4), .int l 0, .int line 0, .str "/claim/cut.py" u], #[]⟩
noncomputable def tS (i : Nat) : Option Stmt := PySem.Challenge.pw_un0038_01.main.body[i]?
noncomputable def cS (i j : Nat) : Option Stmt := match tS i with
  | some (.ClassDef _ _ _ b ..) => b[j]?
  | _ => none
/-- the name of a def's argument -/
noncomputable def aN (st : Option Stmt) (j : Nat) : Str := match st with
  | some (.FunctionDef _ ps ..) => (ps.args[j]?.map (·.arg)).getD ""
  | _ => ""
noncomputable def fO (st : Option Stmt) (q : Str) (kw md : Value) (c : Addr) : Obj := match st with
  | some (.FunctionDef n ps body _ _ _ sc ..) => ⟨.type "function", none, .func (fnOf n q ps body sc .none kw .none md none (.ref c) .none), #[]⟩
  | _ => ⟨.none, none, .plain, #[]⟩
noncomputable def gO (st : Option Stmt) (q : Str) : Obj := match st with
  | some (.FunctionDef n ps body _ _ _ sc ..) => ⟨.none, none, .func { fnOf n q ps body sc .none .none .none .none none .none .none with globals := 0 }, #[]⟩
  | _ => ⟨.none, none, .plain, #[]⟩
/-- the names that the text binds, in their order -/
noncomputable def mD (P : Params) : List DictEntry :=
  [en P "_wall" 193 (.ref 21),
    en P "_plain_name" 204 (.ref 28),
    en P "ABCMeta" 230 (.ref 45),
    en P "_ABCLike" 273 (.ref 78),
    en P "_abc_plain_meta" 280 (.ref 87),
    en P "fspath" 292 (.ref 94),
    en P "_check_arg_types" 305 (.ref 101),
    en P "_get_sep" 314 (.ref 108),
    en P "join" 325 (.ref 115),
    en P "dirname" 335 (.ref 122),
    en P "commonpath" 341 (.ref 127),
    en P "S_IFMT" 350 (.ref 134),
    en P "S_IFDIR" 352 (.int 16384 351),
    en P "S_IFCHR" 354 (.int 8192 353),
    en P "S_IFBLK" 356 (.int 24576 355),
    en P "S_IFREG" 358 (.int 32768 357),
    en P "S_IFIFO" 360 (.int 4096 359),
    en P "S_IFLNK" 362 (.int 40960 361),
    en P "S_IFSOCK" 364 (.int 49152 363),
    en P "S_ISUID" 366 (.int 2048 365),
    en P "S_ISGID" 368 (.int 1024 367),
    en P "S_ISVTX" 370 (.int 512 369),
    en P "S_IRUSR" 372 (.int 256 371),
    en P "S_IWUSR" 374 (.int 128 373),
    en P "S_IXUSR" 376 (.int 64 375),
    en P "S_IRGRP" 378 (.int 32 377),
    en P "S_IWGRP" 380 (.int 16 379),
    en P "S_IXGRP" 382 (.int 8 381),
    en P "S_IROTH" 384 (.int 4 383),
    en P "S_IWOTH" 386 (.int 2 385),
    en P "S_IXOTH" 388 (.int 1 387),
    en P "_filemode_table" 414 (.ref 167),
    en P "filemode" 426 (.ref 174),
    en P "_deduplicate" 437 (.ref 182),
    en P "_deduplicate_unhashable" 446 (.ref 189),
    en P "_compare_args_orderless" 458 (.ref 196),
    en P "_law_lives" 470 (.ref 203),
    en P "_law_between" 476 (.ref 208),
    en P "_law_heaps" 487 (.ref 215),
    en P "law" 493 (.ref 220)]
noncomputable def o3 (P : Params) (nm : Value) (k : Nat) : Obj := match (boot_o_3 P).data with
  | .dict es n => ⟨.type "dict", none, .dict (en P "__name__" 165 nm :: (es.toList.drop 1 ++ (mD P).take k)).toArray (n + k), #[]⟩
  | _ => ⟨.none, none, .plain, #[]⟩
/-- the text's lines: a def's line and its code -/
noncomputable def o12 (k : Nat) : Obj := ⟨.none, none, .fields (([(1, 20), (5, 27), (11, 34), (16, 53), (31, 86), (35, 93), (52, 100), (64, 107), (69, 114), (86, 121), (94, 126), (124, 133), (146, 173), (164, 181), (171, 188), (177, 195), (188, 202), (198, 207), (203, 214), (214, 219)].take k).flatMap fun x => [.int ((x.1 : Nat) : Int) 0, .int 0 0, .ref x.2]).toArray, #[]⟩
noncomputable def o11 : Obj := tu []
noncomputable def o13 : Obj := ⟨(.type "code"), none, (.fields #[.str "<module>" 182, .str "<module>" 183, .str "/claim/cut.py" 184, .int 1 0, .int 0 0, .int 0 0, .int 0 0, .int 0 0, .ref 11, .bool false, .int 181 0, .ref 12, .none, .none, .none, .none, .int 185 0, .int 1 0, .str "/claim/cut.py" 186]), #[]⟩
noncomputable def o14 : Obj := ⟨(.type "frame"), none, Data.plain, #[some (.ref 13), some (.ref 3), some (.ref 3), none, some (.str "__main__" 164), none, some (.ref 0)]⟩
noncomputable def o15 : Obj := tu []
noncomputable def o16 : Obj := ⟨.none, none, (.fields #[]), #[]⟩
noncomputable def o17 : Obj := tu [.str "k" 190]
noncomputable def o18 : Obj := tu []
noncomputable def o19 : Obj := gO (tS 0) "_wall"
noncomputable def o20 : Obj := cO "_wall" "_wall" 187 1 1 0 3 15 false 191 192
noncomputable def o21 : Obj := fO (tS 0) "_wall" .none (.str "__main__" 164) 20
noncomputable def o22 : Obj := tu []
noncomputable def o23 : Obj := ⟨.none, none, (.fields #[]), #[]⟩
noncomputable def o24 : Obj := tu [.str "x" 199, .str "what" 200, .str "kind" 201]
noncomputable def o25 : Obj := tu []
noncomputable def o26 : Obj := gO (tS 2) "_plain_name"
noncomputable def o27 : Obj := cO "_plain_name" "_plain_name" 196 5 2 0 3 22 false 202 203
noncomputable def o28 : Obj := fO (tS 2) "_plain_name" .none (.str "os" 194) 27
noncomputable def o29 : Obj := tu [.type "type"]
noncomputable def o30 : Obj := ⟨(.type "builtin_function_or_method"), none, (.fields #[.builtin "type.__prepare__", .type "type"]), #[]⟩
noncomputable def o31 (P : Params) : Obj := ⟨(.type "dict"), none, (.dict #[en P "__module__" 214 (.str "abc" 205), en P "__qualname__" 216 (.str "ABCMeta" 215), en P "__firstlineno__" 218 (.int 11 217), en P "register" 226 (.ref 42), en P "__static_attributes__" 227 (.ref 43)] 5), #[]⟩
noncomputable def o32 : Obj := tu []
noncomputable def o33 : Obj := ⟨.none, none, (.fields #[.int 13 0, .int 4 0, .ref 41]), #[]⟩
noncomputable def o34 : Obj := ⟨(.type "code"), none, (.fields #[.str "ABCMeta" 209, .str "ABCMeta" 210, .str "/claim/cut.py" 211, .int 11 0, .int 0 0, .int 0 0, .int 0 0, .int 0 0, .ref 32, .bool false, .int 181 0, .ref 33, .none, .none, .none, .none, .int 212 0, .int 11 0, .str "/claim/cut.py" 213]), #[]⟩
noncomputable def o35 : Obj := ⟨(.type "frame"), none, Data.plain, #[some (.ref 34), some (.ref 3), some (.ref 31), none, some (.str "abc" 205), none, some (.ref 0)]⟩
noncomputable def o36 : Obj := tu []
noncomputable def o37 : Obj := ⟨.none, none, (.fields #[]), #[]⟩
noncomputable def o38 : Obj := tu [.str "cls" 222, .str "subclass" 223]
noncomputable def o39 : Obj := tu []
noncomputable def o40 : Obj := gO (cS 4 0) "ABCMeta.register"
noncomputable def o41 : Obj := cO "register" "ABCMeta.register" 219 13 2 0 3 36 false 224 225
noncomputable def o42 : Obj := fO (cS 4 0) "ABCMeta.register" .none (.str "abc" 205) 41
noncomputable def o43 : Obj := tu []
noncomputable def o44 (P : Params) : Obj := ⟨(.type "dict"), none, (.dict #[en P "__module__" 214 (.str "abc" 205), en P "__firstlineno__" 218 (.int 11 217), en P "register" 226 (.ref 42), en P "__static_attributes__" 227 (.ref 43), en P "__doc__" 228 .none] 2), #[]⟩
noncomputable def o45 : Obj := ⟨(.type "type"), none, (.cls (ClassData.mk ("ABCMeta") [.type "type"] [.ref 45, .type "type", .type "object"] 44 ("ABCMeta") true [] [.ref 78] false none false)), #[some (.ref 29), none, some (.str "ABCMeta" 207), some (.str "ABCMeta" 215), some (.builtin "type.__new__"), some (.bool true)]⟩
noncomputable def o46 : Obj := ⟨(.type "super"), none, (.fields #[.ref 45, .ref 45, .ref 45]), #[]⟩
noncomputable def o47 : Obj := ⟨(.type "builtin_function_or_method"), none, (.fields #[.builtin "object.__init_subclass__", .ref 45]), #[]⟩
noncomputable def o48 : Obj := tu [.ref 45]
noncomputable def o49 : Obj := ⟨(.type "builtin_function_or_method"), none, (.fields #[.builtin "type.__prepare__", .type "type"]), #[]⟩
noncomputable def o50 (P : Params) : Obj := ⟨(.type "dict"), none, (.dict #[en P "__module__" 240 (.str "collections.abc" 231), en P "__qualname__" 242 (.str "_ABCLike" 241), en P "__firstlineno__" 244 (.int 16 243), en P "__instancecheck__" 253 (.ref 61), en P "__subclasscheck__" 261 (.ref 68), en P "register" 269 (.ref 75), en P "__static_attributes__" 270 (.ref 76)] 7), #[]⟩
noncomputable def o51 : Obj := tu []
noncomputable def o52 : Obj := ⟨.none, none, (.fields #[.int 18 0, .int 4 0, .ref 60, .int 24 0, .int 4 0, .ref 67, .int 29 0, .int 4 0, .ref 74]), #[]⟩
noncomputable def o53 : Obj := ⟨(.type "code"), none, (.fields #[.str "_ABCLike" 235, .str "_ABCLike" 236, .str "/claim/cut.py" 237, .int 16 0, .int 0 0, .int 0 0, .int 0 0, .int 0 0, .ref 51, .bool false, .int 181 0, .ref 52, .none, .none, .none, .none, .int 238 0, .int 16 0, .str "/claim/cut.py" 239]), #[]⟩
noncomputable def o54 : Obj := ⟨(.type "frame"), none, Data.plain, #[some (.ref 53), some (.ref 3), some (.ref 50), none, some (.str "collections.abc" 231), none, some (.ref 0)]⟩
noncomputable def o55 : Obj := tu []
noncomputable def o56 : Obj := ⟨.none, none, (.fields #[]), #[]⟩
noncomputable def o57 : Obj := tu [.str "cls" 248, .str (aN (cS 6 0) 1) 249, .str "C" 250]
noncomputable def o58 : Obj := tu []
noncomputable def o59 : Obj := gO (cS 6 0) "_ABCLike.__instancecheck__"
noncomputable def o60 : Obj := cO "__instancecheck__" "_ABCLike.__instancecheck__" 245 18 2 0 3 55 false 251 252
noncomputable def o61 : Obj := fO (cS 6 0) "_ABCLike.__instancecheck__" .none (.str "collections.abc" 231) 60
noncomputable def o62 : Obj := tu []
noncomputable def o63 : Obj := ⟨.none, none, (.fields #[]), #[]⟩
noncomputable def o64 : Obj := tu [.str "cls" 257, .str "C" 258]
noncomputable def o65 : Obj := tu []
noncomputable def o66 : Obj := gO (cS 6 1) "_ABCLike.__subclasscheck__"
noncomputable def o67 : Obj := cO "__subclasscheck__" "_ABCLike.__subclasscheck__" 254 24 2 0 3 62 false 259 260
noncomputable def o68 : Obj := fO (cS 6 1) "_ABCLike.__subclasscheck__" .none (.str "collections.abc" 231) 67
noncomputable def o69 : Obj := tu []
noncomputable def o70 : Obj := ⟨.none, none, (.fields #[]), #[]⟩
noncomputable def o71 : Obj := tu [.str "cls" 265, .str "subclass" 266]
noncomputable def o72 : Obj := tu []
noncomputable def o73 : Obj := gO (cS 6 2) "_ABCLike.register"
noncomputable def o74 : Obj := cO "register" "_ABCLike.register" 262 29 2 0 3 69 false 267 268
noncomputable def o75 : Obj := fO (cS 6 2) "_ABCLike.register" .none (.str "collections.abc" 231) 74
noncomputable def o76 : Obj := tu []
noncomputable def o77 (P : Params) : Obj := ⟨(.type "dict"), none, (.dict #[en P "__module__" 240 (.str "collections.abc" 231), en P "__firstlineno__" 244 (.int 16 243), en P "__instancecheck__" 253 (.ref 61), en P "__subclasscheck__" 261 (.ref 68), en P "register" 269 (.ref 75), en P "__static_attributes__" 270 (.ref 76), en P "__doc__" 271 .none] 2), #[]⟩
noncomputable def o78 : Obj := ⟨(.type "type"), none, (.cls (ClassData.mk ("_ABCLike") [.ref 45] [.ref 78, .ref 45, .type "type", .type "object"] 77 ("_ABCLike") true [] [] false none false)), #[some (.ref 48), none, some (.str "_ABCLike" 233), some (.str "_ABCLike" 241), some (.builtin "type.__new__"), some (.bool true)]⟩
noncomputable def o79 : Obj := ⟨(.type "super"), none, (.fields #[.ref 78, .ref 78, .ref 78]), #[]⟩
noncomputable def o80 : Obj := ⟨(.type "builtin_function_or_method"), none, (.fields #[.builtin "object.__init_subclass__", .ref 78]), #[]⟩
noncomputable def o81 : Obj := tu []
noncomputable def o82 : Obj := ⟨.none, none, (.fields #[]), #[]⟩
noncomputable def o83 : Obj := tu [.str "C" 277]
noncomputable def o84 : Obj := tu []
noncomputable def o85 : Obj := gO (tS 7) "_abc_plain_meta"
noncomputable def o86 : Obj := cO "_abc_plain_meta" "_abc_plain_meta" 274 31 1 0 3 81 false 278 279
noncomputable def o87 : Obj := fO (tS 7) "_abc_plain_meta" .none (.str "collections.abc" 231) 86
noncomputable def o88 : Obj := tu []
noncomputable def o89 : Obj := ⟨.none, none, (.fields #[]), #[]⟩
noncomputable def o90 : Obj := tu [.str "path" 286, .str "kind" 287, .str "hook" 288, .str "given" 289]
noncomputable def o91 : Obj := tu []
noncomputable def o92 : Obj := gO (tS 9) "fspath"
noncomputable def o93 : Obj := cO "fspath" "fspath" 283 35 1 0 3 88 false 290 291
noncomputable def o94 : Obj := fO (tS 9) "fspath" .none (.str "os" 281) 93
noncomputable def o95 : Obj := tu []
noncomputable def o96 : Obj := ⟨.none, none, (.fields #[]), #[]⟩
noncomputable def o97 : Obj := tu [.str "funcname" 298, .str "args" 299, .str "hasstr" 300, .str "hasbytes" 301, .str "s" 302]
noncomputable def o98 : Obj := tu []
noncomputable def o99 : Obj := gO (tS 11) "_check_arg_types"
noncomputable def o100 : Obj := cO "_check_arg_types" "_check_arg_types" 295 52 1 0 7 95 false 303 304
noncomputable def o101 : Obj := fO (tS 11) "_check_arg_types" .none (.str "cpy313.genericpath" 293) 100
noncomputable def o102 : Obj := tu []
noncomputable def o103 : Obj := ⟨.none, none, (.fields #[]), #[]⟩
noncomputable def o104 : Obj := tu [.str "path" 311]
noncomputable def o105 : Obj := tu []
noncomputable def o106 : Obj := gO (tS 13) "_get_sep"
noncomputable def o107 : Obj := cO "_get_sep" "_get_sep" 308 64 1 0 3 102 false 312 313
noncomputable def o108 : Obj := fO (tS 13) "_get_sep" .none (.str "cpy313.posixpath" 306) 107
noncomputable def o109 : Obj := tu []
noncomputable def o110 : Obj := ⟨.none, none, (.fields #[]), #[]⟩
noncomputable def o111 : Obj := tu [.str "a" 318, .str "p" 319, .str "sep" 320, .str "path" 321, .str "b" 322]
noncomputable def o112 : Obj := tu []
noncomputable def o113 : Obj := gO (tS 14) "join"
noncomputable def o114 : Obj := cO "join" "join" 315 69 1 0 7 109 false 323 324
noncomputable def o115 : Obj := fO (tS 14) "join" .none (.str "cpy313.posixpath" 306) 114
noncomputable def o116 : Obj := tu []
noncomputable def o117 : Obj := ⟨.none, none, (.fields #[]), #[]⟩
noncomputable def o118 : Obj := tu [.str "p" 329, .str "sep" 330, .str "i" 331, .str "head" 332]
noncomputable def o119 : Obj := tu []
noncomputable def o120 : Obj := gO (tS 15) "dirname"
noncomputable def o121 : Obj := cO "dirname" "dirname" 326 86 1 0 3 116 false 333 334
noncomputable def o122 : Obj := fO (tS 15) "dirname" .none (.str "cpy313.posixpath" 306) 121
noncomputable def o123 : Obj := tu []
noncomputable def o124 : Obj := ⟨.none, none, (.fields #[]), #[]⟩
noncomputable def o125 : Obj := gO (tS 16) "commonpath"
noncomputable def o126 : Obj := cO "commonpath" "commonpath" 336 94 1 0 3 123 true 339 340
noncomputable def o127 : Obj := fO (tS 16) "commonpath" .none (.str "cpy313.posixpath" 306) 126
noncomputable def o128 : Obj := tu []
noncomputable def o129 : Obj := ⟨.none, none, (.fields #[]), #[]⟩
noncomputable def o130 : Obj := tu [.str "mode" 347]
noncomputable def o131 : Obj := tu []
noncomputable def o132 : Obj := gO (tS 18) "S_IFMT"
noncomputable def o133 : Obj := cO "S_IFMT" "S_IFMT" 344 124 1 0 3 128 false 348 349
noncomputable def o134 : Obj := fO (tS 18) "S_IFMT" .none (.str "cpy313.stat" 342) 133
noncomputable def o135 : Obj := tu [.int 40960 361, .str "l" 389]
noncomputable def o136 : Obj := tu [.int 49152 363, .str "s" 390]
noncomputable def o137 : Obj := tu [.int 32768 357, .str "-" 391]
noncomputable def o138 : Obj := tu [.int 24576 355, .str "b" 392]
noncomputable def o139 : Obj := tu [.int 16384 351, .str "d" 393]
noncomputable def o140 : Obj := tu [.int 8192 353, .str "c" 394]
noncomputable def o141 : Obj := tu [.int 4096 359, .str "p" 395]
noncomputable def o142 : Obj := tu [.ref 135, .ref 136, .ref 137, .ref 138, .ref 139, .ref 140, .ref 141]
noncomputable def o143 : Obj := tu [.int 256 371, .str "r" 396]
noncomputable def o144 : Obj := tu [.ref 143]
noncomputable def o145 : Obj := tu [.int 128 373, .str "w" 397]
noncomputable def o146 : Obj := tu [.ref 145]
noncomputable def o147 : Obj := tu [.int 2112 398, .str "s" 399]
noncomputable def o148 : Obj := tu [.int 2048 365, .str "S" 400]
noncomputable def o149 : Obj := tu [.int 64 375, .str "x" 401]
noncomputable def o150 : Obj := tu [.ref 147, .ref 148, .ref 149]
noncomputable def o151 : Obj := tu [.int 32 377, .str "r" 402]
noncomputable def o152 : Obj := tu [.ref 151]
noncomputable def o153 : Obj := tu [.int 16 379, .str "w" 403]
noncomputable def o154 : Obj := tu [.ref 153]
noncomputable def o155 : Obj := tu [.int 1032 404, .str "s" 405]
noncomputable def o156 : Obj := tu [.int 1024 367, .str "S" 406]
noncomputable def o157 : Obj := tu [.int 8 381, .str "x" 407]
noncomputable def o158 : Obj := tu [.ref 155, .ref 156, .ref 157]
noncomputable def o159 : Obj := tu [.int 4 383, .str "r" 408]
noncomputable def o160 : Obj := tu [.ref 159]
noncomputable def o161 : Obj := tu [.int 2 385, .str "w" 409]
noncomputable def o162 : Obj := tu [.ref 161]
noncomputable def o163 : Obj := tu [.int 513 410, .str "t" 411]
noncomputable def o164 : Obj := tu [.int 512 369, .str "T" 412]
noncomputable def o165 : Obj := tu [.int 1 387, .str "x" 413]
noncomputable def o166 : Obj := tu [.ref 163, .ref 164, .ref 165]
noncomputable def o167 : Obj := tu [.ref 142, .ref 144, .ref 146, .ref 150, .ref 152, .ref 154, .ref 158, .ref 160, .ref 162, .ref 166]
noncomputable def o168 : Obj := tu []
noncomputable def o169 : Obj := ⟨.none, none, (.fields #[]), #[]⟩
noncomputable def o170 : Obj := tu [.str "mode" 418, .str "perm" 419, .str "index" 420, .str "table" 421, .str "bit" 422, .str "char" 423]
noncomputable def o171 : Obj := tu []
noncomputable def o172 : Obj := gO (tS 39) "filemode"
noncomputable def o173 : Obj := cO "filemode" "filemode" 415 146 1 0 3 168 false 424 425
noncomputable def o174 : Obj := fO (tS 39) "filemode" .none (.str "cpy313.stat" 342) 173
noncomputable def o175 (P : Params) : Obj := ⟨(.type "dict"), none, (.dict #[en P "unhashable_fallback" 429 (.bool false)] 1), #[]⟩
noncomputable def o176 : Obj := tu []
noncomputable def o177 : Obj := ⟨.none, none, (.fields #[]), #[]⟩
noncomputable def o178 : Obj := tu [.str "params" 433, .str "unhashable_fallback" 434]
noncomputable def o179 : Obj := tu []
noncomputable def o180 : Obj := gO (tS 41) "_deduplicate"
noncomputable def o181 : Obj := cO "_deduplicate" "_deduplicate" 430 164 1 1 3 176 false 435 436
noncomputable def o182 : Obj := fO (tS 41) "_deduplicate" (.ref 175) (.str "cpy313.typing" 427) 181
noncomputable def o183 : Obj := tu []
noncomputable def o184 : Obj := ⟨.none, none, (.fields #[]), #[]⟩
noncomputable def o185 : Obj := tu [.str "unhashable_params" 441, .str "new_unhashable" 442, .str "t" 443]
noncomputable def o186 : Obj := tu []
noncomputable def o187 : Obj := gO (tS 42) "_deduplicate_unhashable"
noncomputable def o188 : Obj := cO "_deduplicate_unhashable" "_deduplicate_unhashable" 438 171 1 0 3 183 false 444 445
noncomputable def o189 : Obj := fO (tS 42) "_deduplicate_unhashable" .none (.str "cpy313.typing" 427) 188
noncomputable def o190 : Obj := tu []
noncomputable def o191 : Obj := ⟨.none, none, (.fields #[]), #[]⟩
noncomputable def o192 : Obj := tu [.str "first_args" 450, .str "second_args" 451, .str "first_unhashable" 452, .str "second_unhashable" 453, .str "t" 454, .str "elem" 455]
noncomputable def o193 : Obj := tu []
noncomputable def o194 : Obj := gO (tS 43) "_compare_args_orderless"
noncomputable def o195 : Obj := cO "_compare_args_orderless" "_compare_args_orderless" 447 177 2 0 3 190 false 456 457
noncomputable def o196 : Obj := fO (tS 43) "_compare_args_orderless" .none (.str "cpy313.typing" 427) 195
noncomputable def o197 : Obj := tu []
noncomputable def o198 : Obj := ⟨.none, none, (.fields #[]), #[]⟩
noncomputable def o199 : Obj := tu [.str "having" 464, .str "top" 465, .str "folders" 466, .str "way" 467]
noncomputable def o200 : Obj := tu []
noncomputable def o201 : Obj := gO (tS 45) "_law_lives"
noncomputable def o202 : Obj := cO "_law_lives" "_law_lives" 461 188 1 0 3 197 false 468 469
noncomputable def o203 : Obj := fO (tS 45) "_law_lives" .none (.str "law_un0038_01" 459) 202
noncomputable def o204 : Obj := tu []
noncomputable def o205 : Obj := ⟨.none, none, (.fields #[]), #[]⟩
noncomputable def o206 : Obj := gO (tS 46) "_law_between"
noncomputable def o207 : Obj := cO "_law_between" "_law_between" 471 198 2 0 3 204 true 474 475
noncomputable def o208 : Obj := fO (tS 46) "_law_between" .none (.str "law_un0038_01" 459) 207
noncomputable def o209 : Obj := tu []
noncomputable def o210 : Obj := ⟨.none, none, (.fields #[]), #[]⟩
noncomputable def o211 : Obj := tu [.str "lives" 480, .str "heaps" 481, .str "whole" 482, .str "apart" 483, .str "other" 484]
noncomputable def o212 : Obj := tu []
noncomputable def o213 : Obj := gO (tS 47) "_law_heaps"
noncomputable def o214 : Obj := cO "_law_heaps" "_law_heaps" 477 203 1 0 3 209 false 485 486
noncomputable def o215 : Obj := fO (tS 47) "_law_heaps" .none (.str "law_un0038_01" 459) 214
noncomputable def o216 : Obj := tu []
noncomputable def o217 : Obj := ⟨.none, none, (.fields #[]), #[]⟩
noncomputable def o218 : Obj := gO (tS 48) "law"
noncomputable def o219 : Obj := cO "law" "law" 488 214 1 0 3 216 true 491 492
noncomputable def o220 : Obj := fO (tS 48) "law" .none (.str "law_un0038_01" 459) 219
/-- what of the top's end the walk leans on -/
noncomputable def frag : Params → Frag := fun P =>
  (nat_lit 2, boot_o_2 P) ::
  (nat_lit 3, o3 P (.str "law_un0038_01" 459) 40) ::
  (nat_lit 93, o93) ::
  (nat_lit 94, o94) ::
  (nat_lit 107, o107) ::
  (nat_lit 108, o108) ::
  (nat_lit 114, o114) ::
  (nat_lit 115, o115) ::
  (nat_lit 121, o121) ::
  (nat_lit 122, o122) ::
  (nat_lit 126, o126) ::
  (nat_lit 127, o127) ::
  (nat_lit 133, o133) ::
  (nat_lit 134, o134) ::
  (nat_lit 135, o135) ::
  (nat_lit 136, o136) ::
  (nat_lit 137, o137) ::
  (nat_lit 138, o138) ::
  (nat_lit 139, o139) ::
  (nat_lit 140, o140) ::
  (nat_lit 141, o141) ::
  (nat_lit 142, o142) ::
  (nat_lit 143, o143) ::
  (nat_lit 144, o144) ::
  (nat_lit 145, o145) ::
  (nat_lit 146, o146) ::
  (nat_lit 147, o147) ::
  (nat_lit 148, o148) ::
  (nat_lit 149, o149) ::
  (nat_lit 150, o150) ::
  (nat_lit 151, o151) ::
  (nat_lit 152, o152) ::
  (nat_lit 153, o153) ::
  (nat_lit 154, o154) ::
  (nat_lit 155, o155) ::
  (nat_lit 156, o156) ::
  (nat_lit 157, o157) ::
  (nat_lit 158, o158) ::
  (nat_lit 159, o159) ::
  (nat_lit 160, o160) ::
  (nat_lit 161, o161) ::
  (nat_lit 162, o162) ::
  (nat_lit 163, o163) ::
  (nat_lit 164, o164) ::
  (nat_lit 165, o165) ::
  (nat_lit 166, o166) ::
  (nat_lit 167, o167) ::
  (nat_lit 173, o173) ::
  (nat_lit 174, o174) ::
  (nat_lit 175, o175 P) ::
  (nat_lit 181, o181) ::
  (nat_lit 182, o182) ::
  (nat_lit 188, o188) ::
  (nat_lit 189, o189) ::
  (nat_lit 195, o195) ::
  (nat_lit 196, o196) ::
  (nat_lit 202, o202) ::
  (nat_lit 203, o203) ::
  (nat_lit 207, o207) ::
  (nat_lit 208, o208) ::
  (nat_lit 214, o214) ::
  (nat_lit 215, o215) ::
  (nat_lit 219, o219) ::
  (nat_lit 220, o220) :: []
/-- the statements that the walk reads -/
noncomputable def vw : Program := view PySem.Challenge.pw_un0038_01 [0, 2, 4, 6, 7, 9, 11, 13, 14, 15, 16, 18, 19, 20, 21, 22, 23, 24, 25, 26, 27, 28, 29, 30, 31, 32, 33, 34, 35, 36, 37, 38, 39, 42, 43, 45, 46, 47, 48]
/-- the objects when the text starts, behind _ABCLike, behind the text's numbers, at the end -/
noncomputable def tr0 (P : Params) : BT := (.node (boot_o_0 P) (.node (boot_o_1 P) (.node (o3 P (.str "__main__" 164) 0) (.node (boot_o_7 P) .nil .nil) (.node o11 .nil .nil)) (.node (boot_o_5 P) (.node (boot_o_9 P) .nil .nil) (.node o13 .nil .nil))) (.node
  (boot_o_2 P) (.node (boot_o_4 P) (.node (boot_o_8 P) .nil .nil) (.node (o12 0) .nil .nil)) (.node (boot_o_6 P) (.node (boot_o_10 P) .nil .nil) (.node o14 .nil .nil))))
noncomputable def tr1 (P : Params) : BT := (.node (boot_o_0 P) (.node (boot_o_1 P) (.node (o3 P (.str "collections.abc" 231) 4) (.node (boot_o_7 P) (.node o15 (.node (o31 P) (.node o63 .nil .nil) .nil) (.node o47 (.node o79 .nil .nil) .nil)) (.node o23 (.node o39
  (.node o71 .nil .nil) .nil) (.node o55 .nil .nil))) (.node o11 (.node o19 (.node o35 (.node o67 .nil .nil) .nil) (.node o51 .nil .nil)) (.node o27 (.node o43 (.node o75 .nil .nil) .nil) (.node o59 .nil .nil)))) (.node
  (boot_o_5 P) (.node (boot_o_9 P) (.node o17 (.node o33 (.node o65 .nil .nil) .nil) (.node o49 .nil .nil)) (.node o25 (.node o41 (.node o73 .nil .nil) .nil) (.node o57 .nil .nil))) (.node o13 (.node o21 (.node o37 (.node
  o69 .nil .nil) .nil) (.node o53 .nil .nil)) (.node o29 (.node o45 (.node (o77 P) .nil .nil) .nil) (.node o61 .nil .nil))))) (.node (boot_o_2 P) (.node (boot_o_4 P) (.node (boot_o_8 P) (.node o16 (.node o32 (.node o64
  .nil .nil) .nil) (.node o48 (.node o80 .nil .nil) .nil)) (.node o24 (.node o40 (.node o72 .nil .nil) .nil) (.node o56 .nil .nil))) (.node (o12 4) (.node o20 (.node o36 (.node o68 .nil .nil) .nil) (.node o52 .nil .nil))
  (.node o28 (.node (o44 P) (.node o76 .nil .nil) .nil) (.node o60 .nil .nil)))) (.node (boot_o_6 P) (.node (boot_o_10 P) (.node o18 (.node o34 (.node o66 .nil .nil) .nil) (.node (o50 P) .nil .nil)) (.node o26 (.node o42
  (.node o74 .nil .nil) .nil) (.node o58 .nil .nil))) (.node o14 (.node o22 (.node o38 (.node o70 .nil .nil) .nil) (.node o54 .nil .nil)) (.node o30 (.node o46 (.node o78 .nil .nil) .nil) (.node o62 .nil .nil))))))
noncomputable def tr2 (P : Params) : BT := (.node (boot_o_0 P) (.node (boot_o_1 P) (.node (o3 P (.str "cpy313.stat" 342) 31) (.node (boot_o_7 P) (.node o15 (.node (o31 P) (.node o63 (.node o127 .nil .nil) .nil) (.node o95 .nil .nil)) (.node o47 (.node o79 .nil
  .nil) (.node o111 .nil .nil))) (.node o23 (.node o39 (.node o71 .nil .nil) (.node o103 .nil .nil)) (.node o55 (.node o87 .nil .nil) (.node o119 .nil .nil)))) (.node o11 (.node o19 (.node o35 (.node o67 (.node o131 .nil
  .nil) .nil) (.node o99 .nil .nil)) (.node o51 (.node o83 .nil .nil) (.node o115 .nil .nil))) (.node o27 (.node o43 (.node o75 .nil .nil) (.node o107 .nil .nil)) (.node o59 (.node o91 .nil .nil) (.node o123 .nil
  .nil))))) (.node (boot_o_5 P) (.node (boot_o_9 P) (.node o17 (.node o33 (.node o65 (.node o129 .nil .nil) .nil) (.node o97 .nil .nil)) (.node o49 (.node o81 .nil .nil) (.node o113 .nil .nil))) (.node o25 (.node o41
  (.node o73 .nil .nil) (.node o105 .nil .nil)) (.node o57 (.node o89 .nil .nil) (.node o121 .nil .nil)))) (.node o13 (.node o21 (.node o37 (.node o69 (.node o133 .nil .nil) .nil) (.node o101 .nil .nil)) (.node o53 (.node
  o85 .nil .nil) (.node o117 .nil .nil))) (.node o29 (.node o45 (.node (o77 P) .nil .nil) (.node o109 .nil .nil)) (.node o61 (.node o93 .nil .nil) (.node o125 .nil .nil)))))) (.node (boot_o_2 P) (.node (boot_o_4 P) (.node
  (boot_o_8 P) (.node o16 (.node o32 (.node o64 (.node o128 .nil .nil) .nil) (.node o96 .nil .nil)) (.node o48 (.node o80 .nil .nil) (.node o112 .nil .nil))) (.node o24 (.node o40 (.node o72 .nil .nil) (.node o104 .nil
  .nil)) (.node o56 (.node o88 .nil .nil) (.node o120 .nil .nil)))) (.node (o12 12) (.node o20 (.node o36 (.node o68 (.node o132 .nil .nil) .nil) (.node o100 .nil .nil)) (.node o52 (.node o84 .nil .nil) (.node o116 .nil
  .nil))) (.node o28 (.node (o44 P) (.node o76 .nil .nil) (.node o108 .nil .nil)) (.node o60 (.node o92 .nil .nil) (.node o124 .nil .nil))))) (.node (boot_o_6 P) (.node (boot_o_10 P) (.node o18 (.node o34 (.node o66
  (.node o130 .nil .nil) .nil) (.node o98 .nil .nil)) (.node (o50 P) (.node o82 .nil .nil) (.node o114 .nil .nil))) (.node o26 (.node o42 (.node o74 .nil .nil) (.node o106 .nil .nil)) (.node o58 (.node o90 .nil .nil)
  (.node o122 .nil .nil)))) (.node o14 (.node o22 (.node o38 (.node o70 (.node o134 .nil .nil) .nil) (.node o102 .nil .nil)) (.node o54 (.node o86 .nil .nil) (.node o118 .nil .nil))) (.node o30 (.node o46 (.node o78 .nil
  .nil) (.node o110 .nil .nil)) (.node o62 (.node o94 .nil .nil) (.node o126 .nil .nil)))))))
noncomputable def tr3 (P : Params) : BT := (.node (boot_o_0 P) (.node (boot_o_1 P) (.node (o3 P (.str "law_un0038_01" 459) 40) (.node (boot_o_7 P) (.node o15 (.node (o31 P) (.node o63 (.node o127 .nil .nil) (.node o191 .nil .nil)) (.node o95 (.node o159 .nil .nil)
  .nil)) (.node o47 (.node o79 (.node o143 .nil .nil) (.node o207 .nil .nil)) (.node o111 (.node (o175 P) .nil .nil) .nil))) (.node o23 (.node o39 (.node o71 (.node o135 .nil .nil) (.node o199 .nil .nil)) (.node o103
  (.node o167 .nil .nil) .nil)) (.node o55 (.node o87 (.node o151 .nil .nil) (.node o215 .nil .nil)) (.node o119 (.node o183 .nil .nil) .nil)))) (.node o11 (.node o19 (.node o35 (.node o67 (.node o131 .nil .nil) (.node
  o195 .nil .nil)) (.node o99 (.node o163 .nil .nil) .nil)) (.node o51 (.node o83 (.node o147 .nil .nil) (.node o211 .nil .nil)) (.node o115 (.node o179 .nil .nil) .nil))) (.node o27 (.node o43 (.node o75 (.node o139 .nil
  .nil) (.node o203 .nil .nil)) (.node o107 (.node o171 .nil .nil) .nil)) (.node o59 (.node o91 (.node o155 .nil .nil) (.node o219 .nil .nil)) (.node o123 (.node o187 .nil .nil) .nil))))) (.node (boot_o_5 P) (.node
  (boot_o_9 P) (.node o17 (.node o33 (.node o65 (.node o129 .nil .nil) (.node o193 .nil .nil)) (.node o97 (.node o161 .nil .nil) .nil)) (.node o49 (.node o81 (.node o145 .nil .nil) (.node o209 .nil .nil)) (.node o113
  (.node o177 .nil .nil) .nil))) (.node o25 (.node o41 (.node o73 (.node o137 .nil .nil) (.node o201 .nil .nil)) (.node o105 (.node o169 .nil .nil) .nil)) (.node o57 (.node o89 (.node o153 .nil .nil) (.node o217 .nil
  .nil)) (.node o121 (.node o185 .nil .nil) .nil)))) (.node o13 (.node o21 (.node o37 (.node o69 (.node o133 .nil .nil) (.node o197 .nil .nil)) (.node o101 (.node o165 .nil .nil) .nil)) (.node o53 (.node o85 (.node o149
  .nil .nil) (.node o213 .nil .nil)) (.node o117 (.node o181 .nil .nil) .nil))) (.node o29 (.node o45 (.node (o77 P) (.node o141 .nil .nil) (.node o205 .nil .nil)) (.node o109 (.node o173 .nil .nil) .nil)) (.node o61
  (.node o93 (.node o157 .nil .nil) .nil) (.node o125 (.node o189 .nil .nil) .nil)))))) (.node (boot_o_2 P) (.node (boot_o_4 P) (.node (boot_o_8 P) (.node o16 (.node o32 (.node o64 (.node o128 .nil .nil) (.node o192 .nil
  .nil)) (.node o96 (.node o160 .nil .nil) .nil)) (.node o48 (.node o80 (.node o144 .nil .nil) (.node o208 .nil .nil)) (.node o112 (.node o176 .nil .nil) .nil))) (.node o24 (.node o40 (.node o72 (.node o136 .nil .nil)
  (.node o200 .nil .nil)) (.node o104 (.node o168 .nil .nil) .nil)) (.node o56 (.node o88 (.node o152 .nil .nil) (.node o216 .nil .nil)) (.node o120 (.node o184 .nil .nil) .nil)))) (.node (o12 20) (.node o20 (.node o36
  (.node o68 (.node o132 .nil .nil) (.node o196 .nil .nil)) (.node o100 (.node o164 .nil .nil) .nil)) (.node o52 (.node o84 (.node o148 .nil .nil) (.node o212 .nil .nil)) (.node o116 (.node o180 .nil .nil) .nil))) (.node
  o28 (.node (o44 P) (.node o76 (.node o140 .nil .nil) (.node o204 .nil .nil)) (.node o108 (.node o172 .nil .nil) .nil)) (.node o60 (.node o92 (.node o156 .nil .nil) (.node o220 .nil .nil)) (.node o124 (.node o188 .nil
  .nil) .nil))))) (.node (boot_o_6 P) (.node (boot_o_10 P) (.node o18 (.node o34 (.node o66 (.node o130 .nil .nil) (.node o194 .nil .nil)) (.node o98 (.node o162 .nil .nil) .nil)) (.node (o50 P) (.node o82 (.node o146
  .nil .nil) (.node o210 .nil .nil)) (.node o114 (.node o178 .nil .nil) .nil))) (.node o26 (.node o42 (.node o74 (.node o138 .nil .nil) (.node o202 .nil .nil)) (.node o106 (.node o170 .nil .nil) .nil)) (.node o58 (.node
  o90 (.node o154 .nil .nil) (.node o218 .nil .nil)) (.node o122 (.node o186 .nil .nil) .nil)))) (.node o14 (.node o22 (.node o38 (.node o70 (.node o134 .nil .nil) (.node o198 .nil .nil)) (.node o102 (.node o166 .nil
  .nil) .nil)) (.node o54 (.node o86 (.node o150 .nil .nil) (.node o214 .nil .nil)) (.node o118 (.node o182 .nil .nil) .nil))) (.node o30 (.node o46 (.node o78 (.node o142 .nil .nil) (.node o206 .nil .nil)) (.node o110
  (.node o174 .nil .nil) .nil)) (.node o62 (.node o94 (.node o158 .nil .nil) .nil) (.node o126 (.node o190 .nil .nil) .nil)))))))
noncomputable def sh (t : BT) (n toks : Nat) (os : OsState) : SharedT := ⟨t, n, {}, #[], boot_drawn, toks, os⟩
noncomputable def envT : Env := { scope := PySem.Challenge.pw_un0038_01.main.scope, locals := mainNs, globals := mainNs, cells := [], code := .ref 13, frame := some 14 }
noncomputable def cT : Code := .body (behindTheImports PySem.Challenge.pw_un0038_01) envT
noncomputable def sts1 : List Stmt := PySem.Challenge.pw_un0038_01.main.body.take 7
noncomputable def sts2 : List Stmt := (PySem.Challenge.pw_un0038_01.main.body.drop 7).take 31
noncomputable def sts3 : List Stmt := PySem.Challenge.pw_un0038_01.main.body.drop 38
noncomputable abbrev p0 : Pos := ⟨0, 0, 0, 0⟩
noncomputable abbrev q1 : Pos := ⟨16, 0, 30, 16⟩
noncomputable abbrev q2 : Pos := ⟨144, 0, 144, 7⟩
noncomputable abbrev q3 : Pos := ⟨214, 0, 256, 47⟩
theorem run0 (w : World) (os : OsState) : topGo treeTable PySem.Challenge.pw_un0038_01 w 11 (some (.ref 6)) 12 ⟨boot_heap w.params, Array.mk [], boot_drawn, boot_toks, os⟩ (topStub PySem.Challenge.pw_un0038_01) =
    some ((sh (tr0 w.params) 15 187 os).abs, ⟨denote treeTable cT, cT, p0, [topFrame p0]⟩) := by kernel_rfl
theorem run0b (w : World) (os : OsState) : segRun treeTable PySem.Challenge.pw_un0038_01 w 11 (some (.ref 6)) 1 1 (sh (tr0 w.params) 15 187 os).abs (blockOf (behindTheImports PySem.Challenge.pw_un0038_01) envT cT p0 [topFrame p0]) =
    some (.next, (sh (tr0 w.params) 15 187 os).abs, cT, p0) := by kernel_rfl
theorem run1 (w : World) (os : OsState) : segRunT treeTable PySem.Challenge.pw_un0038_01 w 11 (some (.ref 6)) 1 606 (sh (tr0 w.params) 15 187 os) (piecesOf sts1 envT cT p0 [topFrame p0]) =
    some (.next, sh (tr1 w.params) 81 274 os, cT, q1) := by
  rw [PySem.W.Fast.te10110043849684766642, PySem.W.Fast.te14364793385576792824]
  kernel_rfl
theorem run2 (w : World) (os : OsState) : segRunT treeTable PySem.Challenge.pw_un0038_01 w 11 (some (.ref 6)) 1 451 (sh (tr1 w.params) 81 274 os) (piecesOf sts2 envT cT q1 [topFrame p0]) =
    some (.next, sh (tr2 w.params) 135 389 os, cT, q2) := by
  rw [PySem.W.Fast.te10110043849684766642, PySem.W.Fast.te14364793385576792824]
  kernel_rfl
theorem run3 (w : World) (os : OsState) : segRunT treeTable PySem.Challenge.pw_un0038_01 w 11 (some (.ref 6)) 1 431 (sh (tr2 w.params) 135 389 os) (piecesOf sts3 envT cT q2 [topFrame p0]) =
    some (.next, sh (tr3 w.params) 221 494 os, cT, q3) := by
  rw [PySem.W.Fast.te10110043849684766642, PySem.W.Fast.te14364793385576792824]
  kernel_rfl
theorem run4 (w : World) (os : OsState) : topRun treeTable PySem.Challenge.pw_un0038_01 w 11 (some (.ref 6)) 2 (sh (tr3 w.params) 221 494 os).abs ⟨doneF .next, cT, q3, [topFrame p0]⟩ = some (sh (tr3 w.params) 221 494 os).abs := by kernel_rfl
theorem body_is : behindTheImports PySem.Challenge.pw_un0038_01 = sts1 ++ (sts2 ++ (sts3 ++ [])) := by kernel_rfl
theorem run (w : World) (os : OsState) : topRun treeTable PySem.Challenge.pw_un0038_01 w 11 (some (.ref 6)) (12 + (1 + (606 + (451 + (431 + 2))))) ⟨boot_heap w.params, Array.mk [], boot_drawn, boot_toks, os⟩ (topStub PySem.Challenge.pw_un0038_01) =
    some (sh (tr3 w.params) 221 494 os).abs := by
  refine go_top (run0 w os) (piece_block (run0b w os) ?_)
  have h := piece_app (rest := sts2 ++ (sts3 ++ [])) (segRun_of (run1 w os)) (piece_app (rest := sts3 ++ []) (segRun_of (run2 w os)) (piece_app (rest := []) (segRun_of (run3 w os)) (piece_nil (run4 w os))))
  rw [← body_is] at h
  exact h
noncomputable abbrev lo : List Str := [Str.ofString "_filemode_table", Str.ofString "_deduplicate"]
noncomputable abbrev kH : Hook := kHook frag [2, 3, 93, 94, 107, 108, 114, 115, 121, 122, 126, 127, 133, 134, 135, 136, 137, 138, 139, 140, 141, 142, 143, 144, 145, 146, 147, 148, 149, 150, 151, 152, 153, 154, 155, 156, 157, 158, 159, 160, 161, 162, 163, 164, 165, 166, 167, 173, 174, 175, 181, 182, 188, 189, 195, 196, 202, 203, 207, 208, 214, 215, 219, 220] (fun _ => by kernel_rfl)
noncomputable abbrev H1 (P : Params) : Heap := absHeap (tr3 P) 221 {}
noncomputable abbrev xt (s : Shared) : Bool := xlAt vw [] s && recOk (RowW.records PySem.Challenge.rw_un0038_01.row.toRowW) s
theorem opened : ∀ w : World, (fencedOpening treeTable PySem.Challenge.pw_un0038_01 w 3096).map (fun s => (s.heap, s.gens, s.drawn, s.toks)) = some (boot_heap w.params, Array.mk [], boot_drawn, boot_toks) :=
  boot_open (by kernel_rfl) (by decide) (fun _ => by kernel_rfl)
theorem look1 (w : World) (os : OsState) : (staticsOk (importedModules PySem.Challenge.pw_un0038_01.main.body) (boot_heap w.params) (H1 w.params) && namesBound PySem.Challenge.pw_un0038_01 (H1 w.params) &&
    gensDone ⟨H1 w.params, #[], boot_drawn, 494, os⟩ && laidKept (boot_heap w.params) (H1 w.params)) = true := by kernel_rfl
theorem look2 (w : World) (os : OsState) : openSeen vw lo (importedModules PySem.Challenge.pw_un0038_01.main.body) xt true ⟨H1 w.params, #[], boot_drawn, 494, os⟩ = openGood vw lo := by
  rw [PySem.W.Fast.te4187177175401517315]
  kernel_rfl
theorem look3 (w : World) (os : OsState) : kH.obs ⟨H1 w.params, #[], boot_drawn, 494, os⟩ = kH.val w := by kernel_rfl
theorem left : LeftO PySem.Challenge.rw_un0038_01.row.prog vw lo xt kH.obs kH.val 3096 :=
  LeftO.of_pieces (H₀ := boot_heap) (H₁ := H1) (m₀ := 11) (ann := some (.ref 6)) opened (fun w => by kernel_rfl) run (by decide) fun w => funext fun os => looks_pair (look1 w os) (looks_pair (look2 w os) (look3 w os))
theorem said : OpenLaw.wellSaid PySem.Challenge.rw_un0038_01 = true := by
  unfold OpenLaw.wellSaid OpenRow.wellSaid OpenRow.partSaid looksOpen
  repeat' with_reducible refine look_both ?_ ?_
  all_goals decide +kernel
end

-- L1
section
open PySem PySem.W PyProof.Rows

/-- no frame, no cell -/
noncomputable def Still (o : Obj) : Prop := (∀ es ep, o.data ≠ .dict es ep) ∧ ∀ v, o.data ≠ .cell v
/-- pure values -/
inductive PV where
  | none
  | bool (b : Bool)
  | int (i : Int)
  | str (x : Str)
  | ty (T : String)
  | list (l : List PV)
  | tuple (l : List PV)

/-- what holds between a value in the heap and a pure one; nothing in X has a part in it -/
inductive Rep (h : Heap) (X : List Addr) : Value → PV → Prop
  | none : Rep h X .none .none
  | bool (b : Bool) : Rep h X (.bool b) (.bool b)
  | int (i : Int) (t : Tok) : Rep h X (.int i t) (.int i)
  | str (x : Str) (t : Tok) : Rep h X (.str x t) (.str x)
  | ty (T : String) : Rep h X (.type T) (.ty T)
  | list {a : Addr} {vs : List Value} {l : List PV} : a ∉ X → h.IsList a vs.toArray → vs.length = l.length → (∀ (i : Nat) v p, vs[i]? = some v → l[i]? = some p → Rep h X v p) → Rep h X (.ref a) (.list l)
  | tuple {a : Addr} {vs : List Value} {l : List PV} : a ∉ X → IsTup h a vs.toArray → vs.length = l.length → (∀ (i : Nat) v p, vs[i]? = some v → l[i]? = some p → Rep h X v p) → Rep h X (.ref a) (.tuple l)

noncomputable def Reps (h : Heap) (X : List Addr) (vs : List Value) (l : List PV) : Prop :=
  vs.length = l.length ∧ ∀ (i : Nat) v p, vs[i]? = some v → l[i]? = some p → Rep h X v p

theorem Rep.map {h h' : Heap} {X X' : List Addr} {v : Value} {p : PV} (r : Rep h X v p)
    (hk : ∀ a o, a ∉ X → h.get? a = some o → a ∉ X' ∧ h'.get? a = some o) : Rep h' X' v p := by
  induction r with
  | none => exact .none
  | bool b => exact .bool b
  | int i t => exact .int i t
  | str x t => exact .str x t
  | ty T => exact .ty T
  | list hx hl hn _ ih =>
    obtain ⟨o, ho, r⟩ := hl
    exact .list (hk _ _ hx ho).1 ⟨o, (hk _ _ hx ho).2, r⟩ hn ih
  | tuple hx hl hn _ ih =>
    obtain ⟨o, ho, r⟩ := hl
    exact .tuple (hk _ _ hx ho).1 ⟨o, (hk _ _ hx ho).2, r⟩ hn ih

theorem Rep.keeps {h h' : Heap} {X : List Addr} {v : Value} {p : PV} (r : Rep h X v p) (hk : ∀ a o, h.get? a = some o → h'.get? a = some o) : Rep h' X v p :=
  r.map fun a o hx e => ⟨hx, hk a o e⟩
theorem Rep.but {h h' : Heap} {X : List Addr} {v : Value} {p : PV} (r : Rep h X v p) (hk : ∀ a o, a ∉ X → h.get? a = some o → h'.get? a = some o) : Rep h' X v p :=
  r.map fun a o hx e => ⟨hx, hk a o hx e⟩
theorem Rep.less {h : Heap} {X X' : List Addr} {v : Value} {p : PV} (r : Rep h X v p) (hs : ∀ a, a ∈ X' → a ∈ X) : Rep h X' v p :=
  r.map fun a o hx e => ⟨fun q => hx (hs a q), e⟩

theorem Reps.map {h h' : Heap} {X X' : List Addr} {vs : List Value} {l : List PV} (r : Reps h X vs l)
    (hk : ∀ a o, a ∉ X → h.get? a = some o → a ∉ X' ∧ h'.get? a = some o) : Reps h' X' vs l := ⟨r.1, fun i v p hv hp => (r.2 i v p hv hp).map hk⟩
theorem Reps.keeps {h h' : Heap} {X : List Addr} {vs : List Value} {l : List PV} (r : Reps h X vs l) (hk : ∀ a o, h.get? a = some o → h'.get? a = some o) : Reps h' X vs l := r.map fun a o hx e => ⟨hx, hk a o e⟩
theorem Reps.but {h h' : Heap} {X : List Addr} {vs : List Value} {l : List PV} (r : Reps h X vs l) (hk : ∀ a o, a ∉ X → h.get? a = some o → h'.get? a = some o) : Reps h' X vs l := r.map fun a o hx e => ⟨hx, hk a o hx e⟩
theorem Reps.less {h : Heap} {X X' : List Addr} {vs : List Value} {l : List PV} (r : Reps h X vs l) (hs : ∀ a, a ∈ X' → a ∈ X) : Reps h X' vs l := r.map fun a o hx e => ⟨fun q => hx (hs a q), e⟩
theorem Reps.nil {h : Heap} {X : List Addr} : Reps h X [] [] := ⟨rfl, fun _ _ _ h => by simp at h⟩
theorem Reps.cons {h : Heap} {X : List Addr} {v : Value} {vs : List Value} {p : PV} {l : List PV} (a : Rep h X v p) (r : Reps h X vs l) : Reps h X (v :: vs) (p :: l) := by
  refine ⟨by simp [r.1], fun i w q hw hq => ?_⟩
  cases i with
  | zero => simp at hw hq; subst hw hq; exact a
  | succ i => exact r.2 i w q (by simpa using hw) (by simpa using hq)
theorem Reps.head {h : Heap} {X : List Addr} {v : Value} {vs : List Value} {p : PV} {l : List PV} (r : Reps h X (v :: vs) (p :: l)) : Rep h X v p := r.2 0 v p rfl rfl
theorem Reps.tail {h : Heap} {X : List Addr} {v : Value} {vs : List Value} {p : PV} {l : List PV} (r : Reps h X (v :: vs) (p :: l)) : Reps h X vs l :=
  ⟨by have := r.1; simpa using this, fun i w q hw hq => r.2 (i + 1) w q (by simpa using hw) (by simpa using hq)⟩
theorem Reps.nil_inv {h : Heap} {X : List Addr} {vs : List Value} (r : Reps h X vs []) : vs = [] := by
  have := r.1; cases vs with
  | nil => rfl
  | cons => simp at this
theorem Reps.cons_inv {h : Heap} {X : List Addr} {vs : List Value} {p : PV} {l : List PV} (r : Reps h X vs (p :: l)) : ∃ v vs', vs = v :: vs' ∧ Rep h X v p ∧ Reps h X vs' l := by
  cases vs with
  | nil => have := r.1; simp at this
  | cons v vs' => exact ⟨v, vs', rfl, r.head, r.tail⟩
theorem Reps.append {h : Heap} {X : List Addr} {vs ws : List Value} {l k : List PV} (a : Reps h X vs l) (b : Reps h X ws k) : Reps h X (vs ++ ws) (l ++ k) := by
  induction l generalizing vs with
  | nil => rw [a.nil_inv]; exact b
  | cons p l ih =>
    obtain ⟨v, vs', rfl, hv, hr⟩ := a.cons_inv
    exact Reps.cons hv (ih hr)
theorem Reps.get {h : Heap} {X : List Addr} {vs : List Value} {l : List PV} (r : Reps h X vs l) {i : Nat} {p : PV} (e : l[i]? = some p) : ∃ v, vs[i]? = some v ∧ Rep h X v p := by
  obtain ⟨hlt, _⟩ := List.getElem?_eq_some_iff.mp e
  have hlt' : i < vs.length := by rw [r.1]; exact hlt
  exact ⟨vs[i], by simp [hlt'], r.2 i _ p (by simp [hlt']) e⟩
theorem Reps.get' {h : Heap} {X : List Addr} {vs : List Value} {l : List PV} (r : Reps h X vs l) {i : Nat} {v : Value} (e : vs[i]? = some v) : ∃ p, l[i]? = some p ∧ Rep h X v p := by
  obtain ⟨hlt, _⟩ := List.getElem?_eq_some_iff.mp e
  have hlt' : i < l.length := by rw [← r.1]; exact hlt
  exact ⟨l[i], by simp [hlt'], r.2 i v _ e (by simp [hlt'])⟩
/-- a variable's value -/
noncomputable def Var (env : Env) (h : Heap) (x : Str) (v : Value) : Prop :=
  (env.kindOf x = some .local ∧ ∃ m, h.Ns env.locals m ∧ m x = some v) ∨
  (env.kindOf x = some .cell ∧ ∃ c, env.cells.lookup x = some c ∧ h.IsCell c (some v))

inductive SV where
  | val (p : PV)
  | own (l : List PV)

noncomputable abbrev PEnv := List (Str × SV)

structure Sit (env : Env) (ρ : PEnv) (X : List Addr) (h₀ h : Heap) : Prop where
  kind : env.scope.kind = .function
  glob : env.globals = mainGlobals
  blt : env.builtins = builtinsNs
  keep : ∀ b o, h₀.get? b = some o → h.get? b = some o
  live : ∀ x ∈ X, ∃ o, h.get? x = some o
  loc : env.locals ∈ X
  locN : h₀.get? env.locals = Option.none
  ns : ∃ m, h.Ns env.locals m
  cel : ∀ x c, env.cells.lookup x = some c → c ∈ X ∧ h₀.get? c = Option.none ∧ ∃ v, h.IsCell c v
  inj : ∀ x y c, env.cells.lookup x = some c → env.cells.lookup y = some c → x = y
  val : ∀ x p, ρ.lookup x = some (.val p) → ∃ v, Var env h x v ∧ Rep h X v p
  own : ∀ x l, ρ.lookup x = some (.own l) → ∃ a, Var env h x (.ref a) ∧ a ∈ X ∧ h₀.get? a = Option.none ∧ (∃ vs : List Value, h.PlainList a vs.toArray ∧ Reps h X vs l) ∧
    ∀ y l', ρ.lookup y = some (.own l') → y ≠ x → ¬ Var env h y (.ref a)
end

-- L2
section
open PySem PySem.W PyProof.Rows PySem.Calls

theorem Kp.refl (s : Shared) : Keeps s s := ⟨s.heap, s.toks, rfl, fun _ _ e => e⟩
theorem Kp.trans {s s' s'' : Shared} (a : Keeps s s') (b : Keeps s' s'') : Keeps s s'' := by
  obtain ⟨h, t, rfl, k⟩ := a
  obtain ⟨h', t', rfl, k'⟩ := b
  exact ⟨h', t', rfl, fun b o e => k' b o (k b o e)⟩
theorem Kp.hh {s s' : Shared} (a : Keeps s s') : ∀ b o, s.heap.get? b = some o → s'.heap.get? b = some o := by
  obtain ⟨h, t, rfl, k⟩ := a; exact k
theorem Kp.tok (s : Shared) (t : Nat) : Keeps s { s with toks := t } := ⟨s.heap, t, rfl, fun _ _ e => e⟩
theorem Kp.push (s : Shared) (o : Obj) (t : Nat) : Keeps s { s with heap := s.heap.push o, toks := t } := ⟨_, t, rfl, fun _ _ e => Heap.get?_push_of_some _ e⟩

theorem isCell_keeps {h h' : Heap} {c : Addr} {v : Option Value} (x : h.IsCell c v) (hk : ∀ b o, h.get? b = some o → h'.get? b = some o) : h'.IsCell c v := by
  obtain ⟨o, ho, r⟩ := x; exact ⟨o, hk _ _ ho, r⟩

theorem Var.keeps {env : Env} {h h' : Heap} {x : Str} {v : Value} (a : Var env h x v) (hk : ∀ b o, h.get? b = some o → h'.get? b = some o) : Var env h' x v := by
  rcases a with ⟨e, m, hn, hm⟩ | ⟨e, c, hc, hv⟩
  · exact .inl ⟨e, m, hn.keeps hk, hm⟩
  · exact .inr ⟨e, c, hc, isCell_keeps hv hk⟩

theorem ns_fun {h : Heap} {a : Addr} {m m' : Str → Option Value} (x : h.Ns a m) (y : h.Ns a m') : m = m' := by
  obtain ⟨o, es, ep, ho, hd, _, hf⟩ := x
  obtain ⟨o', es', ep', ho', hd', _, hf'⟩ := y
  rw [ho] at ho'; cases ho'
  rw [hd] at hd'; cases hd'
  funext n; rw [← hf, ← hf']
theorem Var.fun {env : Env} {h : Heap} {x : Str} {v v' : Value} (a : Var env h x v) (b : Var env h x v') : v = v' := by
  rcases a with ⟨e, m, hn, hm⟩ | ⟨e, c, hc, o, ho, hd⟩ <;> rcases b with ⟨e', m', hn', hm'⟩ | ⟨e', c', hc', o', ho', hd'⟩
  · rw [ns_fun hn hn'] at hm; rw [hm] at hm'; exact Option.some.inj hm'
  · rw [e] at e'; cases e'
  · rw [e] at e'; cases e'
  · rw [hc] at hc'; cases hc'
    rw [ho] at ho'; cases ho'
    rw [hd] at hd'; cases hd'; rfl

theorem Sit.keeps {env : Env} {ρ : PEnv} {X : List Addr} {h₀ h h' : Heap} (S : Sit env ρ X h₀ h) (hk : ∀ b o, h.get? b = some o → h'.get? b = some o) : Sit env ρ X h₀ h' where
  kind := S.kind
  glob := S.glob
  blt := S.blt
  keep := fun b o e => hk b o (S.keep b o e)
  live := fun x hx => let ⟨o, e⟩ := S.live x hx; ⟨o, hk _ _ e⟩
  loc := S.loc
  locN := S.locN
  ns := let ⟨m, hn⟩ := S.ns; ⟨m, hn.keeps hk⟩
  cel := fun x c e => let ⟨a, b, v, hv⟩ := S.cel x c e; ⟨a, b, v, isCell_keeps hv hk⟩
  inj := S.inj
  val := fun x p e => let ⟨v, hv, hr⟩ := S.val x p e; ⟨v, hv.keeps hk, hr.keeps hk⟩
  own := fun x l e => let ⟨a, hv, hx, hn, ⟨vs, hl, hr⟩, hs⟩ := S.own x l e
    ⟨a, hv.keeps hk, hx, hn, ⟨vs, hl.at (fun o => hk _ o), hr.keeps hk⟩, fun y l' e' hne hc => by
      obtain ⟨b, hb, _⟩ := S.own y l' e'
      have : Value.ref b = .ref a := (hb.keeps hk).fun hc
      cases this
      exact hs y l' e' hne hb⟩

theorem Sit.sub {env : Env} {ρ ρ' : PEnv} {X : List Addr} {h₀ h : Heap} (S : Sit env ρ X h₀ h) (hs : ∀ x sv, ρ'.lookup x = some sv → ρ.lookup x = some sv) : Sit env ρ' X h₀ h where
  kind := S.kind
  glob := S.glob
  blt := S.blt
  keep := S.keep
  live := S.live
  loc := S.loc
  locN := S.locN
  ns := S.ns
  cel := S.cel
  inj := S.inj
  val := fun x p e => S.val x p (hs _ _ e)
  own := fun x l e => let ⟨a, hv, hx, hn, hl, hd⟩ := S.own x l (hs _ _ e)
    ⟨a, hv, hx, hn, hl, fun y l' e' hne hc => hd y l' (hs _ _ e') hne hc⟩

/-- an expression hands back p; all that stood stands -/
noncomputable def Ev (prog : Program) (w : World) (A : Around) (env : Env) (h₀ : Heap) (ρ : PEnv) (e : Expr) (p : PV) : Prop :=
  ∀ X s, Sit env ρ X h₀ s.heap → wpAny (model prog w) A (eval e env) (fun v s' => Keeps s s' ∧ Rep s'.heap X v p) (fun _ _ => False) s
/-- it hands back a list that may be one of the frame's own -/
noncomputable def EvL (prog : Program) (w : World) (A : Around) (env : Env) (h₀ : Heap) (ρ : PEnv) (e : Expr) (l : List PV) : Prop :=
  ∀ X s, Sit env ρ X h₀ s.heap → wpAny (model prog w) A (eval e env) (fun v s' => Keeps s s' ∧ ∃ a, ∃ vs : List Value, v = .ref a ∧ s'.heap.IsList a vs.toArray ∧ Reps s'.heap X vs l) (fun _ _ => False) s
/-- a test -/
noncomputable def EvT (prog : Program) (w : World) (A : Around) (env : Env) (h₀ : Heap) (ρ : PEnv) (e : Expr) (b : Bool) : Prop :=
  ∀ X s, Sit env ρ X h₀ s.heap → wpAny (model prog w) A (isTrue e env (eval e env)) (fun c s' => Keeps s s' ∧ c = b) (fun _ _ => False) s
/-- arguments, items of a display -/
noncomputable def EvA (prog : Program) (w : World) (A : Around) (env : Env) (h₀ : Heap) (ρ : PEnv) (es : List Expr) (ps : List PV) : Prop :=
  ∀ X s pos, Sit env ρ X h₀ s.heap → wpAny (model prog w) A (spliced (backTo pos (starEach es env))) (fun vs s' => Keeps s s' ∧ Reps s'.heap X vs ps) (fun _ _ => False) s

section
variable {prog : Program} {w : World} {A : Around} {env : Env} {h₀ : Heap} {ρ : PEnv}

theorem wp_var {X : List Addr} {s : Shared} {x : Str} {v : Value} {pos : Pos} {Q : Value → Shared → Prop} {E : Value → Shared → Prop} (S : Sit env ρ X h₀ s.heap) (hv : Var env s.heap x v) (hd : (x == ("__debug__" : Str)) = false) (h : Q v s) :
    wpAny (model prog w) A (eval (.Name x pos) env) Q E s := by
  rcases hv with ⟨e, m, hn, hm⟩ | ⟨e, c, hc, hv⟩
  · exact wpAny_Name (wpAny_loadName_local S.kind e hn hm h) hd
  · exact wpAny_Name (wpAny_loadName_cell S.kind e hc hv h) hd

theorem Ev.var {x : Str} {p : PV} {pos : Pos} (e : ρ.lookup x = some (.val p)) (hd : (x == ("__debug__" : Str)) = false := by decide) : Ev prog w A env h₀ ρ (.Name x pos) p := fun X s S => by
  obtain ⟨v, hv, hr⟩ := S.val x p e
  exact wp_var S hv hd ⟨Kp.refl s, hr⟩
theorem EvL.own {x : Str} {l : List PV} {pos : Pos} (e : ρ.lookup x = some (.own l)) (hd : (x == ("__debug__" : Str)) = false := by decide) : EvL prog w A env h₀ ρ (.Name x pos) l := fun X s S => by
  obtain ⟨a, hv, _, _, ⟨vs, hl, hr⟩, _⟩ := S.own x l e
  exact wp_var S hv hd ⟨Kp.refl s, a, vs, rfl, hl.isList, hr⟩
theorem Ev.toL {e : Expr} {l : List PV} (h : Ev prog w A env h₀ ρ e (.list l)) : EvL prog w A env h₀ ρ e l := fun X s S =>
  wpAny_mono (h X s S) (fun v s' hq => by
    obtain ⟨k, hr⟩ := hq
    cases hr with
    | list hx hl hn hi => exact ⟨k, _, _, rfl, hl, hn, hi⟩) fun _ _ x => x

theorem Ev.int {i : Int} {k : Nat} {pos : Pos} : Ev prog w A env h₀ ρ (.Constant (.int i) k pos) (.int i) := fun X s S =>
  wpAny_Constant_int ⟨Kp.tok s _, .int _ _⟩
theorem Ev.str {x : Str} {k : Nat} {pos : Pos} (hx : x.length ≤ sizeLine := by decide +kernel) : Ev prog w A env h₀ ρ (.Constant (.str x) k pos) (.str x) := fun X s S =>
  wpAny_Constant_str ⟨Kp.tok s _, .str _ _⟩
theorem Ev.bool {b : Bool} {k : Nat} {pos : Pos} : Ev prog w A env h₀ ρ (.Constant (.bool b) k pos) (.bool b) := fun X s S =>
  Constant_bool ⟨Kp.refl s, .bool _⟩
/-- what stands of X at a call of a builtin -/
noncomputable def Live (X : List Addr) (h : Heap) : Prop := ∀ x ∈ X, ∃ o, h.get? x = some o
theorem Live.keeps {X : List Addr} {h h' : Heap} (l : Live X h) (hk : ∀ b o, h.get? b = some o → h'.get? b = some o) : Live X h' := fun x hx => let ⟨o, e⟩ := l x hx; ⟨o, hk _ _ e⟩
theorem Live.fresh {X : List Addr} {h : Heap} (l : Live X h) {a : Addr} (e : h.get? a = Option.none) : a ∉ X := fun hx => by
  obtain ⟨o, ho⟩ := l a hx; rw [e] at ho; cases ho
theorem get_size (h : Heap) : h.get? h.objs.size = Option.none := by
  cases e : h.get? h.objs.size with
  | none => rfl
  | some o => exact absurd (Heap.lt_size e) (Nat.lt_irrefl _)

noncomputable def Op2 (prog : Program) (w : World) (A : Around) (op : Operator) (a b c : PV) : Prop :=
  ∀ X s va vb, Live X s.heap → Rep s.heap X va a → Rep s.heap X vb b → wpAny (model prog w) A (binaryOp op va vb) (fun v s' => Keeps s s' ∧ Rep s'.heap X v c) (fun _ _ => False) s
noncomputable def Cmp (prog : Program) (w : World) (A : Around) (op : CmpOp) (a b : PV) (c : Bool) : Prop :=
  ∀ X s va vb, Live X s.heap → Rep s.heap X va a → Rep s.heap X vb b → wpAny (model prog w) A (compareOp op va vb) (fun v s' => Keeps s s' ∧ v = .bool c) (fun _ _ => False) s
/-- a call of a value -/
noncomputable def Fn (prog : Program) (w : World) (A : Around) (f : Value) (ps : List PV) (r : PV) : Prop :=
  ∀ X s vs, Live X s.heap → Reps s.heap X vs ps → wpAny (model prog w) A (call f vs) (fun v s' => Keeps s s' ∧ Rep s'.heap X v r) (fun _ _ => False) s

theorem Ev.binop {l r : Expr} {op : Operator} {pos : Pos} {a b c : PV} (hl : Ev prog w A env h₀ ρ l a) (hr : Ev prog w A env h₀ ρ r b) (ho : Op2 prog w A op a b c) : Ev prog w A env h₀ ρ (.BinOp l op r pos) c := fun X s S =>
  wpAny_BinOp (wpAny_mono (hl X s S) (fun va s₁ h₁ => wpAny_mono (hr X s₁ (S.keeps (Kp.hh h₁.1))) (fun vb s₂ h₂ =>
    wpAny_mono (ho X s₂ va vb (Live.keeps S.live (Kp.hh (Kp.trans h₁.1 h₂.1))) (h₁.2.keeps (Kp.hh h₂.1)) h₂.2) (fun v s₃ h₃ => ⟨Kp.trans (Kp.trans h₁.1 h₂.1) h₃.1, h₃.2⟩) fun _ _ x => x) fun _ _ x => x) fun _ _ x => x)
theorem Ev.cmp {l r : Expr} {op : CmpOp} {pos : Pos} {a b : PV} {c : Bool} (hl : Ev prog w A env h₀ ρ l a) (hr : Ev prog w A env h₀ ρ r b) (ho : Cmp prog w A op a b c) (hm : behindInMarks op r = false := by with_unfolding_all rfl) :
    Ev prog w A env h₀ ρ (.Compare l [op] [r] pos) (.bool c) := fun X s S =>
  wpAny_Compare1 (hm := hm) (wpAny_mono (hl X s S) (fun va s₁ h₁ => wpAny_mono (hr X s₁ (S.keeps (Kp.hh h₁.1))) (fun vb s₂ h₂ =>
    wpAny_mono (ho X s₂ va vb (Live.keeps S.live (Kp.hh (Kp.trans h₁.1 h₂.1))) (h₁.2.keeps (Kp.hh h₂.1)) h₂.2) (fun v s₃ h₃ => ⟨Kp.trans (Kp.trans h₁.1 h₂.1) h₃.1, by rw [h₃.2]; exact .bool _⟩) fun _ _ x => x) fun _ _ x => x) fun _ _ x => x)
/-- a comparison where the right side may be one of the frame's own lists -/
noncomputable def CmpL (prog : Program) (w : World) (A : Around) (op : CmpOp) (a : PV) (l : List PV) (c : Bool) : Prop :=
  ∀ X s va b (vs : List Value), Live X s.heap → Rep s.heap X va a → s.heap.IsList b vs.toArray → Reps s.heap X vs l → wpAny (model prog w) A (compareOp op va (.ref b)) (fun v s' => Keeps s s' ∧ v = .bool c) (fun _ _ => False) s
theorem EvA.nil : EvA prog w A env h₀ ρ [] [] := fun X s pos S => args_nil ⟨Kp.refl s, Reps.nil⟩
theorem EvA.cons {e : Expr} {es : List Expr} {p : PV} {ps : List PV} (h : Ev prog w A env h₀ ρ e p) (hs : EvA prog w A env h₀ ρ es ps) (he : starEach (e :: es) env = (false, eval e env) :: starEach es env := by rfl) :
    EvA prog w A env h₀ ρ (e :: es) (p :: ps) := fun X s pos S =>
  args_cons (he := he) (wpAny_mono (h X s S) (fun v s₁ h₁ => wpAny_mono (hs X s₁ pos (S.keeps (Kp.hh h₁.1))) (fun vs s₂ h₂ => ⟨Kp.trans h₁.1 h₂.1, Reps.cons (h₁.2.keeps (Kp.hh h₂.1)) h₂.2⟩) fun _ _ x => x) fun _ _ x => x)

theorem Ev.list {es : List Expr} {pos : Pos} {ps : List PV} (h : EvA prog w A env h₀ ρ es ps) (hsz : ps.length ≤ sizeLine := by first | decide | size_fits) : Ev prog w A env h₀ ρ (.List es pos) (.list ps) := fun X s S =>
  List_ (wpAny_mono (h X s pos S) (fun vs s₁ h₁ => wpAny_newObj_type (by
    have hf : (s₁.heap.objs.size) ∉ X := Live.fresh (Live.keeps S.live (Kp.hh h₁.1)) (get_size _)
    exact ⟨Kp.trans h₁.1 (Kp.push s₁ _ _), .list hf ⟨_, Heap.get?_push_size _ rfl, rfl, _, rfl⟩ h₁.2.1 fun i v p hv hp => (h₁.2.2 i v p hv hp).keeps fun b o e => Heap.get?_push_of_some _ e⟩)
    (by show vs.toArray.size ≤ sizeLine; rw [List.size_toArray, h₁.2.1]; exact hsz)) fun _ _ x => x)
theorem Ev.tuple {es : List Expr} {k : Nat} {pos : Pos} {ps : List PV} (h : EvA prog w A env h₀ ρ es ps) (hsz : ps.length ≤ sizeLine := by first | decide | size_fits) : Ev prog w A env h₀ ρ (.Tuple es k pos) (.tuple ps) := fun X s S =>
  Tuple_ (wpAny_mono (h X s pos S) (fun vs s₁ h₁ => wpAny_newObj_type (by
    have hf : (s₁.heap.objs.size) ∉ X := Live.fresh (Live.keeps S.live (Kp.hh h₁.1)) (get_size _)
    exact ⟨Kp.trans h₁.1 (Kp.push s₁ _ _), .tuple hf ⟨_, Heap.get?_push_size _ rfl, rfl, _, rfl⟩ h₁.2.1 fun i v p hv hp => (h₁.2.2 i v p hv hp).keeps fun b o e => Heap.get?_push_of_some _ e⟩)
    (by show vs.toArray.size ≤ sizeLine; rw [List.size_toArray, h₁.2.1]; exact hsz)) fun _ _ x => x)
end
end

-- L3
section
open PySem PySem.W PyProof.Rows PySem.Calls
set_option maxRecDepth 10000
theorem isEmpty_len {vs : List Value} {l : List PV} (h : vs.length = l.length) : (!vs.toArray.isEmpty) = !l.isEmpty := by
  cases l with
  | nil => simp at h; subst h; rfl
  | cons p l => cases vs with
    | nil => simp at h
    | cons v vs => simp


/-- a name of the top, or a built-in one -/
noncomputable def Glob (h₀ : Heap) (x : Str) (v : Value) : Prop :=
  (∃ mg, h₀.Ns mainGlobals mg ∧ mg x = some v) ∨ (∃ mg mb, h₀.Ns mainGlobals mg ∧ mg x = Option.none ∧ h₀.Ns builtinsNs mb ∧ mb x = some v)
noncomputable def IsFun (h₀ : Heap) (f : Addr) : Prop := ∃ o fd, h₀.get? f = some o ∧ o.data = .func fd

section
variable {prog : Program} {w : World} {A : Around} {env : Env} {h₀ : Heap} {ρ : PEnv}

theorem wp_glob {X : List Addr} {s : Shared} {x : Str} {v : Value} {pos : Pos} {Q : Value → Shared → Prop} {E : Value → Shared → Prop} (S : Sit env ρ X h₀ s.heap) (hg : Glob h₀ x v) (hk : env.kindOf x = some .globalImplicit)
    (hd : (x == ("__debug__" : Str)) = false) (h : Q v s) : wpAny (model prog w) A (eval (.Name x pos) env) Q E s := by
  rcases hg with ⟨mg, hn, hm⟩ | ⟨mg, mb, hn, hm, hb, hv⟩
  · exact Name_function_global S.kind hk (loadGlobal_global (by rw [S.glob]; exact hn.keeps S.keep) hm h) hd
  · exact Name_function_global S.kind hk (loadGlobal_builtin (by rw [S.glob]; exact hn.keeps S.keep) hm (by rw [S.blt]; exact hb.keeps S.keep) hv h) hd

theorem Ev.callB {x : Str} {np pos : Pos} {e : Expr} {es : List Expr} {id : String} {ps : List PV} {r : PV} (hg : Glob h₀ x (.builtin id)) (ha : EvA prog w A env h₀ ρ (e :: es) ps) (hf : Fn prog w A (.builtin id) ps r)
    (hk : env.kindOf x = some .globalImplicit := by with_unfolding_all rfl) (hd : (x == ("__debug__" : Str)) = false := by decide)
    (he : starEach (e :: es) env = (false, eval e env) :: starEach es env := by rfl) (hp : ∀ pos, (backTo pos (starEach es env)).any (·.1) = false := by intro _; rfl) :
    Ev prog w A env h₀ ρ (.Call (.Name x np) (e :: es) [] pos) r := fun X s S =>
  Call_ (wp_glob S hg hk hd (callWith_method1 (first := []) (he := he) (hplain := hp pos) (wpAny_mono (ha X s pos S) (fun vs s₁ h₁ =>
    wpAny_mono (hf X s₁ vs (Live.keeps S.live (Kp.hh h₁.1)) h₁.2) (fun v s₂ h₂ => ⟨Kp.trans h₁.1 h₂.1, h₂.2⟩) fun _ _ x => x) fun _ _ x => x)))

theorem callWith_ty {pos : Pos} {T : String} {e : Expr} {rest : List Expr} {s : Shared} {Q : Value → Shared → Prop} {E : Value → Shared → Prop}
    (h : wpAny (model prog w) A (spliced (backTo pos (starEach (e :: rest) env))) (fun vs s₁ => wpAny (model prog w) A (call (.type T) vs) Q E s₁) E s)
    (he : starEach (e :: rest) env = (false, eval e env) :: starEach rest env) (hplain : (backTo pos (starEach rest env)).any (·.1) = false) :
    wpAny (model prog w) A (callWith pos (.type T) [] (backTo pos (starEach (e :: rest) env)) []) Q E s := by
  rw [he] at h ⊢
  exact PySem.callWith_type (by show (false || (backTo pos (starEach rest env)).any (·.1)) = false; rw [hplain]; rfl) (evalArgs_plain h)

theorem Ev.callTy {x : Str} {np pos : Pos} {e : Expr} {es : List Expr} {T : String} {ps : List PV} {r : PV} (hg : Glob h₀ x (.type T)) (ha : EvA prog w A env h₀ ρ (e :: es) ps) (hf : Fn prog w A (.type T) ps r)
    (hk : env.kindOf x = some .globalImplicit := by with_unfolding_all rfl) (hd : (x == ("__debug__" : Str)) = false := by decide)
    (he : starEach (e :: es) env = (false, eval e env) :: starEach es env := by rfl) (hp : ∀ pos, (backTo pos (starEach es env)).any (·.1) = false := by intro _; rfl) :
    Ev prog w A env h₀ ρ (.Call (.Name x np) (e :: es) [] pos) r := fun X s S =>
  Call_ (wp_glob S hg hk hd (callWith_ty (he := he) (hplain := hp pos) (wpAny_mono (ha X s pos S) (fun vs s₁ h₁ =>
    wpAny_mono (hf X s₁ vs (Live.keeps S.live (Kp.hh h₁.1)) h₁.2) (fun v s₂ h₂ => ⟨Kp.trans h₁.1 h₂.1, h₂.2⟩) fun _ _ x => x) fun _ _ x => x)))

/-- a def's contract: from any state above h₀ -/
noncomputable def FnD (prog : Program) (w : World) (A : Around) (h₀ : Heap) (f : Addr) (ps : List PV) (r : PV) : Prop :=
  ∀ X s vs, (∀ b o, h₀.get? b = some o → s.heap.get? b = some o) → Live X s.heap → Reps s.heap X vs ps → wpAny (model prog w) A (call (.ref f) vs) (fun v s' => Keeps s s' ∧ Rep s'.heap X v r) (fun _ _ => False) s

theorem Ev.callD {x : Str} {np pos : Pos} {e : Expr} {es : List Expr} {f : Addr} {ps : List PV} {r : PV} (hg : Glob h₀ x (.ref f)) (hi : IsFun h₀ f) (ha : EvA prog w A env h₀ ρ (e :: es) ps) (hf : FnD prog w A h₀ f ps r)
    (hk : env.kindOf x = some .globalImplicit := by with_unfolding_all rfl) (hd : (x == ("__debug__" : Str)) = false := by decide)
    (he : starEach (e :: es) env = (false, eval e env) :: starEach es env := by rfl) :
    Ev prog w A env h₀ ρ (.Call (.Name x np) (e :: es) [] pos) r := fun X s S => by
  obtain ⟨o, fd, ho, hd'⟩ := hi
  exact Call_ (wp_glob S hg hk hd (callWith_def (he := he) hd' (wpAny_mono (ha X s pos S) (fun vs s₁ h₁ =>
    ⟨Kp.hh h₁.1 _ _ (S.keep _ _ ho), wpAny_mono (hf X s₁ vs (fun b o e => Kp.hh h₁.1 _ _ (S.keep _ _ e)) (Live.keeps S.live (Kp.hh h₁.1)) h₁.2) (fun v s₂ h₂ => ⟨Kp.trans h₁.1 h₂.1, h₂.2⟩) fun _ _ x => x⟩) fun _ _ x => x)))

/-- a built-in method of a value -/
noncomputable def Mth (prog : Program) (w : World) (A : Around) (p : PV) (name : Str) (id : String) : Prop :=
  ∀ X s v (pl : Sem Bool) (Q : Value × List Value → Shared → Prop) (E : Value → Shared → Prop), Rep s.heap X v p → Q (.builtin id, [v]) s → wpAny (model prog w) A (getMethod v name pl) Q E s

theorem Mth.str {x name : Str} {id : String} (slot : Slot "str" name id) (hty : typeOf (.builtin id) = pure (.type "method_descriptor")) : Mth prog w A (.str x) name id := fun X s v pl Q E hr h => by
  cases hr with
  | str x t => exact getMethod_builtin (typeIs_str s x t) PySem.F.plainAttrs_str slot hty (fun a e => by cases e) h

theorem Ev.callM {o : Expr} {name : Str} {apos pos : Pos} {e : Expr} {es : List Expr} {id : String} {p : PV} {ps : List PV} {r : PV} (ho : Ev prog w A env h₀ ρ o p) (hm : Mth prog w A p name id)
    (ha : EvA prog w A env h₀ ρ (e :: es) ps) (hf : Fn prog w A (.builtin id) (p :: ps) r) {pl : Sem Bool}
    (hc : eval (.Call (.Attribute o name apos) (e :: es) [] pos) env = (do
      let ov ← eval o env
      standAt apos.atName
      let (f, first) ← holding [ov] (getMethod ov name pl)
      callWith pos f first (backTo pos (starEach (e :: es) env)) []) := by rfl)
    (he : starEach (e :: es) env = (false, eval e env) :: starEach es env := by rfl) (hp : ∀ pos, (backTo pos (starEach es env)).any (·.1) = false := by intro _; rfl) :
    Ev prog w A env h₀ ρ (.Call (.Attribute o name apos) (e :: es) [] pos) r := fun X s S =>
  MethodCall_ (he := hc) (wpAny_mono (ho X s S) (fun ov s₁ h₁ => hm X s₁ ov pl _ _ h₁.2
    (callWith_method1 (first := [ov]) (he := he) (hplain := hp pos) (wpAny_mono (ha X s₁ pos (S.keeps (Kp.hh h₁.1))) (fun vs s₂ h₂ =>
      wpAny_mono (hf X s₂ (ov :: vs) (Live.keeps S.live (Kp.hh (Kp.trans h₁.1 h₂.1))) (Reps.cons (h₁.2.keeps (Kp.hh h₂.1)) h₂.2)) (fun v s₃ h₃ => ⟨Kp.trans (Kp.trans h₁.1 h₂.1) h₃.1, h₃.2⟩) fun _ _ x => x) fun _ _ x => x))) fun _ _ x => x)

/-- truth -/
noncomputable def Tru (prog : Program) (w : World) (A : Around) (p : PV) (b : Bool) : Prop :=
  ∀ X s v, Rep s.heap X v p → wpAny (model prog w) A (truthy v) (fun c s' => Keeps s s' ∧ c = b) (fun _ _ => False) s
theorem Tru.bool {b : Bool} : Tru prog w A (.bool b) b := fun X s v hr => by
  cases hr with
  | bool b => exact wpAny_truthy_bool ⟨Kp.refl s, rfl⟩
theorem Tru.int {i : Int} : Tru prog w A (.int i) (i != 0) := fun X s v hr => by
  cases hr with
  | int i t => exact PySem.P.truthy_int ⟨Kp.refl s, rfl⟩
theorem Tru.str {x : Str} (hx : x.length ≤ sizeLine := by decide +kernel) : Tru prog w A (.str x) ((x.length : Int) != 0) := fun X s v hr => by
  cases hr with
  | str x t => exact PySem.P.truthy_str (by have := sizeLine_eq; omega) ⟨Kp.tok s _, rfl⟩
theorem Tru.list {l : List PV} (hx : l.length ≤ sizeLine) : Tru prog w A (.list l) (!l.isEmpty) := fun X s v hr => by
  cases hr with
  | list _ hl hn _ =>
    refine wpAny_truthy_list hl (by have := sizeLine_eq; simp; omega) ⟨Kp.tok s _, isEmpty_len hn⟩
theorem Tru.tuple {l : List PV} (hx : l.length ≤ sizeLine) : Tru prog w A (.tuple l) (!l.isEmpty) := fun X s v hr => by
  cases hr with
  | tuple _ hl hn _ =>
    refine truthy_tuple hl (by have := sizeLine_eq; simp; omega) ⟨Kp.tok s _, isEmpty_len hn⟩

theorem EvT.plain {e : Expr} {p : PV} {b : Bool} (h : Ev prog w A env h₀ ρ e p) (ht : Tru prog w A p b) (he : ∀ whole, isTrue e env whole = (do let v ← whole; standAt e.pos; holding [v] (truthy v)) := by intro _; rfl) : EvT prog w A env h₀ ρ e b := fun X s S =>
  isTrue_plain (he := he _) (wpAny_mono (h X s S) (fun v s₁ h₁ => wpAny_mono (ht X s₁ v h₁.2) (fun c s₂ h₂ => ⟨Kp.trans h₁.1 h₂.1, h₂.2⟩) fun _ _ x => x) fun _ _ x => x)
theorem EvT.not {e : Expr} {pos : Pos} {b : Bool} (h : EvT prog w A env h₀ ρ e b) : EvT prog w A env h₀ ρ (.UnaryOp .Not e pos) (!b) := fun X s S =>
  isTrue_not (wpAny_mono (h X s S) (fun c s₁ h₁ => ⟨h₁.1, by rw [h₁.2]⟩) fun _ _ x => x)
theorem EvT.and {e₁ e₂ : Expr} {pos : Pos} {b₁ b₂ : Bool} (h₁ : EvT prog w A env h₀ ρ e₁ b₁) (h₂ : b₁ = true → EvT prog w A env h₀ ρ e₂ b₂) : EvT prog w A env h₀ ρ (.BoolOp .And [e₁, e₂] pos) (b₁ && b₂) := fun X s S =>
  isTrue_and (wpAny_mono (h₁ X s S) (fun c s₁ hc => by
    obtain ⟨k, rfl⟩ := hc
    cases c with
    | false => exact ⟨k, rfl⟩
    | true =>
      refine isTrue_and (wpAny_mono (h₂ rfl X s₁ (S.keeps (Kp.hh k))) (fun c' s₂ hc' => ?_) fun _ _ x => x)
      obtain ⟨k', rfl⟩ := hc'
      cases c' with
      | false => exact ⟨Kp.trans k k', rfl⟩
      | true => exact isTrue_and_nil ⟨Kp.trans k k', rfl⟩) fun _ _ x => x)
theorem EvT.or {e₁ e₂ : Expr} {pos : Pos} {b₁ b₂ : Bool} (h₁ : EvT prog w A env h₀ ρ e₁ b₁) (h₂ : b₁ = false → EvT prog w A env h₀ ρ e₂ b₂) : EvT prog w A env h₀ ρ (.BoolOp .Or [e₁, e₂] pos) (b₁ || b₂) := fun X s S =>
  isTrue_or (wpAny_mono (h₁ X s S) (fun c s₁ hc => by
    obtain ⟨k, rfl⟩ := hc
    cases c with
    | true => exact ⟨k, rfl⟩
    | false =>
      refine isTrue_or (wpAny_mono (h₂ rfl X s₁ (S.keeps (Kp.hh k))) (fun c' s₂ hc' => ?_) fun _ _ x => x)
      obtain ⟨k', rfl⟩ := hc'
      cases c' with
      | true => exact ⟨Kp.trans k k', rfl⟩
      | false => exact isTrue_or_nil ⟨Kp.trans k k', rfl⟩) fun _ _ x => x)
theorem EvT.cmp {l r : Expr} {op : CmpOp} {pos : Pos} {a b : PV} {c : Bool} (hl : Ev prog w A env h₀ ρ l a) (hr : Ev prog w A env h₀ ρ r b) (ho : Cmp prog w A op a b c) (hm : behindInMarks op r = false := by with_unfolding_all rfl) :
    EvT prog w A env h₀ ρ (.Compare l [op] [r] pos) c := fun X s S =>
  wpAny_isTrue_Compare1 (hm := hm) (wpAny_mono (hl X s S) (fun va s₁ h₁ => wpAny_mono (hr X s₁ (S.keeps (Kp.hh h₁.1))) (fun vb s₂ h₂ =>
    wpAny_mono (ho X s₂ va vb (Live.keeps S.live (Kp.hh (Kp.trans h₁.1 h₂.1))) (h₁.2.keeps (Kp.hh h₂.1)) h₂.2) (fun v s₃ h₃ => by
      obtain ⟨k, rfl⟩ := h₃
      exact wpAny_truthy_bool ⟨Kp.trans (Kp.trans h₁.1 h₂.1) k, rfl⟩) fun _ _ x => x) fun _ _ x => x) fun _ _ x => x)
theorem EvT.cmpL {l r : Expr} {op : CmpOp} {pos : Pos} {a : PV} {ps : List PV} {c : Bool} (hl : Ev prog w A env h₀ ρ l a) (hr : EvL prog w A env h₀ ρ r ps) (ho : CmpL prog w A op a ps c) (hm : behindInMarks op r = false := by with_unfolding_all rfl) :
    EvT prog w A env h₀ ρ (.Compare l [op] [r] pos) c := fun X s S =>
  wpAny_isTrue_Compare1 (hm := hm) (wpAny_mono (hl X s S) (fun va s₁ h₁ => wpAny_mono (hr X s₁ (S.keeps (Kp.hh h₁.1))) (fun vb s₂ h₂ => by
    obtain ⟨k₂, b, vs, rfl, hlst, hrs⟩ := h₂
    exact wpAny_mono (ho X s₂ va b vs (Live.keeps S.live (Kp.hh (Kp.trans h₁.1 k₂))) (h₁.2.keeps (Kp.hh k₂)) hlst hrs) (fun v s₃ h₃ => by
      obtain ⟨k, rfl⟩ := h₃
      exact wpAny_truthy_bool ⟨Kp.trans (Kp.trans h₁.1 k₂) k, rfl⟩) fun _ _ x => x) fun _ _ x => x) fun _ _ x => x)

theorem Ev.ifExp {t b o : Expr} {pos : Pos} {c : Bool} {p : PV} (ht : EvT prog w A env h₀ ρ t c) (hb : c = true → Ev prog w A env h₀ ρ b p) (ho : c = false → Ev prog w A env h₀ ρ o p) : Ev prog w A env h₀ ρ (.IfExp t b o pos) p := fun X s S =>
  IfExp_ (wpAny_mono (ht X s S) (fun c' s₁ h₁ => by
    obtain ⟨k, rfl⟩ := h₁
    cases c' with
    | true => exact wpAny_mono (hb rfl X s₁ (S.keeps (Kp.hh k))) (fun v s₂ h₂ => ⟨Kp.trans k h₂.1, h₂.2⟩) fun _ _ x => x
    | false => exact wpAny_mono (ho rfl X s₁ (S.keeps (Kp.hh k))) (fun v s₂ h₂ => ⟨Kp.trans k h₂.1, h₂.2⟩) fun _ _ x => x) fun _ _ x => x)
theorem Ev.not {e : Expr} {pos : Pos} {p : PV} {b : Bool} (h : Ev prog w A env h₀ ρ e p) (ht : Tru prog w A p b) : Ev prog w A env h₀ ρ (.UnaryOp .Not e pos) (.bool (!b)) := fun X s S =>
  UnaryOp_ (wpAny_mono (h X s S) (fun v s₁ h₁ => not_of (wpAny_mono (ht X s₁ v h₁.2) (fun c s₂ h₂ => ⟨Kp.trans h₁.1 h₂.1, by rw [h₂.2]; exact .bool _⟩) fun _ _ x => x)) fun _ _ x => x)
theorem Ev.and {e₁ e₂ : Expr} {pos : Pos} {p₁ p₂ : PV} {b : Bool} (h₁ : Ev prog w A env h₀ ρ e₁ p₁) (ht : Tru prog w A p₁ b) (h₂ : b = true → Ev prog w A env h₀ ρ e₂ p₂) : Ev prog w A env h₀ ρ (.BoolOp .And [e₁, e₂] pos) (if b then p₂ else p₁) := fun X s S =>
  BoolOp_and (wpAny_mono (h₁ X s S) (fun v s₁ hv => wpAny_mono (ht X s₁ v hv.2) (fun c s₂ hc => by
    obtain ⟨k, rfl⟩ := hc
    cases c with
    | false => exact ⟨Kp.trans hv.1 k, hv.2.keeps (Kp.hh k)⟩
    | true => exact BoolOp_one (wpAny_mono (h₂ rfl X s₂ (S.keeps (Kp.hh (Kp.trans hv.1 k)))) (fun u s₃ hu => ⟨Kp.trans (Kp.trans hv.1 k) hu.1, hu.2⟩) fun _ _ x => x)) fun _ _ x => x) fun _ _ x => x)

/-- an item, a slice -/
noncomputable def Idx (prog : Program) (w : World) (A : Around) (p i r : PV) : Prop :=
  ∀ X s va vi, Live X s.heap → Rep s.heap X va p → Rep s.heap X vi i → ∃ T id, s.TypeIs va T ∧ typeLookup (.type T) "__getitem__" = pure (some (.builtin id)) ∧
    wpAny (model prog w) A (getItem va vi) (fun v s' => Keeps s s' ∧ Rep s'.heap X v r) (fun _ _ => False) s
theorem Ev.item {e i : Expr} {pos : Pos} {p k r : PV} (he : Ev prog w A env h₀ ρ e p) (hi : Ev prog w A env h₀ ρ i k) (hx : Idx prog w A p k r)
    (hs : ∀ o j, subscripted i false o j = operate [o, j] (getItem o j) := by intro _ _; rfl) : Ev prog w A env h₀ ρ (.Subscript e i pos) r := fun X s S =>
  Subscript_ (wpAny_mono (he X s S) (fun va s₁ h₁ => wpAny_mono (hi X s₁ (S.keeps (Kp.hh h₁.1))) (fun vi s₂ h₂ => by
    obtain ⟨T, id, hT, hl, hg⟩ := hx X s₂ va vi (Live.keeps S.live (Kp.hh (Kp.trans h₁.1 h₂.1))) (h₁.2.keeps (Kp.hh h₂.1)) h₂.2
    exact tail_any hT hl (wpAny_mono hg (fun v s₃ h₃ => ⟨Kp.trans (Kp.trans h₁.1 h₂.1) h₃.1, h₃.2⟩) fun _ _ x => x) (hs _ _)) fun _ _ x => x) fun _ _ x => x)
/-- of a list that may be the frame's own -/
theorem Ev.itemL {e i : Expr} {pos : Pos} {l : List PV} {k : Int} {r : PV} (he : EvL prog w A env h₀ ρ e l) (hi : Ev prog w A env h₀ ρ i (.int k)) (h0 : 0 ≤ k) (h1 : k < 2 ^ 63) (hx : l[k.toNat]? = some r)
    (hs : ∀ o j, subscripted i false o j = operate [o, j] (getItem o j) := by intro _ _; rfl) : Ev prog w A env h₀ ρ (.Subscript e i pos) r := fun X s S =>
  Subscript_ (wpAny_mono (he X s S) (fun va s₁ h₁ => by
    obtain ⟨k₁, a, vs, rfl, hl, hr⟩ := h₁
    refine wpAny_mono (hi X s₁ (S.keeps (Kp.hh k₁))) (fun vi s₂ h₂ => ?_) fun _ _ x => x
    obtain ⟨k₂, hk⟩ := h₂
    cases hk with
    | int k t =>
      obtain ⟨v, hv, hvr⟩ := hr.get hx
      have hl' := hl.at fun o => Kp.hh k₂ _ o
      exact tail_any hl'.typeIs slot_list_getitem.lookup (wpAny_getItem_list hl' h0 h1 (by simpa using hv) ⟨Kp.trans k₁ k₂, hvr.keeps (Kp.hh k₂)⟩) (hs _ _)) fun _ _ x => x)
/-- a negative place -/
theorem Ev.itemN {e i : Expr} {pos : Pos} {l : List PV} {k : Int} {r : PV} (he : EvL prog w A env h₀ ρ e l) (hi : Ev prog w A env h₀ ρ i (.int k)) (h0 : k < 0) (h1 : -(l.length : Int) ≤ k) (hf : -(2 ^ 63) ≤ k) (hx : l[(k + l.length).toNat]? = some r)
    (hs : ∀ o j, subscripted i false o j = operate [o, j] (getItem o j) := by intro _ _; rfl) : Ev prog w A env h₀ ρ (.Subscript e i pos) r := fun X s S =>
  Subscript_ (wpAny_mono (he X s S) (fun va s₁ h₁ => by
    obtain ⟨k₁, a, vs, rfl, hl, hr⟩ := h₁
    refine wpAny_mono (hi X s₁ (S.keeps (Kp.hh k₁))) (fun vi s₂ h₂ => ?_) fun _ _ x => x
    obtain ⟨k₂, hk⟩ := h₂
    cases hk with
    | int k t =>
      obtain ⟨v, hv, hvr⟩ := hr.get hx
      have hl' := hl.at fun o => Kp.hh k₂ _ o
      exact tail_any hl'.typeIs slot_list_getitem.lookup (wpAny_getItem_list_neg hl' h0 (by simpa [hr.1] using h1) hf (by simpa [hr.1] using hv) ⟨Kp.trans k₁ k₂, hvr.keeps (Kp.hh k₂)⟩) (hs _ _)) fun _ _ x => x)
theorem Idx.tuple {l : List PV} {k : Int} {j : Nat} {r : PV} (hlo : -(2 ^ 63) ≤ k) (hhi : k < 2 ^ 63) (hj : seqIndex? k l.length = some j) (hx : l[j]? = some r) : Idx prog w A (.tuple l) (.int k) r := fun X s va vi L ha hk => by
  cases ha with
  | tuple hX ht hn hi =>
    cases hk with
    | int k t =>
      obtain ⟨v, hv, hvr⟩ := Reps.get ⟨hn, hi⟩ hx
      exact ⟨_, _, ht.typeIs, slot_tuple_getitem.lookup, PyProof.Rows.getItem_tuple ht hlo hhi (by simpa [hn] using hj) (by simpa using hv) ⟨Kp.refl s, hvr⟩⟩
theorem Idx.str {x : Str} {k : Int} {c : Nat} (hr : (decide (k < -(2 ^ 63 : Int)) || decide (k ≥ 2 ^ 63)) = false) (hc : (seqIndex? k x.length).bind (x.cps[·]?) = some c) : Idx prog w A (.str x) (.int k) (.str ⟨#[c]⟩) := fun X s va vi L ha hk => by
  cases ha with
  | str x t =>
    cases hk with
    | int k u => exact ⟨_, _, typeIs_str s x t, PySem.F.slot_str_getitem.lookup, PySem.P.getItem_str hr hc ⟨Kp.tok s _, .str _ _⟩⟩
end
end

-- L4
section
open PySem PySem.W PyProof.Rows PySem.Calls
set_option maxRecDepth 10000
section
variable {prog : Program} {w : World} {A : Around} {env : Env} {h₀ : Heap} {ρ ρc : PEnv}

/-- what an iterator hands on: the items, laid before it was made -/
structure Source (prog : Program) (w : World) (A : Around) (X : List Addr) (l : List PV) (h h₂ : Heap) (I : Addr) (fp wr : List Addr) (P : Nat → Value → Prop) (St : Nat → Heap → Prop) : Prop where
  walks : Walks prog w A I fp wr l.length P St
  start : St 0 h₂
  low : ∀ b ∈ fp, b < h₂.objs.size
  new : ∀ b ∈ wr, h.get? b = Option.none
  off : ∀ b ∈ fp, b ∉ X
  fpl : ∀ b ∈ fp, ∃ o, h₂.get? b = some o
  slive : ∀ i h, St i h → ∀ b ∈ wr, ∃ o, h.get? b = some o ∧ o.cls ≠ .type "list" ∧ o.cls ≠ .type "tuple"
  still : ∀ i h, St i h → ∀ b ∈ wr, ∀ o, h.get? b = some o → Still o
  icls : ∀ i h, St i h → ∃ o n, h.get? I = some o ∧ o.cls = .type n ∧ ["enumerate", "zip", "dict_itemiterator", "dict_reverseitemiterator", "odict_iterator", "itertools.zip_longest", "itertools.pairwise"].contains n = false
  items : ∃ h₁ : Heap, (∀ b o, h₁.get? b = some o → h₂.get? b = some o) ∧ (∀ b ∈ wr, h₁.get? b = Option.none) ∧ ∀ i v, i < l.length → P i v → ∃ p, l[i]? = some p ∧ Rep h₁ X v p

noncomputable def EvIt (prog : Program) (w : World) (A : Around) (env : Env) (h₀ : Heap) (ρ : PEnv) (e : Expr) (l : List PV) : Prop :=
  ∀ X s, Sit env ρ X h₀ s.heap → wpAny (model prog w) A (eval e env) (fun xv s₁ => wpAny (model prog w) A (pyIter xv) (fun it s₂ => Keeps s s₂ ∧ ∃ I fp wr P St, it = .ref I ∧ Source prog w A X l s.heap s₂.heap I fp wr P St) (fun _ _ => False) s₁) (fun _ _ => False) s

noncomputable def EvTs (prog : Program) (w : World) (A : Around) (env : Env) (h₀ : Heap) (ρ : PEnv) (ifs : List Expr) (b : Bool) : Prop :=
  ∀ X s, Sit env ρ X h₀ s.heap → wpAny (model prog w) A (forIn ifs true fun c r => if r = true then do let ok ← isTrue c env (eval c env); pure (ForInStep.yield ok) else pure (ForInStep.yield r)) (fun c s' => Keeps s s' ∧ c = b) (fun _ _ => False) s
theorem EvTs.nil : EvTs prog w A env h₀ ρ [] true := fun X s S => wpAny_tests_nil ⟨Kp.refl s, rfl⟩
theorem EvTs.one {t : Expr} {b : Bool} (h : EvT prog w A env h₀ ρ t b) : EvTs prog w A env h₀ ρ [t] b := fun X s S => wpAny_tests_one (h X s S)

inductive Cap (scope : Scope) (env : Env) (cl : List (Str × Addr)) (ρ : PEnv) : PEnv → Prop
  | nil : Cap scope env cl ρ []
  | cons {y : Str} {p : PV} {r : PEnv} : ρ.lookup y = some (.val p) → (relabel scope env).names.lookup y = some .cell → env.kindOf y = some .cell → cl.lookup y = env.cells.lookup y → Cap scope env cl ρ r → Cap scope env cl ρ ((y, .val p) :: r)
theorem Cap.get {scope : Scope} {cl : List (Str × Addr)} (c : Cap scope env cl ρ ρc) : ∀ y sv, ρc.lookup y = some sv → ∃ p, sv = .val p ∧ ρ.lookup y = some (.val p) ∧ (relabel scope env).names.lookup y = some .cell ∧ env.kindOf y = some .cell ∧ cl.lookup y = env.cells.lookup y := by
  induction c with
  | nil => intro y sv h; simp at h
  | @cons z p r h1 h2 h3 h4 _ ih =>
    intro y sv h
    rw [List.lookup_cons] at h
    cases q : y == z with
    | true =>
      rw [q] at h
      obtain rfl : y = z := by simpa using q
      cases h
      exact ⟨p, rfl, h1, h2, h3, h4⟩
    | false => rw [q] at h; exact ih y sv h

end
end

-- L5
section
open PySem PySem.W PyProof.Rows PySem.Calls
set_option maxRecDepth 10000
section
variable {prog : Program} {w : World} {A : Around} {env : Env} {h₀ : Heap} {ρ ρc : PEnv}

end
end

-- L6
section
open PySem PySem.W PyProof.Rows PySem.Calls
set_option maxRecDepth 10000

inductive PF where
  | next | brk | cont
  | ret (p : PV)
noncomputable def FlowIs (h : Heap) (X : List Addr) : Flow → PF → Prop
  | .next, .next => True
  | .brk, .brk => True
  | .cont, .cont => True
  | .ret v, .ret p => Rep h X v p
  | _, _ => False

/-- where a statement's run ends -/
noncomputable def Ends (env : Env) (h₀ : Heap) (X₀ X : List Addr) (Q : PF → PEnv → Prop) (s : Shared) (f : Flow) (s' : Shared) : Prop :=
  (∃ h' tk, s' = { s with heap := h', toks := tk }) ∧ (∀ a o, a ∉ X → s.heap.get? a = some o → s'.heap.get? a = some o) ∧
  ∃ pf ρ' X', Q pf ρ' ∧ (∀ x ∈ X₀, x ∈ X') ∧ Sit env ρ' X' h₀ s'.heap ∧ (∀ a, a ∈ X' → a ∈ X ∨ s.heap.get? a = Option.none) ∧ FlowIs s'.heap X₀ f pf

noncomputable def Tr (prog : Program) (w : World) (A : Around) (env : Env) (h₀ : Heap) (X₀ : List Addr) (ρ : PEnv) (ss : List Stmt) (Q : PF → PEnv → Prop) : Prop :=
  ∀ X s, (∀ x ∈ X₀, x ∈ X) → Sit env ρ X h₀ s.heap → wpAny (model prog w) A (execs ss env) (Ends env h₀ X₀ X Q s) (fun _ _ => False) s
noncomputable def TrS (prog : Program) (w : World) (A : Around) (env : Env) (h₀ : Heap) (X₀ : List Addr) (ρ : PEnv) (st : Stmt) (Q : PF → PEnv → Prop) : Prop :=
  ∀ X s, (∀ x ∈ X₀, x ∈ X) → Sit env ρ X h₀ s.heap → wpAny (model prog w) A (exec st env) (Ends env h₀ X₀ X Q s) (fun _ _ => False) s

/-- goes on from s₁ to s' -/
theorem Ends.after {env : Env} {h₀ : Heap} {X₀ X X₁ : List Addr} {Q : PF → PEnv → Prop} {s s₁ s' : Shared} {f : Flow} (e : Ends env h₀ X₀ X₁ Q s₁ f s') (hs : ∃ h' tk, s₁ = { s with heap := h', toks := tk })
    (hk : ∀ a o, a ∉ X → s.heap.get? a = some o → s₁.heap.get? a = some o) (hx : ∀ a, a ∈ X₁ → a ∈ X ∨ s.heap.get? a = Option.none) : Ends env h₀ X₀ X Q s f s' := by
  obtain ⟨⟨h', tk, rfl⟩, hk', pf, ρ', X', hq, h0, hS, hx', hf⟩ := e
  obtain ⟨h₁, tk₁, rfl⟩ := hs
  have off : ∀ a o, a ∉ X → s.heap.get? a = some o → a ∉ X₁ := fun a o ha ho hm => by
    rcases hx a hm with h | h
    · exact ha h
    · rw [h] at ho; cases ho
  refine ⟨⟨h', tk, rfl⟩, fun a o ha ho => hk' a o (off a o ha ho) (hk a o ha ho), pf, ρ', X', hq, h0, hS, fun a ha => ?_, hf⟩
  rcases hx' a ha with h | h
  · exact hx a h
  · by_cases hX : a ∈ X
    · exact .inl hX
    · refine .inr ?_
      cases e : s.heap.get? a with
      | none => rfl
      | some o => rw [hk a o hX e] at h; cases h

section
variable {prog : Program} {w : World} {A : Around} {env : Env} {h₀ : Heap} {X₀ : List Addr} {ρ : PEnv} {Q : PF → PEnv → Prop}

theorem Ends.here {X : List Addr} {s s' : Shared} {f : Flow} {pf : PF} (hq : Q pf ρ) (hX : ∀ x ∈ X₀, x ∈ X) (S : Sit env ρ X h₀ s'.heap) (k : Keeps s s') (hf : FlowIs s'.heap X₀ f pf) : Ends env h₀ X₀ X Q s f s' := by
  have hh := Kp.hh k
  obtain ⟨h, t, rfl, _⟩ := k
  exact ⟨⟨h, t, rfl⟩, fun a o _ e => hh a o e, pf, ρ, X, hq, hX, S, fun a ha => .inl ha, hf⟩

theorem Tr.nil (h : Q .next ρ) : Tr prog w A env h₀ X₀ ρ [] Q := fun X s hX S => wpAny_execs_nil (Ends.here h hX S (Kp.refl s) trivial)

noncomputable def Seq (prog : Program) (w : World) (A : Around) (env : Env) (h₀ : Heap) (X₀ : List Addr) (rest : List Stmt) (Q : PF → PEnv → Prop) (pf : PF) (ρ : PEnv) : Prop :=
  match pf with
  | .next => Tr prog w A env h₀ X₀ ρ rest Q
  | pf => Q pf ρ

theorem Tr.cons {st : Stmt} {rest : List Stmt} (h : TrS prog w A env h₀ X₀ ρ st (Seq prog w A env h₀ X₀ rest Q)) : Tr prog w A env h₀ X₀ ρ (st :: rest) Q := fun X s hX S =>
  wpAny_execs_cons (wpAny_mono (h X s hX S) (fun f s₁ e => by
    obtain ⟨hs, hk, pf, ρ', X', hq, h0, hS, hx, hf⟩ := e
    cases f with
    | next => cases pf with
      | next => exact wpAny_mono (hq X' s₁ h0 hS) (fun f s₂ e => e.after hs hk hx) fun _ _ x => x
      | brk => exact hf.elim
      | cont => exact hf.elim
      | ret p => exact hf.elim
    | brk => cases pf with
      | brk => exact ⟨hs, hk, .brk, ρ', X', hq, h0, hS, hx, hf⟩
      | next => exact hf.elim
      | cont => exact hf.elim
      | ret p => exact hf.elim
    | cont => cases pf with
      | cont => exact ⟨hs, hk, .cont, ρ', X', hq, h0, hS, hx, hf⟩
      | next => exact hf.elim
      | brk => exact hf.elim
      | ret p => exact hf.elim
    | ret v => cases pf with
      | ret p => exact ⟨hs, hk, .ret p, ρ', X', hq, h0, hS, hx, hf⟩
      | next => exact hf.elim
      | brk => exact hf.elim
      | cont => exact hf.elim) fun _ _ x => x)

theorem TrS.mono {st : Stmt} {Q' : PF → PEnv → Prop} (h : TrS prog w A env h₀ X₀ ρ st Q) (hq : ∀ pf ρ', Q pf ρ' → Q' pf ρ') : TrS prog w A env h₀ X₀ ρ st Q' := fun X s hX S =>
  wpAny_mono (h X s hX S) (fun f s' e => by obtain ⟨a, b, pf, ρ', X', q, r⟩ := e; exact ⟨a, b, pf, ρ', X', hq _ _ q, r⟩) fun _ _ x => x

/-- ρ holds at least these -/
noncomputable def Has (ρ : PEnv) (l : PEnv) : Prop := ∀ q ∈ l, ρ.lookup q.1 = some q.2
theorem Has.nil : Has ρ [] := fun _ h => by cases h
theorem Has.cons {y : Str} {sv : SV} {l : PEnv} (h : ρ.lookup y = some sv) (r : Has ρ l) : Has ρ ((y, sv) :: l) := fun q hq => by
  rcases List.mem_cons.mp hq with rfl | hq
  · exact h
  · exact r q hq
theorem lookup_mem' {l : PEnv} {x : Str} {sv : SV} (h : l.lookup x = some sv) : (x, sv) ∈ l := by
  induction l with
  | nil => simp at h
  | cons q r ih =>
    obtain ⟨y, u⟩ := q
    rw [List.lookup_cons] at h
    cases e : x == y with
    | true => rw [e] at h; cases h; obtain rfl : x = y := by simpa using e
              exact List.mem_cons_self
    | false => rw [e] at h; exact List.mem_cons_of_mem _ (ih h)
theorem Has.sub {l : PEnv} (h : Has ρ l) : ∀ x sv, l.lookup x = some sv → ρ.lookup x = some sv := fun x sv e => h (x, sv) (lookup_mem' e)
theorem Tr.has {l : PEnv} {ss : List Stmt} (h : Has ρ l) (t : Tr prog w A env h₀ X₀ l ss Q) : Tr prog w A env h₀ X₀ ρ ss Q := fun X s hX S => t X s hX (S.sub h.sub)
theorem TrS.has {l : PEnv} {st : Stmt} (h : Has ρ l) (t : TrS prog w A env h₀ X₀ l st Q) : TrS prog w A env h₀ X₀ ρ st Q := fun X s hX S => t X s hX (S.sub h.sub)
theorem Ev.has {l : PEnv} {e : Expr} {p : PV} (h : Has ρ l) (t : Ev prog w A env h₀ l e p) : Ev prog w A env h₀ ρ e p := fun X s S => t X s (S.sub h.sub)

theorem cell_ne_ns {h : Heap} {c a : Addr} {v : Option Value} {m : Str → Option Value} (x : h.IsCell c v) (n : h.Ns a m) : c ≠ a := fun e => by
  subst e
  obtain ⟨o, ho, hd⟩ := x
  obtain ⟨o', es, ep, ho', hd', _⟩ := n
  rw [ho] at ho'; cases ho'
  rw [hd] at hd'; cases hd'
theorem list_ne_ns {h : Heap} {c a : Addr} {v : Array Value} {m : Str → Option Value} (x : h.PlainList c v) (n : h.Ns a m) : c ≠ a := fun e => by
  subst e
  obtain ⟨o, ho⟩ := x
  obtain ⟨o', es, ep, ho', hd', _⟩ := n
  rw [ho] at ho'; cases ho'; cases hd'
theorem list_ne_cell {h : Heap} {c a : Addr} {v : Array Value} {u : Option Value} (x : h.PlainList c v) (n : h.IsCell a u) : c ≠ a := fun e => by
  subst e
  obtain ⟨o, ho⟩ := x
  obtain ⟨o', ho', hd'⟩ := n
  rw [ho] at ho'; cases ho'; cases hd'

theorem Still.ns {h : Heap} {a b : Addr} {o : Obj} {m : Str → Option Value} (st : Still o) (ho : h.get? a = some o) (n : h.Ns b m) : a ≠ b := fun e => by
  subst e
  obtain ⟨o', es, ep, ho', hd', _⟩ := n
  rw [ho] at ho'; cases ho'
  exact st.1 _ _ hd'
theorem Still.cell {h : Heap} {a b : Addr} {o : Obj} {v : Option Value} (st : Still o) (ho : h.get? a = some o) (n : h.IsCell b v) : a ≠ b := fun e => by
  subst e
  obtain ⟨o', ho', hd'⟩ := n
  rw [ho] at ho'; cases ho'
  exact st.2 _ hd'

/-- what a store of x leaves of the others -/
structure Stored (env : Env) (x : Str) (v : Value) (X : List Addr) (h₀ h h' : Heap) : Prop where
  var : Var env h' x v
  others : ∀ y u, y ≠ x → Var env h y u → Var env h' y u
  only : ∃ c, c ∈ X ∧ h₀.get? c = Option.none ∧ Heap.SameBut c h h' ∧ (∃ o, h'.get? c = some o) ∧ (∀ a its, h.PlainList a its → a ≠ c)
  ns : ∃ m, h'.Ns env.locals m
  cel : ∀ y c u, env.cells.lookup y = some c → h.IsCell c u → ∃ u', h'.IsCell c u'
  still : ∀ a o, h.get? a = some o → Still o → h'.get? a = some o
  mine : ∀ a o, h.get? a = some o → a ≠ env.locals → (∀ c, env.cells.lookup x = some c → a ≠ c) → h'.get? a = some o

theorem wp_store {X : List Addr} {s : Shared} {x : Str} {v : Value} {R : Unit → Shared → Prop} (S : Sit env ρ X h₀ s.heap) (hk : env.kindOf x = some .local ∨ (env.kindOf x = some .cell ∧ (env.cells.lookup x).isSome = true))
    (h : ∀ h' tk, Stored env x v X h₀ s.heap h' → R () { s with heap := h', toks := tk }) : wpAny (model prog w) A (storeName env x v) R (fun _ _ => False) s := by
  obtain ⟨m, hn⟩ := S.ns
  rcases hk with hk | ⟨hk, hc⟩
  · refine wpAny_storeName_local hk hn (fun h' hn' hs' => h h' _ ⟨.inl ⟨hk, _, hn', by simp⟩, fun y u hy hu => ?_, ⟨_, S.loc, S.locN, hs', (let ⟨o, _, _, ho, _⟩ := hn'; ⟨o, ho⟩), fun a its hl => list_ne_ns hl hn⟩, ⟨_, hn'⟩, fun y c u hc hu => ⟨u, ?_⟩, fun a o ho st => (hs'.2 a (st.ns ho hn)).trans ho, fun a o ho h1 _ => (hs'.2 a h1).trans ho⟩) (by rw [S.kind]; rfl)
    · rcases hu with ⟨e, m', hm', hu⟩ | ⟨e, c, hc, hu⟩
      · exact .inl ⟨e, _, hn', by simp [hy, ns_fun hn hm', hu]⟩
      · refine .inr ⟨e, c, hc, ?_⟩
        obtain ⟨o, ho, hd⟩ := id hu
        exact ⟨o, (hs'.2 c (cell_ne_ns hu hn)).trans ho, hd⟩
    · obtain ⟨o, ho, hd⟩ := id hu
      exact ⟨o, (hs'.2 c (cell_ne_ns hu hn)).trans ho, hd⟩
  · obtain ⟨c, hc⟩ := Option.isSome_iff_exists.mp hc
    obtain ⟨hcX, hcN, v₀, hv₀⟩ := S.cel x c hc
    refine wpAny_storeName_cell S.kind hk hc hv₀ fun h' hv' hs' => h h' _ ⟨.inr ⟨hk, c, hc, hv'⟩, fun y u hy hu => ?_, ⟨c, hcX, hcN, hs', (let ⟨o, ho, _⟩ := hv'; ⟨o, ho⟩), fun a its hl => list_ne_cell hl hv₀⟩, ⟨m, hn.sameBut hs' (Ne.symm (cell_ne_ns hv₀ hn))⟩, fun y c' u hc' hu => ?_, fun a o ho st => (hs'.2 a (st.cell ho hv₀)).trans ho, fun a o ho _ h2 => (hs'.2 a (h2 c hc)).trans ho⟩
    · rcases hu with ⟨e, m', hm', hu⟩ | ⟨e, c', hc', hu⟩
      · exact .inl ⟨e, m', hm'.sameBut hs' (Ne.symm (cell_ne_ns hv₀ hm')), hu⟩
      · refine .inr ⟨e, c', hc', ?_⟩
        obtain ⟨o, ho, hd⟩ := id hu
        exact ⟨o, (hs'.2 c' fun q => hy (S.inj y x c (q ▸ hc') hc)).trans ho, hd⟩
    · by_cases q : c' = c
      · subst q; exact ⟨_, hv'⟩
      · obtain ⟨o, ho, hd⟩ := id hu
        exact ⟨u, o, (hs'.2 c' q).trans ho, hd⟩

theorem Stored.keepX {X : List Addr} {h h' : Heap} {x : Str} {v : Value} (st : Stored env x v X h₀ h h') : ∀ a o, a ∉ X → h.get? a = some o → h'.get? a = some o := fun a o ha ho => by
  obtain ⟨c, hc, _, hs, _⟩ := st.only
  exact (hs.2 a fun q => ha (q ▸ hc)).trans ho
theorem Stored.list {X : List Addr} {h h' : Heap} {x : Str} {v : Value} (st : Stored env x v X h₀ h h') {a : Addr} {its : Array Value} (hl : h.PlainList a its) : h'.PlainList a its := by
  obtain ⟨c, hc, _, hs, _, hn⟩ := st.only
  exact hl.extBut hs.extBut (hn a its hl)

/-- the frame behind a store; Y: what of X is new -/
theorem Sit.stored {X : List Addr} {h h' : Heap} {x : Str} {v : Value} {sv : SV} (S : Sit env ρ X h₀ h) (st : Stored env x v X h₀ h h')
    (hv : match sv with
      | .val p => Rep h X v p
      | .own l => ∃ a, v = .ref a ∧ a ∈ X ∧ h₀.get? a = Option.none ∧ (∃ vs : List Value, h.PlainList a vs.toArray ∧ Reps h X vs l) ∧ ∀ y l', ρ.lookup y = some (.own l') → ¬ Var env h y (.ref a)) :
    Sit env ((x, sv) :: ρ) X h₀ h' where
  kind := S.kind
  glob := S.glob
  blt := S.blt
  keep := fun b o e => by
    obtain ⟨c, _, hcN, hs, _⟩ := st.only
    exact (hs.2 b fun q => by rw [q, hcN] at e; cases e).trans (S.keep b o e)
  live := fun y hy => by
    obtain ⟨c, _, _, hs, hl, _⟩ := st.only
    by_cases q : y = c
    · rw [q]; exact hl
    · obtain ⟨o, ho⟩ := S.live y hy; exact ⟨o, (hs.2 y q).trans ho⟩
  loc := S.loc
  locN := S.locN
  ns := st.ns
  cel := fun y c e => by
    obtain ⟨a, b, u, hu⟩ := S.cel y c e
    obtain ⟨u', hu'⟩ := st.cel y c u e hu
    exact ⟨a, b, u', hu'⟩
  inj := S.inj
  val := fun y p e => by
    rw [List.lookup_cons] at e
    cases q : y == x with
    | true =>
      rw [q] at e; cases e
      obtain rfl : y = x := by simpa using q
      exact ⟨v, st.var, Rep.but hv st.keepX⟩
    | false =>
      rw [q] at e
      obtain ⟨u, hu, hr⟩ := S.val y p e
      exact ⟨u, st.others y u (by simpa using q) hu, hr.but st.keepX⟩
  own := fun y l e => by
    rw [List.lookup_cons] at e
    cases q : y == x with
    | true =>
      rw [q] at e; cases e
      obtain rfl : y = x := by simpa using q
      obtain ⟨a, rfl, ha, haN, ⟨vs, hl, hr⟩, hd⟩ := hv
      refine ⟨a, st.var, ha, haN, ⟨vs, st.list hl, hr.but st.keepX⟩, fun z l' e' hne hc => ?_⟩
      rw [List.lookup_cons] at e'
      have hz : (z == y) = false := by simpa using hne
      rw [hz] at e'
      obtain ⟨b, hb, _⟩ := S.own z l' e'
      have : Value.ref b = .ref a := (st.others z _ hne hb).fun hc
      cases this
      exact hd z l' e' hb
    | false =>
      rw [q] at e
      have hyx : y ≠ x := by simpa using q
      obtain ⟨a, hvar, ha, haN, ⟨vs, hl, hr⟩, hd⟩ := S.own y l e
      refine ⟨a, st.others y _ hyx hvar, ha, haN, ⟨vs, st.list hl, hr.but st.keepX⟩, fun z l' e' hne hc => ?_⟩
      rw [List.lookup_cons] at e'
      cases qz : z == x with
      | true =>
        rw [qz] at e'; cases e'
        obtain rfl : z = x := by simpa using qz
        obtain ⟨b, rfl, _, _, _, hd'⟩ := hv
        have : Value.ref b = .ref a := st.var.fun hc
        cases this
        exact hd' y l e hvar
      | false =>
        rw [qz] at e'
        have hzx : z ≠ x := by simpa using qz
        obtain ⟨b, hb, _⟩ := S.own z l' e'
        have : Value.ref b = .ref a := (st.others z _ hzx hb).fun hc
        cases this
        exact hd z l' e' hne hb

/-- x may be stored into -/
noncomputable def CanStore (env : Env) (x : Str) : Prop := env.kindOf x = some .local ∨ (env.kindOf x = some .cell ∧ (env.cells.lookup x).isSome = true)

theorem TrS.assign {x : Str} {px pos : Pos} {e : Expr} {p : PV} (h : Ev prog w A env h₀ ρ e p) (hq : Q .next ((x, .val p) :: ρ)) (hk : CanStore env x)
    (hs : swapsWith e (some (.Name x px)) pos.line env = pure false := by rfl) : TrS prog w A env h₀ X₀ ρ (.Assign [.Name x px] e pos) Q := fun X s hX S =>
  wpAny_Assign_Name (hs := hs) (wpAny_mono (h X s S) (fun v s₁ h₁ => by
    obtain ⟨k, hr⟩ := h₁
    have S₁ := S.keeps (Kp.hh k)
    refine wp_store S₁ hk fun h' tk st => ?_
    have S₂ := S₁.stored (sv := .val p) st hr
    have hh := Kp.hh k
    obtain ⟨hp, t, rfl, _⟩ := k
    exact ⟨⟨h', tk, rfl⟩, fun a o ha ho => st.keepX a o ha (hh a o ho), .next, _, X, hq, hX, S₂, fun a ha => .inl ha, trivial⟩) fun _ _ x => x)

theorem TrS.ite {t : Expr} {body orelse : List Stmt} {pos : Pos} {b : Bool} (ht : EvT prog w A env h₀ ρ t b) (h1 : b = true → Tr prog w A env h₀ X₀ ρ body Q) (h2 : b = false → Tr prog w A env h₀ X₀ ρ orelse Q) :
    TrS prog w A env h₀ X₀ ρ (.If t body orelse pos) Q := fun X s hX S =>
  wpAny_If (wpAny_mono (ht X s S) (fun c s₁ hc => by
    obtain ⟨k, rfl⟩ := hc
    have S₁ := S.keeps (Kp.hh k)
    have hh := Kp.hh k
    have hs : ∃ h' tk, s₁ = { s with heap := h', toks := tk } := by obtain ⟨h, t, e, _⟩ := k; exact ⟨h, t, e⟩
    cases c with
    | true => exact wpAny_mono (h1 rfl X s₁ hX S₁) (fun f s₂ e => e.after hs (fun a o _ ho => hh a o ho) fun a ha => .inl ha) fun _ _ x => x
    | false => exact wpAny_mono (h2 rfl X s₁ hX S₁) (fun f s₂ e => e.after hs (fun a o _ ho => hh a o ho) fun a ha => .inl ha) fun _ _ x => x) fun _ _ x => x)

theorem TrS.ret {e : Expr} {pos : Pos} {p : PV} (h : Ev prog w A env h₀ ρ e p) (hq : Q (.ret p) ρ) : TrS prog w A env h₀ X₀ ρ (.Return (some e) pos) Q := fun X s hX S =>
  wpAny_Return_some (wpAny_mono (h X s S) (fun v s₁ h₁ => Ends.here hq hX (S.keeps (Kp.hh h₁.1)) h₁.1 (h₁.2.less hX)) fun _ _ x => x)
theorem TrS.brk {pos : Pos} (hq : Q .brk ρ) : TrS prog w A env h₀ X₀ ρ (.Break pos) Q := fun X s hX S => wpAny_Break (Ends.here hq hX S (Kp.refl s) trivial)
end
end

-- L7
section
open PySem PySem.W PyProof.Rows PySem.Calls
set_option maxRecDepth 10000
section
variable {prog : Program} {w : World} {A : Around} {env : Env} {h₀ : Heap} {X₀ : List Addr} {ρ : PEnv} {Q : PF → PEnv → Prop}

theorem Rep.offIter {h : Heap} {X Y : List Addr} {v : Value} {p : PV} (r : Rep h X v p) (hy : ∀ b ∈ Y, ∃ o, h.get? b = some o ∧ o.cls ≠ .type "list" ∧ o.cls ≠ .type "tuple") : Rep h (Y ++ X) v p := by
  induction r with
  | none => exact .none
  | bool b => exact .bool b
  | int i t => exact .int i t
  | str x t => exact .str x t
  | ty T => exact .ty T
  | list hx hl hn _ ih =>
    refine .list (fun hm => ?_) hl hn ih
    rcases List.mem_append.mp hm with hm | hm
    · obtain ⟨o, ho, h1, _⟩ := hy _ hm
      obtain ⟨o', ho', hc, _⟩ := hl
      rw [ho] at ho'; cases ho'; exact h1 hc
    · exact hx hm
  | tuple hx hl hn _ ih =>
    refine .tuple (fun hm => ?_) hl hn ih
    rcases List.mem_append.mp hm with hm | hm
    · obtain ⟨o, ho, _, h1⟩ := hy _ hm
      obtain ⟨o', ho', hc, _⟩ := hl
      rw [ho] at ho'; cases ho'; exact h1 hc
    · exact hx hm

/-- objects that are no frame, no cell, no list of the frame's own may turn -/
theorem Sit.iter {X Y : List Addr} {h h' : Heap} (S : Sit env ρ X h₀ h) (hy : ∀ b ∈ Y, ∃ o, h.get? b = some o ∧ o.cls ≠ .type "list" ∧ o.cls ≠ .type "tuple") (hX : ∀ b ∈ Y, b ∉ X) (hN : ∀ b ∈ Y, h₀.get? b = Option.none)
    (hk : ∀ a o, a ∉ Y → h.get? a = some o → h'.get? a = some o) : Sit env ρ X h₀ h' := by
  have nX : ∀ a, a ∈ X → a ∉ Y := fun a ha hb => hX a hb ha
  have kX : ∀ a o, a ∈ X → h.get? a = some o → h'.get? a = some o := fun a o ha => hk a o (nX a ha)
  have rk : ∀ {v p}, Rep h X v p → Rep h' X v p := fun r => (r.offIter hy).map fun a o ha ho => ⟨fun q => ha (List.mem_append.mpr (.inr q)), hk a o (fun q => ha (List.mem_append.mpr (.inl q))) ho⟩
  have vk : ∀ {x v}, Var env h x v → Var env h' x v := fun hv => by
    rcases hv with ⟨e, m, hn, hm⟩ | ⟨e, c, hc, hv⟩
    · exact .inl ⟨e, m, hn.at' (fun o => kX _ o S.loc), hm⟩
    · obtain ⟨o, ho, hd⟩ := hv
      exact .inr ⟨e, c, hc, o, kX _ o (S.cel _ _ hc).1 ho, hd⟩
  refine ⟨S.kind, S.glob, S.blt, fun b o e => hk b o (fun q => by rw [hN b q] at e; cases e) (S.keep b o e), fun x hx => ?_, S.loc, S.locN, ?_, fun x c e => ?_, S.inj, fun x p e => ?_, fun x l e => ?_⟩
  · obtain ⟨o, ho⟩ := S.live x hx; exact ⟨o, kX _ _ hx ho⟩
  · obtain ⟨m, hn⟩ := S.ns; exact ⟨m, hn.at' fun o => kX _ o S.loc⟩
  · obtain ⟨a, b, v, o, ho, hd⟩ := S.cel x c e; exact ⟨a, b, v, o, kX _ o a ho, hd⟩
  · obtain ⟨v, hv, hr⟩ := S.val x p e; exact ⟨v, vk hv, rk hr⟩
  · obtain ⟨a, hv, ha, haN, ⟨vs, hl, hr⟩, hd⟩ := S.own x l e
    refine ⟨a, vk hv, ha, haN, ⟨vs, hl.at fun o => kX _ o ha, hr.1, fun i v p h1 h2 => rk (hr.2 i v p h1 h2)⟩, fun y l' e' hne hc => ?_⟩
    obtain ⟨b, hb, _⟩ := S.own y l' e'
    have : Value.ref b = .ref a := (vk hb).fun hc
    cases this
    exact hd y l' e' hne hb

end
end

-- L8
section
open PySem PySem.W PyProof.Rows PySem.Calls
set_option maxRecDepth 10000
section
variable {prog : Program} {w : World} {A : Around} {env : Env} {h₀ : Heap} {X₀ : List Addr} {ρ : PEnv} {Q : PF → PEnv → Prop}

/-- a fresh list -/
noncomputable def EvNew (prog : Program) (w : World) (A : Around) (env : Env) (h₀ : Heap) (ρ : PEnv) (e : Expr) (l : List PV) : Prop :=
  ∀ X s, Sit env ρ X h₀ s.heap → wpAny (model prog w) A (eval e env) (fun v s' => Keeps s s' ∧ ∃ a, ∃ vs : List Value, v = .ref a ∧ s.heap.get? a = Option.none ∧ s'.heap.PlainList a vs.toArray ∧ Reps s'.heap (a :: X) vs l) (fun _ _ => False) s
theorem EvNew.nil {pos : Pos} : EvNew prog w A env h₀ ρ (.List [] pos) [] := fun X s S =>
  List_ (args_nil (wpAny_newObj_type (⟨Kp.push s _ _, _, [], rfl, get_size _, ⟨_, Heap.get?_push_size _ rfl⟩, Reps.nil⟩) (by show (0 : Nat) ≤ sizeLine; decide)))
/-- one address more is kept out of the values: a new one -/
theorem Sit.more {X : List Addr} {h h' : Heap} {a : Addr} (S : Sit env ρ X h₀ h) (hh : ∀ b o, h.get? b = some o → h'.get? b = some o) (hn : h.get? a = Option.none) (ha : ∃ o, h'.get? a = some o) : Sit env ρ (a :: X) h₀ h' := by
  have S' := S.keeps hh
  have hr : ∀ {v p}, Rep h X v p → Rep h' (a :: X) v p := fun r => r.map fun b o hb ho => ⟨fun q => by
    rcases List.mem_cons.mp q with rfl | q
    · rw [hn] at ho; cases ho
    · exact hb q, hh b o ho⟩
  exact {
    kind := S'.kind
    glob := S'.glob
    blt := S'.blt
    keep := S'.keep
    live := fun x hx => by
      rcases List.mem_cons.mp hx with rfl | hx
      · exact ha
      · exact S'.live x hx
    loc := List.mem_cons_of_mem _ S'.loc
    locN := S'.locN
    ns := S'.ns
    cel := fun x c e => let ⟨a, b, c⟩ := S'.cel x c e; ⟨List.mem_cons_of_mem _ a, b, c⟩
    inj := S'.inj
    val := fun x p e => let ⟨v, hv, hr'⟩ := S.val x p e; ⟨v, hv.keeps hh, hr hr'⟩
    own := fun x l e => by
      obtain ⟨b, hv, hb, hbN, ⟨vs, hl, hr'⟩, hd⟩ := S.own x l e
      obtain ⟨b', hv', _, _, _, hd'⟩ := S'.own x l e
      have : Value.ref b = .ref b' := (hv.keeps hh).fun hv'
      cases this
      exact ⟨b, hv.keeps hh, List.mem_cons_of_mem _ hb, hbN, ⟨vs, hl.at (fun o => hh _ o), hr'.1, fun i v p h1 h2 => hr (hr'.2 i v p h1 h2)⟩, hd'⟩ }

theorem Sit.none₀ {X : List Addr} {h : Heap} (S : Sit env ρ X h₀ h) {a : Addr} (hn : h.get? a = Option.none) : h₀.get? a = Option.none := by
  cases e : h₀.get? a with
  | none => rfl
  | some o => rw [S.keep a o e] at hn; cases hn

theorem TrS.assignOwn {x : Str} {px pos : Pos} {e : Expr} {l : List PV} (h : EvNew prog w A env h₀ ρ e l) (hq : Q .next ((x, .own l) :: ρ)) (hk : CanStore env x)
    (hs : swapsWith e (some (.Name x px)) pos.line env = pure false := by rfl) : TrS prog w A env h₀ X₀ ρ (.Assign [.Name x px] e pos) Q := fun X s hX S =>
  wpAny_Assign_Name (hs := hs) (wpAny_mono (h X s S) (fun v s₁ h₁ => by
    obtain ⟨k, a, vs, rfl, hn, hl, hr⟩ := h₁
    have hh := Kp.hh k
    have S₁ : Sit env ρ (a :: X) h₀ s₁.heap := S.more hh hn (let ⟨n, e⟩ := hl; ⟨_, e⟩)
    refine wp_store S₁ hk fun h' tk st => ?_
    have S₂ := S₁.stored (sv := .own l) st ⟨a, rfl, List.mem_cons_self, S.none₀ hn, ⟨vs, hl, hr⟩, fun y l' e' hc => by
      obtain ⟨b, hb, _, _, ⟨ws, hlb, _⟩, _⟩ := S.own y l' e'
      have : Value.ref b = .ref a := (hb.keeps hh).fun hc
      cases this
      obtain ⟨n, q⟩ := hlb
      rw [hn] at q; cases q⟩
    obtain ⟨hp, t, rfl, _⟩ := k
    refine ⟨⟨h', tk, rfl⟩, fun b o hb ho => st.keepX b o (fun q => ?_) (hh b o ho), .next, _, a :: X, hq, fun y hy => List.mem_cons_of_mem _ (hX y hy), S₂, fun b hb => ?_, trivial⟩
    · rcases List.mem_cons.mp q with rfl | q
      · rw [hn] at ho; cases ho
      · exact hb q
    · rcases List.mem_cons.mp hb with rfl | hb
      · exact .inr hn
      · exact .inl hb) fun _ _ x => x)

/-- a list of the frame's own is written no more: a value from here on -/
theorem Tr.freeze {x : Str} {l : List PV} {ss : List Stmt} (hX₀ : Live X₀ h₀) (e : ρ.lookup x = some (.own l)) (t : Tr prog w A env h₀ X₀ ((x, .val (.list l)) :: ρ) ss Q) : Tr prog w A env h₀ X₀ ρ ss Q := fun X s hX S => by
  obtain ⟨a, hv, ha, haN, ⟨vs, hl, hr⟩, hd⟩ := S.own x l e
  have sub : ∀ b, b ∈ X.filter (· ≠ a) → b ∈ X := fun b hb => (List.mem_filter.mp hb).1
  have keepM : ∀ b, b ∈ X → b ≠ a → b ∈ X.filter (· ≠ a) := fun b hb hne => List.mem_filter.mpr ⟨hb, by simpa using hne⟩
  have hlL : a ≠ env.locals := by obtain ⟨m, hn⟩ := S.ns; exact list_ne_ns hl hn
  have S' : Sit env ((x, .val (.list l)) :: ρ) (X.filter (· ≠ a)) h₀ s.heap := {
    kind := S.kind
    glob := S.glob
    blt := S.blt
    keep := S.keep
    live := fun y hy => S.live y (sub y hy)
    loc := keepM _ S.loc (Ne.symm hlL)
    locN := S.locN
    ns := S.ns
    cel := fun y c e => by
      obtain ⟨h1, h2, u, h3⟩ := S.cel y c e
      exact ⟨keepM _ h1 (Ne.symm (list_ne_cell hl h3)), h2, u, h3⟩
    inj := S.inj
    val := fun y p e' => by
      rw [List.lookup_cons] at e'
      cases q : y == x with
      | true =>
        rw [q] at e'; cases e'
        obtain rfl : y = x := by simpa using q
        refine ⟨_, hv, .list (fun hm => ?_) hl.isList hr.1 fun i v p h1 h2 => (hr.2 i v p h1 h2).less sub⟩
        have := (List.mem_filter.mp hm).2
        simp at this
      | false =>
        rw [q] at e'
        obtain ⟨v, h1, h2⟩ := S.val y p e'
        exact ⟨v, h1, h2.less sub⟩
    own := fun y l' e' => by
      rw [List.lookup_cons] at e'
      cases q : y == x with
      | true => rw [q] at e'; cases e'
      | false =>
        rw [q] at e'
        have hyx : y ≠ x := by simpa using q
        obtain ⟨b, h1, h2, h3, ⟨ws, h4, h5⟩, h6⟩ := S.own y l' e'
        refine ⟨b, h1, keepM _ h2 (fun q => ?_), h3, ⟨ws, h4, h5.less sub⟩, fun z l'' e'' hne hc => ?_⟩
        · subst q; exact h6 x l e (Ne.symm hyx) hv
        · rw [List.lookup_cons] at e''
          cases q2 : z == x with
          | true => rw [q2] at e''; cases e''
          | false => rw [q2] at e''; exact h6 z l'' e'' hne hc }
  refine wpAny_mono (t (X.filter (· ≠ a)) s (fun y hy => keepM y (hX y hy) fun q => ?_) S') (fun f s' en => ?_) fun _ _ x => x
  · subst q
    obtain ⟨o, ho⟩ := hX₀ _ hy
    rw [haN] at ho; cases ho
  · exact en.after ⟨s.heap, s.toks, rfl⟩ (fun b o _ ho => ho) fun b hb => .inl (sub b hb)

/-- x.append(e) -/
theorem TrS.append {x : Str} {px apos cpos pos : Pos} {e : Expr} {l : List PV} {p : PV} (hx : ρ.lookup x = some (.own l)) (h : Ev prog w A env h₀ ρ e p) (hq : Q .next ((x, .own (l ++ [p])) :: ρ)) (hsz : l.length ≤ sizeLine)
    {pl : Sem Bool} (hd : (x == ("__debug__" : Str)) = false := by decide)
    (hc : eval (.Call (.Attribute (.Name x px) (Str.ofString "append") apos) [e] [] cpos) env = (do
      let ov ← eval (.Name x px) env
      standAt apos.atName
      let (f, first) ← holding [ov] (getMethod ov (Str.ofString "append") pl)
      callWith cpos f first (backTo cpos (starEach [e] env)) []) := by rfl)
    (he : starEach [e] env = (false, eval e env) :: starEach [] env := by rfl)
    (hi : interactive env = false := by rfl) (hs : swapsWith (.Call (.Attribute (.Name x px) (Str.ofString "append") apos) [e] [] cpos) none pos.line env = pure false := by rfl) :
    TrS prog w A env h₀ X₀ ρ (.Expr (.Call (.Attribute (.Name x px) (Str.ofString "append") apos) [e] [] cpos) pos) Q := fun X s hX S => by
  obtain ⟨a, hv, ha, haN, ⟨vs, hl, hr⟩, hdd⟩ := S.own x l hx
  refine wpAny_Expr (hi := hi) (hs := hs) (MethodCall_ (he := hc) (wp_var S hv hd ?_))
  refine getMethod_builtin (T := "list") (by obtain ⟨n, e⟩ := hl; exact ⟨_, e, rfl⟩) PySem.F.plainAttrs_list PySem.F.slot_list_append PySem.F.type_list_append (fun b q => by cases q; obtain ⟨n, e⟩ := hl; exact ⟨_, e, rfl⟩) ?_
  refine callWith_method1 (first := [.ref a]) (he := he) (hplain := by rfl) (args_cons (he := he) (wpAny_mono (h X s S) (fun v s₁ h₁ => args_nil ?_) fun _ _ x => x))
  obtain ⟨k, hrv⟩ := h₁
  have hh := Kp.hh k
  have S₁ := S.keeps hh
  have hl₁ := hl.at fun o => hh _ o
  refine wpAny_list_append_plain (hsz := by simpa [hr.1] using hsz) hl₁ fun h' hl' hs' => ?_
  have rk : ∀ {v p}, Rep s₁.heap X v p → Rep h' X v p := fun r => r.but fun b o hb ho => (hs'.2 b fun q => hb (q ▸ ha)).trans ho
  have vk : ∀ {y v}, Var env s₁.heap y v → Var env h' y v := fun hv => by
    rcases hv with ⟨e, m, hn, hm⟩ | ⟨e, c, hc, hv⟩
    · exact .inl ⟨e, m, hn.sameBut hs' (Ne.symm (list_ne_ns hl₁ hn)), hm⟩
    · obtain ⟨o, ho, hd⟩ := id hv
      exact .inr ⟨e, c, hc, o, (hs'.2 c (Ne.symm (list_ne_cell hl₁ hv))).trans ho, hd⟩
  have S' : Sit env ((x, .own (l ++ [p])) :: ρ) X h₀ h' := {
    kind := S.kind
    glob := S.glob
    blt := S.blt
    keep := fun b o e => (hs'.2 b fun q => by rw [q, haN] at e; cases e).trans (S₁.keep b o e)
    live := fun y hy => by
      by_cases q : y = a
      · rw [q]; obtain ⟨n, e⟩ := hl'; exact ⟨_, e⟩
      · obtain ⟨o, ho⟩ := S₁.live y hy; exact ⟨o, (hs'.2 y q).trans ho⟩
    loc := S.loc
    locN := S.locN
    ns := by obtain ⟨m, hn⟩ := S₁.ns; exact ⟨m, hn.sameBut hs' (Ne.symm (list_ne_ns hl₁ hn))⟩
    cel := fun y c e => by
      obtain ⟨h1, h2, u, h3⟩ := S₁.cel y c e
      obtain ⟨o, ho, hd⟩ := id h3
      exact ⟨h1, h2, u, o, (hs'.2 c (Ne.symm (list_ne_cell hl₁ h3))).trans ho, hd⟩
    inj := S.inj
    val := fun y q e => by
      rw [List.lookup_cons] at e
      cases hq : y == x with
      | true => rw [hq] at e; cases e
      | false =>
        rw [hq] at e
        obtain ⟨u, h1, h2⟩ := S₁.val y q e
        exact ⟨u, vk h1, rk h2⟩
    own := fun y l' e => by
      rw [List.lookup_cons] at e
      cases hq : y == x with
      | true =>
        rw [hq] at e; cases e
        obtain rfl : y = x := by simpa using hq
        refine ⟨a, vk (hv.keeps hh), ha, haN, ⟨vs ++ [v], by simpa using hl', ?_⟩, fun z l' e' hne hc => ?_⟩
        · refine Reps.append ⟨hr.1, fun i u q h1 h2 => rk ((hr.2 i u q h1 h2).keeps hh)⟩ (Reps.cons (rk hrv) Reps.nil)
        · rw [List.lookup_cons] at e'
          have hz : (z == y) = false := by simpa using hne
          rw [hz] at e'
          obtain ⟨b, hb, _⟩ := S₁.own z l' e'
          have : Value.ref b = .ref a := (vk hb).fun hc
          cases this
          obtain ⟨b', hb', _, _, _, hd'⟩ := S₁.own y l hx
          have : Value.ref b' = .ref _ := hb'.fun (hv.keeps hh)
          cases this
          exact hd' z l' e' hne hb
      | false =>
        rw [hq] at e
        have hyx : y ≠ x := by simpa using hq
        obtain ⟨b, h1, h2, h3, ⟨ws, h4, h5⟩, h6⟩ := S₁.own y l' e
        have hba : b ≠ a := fun q => by subst q; exact h6 x l hx (Ne.symm hyx) (hv.keeps hh)
        refine ⟨b, vk h1, h2, h3, ⟨ws, h4.extBut hs'.extBut hba, h5.1, fun i u q k1 k2 => rk (h5.2 i u q k1 k2)⟩, fun z l'' e' hne hcz => ?_⟩
        rw [List.lookup_cons] at e'
        cases qz : z == x with
        | true =>
          rw [qz] at e'; cases e'
          obtain rfl : z = x := by simpa using qz
          have : Value.ref a = .ref b := (vk (hv.keeps hh)).fun hcz
          cases this
          exact hba rfl
        | false =>
          rw [qz] at e'
          obtain ⟨c, hc', _⟩ := S₁.own z l'' e'
          have : Value.ref c = .ref b := (vk hc').fun hcz
          cases this
          exact h6 z l'' e' hne hc' }
  obtain ⟨hp, t, rfl, _⟩ := k
  exact ⟨⟨h', t, rfl⟩, fun b o hb ho => (hs'.2 b fun q => hb (q ▸ ha)).trans (hh b o ho), .next, _, X, hq, hX, S', fun b hb => .inl hb, trivial⟩
end
end

-- L9
section
open PySem PySem.W PyProof.Rows PySem.Calls
set_option maxRecDepth 10000
section
variable {prog : Program} {w : World} {A : Around} {env : Env} {h₀ : Heap} {X₀ : List Addr} {ρ : PEnv} {Q : PF → PEnv → Prop}

theorem TrS.while {test : Expr} {body : List Stmt} {pos : Pos} (I : Nat → PEnv → Prop) (n₀ : Nat) (h0 : I n₀ ρ)
    (turn : ∀ n ρ', I n ρ' → ∃ b, EvT prog w A env h₀ ρ' test b ∧ (b = true → Tr prog w A env h₀ X₀ ρ' body (fun pf ρ₂ => match pf with
      | .next => ∃ m, m < n ∧ I m ρ₂
      | .cont => ∃ m, m < n ∧ I m ρ₂
      | .brk => Q .next ρ₂
      | .ret r => Q (.ret r) ρ₂)) ∧ (b = false → Q .next ρ')) :
    TrS prog w A env h₀ X₀ ρ (.While test body [] pos) Q := fun X s hX S => by
  refine wpAny_While ?_
  refine codeAny_whileLoop
    (fun n s' => ∃ h' tk ρ' X', s' = { s with heap := h', toks := tk } ∧ I n ρ' ∧ (∀ x ∈ X₀, x ∈ X') ∧ Sit env ρ' X' h₀ h' ∧ (∀ a, a ∈ X' → a ∈ X ∨ s.heap.get? a = Option.none) ∧
      (∀ a o, a ∉ X → s.heap.get? a = some o → h'.get? a = some o)) ?_ n₀ ⟨s.heap, s.toks, ρ, X, rfl, h0, hX, S, fun a ha => .inl ha, fun a o _ e => e⟩
  rintro n s' ⟨h', tk, ρ', X', rfl, hI, hX', S', hsub, hkp⟩
  obtain ⟨b, ht, h1, h2⟩ := turn n ρ' hI
  refine wpAny_mono (ht X' _ S') (fun c s₁ hc => ?_) fun _ _ e => e.elim
  obtain ⟨k, rfl⟩ := hc
  have hh := Kp.hh k
  obtain ⟨h₁, tk₁, rfl, _⟩ := k
  have S₁ := S'.keeps hh
  have kp₁ : ∀ a o, a ∉ X → s.heap.get? a = some o → h₁.get? a = some o := fun a o ha ho => hh a o (hkp a o ha ho)
  cases c with
  | false => exact wpAny_execs_nil ⟨⟨h₁, tk₁, rfl⟩, kp₁, .next, ρ', X', h2 rfl, hX', S₁, hsub, trivial⟩
  | true =>
    simp only [if_true]
    refine wpAny_mono (h1 rfl X' { s with heap := h₁, toks := tk₁ } hX' S₁) (fun f s₄ e => ?_) fun _ _ e => e.elim
    have e' := e
    obtain ⟨⟨h₄, tk₄, rfl⟩, hk₄, pf, ρ₂, X₂, hq, hX₂, S₄, hsub₂, hf⟩ := e'
    have offX : ∀ a o, a ∉ X → s.heap.get? a = some o → a ∉ X' := fun a o ha ho hm => by
      rcases hsub a hm with q | q
      · exact ha q
      · rw [ho] at q; cases q
    have sub₃ : ∀ a, a ∈ X₂ → a ∈ X ∨ s.heap.get? a = Option.none := fun a ha => by
      by_cases hq1 : a ∈ X
      · exact .inl hq1
      · rcases hsub₂ a ha with q | q
        · exact hsub a q
        · refine .inr ?_
          cases e3 : s.heap.get? a with
          | none => rfl
          | some o => have := kp₁ a o hq1 e3; dsimp only at q; rw [this] at q; cases q
    have kp₄ : ∀ a o, a ∉ X → s.heap.get? a = some o → h₄.get? a = some o := fun a o ha ho => hk₄ a o (offX a o ha ho) (kp₁ a o ha ho)
    cases f with
    | next => cases pf with
      | next =>
        obtain ⟨m, hm, hI'⟩ := hq
        exact ⟨m, hm, h₄, tk₄, ρ₂, X₂, rfl, hI', hX₂, S₄, sub₃, kp₄⟩
      | brk => exact hf.elim
      | cont => exact hf.elim
      | ret p => exact hf.elim
    | cont => cases pf with
      | cont =>
        obtain ⟨m, hm, hI'⟩ := hq
        exact ⟨m, hm, h₄, tk₄, ρ₂, X₂, rfl, hI', hX₂, S₄, sub₃, kp₄⟩
      | brk => exact hf.elim
      | next => exact hf.elim
      | ret p => exact hf.elim
    | brk => cases pf with
      | brk => exact ⟨⟨h₄, tk₄, rfl⟩, kp₄, .next, ρ₂, X₂, hq, hX₂, S₄, sub₃, trivial⟩
      | cont => exact hf.elim
      | next => exact hf.elim
      | ret p => exact hf.elim
    | ret u => cases pf with
      | ret p => exact ⟨⟨h₄, tk₄, rfl⟩, kp₄, .ret p, ρ₂, X₂, hq, hX₂, S₄, sub₃, hf⟩
      | cont => exact hf.elim
      | next => exact hf.elim
      | brk => exact hf.elim

noncomputable def Op2I (prog : Program) (w : World) (A : Around) (op : Operator) (a b c : PV) : Prop :=
  ∀ X s va vb, Live X s.heap → Rep s.heap X va a → Rep s.heap X vb b → wpAny (model prog w) A (inplaceOp op va vb) (fun v s' => Keeps s s' ∧ Rep s'.heap X v c) (fun _ _ => False) s

theorem wp_loadVar {X : List Addr} {s : Shared} {x : Str} {v : Value} {R : Value → Shared → Prop} {E : Value → Shared → Prop} (S : Sit env ρ X h₀ s.heap) (hv : Var env s.heap x v) (h : R v s) :
    wpAny (model prog w) A (loadName env x) R E s := by
  rcases hv with ⟨e, m, hn, hm⟩ | ⟨e, c, hc, hv⟩
  · exact wpAny_loadName_local S.kind e hn hm h
  · exact wpAny_loadName_cell S.kind e hc hv h

theorem TrS.aug {x : Str} {px pos : Pos} {op : Operator} {e : Expr} {a b c : PV} (hx : ρ.lookup x = some (.val a)) (h : Ev prog w A env h₀ ρ e b) (ho : Op2I prog w A op a b c) (hq : Q .next ((x, .val c) :: ρ)) (hk : CanStore env x) :
    TrS prog w A env h₀ X₀ ρ (.AugAssign (.Name x px) op e pos) Q := fun X s hX S => by
  obtain ⟨va, hva, hra⟩ := S.val x a hx
  refine wpAny_AugAssign_Name (wp_loadVar S hva (wpAny_mono (h X s S) (fun vb s₁ h₁ => ?_) fun _ _ x => x))
  obtain ⟨k₁, hrb⟩ := h₁
  refine wpAny_mono (ho X s₁ va vb (Live.keeps S.live (Kp.hh k₁)) (hra.keeps (Kp.hh k₁)) hrb) (fun v s₂ h₂ => ?_) fun _ _ x => x
  obtain ⟨k₂, hrc⟩ := h₂
  have k := Kp.trans k₁ k₂
  have hh := Kp.hh k
  have S₂ := S.keeps hh
  refine wp_store S₂ hk fun h' tk st => ?_
  have S₃ := S₂.stored (sv := .val c) st hrc
  obtain ⟨hp, t, rfl, _⟩ := k
  exact ⟨⟨h', tk, rfl⟩, fun a o ha ho => st.keepX a o ha (hh a o ho), .next, _, X, hq, hX, S₃, fun a ha => .inl ha, trivial⟩

/-- iterating a list -/
theorem EvIt.list {e : Expr} {l : List PV} (h : Ev prog w A env h₀ ρ e (.list l)) (hA : A.handled = Option.none) : EvIt prog w A env h₀ ρ e l := fun X s S =>
  wpAny_mono (h X s S) (fun v s₁ h₁ => by
    obtain ⟨k, hr⟩ := h₁
    cases hr with
    | @list a vs _ ha hl hn hi =>
      obtain ⟨o, ho, hc, n, hd⟩ := id hl
      have hlt := Heap.lt_size ho
      refine wpAny_pyIter_list hl ⟨Kp.trans k (Kp.push s₁ _ _), s₁.heap.objs.size, [s₁.heap.objs.size, a], [s₁.heap.objs.size], (fun i v => vs.toArray[i]? = some v), (fun i h => h.IsListIter s₁.heap.objs.size a i ∧ h.IsList a vs.toArray), rfl, ?_⟩
      have W := Walks.list (prog := prog) (w := w) hA s₁.heap.objs.size a (Nat.ne_of_lt hlt) vs.toArray
      have e : vs.toArray.size = l.length := by simpa using hn
      rw [e] at W
      refine ⟨W, ⟨⟨_, Heap.get?_push_size _ rfl, rfl, rfl⟩, hl.push _⟩, fun b hb => ?_, fun b hb => ?_, fun b hb => ?_, fun b hb => ?_, fun i h' st b hb => ?_, fun i h' st b hb o e => ?still, fun i h' st => ?icls, s₁.heap, fun b o e => Heap.get?_push_of_some _ e, fun b hb => ?_, fun i v hi' hv => ?_⟩
      case still =>
        obtain ⟨⟨o', ho, _, hd⟩, _⟩ := st
        rw [List.mem_singleton.mp hb, ho] at e; cases e
        exact ⟨fun es ep q => (by rw [hd] at q; cases q), fun v q => (by rw [hd] at q; cases q)⟩
      case icls =>
        obtain ⟨⟨o, ho, hc, _⟩, _⟩ := st
        exact ⟨o, _, ho, hc, by decide⟩
      · rw [Heap.size_push]
        rcases List.mem_cons.mp hb with rfl | hb
        · exact Nat.lt_succ_self _
        · rw [List.mem_singleton.mp hb]; exact Nat.lt_succ_of_lt hlt
      · rw [List.mem_singleton.mp hb]
        cases e2 : s.heap.get? s₁.heap.objs.size with
        | none => rfl
        | some o => exact absurd (Heap.lt_size (Kp.hh k _ _ e2)) (Nat.lt_irrefl _)
      · rcases List.mem_cons.mp hb with rfl | hb
        · exact Live.fresh (Live.keeps S.live (Kp.hh k)) (get_size _)
        · rw [List.mem_singleton.mp hb]; exact ha
      · rcases List.mem_cons.mp hb with rfl | hb
        · exact ⟨_, Heap.get?_push_size _ rfl⟩
        · rw [List.mem_singleton.mp hb]; exact ⟨o, Heap.get?_push_of_some _ ho⟩
      · rw [List.mem_singleton.mp hb]
        obtain ⟨⟨o, ho, hc, _⟩, _⟩ := st
        exact ⟨o, ho, by rw [hc]; decide, by rw [hc]; decide⟩
      · rw [List.mem_singleton.mp hb]; exact get_size _
      · have hv' : vs[i]? = some v := by simpa using hv
        obtain ⟨p, hp, hr⟩ := Reps.get' ⟨hn, hi⟩ hv'
        exact ⟨p, hp, hr⟩) fun _ _ x => x

theorem EvIt.tuple {e : Expr} {l : List PV} (h : Ev prog w A env h₀ ρ e (.tuple l)) (hA : A.handled = Option.none) : EvIt prog w A env h₀ ρ e l := fun X s S =>
  wpAny_mono (h X s S) (fun v s₁ h₁ => by
    obtain ⟨k, hr⟩ := h₁
    cases hr with
    | @tuple a vs _ ha hl hn hi =>
      obtain ⟨o, ho, hc, n, hd⟩ := id hl
      have hlt := Heap.lt_size ho
      have hl' : s₁.heap.IsTuple a vs.toArray := hl
      refine wpAny_pyIter_tuple hl' ⟨Kp.trans k (Kp.push s₁ _ _), s₁.heap.objs.size, [s₁.heap.objs.size, a], [s₁.heap.objs.size], (fun i v => vs.toArray[i]? = some v), (fun i h => h.IsTupleIter s₁.heap.objs.size a i ∧ h.IsTuple a vs.toArray), rfl, ?_⟩
      have W := Walks.tuple (prog := prog) (w := w) hA s₁.heap.objs.size a (Nat.ne_of_lt hlt) vs.toArray
      have e : vs.toArray.size = l.length := by simpa using hn
      rw [e] at W
      refine ⟨W, ⟨⟨_, Heap.get?_push_size _ rfl, rfl, rfl⟩, ⟨o, Heap.get?_push_of_some _ ho, hc, n, hd⟩⟩, fun b hb => ?_, fun b hb => ?_, fun b hb => ?_, fun b hb => ?_, fun i h' st b hb => ?_, fun i h' st b hb o e => ?still, fun i h' st => ?icls, s₁.heap, fun b o e => Heap.get?_push_of_some _ e, fun b hb => ?_, fun i v hi' hv => ?_⟩
      case still =>
        obtain ⟨⟨o', ho, _, hd⟩, _⟩ := st
        rw [List.mem_singleton.mp hb, ho] at e; cases e
        exact ⟨fun es ep q => (by rw [hd] at q; cases q), fun v q => (by rw [hd] at q; cases q)⟩
      case icls =>
        obtain ⟨⟨o, ho, hc, _⟩, _⟩ := st
        exact ⟨o, _, ho, hc, by decide⟩
      · rw [Heap.size_push]
        rcases List.mem_cons.mp hb with rfl | hb
        · exact Nat.lt_succ_self _
        · rw [List.mem_singleton.mp hb]; exact Nat.lt_succ_of_lt hlt
      · rw [List.mem_singleton.mp hb]
        cases e2 : s.heap.get? s₁.heap.objs.size with
        | none => rfl
        | some o => exact absurd (Heap.lt_size (Kp.hh k _ _ e2)) (Nat.lt_irrefl _)
      · rcases List.mem_cons.mp hb with rfl | hb
        · exact Live.fresh (Live.keeps S.live (Kp.hh k)) (get_size _)
        · rw [List.mem_singleton.mp hb]; exact ha
      · rcases List.mem_cons.mp hb with rfl | hb
        · exact ⟨_, Heap.get?_push_size _ rfl⟩
        · rw [List.mem_singleton.mp hb]; exact ⟨o, Heap.get?_push_of_some _ ho⟩
      · rw [List.mem_singleton.mp hb]
        obtain ⟨⟨o, ho, hc, _⟩, _⟩ := st
        exact ⟨o, ho, by rw [hc]; decide, by rw [hc]; decide⟩
      · rw [List.mem_singleton.mp hb]; exact get_size _
      · have hv' : vs[i]? = some v := by simpa using hv
        obtain ⟨p, hp, hr⟩ := Reps.get' ⟨hn, hi⟩ hv'
        exact ⟨p, hp, hr⟩) fun _ _ x => x

/-- the ints of a range -/
noncomputable def rangeP (a c : Int) (n : Nat) : List PV := (List.range n).map fun (i : Nat) => PV.int (a + (i : Int) * c)

theorem source_range {X : List Addr} {s s₁ : Shared} {r : Addr} {a b c : Int} {t u v : Tok} {n : Nat} (k : Keeps s s₁) (L : Live X s.heap) (hA : A.handled = Option.none) (hr : IsRange s₁.heap r a b c t u v) (hn : Builtin.Range.rangeSize a b c = n) (hsm : Builtin.Range.small a b c = true) :
    wpAny (model prog w) A (pyIter (.ref r)) (fun it s₂ => Keeps s s₂ ∧ ∃ I fp wr P St, it = .ref I ∧ Source prog w A X (rangeP a c n) s.heap s₂.heap I fp wr P St) (fun _ _ => False) s₁ := by
  refine wpAny_pyIter_range hr hsm ⟨Kp.trans k (Kp.push s₁ _ _), s₁.heap.objs.size, [s₁.heap.objs.size], [s₁.heap.objs.size], (fun i v => ∃ t, v = .int (a + i * c) t), (fun i h => IsRangeIter h s₁.heap.objs.size (a + (i : Nat) * c) (((rangeP a c n).length : Int) - (i : Nat)) c), rfl, ?_⟩
  have W := Walks.range (prog := prog) (w := w) hA s₁.heap.objs.size a c n
  have hl : (rangeP a c n).length = n := by simp [rangeP]
  rw [← hl] at W
  refine ⟨W, ?_, fun b hb => ?_, fun b hb => ?_, fun b hb => ?_, fun b hb => ?_, fun i h' st b hb => ?_, fun i h' st b hb o e => (by
    rw [List.mem_singleton.mp hb, show h'.get? s₁.heap.objs.size = _ from st] at e; cases e
    exact ⟨fun es ep q => (by cases q), fun v q => (by cases q)⟩), fun i h' st => ⟨_, "range_iterator", st, rfl, by decide⟩, s₁.heap, fun b o e => Heap.get?_push_of_some _ e, fun b hb => ?_, fun i v hi' hv => ?_⟩
  · have : ({ cls := .type "range_iterator", data := .fields #[rawInt a, rawInt (Builtin.Range.rangeSize a b c), rawInt c] } : Obj) = { cls := .type "range_iterator", dict := none, data := .fields #[rawInt (a + ((0 : Nat) : Int) * c), rawInt (((rangeP a c n).length : Int) - ((0 : Nat) : Int)), rawInt c], slots := #[] } := by
      rw [hn, hl]; simp
    show IsRangeIter _ _ _ _ _
    unfold IsRangeIter
    rw [← this]
    exact Heap.get?_push_size _ rfl
  · rw [List.mem_singleton.mp hb, Heap.size_push]; exact Nat.lt_succ_self _
  · rw [List.mem_singleton.mp hb]
    cases e2 : s.heap.get? s₁.heap.objs.size with
    | none => rfl
    | some o => exact absurd (Heap.lt_size (Kp.hh k _ _ e2)) (Nat.lt_irrefl _)
  · rw [List.mem_singleton.mp hb]; exact Live.fresh (Live.keeps L (Kp.hh k)) (get_size _)
  · rw [List.mem_singleton.mp hb]; exact ⟨_, Heap.get?_push_size _ rfl⟩
  · rw [List.mem_singleton.mp hb]
    exact ⟨_, st, (fun q => absurd (Value.type.inj q) (by decide)), (fun q => absurd (Value.type.inj q) (by decide))⟩
  · rw [List.mem_singleton.mp hb]; exact get_size _
  · obtain ⟨t, rfl⟩ := hv
    rw [hl] at hi'
    exact ⟨.int (a + i * c), by simp [rangeP, hi'], .int _ _⟩

theorem Op2.addI {a b : Int} : Op2 prog w A .Add (.int a) (.int b) (.int (a + b)) := fun X s va vb L ha hb => by
  cases ha with
  | int a t => cases hb with
    | int b u => exact PySem.P.add_int ⟨Kp.tok s _, .int _ _⟩
theorem Op2.subI {a b : Int} : Op2 prog w A .Sub (.int a) (.int b) (.int (a - b)) := fun X s va vb L ha hb => by
  cases ha with
  | int a t => cases hb with
    | int b u => exact PySem.P.sub_int ⟨Kp.tok s _, .int _ _⟩
theorem Op2.modI {a b : Int} (h : b ≠ 0) : Op2 prog w A .Mod (.int a) (.int b) (.int (a.fmod b)) := fun X s va vb L ha hb => by
  cases ha with
  | int a t => cases hb with
    | int b u => exact mod_int' h ⟨Kp.tok s _, .int _ _⟩
theorem Op2.divI {a b : Int} (h : b ≠ 0) (hs : b.natAbs < 1073741824) : Op2 prog w A .FloorDiv (.int a) (.int b) (.int (a.fdiv b)) := fun X s va vb L ha hb => by
  cases ha with
  | int a t => cases hb with
    | int b u => exact floordiv_int h ⟨Kp.tok s _, .int _ _⟩ (.inl (PyProof.noPylong_small hs))
theorem Op2.andI {a b : Int} : Op2 prog w A .BitAnd (.int a) (.int b) (.int (Builtin.bitAnd a b)) := fun X s va vb L ha hb => by
  cases ha with
  | int a t => cases hb with
    | int b u => exact and_int ⟨Kp.tok s _, .int _ _⟩
theorem Op2.orI {a b : Int} : Op2 prog w A .BitOr (.int a) (.int b) (.int (Builtin.bitOr a b)) := fun X s va vb L ha hb => by
  cases ha with
  | int a t => cases hb with
    | int b u => exact or_int ⟨Kp.tok s _, .int _ _⟩
theorem Op2.shrI {a b : Int} (h : 0 ≤ b) : Op2 prog w A .RShift (.int a) (.int b) (.int (a.fdiv (2 ^ b.toNat))) := fun X s va vb L ha hb => by
  cases ha with
  | int a t => cases hb with
    | int b u => exact rshift_int h ⟨Kp.tok s _, .int _ _⟩
theorem Op2.shlI {a b : Int} (h : 0 ≤ b) (h2 : b ≤ 1000000) (ha : a.natAbs < 2 ^ 64) : Op2 prog w A .LShift (.int a) (.int b) (.int (a * 2 ^ b.toNat)) := fun X s va vb L hra hb => by
  cases hra with
  | int a t => cases hb with
    | int b u => exact lshift_int_small h h2 ha ⟨Kp.tok s _, .int _ _⟩
theorem Op2I.addI {a b : Int} : Op2I prog w A .Add (.int a) (.int b) (.int (a + b)) := fun X s va vb L ha hb => by
  cases ha with
  | int a t => cases hb with
    | int b u => exact PySem.P.iadd_int ⟨Kp.tok s _, .int _ _⟩
theorem Cmp.eqI {a b : Int} : Cmp prog w A .Eq (.int a) (.int b) (a == b) := fun X s va vb L ha hb => by
  cases ha with
  | int a t => cases hb with
    | int b u => exact PySem.P.eq_int ⟨Kp.refl s, rfl⟩
theorem Cmp.neI {a b : Int} : Cmp prog w A .NotEq (.int a) (.int b) (a != b) := fun X s va vb L ha hb => by
  cases ha with
  | int a t => cases hb with
    | int b u => exact PySem.P.ne_int ⟨Kp.refl s, rfl⟩
theorem Cmp.ltI {a b : Int} : Cmp prog w A .Lt (.int a) (.int b) (decide (a < b)) := fun X s va vb L ha hb => by
  cases ha with
  | int a t => cases hb with
    | int b u => exact PySem.P.lt_int ⟨Kp.refl s, rfl⟩
theorem Cmp.gtI {a b : Int} : Cmp prog w A .Gt (.int a) (.int b) (decide (a > b)) := fun X s va vb L ha hb => by
  cases ha with
  | int a t => cases hb with
    | int b u => exact PySem.P.gt_int ⟨Kp.refl s, rfl⟩
end
end

-- L10
section
open PySem PySem.W PyProof.Rows PySem.Calls
set_option maxRecDepth 10000
section
variable {prog : Program} {w : World} {A : Around} {env : Env} {h₀ : Heap} {X₀ : List Addr} {ρ : PEnv} {Q : PF → PEnv → Prop}

/-- what an iterator hands on to a target -/
structure Src (prog : Program) (w : World) (A : Around) (tgt : Expr) (fb : Bool) (X : List Addr) (l : List PV) (h h₂ : Heap) (I : Addr) (fp wr : List Addr) (St : Nat → Heap → Prop) : Prop where
  sub : ∀ b ∈ wr, b ∈ fp
  frame : ∀ i h h', St i h → (∀ b ∈ fp, ∀ o, h.get? b = some o → h'.get? b = some o) → St i h'
  start : St 0 h₂
  new : ∀ b ∈ wr, h.get? b = Option.none
  off : ∀ b ∈ fp, b ∉ X
  fpl : ∀ b ∈ fp, ∃ o, h₂.get? b = some o
  wl : ∀ i h, St i h → ∀ b ∈ wr, ∃ o, h.get? b = some o ∧ Still o
  odd : fb = true → ∀ i h, St i h → ∀ b ∈ wr, ∃ o, h.get? b = some o ∧ o.cls ≠ .type "list" ∧ o.cls ≠ .type "tuple"
  item : ∀ i (s : Shared) (Q : Option Value → Shared → Prop) (E : Value → Shared → Prop), i < l.length → St i s.heap →
    (∀ a o, a ∉ X → a ∉ wr → h₂.get? a = some o → s.heap.get? a = some o) →
    (∀ v h' tk, (∀ (Q' : Unit → Shared → Prop) (E' : Value → Shared → Prop), (∀ h'' p, l[i]? = some p → St (i + 1) h'' → (∀ b o, b ∉ wr → s.heap.get? b = some o → h''.get? b = some o) →
        (∀ X', (∀ a ∈ X', a ∈ X ∨ a ∈ wr ∨ h₂.get? a = Option.none) → Live X' s.heap → Rep h'' X' v p) → Q' () { s with heap := h'', toks := tk }) →
        wpAny (model prog w) A (letOwnedTupleGo tgt (.ref I) v) Q' E' { s with heap := h', toks := tk }) → Q (some v) { s with heap := h', toks := tk }) →
    wpAny (model prog w) A (pyNext (.ref I)) Q E s
  done : ∀ (s : Shared) (Q : Option Value → Shared → Prop) (E : Value → Shared → Prop), St l.length s.heap →
    (∀ h' tk, (∀ b o, b ∉ wr → s.heap.get? b = some o → h'.get? b = some o) → Q Option.none { s with heap := h', toks := tk }) → wpAny (model prog w) A (pyNext (.ref I)) Q E s
  self : ∀ i (s : Shared) (Q : Value → Shared → Prop) (E : Value → Shared → Prop), St i s.heap → Q (.ref I) s → wpAny (model prog w) A (pyIter (.ref I)) Q E s

noncomputable def EvSrc (prog : Program) (w : World) (A : Around) (env : Env) (h₀ : Heap) (ρ : PEnv) (tgt : Expr) (fb : Bool) (e : Expr) (l : List PV) : Prop :=
  ∀ X s, Sit env ρ X h₀ s.heap → wpAny (model prog w) A (eval e env) (fun xv s₁ => wpAny (model prog w) A (pyIter xv) (fun it s₂ => Keeps s s₂ ∧ ∃ I fp wr St, it = .ref I ∧ Src prog w A tgt fb X l s.heap s₂.heap I fp wr St) (fun _ _ => False) s₁) (fun _ _ => False) s

theorem go_plain {tgt : Expr} {s : Shared} {I : Addr} {v : Value} {o : Obj} {n : String} {Q : Unit → Shared → Prop} {E : Value → Shared → Prop} (ho : s.heap.get? I = some o) (hc : o.cls = .type n)
    (hn : ["enumerate", "zip", "dict_itemiterator", "dict_reverseitemiterator", "odict_iterator", "itertools.zip_longest", "itertools.pairwise"].contains n = false) (h : Q () s) :
    wpAny (model prog w) A (letOwnedTupleGo tgt (.ref I) v) Q E s := by
  have key : wpAny (model prog w) A (do
      let (.ref r, .ref a) := (Value.ref I, v) | return
      let o ← load r
      match o.cls, o.data with
      | .type n, .fields vs =>
        if ["enumerate", "zip", "dict_itemiterator", "dict_reverseitemiterator", "odict_iterator", "itertools.zip_longest", "itertools.pairwise"].contains n && vs[0]? == some (rawInt a) then
          rule "for.unpacks-the-owned-tuple"
          updateField r 0 .none
      | _, _ => pure ()) Q E s := by
    cases v with
    | ref a =>
      refine wpAny_bind (wpAny_load ho ?_)
      rw [hc]
      split
      · rename_i n' vs hq _
        cases hq
        rw [hn, Bool.false_and]
        exact wpAny_pure h
      · exact wpAny_pure h
    | _ => exact wpAny_pure h
  unfold letOwnedTupleGo
  split
  · exact key
  · exact key
  · exact wpAny_pure h

theorem Src.ofSource {tgt : Expr} {X : List Addr} {l : List PV} {h h₂ : Heap} {I : Addr} {fp wr : List Addr} {P : Nat → Value → Prop} {St : Nat → Heap → Prop} (O : Source prog w A X l h h₂ I fp wr P St) (fb : Bool) :
    Src prog w A tgt fb X l h h₂ I fp wr St where
  sub := O.walks.sub
  frame := O.walks.frame
  start := O.start
  new := O.new
  off := O.off
  fpl := O.fpl
  wl := fun i h st b hb => let ⟨o, e, _⟩ := O.slive i h st b hb; ⟨o, e, O.still i h st b hb o e⟩
  odd := fun _ => O.slive
  item := fun i s Q E hi st hk hQ => O.walks.item i s Q E hi st fun v h' tk hP st' hk' => hQ v h' tk fun Q' E' h'' => by
    obtain ⟨o, n, ho, hcl, hn⟩ := O.icls _ _ st'
    obtain ⟨h₁, hb1, hb2, items⟩ := O.items
    obtain ⟨p, hp, hr⟩ := items i v hi hP
    exact go_plain ho hcl hn (h'' h' p hp st' hk' fun X' hX' L => hr.map fun a o ha ho => by
      have h2 := hb1 a o ho
      have hw : a ∉ wr := fun q => by rw [hb2 a q] at ho; cases ho
      refine ⟨fun q => ?_, hk' a o hw (hk a o ha hw h2)⟩
      rcases hX' a q with q | q | q
      · exact ha q
      · exact hw q
      · rw [h2] at q; cases q)
  done := O.walks.done
  self := O.walks.self

theorem EvSrc.ofIt {tgt : Expr} {fb : Bool} {e : Expr} {l : List PV} (h : EvIt prog w A env h₀ ρ e l) : EvSrc prog w A env h₀ ρ tgt fb e l := fun X s S =>
  wpAny_mono (h X s S) (fun xv s₁ h₁ => wpAny_mono h₁ (fun it s₂ h₂ => by
    obtain ⟨k, I, fp, wr, P, St, rfl, O⟩ := h₂
    exact ⟨k, I, fp, wr, St, rfl, Src.ofSource O fb⟩) fun _ _ x => x) fun _ _ x => x

noncomputable def tgtHas : Expr → Str → Bool
  | .Name x _, y => x == y
  | .Tuple es _ _, y => es.any fun e => match e with
    | .Name x _ => x == y
    | _ => false
  | _, _ => false

/-- a store to a target -/
noncomputable def AsgT (prog : Program) (w : World) (A : Around) (env : Env) (h₀ : Heap) (ρ : PEnv) (tgt : Expr) (p : PV) (ρ' : PEnv) : Prop :=
  ∀ X s v, Sit env ρ X h₀ s.heap → Rep s.heap X v p → wpAny (model prog w) A (assign tgt env v) (fun _ s' => ∃ h' tk, s' = { s with heap := h', toks := tk } ∧ Sit env ρ' X h₀ h' ∧
    (∀ a o, a ∉ X → s.heap.get? a = some o → h'.get? a = some o) ∧ (∀ a o, s.heap.get? a = some o → Still o → h'.get? a = some o) ∧
    (∀ a o, s.heap.get? a = some o → a ≠ env.locals → (∀ x c, tgtHas tgt x = true → env.cells.lookup x = some c → a ≠ c) → h'.get? a = some o)) (fun _ _ => False) s

theorem AsgT.name {x : Str} {px : Pos} {p : PV} (hk : CanStore env x) : AsgT prog w A env h₀ ρ (.Name x px) p ((x, .val p) :: ρ) := fun X s v S hr =>
  wpAny_assign_Name (wp_store S hk fun h' tk st => ⟨h', tk, rfl, S.stored (sv := .val p) st hr, st.keepX, st.still, fun a o ho h1 h2 => st.mine a o ho h1 fun c hc => h2 x c (by simp [tgtHas]) hc⟩)

theorem AsgT.pair {x y : Str} {px py tp : Pos} {k : Nat} {p q : PV} (hA : A.handled = Option.none) (hx : CanStore env x) (hy : CanStore env y) :
    AsgT prog w A env h₀ ρ (.Tuple [.Name x px, .Name y py] k tp) (.tuple [p, q]) ((y, .val q) :: (x, .val p) :: ρ) := fun X s v S hr => by
  cases hr with
  | @tuple a vs _ ha ht hn hi =>
    have hus : Reps s.heap X vs [p, q] := ⟨hn, hi⟩
    obtain ⟨u, us', rfl, hu, hr1⟩ := hus.cons_inv
    obtain ⟨u', us'', rfl, hu', hr2⟩ := hr1.cons_inv
    obtain rfl := hr2.nil_inv
    refine assign_Tuple_tuple hA ht rfl rfl fun h₁ hk => ?_
    have kk : ∀ b o, s.heap.get? b = some o → h₁.get? b = some o := fun b o e => hk b o (Nat.ne_of_lt (Heap.lt_size e)) e
    have S₁ := S.keeps kk
    show wpAny _ _ (assignInOrder [assign (.Name x px) env, assign (.Name y py) env] [u, u']) _ _ _
    refine assignInOrder_cons ?_
    refine wpAny_mono (AsgT.name hx X { s with heap := h₁ } u S₁ (hu.keeps kk)) (fun _ s₂ h₂ => ?_) fun _ _ e => e
    obtain ⟨h₂, tk₂, rfl, S₂, k₂, st₂, m₂⟩ := h₂
    refine assignInOrder_cons ?_
    refine wpAny_mono (AsgT.name hy X { s with heap := h₂, toks := tk₂ } u' S₂ ((hu'.keeps kk).but k₂)) (fun _ s₃ h₃ => ?_) fun _ _ e => e
    obtain ⟨h₃, tk₃, rfl, S₃, k₃, st₃, m₃⟩ := h₃
    exact assignInOrder_nil ⟨h₃, tk₃, rfl, S₃, fun a o ha e => k₃ a o ha (k₂ a o ha (kk a o e)), fun a o e st => st₃ a o (st₂ a o (kk a o e) st) st, fun a o e h1 h2 => m₃ a o (m₂ a o (kk a o e) h1 fun z c hz hc => h2 z c (by have : (x == z) = true := hz; simp [tgtHas, this]) hc) h1 fun z c hz hc => h2 z c (by have : (y == z) = true := hz; simp [tgtHas, this]) hc⟩

end

/-- a new exception object, not yet noted by a frame -/
noncomputable def NewErr (T : String) (X : List Addr) (h h' : Heap) (e : Value) : Prop := ∃ a ob vs a0, e = .ref a ∧ (a ∈ X ∨ h.get? a = Option.none) ∧ h'.get? a = some ob ∧ ob.cls = .type T ∧ ob.data = .fields vs ∧ vs[1]? = some .none ∧ vs[0]? = some a0

/-- where a statement's run ends in a raise -/
noncomputable def Raised (T : String) (env : Env) (h₀ : Heap) (X₀ X : List Addr) (R : PEnv → Prop) (s : Shared) (e : Value) (s' : Shared) : Prop :=
  Ends env h₀ X₀ X (fun _ ρ => R ρ) s .next s' ∧ NewErr T X s.heap s'.heap e

theorem Raised.after {T : String} {env : Env} {h₀ : Heap} {X₀ X X₁ : List Addr} {R : PEnv → Prop} {s s₁ s' : Shared} {e : Value} (r : Raised T env h₀ X₀ X₁ R s₁ e s') (hs : ∃ h' tk, s₁ = { s with heap := h', toks := tk })
    (hk : ∀ a o, a ∉ X → s.heap.get? a = some o → s₁.heap.get? a = some o) (hx : ∀ a, a ∈ X₁ → a ∈ X ∨ s.heap.get? a = Option.none) : Raised T env h₀ X₀ X R s e s' := by
  obtain ⟨e1, a, ob, vs, a0, rfl, hn, r⟩ := r
  refine ⟨e1.after hs hk hx, a, ob, vs, a0, rfl, ?_, r⟩
  rcases hn with hn | hn
  · exact hx a hn
  · by_cases hX : a ∈ X
    · exact .inl hX
    · refine .inr ?_
      cases q : s.heap.get? a with
      | none => rfl
      | some o => rw [hk a o hX q] at hn; cases hn

/-- a statement list that may raise -/
noncomputable def TrE (T : String) (prog : Program) (w : World) (A : Around) (env : Env) (h₀ : Heap) (X₀ : List Addr) (ρ : PEnv) (ss : List Stmt) (Q : PF → PEnv → Prop) (R : PEnv → Prop) : Prop :=
  ∀ X s, (∀ x ∈ X₀, x ∈ X) → Sit env ρ X h₀ s.heap → wpAny (model prog w) A (execs ss env) (Ends env h₀ X₀ X Q s) (Raised T env h₀ X₀ X R s) s

section
variable {prog : Program} {w : World} {A : Around} {env : Env} {h₀ : Heap} {X₀ : List Addr} {ρ : PEnv} {Q : PF → PEnv → Prop} {R : PEnv → Prop} {T : String} {E : Value → Shared → Prop}
/-- a for over any target, from one state -/
theorem forGE_at {tgt : Expr} {pos : Pos} {iter : Expr} {body orelse : List Stmt} {l : List PV} {X : List Addr} {s : Shared} (I : Nat → PEnv → Prop)
    (hit : wpAny (model prog w) A (eval iter env) (fun xv s₁ => wpAny (model prog w) A (pyIter xv) (fun it s₂ => Keeps s s₂ ∧ ∃ I fp wr St, it = .ref I ∧ Src prog w A tgt true X l s.heap s₂.heap I fp wr St) (fun _ _ => False) s₁) (fun _ _ => False) s)
    (h0 : I 0 ρ) (turn : ∀ i p ρ', l[i]? = some p → I i ρ' → ∃ ρ₁, AsgT prog w A env h₀ ρ' tgt p ρ₁ ∧ TrE T prog w A env h₀ X₀ ρ₁ body (fun pf ρ₂ => match pf with
      | .next => I (i + 1) ρ₂
      | .cont => I (i + 1) ρ₂
      | .brk => Q .next ρ₂
      | .ret r => Q (.ret r) ρ₂) R)
    (done : ∀ ρ', I l.length ρ' → Tr prog w A env h₀ X₀ ρ' orelse Q) (hX : ∀ x ∈ X₀, x ∈ X) (S : Sit env ρ X h₀ s.heap) (hP : PassesOwn (model prog w) A env E) (hE : ∀ x s', Raised T env h₀ X₀ X R s x s' → E x s') (hs : ∀ x, foldedSetIterable iter env x = pure x) :
    wpAny (model prog w) A (exec (.For tgt iter body orelse pos) env) (Ends env h₀ X₀ X Q s) E s := by
  refine wpAny_For (hs := hs) (wpAny_mono hit (fun xv s₁ h₁ => wpAny_mono h₁ (fun it s₂ h₂ => ?_) fun _ _ e => e.elim) fun _ _ e => e.elim)
  obtain ⟨k₂, J, fp, wr, St, rfl, O⟩ := h₂
  have hh₂ := Kp.hh k₂
  obtain ⟨hp₂, tk₂, rfl, _⟩ := k₂
  have S₂ := S.keeps hh₂
  have wX : ∀ b ∈ wr, b ∉ X := fun b hb => O.off b (O.sub b hb)
  have wN : ∀ b ∈ wr, h₀.get? b = Option.none := fun b hb => by
    cases e : h₀.get? b with
    | none => rfl
    | some o => have := O.new b hb; rw [S.keep b o e] at this; cases this
  refine codeAny_forLoop_any
    (fun k s' => ∃ h' tk i ρ' X', s' = { s with heap := h', toks := tk } ∧ St i h' ∧ I i ρ' ∧ (∀ x ∈ X₀, x ∈ X') ∧ Sit env ρ' X' h₀ h' ∧ (∀ a, a ∈ X' → a ∈ X ∨ hp₂.get? a = Option.none) ∧
      (∀ a o, a ∉ X → a ∉ wr → hp₂.get? a = some o → h'.get? a = some o) ∧ i ≤ l.length ∧ k = l.length + 1 - i) ?_ (l.length + 1)
    ⟨hp₂, tk₂, 0, ρ, X, rfl, O.start, h0, hX, S₂, fun a ha => .inl ha, fun a o _ _ e => e, Nat.zero_le _, rfl⟩
  rintro k s' ⟨h', tk, i, ρ', X', rfl, hst, hI, hX', S', hsub, hkp, hi, rfl⟩
  have fX : ∀ b ∈ fp, b ∉ X' := fun b hb hm => by
    rcases hsub b hm with q | q
    · exact O.off b hb q
    · obtain ⟨o, ho⟩ := O.fpl b hb; rw [q] at ho; cases ho
  have wX' : ∀ b ∈ wr, b ∉ X' := fun b hb => fX b (O.sub b hb)
  have fin : ∀ {f : Flow} {s'' : Shared} {X₁ : List Addr} {h₁ : Heap} {tk₁ : Nat} {Q' : PF → PEnv → Prop}, Ends env h₀ X₀ X₁ Q' { s with heap := h₁, toks := tk₁ } f s'' → (∀ a, a ∈ X₁ → a ∈ X ∨ hp₂.get? a = Option.none) →
      (∀ a o, a ∉ X → a ∉ wr → hp₂.get? a = some o → h₁.get? a = some o) → Ends env h₀ X₀ X Q' s f s'' := fun e hx hkk => by
    refine e.after ⟨_, _, rfl⟩ (fun a o ha ho => hkk a o ha (fun q => by rw [O.new a q] at ho; cases ho) (hh₂ a o ho)) fun a ha => ?_
    rcases hx a ha with q | q
    · exact .inl q
    · refine .inr ?_
      cases e2 : s.heap.get? a with
      | none => rfl
      | some o => rw [hh₂ a o e2] at q; cases q
  have finR : ∀ {x : Value} {s'' : Shared} {X₁ : List Addr} {h₁ : Heap} {tk₁ : Nat}, Raised T env h₀ X₀ X₁ R { s with heap := h₁, toks := tk₁ } x s'' → (∀ a, a ∈ X₁ → a ∈ X ∨ hp₂.get? a = Option.none) →
      (∀ a o, a ∉ X → a ∉ wr → hp₂.get? a = some o → h₁.get? a = some o) → Raised T env h₀ X₀ X R s x s'' := fun e hx hkk => by
    refine e.after ⟨_, _, rfl⟩ (fun a o ha ho => hkk a o ha (fun q => by rw [O.new a q] at ho; cases ho) (hh₂ a o ho)) fun a ha => ?_
    rcases hx a ha with q | q
    · exact .inl q
    · refine .inr ?_
      cases e2 : s.heap.get? a with
      | none => rfl
      | some o => rw [hh₂ a o e2] at q; cases q
  by_cases hlt : i < l.length
  · refine O.item i _ _ _ hlt hst hkp fun v h₁ tk₁ hgo => hgo _ _ fun h₁ p hp' hst₁ hk₁ hrp => ?_
    have S₁ : Sit env ρ' X' h₀ h₁ := S'.iter (Y := wr) (O.odd rfl i h' hst) wX' wN hk₁
    have kk : ∀ a o, a ∉ X → a ∉ wr → hp₂.get? a = some o → h₁.get? a = some o := fun a o h1 h2 h3 => hk₁ a o h2 (hkp a o h1 h2 h3)
    have hrep₁ : Rep h₁ X' v p := hrp X' (fun a ha => (hsub a ha).elim .inl fun q => .inr (.inr q)) S'.live
    obtain ⟨ρ₁, hasg, hbody⟩ := turn i p ρ' hp' hI
    refine wpAny_mono (hasg X' { s with heap := h₁, toks := tk₁ } v S₁ hrep₁) (fun _ s₃ h₃ => ?_) fun _ _ e => e.elim
    obtain ⟨h₂, tk₂, rfl, S₃, st, _, _⟩ := h₃
    have hst₂ : St (i + 1) h₂ := O.frame _ _ _ hst₁ fun b hb o e => st b o (fX b hb) e
    have kk₂ : ∀ a o, a ∉ X → a ∉ wr → hp₂.get? a = some o → h₂.get? a = some o := fun a o h1 h2 h3 => st a o (fun q => by
      rcases hsub a q with q' | q'
      · exact h1 q'
      · rw [h3] at q'; cases q') (kk a o h1 h2 h3)
    refine wpAny_mono (hbody X' { s with heap := h₂, toks := tk₂ } hX' S₃) (fun f s₄ e => ?_) fun x s₄ e => hP x s₄ (hE x s₄ (finR e hsub kk₂))
    have e' := e
    obtain ⟨⟨h₄, tk₄, rfl⟩, hk₄, pf, ρ₂, X₂, hq, hX₂, S₄, hsub₂, hf⟩ := e'
    have again : I (i + 1) ρ₂ → ∃ m, m < l.length + 1 - i ∧ ∃ h' tk i ρ' X', ({ s with heap := h₄, toks := tk₄ } : Shared) = { s with heap := h', toks := tk } ∧ St i h' ∧ I i ρ' ∧ (∀ x ∈ X₀, x ∈ X') ∧ Sit env ρ' X' h₀ h' ∧ (∀ a, a ∈ X' → a ∈ X ∨ hp₂.get? a = Option.none) ∧
      (∀ a o, a ∉ X → a ∉ wr → hp₂.get? a = some o → h'.get? a = some o) ∧ i ≤ l.length ∧ m = l.length + 1 - i := fun hI' => by
      refine ⟨l.length + 1 - (i + 1), by omega, h₄, tk₄, i + 1, ρ₂, X₂, rfl, O.frame _ _ _ hst₂ fun b hb o e => hk₄ b o (fX b hb) e, hI', hX₂, S₄, fun a ha => ?_, fun a o h1 h2 h3 => hk₄ a o (fun q => ?_) (kk₂ a o h1 h2 h3), hlt, rfl⟩
      · by_cases hq1 : a ∈ X
        · exact .inl hq1
        · rcases hsub₂ a ha with q | q
          · exact hsub a q
          · refine .inr ?_
            cases e3 : hp₂.get? a with
            | none => rfl
            | some o =>
              by_cases hw : a ∈ wr
              · obtain ⟨o', ho', _⟩ := O.wl _ _ hst₂ a hw
                dsimp only at q
                rw [ho'] at q; cases q
              · have := kk₂ a o hq1 hw e3
                dsimp only at q
                rw [this] at q; cases q
      · rcases hsub a q with q' | q'
        · exact h1 q'
        · rw [h3] at q'; cases q'
    have last : ∀ {f : Flow} {pf : PF}, Q pf ρ₂ → FlowIs h₄ X₀ f pf → Ends env h₀ X₀ X Q s f { s with heap := h₄, toks := tk₄ } := fun hq' hf' =>
      fin (X₁ := X') (h₁ := h₂) (tk₁ := tk₂) ⟨⟨h₄, tk₄, rfl⟩, hk₄, _, ρ₂, X₂, hq', hX₂, S₄, hsub₂, hf'⟩ hsub kk₂
    cases f with
    | next => cases pf with
      | next => exact again hq
      | brk => exact hf.elim
      | cont => exact hf.elim
      | ret p => exact hf.elim
    | cont => cases pf with
      | cont => exact again hq
      | brk => exact hf.elim
      | next => exact hf.elim
      | ret p => exact hf.elim
    | brk => cases pf with
      | brk => exact last (pf := .next) hq trivial
      | cont => exact hf.elim
      | next => exact hf.elim
      | ret p => exact hf.elim
    | ret u => cases pf with
      | ret p => exact last (pf := .ret p) hq hf
      | cont => exact hf.elim
      | next => exact hf.elim
      | brk => exact hf.elim
  · have hin : i = l.length := by omega
    subst hin
    refine O.done _ _ _ hst fun h₁ tk₁ hk₁ => ?_
    have S₁ : Sit env ρ' X' h₀ h₁ := S'.iter (Y := wr) (O.odd rfl _ h' hst) wX' wN hk₁
    refine wpAny_mono (done ρ' hI X' { s with heap := h₁, toks := tk₁ } hX' S₁) (fun f s₄ e => ?_) fun _ _ e => e.elim
    exact fin e hsub fun a o h1 h2 h3 => hk₁ a o h2 (hkp a o h1 h2 h3)

end

section
variable {prog : Program} {w : World} {A : Around} {env : Env} {h₀ : Heap} {X₀ : List Addr} {ρ : PEnv} {Q : PF → PEnv → Prop}
/-- a for over any target, from one state -/
theorem forG_at {tgt : Expr} {pos : Pos} {iter : Expr} {body orelse : List Stmt} {l : List PV} {X : List Addr} {s : Shared} (I : Nat → PEnv → Prop)
    (hit : wpAny (model prog w) A (eval iter env) (fun xv s₁ => wpAny (model prog w) A (pyIter xv) (fun it s₂ => Keeps s s₂ ∧ ∃ I fp wr St, it = .ref I ∧ Src prog w A tgt true X l s.heap s₂.heap I fp wr St) (fun _ _ => False) s₁) (fun _ _ => False) s)
    (h0 : I 0 ρ) (turn : ∀ i p ρ', l[i]? = some p → I i ρ' → ∃ ρ₁, AsgT prog w A env h₀ ρ' tgt p ρ₁ ∧ Tr prog w A env h₀ X₀ ρ₁ body (fun pf ρ₂ => match pf with
      | .next => I (i + 1) ρ₂
      | .cont => I (i + 1) ρ₂
      | .brk => Q .next ρ₂
      | .ret r => Q (.ret r) ρ₂))
    (done : ∀ ρ', I l.length ρ' → Tr prog w A env h₀ X₀ ρ' orelse Q) (hX : ∀ x ∈ X₀, x ∈ X) (S : Sit env ρ X h₀ s.heap) (hs : ∀ x, foldedSetIterable iter env x = pure x) :
    wpAny (model prog w) A (exec (.For tgt iter body orelse pos) env) (Ends env h₀ X₀ X Q s) (fun _ _ => False) s := 
  forGE_at (T := "ValueError") (R := fun _ => False) (E := fun _ _ => False) I hit h0 (fun i p ρ' hp hI => let ⟨ρ₁, a, b⟩ := turn i p ρ' hp hI
    ⟨ρ₁, a, fun X s hX S => wpAny_mono (b X s hX S) (fun _ _ x => x) fun _ _ x => x.elim⟩) done hX S PassesOwn.never
    (fun x s' r => by obtain ⟨⟨_, _, _, _, _, hR, _⟩, _⟩ := r; exact hR) hs

/-- a for over any target -/
theorem TrS.forG {tgt : Expr} {pos : Pos} {iter : Expr} {body orelse : List Stmt} {l : List PV} (I : Nat → PEnv → Prop) (hit : EvSrc prog w A env h₀ ρ tgt true iter l)
    (h0 : I 0 ρ) (turn : ∀ i p ρ', l[i]? = some p → I i ρ' → ∃ ρ₁, AsgT prog w A env h₀ ρ' tgt p ρ₁ ∧ Tr prog w A env h₀ X₀ ρ₁ body (fun pf ρ₂ => match pf with
      | .next => I (i + 1) ρ₂
      | .cont => I (i + 1) ρ₂
      | .brk => Q .next ρ₂
      | .ret r => Q (.ret r) ρ₂))
    (done : ∀ ρ', I l.length ρ' → Tr prog w A env h₀ X₀ ρ' orelse Q) (hs : ∀ x, foldedSetIterable iter env x = pure x := by intro _; rfl) :
    TrS prog w A env h₀ X₀ ρ (.For tgt iter body orelse pos) Q := fun X s hX S => forG_at I (hit X s S) h0 turn done hX S hs

/-- what stood at the start may be iterated over, whatever X is -/
theorem TrS.forG0 {tgt : Expr} {pos : Pos} {iter : Expr} {body orelse : List Stmt} {l : List PV} (I : Nat → PEnv → Prop)
    (hit : ∀ X s, (∀ a ∈ X, h₀.get? a = Option.none) → Sit env ρ X h₀ s.heap → wpAny (model prog w) A (eval iter env) (fun xv s₁ => wpAny (model prog w) A (pyIter xv) (fun it s₂ => Keeps s s₂ ∧ ∃ I fp wr St, it = .ref I ∧ Src prog w A tgt true X l s.heap s₂.heap I fp wr St) (fun _ _ => False) s₁) (fun _ _ => False) s)
    (h0 : I 0 ρ) (turn : ∀ i p ρ', l[i]? = some p → I i ρ' → ∃ ρ₁, AsgT prog w A env h₀ ρ' tgt p ρ₁ ∧ Tr prog w A env h₀ [] ρ₁ body (fun pf ρ₂ => match pf with
      | .next => I (i + 1) ρ₂
      | .cont => I (i + 1) ρ₂
      | .brk => Q .next ρ₂
      | .ret r => Q (.ret r) ρ₂))
    (done : ∀ ρ', I l.length ρ' → Tr prog w A env h₀ [] ρ' orelse Q) (hs : ∀ x, foldedSetIterable iter env x = pure x := by intro _; rfl) :
    TrS prog w A env h₀ [] ρ (.For tgt iter body orelse pos) Q := fun X s hX S => by
  have hf : ∀ a, a ∈ X.filter (fun a => (h₀.get? a).isNone) ↔ a ∈ X ∧ h₀.get? a = Option.none := fun a => by
    rw [List.mem_filter]; simp
  have S' : Sit env ρ (X.filter fun a => (h₀.get? a).isNone) h₀ s.heap := {
    kind := S.kind
    glob := S.glob
    blt := S.blt
    keep := S.keep
    live := fun x hx => S.live x ((hf x).mp hx).1
    loc := (hf _).mpr ⟨S.loc, S.locN⟩
    locN := S.locN
    ns := S.ns
    cel := fun x c e => let ⟨a, b, r⟩ := S.cel x c e; ⟨(hf _).mpr ⟨a, b⟩, b, r⟩
    inj := S.inj
    val := fun x p e => let ⟨v, hv, hr⟩ := S.val x p e; ⟨v, hv, hr.less fun a ha => ((hf a).mp ha).1⟩
    own := fun x l e => let ⟨a, hv, ha, haN, ⟨vs, hl, hr⟩, hd⟩ := S.own x l e; ⟨a, hv, (hf _).mpr ⟨ha, haN⟩, haN, ⟨vs, hl, hr.less fun a ha => ((hf a).mp ha).1⟩, hd⟩ }
  refine wpAny_mono (forG_at (X₀ := []) I (hit _ s (fun a ha => ((hf a).mp ha).2) S') h0 turn done (fun x hx => by cases hx) S' hs) (fun f s' e => ?_) fun _ _ e => e
  obtain ⟨h1, h2, pf, ρ', X', hq, h3, h4, h5, h6⟩ := e
  exact ⟨h1, fun a o ha ho => h2 a o (fun q => ha ((hf a).mp q).1) ho, pf, ρ', X', hq, h3, h4, fun a ha => (h5 a ha).imp (fun q => ((hf a).mp q).1) id, h6⟩
/-- a for over a name -/
theorem TrS.for {x : Str} {px pos : Pos} {iter : Expr} {body orelse : List Stmt} {l : List PV} (I : Nat → PEnv → Prop) (hit : EvIt prog w A env h₀ ρ iter l) (hk : CanStore env x)
    (h0 : I 0 ρ) (turn : ∀ i p ρ', l[i]? = some p → I i ρ' → Tr prog w A env h₀ X₀ ((x, .val p) :: ρ') body (fun pf ρ₂ => match pf with
      | .next => I (i + 1) ρ₂
      | .cont => I (i + 1) ρ₂
      | .brk => Q .next ρ₂
      | .ret r => Q (.ret r) ρ₂))
    (done : ∀ ρ', I l.length ρ' → Tr prog w A env h₀ X₀ ρ' orelse Q) (hs : ∀ x, foldedSetIterable iter env x = pure x := by intro _; rfl) :
    TrS prog w A env h₀ X₀ ρ (.For (.Name x px) iter body orelse pos) Q :=
  TrS.forG I (EvSrc.ofIt hit) h0 (fun i p ρ' hp hI => ⟨_, AsgT.name hk, turn i p ρ' hp hI⟩) done hs

end
end

-- L11
section
open PySem PySem.W PyProof.Rows PySem.Calls
set_option maxRecDepth 10000
section
variable {prog : Program} {w : World} {A : Around} {env cenv : Env} {h₀ : Heap} {ρ ρc : PEnv}

theorem Sit.moreL {X Y : List Addr} {h h' : Heap} (S : Sit env ρ X h₀ h) (hh : ∀ b o, h.get? b = some o → h'.get? b = some o) (hn : ∀ b ∈ Y, h.get? b = Option.none) (ha : ∀ b ∈ Y, ∃ o, h'.get? b = some o) : Sit env ρ (Y ++ X) h₀ h' := by
  have S' := S.keeps hh
  have sub : ∀ a, a ∈ X → a ∈ Y ++ X := fun a h => List.mem_append.mpr (.inr h)
  have hr : ∀ {v p}, Rep h X v p → Rep h' (Y ++ X) v p := fun r => r.map fun b o hb ho => ⟨fun q => by
    rcases List.mem_append.mp q with q | q
    · rw [hn b q] at ho; cases ho
    · exact hb q, hh b o ho⟩
  exact {
    kind := S'.kind
    glob := S'.glob
    blt := S'.blt
    keep := S'.keep
    live := fun x hx => by
      rcases List.mem_append.mp hx with hx | hx
      · exact ha x hx
      · exact S'.live x hx
    loc := sub _ S'.loc
    locN := S'.locN
    ns := S'.ns
    cel := fun x c e => let ⟨a, b, c⟩ := S'.cel x c e; ⟨sub _ a, b, c⟩
    inj := S'.inj
    val := fun x p e => let ⟨v, hv, hr'⟩ := S.val x p e; ⟨v, hv.keeps hh, hr hr'⟩
    own := fun x l e => by
      obtain ⟨b, hv, hb, hbN, ⟨vs, hl, hr'⟩, hd⟩ := S.own x l e
      obtain ⟨b', hv', _, _, _, hd'⟩ := S'.own x l e
      have : Value.ref b = .ref b' := (hv.keeps hh).fun hv'
      cases this
      exact ⟨b, hv.keeps hh, sub _ hb, hbN, ⟨vs, hl.at (fun o => hh _ o), hr'.1, fun i v p h1 h2 => hr (hr'.2 i v p h1 h2)⟩, hd'⟩ }

noncomputable def NoOwn (ρ : PEnv) : Prop := ∀ x l, ρ.lookup x ≠ some (.own l)
theorem NoOwn.nil : NoOwn [] := fun _ _ h => by simp at h
theorem NoOwn.cons {x : Str} {p : PV} (h : NoOwn ρ) : NoOwn ((x, .val p) :: ρ) := fun y l e => by
  rw [List.lookup_cons] at e
  cases q : y == x with
  | true => rw [q] at e; cases e
  | false => rw [q] at e; exact h y l e
theorem Cap.noOwn {scope : Scope} {cl : List (Str × Addr)} (c : Cap scope env cl ρ ρc) : NoOwn ρc := fun y l e => by
  obtain ⟨p, q, _⟩ := c.get y _ e
  cases q

theorem Sit.lessL {X X' : List Addr} {h h' : Heap} {ρ₁ : PEnv} (S : Sit env ρ X' h₀ h') (S₁ : Sit env ρ₁ X h₀ h) (hsub : ∀ a ∈ X, a ∈ X') (hno : NoOwn ρ) : Sit env ρ X h₀ h' where
  kind := S.kind
  glob := S.glob
  blt := S.blt
  keep := S.keep
  live := fun x hx => S.live x (hsub x hx)
  loc := S₁.loc
  locN := S.locN
  ns := S.ns
  cel := fun x c e => let ⟨_, b, c'⟩ := S.cel x c e; ⟨(S₁.cel x c e).1, b, c'⟩
  inj := S.inj
  val := fun x p e => let ⟨v, hv, hr⟩ := S.val x p e; ⟨v, hv, hr.less hsub⟩
  own := fun x l e => (hno x l e).elim

/-- what is gathered at D -/
structure AccOk (D : Addr) (AccP : List Addr → List PV → Heap → Prop) : Prop where
  keep : ∀ X l h h', AccP X l h → (∀ a o, a ∉ X → h.get? a = some o → h'.get? a = some o) → (∀ o, h.get? D = some o → h'.get? D = some o) → AccP X l h'
  less : ∀ X X' l h, AccP X l h → (∀ a ∈ X', a ∈ X) → AccP X' l h
  more : ∀ X Y l h h', AccP X l h → (∀ b ∈ Y, h.get? b = Option.none) → (∀ a o, h.get? a = some o → h'.get? a = some o) → AccP (Y ++ X) l h'
  still : ∀ X l h, AccP X l h → ∃ o, h.get? D = some o ∧ Still o

/-- what a step of a comprehension leaves -/
noncomputable def Left (cenv : Env) (h₀ hk : Heap) (X : List Addr) (D : Addr) (AccP : List Addr → List PV → Heap → Prop) (ρ : PEnv) (l : List PV) (s s' : Shared) : Prop :=
  ∃ h' tk, s' = { s with heap := h', toks := tk } ∧ Sit cenv ρ X h₀ h' ∧ AccP X l h' ∧ (∀ a o, a ∉ X → s.heap.get? a = some o → h'.get? a = some o) ∧ (∀ a o, a ≠ D → s.heap.get? a = some o → Still o → h'.get? a = some o) ∧ (∀ a o, hk.get? a = some o → h'.get? a = some o)

noncomputable def Em (prog : Program) (w : World) (A : Around) (cenv : Env) (h₀ hk : Heap) (D : Addr) (AccP : List Addr → List PV → Heap → Prop) (m : Sem Unit) (ρ : PEnv) (out : List PV) : Prop :=
  ∀ X s l₀, D ∈ X → h₀.get? D = Option.none → hk.get? D = Option.none → (∀ a o, hk.get? a = some o → s.heap.get? a = some o) → Sit cenv ρ X h₀ s.heap → AccP X l₀ s.heap → l₀.length + out.length ≤ sizeLine → wpAny (model prog w) A m (fun _ s' => Left cenv h₀ hk X D AccP ρ (l₀ ++ out) s s') (fun _ _ => False) s

theorem comp_loopG {e : Expr} {k : Nat} {tgt : Expr} {ifs : List Expr} {ipos : Pos} {m : Sem Unit} {I D : Addr} {fp wr X X₁ Xs : List Addr} {St : Nat → Heap → Prop} {l : List PV} {hs h₂ hk : Heap} {AccP : List Addr → List PV → Heap → Prop} {fb : Bool} {s : Shared} {l₀ : List PV}
    (f : PV → Bool) (g : PV → List PV) (ρt : PV → PEnv)
    (O : Src prog w A tgt fb Xs l hs h₂ I fp wr St) (hA : AccOk D AccP) (hDX : D ∈ X) (hD0 : h₀.get? D = Option.none) (hwX : ∀ b ∈ wr, b ∈ X) (hDw : D ∉ fp) (hfX : ∀ b ∈ fp, b ∈ X → b ∈ wr) (hX : ∀ a ∈ X, a ∈ Xs ∨ a ∈ wr ∨ h₂.get? a = Option.none) (hX₁ : ∀ a, a ∈ X₁ → a ∈ X ∧ a ∉ wr) (hX₂ : ∀ a, a ∈ X → a ∈ X₁ ∨ a ∈ wr)
    (hasg : ∀ p ∈ l, AsgT prog w A cenv h₀ ρc tgt p (ρt p)) (hsub : ∀ p ∈ l, ∀ x sv, ρc.lookup x = some sv → (ρt p).lookup x = some sv) (htest : ∀ p ∈ l, EvTs prog w A cenv h₀ (ρt p) ifs (f p))
    (hem : ∀ p ∈ l, f p = true → Em prog w A cenv h₀ hk D AccP m (ρt p) (g p))
    (hkL : hk.get? cenv.locals = Option.none) (hkC : ∀ x c, tgtHas tgt x = true → cenv.cells.lookup x = some c → hk.get? c = Option.none) (hkD : hk.get? D = Option.none) (hkW : ∀ b ∈ wr, hk.get? b = Option.none) (hks₀ : ∀ a o, hk.get? a = some o → s.heap.get? a = some o)
    (hw0 : ∀ b ∈ wr, h₀.get? b = Option.none) (hloc : cenv.locals ∉ wr) (hcel : ∀ x c, cenv.cells.lookup x = some c → c ∉ wr) (hno : NoOwn ρc)
    (S : Sit cenv ρc X h₀ s.heap) (hacc : AccP X l₀ s.heap) (hst : St 0 s.heap) (hk₂ : ∀ a o, a ∉ X → h₂.get? a = some o → s.heap.get? a = some o)
    (hsz : l₀.length + (l.flatMap fun p => if f p then g p else []).length ≤ sizeLine)
    (hq : (Code.compLoop e k (.ref I) (.ref D) cenv).quiet = true)
    (hden : wpAny (model prog w) (A.under (.compLoop e k (.ref I) (.ref D) cenv)) ((model prog w).den (.compLoop e k (.ref I) (.ref D) cenv)) = wpAny (model prog w) A ((compTurn e k (.ref I) (.ref D) cenv).onRaise (fun x => do noteFrame x cenv; theTreesLotGoes x)))
    (heq : compTurn e k (.ref I) (.ref D) cenv = (do
      standAt ipos
      match ← pyNext (.ref I) with
      | Option.none => pure (.done .next)
      | some v =>
        letOwnedTupleGo tgt (.ref I) v
        assign tgt cenv v
        let ok ← forIn ifs true fun c r => if r = true then do let ok ← isTrue c cenv (eval c cenv); pure (ForInStep.yield ok) else pure (ForInStep.yield r)
        if ok = true then do m; again (.compLoop e k (.ref I) (.ref D) cenv)
        else again (.compLoop e k (.ref I) (.ref D) cenv))) :
    codeAny (model prog w) A (.compLoop e k (.ref I) (.ref D) cenv) (fun r s' => r = .ok .next ∧ ∃ h' tk, s' = { s with heap := h', toks := tk } ∧ Sit cenv ρc X₁ h₀ h' ∧ AccP X₁ (l₀ ++ l.flatMap fun p => if f p then g p else []) h' ∧
      (∀ a o, a ∉ X → s.heap.get? a = some o → h'.get? a = some o) ∧ (∀ a o, a ≠ D → a ∉ wr → s.heap.get? a = some o → Still o → h'.get? a = some o) ∧ (∀ a o, hk.get? a = some o → h'.get? a = some o)) s := by
  refine codeAny_loop hq
    (fun n s' => ∃ h' tk i, s' = { s with heap := h', toks := tk } ∧ St i h' ∧ Sit cenv ρc X h₀ h' ∧ AccP X (l₀ ++ (l.take i).flatMap fun p => if f p then g p else []) h' ∧
      (∀ a o, a ∉ X → s.heap.get? a = some o → h'.get? a = some o) ∧ (∀ a o, a ≠ D → a ∉ wr → s.heap.get? a = some o → Still o → h'.get? a = some o) ∧ (∀ a o, hk.get? a = some o → h'.get? a = some o) ∧ i ≤ l.length ∧ n = l.length + 1 - i) (fun n s' hI => ?_) (l.length + 1)
    ⟨s.heap, s.toks, 0, rfl, hst, S, by simpa using hacc, fun a o _ e => e, fun a o _ _ e _ => e, hks₀, Nat.zero_le _, rfl⟩
  obtain ⟨h', tk, i, rfl, hst', S', hacc', hkx, hks, hkk0, hi, rfl⟩ := hI
  have hwD : D ∉ wr := fun q => hDw (O.sub _ q)
  rw [hden]
  refine wpAny_noted ?_
  rw [heq]
  refine wpAny_bind (wpAny_standAt (wpAny_bind ?_))
  have hkk : ∀ a o, a ∉ Xs → a ∉ wr → h₂.get? a = some o → h'.get? a = some o := fun a o h1 h2 h3 => by
    have hx : a ∉ X := fun q => by
      rcases hX a q with q | q | q
      · exact h1 q
      · exact h2 q
      · rw [h3] at q; cases q
    exact hkx a o hx (hk₂ a o hx h3)
  -- wr turns: the frame stands
  have turnY : ∀ {h₁ : Heap}, (∀ b o, b ∉ wr → h'.get? b = some o → h₁.get? b = some o) → (∀ b ∈ wr, ∃ o, h₁.get? b = some o) → Sit cenv ρc X h₀ h₁ := fun {h₁} hk₁ hw₁ => by
    have rk : ∀ {v p}, Rep h' X v p → Rep h₁ X v p := fun r => r.map fun a o ha ho => ⟨ha, hk₁ a o (fun q => ha (hwX a q)) ho⟩
    have vk : ∀ {x v}, Var cenv h' x v → Var cenv h₁ x v := fun hv => by
      rcases hv with ⟨e, m, hn, hm⟩ | ⟨e, c, hc, hv⟩
      · exact .inl ⟨e, m, hn.at' (fun o => hk₁ _ o hloc), hm⟩
      · obtain ⟨o, ho, hd⟩ := hv
        exact .inr ⟨e, c, hc, o, hk₁ _ o (hcel _ _ hc) ho, hd⟩
    exact {
      kind := S'.kind
      glob := S'.glob
      blt := S'.blt
      keep := fun b o e => hk₁ b o (fun q => by rw [hw0 b q] at e; cases e) (S'.keep b o e)
      live := fun x hx => by
        by_cases q : x ∈ wr
        · exact hw₁ x q
        · obtain ⟨o, ho⟩ := S'.live x hx; exact ⟨o, hk₁ x o q ho⟩
      loc := S'.loc
      locN := S'.locN
      ns := by obtain ⟨m, hn⟩ := S'.ns; exact ⟨m, hn.at' fun o => hk₁ _ o hloc⟩
      cel := fun x c e => by obtain ⟨a, b, v, o, ho, hd⟩ := S'.cel x c e; exact ⟨a, b, v, o, hk₁ _ o (hcel _ _ e) ho, hd⟩
      inj := S'.inj
      val := fun x p e => by obtain ⟨v, hv, hr⟩ := S'.val x p e; exact ⟨v, vk hv, rk hr⟩
      own := fun x l e => (hno x l e).elim }
  have accY : ∀ {h₁ : Heap} {l'}, AccP X l' h' → (∀ b o, b ∉ wr → h'.get? b = some o → h₁.get? b = some o) → AccP X l' h₁ := fun a hk₁ =>
    hA.keep _ _ _ _ a (fun a o ha ho => hk₁ a o (fun q => ha (hwX a q)) ho) fun o ho => hk₁ _ o hwD ho
  by_cases hlt : i < l.length
  · refine O.item i _ _ _ hlt hst' hkk fun v h₁ tk₁ hgo => wpAny_bind (hgo _ _ fun h₁ p hp hst₁ hk₁ hrp => wpAny_bind ?_)
    have hmem : p ∈ l := List.mem_of_getElem? hp
    have S₁ : Sit cenv ρc X h₀ h₁ := turnY hk₁ fun b hb => let ⟨o, e, _⟩ := O.wl _ _ hst₁ b hb; ⟨o, e⟩
    have hacc₁ := accY hacc' hk₁
    have hr₁ : Rep h₁ X v p := hrp X hX S'.live
    refine wpAny_mono (hasg p hmem X { s with heap := h₁, toks := tk₁ } v S₁ hr₁) (fun _ s₂ hh => ?_) fun _ _ x => x.elim
    obtain ⟨h₂', tk₂, rfl, S₂, k₂, st₂, mm₂⟩ := hh
    have hacc₂ : AccP X (l₀ ++ (l.take i).flatMap fun p => if f p then g p else []) h₂' := hA.keep _ _ _ _ hacc₁ k₂ fun o ho => by
      obtain ⟨o', ho', hs'⟩ := hA.still _ _ _ hacc₁
      rw [ho] at ho'; cases ho'
      exact st₂ _ o ho hs'
    have stF : ∀ {i : Nat} {ha hb : Heap}, St i ha → (∀ a o, a ∉ X → ha.get? a = some o → hb.get? a = some o) → (∀ a o, a ∈ wr → ha.get? a = some o → Still o → hb.get? a = some o) → St i hb := fun {i ha hb} hst h1 h2 =>
      O.frame _ _ _ hst fun b hb o e => by
        by_cases q : b ∈ X
        · obtain ⟨o', ho', hs'⟩ := O.wl _ _ hst b (hfX b hb q)
          rw [e] at ho'; cases ho'
          exact h2 b o (hfX b hb q) e hs'
        · exact h1 b o q e
    have hst₂ : St (i + 1) h₂' := stF hst₁ k₂ fun a o _ e st => st₂ a o e st
    refine wpAny_bind (wpAny_mono (htest p hmem X { s with heap := h₂', toks := tk₂ } S₂) (fun ok s₃ hh => ?_) fun _ _ x => x.elim)
    obtain ⟨⟨h₃, tk₃, rfl, k₃⟩, rfl⟩ := hh
    have S₃ := S₂.keeps k₃
    have hacc₃ := hA.keep _ _ _ _ hacc₂ (fun a o _ ho => k₃ a o ho) fun o ho => k₃ _ o ho
    have hst₃ : St (i + 1) h₃ := O.frame _ _ _ hst₂ fun b _ o e => k₃ b o e
    have htake : l.take (i + 1) = l.take i ++ [p] := by rw [List.take_add_one, hp]; rfl
    have kA : ∀ a o, a ∉ X → s.heap.get? a = some o → h₃.get? a = some o := fun a o ha ho => k₃ a o (k₂ a o ha (hk₁ a o (fun q => ha (hwX a q)) (hkx a o ha ho)))
    have kB : ∀ a o, a ≠ D → a ∉ wr → s.heap.get? a = some o → Still o → h₃.get? a = some o := fun a o ha hw ho st => k₃ a o (st₂ a o (hk₁ a o hw (hks a o ha hw ho st)) st)
    have kC : ∀ a o, hk.get? a = some o → h₃.get? a = some o := fun a o e => k₃ a o (mm₂ a o (hk₁ a o (fun q => by rw [hkW a q] at e; cases e) (hkk0 a o e)) (fun q => by rw [q, hkL] at e; cases e) fun x c hx hc q => by rw [q, hkC x c hx hc] at e; cases e)
    cases hf : f p with
    | false =>
      rw [if_neg (by simp)]
      refine wpAny_pure ⟨rfl, l.length + 1 - (i + 1), by omega, h₃, tk₃, i + 1, rfl, hst₃, S₃.sub (hsub p hmem), ?_, kA, kB, kC, hlt, rfl⟩
      rw [htake, List.flatMap_append]
      simpa [hf] using hacc₃
    | true =>
      rw [if_pos rfl]
      have hlen : (l₀ ++ (l.take i).flatMap fun p => if f p then g p else []).length + (g p).length ≤ sizeLine := by
        have e : l = l.take i ++ p :: l.drop (i + 1) := by
          obtain ⟨hlt', e⟩ := List.getElem?_eq_some_iff.mp hp
          rw [← e]; simp
        rw [e, List.flatMap_append, List.flatMap_cons, if_pos hf] at hsz
        simp only [List.length_append] at hsz ⊢
        omega
      refine wpAny_bind (wpAny_mono (hem p hmem hf X { s with heap := h₃, toks := tk₃ } _ hDX hD0 hkD kC S₃ hacc₃ hlen) (fun _ s₄ hh => ?_) fun _ _ x => x.elim)
      obtain ⟨h₄, tk₄, rfl, S₄, hacc₄, k₄, st₄, kC₄⟩ := hh
      refine wpAny_pure ⟨rfl, l.length + 1 - (i + 1), by omega, h₄, tk₄, i + 1, rfl, stF hst₃ k₄ (fun a o hw e st => st₄ a o (fun q => hwD (q ▸ hw)) e st), S₄.sub (hsub p hmem), ?_, fun a o ha ho => k₄ a o ha (kA a o ha ho), fun a o ha hw ho st => st₄ a o ha (kB a o ha hw ho st) st, kC₄, hlt, rfl⟩
      rw [htake, List.flatMap_append]
      simpa [hf] using hacc₄
  · have hin : i = l.length := by omega
    subst hin
    rw [List.take_length] at hacc'
    refine O.done _ _ _ hst' fun h₁ tk₁ hk₁ => wpAny_pure ⟨rfl, h₁, tk₁, rfl, ?_, ?_, fun a o ha ho => hk₁ a o (fun q => ha (hwX a q)) (hkx a o ha ho), fun a o ha hw ho st => hk₁ a o hw (hks a o ha hw ho st), fun a o e => hk₁ a o (fun q => by rw [hkW a q] at e; cases e) (hkk0 a o e)⟩
    · have vk : ∀ {x v}, Var cenv h' x v → Var cenv h₁ x v := fun hv => by
        rcases hv with ⟨e, m, hn, hm⟩ | ⟨e, c, hc, hv⟩
        · exact .inl ⟨e, m, hn.at' (fun o => hk₁ _ o hloc), hm⟩
        · obtain ⟨o, ho, hd⟩ := hv
          exact .inr ⟨e, c, hc, o, hk₁ _ o (hcel _ _ hc) ho, hd⟩
      exact {
        kind := S'.kind
        glob := S'.glob
        blt := S'.blt
        keep := fun b o e => hk₁ b o (fun q => by rw [hw0 b q] at e; cases e) (S'.keep b o e)
        live := fun x hx => by obtain ⟨o, ho⟩ := S'.live x (hX₁ x hx).1; exact ⟨o, hk₁ x o (hX₁ x hx).2 ho⟩
        loc := (hX₂ _ S'.loc).resolve_right hloc
        locN := S'.locN
        ns := by obtain ⟨m, hn⟩ := S'.ns; exact ⟨m, hn.at' fun o => hk₁ _ o hloc⟩
        cel := fun x c e => by obtain ⟨a, b, v, o, ho, hd⟩ := S'.cel x c e; exact ⟨(hX₂ _ a).resolve_right (hcel _ _ e), b, v, o, hk₁ _ o (hcel _ _ e) ho, hd⟩
        inj := S'.inj
        val := fun x p e => by
          obtain ⟨v, hv, hr⟩ := S'.val x p e
          exact ⟨v, vk hv, hr.map fun a o ha ho => ⟨fun q => ha (hX₁ a q).1, hk₁ a o (fun q => ha (hwX a q)) ho⟩⟩
        own := fun x l e => (hno x l e).elim }
    · exact hA.less _ _ _ _ (accY hacc' hk₁) fun a ha => (hX₁ a ha).1
end
end

-- L12
section
open PySem PySem.W PyProof.Rows PySem.Calls
set_option maxRecDepth 10000
section
variable {prog : Program} {w : World} {A : Around} {env cenv : Env} {h₀ : Heap} {ρ ρc : PEnv}

theorem wp_newComp {scope : Scope} {cl : List (Str × Addr)} {s : Shared} {Q : Env → Shared → Prop} {E : Value → Shared → Prop}
    (h : Q { scope := scope, locals := s.heap.objs.size, globals := env.globals, cells := cellsFrom (s.heap.objs.size + 1) scope.names cl, qual := env.qual, func := Option.none, code := env.code, frame := env.frame, builtins := env.builtins }
      { s with heap := pushCells (s.heap.push { cls := .type "dict", data := .dict #[] }) scope.names }) :
    wpAny (model prog w) A (newFunctionEnv scope env.globals cl [] env.qual none .none (some env)) Q E s := by
  simp only [newFunctionEnv, Option.isSome_some, if_true]
  refine wpAny_bind (wpAny_alloc ?_)
  refine wpAny_bind (wpAny_layCells _ (fun name kind cells => by cases hkc : kind == NameKind.cell <;> simp [hkc]) _ _ _ _ ?_)
  refine wpAny_bind ?_
  rw [List.forIn_nil]
  refine wpAny_pure ?_
  rw [show ({ s with heap := s.heap.push { cls := .type "dict", data := .dict #[] } } : Shared).heap.objs.size = s.heap.objs.size + 1 from Heap.size_push ..]
  exact wpAny_pure h

theorem cells_new : ∀ (names : List (Str × NameKind)) (h : Heap) (cl : List (Str × Addr)) (n₀ : Nat), n₀ ≤ h.objs.size →
    (∀ y (c : Nat), cl.lookup y = some c → n₀ ≤ c → h.IsCell c Option.none) → (∀ y (c : Nat), cl.lookup y = some c → c < h.objs.size) → (∀ y z (c : Nat), n₀ ≤ c → cl.lookup y = some c → cl.lookup z = some c → y = z) →
    (∀ y (c : Nat), (cellsFrom h.objs.size names cl).lookup y = some c → (n₀ ≤ c ∧ (pushCells h names).IsCell c Option.none) ∨ (c < n₀ ∧ cl.lookup y = some c)) ∧
    (∀ y z (c : Nat), n₀ ≤ c → (cellsFrom h.objs.size names cl).lookup y = some c → (cellsFrom h.objs.size names cl).lookup z = some c → y = z)
  | [], h, cl, n₀, hn, h1, h2, h3 => ⟨fun y c e => by
      by_cases q : n₀ ≤ c
      · exact .inl ⟨q, h1 y c e q⟩
      · exact .inr ⟨by omega, e⟩, fun y z c a b d => h3 y z c a b d⟩
  | (name, kind) :: r, h, cl, n₀, hn, h1, h2, h3 => by
    unfold cellsFrom pushCells
    split
    · have hs : (h.push { cls := .type "cell", data := .cell none }).objs.size = h.objs.size + 1 := Heap.size_push ..
      have ih := cells_new r (h.push { cls := .type "cell", data := .cell none }) ((name, h.objs.size) :: cl) n₀ (by omega) (fun y c e q => by
        rw [List.lookup_cons] at e
        cases hy : y == name with
        | true => rw [hy] at e; cases e; exact ⟨_, Heap.get?_push_size _ rfl, rfl⟩
        | false => rw [hy] at e; exact (h1 y c e q).keeps fun b o e => Heap.get?_push_of_some _ e) (fun y c e => by
        rw [List.lookup_cons] at e
        cases hy : y == name with
        | true => rw [hy] at e; cases e; omega
        | false => rw [hy] at e; have := h2 y c e; omega) (fun y z c q e e' => by
        rw [List.lookup_cons] at e e'
        cases hy : y == name with
        | true =>
          rw [hy] at e; cases e
          cases hz : z == name with
          | true => rw [beq_iff_eq.mp hy, beq_iff_eq.mp hz]
          | false => rw [hz] at e'; have := h2 z _ e'; omega
        | false =>
          rw [hy] at e
          cases hz : z == name with
          | true => rw [hz] at e'; cases e'; have := h2 y _ e; omega
          | false => rw [hz] at e'; exact h3 y z c q e e')
      rw [hs] at ih
      refine ⟨fun y c e => ?_, ih.2⟩
      rcases ih.1 y c e with q | ⟨q, q'⟩
      · exact .inl q
      · refine .inr ⟨q, ?_⟩
        rw [List.lookup_cons] at q'
        cases hy : y == name with
        | true => rw [hy] at q'; cases q'; omega
        | false => rw [hy] at q'; exact q'
    · exact cells_new r h cl n₀ hn h1 h2 h3

/-- the addresses of the cells that a comprehension has of its own -/
noncomputable def newCells (C : Addr) (names : List (Str × NameKind)) : List Addr := ((cellsFrom (C + 1) names []).map (·.2))

/-- the frame of a comprehension -/
theorem sit_compG {scope : Scope} {cl : List (Str × Addr)} {X : List Addr} {h H2 : Heap} {Y : List Addr} (S : Sit env ρ X h₀ h) (hcap : Cap scope env cl ρ ρc)
    (hcl : ∀ y c, cl.lookup y = some c → env.cells.lookup y = some c) (hkind : scope.kind = .function) (hk : ∀ b o, h.get? b = some o → H2.get? b = some o)
    (hY : ∀ b ∈ Y, h.get? b = Option.none ∧ ∃ o, H2.get? b = some o) (hcn : ∀ y c, ρc.lookup y ≠ Option.none → cl.lookup y = some c → (cellsFrom (H2.objs.size + 1) scope.names cl).lookup y = some c) :
    ∃ N : List Addr, (∀ b ∈ N, H2.objs.size ≤ b) ∧ Sit (compEnvC scope (cellsFrom (H2.objs.size + 1) scope.names cl) H2.objs.size env) ρc (N ++ (Y ++ X)) h₀ (pushCells (H2.push { cls := .type "dict", data := .dict #[] }) scope.names) := by
  have hs : (H2.push { cls := .type "dict", data := .dict #[] }).objs.size = H2.objs.size + 1 := Heap.size_push ..
  have kk : ∀ b o, H2.get? b = some o → (pushCells (H2.push { cls := .type "dict", data := .dict #[] }) scope.names).get? b = some o := fun b o e => pushCells_keeps _ _ b o (Heap.get?_push_of_some _ e)
  have hcs : ∀ y (c : Nat), cl.lookup y = some c → c < H2.objs.size := fun y c e => by
    obtain ⟨_, _, v, o, ho, _⟩ := S.cel y c (hcl y c e)
    exact Heap.lt_size (hk _ _ ho)
  obtain ⟨c1, c2⟩ := cells_new scope.names (H2.push { cls := .type "dict", data := .dict #[] }) cl (H2.objs.size + 1) (by omega) (fun y c e q => by have := hcs y c e; omega) (fun y c e => by have := hcs y c e; omega) (fun y z c q e _ => by have := hcs y c e; omega)
  rw [hs] at c1 c2
  refine ⟨H2.objs.size :: (newCells H2.objs.size scope.names ++ ((cellsFrom (H2.objs.size + 1) scope.names cl).map (·.2)).filter (H2.objs.size ≤ ·)).filter (fun c => H2.objs.size ≤ c ∧ c < (pushCells (H2.push { cls := .type "dict", data := .dict #[] }) scope.names).objs.size ∧ ((pushCells (H2.push { cls := .type "dict", data := .dict #[] }) scope.names).get? c).isSome = true), fun b hb => ?_, ?_⟩
  · rcases List.mem_cons.mp hb with rfl | hb
    · exact Nat.le_refl _
    · have := (List.mem_filter.mp hb).2
      simp at this
      exact this.1
  · have fresh : ∀ c, H2.objs.size ≤ c → H2.get? c = Option.none := fun c hc => by
      cases e : H2.get? c with
      | none => rfl
      | some o => exact absurd (Heap.lt_size e) (Nat.not_lt.mpr hc)
    have hnone : ∀ c, H2.objs.size ≤ c → h.get? c = Option.none := fun c hc => by
      cases e : h.get? c with
      | none => rfl
      | some o => have := fresh c hc; rw [hk _ _ e] at this; cases this
    have h0none : ∀ c, H2.objs.size ≤ c → h₀.get? c = Option.none := fun c hc => S.none₀ (hnone c hc)
    have hns : (pushCells (H2.push { cls := .type "dict", data := .dict #[] }) scope.names).Ns H2.objs.size (fun _ => Option.none) := (Heap.Ns.new H2 (.type "dict")).keeps (pushCells_keeps _ _)
    exact {
      kind := hkind
      glob := S.glob
      blt := S.blt
      keep := fun b o e => kk b o (hk b o (S.keep b o e))
      live := fun x hx => by
        rcases List.mem_append.mp hx with hx | hx
        · rcases List.mem_cons.mp hx with rfl | hx
          · obtain ⟨o, _, _, ho, _⟩ := hns; exact ⟨o, ho⟩
          · have := (List.mem_filter.mp hx).2
            simp at this
            exact Option.isSome_iff_exists.mp this.2.2
        · rcases List.mem_append.mp hx with hx | hx
          · obtain ⟨_, o, ho⟩ := hY x hx; exact ⟨o, kk _ _ ho⟩
          · obtain ⟨o, ho⟩ := S.live x hx; exact ⟨o, kk _ _ (hk _ _ ho)⟩
      loc := List.mem_append.mpr (.inl List.mem_cons_self)
      locN := h0none _ (Nat.le_refl _)
      ns := ⟨_, hns⟩
      cel := fun y c e => by
        rcases c1 y c e with ⟨q, hc⟩ | ⟨q, hc⟩
        · refine ⟨List.mem_append.mpr (.inl (List.mem_cons_of_mem _ (List.mem_filter.mpr ⟨List.mem_append.mpr (.inr (List.mem_filter.mpr ⟨List.mem_map.mpr ⟨(y, c), mem_of_lookup e, rfl⟩, by simp; omega⟩)), ?_⟩))), h0none c (by omega), _, hc⟩
          obtain ⟨o, ho, _⟩ := hc
          exact decide_eq_true ⟨Nat.le_of_succ_le q, Heap.lt_size ho, by rw [ho]; rfl⟩
        · obtain ⟨a, b, v, hv⟩ := S.cel y c (hcl y c hc)
          exact ⟨List.mem_append.mpr (.inr (List.mem_append.mpr (.inr a))), b, v, isCell_keeps hv fun b o e => kk b o (hk b o e)⟩
      inj := fun y z c e e' => by
        by_cases q : H2.objs.size + 1 ≤ c
        · exact c2 y z c q e e'
        · rcases c1 y c e with ⟨q', _⟩ | ⟨_, a⟩
          · exact absurd q' q
          · rcases c1 z c e' with ⟨q', _⟩ | ⟨_, b⟩
            · exact absurd q' q
            · exact S.inj y z c (hcl _ _ a) (hcl _ _ b)
      val := fun y p e => by
        obtain ⟨q', hq', e1, e2, e3, e4⟩ := hcap.get y _ e
        cases hq'
        obtain ⟨u, hu, hur⟩ := S.val y p e1
        rcases hu with ⟨k1, _⟩ | ⟨_, c, hc, hcv⟩
        · rw [e3] at k1; cases k1
        · refine ⟨u, .inr ⟨e2, c, hcn y c (by rw [e]; simp) (e4.trans hc), isCell_keeps hcv fun b o e => kk b o (hk b o e)⟩, hur.map fun a o ha ho => ⟨?_, kk a o (hk a o ho)⟩⟩
          intro hm
          rcases List.mem_append.mp hm with hm | hm
          · rcases List.mem_cons.mp hm with rfl | hm
            · have := hnone _ (Nat.le_refl _); rw [this] at ho; cases ho
            · have := (List.mem_filter.mp hm).2
              simp at this
              rw [hnone a this.1] at ho; cases ho
          · rcases List.mem_append.mp hm with hm | hm
            · rw [(hY a hm).1] at ho; cases ho
            · exact ha hm
      own := fun y l e => (hcap.noOwn y l e).elim }
end
end

-- L13
section
open PySem PySem.W PyProof.Rows PySem.Calls
set_option maxRecDepth 10000
section
variable {prog : Program} {w : World} {A : Around} {env cenv : Env} {h₀ : Heap} {X₀ : List Addr} {ρ ρc : PEnv} {Q : PF → PEnv → Prop}

noncomputable def AccL (D : Addr) (X : List Addr) (l : List PV) (h : Heap) : Prop := ∃ ys : List Value, h.PlainList D ys.toArray ∧ Reps h X ys l
theorem accL_ok (D : Addr) : AccOk D (AccL D) where
  keep := fun X l h h' ⟨ys, hl, hr⟩ h1 h2 => ⟨ys, hl.at h2, hr.but fun a o ha ho => h1 a o ha ho⟩
  less := fun X X' l h ⟨ys, hl, hr⟩ hs => ⟨ys, hl, hr.less hs⟩
  more := fun X Y l h h' ⟨ys, hl, hr⟩ hn hk => ⟨ys, hl.at (hk _), hr.map fun a o ha ho => ⟨fun q => by
    rcases List.mem_append.mp q with q | q
    · rw [hn a q] at ho; cases ho
    · exact ha q, hk a o ho⟩⟩
  still := fun X l h ⟨ys, ⟨n, e⟩, hr⟩ => ⟨_, e, fun _ _ q => (by cases q), fun _ q => (by cases q)⟩

theorem Em.last {elt : Expr} {D : Addr} {p : PV} (h : Ev prog w A cenv h₀ ρ elt p) (hno : NoOwn ρ) {hk : Heap} : Em prog w A cenv h₀ hk D (AccL D) (do let _ ← call (.builtin "list.append") [.ref D, ← eval elt cenv]) ρ [p] := fun X s l₀ hD hD0 hkD hks S ha hsz => by
  obtain ⟨ys, hl, hr⟩ := ha
  refine wpAny_bind (wpAny_mono (h X s S) (fun y s₁ h₁ => ?_) fun _ _ x => x.elim)
  obtain ⟨⟨h₁, tk₁, rfl, k₁⟩, hry⟩ := h₁
  have hl₁ := hl.at fun o => k₁ _ o
  refine wpAny_bind (wpAny_list_append_plain (hsz := by have := hr.1; simp at hsz ⊢; omega) hl₁ fun h₂ hl₂ hs₂ => wpAny_pure ⟨h₂, tk₁, rfl, ?_, ⟨ys ++ [y], by simpa using hl₂, ?_⟩, fun a o ha ho => (hs₂.2 a fun q => ha (q ▸ hD)).trans (k₁ a o ho), fun a o ha ho _ => (hs₂.2 a ha).trans (k₁ a o ho), fun a o e => (hs₂.2 a fun q => by rw [q, hkD] at e; cases e).trans (k₁ a o (hks a o e))⟩)
  · -- D is no frame, no cell
    have S₁ := S.keeps k₁
    have nD : ∀ a o, h₁.get? a = some o → ¬ Still o → h₂.get? a = some o := fun a o ho hn => (hs₂.2 a fun q => hn (by
      subst q; obtain ⟨n, e⟩ := hl₁; rw [e] at ho; cases ho
      exact ⟨fun _ _ q => (by cases q), fun _ q => (by cases q)⟩)).trans ho
    have vk : ∀ {x v}, Var cenv h₁ x v → Var cenv h₂ x v := fun hv => by
      rcases hv with ⟨e, m, hn, hm⟩ | ⟨e, c, hc, hv⟩
      · refine .inl ⟨e, m, hn.at' (fun o ho => nD _ o ho fun st => st.ns ho hn rfl), hm⟩
      · obtain ⟨o, ho, hd⟩ := id hv
        exact .inr ⟨e, c, hc, o, nD _ o ho (fun st => st.cell ho hv rfl), hd⟩
    have rk : ∀ {v p}, Rep h₁ X v p → Rep h₂ X v p := fun r => r.but fun a o ha ho => (hs₂.2 a fun q => ha (q ▸ hD)).trans ho
    exact {
      kind := S₁.kind
      glob := S₁.glob
      blt := S₁.blt
      keep := fun b o e => (hs₂.2 b fun q => by rw [q, hD0] at e; cases e).trans (S₁.keep b o e)
      live := fun x hx => by
        by_cases q : x = D
        · rw [q]; obtain ⟨n, e⟩ := hl₂; exact ⟨_, e⟩
        · obtain ⟨o, ho⟩ := S₁.live x hx; exact ⟨o, (hs₂.2 x q).trans ho⟩
      loc := S₁.loc
      locN := S₁.locN
      ns := by obtain ⟨m, hn⟩ := S₁.ns; exact ⟨m, hn.at' fun o ho => nD _ o ho fun st => st.ns ho hn rfl⟩
      cel := fun x c e => by obtain ⟨a, b, v, hv⟩ := S₁.cel x c e; obtain ⟨o, ho, hd⟩ := id hv; exact ⟨a, b, v, o, nD _ o ho (fun st => st.cell ho hv rfl), hd⟩
      inj := S₁.inj
      val := fun x p e => by obtain ⟨v, hv, hr⟩ := S₁.val x p e; exact ⟨v, vk hv, rk hr⟩
      own := fun x l e => (hno x l e).elim }
  · exact Reps.append ((hr.keeps k₁).but fun a o ha ho => (hs₂.2 a fun q => ha (q ▸ hD)).trans ho) (Reps.cons (hry.but fun a o ha ho => (hs₂.2 a fun q => ha (q ▸ hD)).trans ho) Reps.nil)

theorem comp_core {elt tgt iter : Expr} {ifs : List Expr} {rest : List Comprehension} {scope : Scope} {pos ipos : Pos} {cl : List (Str × Addr)} {X : List Addr} {l : List PV} {fb : Bool} {h : Heap} {s₂ : Shared} {I : Addr} {fp wr : List Addr} {St : Nat → Heap → Prop} {RR : Value → Addr → Result → Shared → Prop}
    (m : Value → Env → Sem Unit) (f : PV → Bool) (g : PV → List PV) (ρt : PV → PEnv)
    (O : Src prog w A tgt fb X l h s₂.heap I fp wr St) (S : Sit env ρ X h₀ h) (hh : ∀ b o, h.get? b = some o → s₂.heap.get? b = some o) (hcap : Cap scope env cl ρ ρc)
    (hcl : ∀ y c, cl.lookup y = some c → env.cells.lookup y = some c) (hkind : scope.kind = .function)
    (hcn : ∀ n y c, ρc.lookup y ≠ Option.none → cl.lookup y = some c → (cellsFrom (n + 1) scope.names cl).lookup y = some c)
    (hasg : ∀ C p, p ∈ l → AsgT prog w A (compEnvC scope (cellsFrom (C + 1) scope.names cl) C env) h₀ ρc tgt p (ρt p))
    (hsub : ∀ p ∈ l, ∀ x sv, ρc.lookup x = some sv → (ρt p).lookup x = some sv)
    (htest : ∀ C p, p ∈ l → EvTs prog w A (compEnvC scope (cellsFrom (C + 1) scope.names cl) C env) h₀ (ρt p) ifs (f p))
    (htg : ∀ x, tgtHas tgt x = true → cl.lookup x = Option.none)
    (hem : ∀ C D p, h.get? C = Option.none → p ∈ l → f p = true → Em prog w A (compEnvC scope (cellsFrom (C + 1) scope.names cl) C env) h₀ h D (AccL D) (m (.ref D) (compEnvC scope (cellsFrom (C + 1) scope.names cl) C env)) (ρt p) (g p))
    (hsz : (l.flatMap fun p => if f p then g p else []).length ≤ sizeLine)
    (heq : ∀ it acc cenv, compTurn (.ListComp elt (⟨tgt, iter, ifs, 0⟩ :: rest) scope pos) 0 it acc cenv = (do
      standAt ipos
      match ← pyNext it with
      | Option.none => pure (.done .next)
      | some v =>
        letOwnedTupleGo tgt it v
        assign tgt cenv v
        let ok ← forIn ifs true fun c r => if r = true then do let ok ← isTrue c cenv (eval c cenv); pure (ForInStep.yield ok) else pure (ForInStep.yield r)
        if ok = true then do m acc cenv; again (.compLoop (.ListComp elt (⟨tgt, iter, ifs, 0⟩ :: rest) scope pos) 0 it acc cenv)
        else again (.compLoop (.ListComp elt (⟨tgt, iter, ifs, 0⟩ :: rest) scope pos) 0 it acc cenv)))
    (hRR : ∀ D C h' tk m' (ys : List Value), s₂.heap.get? D = Option.none → s₂.heap.get? C = Option.none → D ≠ C → h'.Ns C m' → h'.PlainList D ys.toArray → Reps h' (C :: D :: X) ys (l.flatMap fun p => if f p then g p else []) →
      (∀ b o, b ∉ wr → b ∉ X → s₂.heap.get? b = some o → h'.get? b = some o) → (∀ b o, h.get? b = some o → h'.get? b = some o) → RR (.ref D) C (.ok .next) { s₂ with heap := h', toks := tk }) :
    wpAny (model prog w) A (newList []) (fun acc s₃ => wpAny (model prog w) A (newFunctionEnv scope env.globals cl [] env.qual none .none (some env)) (fun cenv s₄ =>
      codeAny (model prog w) A (.compStart (.ListComp elt (⟨tgt, iter, ifs, 0⟩ :: rest) scope pos) 0 (.ref I) acc { cenv with scope := relabel scope env }) (RR acc cenv.locals) s₄) (fun _ _ => False) s₃) (fun _ _ => False) s₂ := by
  refine wpAny_newObj_type (wp_newComp ?_)
  dsimp only
  generalize hH2 : s₂.heap.push { cls := .type "list", dict := none, data := .seq ([] : List Value).toArray } = H2
  have hC : H2.objs.size = s₂.heap.objs.size + 1 := by rw [← hH2, Heap.size_push]
  have k2 : ∀ b o, s₂.heap.get? b = some o → H2.get? b = some o := fun b o e => hH2 ▸ Heap.get?_push_of_some _ e
  have hD2 : H2.get? s₂.heap.objs.size = some { cls := .type "list", dict := none, data := .seq ([] : List Value).toArray } := hH2 ▸ Heap.get?_push_size _ rfl
  have fresh : ∀ a, s₂.heap.objs.size ≤ a → s₂.heap.get? a = Option.none := fun a ha => by
    cases e : s₂.heap.get? a with
    | none => rfl
    | some o' => exact absurd (Heap.lt_size e) (Nat.not_lt.mpr ha)
  have hnone : ∀ a, s₂.heap.get? a = Option.none → h.get? a = Option.none := fun a ha => by
    cases e : h.get? a with
    | none => rfl
    | some o => rw [hh _ _ e] at ha; cases ha
  obtain ⟨N, hN, SC⟩ := sit_compG (Y := s₂.heap.objs.size :: wr) S hcap hcl hkind (fun b o e => k2 b o (hh b o e)) (fun b hb => by
    rcases List.mem_cons.mp hb with rfl | hb
    · exact ⟨hnone _ (fresh _ (Nat.le_refl _)), _, hD2⟩
    · obtain ⟨o, ho⟩ := O.fpl b (O.sub b hb); exact ⟨O.new b hb, o, k2 _ _ ho⟩) (fun y c => hcn H2.objs.size y c)
  have k3 : ∀ b o, H2.get? b = some o → (pushCells (H2.push { cls := .type "dict", data := .dict #[] }) scope.names).get? b = some o := fun b o e => pushCells_keeps _ _ b o (Heap.get?_push_of_some _ e)
  generalize hH3 : pushCells (H2.push { cls := .type "dict", data := .dict #[] }) scope.names = H3 at SC k3 ⊢
  have hst : St 0 H3 := O.frame _ _ _ O.start fun b _ o e => k3 b o (k2 b o e)
  have hNf : ∀ b ∈ N, s₂.heap.get? b = Option.none := fun b hb => fresh b (by have := hN b hb; rw [hC] at this; exact Nat.le_of_succ_le this)
  have hDw : s₂.heap.objs.size ∉ fp := fun hm => by obtain ⟨o, ho⟩ := O.fpl _ hm; rw [fresh _ (Nat.le_refl _)] at ho; cases ho
  have hw0 : ∀ b ∈ wr, h₀.get? b = Option.none := fun b hb => S.none₀ (O.new b hb)
  have loop : codeAny (model prog w) A (.compLoop (.ListComp elt (⟨tgt, iter, ifs, 0⟩ :: rest) scope pos) 0 (.ref I) (.ref s₂.heap.objs.size) (compEnvC scope (cellsFrom (H2.objs.size + 1) scope.names cl) H2.objs.size env))
      (RR (.ref s₂.heap.objs.size) H2.objs.size) { s₂ with heap := H3 } := by
    refine codeAny_mono (comp_loopG (X := N ++ ((s₂.heap.objs.size :: wr) ++ X)) (X₁ := (N ++ ((s₂.heap.objs.size :: wr) ++ X)).filter (· ∉ wr)) (Xs := X) (l₀ := []) (AccP := AccL s₂.heap.objs.size) (m := m (.ref s₂.heap.objs.size) (compEnvC scope (cellsFrom (H2.objs.size + 1) scope.names cl) H2.objs.size env)) f g ρt O (accL_ok _)
      (by simp) (S.none₀ (hnone _ (fresh _ (Nat.le_refl _)))) (fun b hb => by simp [hb]) hDw ?_ ?_ (fun a ha => by simpa using List.mem_filter.mp ha) (fun a ha => by
        by_cases q : a ∈ wr
        · exact .inr q
        · exact .inl (List.mem_filter.mpr ⟨ha, by simpa using q⟩)) (fun p hp => hasg _ p hp) hsub (fun p hp => htest _ p hp) (fun p hp hf => hem _ _ p (hnone _ (fresh _ (by rw [hC]; exact Nat.le_succ _))) hp hf) (hnone _ (fresh _ (by rw [hC]; exact Nat.le_succ _))) ?hkC (hnone _ (fresh _ (Nat.le_refl _))) O.new (fun a o e => k3 a o (k2 a o (hh a o e))) hw0 ?_ ?_ hcap.noOwn SC
      ⟨[], ⟨_, k3 _ _ hD2⟩, Reps.nil⟩ hst (fun a o _ e => k3 a o (k2 a o e)) (by simpa using hsz) rfl rfl (heq _ _ _)) ?_
    case hkC =>
      intro x c hx hc
      have hs : (H2.push { cls := .type "dict", data := .dict #[] }).objs.size = H2.objs.size + 1 := Heap.size_push ..
      have hcs : ∀ y (c : Nat), cl.lookup y = some c → c < H2.objs.size := fun y c e => by
        obtain ⟨_, _, v, o, ho, _⟩ := S.cel y c (hcl y c e)
        exact Heap.lt_size (k2 _ _ (hh _ _ ho))
      obtain ⟨c1, c2⟩ := cells_new scope.names (H2.push { cls := .type "dict", data := .dict #[] }) cl (H2.objs.size + 1) (by omega) (fun y c e q => by have := hcs y c e; omega) (fun y c e => by have := hcs y c e; omega) (fun y z c q e _ => by have := hcs y c e; omega)
      rw [hs] at c1
      rcases c1 x c hc with ⟨q, _⟩ | ⟨_, q⟩
      · refine hnone _ (fresh _ ?_)
        have q' : H2.objs.size + 1 ≤ (c : Nat) := q
        have : s₂.heap.objs.size ≤ (c : Nat) := by omega
        exact this
      · rw [htg x hx] at q; cases q
    · intro b hb hm
      rcases List.mem_append.mp hm with hm | hm
      · obtain ⟨o, ho⟩ := O.fpl b hb; rw [hNf b hm] at ho; cases ho
      · rcases List.mem_append.mp hm with hm | hm
        · rcases List.mem_cons.mp hm with rfl | hm
          · exact (hDw hb).elim
          · exact hm
        · exact (O.off b hb hm).elim
    · intro a hm
      rcases List.mem_append.mp hm with hm | hm
      · exact .inr (.inr (hNf a hm))
      · rcases List.mem_append.mp hm with hm | hm
        · rcases List.mem_cons.mp hm with rfl | hm
          · exact .inr (.inr (fresh _ (Nat.le_refl _)))
          · exact .inr (.inl hm)
        · exact .inl hm
    · intro hm
      obtain ⟨o, ho, st⟩ := O.wl 0 H3 hst _ hm
      obtain ⟨mm, hn⟩ := SC.ns
      exact st.ns ho hn rfl
    · intro x c hc hm
      obtain ⟨o, ho, st⟩ := O.wl 0 H3 hst _ hm
      obtain ⟨_, _, v, hv⟩ := SC.cel x c hc
      exact st.cell ho hv rfl
    · rintro r s' ⟨rfl, h', tk, rfl, S', hacc, kA, kB, kC⟩
      obtain ⟨ys, hl, hr⟩ := hacc
      obtain ⟨mm, hn⟩ := S'.ns
      have hCn : s₂.heap.get? H2.objs.size = Option.none := fresh _ (by rw [hC]; exact Nat.le_succ _)
      have hDC : s₂.heap.objs.size ≠ H2.objs.size := by rw [hC]; exact Nat.ne_of_lt (Nat.lt_succ_self _)
      have Nx : ∀ a o, s₂.heap.get? a = some o → a ∉ wr → a ∉ X → a ∉ N ++ ((s₂.heap.objs.size :: wr) ++ X) := fun a o e hw hx hm => by
        rcases List.mem_append.mp hm with hm | hm
        · rw [hNf a hm] at e; cases e
        · rcases List.mem_append.mp hm with hm | hm
          · rcases List.mem_cons.mp hm with rfl | hm
            · rw [fresh _ (Nat.le_refl _)] at e; cases e
            · exact hw hm
          · exact hx hm
      refine hRR _ _ h' tk mm ys (fresh _ (Nat.le_refl _)) hCn hDC hn hl (hr.less fun a ha => ?_) (fun b o hw hx e => kA b o (Nx b o e hw hx) (k3 b o (k2 b o e))) kC
      · have mf : ∀ a, a ∈ N ++ ((s₂.heap.objs.size :: wr) ++ X) → a ∉ wr → a ∈ (N ++ ((s₂.heap.objs.size :: wr) ++ X)).filter (· ∉ wr) := fun a h1 h2 => List.mem_filter.mpr ⟨h1, by simpa using h2⟩
        rcases List.mem_cons.mp ha with rfl | ha
        · exact S'.loc
        · rcases List.mem_cons.mp ha with rfl | ha
          · exact mf _ (by simp) fun q => hDw (O.sub _ q)
          · exact mf _ (by simp [ha]) fun q => O.off _ (O.sub _ q) ha
  have hcs : wpAny (model prog w) A (pyIter (.ref I)) (fun it' s' => codeAny (model prog w) A (.compLoop (.ListComp elt (⟨tgt, iter, ifs, 0⟩ :: rest) scope pos) 0 it' (.ref s₂.heap.objs.size) (compEnvC scope (cellsFrom (H2.objs.size + 1) scope.names cl) H2.objs.size env))
      (RR (.ref s₂.heap.objs.size) H2.objs.size) s') (fun _ _ => False) { s₂ with heap := H3 } := O.self 0 _ _ _ hst loop
  exact codeAny_compStart_list loop (wpAny_mono hcs (fun _ _ x => x) fun _ _ x => x.elim)
end
end

-- L14
section
open PySem PySem.W PyProof.Rows PySem.Calls
set_option maxRecDepth 10000
section
variable {prog : Program} {w : World} {A : Around} {env cenv : Env} {h₀ : Heap} {X₀ : List Addr} {ρ ρc : PEnv} {Q : PF → PEnv → Prop}

theorem flat_one (f : PV → Bool) (g : PV → PV) (l : List PV) : (l.flatMap fun p => if f p then [g p] else []) = (l.filter f).map g := by
  induction l with
  | nil => rfl
  | cons p l ih => rw [List.flatMap_cons, ih]; cases hf : f p <;> simp [hf]

theorem Ev.compG {elt tgt iter : Expr} {ifs : List Expr} {rest : List Comprehension} {scope : Scope} {pos ipos : Pos} {cl : List (Str × Addr)} {l : List PV} {fb : Bool} 
    (m : Value → Env → Sem Unit) (f : PV → Bool) (g : PV → List PV) (ρt : PV → PEnv) (hit : EvSrc prog w A env h₀ ρ tgt fb iter l) (hclos : closureFor scope env = pure cl) (hcap : Cap scope env cl ρ ρc)
    (hcl : ∀ y c, cl.lookup y = some c → env.cells.lookup y = some c) (hkind : scope.kind = .function) (hnames : ∀ y ∈ scope.names, y.2 = .local → scope.names.lookup y.1 = some .local)
    (hcn : ∀ n y c, ρc.lookup y ≠ Option.none → cl.lookup y = some c → (cellsFrom (n + 1) scope.names cl).lookup y = some c)
    (hasg : ∀ C p, p ∈ l → AsgT prog w A (compEnvC scope (cellsFrom (C + 1) scope.names cl) C env) h₀ ρc tgt p (ρt p))
    (hsub : ∀ p ∈ l, ∀ x sv, ρc.lookup x = some sv → (ρt p).lookup x = some sv)
    (htest : ∀ C p, p ∈ l → EvTs prog w A (compEnvC scope (cellsFrom (C + 1) scope.names cl) C env) h₀ (ρt p) ifs (f p))
    (htg : ∀ x, tgtHas tgt x = true → cl.lookup x = Option.none)
    (hem : ∀ h C D p, h.get? C = Option.none → p ∈ l → f p = true → Em prog w A (compEnvC scope (cellsFrom (C + 1) scope.names cl) C env) h₀ h D (AccL D) (m (.ref D) (compEnvC scope (cellsFrom (C + 1) scope.names cl) C env)) (ρt p) (g p))
    (hsz : (l.flatMap fun p => if f p then g p else []).length ≤ sizeLine)
    (heq : ∀ it acc cenv, compTurn (.ListComp elt (⟨tgt, iter, ifs, 0⟩ :: rest) scope pos) 0 it acc cenv = (do
      standAt ipos
      match ← pyNext it with
      | Option.none => pure (.done .next)
      | some v =>
        letOwnedTupleGo tgt it v
        assign tgt cenv v
        let ok ← forIn ifs true fun c r => if r = true then do let ok ← isTrue c cenv (eval c cenv); pure (ForInStep.yield ok) else pure (ForInStep.yield r)
        if ok = true then do m acc cenv; again (.compLoop (.ListComp elt (⟨tgt, iter, ifs, 0⟩ :: rest) scope pos) 0 it acc cenv)
        else again (.compLoop (.ListComp elt (⟨tgt, iter, ifs, 0⟩ :: rest) scope pos) 0 it acc cenv)))
    (hs : ∀ x, foldedSetIterable iter env x = pure x) :
    Ev prog w A env h₀ ρ (.ListComp elt (⟨tgt, iter, ifs, 0⟩ :: rest) scope pos) (.list (l.flatMap fun p => if f p then g p else [])) := fun X s S => by
  rw [eval_ListComp]
  refine wpAny_comprehension_free (use := Option.none) rfl hs hclos hkind hnames (wpAny_mono (hit X s S) (fun xv s₁ h₁ => wpAny_mono h₁ (fun it s₂ h₂ => ?_) fun _ _ e => e) fun _ _ e => e)
  obtain ⟨k₂, I, fp, wr, St, rfl, O⟩ := h₂
  refine comp_core (RR := fun acc C => compPost (model prog w) A (fun _ _ => False) Option.none (fun v s' => Keeps s s' ∧ Rep s'.heap X v (.list (l.flatMap fun p => if f p then g p else []))) acc C) m f g ρt O S (Kp.hh k₂) hcap hcl hkind hcn hasg hsub htest htg (fun C D p => hem s.heap C D p) hsz heq ?_
  intro D C h' tk m' ys hD hC hDC hn hpl hys _ hk
  refine ⟨m', hn, fun h'' hs'' => ⟨?_, ?_⟩⟩
  · obtain ⟨hh, t, rfl, hkk⟩ := k₂
    exact ⟨h'', tk, rfl, fun b o e => hs''.extBut b o (fun q => by rw [q] at e; rw [hkk _ _ e] at hC; cases hC) (hk b o e)⟩
  · have L := Live.keeps S.live (Kp.hh k₂)
    refine .list (Live.fresh L hD) (hpl.isList.extBut hs''.extBut hDC) hys.1 fun i v p hv hp => ?_
    refine ((hys.2 i v p hv hp).but fun a o ha ho => hs''.extBut a o (fun q => ha (q ▸ List.mem_cons_self)) ho).less fun a ha => ?_
    exact List.mem_cons_of_mem _ (List.mem_cons_of_mem _ ha)

noncomputable def mLast (elt : Expr) (acc : Value) (cenv : Env) : Sem Unit := do let _ ← call (.builtin "list.append") [acc, ← eval elt cenv]

/-- one generator -/
theorem Ev.comp1 {elt tgt iter : Expr} {ifs : List Expr} {scope : Scope} {pos : Pos} {cl : List (Str × Addr)} {l : List PV} {fb : Bool}
    (f : PV → Bool) (g : PV → PV) (ρt : PV → PEnv) (hit : EvSrc prog w A env h₀ ρ tgt fb iter l) (hclos : closureFor scope env = pure cl) (hcap : Cap scope env cl ρ ρc)
    (hcl : ∀ y c, cl.lookup y = some c → env.cells.lookup y = some c) (hkind : scope.kind = .function) (hnames : ∀ y ∈ scope.names, y.2 = .local → scope.names.lookup y.1 = some .local)
    (hcn : ∀ n y c, ρc.lookup y ≠ Option.none → cl.lookup y = some c → (cellsFrom (n + 1) scope.names cl).lookup y = some c)
    (hasg : ∀ C p, p ∈ l → AsgT prog w A (compEnvC scope (cellsFrom (C + 1) scope.names cl) C env) h₀ ρc tgt p (ρt p))
    (hsub : ∀ p ∈ l, ∀ x sv, ρc.lookup x = some sv → (ρt p).lookup x = some sv) (hno : ∀ p ∈ l, NoOwn (ρt p))
    (htg : ∀ x, tgtHas tgt x = true → cl.lookup x = Option.none)
    (htest : ∀ C p, p ∈ l → EvTs prog w A (compEnvC scope (cellsFrom (C + 1) scope.names cl) C env) h₀ (ρt p) ifs (f p))
    (helt : ∀ C p, p ∈ l → f p = true → Ev prog w A (compEnvC scope (cellsFrom (C + 1) scope.names cl) C env) h₀ (ρt p) elt (g p))
    (hsz : l.length ≤ sizeLine) (hs : ∀ x, foldedSetIterable iter env x = pure x := by intro _; rfl) :
    Ev prog w A env h₀ ρ (.ListComp elt [⟨tgt, iter, ifs, 0⟩] scope pos) (.list ((l.filter f).map g)) := by
  have hl : ((l.filter f).map g).length ≤ sizeLine := by rw [List.length_map]; exact Nat.le_trans (List.length_filter_le _ _) hsz
  have key := Ev.compG (prog := prog) (w := w) (A := A) (elt := elt) (rest := []) (pos := pos) (ipos := iter.pos) (mLast elt) f (fun p => [g p]) ρt hit hclos hcap hcl hkind hnames hcn hasg hsub htest htg (fun h C D p hC hp hf => Em.last (helt C p hp hf) (hno p hp)) (by rw [flat_one]; exact hl) (fun it acc cenv => by rfl) hs
  rw [flat_one] at key
  exact key

theorem codeAny_compStart1 {R : Result → Shared → Prop} {s : Shared} {elt g0 target iter ifs rest scope pos it acc env}
    (h0 : codeAny (model prog w) A (.compLoop (.ListComp elt (g0 :: ⟨target, iter, ifs, 0⟩ :: rest) scope pos) 1 it acc env) R s)
    (h : wpAny (model prog w) A (pyIter it) (fun it' s' => codeAny (model prog w) A (.compLoop (.ListComp elt (g0 :: ⟨target, iter, ifs, 0⟩ :: rest) scope pos) 1 it' acc env) R s')
      (notedBy (model prog w) A env fun x s' => R (.error x) s') s) :
    codeAny (model prog w) A (.compStart (.ListComp elt (g0 :: ⟨target, iter, ifs, 0⟩ :: rest) scope pos) 1 it acc env) R s := by
  refine codeAny_of_tree ?_
  show wpAny _ _ ((compStart (.ListComp elt (g0 :: ⟨target, iter, ifs, 0⟩ :: rest) scope pos) 1 it acc env).onRaise (fun x => do noteFrame x env; standAt theWindowsPlace)) _ _ s
  refine wpAny_notedAt ?_
  unfold compStart
  show wpAny _ _ (ask >>= _) _ _ s
  refine wpAny_bind (wpAny_askSetting (wpAny_ite ?_))
  split
  · first
      | exact wpAny_bind (wpAny_pure (wpAny_pure (And.intro rfl h0)))
      | exact wpAny_pure (And.intro rfl h0)
  · first
      | exact wpAny_bind (wpAny_rule (wpAny_bind (wpAny_standAt (wpAny_bind (wpAny_mono h (fun it' s' h' => wpAny_pure (And.intro rfl h')) fun _ _ x => x)))))
      | (refine wpAny_bind (wpAny_rule ?_); show wpAny _ _ (standAt iter.pos >>= _) _ _ s; exact wpAny_bind (wpAny_standAt (wpAny_bind (wpAny_mono h (fun it' s' h' => wpAny_pure (And.intro rfl h')) fun _ _ x => x))))

noncomputable def mNext (elt : Expr) (g0 : Comprehension) (tgt iter : Expr) (ifs : List Expr) (scope : Scope) (pos : Pos) (acc : Value) (cenv : Env) : Sem Unit := do
  let x ← eval iter cenv
  standAt iter.pos
  let x ← foldedSetIterable iter cenv x
  let _ ← runOwn (.compStart (.ListComp elt [g0, ⟨tgt, iter, ifs, 0⟩] scope pos) 1 (← holding [x] (pyIter x)) acc cenv) cenv

theorem Em.next {elt tgt iter : Expr} {g0 : Comprehension} {ifs : List Expr} {scope : Scope} {pos : Pos} {hk : Heap} {D : Addr} {l : List PV} {fb : Bool}
    (f : PV → Bool) (g : PV → PV) (ρt : PV → PEnv) (hit : EvSrc prog w A cenv h₀ ρ tgt fb iter l)
    (hasg : ∀ p, p ∈ l → AsgT prog w A cenv h₀ ρ tgt p (ρt p)) (hsub : ∀ p ∈ l, ∀ x sv, ρ.lookup x = some sv → (ρt p).lookup x = some sv) (hno : NoOwn ρ) (hnop : ∀ p ∈ l, NoOwn (ρt p))
    (htest : ∀ p, p ∈ l → EvTs prog w A cenv h₀ (ρt p) ifs (f p)) (helt : ∀ p, p ∈ l → f p = true → Ev prog w A cenv h₀ (ρt p) elt (g p))
    (hkL : hk.get? cenv.locals = Option.none) (hkC : ∀ x, tgtHas tgt x = true → cenv.cells.lookup x = Option.none)
    (hs : ∀ x, foldedSetIterable iter cenv x = pure x) :
    Em prog w A cenv h₀ hk D (AccL D) (mNext elt g0 tgt iter ifs scope pos (.ref D) cenv) ρ ((l.filter f).map g) := fun X s l₀ hD hD0 hkD hks S ha hsz => by
  rw [← flat_one] at hsz ⊢
  refine wpAny_bind (wpAny_mono (hit X s S) (fun xv s₁ h₁ => wpAny_bind (wpAny_standAt (wpAny_bind (wpAny_of_eq (hs xv) (wpAny_bind (wpAny_holding (wpAny_mono h₁ (fun it s₂ h₂ => ?_) fun _ _ x => x))))))) fun _ _ x => x)
  obtain ⟨k₂, I, fp, wr, St, rfl, O⟩ := h₂
  have hh := Kp.hh k₂
  obtain ⟨hp₂, tk₂, rfl, _⟩ := k₂
  have hwX : ∀ b ∈ wr, b ∉ X := fun b hb => O.off b (O.sub b hb)
  have S₂ : Sit cenv ρ (wr ++ X) h₀ hp₂ := S.moreL hh O.new fun b hb => O.fpl b (O.sub b hb)
  have loop := comp_loopG (prog := prog) (w := w) (A := A) (e := .ListComp elt [g0, ⟨tgt, iter, ifs, 0⟩] scope pos) (k := 1) (ipos := iter.pos) (hk := hk) (s := { s with heap := hp₂, toks := tk₂ }) (l₀ := l₀) (X := wr ++ X) (X₁ := (wr ++ X).filter (· ∉ wr)) (Xs := X) (AccP := AccL D) (m := mLast elt (.ref D) cenv) f (fun p => [g p]) ρt O (accL_ok _)
    (by simp [hD]) hD0 (fun b hb => by simp [hb]) (fun q => O.off _ q hD) (fun b hb hm => by
      rcases List.mem_append.mp hm with q | q
      · exact q
      · exact (O.off b hb q).elim) (fun a hm => by
      rcases List.mem_append.mp hm with q | q
      · exact .inr (.inl q)
      · exact .inl q) (fun a ha => by simpa using List.mem_filter.mp ha) (fun a ha => by
        by_cases q : a ∈ wr
        · exact .inr q
        · exact .inl (List.mem_filter.mpr ⟨ha, by simpa using q⟩)) hasg hsub htest (fun p hp hf => Em.last (helt p hp hf) (hnop p hp)) hkL (fun x c hx hc => by rw [hkC x hx] at hc; cases hc) hkD (fun b hb => by
        cases e : hk.get? b with
        | none => rfl
        | some o => have := O.new b hb; rw [hks b o e] at this; cases this) (fun a o e => hh a o (hks a o e)) (fun b hb => S.none₀ (O.new b hb)) (fun q => hwX _ q S.loc) (fun x c e q => hwX _ q (S.cel x c e).1) hno S₂
      ((accL_ok D).more _ _ _ _ _ ha O.new hh) O.start (fun a o _ e => e) hsz rfl rfl rfl
  refine wpAny_bind (wpAny_runOwn (h := Option.none) (codeAny_mono (R := fun r s' => r = Except.ok Flow.next ∧ ∃ h' tk, s' = { s with heap := h', toks := tk } ∧ Sit cenv ρ ((wr ++ X).filter (· ∉ wr)) h₀ h' ∧ AccL D ((wr ++ X).filter (· ∉ wr)) (l₀ ++ l.flatMap fun p => if f p then [g p] else []) h' ∧
      (∀ a o, a ∉ wr ++ X → hp₂.get? a = some o → h'.get? a = some o) ∧ (∀ a o, a ≠ D → a ∉ wr → hp₂.get? a = some o → Still o → h'.get? a = some o) ∧ (∀ a o, hk.get? a = some o → h'.get? a = some o)) ?_ fun r s' hr => ?_))
  rotate_left
  · obtain ⟨rfl, h', tk, rfl, S', hacc, k1, k2, k3⟩ := hr
    have sub : ∀ a ∈ X, a ∈ (wr ++ X).filter (· ∉ wr) := fun a ha => List.mem_filter.mpr ⟨by simp [ha], by simpa using fun q => hwX a q ha⟩
    have nw : ∀ a o, s.heap.get? a = some o → a ∉ wr := fun a o e q => by rw [O.new a q] at e; cases e
    exact wpAny_pure ⟨h', tk, rfl, S'.lessL S sub hno, (accL_ok D).less _ _ _ _ hacc sub, fun a o ha e => k1 a o (fun q => by
      rcases List.mem_append.mp q with q | q
      · exact nw a o e q
      · exact ha q) (hh a o e), fun a o ha e st => k2 a o ha (nw a o e) (hh a o e) st, k3⟩
  exact codeAny_compStart1 loop (wpAny_mono (O.self 0 _ _ (fun _ _ => False) O.start loop) (fun _ _ x => x) fun _ _ x => x.elim)

/-- two generators -/
theorem Ev.comp2 {elt tgt iter tgt2 iter2 : Expr} {ifs ifs2 : List Expr} {scope : Scope} {pos : Pos} {cl : List (Str × Addr)} {l : List PV} {l2 : PV → List PV} {fb fb2 : Bool}
    (f : PV → Bool) (ρt : PV → PEnv) (f2 : PV → PV → Bool) (g2 : PV → PV → PV) (ρt2 : PV → PV → PEnv) (hit : EvSrc prog w A env h₀ ρ tgt fb iter l) (hclos : closureFor scope env = pure cl) (hcap : Cap scope env cl ρ ρc)
    (hcl : ∀ y c, cl.lookup y = some c → env.cells.lookup y = some c) (hkind : scope.kind = .function) (hnames : ∀ y ∈ scope.names, y.2 = .local → scope.names.lookup y.1 = some .local)
    (hcn : ∀ n y c, ρc.lookup y ≠ Option.none → cl.lookup y = some c → (cellsFrom (n + 1) scope.names cl).lookup y = some c)
    (hasg : ∀ C p, p ∈ l → AsgT prog w A (compEnvC scope (cellsFrom (C + 1) scope.names cl) C env) h₀ ρc tgt p (ρt p))
    (hsub : ∀ p ∈ l, ∀ x sv, ρc.lookup x = some sv → (ρt p).lookup x = some sv) (hno : ∀ p ∈ l, NoOwn (ρt p))
    (htg : ∀ x, tgtHas tgt x = true → cl.lookup x = Option.none)
    (htest : ∀ C p, p ∈ l → EvTs prog w A (compEnvC scope (cellsFrom (C + 1) scope.names cl) C env) h₀ (ρt p) ifs (f p))
    (hit2 : ∀ C p, p ∈ l → f p = true → EvSrc prog w A (compEnvC scope (cellsFrom (C + 1) scope.names cl) C env) h₀ (ρt p) tgt2 fb2 iter2 (l2 p))
    (hasg2 : ∀ C p q, p ∈ l → f p = true → q ∈ l2 p → AsgT prog w A (compEnvC scope (cellsFrom (C + 1) scope.names cl) C env) h₀ (ρt p) tgt2 q (ρt2 p q))
    (hsub2 : ∀ p q, p ∈ l → q ∈ l2 p → ∀ x sv, (ρt p).lookup x = some sv → (ρt2 p q).lookup x = some sv) (hno2 : ∀ p q, p ∈ l → q ∈ l2 p → NoOwn (ρt2 p q))
    (htg2 : ∀ C x, tgtHas tgt2 x = true → (compEnvC scope (cellsFrom (C + 1) scope.names cl) C env).cells.lookup x = Option.none)
    (htest2 : ∀ C p q, p ∈ l → f p = true → q ∈ l2 p → EvTs prog w A (compEnvC scope (cellsFrom (C + 1) scope.names cl) C env) h₀ (ρt2 p q) ifs2 (f2 p q))
    (helt : ∀ C p q, p ∈ l → f p = true → q ∈ l2 p → f2 p q = true → Ev prog w A (compEnvC scope (cellsFrom (C + 1) scope.names cl) C env) h₀ (ρt2 p q) elt (g2 p q))
    (hsz : (l.flatMap fun p => if f p then ((l2 p).filter (f2 p)).map (g2 p) else []).length ≤ sizeLine) (hs : ∀ x, foldedSetIterable iter env x = pure x := by intro _; rfl) (hs2 : ∀ C x, foldedSetIterable iter2 (compEnvC scope (cellsFrom (C + 1) scope.names cl) C env) x = pure x := by intro _ _; rfl) :
    Ev prog w A env h₀ ρ (.ListComp elt [⟨tgt, iter, ifs, 0⟩, ⟨tgt2, iter2, ifs2, 0⟩] scope pos) (.list (l.flatMap fun p => if f p then ((l2 p).filter (f2 p)).map (g2 p) else [])) :=
  Ev.compG (prog := prog) (w := w) (A := A) (elt := elt) (rest := [⟨tgt2, iter2, ifs2, 0⟩]) (pos := pos) (ipos := iter.pos) (mNext elt ⟨tgt, iter, ifs, 0⟩ tgt2 iter2 ifs2 scope pos) f (fun p => ((l2 p).filter (f2 p)).map (g2 p)) ρt hit hclos hcap hcl hkind hnames hcn hasg hsub htest htg
    (fun h C D p hC hp hf => Em.next (f2 p) (g2 p) (ρt2 p) (hit2 C p hp hf) (fun q hq => hasg2 C p q hp hf hq) (fun q hq => hsub2 p q hp hq) (hno p hp) (fun q hq => hno2 p q hp hq) (fun q hq => htest2 C p q hp hf hq) (fun q hq hq2 => helt C p q hp hf hq hq2) hC (htg2 C) (hs2 C)) hsz (fun it acc cenv => by simp only [mNext, bind_assoc]; rfl) hs
end
end

-- L15
section
open PySem PySem.W PyProof.Rows PySem.Calls
set_option maxRecDepth 10000
set_option maxHeartbeats 1000000
section
variable {prog : Program} {w : World} {A : Around} {env cenv : Env} {h₀ : Heap} {X₀ : List Addr} {ρ ρc : PEnv} {Q : PF → PEnv → Prop}

theorem Sit.off {X : List Addr} {C : Addr} {h h' : Heap} (S : Sit env ρ (C :: X) h₀ h) (h0 : h₀.get? C = Option.none) (hl : env.locals ≠ C) (hc : ∀ x c, env.cells.lookup x = some c → c ≠ C) (hp : ∀ a its, h.PlainList a its → a ≠ C)
    (hk : ∀ a o, a ≠ C → h.get? a = some o → h'.get? a = some o) (hX : ∀ a ∈ X, a ≠ C) : Sit env ρ X h₀ h' := by
  have vk : ∀ {x v}, Var env h x v → Var env h' x v := fun hv => by
    rcases hv with ⟨e, m, hn, hm⟩ | ⟨e, c, hcc, hv⟩
    · exact .inl ⟨e, m, hn.at' (fun o => hk _ o hl), hm⟩
    · obtain ⟨o, ho, hd⟩ := hv
      exact .inr ⟨e, c, hcc, o, hk _ o (hc _ _ hcc) ho, hd⟩
  have rk : ∀ {v p}, Rep h (C :: X) v p → Rep h' X v p := fun r => r.map fun a o ha ho => ⟨fun q => ha (List.mem_cons_of_mem _ q), hk a o (fun q => ha (q ▸ List.mem_cons_self)) ho⟩
  have un : ∀ {a}, a ∈ C :: X → a ≠ C → a ∈ X := fun h1 h2 => (List.mem_cons.mp h1).resolve_left h2
  exact {
    kind := S.kind
    glob := S.glob
    blt := S.blt
    keep := fun b o e => hk b o (fun q => by rw [q, h0] at e; cases e) (S.keep b o e)
    live := fun x hx => by obtain ⟨o, ho⟩ := S.live x (List.mem_cons_of_mem _ hx); exact ⟨o, hk x o (hX x hx) ho⟩
    loc := un S.loc hl
    locN := S.locN
    ns := by obtain ⟨m, hn⟩ := S.ns; exact ⟨m, hn.at' fun o => hk _ o hl⟩
    cel := fun x c e => by obtain ⟨a, b, v, o, ho, hd⟩ := S.cel x c e; exact ⟨un a (hc _ _ e), b, v, o, hk _ o (hc _ _ e) ho, hd⟩
    inj := S.inj
    val := fun x p e => by obtain ⟨v, hv, hr⟩ := S.val x p e; exact ⟨v, vk hv, rk hr⟩
    own := fun x l e => by
      obtain ⟨a, hv, ha, haN, ⟨vs, hl', hr⟩, hd⟩ := S.own x l e
      have hne := hp a _ hl'
      refine ⟨a, vk hv, un ha hne, haN, ⟨vs, hl'.at fun o => hk _ o hne, hr.1, fun i v p h1 h2 => rk (hr.2 i v p h1 h2)⟩, fun y l' e' hny hcc => ?_⟩
      obtain ⟨b, hb, _⟩ := S.own y l' e'
      have : Value.ref b = .ref a := (vk hb).fun hcc
      cases this
      exact hd y l' e' hny hb }

/-- a name takes a comprehension's list -/
theorem TrS.assignComp {elt tgt iter : Expr} {ifs : List Expr} {scope : Scope} {y : Str} {py pos spos : Pos} {cl : List (Str × Addr)} {l : List PV} {fb : Bool}
    (f : PV → Bool) (g : PV → PV) (ρt : PV → PEnv) (hit : EvSrc prog w A env h₀ ρ tgt fb iter l) (hclos : closureFor scope env = pure cl) (hcap : Cap scope env cl ρ ρc)
    (hcl : ∀ y c, cl.lookup y = some c → env.cells.lookup y = some c) (hkind : scope.kind = .function) (hnames : ∀ y ∈ scope.names, y.2 = .local → scope.names.lookup y.1 = some .local)
    (hcn : ∀ n y c, ρc.lookup y ≠ Option.none → cl.lookup y = some c → (cellsFrom (n + 1) scope.names cl).lookup y = some c)
    (hasg : ∀ C p, p ∈ l → AsgT prog w A (compEnvC scope (cellsFrom (C + 1) scope.names cl) C env) h₀ ρc tgt p (ρt p))
    (hsub : ∀ p ∈ l, ∀ x sv, ρc.lookup x = some sv → (ρt p).lookup x = some sv) (hno : ∀ p ∈ l, NoOwn (ρt p))
    (htg : ∀ x, tgtHas tgt x = true → cl.lookup x = Option.none)
    (htest : ∀ C p, p ∈ l → EvTs prog w A (compEnvC scope (cellsFrom (C + 1) scope.names cl) C env) h₀ (ρt p) ifs (f p))
    (helt : ∀ C p, p ∈ l → f p = true → Ev prog w A (compEnvC scope (cellsFrom (C + 1) scope.names cl) C env) h₀ (ρt p) elt (g p))
    (hq : Q .next ((y, .val (.list ((l.filter f).map g))) :: ρ)) (hk : CanStore env y)
    (hsw : swapsWith (.ListComp elt [⟨tgt, iter, ifs, 0⟩] scope pos) (some (.Name y py)) spos.line env = pure true)
    (hsz : l.length ≤ sizeLine) (hs : ∀ x, foldedSetIterable iter env x = pure x := by intro _; rfl) :
    TrS prog w A env h₀ X₀ ρ (.Assign [.Name y py] (.ListComp elt [⟨tgt, iter, ifs, 0⟩] scope pos) spos) Q := fun X s hX S => by
  have hl : ((l.filter f).map g).length ≤ sizeLine := by rw [List.length_map]; exact Nat.le_trans (List.length_filter_le _ _) hsz
  rw [exec_Assign_Name_used _ _ _ _ hsw]
  refine wpAny_bind (wpAny_standAt (wpAny_bind ?_))
  show wpAny _ A (do let _ ← comprehension (.ListComp elt [⟨tgt, iter, ifs, 0⟩] scope pos) scope env _ (newList []) false (eval iter env) (some (PySem.assign (Expr.Name y py) env))) _ _ s
  refine wpAny_bind (wpAny_mono (wpAny_comprehension_free (use := some (PySem.assign (Expr.Name y py) env)) (Q := fun _ s' => Ends env h₀ X₀ X Q s .next s') rfl hs hclos hkind hnames
    (wpAny_mono (hit X s S) (fun xv s₁ h₁ => wpAny_mono h₁ (fun it s₂ h₂ => ?_) fun _ _ e => e) fun _ _ e => e)) (fun _ s' hq => wpAny_pure (wpAny_pure hq)) fun _ _ e => e)
  obtain ⟨k₂, I, fp, wr, St, rfl, O⟩ := h₂
  refine comp_core (RR := fun acc C => compPost (model prog w) A (fun _ _ => False) (some (PySem.assign (Expr.Name y py) env)) (fun _ s' => Ends env h₀ X₀ X Q s .next s') acc C) (ipos := iter.pos) (mLast elt) f (fun p => [g p]) ρt O S (Kp.hh k₂) hcap hcl hkind hcn hasg hsub htest htg
    (fun C D p hC hp hf => Em.last (helt C p hp hf) (hno p hp)) (by rw [flat_one]; exact hl) (fun it acc cenv => by rfl) ?_
  intro D C h' tk m' ys hD hC hDC hn hpl hys _ hkk
  rw [flat_one] at hys
  have hCs : s.heap.get? C = Option.none := by
    cases e : s.heap.get? C with
    | none => rfl
    | some o => rw [Kp.hh k₂ _ _ e] at hC; cases hC
  have hDs : s.heap.get? D = Option.none := by
    cases e : s.heap.get? D with
    | none => rfl
    | some o => rw [Kp.hh k₂ _ _ e] at hD; cases hD
  obtain ⟨hp₂, tk₂, rfl, _⟩ := k₂
  have S₁ : Sit env ρ (C :: X) h₀ h' := S.more hkk hCs (let ⟨o, _, _, e, _⟩ := hn; ⟨o, e⟩)
  have hrep : Rep h' (C :: X) (.ref D) (.list ((l.filter f).map g)) := by
    refine .list (fun q => ?_) hpl.isList hys.1 fun i v p hv hp => (hys.2 i v p hv hp).less fun a ha => ?_
    · rcases List.mem_cons.mp q with q | q
      · exact hDC q
      · exact Live.fresh S.live hDs q
    · rcases List.mem_cons.mp ha with rfl | ha
      · exact List.mem_cons_self
      · exact List.mem_cons_of_mem _ (List.mem_cons_of_mem _ ha)
  show wpAny _ A (PySem.assign (Expr.Name y py) env (.ref D)) _ _ _
  refine wpAny_assign_Name (wpAny_mono (wp_store S₁ hk (s := { s with heap := h', toks := tk }) (R := fun _ s₃ => ∃ h₂ tk₂, s₃ = { s with heap := h₂, toks := tk₂ } ∧ Stored env y (.ref D) (C :: X) h₀ h' h₂) fun h₂ tk₂ st => ⟨h₂, tk₂, rfl, st⟩) (fun _ s₃ h₃ => ?_) fun _ _ e => e.elim)
  obtain ⟨h₂, tk₂', rfl, st⟩ := h₃
  have S₂ := S₁.stored (sv := .val (.list ((l.filter f).map g))) st hrep
  have hCl : env.locals ≠ C := fun q => by obtain ⟨m, o, _, _, e, _⟩ := S.ns; rw [q, hCs] at e; cases e
  have hCc : ∀ x c, env.cells.lookup x = some c → c ≠ C := fun x c e q => by obtain ⟨_, _, v, o, ho, _⟩ := S.cel x c e; rw [q, hCs] at ho; cases ho
  have hnC : h₂.Ns C m' := hn.at' fun o ho => st.mine _ o ho (Ne.symm hCl) fun c hc => Ne.symm (hCc _ _ hc)
  refine ⟨m', hnC, fun h₃ hs₃ => ?_⟩
  have S₃ : Sit env ((y, .val (.list ((l.filter f).map g))) :: ρ) X h₀ h₃ := S₂.off (S.none₀ hCs) hCl hCc (fun a its hp q => list_ne_ns hp hnC q) (fun a o ha ho => (hs₃.2 a ha).trans ho) fun a ha q => Live.fresh S.live hCs (q ▸ ha)
  refine ⟨⟨h₃, tk₂', rfl⟩, fun a o ha ho => ?_, .next, _, X, hq, hX, S₃, fun a ha => .inl ha, trivial⟩
  have haC : a ≠ C := fun q => by rw [q, hCs] at ho; cases ho
  exact (hs₃.2 a haC).trans (st.keepX a o (fun q => by
    rcases List.mem_cons.mp q with q | q
    · exact haC q
    · exact ha q) (hkk a o ho))
end
end

-- L16
section
open PySem PySem.W PyProof.Rows PySem.Calls
set_option maxRecDepth 100000
set_option maxHeartbeats 2000000
section
variable {prog : Program} {w : World} {A : Around} {env cenv : Env} {h₀ : Heap} {X₀ : List Addr} {ρ ρc : PEnv} {Q : PF → PEnv → Prop} {E : Value → Shared → Prop} {s : Shared}

theorem Src.ofWalksT {elts : List Expr} {k : Nat} {pos : Pos} {fb : Bool} {X : List Addr} {l : List PV} {h h₂ : Heap} {I : Addr} {fp wr : List Addr} {Pt : Nat → Array Value → Prop} {St : Nat → Heap → Prop} {Mid : Nat → Addr → Heap → Prop}
    (W : WalksT prog w A I fp wr l.length Pt St Mid) (start : St 0 h₂) (new : ∀ b ∈ wr, h.get? b = Option.none) (off : ∀ b ∈ fp, b ∉ X) (fpl : ∀ b ∈ fp, ∃ o, h₂.get? b = some o)
    (wl : ∀ i h, St i h → ∀ b ∈ wr, ∃ o, h.get? b = some o ∧ Still o) (odd : fb = true → ∀ i h, St i h → ∀ b ∈ wr, ∃ o, h.get? b = some o ∧ o.cls ≠ .type "list" ∧ o.cls ≠ .type "tuple")
    (items : ∃ h₁ : Heap, (∀ b o, h₁.get? b = some o → h₂.get? b = some o) ∧ (∀ b ∈ wr, h₁.get? b = Option.none) ∧ ∀ i vals, i < l.length → Pt i vals → ∃ ps, l[i]? = some (.tuple ps) ∧ Reps h₁ X vals.toList ps) :
    Src prog w A (.Tuple elts k pos) fb X l h h₂ I fp wr St where
  sub := W.sub
  frame := W.frame
  start := start
  new := new
  off := off
  fpl := fpl
  wl := wl
  odd := odd
  item := fun i s Q E hi st hk hQ => W.item i s Q E hi st fun T vals h' tk hP hT hTup hm hk' => hQ (.ref T) h' tk fun Q' E' cont => W.go elts k pos i T _ Q' E' hm fun h'' st' hk'' => by
    obtain ⟨h₁, hb1, hb2, items⟩ := items
    obtain ⟨ps, hp, hr⟩ := items i vals hi hP
    have kk : ∀ b o, b ∉ wr → s.heap.get? b = some o → h''.get? b = some o := fun b o hb e => hk'' b o hb (hk' b o hb e)
    refine cont h'' _ hp st' kk fun X' hX' L => ?_
    have hTw := W.apart i T _ hm
    have hTX : T ∉ X' := fun q => by obtain ⟨o, ho⟩ := L T q; exact absurd (Heap.lt_size ho) (Nat.not_lt.mpr hT)
    obtain ⟨o, ho, hc, n, hd⟩ := hTup
    refine .tuple (vs := vals.toList) hTX ⟨o, hk'' T o hTw ho, hc, n, by simpa using hd⟩ hr.1 fun j v p h1 h2 => (hr.2 j v p h1 h2).map fun a o ha ho => ?_
    have h2 := hb1 a o ho
    have hw : a ∉ wr := fun q => by rw [hb2 a q] at ho; cases ho
    refine ⟨fun q => ?_, kk a o hw (hk a o ha hw h2)⟩
    rcases hX' a q with q | q | q
    · exact ha q
    · exact hw q
    · rw [h2] at q; cases q
  done := W.done
  self := W.self

theorem nextOf_tuple_item {it l : Addr} {i : Nat} {items : Array Value} {x : Value} {Q : Value → Shared → Prop} (hit : s.heap.IsTupleIter it l i)
    (hl : s.heap.IsTuple l items) (hx : items[i]? = some x)
    (hQ : ∀ h', h'.IsTupleIter it l (i + 1) → Heap.SameBut it s.heap h' → Q x { s with heap := h' }) :
    wpAny (model prog w) A (Builtin.SmallTypes.nextOf (.ref it)) Q E s := by
  obtain ⟨o, ho, hc, hd⟩ := id hit
  obtain ⟨ol, hol, _, nl, hdl⟩ := hl
  unfold Builtin.SmallTypes.nextOf
  refine wpAny_bind (wpAny_callSpecial?_slot (name := Str.ofString "__next__") hit.typeIs PySem.F.slot_tuple_iterator_next
    (wpAny_call_entry PySem.F.slot_tuple_iterator_next hit.typeIs PySem.F.entry_tuple_iterator_next ?_ (PySem.F.args_tuple_iterator_next_1 _)))
  show wpAny _ _ (field (.ref it) 0 >>= _) _ _ s
  refine wpAny_bind (wpAny_field ho hd (x := .ref l) rfl ?_)
  show wpAny _ _ (if (Value.ref l == Value.none) = true then _ else _) _ _ s
  rw [if_neg (show ¬ ((Value.ref l == Value.none) = true) from Bool.false_ne_true)]
  show wpAny _ _ (field (.ref it) 1 >>= _) _ _ s
  refine wpAny_bind (wpAny_field ho hd (x := .int i 0) rfl ?_)
  show wpAny _ _ (seqItems? (.ref l) >>= _) _ _ s
  refine wpAny_bind (wpAny_seqItems hol hdl ?_)
  simp only [Int.toNat_natCast, hx]
  refine wpAny_bind (wpAny_setField ho hd (by simp) (wpAny_pure ⟨x, rfl, wpAny_pure (hQ _ ?_ (Heap.SameBut.update ..))⟩))
  exact ⟨_, Heap.get?_update_self _ ho (Obj.isFreed_of_fields (Obj.data_mapFields hd _)), (Obj.cls_mapFields ..).trans hc, by
    rw [Obj.data_mapFields hd]; simp [rawInt]⟩

theorem nextOf_tuple_end {it l : Addr} {i : Nat} {items : Array Value} {Q : Value → Shared → Prop} (hh : A.handled = Option.none)
    (hit : s.heap.IsTupleIter it l i) (hl : s.heap.IsTuple l items) (hx : items[i]? = Option.none)
    (hE : ∀ h' e, Heap.ExtBut it s.heap h' → (∃ o, h'.get? e = some o ∧ o.cls = .type "StopIteration") → E (.ref e) { s with heap := h' }) :
    wpAny (model prog w) A (Builtin.SmallTypes.nextOf (.ref it)) Q E s := by
  obtain ⟨o, ho, hc, hd⟩ := id hit
  obtain ⟨ol, hol, _, nl, hdl⟩ := hl
  unfold Builtin.SmallTypes.nextOf
  refine wpAny_bind (wpAny_callSpecial?_slot (name := Str.ofString "__next__") hit.typeIs PySem.F.slot_tuple_iterator_next
    (wpAny_call_entry PySem.F.slot_tuple_iterator_next hit.typeIs PySem.F.entry_tuple_iterator_next ?_ (PySem.F.args_tuple_iterator_next_1 _)))
  show wpAny _ _ (field (.ref it) 0 >>= _) _ _ s
  refine wpAny_bind (wpAny_field ho hd (x := .ref l) rfl ?_)
  show wpAny _ _ (if (Value.ref l == Value.none) = true then _ else _) _ _ s
  rw [if_neg (show ¬ ((Value.ref l == Value.none) = true) from Bool.false_ne_true)]
  show wpAny _ _ (field (.ref it) 1 >>= _) _ _ s
  refine wpAny_bind (wpAny_field ho hd (x := .int i 0) rfl ?_)
  show wpAny _ _ (seqItems? (.ref l) >>= _) _ _ s
  refine wpAny_bind (wpAny_seqItems hol hdl ?_)
  simp only [Int.toNat_natCast, hx]
  refine wpAny_bind (wpAny_rule (wpAny_bind (wpAny_setField ho hd (by simp) ?_)))
  show wpAny _ _ (newExc (.type "StopIteration") [] >>= _) _ _ _
  refine wpAny_bind ?_
  simp only [newExc, newTuple]
  refine wpAny_bind (wpAny_newObj_type ?_ (by size_fits))
  refine wpAny_bind (m := firstArgMember _ _) (wpAny_of_eq (a := Value.none) (by first | rfl | (simp only [firstArgMember]; rfl)) ?_)
  refine wpAny_newObj_type ?_ (by size_fits)
  simp only [raiseNew]
  refine wpAny_bind (wpAny_handled ?_)
  first | rw [show A.in1.handled = Option.none from hh] | rw [hh]
  refine wpAny_bind (wpAny_pure (wpAny_throw ?_))
  exact hE _ _ (((Heap.SameBut.update ..).extBut.push _).push _) ⟨_, Heap.get?_push_size _ rfl, rfl⟩

theorem Draws.ofTuple (hh : A.handled = Option.none) (it l : Addr) (hne : l ≠ it) (items : Array Value) :
    Draws prog w A it [it, l] items.size (fun i v => items[i]? = some v) (fun i h => h.IsTupleIter it l i ∧ h.IsTuple l items) where
  live := fun _ _ st => let ⟨o, ho, _⟩ := st.1; ⟨o, ho⟩
  frame := fun _ _ _ st hk => ⟨let ⟨o, ho, r⟩ := st.1; ⟨o, hk it (by simp) o ho, r⟩, let ⟨o, ho, r⟩ := st.2; ⟨o, hk l (by simp) o ho, r⟩⟩
  item := fun i s Q E hi st hQ => by
    refine nextOf_tuple_item st.1 st.2 (x := items[i]) (by simp [hi]) fun h' hit' hs' => ?_
    exact hQ _ h' s.toks (by simp [hi]) ⟨hit', st.2.extBut hs'.extBut hne⟩ hs'
  done := fun s Q E st hE => nextOf_tuple_end hh st.1 st.2 (by simp) hE

open AutoSeq1 (wpAny_loadPart') in
theorem meets_enumerate_newT (l : Addr) (items : Array Value) (n : Nat) (dct : Option Addr) (sl : Array (Option Value)) :
    Meets (Builtin.«enumerate.__new__» ⟨[.type "enumerate", .ref l], []⟩) (fun _ R s => s.heap.get? l = some { cls := .type "tuple", dict := dct, data := .seq items n, slots := sl } ∧
      R (.ok (.ret (.ref (s.heap.push { cls := .type "tuple_iterator", data := .fields #[.ref l, .int 0 0] }).objs.size)))
        { s with heap := (s.heap.push { cls := .type "tuple_iterator", data := .fields #[.ref l, .int 0 0] }).push { cls := .type "enumerate", data := .fields #[.none, .bool false, .ref s.heap.objs.size, rawInt 0, .none, .none] } }) :=
  .of_wp fun prog w A R s h => by
    obtain ⟨hp, g, d, tk, os⟩ := s; obtain ⟨hl, h⟩ := h
    have hsub := PySem.sub_enumerate
    have hL : Heap.IsTuple (Shared.heap ⟨hp, g, d, tk, os⟩) l items := ⟨_, hl, rfl, n, rfl⟩
    wp_walk using wpAny_loadPart' hl
    refine wpAny_stack_any fun st => wpAny_pure ?_
    split
    · rename_i c _ _ _ _ _
      cases (c == Value.type "enumerate")
      · wp_walk using wpAny_loadPart' hl, wpAny_pyIter_tuple hL
        exact ⟨_, rfl, h⟩
      · wp_walk using wpAny_loadPart' hl, wpAny_pyIter_tuple hL
        exact ⟨_, rfl, h⟩
    · wp_walk using wpAny_loadPart' hl, wpAny_pyIter_tuple hL
      exact ⟨_, rfl, h⟩

theorem call_enumerate_tuple {l : Addr} {items : Array Value} {Q : Value → Shared → Prop} (hL : IsTup s.heap l items)
    (h : ∀ h', IsEnum h' (s.heap.objs.size + 1) s.heap.objs.size 0 .none → h'.IsTupleIter s.heap.objs.size l 0 → h'.objs.size = s.heap.objs.size + 2 →
      (∀ b o, s.heap.get? b = some o → h'.get? b = some o) → Q (.ref (s.heap.objs.size + 1)) { s with heap := h' }) :
    wpAny (model prog w) A (call (.type "enumerate") [.ref l]) Q E s := by
  obtain ⟨⟨c, dct, dt, sl⟩, hl, hc, n, hd⟩ := hL
  replace hc : c = .type "tuple" := hc
  replace hd : dt = .seq items n := hd
  subst hc hd
  refine callType_new PySem.F.called_enumerate (by decide) (PySem.F.typeCall_enumerate_1 _) (PySem.F.newCall_enumerate_1 _) (fun obj => PySem.F.args_object_init_2 obj _) PySem.F.entry_enumerate_new
    (meets_enumerate_newT l items n dct sl) ⟨hl, ?_⟩
  have hz : (s.heap.push { cls := .type "tuple_iterator", data := .fields #[.ref l, .int 0 0] }).objs.size = s.heap.objs.size + 1 := Heap.size_push ..
  show _ ∧ _
  rw [hz]
  have he : IsEnum ((s.heap.push { cls := .type "tuple_iterator", data := .fields #[.ref l, .int 0 0] }).push
      { cls := .type "enumerate", data := .fields #[.none, .bool false, .ref s.heap.objs.size, rawInt 0, .none, .none] }) (s.heap.objs.size + 1) s.heap.objs.size 0 .none := by
    have := Heap.get?_push_size (s.heap.push { cls := .type "tuple_iterator", data := .fields #[.ref l, .int 0 0] })
      (o := { cls := .type "enumerate", data := .fields #[.none, .bool false, .ref s.heap.objs.size, rawInt 0, .none, .none] }) rfl
    rw [hz] at this; exact this
  refine ⟨⟨_, he, rfl⟩, h _ he ⟨_, Heap.get?_push_of_some _ (Heap.get?_push_size _ rfl), rfl, rfl⟩ (by rw [Heap.size_push, hz]) fun b o x => Heap.get?_push_of_some _ (Heap.get?_push_of_some _ x)⟩

noncomputable def enumP (l : List PV) : List PV := l.mapIdx fun i p => .tuple [.int i, p]
theorem enumP_get {l : List PV} {i : Nat} {p : PV} (h : l[i]? = some p) : (enumP l)[i]? = some (.tuple [.int i, p]) := by unfold enumP; rw [List.getElem?_mapIdx, h]; rfl
theorem enumP_len (l : List PV) : (enumP l).length = l.length := by unfold enumP; simp

theorem src_enum {elts : List Expr} {k : Nat} {pos : Pos} {X : List Addr} {l : List PV} {h h₁ h₂ : Heap} {e it b : Addr} {vs : List Value} {StD : Nat → Heap → Prop}
    (D : Draws prog w A.in1 it [it, b] vs.length (fun i v => vs[i]? = some v) StD) (hr : Reps h₁ X vs l) (he : IsEnum h₂ e it 0 .none) (hst : StD 0 h₂) (hk : ∀ b o, h₁.get? b = some o → h₂.get? b = some o)
    (hh : ∀ b o, h.get? b = some o → h₁.get? b = some o) (hen : h₁.get? e = Option.none) (hin : h₁.get? it = Option.none) (hei : e ≠ it) (hb : ∃ o, h₁.get? b = some o) (hbX : b ∉ X) (L : Live X h)
    (hcl : ∀ i h, StD i h → ∃ o fs n, h.get? it = some o ∧ o.cls = .type n ∧ n ≠ "list" ∧ n ≠ "tuple" ∧ o.data = .fields fs) :
    Src prog w A (.Tuple elts k pos) true X (enumP l) h h₂ e (e :: [it, b]) [e, it] (fun (i : Nat) h => (∃ old, IsEnum h e it i old) ∧ StD i h) := by
  have hbe : e ≠ b := fun q => by subst q; obtain ⟨o, ho⟩ := hb; rw [hen] at ho; cases ho
  have W := WalksT.enumerateD D e hei (fun q => by
    rcases List.mem_cons.mp q with q | q
    · exact hei q
    · exact hbe (List.mem_singleton.mp q)) List.mem_cons_self
  have hl : vs.length = (enumP l).length := by rw [enumP_len, hr.1]
  rw [hl] at W
  have nn : ∀ a, h₁.get? a = Option.none → h.get? a = Option.none := fun a ha => by
    cases q : h.get? a with
    | none => rfl
    | some o => rw [hh _ _ q] at ha; cases ha
  have stl : ∀ (i : Nat) h, ((∃ old, IsEnum h e it i old) ∧ StD i h) → ∀ b ∈ [e, it], ∃ o, h.get? b = some o ∧ Still o ∧ o.cls ≠ .type "list" ∧ o.cls ≠ .type "tuple" := fun i h st b hb => by
    obtain ⟨⟨old, he⟩, hd⟩ := st
    rcases List.mem_cons.mp hb with rfl | hb
    · exact ⟨_, he, ⟨fun _ _ q => (by cases q), fun _ q => (by cases q)⟩, (fun q => absurd (Value.type.inj q) (by decide)), (fun q => absurd (Value.type.inj q) (by decide))⟩
    · rw [List.mem_singleton.mp hb]
      obtain ⟨o, fs, n, ho, hc, h1, h2, hd⟩ := hcl _ _ hd
      exact ⟨o, ho, ⟨fun _ _ q => (by rw [hd] at q; cases q), fun _ q => (by rw [hd] at q; cases q)⟩, fun q => h1 (by rw [hc] at q; exact Value.type.inj q), fun q => h2 (by rw [hc] at q; exact Value.type.inj q)⟩
  refine Src.ofWalksT W ⟨⟨_, he⟩, hst⟩ (fun a ha => ?_) (fun a ha => ?_) (fun a ha => ?_) (fun i h st b hb => let ⟨o, h1, h2, _⟩ := stl i h st b hb; ⟨o, h1, h2⟩) (fun _ i h st b hb => let ⟨o, h1, _, h2⟩ := stl i h st b hb; ⟨o, h1, h2⟩) ⟨h₁, hk, fun a ha => ?_, fun i vals hi hP => ?_⟩
  · rcases List.mem_cons.mp ha with rfl | ha
    · exact nn _ hen
    · rw [List.mem_singleton.mp ha]; exact nn _ hin
  · rcases List.mem_cons.mp ha with rfl | ha
    · exact Live.fresh L (nn _ hen)
    · rcases List.mem_cons.mp ha with rfl | ha
      · exact Live.fresh L (nn _ hin)
      · rw [List.mem_singleton.mp ha]; exact hbX
  · rcases List.mem_cons.mp ha with rfl | ha
    · exact ⟨_, he⟩
    · rcases List.mem_cons.mp ha with rfl | ha
      · exact D.live _ _ hst
      · rw [List.mem_singleton.mp ha]; obtain ⟨o, ho⟩ := hb; exact ⟨o, hk _ _ ho⟩
  · rcases List.mem_cons.mp ha with rfl | ha
    · exact hen
    · rw [List.mem_singleton.mp ha]; exact hin
  · obtain ⟨t, x, hx, rfl⟩ := hP
    obtain ⟨p, hp, hrp⟩ := hr.get' hx
    exact ⟨_, enumP_get hp, Reps.cons (.int _ _) (Reps.cons hrp Reps.nil)⟩

theorem get_far (h : Heap) (n : Nat) : h.get? (h.objs.size + n) = Option.none := by
  cases q : h.get? (h.objs.size + n) with
  | none => rfl
  | some o => exact absurd (Heap.lt_size q) (Nat.not_lt.mpr (Nat.le_add_right _ _))

theorem EvSrc.enumL {np pos : Pos} {elts : List Expr} {k : Nat} {tp : Pos} {x : Str} {e : Expr} {l : List PV} (hg : Glob h₀ x (.type "enumerate")) (he' : Ev prog w A env h₀ ρ e (.list l)) (hA : A.handled = Option.none)
    (hk : env.kindOf x = some .globalImplicit := by with_unfolding_all rfl) (hd : (x == ("__debug__" : Str)) = false := by decide)
    (he : starEach [e] env = (false, eval e env) :: starEach [] env := by rfl) :
    EvSrc prog w A env h₀ ρ (.Tuple elts k tp) true (.Call (.Name x np) [e] [] pos) (enumP l) := fun X s S =>
  Call_ (wp_glob S hg hk hd (callWith_ty (he := he) (hplain := by rfl) (wpAny_mono (EvA.cons he' EvA.nil he X s pos S) (fun vs s₁ h₁ => by
    obtain ⟨k₁, hr⟩ := h₁
    obtain ⟨v, vs', rfl, hv, hr'⟩ := hr.cons_inv
    obtain rfl := hr'.nil_inv
    cases hv with
    | @list b vs _ hb hl hn hi =>
      refine call_enumerate_list hl fun h' hE hI hz hkk => ?_
      have hlb : ∃ o, s₁.heap.get? b = some o := by obtain ⟨o, ho, _⟩ := hl; exact ⟨o, ho⟩
      have n0 : s₁.heap.get? s₁.heap.objs.size = Option.none := get_size _
      have n1 : s₁.heap.get? (s₁.heap.objs.size + 1) = Option.none := get_far _ 1
      have D := Draws.list (prog := prog) (w := w) (A := A.in1) hA s₁.heap.objs.size b (fun q => by subst q; obtain ⟨o, ho⟩ := hlb; rw [n0] at ho; cases ho) vs.toArray
      have O := src_enum (prog := prog) (w := w) (A := A) (elts := elts) (k := k) (pos := tp) (X := X) (l := l) (h := s.heap) (h₁ := s₁.heap) (h₂ := h') (vs := vs) (b := b) (it := s₁.heap.objs.size) (e := s₁.heap.objs.size + 1) (StD := fun i h => h.IsListIter s₁.heap.objs.size b i ∧ h.IsList b vs.toArray) (by simpa using D) ⟨hn, hi⟩ hE ⟨hI, hl.at fun o => hkk _ o⟩ hkk (Kp.hh k₁) n1 n0 (Nat.succ_ne_self _) hlb hb S.live (fun i h st => by
        obtain ⟨⟨o, ho, hc, hd⟩, _⟩ := st
        exact ⟨o, _, _, ho, hc, by decide, by decide, hd⟩)
      obtain ⟨hp, t, rfl, hk⟩ := k₁
      exact wpAny_pyIter_enum hE ⟨⟨h', t, rfl, fun b o e => hkk b o (hk b o e)⟩, _, _, _, _, rfl, O⟩) fun _ _ x => x.elim)))

theorem zipApart {n b b2 : Nat} (lb : b < n) (lb2 : b2 < n) : ZipApart (n + 4) (n + 2) (n + 3) n (n + 1) b b2 := by
  constructor <;> (intro q; have q' : (_ : Nat) = _ := q; omega)

noncomputable def zipP (l k : List PV) : List PV := List.zipWith (fun p q => .tuple [p, q]) l k

theorem EvSrc.zip {np pos : Pos} {elts : List Expr} {k : Nat} {tp : Pos} {x : Str} {e e2 : Expr} {l l2 : List PV} (hg : Glob h₀ x (.type "zip")) (h1 : Ev prog w A env h₀ ρ e (.list l)) (h2 : Ev prog w A env h₀ ρ e2 (.list l2)) (hA : A.handled = Option.none)
    (hk : env.kindOf x = some .globalImplicit := by with_unfolding_all rfl) (hd : (x == ("__debug__" : Str)) = false := by decide)
    (he2 : starEach [e2] env = (false, eval e2 env) :: starEach [] env := by rfl) (he : starEach [e, e2] env = (false, eval e env) :: starEach [e2] env := by rfl) (hp : ∀ pos, (backTo pos (starEach [e2] env)).any (·.1) = false := by intro _; rfl) :
    EvSrc prog w A env h₀ ρ (.Tuple elts k tp) false (.Call (.Name x np) [e, e2] [] pos) (zipP l l2) := fun X s S =>
  Call_ (wp_glob S hg hk hd (callWith_ty (he := he) (hplain := hp pos) (wpAny_mono (EvA.cons h1 (EvA.cons h2 EvA.nil he2) he X s pos S) (fun vs s₁ h₁ => by
    obtain ⟨k₁, hr⟩ := h₁
    obtain ⟨v, vs', rfl, hv, hr'⟩ := hr.cons_inv
    obtain ⟨u, vs'', rfl, hu, hr''⟩ := hr'.cons_inv
    obtain rfl := hr''.nil_inv
    cases hv with
    | @list b vs _ hb hl hn hi =>
      cases hu with
      | @list b2 vs2 _ hb2 hl2 hn2 hi2 =>
        refine call_zip_2 hl hl2 fun h' hz hTI hTO hi1 hi2' hsz hkk => ?_
        have nn : ∀ a, s₁.heap.get? a = Option.none → s.heap.get? a = Option.none := fun a ha => by
          cases q : s.heap.get? a with
          | none => rfl
          | some o => rw [Kp.hh k₁ _ _ q] at ha; cases ha
        have lb : b < s₁.heap.objs.size := by obtain ⟨o, ho, _⟩ := hl; exact Heap.lt_size ho
        have lb2 : b2 < s₁.heap.objs.size := by obtain ⟨o, ho, _⟩ := hl2; exact Heap.lt_size ho
        have D := zipApart (n := s₁.heap.objs.size) lb lb2
        have W := WalksT.zip2 (prog := prog) (w := w) hA _ _ _ _ _ _ _ D vs.toArray vs2.toArray
        have hlen : min vs.toArray.size vs2.toArray.size = (zipP l l2).length := by simp [zipP, hn, hn2]
        rw [hlen] at W
        have key : ∀ a, a ∈ [s₁.heap.objs.size + 4, s₁.heap.objs.size + 3, s₁.heap.objs.size, s₁.heap.objs.size + 1] → s₁.heap.get? a = Option.none := fun a ha => by
          simp only [List.mem_cons, List.not_mem_nil, or_false] at ha
          rcases ha with rfl | rfl | rfl | rfl
          · exact get_far _ 4
          · exact get_far _ 3
          · exact get_far _ 0
          · exact get_far _ 1
        have O := Src.ofWalksT (elts := elts) (k := k) (pos := tp) (fb := false) (X := X) (h := s.heap) (h₂ := h') W ⟨hz, hTI, ⟨_, _, hTO⟩, hi1, hi2', hl.at fun o => hkk _ o, hl2.at fun o => hkk _ o⟩ (fun a ha => nn _ (key a ha)) (fun a ha => by
            have L := S.live
            simp only [List.mem_cons, List.not_mem_nil, or_false] at ha
            rcases ha with rfl | rfl | rfl | rfl | rfl | rfl | rfl
            · exact Live.fresh L (nn _ (get_far _ 4))
            · exact Live.fresh L (nn _ (get_far _ 2))
            · exact Live.fresh L (nn _ (get_far _ 3))
            · exact Live.fresh L (nn _ (get_far _ 0))
            · exact Live.fresh L (nn _ (get_far _ 1))
            · exact hb
            · exact hb2) (fun a ha => by
            simp only [List.mem_cons, List.not_mem_nil, or_false] at ha
            rcases ha with rfl | rfl | rfl | rfl | rfl | rfl | rfl
            · exact ⟨_, hz⟩
            · exact ⟨_, hTI⟩
            · exact ⟨_, hTO⟩
            · obtain ⟨o, ho, _⟩ := hi1; exact ⟨o, ho⟩
            · obtain ⟨o, ho, _⟩ := hi2'; exact ⟨o, ho⟩
            · obtain ⟨o, ho, _⟩ := hl; exact ⟨o, hkk _ _ ho⟩
            · obtain ⟨o, ho, _⟩ := hl2; exact ⟨o, hkk _ _ ho⟩) (fun i h st a ha => by
            obtain ⟨hz, hTI, ⟨_, _, hTO⟩, ⟨o1, h1, _, d1⟩, ⟨o2, h2, _, d2⟩, _⟩ := st
            simp only [List.mem_cons, List.not_mem_nil, or_false] at ha
            rcases ha with rfl | rfl | rfl | rfl
            · exact ⟨_, hz, fun _ _ q => (by cases q), fun _ q => (by cases q)⟩
            · exact ⟨_, hTO, fun _ _ q => (by cases q), fun _ q => (by cases q)⟩
            · exact ⟨o1, h1, fun _ _ q => (by rw [d1] at q; cases q), fun _ q => (by rw [d1] at q; cases q)⟩
            · exact ⟨o2, h2, fun _ _ q => (by rw [d2] at q; cases q), fun _ q => (by rw [d2] at q; cases q)⟩) (fun q => by cases q) ⟨s₁.heap, hkk, key, fun i vals hi' hP => by
            obtain ⟨x, y, hx, hy, rfl⟩ := hP
            obtain ⟨p, hp, hrp⟩ := Reps.get' ⟨hn, hi⟩ (by simpa using hx)
            obtain ⟨q, hq, hrq⟩ := Reps.get' ⟨hn2, hi2⟩ (by simpa using hy)
            exact ⟨[p, q], by simp [zipP, List.getElem?_zipWith, hp, hq], Reps.cons hrp (Reps.cons hrq Reps.nil)⟩⟩
        obtain ⟨hp, t, rfl, hk⟩ := k₁
        exact wpAny_pyIter_zip hz ⟨⟨h', t, rfl, fun b o e => hkk b o (hk b o e)⟩, _, _, _, _, rfl, O⟩) fun _ _ x => x.elim)))

theorem EvIt.range {np pos : Pos} {x : Str} {e : Expr} {es : List Expr} {ps : List PV} {a b c : Int} {n : Nat} (hg : Glob h₀ x (.type "range")) (ha : EvA prog w A env h₀ ρ (e :: es) ps) (hA : A.handled = Option.none)
    (hps : ps = [.int b] ∧ a = 0 ∧ c = 1 ∨ ps = [.int a, .int b] ∧ c = 1 ∨ ps = [.int a, .int b, .int c] ∧ c ≠ 0 ∧ c.natAbs < 1073741824) (hn : Builtin.Range.rangeSize a b c = n) (hsm : Builtin.Range.small a b c = true)
    (hk : env.kindOf x = some .globalImplicit := by with_unfolding_all rfl) (hd : (x == ("__debug__" : Str)) = false := by decide)
    (he : starEach (e :: es) env = (false, eval e env) :: starEach es env := by rfl) (hp : ∀ pos, (backTo pos (starEach es env)).any (·.1) = false := by intro _; rfl) :
    EvIt prog w A env h₀ ρ (.Call (.Name x np) (e :: es) [] pos) (rangeP a c n) := fun X s S =>
  Call_ (wp_glob S hg hk hd (callWith_ty (he := he) (hplain := hp pos) (wpAny_mono (ha X s pos S) (fun vs s₁ h₁ => by
    obtain ⟨k₁, hr⟩ := h₁
    have kp : ∀ o t, Keeps s { s₁ with heap := s₁.heap.push o, toks := t } := fun o t => Kp.trans k₁ (Kp.push s₁ o t)
    rcases hps with ⟨rfl, rfl, rfl⟩ | ⟨rfl, rfl⟩ | ⟨rfl, hc, hc2⟩
    · obtain ⟨v, vs', rfl, hv, hr'⟩ := hr.cons_inv
      obtain rfl := hr'.nil_inv
      cases hv with
      | int _ t => exact call_range_1 (source_range (kp _ _) S.live hA (IsRange.new ..) hn hsm)
    · obtain ⟨v, vs', rfl, hv, hr'⟩ := hr.cons_inv
      obtain ⟨u, vs'', rfl, hu, hr''⟩ := hr'.cons_inv
      obtain rfl := hr''.nil_inv
      cases hv with
      | int _ t => cases hu with
        | int _ t' => exact call_range_2 (source_range (kp _ _) S.live hA (IsRange.new ..) hn hsm)
    · obtain ⟨v, vs', rfl, hv, hr'⟩ := hr.cons_inv
      obtain ⟨u, vs'', rfl, hu, hr''⟩ := hr'.cons_inv
      obtain ⟨z, vs3, rfl, hz, hr3⟩ := hr''.cons_inv
      obtain rfl := hr3.nil_inv
      cases hv with
      | int _ t => cases hu with
        | int _ t' => cases hz with
          | int _ t'' => exact call_range_3 hc (source_range (kp _ _) S.live hA (IsRange.new ..) hn hsm) (.inl (PyProof.noPylong_small hc2))) fun _ _ x => x.elim)))

theorem Ev.neg {e : Expr} {pos : Pos} {i : Int} (h : Ev prog w A env h₀ ρ e (.int i)) : Ev prog w A env h₀ ρ (.UnaryOp .USub e pos) (.int (-i)) := fun X s S =>
  UnaryOp_ (wpAny_mono (h X s S) (fun v s₁ h₁ => by
    obtain ⟨k, hr⟩ := h₁
    cases hr with
    | int _ t => exact PySem.P.neg_int ⟨Kp.trans k (Kp.tok s₁ _), .int _ _⟩) fun _ _ x => x)
end
end

-- F1
section
open PySem PySem.W PyProof.Rows PySem.Calls
set_option maxRecDepth 100000
section
variable {prog : Program} {w : World} {A : Around} {env : Env} {h₀ : Heap} {ρ : PEnv}

theorem Ev.globP {x : Str} {v : Value} {p : PV} {pos : Pos} (hg : Glob h₀ x v) (hr : ∀ h X, Rep h X v p) (hk : env.kindOf x = some .globalImplicit := by with_unfolding_all rfl) (hd : (x == ("__debug__" : Str)) = false := by decide) :
    Ev prog w A env h₀ ρ (.Name x pos) p := fun X s S => wp_glob S hg hk hd ⟨Kp.refl s, hr _ _⟩

theorem Fn.typeStr {x : Str} : Fn prog w A (.type "type") [.str x] (.ty "str") := fun X s vs L hr => by
  obtain ⟨v, vs', rfl, hv, hr'⟩ := hr.cons_inv
  obtain rfl := hr'.nil_inv
  cases hv with
  | str x t => exact call_type_of (Tx := "str") rfl (by decide +kernel) ⟨Kp.refl s, .ty _⟩

theorem sub_nested_str {dep : Int} {tk : Tok} {s : Shared} {Q : Fin → Shared → Prop} {E : Value → Shared → Prop} (hq : Q (.done (.ret (.bool true))) s) :
    wpAny (model prog w) A (Builtin.«issubclass.nested» ⟨[.type "str", .type "str", .int dep tk], []⟩) Q E s := by
  have hm : (typeOf (.type "str") : Sem Value) = pure (.type "type") := meta_str
  have hself := sub_str_str
  repeat (any_goals (first | assumption | (rw [hself]) | wp_step))

theorem sub_nested_tuple {t : Addr} {s : Shared} {Q : Fin → Shared → Prop} {E : Value → Shared → Prop} {its : Array Value} (ht : IsTup s.heap t its) (hits : its = #[.type "str", .type "bytes"]) (hq : ∀ tk, Q (.done (.ret (.bool true))) { s with toks := tk }) :
    wpAny (model prog w) A (Builtin.«issubclass.nested» ⟨[.type "str", .ref t, rawInt 0], []⟩) Q E s := by
  obtain ⟨h, g, d, tk, os⟩ := s
  obtain ⟨⟨oc, od, odt, osl⟩, ho, hc, n, hd⟩ := ht
  dsimp only at hc hd
  subst hc hd
  have hT2 : (⟨h, g, d, tk, os⟩ : Shared).TypeIs (.ref t) "tuple" := ⟨_, ho, rfl⟩
  have f1 := F.isi_sub_tuple
  repeat (any_goals (first | assumption | wp_step))
  refine wpAny_arrayLoop ?_
  subst hits
  simp only [Option.getD_some]
  show wpAny _ _ (forIn [Value.type "str", Value.type "bytes"] _ _) _ _ _
  rw [List.forIn_cons]
  refine wpAny_bind (wpAny_bind ?_)
  refine call_function_any (id := "issubclass.nested") (by decide +kernel) (by decide +kernel) F.entry_issubclass_nested (by unfold argsOk; kernel_rfl) ?_
  refine sub_nested_str ?_
  refine wpAny_bind (m := truthy (.bool true)) (wpAny_pure ?_)
  repeat (any_goals (first | assumption | wp_step))
  exact hq tk

theorem Fn.issubStr : Fn prog w A (.builtin "issubclass") [.ty "str", .tuple [.ty "str", .ty "bytes"]] (.bool true) := fun X s vs L hr => by
  obtain ⟨v, vs', rfl, hv, hr'⟩ := hr.cons_inv
  obtain ⟨u, vs'', rfl, hu, hr''⟩ := hr'.cons_inv
  obtain rfl := hr''.nil_inv
  cases hv
  cases hu with
  | @tuple t us _ hx ht hn hi =>
    have hus : Reps s.heap X us [.ty "str", .ty "bytes"] := ⟨hn, hi⟩
    obtain ⟨a, us', rfl, ha, hr1⟩ := hus.cons_inv
    obtain ⟨b, us'', rfl, hb, hr2⟩ := hr1.cons_inv
    obtain rfl := hr2.nil_inv
    cases ha; cases hb
    refine call_function_any F.kind_issubclass F.plain_issubclass F.entry_issubclass (F.args_issubclass_2 _ _) ?_
    refine issubclass_outer ?_
    exact sub_nested_tuple ht rfl fun tk => ⟨Kp.tok s _, .bool _⟩

theorem Fn.isiBytes {x : Str} : Fn prog w A (.builtin "isinstance") [.str x, .ty "bytes"] (.bool false) := fun X s vs L hr => by
  obtain ⟨v, vs', rfl, hv, hr'⟩ := hr.cons_inv
  obtain ⟨u, vs'', rfl, hu, hr''⟩ := hr'.cons_inv
  obtain rfl := hr''.nil_inv
  cases hv with
  | str x t => cases hu; exact call_isinstance (isinstance_false_str (by decide +kernel) F.isi_meta_bytes F.sub_str_bytes) ⟨Kp.tok s _, .bool _⟩
end
end

-- F2
section
open PySem PySem.W PyProof.Rows PySem.Calls PySem.Builtin PySem.Builtin.Str PySem.SeqAt PySem.SeqRoads2
set_option maxRecDepth 100000
section
variable {prog : Program} {w : World} {A : Around} {env : Env} {h₀ : Heap} {ρ : PEnv}

theorem Reps.one {h : Heap} {X : List Addr} {vs : List Value} {p : PV} (r : Reps h X vs [p]) : ∃ v, vs = [v] ∧ Rep h X v p := by
  obtain ⟨v, vs', rfl, hv, hr⟩ := r.cons_inv
  obtain rfl := hr.nil_inv
  exact ⟨v, rfl, hv⟩
theorem Reps.two {h : Heap} {X : List Addr} {vs : List Value} {p q : PV} (r : Reps h X vs [p, q]) : ∃ v u, vs = [v, u] ∧ Rep h X v p ∧ Rep h X u q := by
  obtain ⟨v, vs', rfl, hv, hr⟩ := r.cons_inv
  obtain ⟨u, rfl, hu⟩ := hr.one
  exact ⟨v, u, rfl, hv, hu⟩

theorem Fn.startswith {x y : Str} : Fn prog w A (.builtin "str.startswith") [.str x, .str y] (.bool (Txt.startswith x y)) := fun X s vs L hr => by
  obtain ⟨v, u, rfl, hv, hu⟩ := hr.two
  cases hv; cases hu
  exact SC.startswith ⟨Kp.refl s, .bool _⟩
theorem Fn.endswith {x y : Str} : Fn prog w A (.builtin "str.endswith") [.str x, .str y] (.bool (Txt.endswith x y)) := fun X s vs L hr => by
  obtain ⟨v, u, rfl, hv, hu⟩ := hr.two
  cases hv; cases hu
  exact SC.endswith ⟨Kp.refl s, .bool _⟩
theorem Fn.rfind {x y : Str} : Fn prog w A (.builtin "str.rfind") [.str x, .str y] (.int (Txt.rfind x y)) := fun X s vs L hr => by
  obtain ⟨v, u, rfl, hv, hu⟩ := hr.two
  cases hv; cases hu
  exact SC.rfind ⟨Kp.tok s _, .int _ _⟩
theorem Fn.rstrip {x y : Str} (hx : x.length ≤ sizeLine) : Fn prog w A (.builtin "str.rstrip") [.str x, .str y] (.str (Txt.rstripChars x y)) := fun X s vs L hr => by
  obtain ⟨v, u, rfl, hv, hu⟩ := hr.two
  cases hv; cases hu
  exact SC.rstripChars (fun t' k => ⟨Kp.tok s _, .str _ _⟩) hx

theorem rep_pushed {X : List Addr} {s : Shared} {vs : List Value} {l : List PV} {tk n : Nat} (L : Live X s.heap) (hr : Reps s.heap X vs l) :
    Keeps s { s with heap := s.heap.push { cls := .type "list", data := .seq vs.toArray n }, toks := tk } ∧ Rep (s.heap.push { cls := .type "list", data := .seq vs.toArray n }) X (.ref s.heap.objs.size) (.list l) :=
  ⟨Kp.push s _ _, .list (Live.fresh L (get_size _)) ⟨_, Heap.get?_push_size _ rfl, rfl, _, rfl⟩ hr.1 fun i v p hv hp => (hr.2 i v p hv hp).keeps fun b o e => Heap.get?_push_of_some _ e⟩

theorem reps_strs {h : Heap} {X : List Addr} (l : List (Str × Tok)) : Reps h X (strValues l) ((l.map (·.1)).map .str) := by
  induction l with
  | nil => exact Reps.nil
  | cons q r ih => exact Reps.cons (.str _ _) ih

theorem Fn.split {x y : Str} (hy : (y.length == 0) = false) (hsz : x.length ≤ sizeLine) (hsz2 : (partsBetween x (occurrences x y 0 x.length (x.length + 1)) y.length).length ≤ sizeLine) :
    Fn prog w A (.builtin "str.split") [.str x, .str y] (.list ((Txt.split x y).map .str)) := fun X s vs L hr => by
  obtain ⟨v, u, rfl, hv, hu⟩ := hr.two
  cases hv with
  | str _ t =>
    cases hu with
    | str _ u =>
      cases h1 : (decide (x.length < y.length) || decide (strKind x < strKind y))
      · cases hf : (occurrences x y 0 x.length (x.length + 1)).isEmpty
        · refine call_meets PySem.F.slot_str_split (typeIs_str _ _ _) PySem.F.entry_str_split (PySem.F.args_str_split_2 _ _) (meets_str_split_sep x y t u h1 hy hf hsz hsz2) ?_
          show wants _ _ _ { s with toks := _, heap := s.heap.push { cls := .type "list", data := .seq (strsFrom s.toks (partsBetween x (occurrences x y 0 x.length (x.length + 1)) y.length)).toArray } }
          rw [strsFrom_eq]
          have e : (numbered s.toks (partsBetween x (occurrences x y 0 x.length (x.length + 1)) y.length)).map (·.1) = Txt.split x y := ((numbered_texts _ _).trans ((if_neg (ne_true_of_eq_false h1)).trans (if_neg (ne_true_of_eq_false hf))).symm)
          have := reps_strs (h := s.heap) (X := X) (numbered s.toks (partsBetween x (occurrences x y 0 x.length (x.length + 1)) y.length))
          rw [e] at this
          exact rep_pushed L this
        · refine call_meets PySem.F.slot_str_split (typeIs_str _ _ _) PySem.F.entry_str_split (PySem.F.args_str_split_2 _ _) (meets_str_split_not_found x y t u h1 hy hf) ?_
          have e : Txt.split x y = [x] := (if_neg (ne_true_of_eq_false h1)).trans (if_pos hf)
          rw [e]
          exact rep_pushed (tk := s.toks) L (Reps.cons (.str _ _) Reps.nil)
      · refine call_meets PySem.F.slot_str_split (typeIs_str _ _ _) PySem.F.entry_str_split (PySem.F.args_str_split_2 _ _) (meets_str_split_cannot_occur x y t u h1) ?_
        have e : Txt.split x y = [x] := if_pos h1
        rw [e]
        exact rep_pushed (tk := s.toks) L (Reps.cons (.str _ _) Reps.nil)

theorem reps_strsAre {h : Heap} {X : List Addr} : ∀ {vs : List Value} {xs : List Str}, Reps h X vs (xs.map .str) → StrsAre vs xs
  | vs, [], r => by rw [r.nil_inv]; exact .nil
  | vs, x :: xs, r => by
    obtain ⟨v, vs', rfl, hv, hr⟩ := r.cons_inv
    cases hv with
    | str _ t => exact .cons x t (reps_strsAre hr)
theorem Fn.join {x : Str} {xs : List Str} (hok : (xs.map (·.length)).sum + xs.length * x.length ≤ 16777216) : Fn prog w A (.builtin "str.join") [.str x, .list (xs.map .str)] (.str (Txt.join x xs)) := fun X s vs L hr => by
  obtain ⟨v, u, rfl, hv, hu⟩ := hr.two
  cases hv; cases hu with
  | list _ hl hn hi => exact join_list hl (reps_strsAre (h := s.heap) (X := X) ⟨hn, hi⟩) hok fun t' k => ⟨Kp.tok s _, .str _ _⟩

theorem Fn.lenStr {x : Str} (hx : x.length ≤ sizeLine) : Fn prog w A (.builtin "len") [.str x] (.int x.length) := fun X s vs L hr => by
  obtain ⟨v, rfl, hv⟩ := hr.one
  cases hv with
  | str _ t => exact PySem.P.len_str (by have := sizeLine_eq; omega) ⟨Kp.tok s _, .int _ _⟩
theorem Fn.lenList {l : List PV} (hx : l.length ≤ sizeLine) : Fn prog w A (.builtin "len") [.list l] (.int l.length) := fun X s vs L hr => by
  obtain ⟨v, rfl, hv⟩ := hr.one
  cases hv with
  | list _ hl hn _ => exact call_len_list hl (by have := sizeLine_eq; simp; omega) ⟨Kp.tok s _, by rw [List.size_toArray, hn]; exact .int _ _⟩
/-- len of a list that may be the frame's own -/
theorem Ev.lenL {x : Str} {np pos : Pos} {e : Expr} {l : List PV} (hg : Glob h₀ x (.builtin "len")) (he' : EvL prog w A env h₀ ρ e l) (hx : l.length ≤ sizeLine)
    (hk : env.kindOf x = some .globalImplicit := by with_unfolding_all rfl) (hd : (x == ("__debug__" : Str)) = false := by decide)
    (he : starEach [e] env = (false, eval e env) :: starEach [] env := by rfl) :
    Ev prog w A env h₀ ρ (.Call (.Name x np) [e] [] pos) (.int l.length) := fun X s S =>
  Call_ (wp_glob S hg hk hd (callWith_method1 (first := []) (he := he) (hplain := by rfl) (args_cons (he := he) (wpAny_mono (he' X s S) (fun v s₁ h₁ => args_nil (by
    obtain ⟨k, a, vs, rfl, hl, hn, _⟩ := h₁
    exact call_len_list hl (by have := sizeLine_eq; simp; omega) ⟨Kp.trans k (Kp.tok s₁ _), by rw [List.size_toArray, hn]; exact .int _ _⟩)) fun _ _ x => x))))

theorem Fn.strInt {i : Int} (h : i.natAbs.log2 < 1920) : Fn prog w A (.type "str") [.int i] (.str (Str.ofString (toString i))) := fun X s vs L hr => by
  obtain ⟨v, rfl, hv⟩ := hr.one
  cases hv with
  | int _ t => exact PySem.P.str_of_int h ⟨Kp.tok s _, .str _ _⟩

theorem Op2.addS {x y : Str} (hsz : x.length + y.length ≤ sizeLine) : Op2 prog w A .Add (.str x) (.str y) (.str (x ++ y)) := fun X s va vb L ha hb => by
  cases ha with
  | str _ t => cases hb with
    | str _ u =>
      refine PySem.P.add_str ?_
      by_cases h1 : (x.length == 0) = true
      · rw [if_pos h1]
        have e : x ++ y = y := by
          have : x = Str.empty := Str.ext' (by have := of_decide_eq_true h1; unfold Str.length at this; exact Array.eq_empty_of_size_eq_zero this)
          rw [this]; exact Str.empty_append y
        rw [e]; exact ⟨Kp.refl s, .str _ _⟩
      · rw [if_neg h1]
        by_cases h2 : (y.length == 0) = true
        · rw [if_pos h2]
          have e : x ++ y = x := by
            apply Str.ext'
            rw [Str.cps_append]
            have := of_decide_eq_true h2; unfold Str.length at this
            have := Array.eq_empty_of_size_eq_zero this
            rw [this]; simp
          rw [e]; exact ⟨Kp.refl s, .str _ _⟩
        · rw [if_neg h2]
          exact ⟨by rw [Str.length_append]; exact hsz, Kp.tok s _, .str _ _⟩
theorem Op2.mulS {x : Str} {n : Int} (hok : MulOk x n) : Op2 prog w A .Mult (.str x) (.int n) (.str (Txt.mul x n)) := fun X s va vb L ha hb => by
  cases ha with
  | str _ t => cases hb with
    | int _ u => exact PySem.SB.mul hok fun t' k => ⟨Kp.tok s _, .str _ _⟩
theorem Cmp.eqS {x y : Str} : Cmp prog w A .Eq (.str x) (.str y) (x.cps.toList == y.cps.toList) := fun X s va vb L ha hb => by
  cases ha; cases hb; exact PySem.P.eq_str ⟨Kp.refl s, rfl⟩
theorem Cmp.neS {x y : Str} : Cmp prog w A .NotEq (.str x) (.str y) (x.cps.toList != y.cps.toList) := fun X s va vb L ha hb => by
  cases ha; cases hb; exact PySem.P.ne_str ⟨Kp.refl s, rfl⟩

/-- equality of the small kinds -/
noncomputable def pvEq : PV → PV → Bool
  | .int a, .int b => a == b
  | .str a, .str b => a == b
  | _, _ => false
noncomputable def Small : PV → Bool
  | .int _ => true
  | _ => false
noncomputable def SmallS : PV → Bool
  | .str _ => true
  | _ => false
noncomputable def Alike (l k : List PV) : Prop := (l.all Small = true ∧ k.all Small = true) ∨ (l.all SmallS = true ∧ k.all SmallS = true)

theorem eqAt_small {X : List Addr} {s : Shared} {va vb : Value} {a b : PV} (ha : Rep s.heap X va a) (hb : Rep s.heap X vb b) (h : (Small a = true ∧ Small b = true) ∨ (SmallS a = true ∧ SmallS b = true)) : EqAt A s va vb (pvEq a b) := by
  rcases h with ⟨h1, h2⟩ | ⟨h1, h2⟩
  · cases a <;> simp [Small] at h1
    cases b <;> simp [Small] at h2
    cases ha; cases hb
    exact EqAt.int_int _ _ _ _
  · cases a <;> simp [SmallS] at h1
    cases b <;> simp [SmallS] at h2
    cases ha; cases hb
    exact (eqGives_str _ _ _ _).at A s

noncomputable def pvsEq (l k : List PV) : Bool := l.length == k.length && (List.range l.length).all fun j => pvEq (l.getD j .none) (k.getD j .none)

theorem rcAt_lists {X : List Addr} {s : Shared} {a b : Addr} {vs ws : List Value} {l k : List PV} (hl : s.heap.IsList a vs.toArray) (hr : Reps s.heap X vs l) (hb : s.heap.IsList b ws.toArray) (hs : Reps s.heap X ws k) (hu : A.units < cLine) (hk : Alike l k) :
    RcAt A s (.ref a) (.ref b) (pvsEq l k) := by
  by_cases hz : vs.length = ws.length
  · have key := RcAt.lists (A := A) (e := fun j => pvEq (l.getD j .none) (k.getD j .none)) hl hb (by simpa using hz) hu fun j h1 h2 => by
      have h1' : j < vs.length := by simpa using h1
      have h2' : j < ws.length := by simpa using h2
      have l1 : j < l.length := by rw [← hr.1]; exact h1'
      have l2 : j < k.length := by rw [← hs.1]; exact h2'
      have e1 : l.getD j .none = l[j] := by simp [List.getD, l1]
      have e2 : k.getD j .none = k[j] := by simp [List.getD, l2]
      rw [e1, e2]
      refine eqAt_small (X := X) (hr.2 j _ _ (by simp [h1']) (by simp [l1])) (hs.2 j _ _ (by simp [h2']) (by simp [l2])) ?_
      rcases hk with ⟨q1, q2⟩ | ⟨q1, q2⟩
      · exact .inl ⟨List.all_eq_true.mp q1 _ (List.getElem_mem l1), List.all_eq_true.mp q2 _ (List.getElem_mem l2)⟩
      · exact .inr ⟨List.all_eq_true.mp q1 _ (List.getElem_mem l1), List.all_eq_true.mp q2 _ (List.getElem_mem l2)⟩
    have e : (List.range vs.toArray.size).all (fun j => pvEq (l.getD j .none) (k.getD j .none)) = pvsEq l k := by
      unfold pvsEq
      have : (l.length == k.length) = true := by simp [← hr.1, ← hs.1, hz]
      rw [this, Bool.true_and, List.size_toArray, hr.1]
    rw [e] at key; exact key
  · have key := RcAt.lists_lengths (A := A) hl hb (by simpa using hz) hu
    have e : pvsEq l k = false := by
      unfold pvsEq
      have : (l.length == k.length) = false := by simpa [← hr.1, ← hs.1] using hz
      rw [this, Bool.false_and]
    rw [e]; exact key
theorem Cmp.eqL {l k : List PV} (hu : A.units < cLine) (hk : Alike l k) : Cmp prog w A .Eq (.list l) (.list k) (pvsEq l k) := fun X s va vb L ha hb => by
  cases ha with
  | list _ hl hn hi => cases hb with
    | list _ hl' hn' hi' => exact rcAt_lists (X := X) hl ⟨hn, hi⟩ hl' ⟨hn', hi'⟩ hu hk prog w _ _ ⟨Kp.refl s, rfl⟩
theorem rcNeAt_lists {X : List Addr} {s : Shared} {a b : Addr} {vs ws : List Value} {l k : List PV} (hl : s.heap.IsList a vs.toArray) (hr : Reps s.heap X vs l) (hb : s.heap.IsList b ws.toArray) (hs : Reps s.heap X ws k) (hu : A.units < cLine) (hk : Alike l k) :
    RcNeAt A s (.ref a) (.ref b) (!pvsEq l k) := by
  by_cases hz : vs.length = ws.length
  · have key := RcNeAt.lists (A := A) (e := fun j => pvEq (l.getD j .none) (k.getD j .none)) hl hb (by simpa using hz) hu fun j h1 h2 => by
      have h1' : j < vs.length := by simpa using h1
      have h2' : j < ws.length := by simpa using h2
      have l1 : j < l.length := by rw [← hr.1]; exact h1'
      have l2 : j < k.length := by rw [← hs.1]; exact h2'
      have e1 : l.getD j .none = l[j] := by simp [List.getD, l1]
      have e2 : k.getD j .none = k[j] := by simp [List.getD, l2]
      rw [e1, e2]
      refine eqAt_small (X := X) (hr.2 j _ _ (by simp [h1']) (by simp [l1])) (hs.2 j _ _ (by simp [h2']) (by simp [l2])) ?_
      rcases hk with ⟨q1, q2⟩ | ⟨q1, q2⟩
      · exact .inl ⟨List.all_eq_true.mp q1 _ (List.getElem_mem l1), List.all_eq_true.mp q2 _ (List.getElem_mem l2)⟩
      · exact .inr ⟨List.all_eq_true.mp q1 _ (List.getElem_mem l1), List.all_eq_true.mp q2 _ (List.getElem_mem l2)⟩
    have e : (List.range vs.toArray.size).all (fun j => pvEq (l.getD j .none) (k.getD j .none)) = pvsEq l k := by
      unfold pvsEq
      have : (l.length == k.length) = true := by simp [← hr.1, ← hs.1, hz]
      rw [this, Bool.true_and, List.size_toArray, hr.1]
    rw [e] at key; exact key
  · have key := RcNeAt.lists_lengths (A := A) hl hb (by simpa using hz) hu
    have e : pvsEq l k = false := by
      unfold pvsEq
      have : (l.length == k.length) = false := by simpa [← hr.1, ← hs.1] using hz
      rw [this, Bool.false_and]
    rw [e]; exact key
theorem Cmp.neL {l k : List PV} (hu : A.units < cLine) (hk : Alike l k) : Cmp prog w A .NotEq (.list l) (.list k) (!pvsEq l k) := fun X s va vb L ha hb => by
  cases ha with
  | list _ hl hn hi => cases hb with
    | list _ hl' hn' hi' => exact rcNeAt_lists (X := X) hl ⟨hn, hi⟩ hl' ⟨hn', hi'⟩ hu hk prog w _ _ ⟨Kp.refl s, rfl⟩

theorem any_reps {h : Heap} {X : List Addr} (x : PV) (e : Value → Bool) : ∀ {vs : List Value} {l : List PV}, Reps h X vs l → (∀ v p, Rep h X v p → p ∈ l → e v = pvEq p x) → vs.any e = l.any (fun p => pvEq p x)
  | vs, [], r, _ => by rw [r.nil_inv]; rfl
  | vs, p :: l, r, he => by
    obtain ⟨v, vs', rfl, hv, hr⟩ := r.cons_inv
    rw [List.any_cons, List.any_cons, he v p hv List.mem_cons_self, any_reps x e hr fun v p hv hp => he v p hv (List.mem_cons_of_mem _ hp)]

/-- the pure value of a small one -/
noncomputable def ofVal : Value → PV
  | .int i _ => .int i
  | .str x _ => .str x
  | _ => .none
theorem ofVal_rep {h : Heap} {X : List Addr} {v : Value} {p : PV} (r : Rep h X v p) (hp : Small p = true ∨ SmallS p = true) : ofVal v = p := by
  cases r <;> first | rfl | (rcases hp with hp | hp <;> cases hp)

theorem in_small {X : List Addr} {s : Shared} {v : Value} {x : PV} {b : Addr} {vs : List Value} {l : List PV} {Q : Value → Shared → Prop} {E : Value → Shared → Prop} (hv : Rep s.heap X v x) (hl : s.heap.IsList b vs.toArray) (hr : Reps s.heap X vs l)
    (hk : Alike l [x]) (h : Q (.bool (l.any fun p => pvEq p x)) s) : wpAny (model prog w) A (compareOp .In v (.ref b)) Q E s := by
  have sm : ∀ p, p ∈ l → (Small p = true ∧ Small x = true) ∨ (SmallS p = true ∧ SmallS x = true) := fun p hp => by
    rcases hk with ⟨q1, q2⟩ | ⟨q1, q2⟩
    · exact .inl ⟨List.all_eq_true.mp q1 _ hp, by simpa using q2⟩
    · exact .inr ⟨List.all_eq_true.mp q1 _ hp, by simpa using q2⟩
  refine in_listAt (fun y => pvEq (ofVal y) x) hl (fun y hy => ?_) ?_
  · obtain ⟨i, hi, rfl⟩ := List.mem_iff_getElem.mp (by simpa using hy : y ∈ vs)
    obtain ⟨p, hp, hrp⟩ := hr.get' (i := i) (v := vs[i]) (by simp [hi])
    have hm := List.mem_of_getElem? hp
    have e : ofVal vs[i] = p := ofVal_rep hrp (by rcases sm p hm with q | q; exact .inl q.1; exact .inr q.1)
    rw [e]
    exact eqAt_small (X := X) hrp hv (sm p hm)
  · have : vs.toArray.any (fun y => pvEq (ofVal y) x) = l.any fun p => pvEq p x := by
      rw [List.any_toArray]
      exact any_reps x _ hr fun v p hvp hp => by rw [ofVal_rep hvp (by rcases sm p hp with q | q; exact .inl q.1; exact .inr q.1)]
    rw [this]; exact h
theorem notIn_small {X : List Addr} {s : Shared} {v : Value} {x : PV} {b : Addr} {vs : List Value} {l : List PV} {Q : Value → Shared → Prop} {E : Value → Shared → Prop} (hv : Rep s.heap X v x) (hl : s.heap.IsList b vs.toArray) (hr : Reps s.heap X vs l)
    (hk : Alike l [x]) (h : Q (.bool (!l.any fun p => pvEq p x)) s) : wpAny (model prog w) A (compareOp .NotIn v (.ref b)) Q E s := by
  have sm : ∀ p, p ∈ l → (Small p = true ∧ Small x = true) ∨ (SmallS p = true ∧ SmallS x = true) := fun p hp => by
    rcases hk with ⟨q1, q2⟩ | ⟨q1, q2⟩
    · exact .inl ⟨List.all_eq_true.mp q1 _ hp, by simpa using q2⟩
    · exact .inr ⟨List.all_eq_true.mp q1 _ hp, by simpa using q2⟩
  refine notIn_listAt (fun y => pvEq (ofVal y) x) hl (fun y hy => ?_) ?_
  · obtain ⟨i, hi, rfl⟩ := List.mem_iff_getElem.mp (by simpa using hy : y ∈ vs)
    obtain ⟨p, hp, hrp⟩ := hr.get' (i := i) (v := vs[i]) (by simp [hi])
    have hm := List.mem_of_getElem? hp
    have e : ofVal vs[i] = p := ofVal_rep hrp (by rcases sm p hm with q | q; exact .inl q.1; exact .inr q.1)
    rw [e]
    exact eqAt_small (X := X) hrp hv (sm p hm)
  · have : vs.toArray.any (fun y => pvEq (ofVal y) x) = l.any fun p => pvEq p x := by
      rw [List.any_toArray]
      exact any_reps x _ hr fun v p hvp hp => by rw [ofVal_rep hvp (by rcases sm p hp with q | q; exact .inl q.1; exact .inr q.1)]
    rw [this]; exact h
theorem Cmp.inL {x : PV} {l : List PV} (hk : Alike l [x]) : Cmp prog w A .In x (.list l) (l.any fun p => pvEq p x) := fun X s va vb L ha hb => by
  cases hb with
  | list _ hl hn hi => exact in_small (X := X) ha hl ⟨hn, hi⟩ hk ⟨Kp.refl s, rfl⟩
theorem CmpL.notIn {x : PV} {l : List PV} (hk : Alike l [x]) : CmpL prog w A .NotIn x l (!l.any fun p => pvEq p x) := fun X s va b vs L ha hl hr => notIn_small (X := X) ha hl hr hk ⟨Kp.refl s, rfl⟩

theorem Op2.addL {l k : List PV} (hsz : l.length + k.length ≤ sizeLine) : Op2 prog w A .Add (.list l) (.list k) (.list (l ++ k)) := fun X s va vb L ha hb => by
  cases ha with
  | @list a vs _ ha hl hn hi => cases hb with
    | @list b ws _ hb hl' hn' hi' =>
      obtain ⟨⟨cls, dd, data, sl⟩, ho, hc, n, hd⟩ := id hl
      obtain ⟨⟨cls2, dd2, data2, sl2⟩, ho2, hc2, n2, hd2⟩ := id hl'
      simp only at hc hd hc2 hd2
      subst hc hd hc2 hd2
      have e : vs.toArray ++ ws.toArray = (vs ++ ws).toArray := by simp
      refine concat_meets ⟨_, ho, rfl⟩ ⟨_, ho2, rfl⟩ noFill_list_add seq_list_add PySem.F.slot_list_add PySem.F.entry_list_add (PySem.F.args_list_add_2 _ _) (list_addW a b vs.toArray ws.toArray n n2 dd dd2 sl sl2 (by simpa [hn, hn'] using hsz)) ⟨ho, ho2, ?_⟩
      rw [e]
      exact rep_pushed (tk := s.toks) L (Reps.append ⟨hn, hi⟩ ⟨hn', hi'⟩)

/-- a slice's bound -/
noncomputable def EvP (prog : Program) (w : World) (A : Around) (env : Env) (h₀ : Heap) (ρ : PEnv) (e : Option Expr) (i : Option Int) : Prop :=
  ∀ X s, Sit env ρ X h₀ s.heap → wpAny (model prog w) A (evalPart e env) (fun v s' => Keeps s s' ∧ ∃ l, v = partValue l ∧ l.map (·.1) = i) (fun _ _ => False) s
theorem EvP.none : EvP prog w A env h₀ ρ Option.none Option.none := fun X s S => wpAny_evalPart_none ⟨Kp.refl s, Option.none, rfl, rfl⟩
theorem EvP.some {e : Expr} {i : Int} (h : Ev prog w A env h₀ ρ e (.int i)) : EvP prog w A env h₀ ρ (some e) (some i) := fun X s S =>
  wpAny_evalPart_some (wpAny_mono (h X s S) (fun v s₁ h₁ => by
    obtain ⟨k, hr⟩ := h₁
    cases hr with
    | int _ t => exact ⟨k, Option.some (i, t), rfl, rfl⟩) fun _ _ x => x)

theorem Ev.sliceS {e : Expr} {lo hi : Option Expr} {p pos : Pos} {x : Str} {l u : Option Int} (he : Ev prog w A env h₀ ρ e (.str x)) (hl : EvP prog w A env h₀ ρ lo l) (hu : EvP prog w A env h₀ ρ hi u) (hsz : x.length ≤ sizeLine)
    (ht : ∀ o r, letTemporaryGo e o r = pure () := by intro _ _; rfl) : Ev prog w A env h₀ ρ (.Subscript e (.Slice lo hi Option.none p) pos) (.str (Txt.slice x l u)) := fun X s S =>
  wpAny_Subscript_str_slice (ht := ht) (wpAny_mono (he X s S) (fun v s₁ h₁ => wpAny_mono (hl X s₁ (S.keeps (Kp.hh h₁.1))) (fun vl s₂ h₂ => wpAny_mono (hu X s₂ (S.keeps (Kp.hh (Kp.trans h₁.1 h₂.1)))) (fun vu s₃ h₃ => by
    obtain ⟨k₁, hr⟩ := h₁
    obtain ⟨k₂, l', rfl, rfl⟩ := h₂
    obtain ⟨k₃, u', rfl, rfl⟩ := h₃
    cases hr with
    | str _ t =>
      refine ⟨x, t, l', u', rfl, rfl, rfl, ?_⟩
      have k := Kp.trans (Kp.trans k₁ k₂) (Kp.trans k₃ (Kp.push s₃ { cls := .type "slice", data := .fields #[partValue l', partValue u', .none] } s₃.toks))
      exact post_val_or_str ⟨Nat.le_trans (Txt.slice_le x _ _) hsz, fun t' tk => ⟨Kp.trans k (Kp.tok _ _), .str _ _⟩⟩) fun _ _ x => x) fun _ _ x => x) fun _ _ x => x)

noncomputable def pickP (l : List PV) (lo hi : Option Int) : List PV := (sliceRange (sliceBounds lo hi Option.none l.length).1 (sliceBounds lo hi Option.none l.length).2.1 (sliceBounds lo hi Option.none l.length).2.2).filterMap (l[·]?)
theorem reps_pick {h : Heap} {X : List Addr} {vs : List Value} {l : List PV} (r : Reps h X vs l) : ∀ idx : List Nat, Reps h X (idx.filterMap (vs[·]?)) (idx.filterMap (l[·]?))
  | [] => Reps.nil
  | i :: idx => by
    have ih := reps_pick r idx
    by_cases hi : i < l.length
    · have hi' : i < vs.length := by rw [r.1]; exact hi
      have e1 : vs[i]? = some vs[i] := by simp [hi']
      have e2 : l[i]? = some l[i] := by simp [hi]
      rw [List.filterMap_cons, List.filterMap_cons, e1, e2]
      exact Reps.cons (r.2 i _ _ e1 e2) ih
    · have hi' : ¬ i < vs.length := by rw [r.1]; exact hi
      have e1 : vs[i]? = Option.none := by simp; omega
      have e2 : l[i]? = Option.none := by simp; omega
      rw [List.filterMap_cons, List.filterMap_cons, e1, e2]
      exact ih
theorem isPart_of {l : Option (Int × Tok)} : IsPart (partValue l) (l.map (·.1)) := by
  cases l with
  | none => exact .none
  | some q => exact .int _ _
theorem Ev.sliceL {e : Expr} {lo hi : Option Expr} {p pos : Pos} {ps : List PV} {l u : Option Int} (he : EvL prog w A env h₀ ρ e ps) (hl : EvP prog w A env h₀ ρ lo l) (hu : EvP prog w A env h₀ ρ hi u) (hsz : ps.length ≤ sizeLine)
    (ht : ∀ o r, letTemporaryGo e o r = pure () := by intro _ _; rfl) : Ev prog w A env h₀ ρ (.Subscript e (.Slice lo hi Option.none p) pos) (.list (pickP ps l u)) := fun X s S =>
  wpAny_Subscript_list_slice (ht := ht) (wpAny_mono (he X s S) (fun v s₁ h₁ => wpAny_mono (hl X s₁ (S.keeps (Kp.hh h₁.1))) (fun vl s₂ h₂ => wpAny_mono (hu X s₂ (S.keeps (Kp.hh (Kp.trans h₁.1 h₂.1)))) (fun vu s₃ h₃ => by
    obtain ⟨k₁, a, vs, rfl, hla, hr⟩ := h₁
    obtain ⟨k₂, l', rfl, rfl⟩ := h₂
    obtain ⟨k₃, u', rfl, rfl⟩ := h₃
    have k₂₃ := Kp.hh (Kp.trans k₂ k₃)
    have k := Kp.trans (Kp.trans k₁ k₂) (Kp.trans k₃ (Kp.push s₃ { cls := .type "slice", data := .fields #[partValue l', partValue u', .none] } s₃.toks))
    refine ⟨a, vs.toArray, _, _, rfl, hla.at fun o => k₂₃ _ o, by simpa [hr.1] using hsz, isPart_of, isPart_of, ?_⟩
    have hr' : Reps (s₃.heap.push { cls := .type "slice", data := .fields #[partValue l', partValue u', .none] }) X vs ps := hr.keeps fun b o e => Heap.get?_push_of_some _ (k₂₃ b o e)
    have e : slicePick vs.toArray (l'.map (·.1)) (u'.map (·.1)) Option.none = ((sliceRange (sliceBounds (l'.map (·.1)) (u'.map (·.1)) Option.none ps.length).1 (sliceBounds (l'.map (·.1)) (u'.map (·.1)) Option.none ps.length).2.1 (sliceBounds (l'.map (·.1)) (u'.map (·.1)) Option.none ps.length).2.2).filterMap (vs[·]?)).toArray := by
      unfold slicePick; simp [hr.1]
    rw [e]
    have L := Live.keeps S.live (Kp.hh k)
    have := rep_pushed (s := { s₃ with heap := s₃.heap.push { cls := .type "slice", data := .fields #[partValue l', partValue u', .none] } }) (tk := s₃.toks) (n := 0) L (reps_pick hr' (sliceRange (sliceBounds (l'.map (·.1)) (u'.map (·.1)) Option.none ps.length).1 (sliceBounds (l'.map (·.1)) (u'.map (·.1)) Option.none ps.length).2.1 (sliceBounds (l'.map (·.1)) (u'.map (·.1)) Option.none ps.length).2.2))
    rw [Heap.size_push] at this
    exact ⟨Kp.trans k this.1, this.2⟩) fun _ _ x => x) fun _ _ x => x) fun _ _ x => x)
end
end

-- F3
section
open PySem PySem.W PyProof.Rows PySem.Calls
set_option maxRecDepth 100000
set_option maxHeartbeats 2000000
section
variable {prog : Program} {w : World} {A : Around} {E : Value → Shared → Prop} {s : Shared}

theorem slot_map_init : Slot "map" "__init__" "object.__init__" :=
  .of (owner := "object") (n := "__init__") (by rw [typeLookup_type, builtinLookup_eq_fast]; kernel_rfl) (by decide +kernel) (by decide +kernel) (by decide +kernel)
    (by first | exact .inl (by decide +kernel) | exact .inr (by decide +kernel)) (by rw [isSubtype_type]; kernel_rfl)
theorem slot_map_iter : Slot "map" "__iter__" "map.__iter__" :=
  .of (owner := "map") (n := "__iter__") (by rw [typeLookup_type, builtinLookup_eq_fast]; kernel_rfl) (by decide +kernel) (by decide +kernel) (by decide +kernel)
    (by first | exact .inl (by decide +kernel) | exact .inr (by decide +kernel)) (by rw [isSubtype_type]; kernel_rfl)
theorem slot_map_next : Slot "map" "__next__" "map.__next__" :=
  .of (owner := "map") (n := "__next__") (by rw [typeLookup_type, builtinLookup_eq_fast]; kernel_rfl) (by decide +kernel) (by decide +kernel) (by decide +kernel)
    (by first | exact .inl (by decide +kernel) | exact .inr (by decide +kernel)) (by rw [isSubtype_type]; kernel_rfl)
theorem owner_map : Manifest.owners.lookup (String.ofList ['p', 'a', 'm'].reverse) = some Manifest.sig_map := by kernel_rfl
theorem args_map_iter_1 (a : Value) : argsOk "map.__iter__" ⟨[a], []⟩ := by
  unfold argsOk; rw [PySem.signature?_of (id := "map.__iter__") (n := ['_', '_', 'r', 'e', 't', 'i', '_', '_']) (o := ['p', 'a', 'm']) (by kernel_rfl) owner_map]; kernel_rfl
theorem args_map_next_1 (a : Value) : argsOk "map.__next__" ⟨[a], []⟩ := by
  unfold argsOk; rw [PySem.signature?_of (id := "map.__next__") (n := ['_', '_', 't', 'x', 'e', 'n', '_', '_']) (o := ['p', 'a', 'm']) (by kernel_rfl) owner_map]; kernel_rfl
theorem entry_map_next : entryFor table "map.__next__" = some Builtin.«map.__next__» := entryFor_of_tree (by kernel_rfl)
theorem entry_map_new : entryFor table "map.__new__" = some Builtin.«map.__new__» := entryFor_of_tree (by kernel_rfl)
theorem entry_map_iter : entryFor table "map.__iter__" = some Builtin.«dict_keyiterator.__iter__» :=
  entryFor_alias (id' := "dict_keyiterator.__iter__") (by kernel_rfl) (by first | rfl | decide +kernel | (unfold String.splitOn; simp +decide [String.splitOnAux])) (by decide +kernel) (by kernel_rfl)
theorem mro_map : mroOf (.type "map") = pure [.type "map", .type "object"] := by rw [mroOf_type]; kernel_rfl
theorem lookup_map_new : typeLookup (.type "map") "__new__" = pure (some (.builtin "map.__new__")) := by rw [typeLookup_type, builtinLookup_eq_fast]; kernel_rfl
theorem called_map : TypeCalled "map" "map.__new__" "object.__init__" :=
  ⟨by decide +kernel, by decide +kernel, ⟨_, _, mro_map⟩, madeBy_type mro_map lookup_map_new (by decide +kernel), by decide +kernel, by rw [isSubtype_type]; kernel_rfl, slot_map_init⟩
theorem typeCall_map_2 (a b : Value) : checkTypeCall "map" ⟨[a, b], []⟩ = pure () := by kernel_rfl
theorem newCall_map_2 (a b : Value) : checkBuiltinCall "map.__new__" ⟨[.type "map", a, b], []⟩ = pure () := by kernel_rfl
theorem sub_map : isSubtype (.type "map") (.type "map") = pure true := by rw [isSubtype_type]; kernel_rfl
theorem map_no_len : typeLookup (.type "map") "__len__" = pure Option.none := by rw [typeLookup_type, builtinLookup_eq_fast]; kernel_rfl
theorem map_no_hint : typeLookup (.type "map") "__length_hint__" = pure Option.none := by rw [typeLookup_type, builtinLookup_eq_fast]; kernel_rfl

noncomputable abbrev IsMap (h : Heap) (m T : Addr) (f : Value) : Prop := h.get? m = some { cls := .type "map", dict := Option.none, data := .fields #[.ref T, f], slots := #[] }
noncomputable abbrev IsOne (h : Heap) (T : Addr) (a : Value) : Prop := h.get? T = some { cls := .type "tuple", data := .seq #[a] }
noncomputable abbrev mapH1 (h : Heap) (l : Addr) : Heap := h.push { cls := .type "list_iterator", data := .fields #[.ref l, .int 0 0] }
noncomputable abbrev mapH2 (h : Heap) (l : Addr) : Heap := (mapH1 h l).push { cls := .type "tuple", data := .seq #[.ref h.objs.size] }
noncomputable abbrev mapH3 (h : Heap) (f : Value) (l : Addr) : Heap := (mapH2 h l).push { cls := .type "map", data := .fields #[.ref (mapH1 h l).objs.size, f] }

theorem meets_map_new (fa l : Addr) (xs : Array Value) :
    Meets (Builtin.«map.__new__» ⟨[.type "map", .ref fa, .ref l], []⟩) (fun _ R s => s.heap.IsList l xs ∧
      R (.ok (.ret (.ref (mapH2 s.heap l).objs.size))) { s with heap := mapH3 s.heap (.ref fa) l }) :=
  .of_wp fun prog w A R s h => by
    obtain ⟨hp, g, d, tk, os⟩ := s; obtain ⟨hl, h⟩ := h
    have hsub := sub_map
    have hL : Heap.IsList (Shared.heap ⟨hp, g, d, tk, os⟩) l xs := hl
    wp_walk using wpAny_pyIter_list hL
    exact ⟨_, rfl, h⟩
end
end

-- F4
section
open PySem PySem.W PyProof.Rows PySem.Calls
set_option maxRecDepth 100000
set_option maxHeartbeats 2000000
section
variable {prog : Program} {w : World} {A : Around} {E : Value → Shared → Prop} {s : Shared}

theorem call_map_2 {fa l : Addr} {xs : Array Value} {Q : Value → Shared → Prop} (hl : s.heap.IsList l xs)
    (h : ∀ h', IsMap h' (s.heap.objs.size + 2) (s.heap.objs.size + 1) (.ref fa) → IsOne h' (s.heap.objs.size + 1) (.ref s.heap.objs.size) → h'.IsListIter s.heap.objs.size l 0 → 
      (∀ c o, s.heap.get? c = some o → h'.get? c = some o) → Q (.ref (s.heap.objs.size + 2)) { s with heap := h' }) :
    wpAny (model prog w) A (call (.type "map") [.ref fa, .ref l]) Q E s := by
  refine callType_new called_map (by decide) (typeCall_map_2 _ _) (newCall_map_2 _ _) (fun obj => PySem.F.args_object_init_3 obj _ _) entry_map_new
    (meets_map_new fa l xs) ⟨hl, ?_⟩
  have z1 : (mapH1 s.heap l).objs.size = s.heap.objs.size + 1 := Heap.size_push ..
  have z2 : (mapH2 s.heap l).objs.size = s.heap.objs.size + 2 := by rw [Heap.size_push, z1]
  have g3 : (mapH3 s.heap (.ref fa) l).get? (mapH2 s.heap l).objs.size = some _ := Heap.get?_push_size _ rfl
  have g2 : (mapH3 s.heap (.ref fa) l).get? (mapH1 s.heap l).objs.size = some _ := Heap.get?_push_of_some _ (Heap.get?_push_size _ rfl)
  have g1 : (mapH3 s.heap (.ref fa) l).get? s.heap.objs.size = some _ := Heap.get?_push_of_some _ (Heap.get?_push_of_some _ (Heap.get?_push_size _ rfl))
  show _ ∧ _
  rw [z1, z2] at g3
  rw [z1] at g2
  rw [z2]
  exact ⟨⟨_, g3, rfl⟩, h _ g3 g2 ⟨_, g1, rfl, rfl⟩ fun c o x => Heap.get?_push_of_some _ (Heap.get?_push_of_some _ (Heap.get?_push_of_some _ x))⟩

theorem map_next_item {m T it l : Addr} {k : Nat} {f x : Value} {xs : Array Value} {Q : Fin → Shared → Prop} (hm : IsMap s.heap m T f) (hT : IsOne s.heap T (.ref it)) (h1 : s.heap.IsListIter it l k) (hl : s.heap.IsList l xs) (hx : xs[k]? = some x)
    (hmi : m ≠ it) (hTi : T ≠ it)
    (h : ∀ h', h'.IsListIter it l (k + 1) → Heap.SameBut it s.heap h' → wpAny (model prog w) A (call f [x]) (fun v s' => Q (.done (.ret v)) s') E { s with heap := h' }) :
    wpAny (model prog w) A (Builtin.«map.__next__» ⟨[.ref m], []⟩) Q E s := by
  show wpAny _ _ (field (.ref m) 0 >>= _) _ _ _
  refine wpAny_bind (wpAny_field hm rfl (x := .ref T) rfl ?_)
  refine wpAny_bind (wpAny_seqItems hT rfl ?_)
  simp only [List.forIn_toArray, List.forIn_cons, List.forIn_nil]
  refine wpAny_bind (wpAny_bind (wpAny_bind (wpAny_holding ?_)))
  refine wpAny_nextOf_list_item h1 hl hx fun h₁ h1₁ hs₁ => ?_
  refine wpAny_pure (wpAny_pure ?_)
  refine wpAny_bind (wpAny_field (hs₁.extBut _ _ hmi hm) rfl (x := f) rfl ?_)
  refine wpAny_bind (wpAny_holding ?_)
  refine wpAny_mono (h h₁ h1₁ hs₁) (fun v s' hq => ?_) fun _ _ e => e
  refine wpAny_bind (wpAny_letGo ?_)
  exact wpAny_pure hq
theorem map_next_end {m T it l : Addr} {k : Nat} {f : Value} {xs : Array Value} {Q : Fin → Shared → Prop} (hh : A.handled = Option.none) (hm : IsMap s.heap m T f) (hT : IsOne s.heap T (.ref it)) (h1 : s.heap.IsListIter it l k) (hl : s.heap.IsList l xs) (hx : xs[k]? = Option.none)
    (hE : ∀ h' e, Heap.ExtBut it s.heap h' → (∃ o, h'.get? e = some o ∧ o.cls = .type "StopIteration") → E (.ref e) { s with heap := h' }) :
    wpAny (model prog w) A (Builtin.«map.__next__» ⟨[.ref m], []⟩) Q E s := by
  show wpAny _ _ (field (.ref m) 0 >>= _) _ _ _
  refine wpAny_bind (wpAny_field hm rfl (x := .ref T) rfl ?_)
  refine wpAny_bind (wpAny_seqItems hT rfl ?_)
  simp only [List.forIn_toArray, List.forIn_cons, List.forIn_nil]
  refine wpAny_bind (wpAny_bind (wpAny_bind (wpAny_holding ?_)))
  exact wpAny_nextOf_list_end hh h1 hl hx hE

noncomputable def domH (h : Heap) : List Addr := (List.range h.objs.size).filter fun b => (h.get? b).isSome
theorem mem_domH {h : Heap} {b : Addr} : b ∈ domH h ↔ ∃ o, h.get? b = some o := by
  unfold domH
  rw [List.mem_filter, List.mem_range]
  constructor
  · rintro ⟨_, h⟩; exact Option.isSome_iff_exists.mp h
  · rintro ⟨o, e⟩; exact ⟨Heap.lt_size e, by rw [e]; rfl⟩

/-- a map object over a list of strs, its function handing each back as another -/
theorem walks_map {h₀ : Heap} {m T it l : Addr} {fa : Addr} {vs : List Value} {ys : List PV} (hA : A.handled = Option.none) (hmi : m ≠ it) (hTi : T ≠ it) (hli : l ≠ it) (h0i : h₀.get? it = Option.none)
    (hr : ∀ (i : Nat) v, vs[i]? = some v → ∃ x y, ys[i]? = some y ∧ (∀ h X, Rep h X v x) ∧ FnD prog w A.in1 h₀ fa [x] y) :
    Walks prog w A m ([m, T, it, l] ++ domH h₀) [it] vs.length (fun (i : Nat) v => ∃ y, ys[i]? = some y ∧ ∃ h, Rep h [] v y)
      (fun (i : Nat) h => IsMap h m T (.ref fa) ∧ IsOne h T (.ref it) ∧ h.IsListIter it l i ∧ h.IsList l vs.toArray ∧ ∀ b o, h₀.get? b = some o → h.get? b = some o) where
  sub := fun b hb => by simp at hb; simp [hb]
  frame := fun i h h' st hk => ⟨hk m (by simp) _ st.1, hk T (by simp) _ st.2.1, st.2.2.1.at fun o e => hk it (by simp) o e, st.2.2.2.1.at fun o e => hk l (by simp) o e, fun b o e =>
    hk b (List.mem_append.mpr (.inr (mem_domH.mpr ⟨o, e⟩))) o (st.2.2.2.2 b o e)⟩
  item := fun i s Q E hi st hQ => by
    obtain ⟨hm, hT, hit, hl, hk⟩ := st
    have hT' : s.TypeIs (.ref m) "map" := ⟨_, hm, rfl⟩
    have hx : vs.toArray[i]? = some vs[i] := by simp [hi]
    obtain ⟨x, y, hy, hrx, hf⟩ := hr i vs[i] (by simp [hi])
    unfold pyNext
    refine wpAny_bind (wpAny_attempt (wpAny_callSpecial?_slot (name := Str.ofString "__next__") hT' slot_map_next
      (wpAny_call_entry slot_map_next hT' entry_map_next (map_next_item hm hT hit hl hx hmi hTi fun h' hit' hs' => ?_) (args_map_next_1 _))))
    have kk : ∀ b o, h₀.get? b = some o → h'.get? b = some o := fun b o e => hs'.extBut b o (fun q => by rw [q, h0i] at e; cases e) (hk b o e)
    refine wpAny_mono (hf [] { s with heap := h' } [vs[i]] kk (fun _ h => by cases h) (Reps.cons (hrx _ _) Reps.nil)) (fun v s' hv => ?_) fun _ _ e => e.elim
    obtain ⟨⟨h₂, tk₂, rfl, k₂⟩, hrv⟩ := hv
    refine ⟨_, rfl, wpAny_pure (hQ v h₂ tk₂ ⟨y, hy, _, hrv⟩ ⟨k₂ _ _ (hs'.extBut _ _ hmi hm), k₂ _ _ (hs'.extBut _ _ hTi hT), hit'.at fun o => k₂ _ o, (hl.extBut hs'.extBut hli).at fun o => k₂ _ o, fun b o e => k₂ b o (kk b o e)⟩ fun b o hb e => k₂ b o (hs'.extBut b o (fun q => hb (by simp [q])) e))⟩
  done := fun s Q E st hQ => by
    obtain ⟨hm, hT, hit, hl, hk⟩ := st
    have hT' : s.TypeIs (.ref m) "map" := ⟨_, hm, rfl⟩
    unfold pyNext
    refine wpAny_bind (wpAny_attempt (wpAny_callSpecial?_slot (name := Str.ofString "__next__") hT' slot_map_next
      (wpAny_call_entry slot_map_next hT' entry_map_next (map_next_end hA hm hT hit hl (by simp) fun h' e hk' he => ?_) (args_map_next_1 _))))
    obtain ⟨o, ho, hc⟩ := he
    refine wpAny_bind (wpAny_isInstance (T := "StopIteration") (b := true) ⟨o, ho, hc⟩ isSubtype_stop ?_)
    exact wpAny_pure (hQ h' _ fun b o hb e => hk' b o (fun q => hb (by simp [q])) e)
  self := fun i s Q E st hQ => by
    have hT' : s.TypeIs (.ref m) "map" := ⟨_, st.1, rfl⟩
    refine wpAny_pyIter_slot hT' slot_map_iter (wpAny_call_entry slot_map_iter hT' entry_map_iter ?_ (args_map_iter_1 _))
    show wpAny _ _ (ret (.ref m)) _ _ s
    exact wpAny_pure ⟨_, rfl, "map", _, hT', slot_map_next.lookup, hQ⟩
end
end

-- F5
section
open PySem PySem.W PyProof.Rows PySem.Calls
set_option maxRecDepth 100000
set_option maxHeartbeats 2000000
section
variable {prog : Program} {w : World} {A : Around} {E : Value → Shared → Prop} {s : Shared} {I : Addr} {fp wr : List Addr} {G : Array GenState → Array GenState → Prop} {n : Nat} {P : Nat → Value → Prop} {St : Nat → Shared → Prop}

/-- gathering a map object's items -/
theorem collect_map {Q : List Value → Shared → Prop} (W : WalksS prog w A.in1 I fp wr G n P St) (hT : ∀ i s, St i s → s.TypeIs (.ref I) "map") (hst : St 0 s) (hfp : ∀ b ∈ fp, b < s.heap.objs.size) (hI : I ∈ fp)
    (hQ : ∀ s' acc, Moved wr G s s' → ItemsOf P acc n → Q acc.toList s') (hn : n ≤ sizeLine) : wpAny (model prog w) A (collect (.ref I)) Q E s := by
  have fresh : s.heap.objs.size ∉ fp := fun hm => Nat.lt_irrefl _ (hfp _ hm)
  have hne : s.heap.objs.size ≠ I := fun e => fresh (e ▸ hI)
  unfold collect
  refine wpAny_bind (wpAny_runValue (codeAny_builtin PySem.F.entry_proto_collect ?_))
  rw [Around.under_plainId PySem.F.plain_proto_collect _]
  show wpAny _ A.in1 (newList [] >>= fun l => again (.builtin "list.__iadd__" ⟨[l, .ref I], []⟩)) _ _ s
  refine wpAny_bind (wpAny_newObj_type ?_)
  refine wpAny_pure ⟨plainId_quiet PySem.F.plain_list_iadd _, codeAny_builtin PySem.F.entry_list_iadd ?_⟩
  rw [Around.under_plainId PySem.F.plain_list_iadd _]
  generalize hH : s.heap.push { cls := .type "list", data := .seq ([] : List Value).toArray } = H
  have kH : ∀ b o, s.heap.get? b = some o → H.get? b = some o := fun b o e => hH ▸ Heap.get?_push_of_some _ e
  have hS : H.get? s.heap.objs.size = some { cls := .type "list", data := .seq ([] : List Value).toArray } := hH ▸ Heap.get?_push_size _ rfl
  have st : St 0 { s with heap := H } := W.frame 0 s H s.toks hst (Nat.le_refl _) fun b _ o e => kH b o e
  show wpAny _ A.in1 (Builtin.List.listExtendWith (.ref s.heap.objs.size) (.ref I) (.ref s.heap.objs.size)) _ _ _
  unfold Builtin.List.listExtendWith
  refine wpAny_bind (wpAny_typeOf (hT 0 _ st) ?_)
  have e1 : Builtin.List.listSameRef (.ref s.heap.objs.size) (.ref I) = false := by simp [Builtin.List.listSameRef, hne]
  have e2 : (Value.type "map" == Value.type "list") = false := by decide
  have e3 : (Value.type "map" == Value.type "tuple") = false := by decide
  simp only [e1, e2, e3, Bool.or_false, Bool.false_eq_true, if_false]
  refine wpAny_bind (W.self 0 _ _ _ st (wpAny_bind (wpAny_holding ?_)))
  unfold Builtin.List.listLengthHint
  refine wpAny_bind (wpAny_specialOf (hT 0 _ st) map_no_len ?_)
  show wpAny _ A.in1 (specialOf (Value.ref I) (Str.ofString "__length_hint__") >>= _) _ _ _
  refine wpAny_bind (wpAny_specialOf (hT 0 _ st) map_no_hint ?_)
  refine wpAny_pure ?_
  show wpAny _ A.in1 (rule "list.extend.makes-room" >>= fun _ => Builtin.List.listTouch (.ref s.heap.objs.size) >>= fun _ =>
    again (.builtin "list.extend.loop" ⟨[.ref s.heap.objs.size, .ref I, .ref s.heap.objs.size], []⟩)) _ _ _
  refine wpAny_bind (wpAny_rule (wpAny_bind ?_))
  show wpAny _ A.in1 (updateSeq s.heap.objs.size (·.push .none) >>= fun _ => updateSeq s.heap.objs.size (·.pop)) _ _ _
  refine wpAny_bind (wpAny_updateSeq hS rfl ?_)
  have hS₂ := Heap.get?_update_self (Obj.mapSeq (·.push Value.none)) hS rfl
  refine wpAny_updateSeq hS₂ rfl ?_
  have hS₃ := Heap.get?_update_self (Obj.mapSeq (·.pop)) hS₂ rfl
  generalize hK : (H.update s.heap.objs.size (Obj.mapSeq (·.push Value.none))).update s.heap.objs.size (Obj.mapSeq (·.pop)) = K at hS₃ ⊢
  have kK : ∀ b o, s.heap.get? b = some o → K.get? b = some o := fun b o e => by
    have hb : s.heap.objs.size ≠ b := Nat.ne_of_gt (Heap.lt_size e)
    rw [← hK]
    exact (Heap.get?_update_other _ _ hb).trans ((Heap.get?_update_other _ _ hb).trans (kH b o e))
  refine wpAny_pure ⟨plainId_quiet PySem.F.plain_extend_loop _, codeAny_extend_loopS W hn _ fresh _ n 0 _ _ _ rfl (Nat.zero_le _) (W.frame 0 s K s.toks hst (Nat.le_refl _) fun b _ o e => kK b o e) hS₃ (ItemsOf.nil P) fun s' acc' c' hm hS' hacc => ?_⟩
  show wpAny _ A (load s.heap.objs.size >>= _) _ _ s'
  refine wpAny_bind (wpAny_load hS' (wpAny_pure (hQ s' acc' ⟨fun b o hb e => ?_, hm.gens, hm.drawn, hm.os, hm.toks⟩ hacc)))
  exact hm.heap b o (fun q => by
    rcases List.mem_cons.mp q with q | q
    · exact absurd (Heap.lt_size e) (by rw [q]; exact Nat.lt_irrefl _)
    · exact hb q) (kK b o e)

theorem call_tuple_map {Q : Value → Shared → Prop} (W : WalksS prog w A.in1.in1.in1 I fp wr G n P St) (hT : ∀ i s, St i s → s.TypeIs (.ref I) "map") (hst : St 0 s) (hfp : ∀ b ∈ fp, b < s.heap.objs.size) (hI : I ∈ fp)
    (hQ : ∀ s' acc, Moved wr G s s' → ItemsOf P acc n → Q (.ref s'.heap.objs.size) { s' with heap := s'.heap.push { cls := .type "tuple", data := .seq acc } }) (hsz : n ≤ sizeLine) :
    wpAny (model prog w) A (call (.type "tuple") [.ref I]) Q E s := by
  refine callType_codes (Q₁ := fun obj s₁ => s₁.TypeIs obj "tuple" ∧ Q obj s₁) PySem.F.called_tuple (PySem.F.typeCall_tuple_1 _) PySem.F.entry_object_init
    (codeAny_of_tree ?_) fun obj s₁ h₁ => ?_
  · show wpAny _ A.in1.in1 (do checkBuiltinCall "tuple.__new__" ⟨[.type "tuple", .ref I], []⟩; again (.builtin "tuple.__new__" ⟨[.type "tuple", .ref I], []⟩)) _ _ s
    refine wpAny_bind (wpAny_of_eq (PySem.F.newCall_tuple_1 _) (wpAny_pure ⟨plainId_quiet PySem.F.plain_tuple_new _, codeAny_builtin PySem.F.entry_tuple_new ?_⟩))
    rw [Around.under_plainId PySem.F.plain_tuple_new _]
    have hsub := sub_tuple_self
    have hinit := init_tuple_lookup
    have hmh := madeHere_tuple
    have hTI := hT 0 s hst
    wp_walk using wpAny_typeOf hTI, collect_map (hn := hsz) W hT hst hfp hI
    intro s' acc hm hacc
    show wpAny _ _ (Builtin.Tuple.tupleExact acc.toList.toArray >>= fun v => ret v) _ _ _
    unfold Builtin.Tuple.tupleExact
    refine wpAny_bind (wpAny_newObj_type ?_ (by show acc.toList.toArray.size ≤ sizeLine; simp only [Array.toArray_toList]; rw [hacc.1]; exact hsz))
    refine wpAny_pure ?_
    have e : acc.toList.toArray = acc := by simp
    rw [e]
    exact ⟨⟨_, Heap.get?_push_size _ rfl, rfl⟩, hQ s' acc hm hacc⟩
  · exact ⟨h₁.1, PySem.F.args_object_init_2 obj _, object_init_meets PySem.F.called_tuple.init.lookup PySem.F.called_tuple.made (by decide) prog w A.in1 _ s₁ ⟨h₁.1, rfl, h₁.2⟩⟩
end
end

-- F6
section
open PySem PySem.W PyProof.Rows PySem.Calls
set_option maxRecDepth 100000
set_option maxHeartbeats 2000000
section
variable {prog : Program} {w : World} {A : Around} {env : Env} {h₀ : Heap} {ρ : PEnv}

theorem Ev.tupleMap {xt xm xf : Str} {pt pm pf p1 p2 : Pos} {e : Expr} {xs : List Str} {fa : Addr} (hA : A.handled = Option.none) (hgt : Glob h₀ xt (.type "tuple")) (hgm : Glob h₀ xm (.type "map")) (hgf : Glob h₀ xf (.ref fa))
    (he : Ev prog w A env h₀ ρ e (.list (xs.map .str))) (hf : ∀ x ∈ xs, FnD prog w A.in1.in1.in1.in1 h₀ fa [.str x] (.str x)) (hsz : xs.length ≤ sizeLine)
    (hkt : env.kindOf xt = some .globalImplicit := by with_unfolding_all rfl) (hkm : env.kindOf xm = some .globalImplicit := by with_unfolding_all rfl) (hkf : env.kindOf xf = some .globalImplicit := by with_unfolding_all rfl)
    (hdt : (xt == ("__debug__" : Str)) = false := by decide) (hdm : (xm == ("__debug__" : Str)) = false := by decide) (hdf : (xf == ("__debug__" : Str)) = false := by decide)
    (s1 : starEach [e] env = (false, eval e env) :: starEach [] env := by rfl) (hp : ∀ pos, (backTo pos (starEach [e] env)).any (·.1) = false := by intro _; rfl) :
    Ev prog w A env h₀ ρ (.Call (.Name xt pt) [.Call (.Name xm pm) [.Name xf pf, e] [] p1] [] p2) (.tuple (xs.map .str)) := fun X s S => by
  refine Call_ (wp_glob S hgt hkt hdt (callWith_ty (he := by rfl) (hplain := by rfl) (args_cons (he := by rfl) ?_)))
  refine Call_ (wp_glob S hgm hkm hdm (callWith_ty (he := by rfl) (hplain := hp p1) (args_cons (he := by rfl) (wp_glob S hgf hkf hdf (args_cons (he := s1) (wpAny_mono (he X s S) (fun v s₁ h₁ => args_nil ?_) fun _ _ x => x))))))
  obtain ⟨k₁, hv⟩ := h₁
  cases hv with
  | @list b vs _ hb hl hn hi =>
    refine call_map_2 hl fun h' hm hT hit hkk => args_nil ?_
    have n0 : s₁.heap.get? s₁.heap.objs.size = Option.none := get_size _
    have n2 : s₁.heap.get? (s₁.heap.objs.size + 2) = Option.none := get_far _ 2
    have hlb : b ≠ s₁.heap.objs.size := fun q => by subst q; obtain ⟨o, ho, _⟩ := hl; rw [n0] at ho; cases ho
    have hs₁ := fun b o e => Kp.hh k₁ b o (S.keep b o e)
    have W := walks_map (prog := prog) (w := w) (A := A.in1.in1.in1) (h₀ := h₀) (m := s₁.heap.objs.size + 2) (T := s₁.heap.objs.size + 1) (it := s₁.heap.objs.size) (l := b) (fa := fa) (vs := vs) (ys := xs.map .str) hA
      (by show s₁.heap.objs.size + 2 ≠ s₁.heap.objs.size; exact fun q => by have q' : (_ : Nat) = _ := q; omega) (Nat.succ_ne_self _) hlb (by
        cases e : h₀.get? s₁.heap.objs.size with
        | none => rfl
        | some o => rw [hs₁ _ _ e] at n0; cases n0) (fun i v hv => by
        obtain ⟨p, hp, hr⟩ := Reps.get' ⟨hn, hi⟩ hv
        rw [List.getElem?_map] at hp
        cases e : xs[i]? with
        | none => rw [e] at hp; cases hp
        | some x =>
          rw [e] at hp; cases hp
          refine ⟨.str x, .str x, by rw [List.getElem?_map, e]; rfl, fun h X => ?_, hf x (List.mem_of_getElem? e)⟩
          cases hr; exact .str _ _)
    refine call_tuple_map (s := { s₁ with heap := h' }) W.toS (fun i s st => ⟨_, st.1, rfl⟩) ⟨hm, hT, hit, hl.at fun o => hkk _ o, fun b o e => hkk b o (hs₁ b o e)⟩ (fun a ha => ?_) (by simp) (fun s' acc hmv hacc => ?_) (by rw [hn, List.length_map]; exact hsz)
    · rcases List.mem_append.mp ha with ha | ha
      · simp only [List.mem_cons, List.not_mem_nil, or_false] at ha
        rcases ha with rfl | rfl | rfl | rfl
        · exact Heap.lt_size hm
        · exact Heap.lt_size hT
        · obtain ⟨o, ho, _⟩ := hit; exact Heap.lt_size ho
        · obtain ⟨o, ho, _⟩ := hl; exact Heap.lt_size (hkk _ _ ho)
      · obtain ⟨o, ho⟩ := mem_domH.mp ha
        exact Heap.lt_size (hkk _ _ (hs₁ _ _ ho))
    · have kS : ∀ b o, s.heap.get? b = some o → s'.heap.get? b = some o := fun b o e => hmv.heap b o (fun q => by
        rw [List.mem_singleton.mp q] at e
        rw [Kp.hh k₁ _ _ e] at n0; cases n0) (hkk _ _ (Kp.hh k₁ _ _ e))
      have hnew : s'.heap.objs.size ∉ X := fun q => by
        obtain ⟨o, ho⟩ := S.live _ q
        exact absurd (Heap.lt_size (kS _ _ ho)) (Nat.lt_irrefl _)
      refine ⟨?_, ?_⟩
      · obtain ⟨hp, t, rfl, _⟩ := k₁
        obtain ⟨h1, h2, h3, h4, _⟩ := hmv
        obtain ⟨hh, g, d, tk, os⟩ := s'
        dsimp only at h2 h3 h4
        subst h2 h3 h4
        exact ⟨_, tk, rfl, fun b o e => Heap.get?_push_of_some _ (kS b o e)⟩
      · refine .tuple (vs := acc.toList) hnew ⟨_, Heap.get?_push_size _ rfl, rfl, _, by rw [Array.toArray_toList]⟩ (by rw [Array.length_toList, hacc.1, hn]) fun j v p h1 h2 => ?_
        obtain ⟨y, hy, hh, hry⟩ := hacc.2 j v (by simpa using h1)
        rw [h2] at hy; cases hy
        rw [List.getElem?_map] at h2
        cases e : xs[j]? with
        | none => rw [e] at h2; cases h2
        | some x => rw [e] at h2; cases h2; cases hry; exact .str _ _
end
end

-- F7
section
open PySem PySem.W PyProof.Rows PySem.Calls
set_option maxRecDepth 100000
set_option maxHeartbeats 2000000
noncomputable def tab1 (led : Bool) : SetTable := { mask := 7, place := #[1], dummies := #[], finger := 0, led := led, moves := 0, plain := true }
noncomputable def set0 (led : Bool) : Obj := { cls := .type "set", dict := none, data := .set #[] 0 (.fresh 0 0 led) }
noncomputable def set1 (led : Bool) : Obj := { cls := .type "set", dict := none, data := .set #[(1, .bool true)] 1 (tab1 led) }
section
variable {prog : Program} {w : World} {A : Around} {E : Value → Shared → Prop} {s : Shared}

theorem wp_hash_true {Q : Int → Shared → Prop} (h : Q 1 { s with toks := s.toks + 1 }) : wpAny (model prog w) A (pyHash (.bool true)) Q E s := by
  unfold pyHash
  have hv : [Value.bool true].any Value.onHeap = false := rfl
  refine wpAny_bind ?_
  rw [cRoomFor, if_neg (by rw [hv]; exact Bool.false_ne_true)]; refine wpAny_pure ?_
  have hT : s.TypeIs (.bool true) "bool" := rfl
  refine wpAny_bind (wpAny_specialOf hT PySem.F.slot_bool_hash.lookup ?_)
  show wpAny _ _ (if (some (Value.builtin "int.__hash__") == some Value.none) = true then _ else _) Q E s
  rw [if_neg (by rw [beq_builtin_none]; exact Bool.false_ne_true)]
  refine wpAny_bind (wpAny_specialOf hT PySem.F.slot_bool_hash.lookup ?_)
  show wpAny _ _ (callSpecialIfBoundUnlessNone? (.bool true) "__hash__" _ >>= _) Q E s
  refine wpAny_bind (wpAny_callSpecialIfBoundUnlessNone?_slot hT PySem.F.slot_bool_hash
    (wpAny_call_entry PySem.F.slot_bool_hash hT entry_int_hash
      (show wpAny _ _ (do ret (← mkInt 1)) _ _ s from wpAny_ret_mkInt ?_) (args_int_hash _)))
  exact wpAny_pure h

theorem wp_eq_true {Q : Bool → Shared → Prop} (h : Q true s) : wpAny (model prog w) A (eqBool (.bool true) (.bool true)) Q E s := by
  unfold eqBool
  refine wpAny_holding ?_
  rw [if_pos (by decide)]
  exact wpAny_bind (wpAny_rule (wpAny_pure h))
theorem wp_newSet {Q : Value → Shared → Prop} (h : Q (.ref s.heap.objs.size) { s with heap := s.heap.push (set0 (!w.params.followText "set-order")) }) : wpAny (model prog w) A (newSet (.type "set")) Q E s := by
  unfold newSet setsByText
  refine wpAny_bind (wpAny_bind (wpAny_askSetting (wpAny_pure ?_)))
  dsimp only
  simp only [newObj]
  exact wpAny_bind (wpAny_alloc (wpAny_pure h))

theorem layNew_true (led : Bool) : layNew (SetTable.fresh 0 0 led) #[] 1 (.bool true) = (#[(1, .bool true)], tab1 led, false, false) := by cases led <;> decide +kernel

theorem call_add0 {a : Addr} {led : Bool} {Q : Value → Shared → Prop} (ho : s.heap.get? a = some (set0 led))
    (h : ∀ h', Heap.SameBut a s.heap h' → h'.get? a = some (set1 led) → Q .none { s with heap := h', toks := s.toks + 1 }) :
    wpAny (model prog w) A (call (.builtin "set.add") [.ref a, .bool true]) Q E s := by
  refine wpAny_call_entry PySem.F.slot_set_add (T := "set") ⟨_, ho, rfl⟩ PySem.F.entry_set_add ?_ (PySem.F.args_set_add_2 _ _)
  unfold Builtin.«set.add» Builtin.Frozenset.oneOther
  simp only [List.isEmpty_nil, bind_assoc]
  unfold Builtin.Frozenset.addrOf setAdd
  refine wpAny_bind (wpAny_pure ?_)
  try dsimp only
  refine wpAny_bind (wpAny_pure ?_)
  try dsimp only
  refine wpAny_bind (wpAny_holding (wpAny_bind (wp_hash_true ?_)))
  unfold setAddHashed setAddHashedIn
  refine wpAny_holding (wpAny_bind (wpAny_setState_of (s := { s with toks := s.toks + 1 }) ho rfl rfl ?_))
  dsimp only
  rw [show byScan (.bool true) #[] = true from by decide +kernel]
  simp only [↓reduceIte]
  unfold setAddByScan
  refine wpAny_bind (wpAny_bind (wpAny_rule (wpAny_bind ?_)))
  show wpAny _ _ (pure ScanMet.absent) _ _ _
  refine wpAny_pure ?_
  dsimp only
  rw [layNew_true]
  dsimp only
  refine wpAny_bind (wpAny_pure ?_)
  rw [if_pos (by rfl)]
  refine wpAny_bind ?_
  rw [hashByValue_scannable 8 rfl]
  refine wpAny_pure ?_
  rw [show plainKind (.bool true) = true from by decide +kernel]
  simp only [↓reduceIte]
  refine wpAny_bind (wpAny_storeSet_of (s := { s with toks := s.toks + 1 }) ho rfl ?_ (by decide))
  rw [if_neg (show ¬ ((!false && (tab1 led).tooFull) = true) from by cases led <;> decide +kernel)]
  refine wpAny_pure (wpAny_pure ?_)
  show wpAny _ _ (ret Value.none) _ _ _
  refine wpAny_pure ⟨_, rfl, h _ (Heap.SameBut.update ..) ?_⟩
  rw [Heap.get?_update_self _ ho (by rfl)]
  rfl

theorem call_add1 {a : Addr} {led : Bool} {Q : Value → Shared → Prop} (ho : s.heap.get? a = some (set1 led)) (h : Q .none { s with toks := s.toks + 1 }) :
    wpAny (model prog w) A (call (.builtin "set.add") [.ref a, .bool true]) Q E s := by
  refine wpAny_call_entry PySem.F.slot_set_add (T := "set") ⟨_, ho, rfl⟩ PySem.F.entry_set_add ?_ (PySem.F.args_set_add_2 _ _)
  unfold Builtin.«set.add» Builtin.Frozenset.oneOther
  simp only [List.isEmpty_nil, bind_assoc]
  unfold Builtin.Frozenset.addrOf setAdd
  refine wpAny_bind (wpAny_pure ?_)
  try dsimp only
  refine wpAny_bind (wpAny_pure ?_)
  try dsimp only
  refine wpAny_bind (wpAny_holding (wpAny_bind (wp_hash_true ?_)))
  unfold setAddHashed setAddHashedIn
  refine wpAny_holding (wpAny_bind (wpAny_setState_of (s := { s with toks := s.toks + 1 }) ho rfl rfl ?_))
  dsimp only
  rw [show byScan (.bool true) #[(1, .bool true)] = true from by decide +kernel]
  simp only [↓reduceIte]
  unfold setAddByScan
  refine wpAny_bind (wpAny_bind (wpAny_rule (wpAny_bind ?_)))
  show wpAny _ _ (setScanFrom a (.bool true) 1 true [(1, .bool true)] 0) _ _ _
  unfold setScanFrom
  rw [if_pos (by decide)]
  refine wpAny_bind (wpAny_setEpoch_of (s := { s with toks := s.toks + 1 }) ho rfl rfl ?_)
  refine wpAny_bind (wp_eq_true ?_)
  simp only [Bool.and_self, ↓reduceIte]
  refine wpAny_pure ?_
  dsimp only
  refine wpAny_pure (wpAny_pure ?_)
  show wpAny _ _ (ret Value.none) _ _ _
  exact wpAny_pure ⟨_, rfl, h⟩
end
end

-- F8
section
open PySem PySem.W PyProof.Rows PySem.Calls
set_option maxRecDepth 100000
set_option maxHeartbeats 2000000
section
variable {prog : Program} {w : World} {A : Around} {E : Value → Shared → Prop} {s : Shared}
theorem owner_seti : Manifest.owners.lookup (String.ofList ['r', 'o', 't', 'a', 'r', 'e', 't', 'i', '_', 't', 'e', 's'].reverse) = some Manifest.sig_set_iterator := by kernel_rfl
theorem slot_seti_next : Slot "set_iterator" "__next__" "set_iterator.__next__" :=
  .of (owner := "set_iterator") (n := "__next__") (by rw [typeLookup_type, builtinLookup_eq_fast]; kernel_rfl) (by decide +kernel) (by decide +kernel) (by decide +kernel)
    (by first | exact .inl (by decide +kernel) | exact .inr (by decide +kernel)) (by rw [isSubtype_type]; kernel_rfl)
theorem args_seti_next_1 (a : Value) : argsOk "set_iterator.__next__" ⟨[a], []⟩ := by
  unfold argsOk; rw [PySem.signature?_of (id := "set_iterator.__next__") (n := ['_', '_', 't', 'x', 'e', 'n', '_', '_']) (o := ['r', 'o', 't', 'a', 'r', 'e', 't', 'i', '_', 't', 'e', 's']) (by kernel_rfl) owner_seti]; kernel_rfl
theorem entry_seti_next : entryFor table "set_iterator.__next__" = some Builtin.«set_iterator.__next__» := entryFor_of_tree (by kernel_rfl)
theorem entry_set_iter : entryFor table "set.__iter__" = some Builtin.«frozenset.__iter__» :=
  entryFor_alias (id' := "frozenset.__iter__") (by kernel_rfl) rfl (by decide +kernel) (by kernel_rfl)

theorem drawnNot (led b : Bool) {Q : Bool → Shared → Prop} {a : Addr} (ho : s.heap.get? a = some (set1 led)) (h : Q false s) : wpAny (model prog w) A (setDrawn a) Q E s := by
  unfold setDrawn
  refine wpAny_bind (wpAny_setState_of ho rfl rfl ?_)
  dsimp only
  unfold setsByText
  refine wpAny_bind (wpAny_bind (wpAny_askSetting (wpAny_pure ?_)))
  refine wpAny_pure ?_
  have e : ∀ b : Bool, (b && false) = false := fun b => by cases b <;> rfl
  exact (e (!w.params.followText "set-order")).symm ▸ h

theorem iter_set1 {a : Addr} {led : Bool} {Q : Value → Shared → Prop} (ho : s.heap.get? a = some (set1 led))
    (hQ : Q (.ref s.heap.objs.size) { s with heap := s.heap.push { cls := .type "set_iterator", data := .fields #[.int 0 0, .int 0 0, .ref a, .int 1 0, .int 1 0] } }) :
    wpAny (model prog w) A (pyIter (.ref a)) Q E s := by
  refine wpAny_pyIter_slot (T := "set") ⟨_, ho, rfl⟩ PySem.F.slot_set_iter (wpAny_call_entry PySem.F.slot_set_iter (T := "set") ⟨_, ho, rfl⟩ entry_set_iter ?_ (PySem.F.args_set_iter_1 _))
  show wpAny _ _ (do
    let n ← Builtin.Frozenset.sizeOf a
    let first ← if ← setDrawn a then newTuple ((← drawOrder n (List.range n)).map fun (i : Nat) => rawInt i) else pure (rawInt 0)
    ret (← newFields "set_iterator" [first, rawInt 0, .ref a, rawInt n, rawInt (← setEpoch a)])) _ _ s
  unfold Builtin.Frozenset.sizeOf
  refine wpAny_bind (wpAny_bind (wpAny_setEntries_of ho rfl rfl (wpAny_pure ?_)))
  refine wpAny_bind (drawnNot led true ho ?_)
  simp only [Bool.false_eq_true, if_false]
  refine wpAny_bind (wpAny_pure ?_)
  refine wpAny_bind (wpAny_setEpoch_of ho rfl rfl ?_)
  refine wpAny_bind (wpAny_newObj_type (wpAny_pure ⟨_, rfl, "set_iterator", _, ⟨_, Heap.get?_push_size _ rfl, rfl⟩, slot_seti_next.lookup, hQ⟩))

theorem pick_one {α : Type} (next : Nat → Nat) (x : α) : pickOrder next #[x] = #[x] := by
  unfold pickOrder
  show pickOrder.go next 1 0 [x] #[] = _
  unfold pickOrder.go
  simp only [List.length_singleton, Nat.mod_one]
  rfl

theorem setNext_0 {a : Addr} {Q : Option (Value × Nat) → Shared → Prop} (ho : s.heap.get? a = some (set1 (!w.params.followText "set-order"))) (h : ∀ n, (w.params.followText "set-order" = false → n = 2) → Q (some (.bool true, n)) s) :
    wpAny (model prog w) A (setNext a 0 0 1) Q E s := by
  unfold setNext setsByText
  refine wpAny_bind (wpAny_setState_of ho rfl rfl ?_)
  dsimp only
  refine wpAny_bind (wpAny_bind (wpAny_askSetting (wpAny_pure ?_)))
  split
  · rename_i hb0
    have hb : w.params.followText "set-order" = true := hb0
    rw [if_neg (by decide)]
    refine wpAny_bind ?_
    unfold setWalk setsByText
    refine wpAny_bind (wpAny_setState_of ho rfl rfl ?_)
    dsimp only
    refine wpAny_bind (wpAny_bind (wpAny_askSetting (wpAny_pure ?_)))
    split
    · refine wpAny_bind (wpAny_askSetting (wpAny_pure ?_))
      dsimp only
      rw [pick_one]
      exact wpAny_pure (h 0 fun q => by rw [hb] at q; cases q)
    · rename_i hc
      exact absurd hb hc
  · rename_i hb0
    have hb : w.params.followText "set-order" = false := by
      cases e : w.params.followText "set-order" with
      | true => exact absurd e hb0
      | false => rfl
    rw [hb]
    refine wpAny_bind ?_
    show wpAny _ _ (pure ()) _ _ _
    refine wpAny_pure (wpAny_pure (h 2 fun _ => rfl))
theorem setNext_1 {a : Addr} {n : Nat} {Q : Option (Value × Nat) → Shared → Prop} (hn : w.params.followText "set-order" = false → n = 2) (ho : s.heap.get? a = some (set1 (!w.params.followText "set-order"))) (h : Q Option.none s) :
    wpAny (model prog w) A (setNext a n 1 1) Q E s := by
  unfold setNext setsByText
  refine wpAny_bind (wpAny_setState_of ho rfl rfl ?_)
  dsimp only
  refine wpAny_bind (wpAny_bind (wpAny_askSetting (wpAny_pure ?_)))
  split
  · rename_i hb0
    have hb : w.params.followText "set-order" = true := hb0
    rw [if_neg (by decide)]
    refine wpAny_bind ?_
    unfold setWalk setsByText
    refine wpAny_bind (wpAny_setState_of ho rfl rfl ?_)
    dsimp only
    refine wpAny_bind (wpAny_bind (wpAny_askSetting (wpAny_pure ?_)))
    split
    · refine wpAny_bind (wpAny_askSetting (wpAny_pure ?_))
      dsimp only
      rw [pick_one]
      exact wpAny_pure h
    · rename_i hc
      exact absurd hb hc
  · rename_i hb0
    have hb : w.params.followText "set-order" = false := by
      cases e : w.params.followText "set-order" with
      | true => exact absurd e hb0
      | false => rfl
    obtain rfl := hn hb
    rw [hb]
    refine wpAny_bind ?_
    show wpAny _ _ (pure ()) _ _ _
    refine wpAny_pure (wpAny_pure h)
end
end

-- F9
section
open PySem PySem.W PyProof.Rows PySem.Calls
set_option maxRecDepth 100000
set_option maxHeartbeats 2000000
section
variable {prog : Program} {w : World} {A : Around} {E : Value → Shared → Prop} {s : Shared}
noncomputable abbrev IsSetIt (h : Heap) (it a : Addr) (n k : Int) : Prop := h.get? it = some { cls := .type "set_iterator", data := .fields #[.int n 0, .int k 0, .ref a, .int 1 0, .int 1 0] }

theorem next_set_0 {it a : Addr} {Q : Option Value → Shared → Prop} (hi : IsSetIt s.heap it a 0 0) (ho : s.heap.get? a = some (set1 (!w.params.followText "set-order")))
    (hQ : ∀ h' (n : Nat), (w.params.followText "set-order" = false → n = 2) → IsSetIt h' it a n 1 → Heap.SameBut it s.heap h' → Q (some (.bool true)) { s with heap := h' }) : wpAny (model prog w) A (pyNext (.ref it)) Q E s := by
  have hT : s.TypeIs (.ref it) "set_iterator" := ⟨_, hi, rfl⟩
  unfold pyNext
  refine wpAny_bind (wpAny_attempt (wpAny_callSpecial?_slot (name := Str.ofString "__next__") hT slot_seti_next (wpAny_call_entry slot_seti_next hT entry_seti_next ?_ (args_seti_next_1 _))))
  show wpAny _ _ (fieldsOf (.ref it) >>= _) _ _ s
  unfold fieldsOf
  refine wpAny_bind (wpAny_bind (wpAny_load hi (wpAny_pure ?_)))
  show wpAny _ _ (setEntries a >>= _) _ _ s
  refine wpAny_bind (wpAny_setEntries_of ho rfl rfl ?_)
  rw [if_neg (by decide)]
  show wpAny _ _ (setNext a 0 0 1 >>= _) _ _ s
  refine wpAny_bind (setNext_0 ho fun n hn => ?_)
  dsimp only
  refine wpAny_bind (wpAny_setField_rec hi (by simp) fun h₁ hi₁ hs₁ => ?_)
  refine wpAny_bind (wpAny_setField_rec hi₁ (by simp) fun h₂ hi₂ hs₂ => ?_)
  refine wpAny_pure ⟨_, rfl, wpAny_pure (hQ h₂ n hn ?_ (hs₁.trans hs₂))⟩
  exact hi₂
theorem next_set_1 {it a : Addr} {n : Nat} {Q : Option Value → Shared → Prop} (hh : A.handled = Option.none) (hn : w.params.followText "set-order" = false → n = 2) (hi : IsSetIt s.heap it a n 1) (ho : s.heap.get? a = some (set1 (!w.params.followText "set-order")))
    (hQ : ∀ h', Heap.ExtBut it s.heap h' → Q Option.none { s with heap := h' }) : wpAny (model prog w) A (pyNext (.ref it)) Q E s := by
  have hT : s.TypeIs (.ref it) "set_iterator" := ⟨_, hi, rfl⟩
  unfold pyNext
  refine wpAny_bind (wpAny_attempt (wpAny_callSpecial?_slot (name := Str.ofString "__next__") hT slot_seti_next (wpAny_call_entry slot_seti_next hT entry_seti_next ?_ (args_seti_next_1 _))))
  show wpAny _ _ (fieldsOf (.ref it) >>= _) _ _ s
  unfold fieldsOf
  refine wpAny_bind (wpAny_bind (wpAny_load hi (wpAny_pure ?_)))
  show wpAny _ _ (setEntries a >>= _) _ _ s
  refine wpAny_bind (wpAny_setEntries_of ho rfl rfl ?_)
  rw [if_neg (by decide)]
  show wpAny _ _ (setNext a ((n : Int).toNat) 1 1 >>= _) _ _ s
  rw [Int.toNat_natCast]
  refine wpAny_bind (setNext_1 hn ho ?_)
  dsimp only
  refine wpAny_bind (wpAny_setField_rec hi (by simp) fun h₁ hi₁ hs₁ => ?_)
  show wpAny _ _ (newExc (.type "StopIteration") [] >>= _) _ _ _
  refine wpAny_bind ?_
  simp only [newExc, newTuple]
  refine wpAny_bind (wpAny_newObj_type ?_ (by size_fits))
  refine wpAny_bind (m := firstArgMember _ _) (wpAny_of_eq (a := Value.none) (by first | rfl | (simp only [firstArgMember]; rfl)) ?_)
  refine wpAny_newObj_type ?_ (by size_fits)
  simp only [raiseNew]
  refine wpAny_bind (wpAny_handled ?_)
  first | rw [show A.in1.handled = Option.none from hh] | rw [hh]
  refine wpAny_bind (wpAny_pure (wpAny_throw ?_))
  refine wpAny_bind (wpAny_isInstance (T := "StopIteration") (b := true) ⟨_, Heap.get?_push_size _ rfl, rfl⟩ isSubtype_stop ?_)
  exact wpAny_pure (hQ _ ((hs₁.extBut.push _).push _))

theorem unpack_set1 {a : Addr} {Q : List Value → Shared → Prop} (hh : A.handled = Option.none) (ho : s.heap.get? a = some (set1 (!w.params.followText "set-order")))
    (hQ : ∀ h', Heap.ExtBut s.heap.objs.size s.heap h' → Q [.bool true] { s with heap := h' }) : wpAny (model prog w) A (unpackItems (.ref a) 1 Option.none) Q E s := by
  have hT : s.TypeIs (.ref a) "set" := ⟨_, ho, rfl⟩
  have hne : s.heap.objs.size ≠ a := Nat.ne_of_gt (Heap.lt_size ho)
  unfold unpackItems
  refine wpAny_bind ?_
  · unfold notIterableAtAll
    refine wpAny_bind (wpAny_specialOf hT PySem.F.slot_set_iter.lookup ?_)
    refine wpAny_pure ?_
    simp only [Bool.false_eq_true, if_false]
    refine wpAny_bind (wpAny_holding (iter_set1 ho ?_))
    have hi : IsSetIt (s.heap.push { cls := .type "set_iterator", data := .fields #[.int 0 0, .int 0 0, .ref a, .int 1 0, .int 1 0] }) s.heap.objs.size a 0 0 := Heap.get?_push_size _ rfl
    refine wpAny_bind (wpAny_holding ?_)
    show wpAny _ _ (pyNext (.ref s.heap.objs.size) >>= _) _ _ _
    refine wpAny_bind (next_set_0 hi (Heap.get?_push_of_some _ ho) fun h₁ n hn hi₁ hs₁ => ?_)
    refine wpAny_bind (wpAny_holding (wpAny_pure (wpAny_pure ?_)))
    rw [if_neg (by simp)]
    refine wpAny_bind (wpAny_holding (next_set_1 hh hn hi₁ (hs₁.extBut _ _ (Ne.symm hne) (Heap.get?_push_of_some _ ho)) fun h₂ hs₂ => ?_))
    simp only [Option.isSome_none, Bool.false_eq_true, if_false]
    refine wpAny_pure (hQ h₂ fun b o hb e => hs₂ b o hb (hs₁.extBut b o hb (Heap.get?_push_of_some _ e)))

theorem assign_set1 {env : Env} {x : Str} {px pos : Pos} {k : Nat} {a : Addr} {Q : Unit → Shared → Prop} (hh : A.handled = Option.none) (ho : s.heap.get? a = some (set1 (!w.params.followText "set-order")))
    (h : ∀ h', Heap.ExtBut s.heap.objs.size s.heap h' → wpAny (model prog w) A (assign (.Name x px) env (.bool true)) Q E { s with heap := h' }) :
    wpAny (model prog w) A (assign (.Tuple [.Name x px] k pos) env (.ref a)) Q E s := by
  rw [assign_Tuple]
  refine wpAny_bind (wpAny_standAt ?_)
  show wpAny _ _ (unpack (.ref a) [(false, assign (.Name x px) env)]) _ _ _
  unfold unpack
  refine wpAny_bind (wpAny_holding (unpack_set1 hh ho fun h' hk => ?_))
  exact assignInOrder_cons (wpAny_mono (h h' hk) (fun _ s' q => assignInOrder_nil q) fun _ _ e => e)
end
end

-- F10
section
open PySem PySem.W PyProof.Rows PySem.Calls
set_option maxRecDepth 100000
set_option maxHeartbeats 4000000
open PySem.MeetsSeq PySem.MeetsSeq2 PySem.MeetsSeq3 PySem.AutoSeq1
/-- lists of strs compared -/
noncomputable def lex (op : Str → Str → Bool) (sz : Nat → Nat → Bool) : List Str → List Str → Bool
  | x :: xs, y :: ys => if x == y then lex op sz xs ys else op x y
  | xs, ys => sz xs.length ys.length
noncomputable def ltS (x y : Str) : Bool := decide (x.cps.toList < y.cps.toList)
noncomputable def gtS (x y : Str) : Bool := decide (y.cps.toList < x.cps.toList)
noncomputable def lexLt := lex ltS (fun m n => decide (m < n))
noncomputable def lexGt := lex gtS (fun m n => decide (m > n))
theorem strs_get {vs : List Value} {xs : List Str} (h : StrsAre vs xs) : vs.length = xs.length ∧ ∀ (i : Nat) v, vs[i]? = some v → ∃ x t, xs[i]? = some x ∧ v = .str x t := by
  induction h with
  | nil => exact ⟨rfl, fun i v h => by simp at h⟩
  | cons x t _ ih =>
    refine ⟨by simp [ih.1], fun i v h => ?_⟩
    cases i with
    | zero => simp at h; subst h; exact ⟨x, t, rfl, rfl⟩
    | succ i => exact ih.2 i v (by simpa using h)

theorem lt_loop (l b : Addr) (vs ws : List Value) (xs ys : List Str) (hx : StrsAre vs xs) (hy : StrsAre ws ys) (n n2 : Nat) (dd dd2 : Option Addr) (sl sl2 : Array (Option Value)) (k : Nat) :
    ∀ i : Nat, min xs.length ys.length - i = k → i ≤ min xs.length ys.length → Meets (Builtin.«list.__eq__.loop» ⟨[.ref l, .ref b, rawInt i, rawInt 0], []⟩)
      (fun A R s => s.heap.get? l = some { cls := .type "list", dict := dd, data := .seq vs.toArray n, slots := sl } ∧ s.heap.get? b = some { cls := .type "list", dict := dd2, data := .seq ws.toArray n2, slots := sl2 } ∧
        R (.ok (.ret (.bool (lexLt (xs.drop i) (ys.drop i))))) s) := by
  obtain ⟨lx, gx⟩ := strs_get hx
  obtain ⟨ly, gy⟩ := strs_get hy
  induction k with
  | zero =>
    intro i hk hi prog w A R s h
    obtain ⟨hp, g, d, tk, os⟩ := s; obtain ⟨hl, hb, h⟩ := h
    wp_walk using wpAny_loadPart' hl, wpAny_loadPart' hb
    have fin : lexLt (xs.drop i) (ys.drop i) = decide (vs.toArray.size < ws.toArray.size) := by
      have h0 : (xs.drop i).length = 0 ∨ (ys.drop i).length = 0 := by rw [List.length_drop, List.length_drop]; omega
      have key : lexLt (xs.drop i) (ys.drop i) = decide ((xs.drop i).length < (ys.drop i).length) := by
        cases e1 : xs.drop i with
        | nil => cases e2 : ys.drop i <;> rfl
        | cons x r => cases e2 : ys.drop i with
          | nil => rfl
          | cons y r2 => rw [e1, e2] at h0; simp at h0
      rw [key]
      simp only [List.length_drop, List.size_toArray, lx, ly]
      exact decide_eq_decide.mpr (by omega)
    rw [fin] at h
    cases e1 : vs.toArray[((i : Nat) : Int).toNat]? with
    | none =>
      wp_walk using wpAny_loadPart' hl, wpAny_loadPart' hb
      exact h
    | some v =>
      cases e2 : ws.toArray[((i : Nat) : Int).toNat]? with
      | none =>
        wp_walk using wpAny_loadPart' hl, wpAny_loadPart' hb
        exact h
      | some u =>
        exfalso
        have a1 := (Array.getElem?_eq_some_iff.mp e1).1
        have a2 := (Array.getElem?_eq_some_iff.mp e2).1
        simp at a1 a2
        omega
  | succ k ih =>
    intro i hk hi prog w A R s h
    obtain ⟨hp, g, d, tk, os⟩ := s; obtain ⟨hl, hb, h⟩ := h
    wp_walk using wpAny_loadPart' hl, wpAny_loadPart' hb
    have hlt : i < xs.length := by omega
    have hlt2 : i < ys.length := by omega
    obtain ⟨x, t, hxi, hvi⟩ := gx i vs[i] (by simp [lx, hlt])
    obtain ⟨y, u, hyi, hwi⟩ := gy i ws[i] (by simp [ly, hlt2])
    have hi1 : vs.toArray[((i : Nat) : Int).toNat]? = some (.str x t) := by simp [lx, hlt, hvi]
    have hi2 : ws.toArray[((i : Nat) : Int).toNat]? = some (.str y u) := by simp [ly, hlt2, hwi]
    have hd1 : xs.drop i = x :: xs.drop (i + 1) := by
      rw [List.drop_eq_getElem_cons hlt]; obtain ⟨_, e⟩ := List.getElem?_eq_some_iff.mp hxi; rw [e]
    have hd2 : ys.drop i = y :: ys.drop (i + 1) := by
      rw [List.drop_eq_getElem_cons hlt2]; obtain ⟨_, e⟩ := List.getElem?_eq_some_iff.mp hyi; rw [e]
    have hc : ((i : Int) + 1) = ((i + 1 : Nat) : Int) := by push_cast; rfl
    rw [hd1, hd2] at h
    rw [hi1, hi2]
    refine wpAny_bind (eqBool_str ?_)
    have hL : lexLt (x :: xs.drop (i + 1)) (y :: ys.drop (i + 1)) = if x == y then lexLt (xs.drop (i + 1)) (ys.drop (i + 1)) else ltS x y := rfl
    rw [hL] at h
    cases hxy : x == y with
    | true =>
      rw [hxy] at h
      wp_walk
      rw [hc]
      exact ⟨plainId_quiet plain_eq_loop _, codeAny_builtin entry_eq_loop (by
        rw [Around.under_plainId plain_eq_loop _]
        exact ih (i + 1) (by omega) (by omega) prog w A R _ ⟨hl, hb, h⟩)⟩
    | false =>
      rw [hxy] at h
      wp_walk using wpAny_loadPart' hl, wpAny_loadPart' hb
      rw [hi1, hi2]
      exact wpAny_bind (PySem.P.lt_str (wpAny_pure h))

theorem lt_lists {prog : Program} {w : World} {A : Around} {E : Value → Shared → Prop} {s : Shared} {l b : Addr} {vs ws : List Value} {xs ys : List Str} {Q : Value → Shared → Prop} (hl : s.heap.IsList l vs.toArray) (hb : s.heap.IsList b ws.toArray) (hx : StrsAre vs xs) (hy : StrsAre ws ys) (hu : A.units < cLine)
    (h : Q (.bool (lexLt xs ys)) s) : wpAny (model prog w) A (richCompare .Lt (.ref l) (.ref b)) Q E s := by
  obtain ⟨⟨cls, dd, data, sl⟩, ho, hc, n, hd⟩ := id hl
  obtain ⟨⟨cls2, dd2, data2, sl2⟩, ho2, hc2, n2, hd2⟩ := id hb
  simp only at hc hd hc2 hd2
  subst hc hd hc2 hd2
  have g : Meets (Builtin.«list.__lt__» ⟨[.ref l, .ref b], []⟩) (fun A R s => s.heap.get? l = some { cls := .type "list", dict := dd, data := .seq vs.toArray n, slots := sl } ∧ s.heap.get? b = some { cls := .type "list", dict := dd2, data := .seq ws.toArray n2, slots := sl2 } ∧
      R (.ok (.ret (.bool (lexLt xs ys)))) s) := by
    intro prog w A R s h
    obtain ⟨hp, g, d, tk, os⟩ := s; obtain ⟨hl, hb, h⟩ := h
    have f3 := AutoSeq1.sub_list_list
    wp_walk using wpAny_loadPart' hl, wpAny_loadPart' hb
    exact ⟨plainId_quiet plain_eq_loop _, codeAny_builtin entry_eq_loop (by
      rw [Around.under_plainId plain_eq_loop _]
      exact lt_loop l b vs ws xs ys hx hy n n2 dd dd2 sl sl2 _ 0 rfl (Nat.zero_le _) prog w A R _ ⟨hl, hb, h⟩)⟩
  exact richCompare_meets_room (op := .Lt) ⟨_, ho, rfl⟩ ⟨_, ho2, rfl⟩ PySem.F.slot_list_lt PySem.F.entry_list_lt (PySem.F.args_list_lt_2 _ _) g
    ⟨ho, ho2, show Value.bool (lexLt xs ys) ≠ Value.notImplemented ∧ Q (.bool (lexLt xs ys)) s from ⟨(fun x => nomatch x), h⟩⟩ hu

theorem gt_loop (l b : Addr) (vs ws : List Value) (xs ys : List Str) (hx : StrsAre vs xs) (hy : StrsAre ws ys) (n n2 : Nat) (dd dd2 : Option Addr) (sl sl2 : Array (Option Value)) (k : Nat) :
    ∀ i : Nat, min xs.length ys.length - i = k → i ≤ min xs.length ys.length → Meets (Builtin.«list.__eq__.loop» ⟨[.ref l, .ref b, rawInt i, rawInt 4], []⟩)
      (fun A R s => s.heap.get? l = some { cls := .type "list", dict := dd, data := .seq vs.toArray n, slots := sl } ∧ s.heap.get? b = some { cls := .type "list", dict := dd2, data := .seq ws.toArray n2, slots := sl2 } ∧
        R (.ok (.ret (.bool (lexGt (xs.drop i) (ys.drop i))))) s) := by
  obtain ⟨lx, gx⟩ := strs_get hx
  obtain ⟨ly, gy⟩ := strs_get hy
  induction k with
  | zero =>
    intro i hk hi prog w A R s h
    obtain ⟨hp, g, d, tk, os⟩ := s; obtain ⟨hl, hb, h⟩ := h
    wp_walk using wpAny_loadPart' hl, wpAny_loadPart' hb
    have fin : lexGt (xs.drop i) (ys.drop i) = decide (vs.toArray.size > ws.toArray.size) := by
      have h0 : (xs.drop i).length = 0 ∨ (ys.drop i).length = 0 := by rw [List.length_drop, List.length_drop]; omega
      have key : lexGt (xs.drop i) (ys.drop i) = decide ((xs.drop i).length > (ys.drop i).length) := by
        cases e1 : xs.drop i with
        | nil => cases e2 : ys.drop i <;> rfl
        | cons x r => cases e2 : ys.drop i with
          | nil => rfl
          | cons y r2 => rw [e1, e2] at h0; simp at h0
      rw [key]
      simp only [List.length_drop, List.size_toArray, lx, ly]
      exact decide_eq_decide.mpr (by omega)
    rw [fin] at h
    cases e1 : vs.toArray[((i : Nat) : Int).toNat]? with
    | none =>
      wp_walk using wpAny_loadPart' hl, wpAny_loadPart' hb
      exact h
    | some v =>
      cases e2 : ws.toArray[((i : Nat) : Int).toNat]? with
      | none =>
        wp_walk using wpAny_loadPart' hl, wpAny_loadPart' hb
        exact h
      | some u =>
        exfalso
        have a1 := (Array.getElem?_eq_some_iff.mp e1).1
        have a2 := (Array.getElem?_eq_some_iff.mp e2).1
        simp at a1 a2
        omega
  | succ k ih =>
    intro i hk hi prog w A R s h
    obtain ⟨hp, g, d, tk, os⟩ := s; obtain ⟨hl, hb, h⟩ := h
    wp_walk using wpAny_loadPart' hl, wpAny_loadPart' hb
    have hlt : i < xs.length := by omega
    have hlt2 : i < ys.length := by omega
    obtain ⟨x, t, hxi, hvi⟩ := gx i vs[i] (by simp [lx, hlt])
    obtain ⟨y, u, hyi, hwi⟩ := gy i ws[i] (by simp [ly, hlt2])
    have hi1 : vs.toArray[((i : Nat) : Int).toNat]? = some (.str x t) := by simp [lx, hlt, hvi]
    have hi2 : ws.toArray[((i : Nat) : Int).toNat]? = some (.str y u) := by simp [ly, hlt2, hwi]
    have hd1 : xs.drop i = x :: xs.drop (i + 1) := by
      rw [List.drop_eq_getElem_cons hlt]; obtain ⟨_, e⟩ := List.getElem?_eq_some_iff.mp hxi; rw [e]
    have hd2 : ys.drop i = y :: ys.drop (i + 1) := by
      rw [List.drop_eq_getElem_cons hlt2]; obtain ⟨_, e⟩ := List.getElem?_eq_some_iff.mp hyi; rw [e]
    have hc : ((i : Int) + 1) = ((i + 1 : Nat) : Int) := by push_cast; rfl
    rw [hd1, hd2] at h
    rw [hi1, hi2]
    refine wpAny_bind (eqBool_str ?_)
    have hL : lexGt (x :: xs.drop (i + 1)) (y :: ys.drop (i + 1)) = if x == y then lexGt (xs.drop (i + 1)) (ys.drop (i + 1)) else gtS x y := rfl
    rw [hL] at h
    cases hxy : x == y with
    | true =>
      rw [hxy] at h
      wp_walk
      rw [hc]
      exact ⟨plainId_quiet plain_eq_loop _, codeAny_builtin entry_eq_loop (by
        rw [Around.under_plainId plain_eq_loop _]
        exact ih (i + 1) (by omega) (by omega) prog w A R _ ⟨hl, hb, h⟩)⟩
    | false =>
      rw [hxy] at h
      wp_walk using wpAny_loadPart' hl, wpAny_loadPart' hb
      rw [hi1, hi2]
      exact wpAny_bind (PySem.P.gt_str (wpAny_pure h))

theorem gt_lists {prog : Program} {w : World} {A : Around} {E : Value → Shared → Prop} {s : Shared} {l b : Addr} {vs ws : List Value} {xs ys : List Str} {Q : Value → Shared → Prop} (hl : s.heap.IsList l vs.toArray) (hb : s.heap.IsList b ws.toArray) (hx : StrsAre vs xs) (hy : StrsAre ws ys) (hu : A.units < cLine)
    (h : Q (.bool (lexGt xs ys)) s) : wpAny (model prog w) A (richCompare .Gt (.ref l) (.ref b)) Q E s := by
  obtain ⟨⟨cls, dd, data, sl⟩, ho, hc, n, hd⟩ := id hl
  obtain ⟨⟨cls2, dd2, data2, sl2⟩, ho2, hc2, n2, hd2⟩ := id hb
  simp only at hc hd hc2 hd2
  subst hc hd hc2 hd2
  have g : Meets (Builtin.«list.__gt__» ⟨[.ref l, .ref b], []⟩) (fun A R s => s.heap.get? l = some { cls := .type "list", dict := dd, data := .seq vs.toArray n, slots := sl } ∧ s.heap.get? b = some { cls := .type "list", dict := dd2, data := .seq ws.toArray n2, slots := sl2 } ∧
      R (.ok (.ret (.bool (lexGt xs ys)))) s) := by
    intro prog w A R s h
    obtain ⟨hp, g, d, tk, os⟩ := s; obtain ⟨hl, hb, h⟩ := h
    have f3 := AutoSeq1.sub_list_list
    wp_walk using wpAny_loadPart' hl, wpAny_loadPart' hb
    exact ⟨plainId_quiet plain_eq_loop _, codeAny_builtin entry_eq_loop (by
      rw [Around.under_plainId plain_eq_loop _]
      exact gt_loop l b vs ws xs ys hx hy n n2 dd dd2 sl sl2 _ 0 rfl (Nat.zero_le _) prog w A R _ ⟨hl, hb, h⟩)⟩
  exact richCompare_meets_room (op := .Gt) ⟨_, ho, rfl⟩ ⟨_, ho2, rfl⟩ PySem.F.slot_list_gt PySem.F.entry_list_gt (PySem.F.args_list_gt_2 _ _) g
    ⟨ho, ho2, show Value.bool (lexGt xs ys) ≠ Value.notImplemented ∧ Q (.bool (lexGt xs ys)) s from ⟨(fun x => nomatch x), h⟩⟩ hu
end

-- F11
section
open PySem PySem.W PyProof.Rows PySem.Calls
set_option maxRecDepth 100000
set_option maxHeartbeats 4000000
section
variable {prog : Program} {w : World} {A : Around} {R : Result → Shared → Prop} {E : Value → Shared → Prop} {s : Shared} {I : Addr} {fp wr : List Addr} {n : Nat} {P : Nat → Value → Prop} {St : Nat → Heap → Prop} {K : Heap → Prop}
/-- a comparison that leans on what stands -/
noncomputable def CmpK (prog : Program) (w : World) (A : Around) (op : CmpOp) (K : Heap → Prop) (P : Nat → Value → Prop) (bt : Nat → Nat → Bool) : Prop :=
  ∀ i j vi vj (s : Shared) (Q : Value → Shared → Prop) (E : Value → Shared → Prop), K s.heap → P i vi → P j vj → Q (.bool (bt i j)) s → wpAny (model prog w) A (richCompare op vi vj) Q E s

theorem max_turns (W : Walks prog w A.in1 I fp wr n P St) (hK : ∀ i h, St i h → K h) (bt : Nat → Nat → Bool) (hcmp : CmpK prog w A.in1 .Gt K P bt) (S : Addr) (hSf : S ∉ fp) :
    ∀ (k j : Nat) (s : Shared) (vb : Value) (c : Nat), n - (j + 1) = k → j + 1 ≤ n → St (j + 1) s.heap → P (argBest bt j) vb →
    s.heap.get? S = some { cls := .type "list", dict := none, data := .seq #[vb, vb] c, slots := #[] } →
    (∀ v h' tk, P (argBest bt (n - 1)) v → (∀ b o, b ∉ wr → b ≠ S → s.heap.get? b = some o → h'.get? b = some o) → R (.ok (.ret v)) { s with heap := h', toks := tk }) →
    codeAny (model prog w) A (.builtin "max.loop" ⟨[.ref I, .none, .ref S], []⟩) R s := by
  have nS : ∀ b, b ∈ fp → S ≠ b := fun b hb q => hSf (q ▸ hb)
  have hSw : S ∉ wr := fun h => hSf (W.sub _ h)
  have hname : (toString "max" ++ toString ".loop" : String) = "max.loop" := by decide
  intro k
  induction k with
  | zero =>
    intro j s vb c hk hj hst hPb hS hR
    obtain rfl : j + 1 = n := by omega
    refine codeAny_builtin PySem.F.entry_max_loop ?_
    rw [Around.under_plainId PySem.F.plain_max_loop _]
    show wpAny _ A.in1 (seqItems? (.ref S) >>= _) _ _ s
    refine wpAny_bind (wpAny_seqItems hS rfl ?_)
    show wpAny _ A.in1 (tryCatch (pyNext (.ref I)) _ >>= _) _ _ s
    refine wpAny_bind (wpAny_tryCatch (W.done s _ _ hst fun h' tk hk' => ?_))
    show wpAny _ A.in1 (updateSeq S (fun _ => #[]) >>= _) _ _ _
    refine wpAny_bind (wpAny_updateSeq (hk' S _ hSw hS) rfl (wpAny_bind (wpAny_letGo (wpAny_pure ?_))))
    exact hR vb _ tk hPb fun b o hbw hbS e => (Heap.get?_update_other _ _ (Ne.symm hbS)).trans (hk' b o hbw e)
  | succ k ih =>
    intro j s vb c hk hj hst hPb hS hR
    refine codeAny_builtin PySem.F.entry_max_loop ?_
    rw [Around.under_plainId PySem.F.plain_max_loop _]
    show wpAny _ A.in1 (seqItems? (.ref S) >>= _) _ _ s
    refine wpAny_bind (wpAny_seqItems hS rfl ?_)
    show wpAny _ A.in1 (tryCatch (pyNext (.ref I)) _ >>= _) _ _ s
    refine wpAny_bind (wpAny_tryCatch (W.item (j + 1) s _ _ (by omega) hst fun v h' tk hP hst' hk' => ?_))
    have hS' := hk' S _ hSw hS
    show wpAny _ A.in1 (tryCatch (holding [v, v] (richCompare .Gt v vb >>= _)) _ >>= _) _ _ _
    refine wpAny_bind (wpAny_tryCatch (wpAny_holding (wpAny_bind (hcmp (j + 1) (argBest bt j) v vb _ _ _ (hK _ _ hst') hP hPb ?_))))
    refine wpAny_bind (wpAny_holding (wpAny_truthy_bool ?_))
    refine wpAny_bind (wpAny_letGo (wpAny_pure ?_))
    cases hb : bt (j + 1) (argBest bt j) with
    | true =>
      have hbest : argBest bt (j + 1) = j + 1 := by simp only [argBest, hb, if_true]
      simp only [if_true]
      refine wpAny_bind (wpAny_updateSeq hS' rfl (wpAny_bind (wpAny_letGo ?_)))
      rw [hname]
      refine wpAny_pure ⟨plainId_quiet PySem.F.plain_max_loop _, ih (j + 1) _ v _ (by omega) (by omega) (W.frame _ _ _ hst' fun b hbf o e => (Heap.get?_update_other _ _ (nS b hbf)).trans e) (by rw [hbest]; exact hP) (Heap.get?_update_self _ hS' rfl)
        fun v' h'' tk'' hP' hk'' => hR v' h'' tk'' hP' fun b o hbw hbS e => hk'' b o hbw hbS ((Heap.get?_update_other _ _ (Ne.symm hbS)).trans (hk' b o hbw e))⟩
    | false =>
      have hbest : argBest bt (j + 1) = argBest bt j := by simp only [argBest, hb, Bool.false_eq_true, if_false]
      simp only [Bool.false_eq_true, if_false]
      refine wpAny_bind (wpAny_letGo ?_)
      rw [hname]
      exact wpAny_pure ⟨plainId_quiet PySem.F.plain_max_loop _, ih (j + 1) _ vb c (by omega) (by omega) hst' (by rw [hbest]; exact hPb) hS' fun v' h'' tk'' hP' hk'' =>
        hR v' h'' tk'' hP' fun b o hbw hbS e => hk'' b o hbw hbS (hk' b o hbw e)⟩

theorem call_max_K {x : Value} {Q : Value → Shared → Prop}
    (h : wpAny (model prog w) A.in1 (pyIter x) (fun it s₂ => ∃ I fp wr n P St K bt, it = .ref I ∧ Walks prog w A.in1 I fp wr n P St ∧ (∀ i h, St i h → K h) ∧ St 0 s₂.heap ∧ (∀ b ∈ fp, b < s₂.heap.objs.size) ∧ 0 < n ∧ CmpK prog w A.in1 .Gt K P bt ∧
      ∀ v h' tk, P (argBest bt (n - 1)) v → (∀ b o, b ∉ wr → s₂.heap.get? b = some o → h'.get? b = some o) → Q v { s₂ with heap := h', toks := tk }) E s) :
    wpAny (model prog w) A (call (.builtin "max") [x]) Q E s := by
  have hname : (toString "max" ++ toString ".loop" : String) = "max.loop" := by decide
  refine call_function_tree PySem.F.kind_max PySem.F.plain_max PySem.F.entry_max (PySem.F.args_max1 _) ?_
  show wpAny _ A.in1 (Builtin.Builtins.bindParams "max" ["key", "default"] 0 ⟨[], []⟩ >>= _) _ _ s
  refine wpAny_bind (wpAny_of_eq (show Builtin.Builtins.bindParams "max" ["key", "default"] 0 ⟨[], []⟩ = pure [none, none] from rfl) (wpAny_bind (wpAny_pure ?_)))
  refine wpAny_bind (wpAny_mono h (fun it s₂ h₂ => ?_) fun _ _ e => e)
  obtain ⟨I, fp, wr, n, P, St, K, bt, rfl, W, hK, hst, hfp, hn, hcmp, hQ⟩ := h₂
  refine wpAny_bind (wpAny_newObj_type ?_)
  have hSf : s₂.heap.objs.size ∉ fp := fun hm => Nat.lt_irrefl _ (hfp _ hm)
  have nS : ∀ b, b ∈ fp → s₂.heap.objs.size ≠ b := fun b hb q => hSf (q ▸ hb)
  have hSw : s₂.heap.objs.size ∉ wr := fun h => hSf (W.sub _ h)
  rw [hname]
  refine wpAny_pure ⟨plainId_quiet PySem.F.plain_max_loop _, codeAny_builtin PySem.F.entry_max_loop ?_⟩
  rw [Around.under_plainId PySem.F.plain_max_loop _]
  have hS0 : (s₂.heap.push { cls := .type "list", dict := none, data := .seq #[] }).get? s₂.heap.objs.size = some _ := Heap.get?_push_size _ rfl
  show wpAny _ A.in1 (seqItems? (.ref s₂.heap.objs.size) >>= _) _ _ _
  refine wpAny_bind (wpAny_seqItems hS0 rfl ?_)
  show wpAny _ A.in1 (tryCatch (pyNext (.ref I)) _ >>= _) _ _ _
  refine wpAny_bind (wpAny_tryCatch (W.item 0 _ _ _ hn (W.frame _ _ _ hst fun b _ o e => Heap.get?_push_of_some _ e) fun v h' tk hP hst' hk' => ?_))
  have hS' := hk' _ _ hSw hS0
  show wpAny _ A.in1 (updateSeq s₂.heap.objs.size (fun _ => #[v, v]) >>= _) _ _ _
  refine wpAny_bind (wpAny_updateSeq hS' rfl ?_)
  rw [hname]
  exact wpAny_pure ⟨plainId_quiet PySem.F.plain_max_loop _, max_turns W hK bt hcmp s₂.heap.objs.size hSf _ 0 _ v _ rfl hn (W.frame _ _ _ hst' fun b hbf o e => (Heap.get?_update_other _ _ (nS b hbf)).trans e) hP (Heap.get?_update_self _ hS' rfl) fun v' h'' tk'' hP' hk'' =>
    hQ v' h'' tk'' hP' fun b o hbw e => by
      have hbS : b ≠ s₂.heap.objs.size := Nat.ne_of_lt (Heap.lt_size e)
      exact hk'' b o hbw hbS ((Heap.get?_update_other _ _ (Ne.symm hbS)).trans (hk' b o hbw (Heap.get?_push_of_some _ e)))⟩

theorem min_turns (W : Walks prog w A.in1 I fp wr n P St) (hK : ∀ i h, St i h → K h) (bt : Nat → Nat → Bool) (hcmp : CmpK prog w A.in1 .Lt K P bt) (S : Addr) (hSf : S ∉ fp) :
    ∀ (k j : Nat) (s : Shared) (vb : Value) (c : Nat), n - (j + 1) = k → j + 1 ≤ n → St (j + 1) s.heap → P (argBest bt j) vb →
    s.heap.get? S = some { cls := .type "list", dict := none, data := .seq #[vb, vb] c, slots := #[] } →
    (∀ v h' tk, P (argBest bt (n - 1)) v → (∀ b o, b ∉ wr → b ≠ S → s.heap.get? b = some o → h'.get? b = some o) → R (.ok (.ret v)) { s with heap := h', toks := tk }) →
    codeAny (model prog w) A (.builtin "min.loop" ⟨[.ref I, .none, .ref S], []⟩) R s := by
  have nS : ∀ b, b ∈ fp → S ≠ b := fun b hb q => hSf (q ▸ hb)
  have hSw : S ∉ wr := fun h => hSf (W.sub _ h)
  have hname : (toString "min" ++ toString ".loop" : String) = "min.loop" := by decide
  intro k
  induction k with
  | zero =>
    intro j s vb c hk hj hst hPb hS hR
    obtain rfl : j + 1 = n := by omega
    refine codeAny_builtin PySem.F.entry_min_loop ?_
    rw [Around.under_plainId PySem.F.plain_min_loop _]
    show wpAny _ A.in1 (seqItems? (.ref S) >>= _) _ _ s
    refine wpAny_bind (wpAny_seqItems hS rfl ?_)
    show wpAny _ A.in1 (tryCatch (pyNext (.ref I)) _ >>= _) _ _ s
    refine wpAny_bind (wpAny_tryCatch (W.done s _ _ hst fun h' tk hk' => ?_))
    show wpAny _ A.in1 (updateSeq S (fun _ => #[]) >>= _) _ _ _
    refine wpAny_bind (wpAny_updateSeq (hk' S _ hSw hS) rfl (wpAny_bind (wpAny_letGo (wpAny_pure ?_))))
    exact hR vb _ tk hPb fun b o hbw hbS e => (Heap.get?_update_other _ _ (Ne.symm hbS)).trans (hk' b o hbw e)
  | succ k ih =>
    intro j s vb c hk hj hst hPb hS hR
    refine codeAny_builtin PySem.F.entry_min_loop ?_
    rw [Around.under_plainId PySem.F.plain_min_loop _]
    show wpAny _ A.in1 (seqItems? (.ref S) >>= _) _ _ s
    refine wpAny_bind (wpAny_seqItems hS rfl ?_)
    show wpAny _ A.in1 (tryCatch (pyNext (.ref I)) _ >>= _) _ _ s
    refine wpAny_bind (wpAny_tryCatch (W.item (j + 1) s _ _ (by omega) hst fun v h' tk hP hst' hk' => ?_))
    have hS' := hk' S _ hSw hS
    show wpAny _ A.in1 (tryCatch (holding [v, v] (richCompare .Lt v vb >>= _)) _ >>= _) _ _ _
    refine wpAny_bind (wpAny_tryCatch (wpAny_holding (wpAny_bind (hcmp (j + 1) (argBest bt j) v vb _ _ _ (hK _ _ hst') hP hPb ?_))))
    refine wpAny_bind (wpAny_holding (wpAny_truthy_bool ?_))
    refine wpAny_bind (wpAny_letGo (wpAny_pure ?_))
    cases hb : bt (j + 1) (argBest bt j) with
    | true =>
      have hbest : argBest bt (j + 1) = j + 1 := by simp only [argBest, hb, if_true]
      simp only [if_true]
      refine wpAny_bind (wpAny_updateSeq hS' rfl (wpAny_bind (wpAny_letGo ?_)))
      rw [hname]
      refine wpAny_pure ⟨plainId_quiet PySem.F.plain_min_loop _, ih (j + 1) _ v _ (by omega) (by omega) (W.frame _ _ _ hst' fun b hbf o e => (Heap.get?_update_other _ _ (nS b hbf)).trans e) (by rw [hbest]; exact hP) (Heap.get?_update_self _ hS' rfl)
        fun v' h'' tk'' hP' hk'' => hR v' h'' tk'' hP' fun b o hbw hbS e => hk'' b o hbw hbS ((Heap.get?_update_other _ _ (Ne.symm hbS)).trans (hk' b o hbw e))⟩
    | false =>
      have hbest : argBest bt (j + 1) = argBest bt j := by simp only [argBest, hb, Bool.false_eq_true, if_false]
      simp only [Bool.false_eq_true, if_false]
      refine wpAny_bind (wpAny_letGo ?_)
      rw [hname]
      exact wpAny_pure ⟨plainId_quiet PySem.F.plain_min_loop _, ih (j + 1) _ vb c (by omega) (by omega) hst' (by rw [hbest]; exact hPb) hS' fun v' h'' tk'' hP' hk'' =>
        hR v' h'' tk'' hP' fun b o hbw hbS e => hk'' b o hbw hbS (hk' b o hbw e)⟩

theorem call_min_K {x : Value} {Q : Value → Shared → Prop}
    (h : wpAny (model prog w) A.in1 (pyIter x) (fun it s₂ => ∃ I fp wr n P St K bt, it = .ref I ∧ Walks prog w A.in1 I fp wr n P St ∧ (∀ i h, St i h → K h) ∧ St 0 s₂.heap ∧ (∀ b ∈ fp, b < s₂.heap.objs.size) ∧ 0 < n ∧ CmpK prog w A.in1 .Lt K P bt ∧
      ∀ v h' tk, P (argBest bt (n - 1)) v → (∀ b o, b ∉ wr → s₂.heap.get? b = some o → h'.get? b = some o) → Q v { s₂ with heap := h', toks := tk }) E s) :
    wpAny (model prog w) A (call (.builtin "min") [x]) Q E s := by
  have hname : (toString "min" ++ toString ".loop" : String) = "min.loop" := by decide
  refine call_function_tree PySem.F.kind_min PySem.F.plain_min PySem.F.entry_min (PySem.F.args_min1 _) ?_
  show wpAny _ A.in1 (Builtin.Builtins.bindParams "min" ["key", "default"] 0 ⟨[], []⟩ >>= _) _ _ s
  refine wpAny_bind (wpAny_of_eq (show Builtin.Builtins.bindParams "min" ["key", "default"] 0 ⟨[], []⟩ = pure [none, none] from rfl) (wpAny_bind (wpAny_pure ?_)))
  refine wpAny_bind (wpAny_mono h (fun it s₂ h₂ => ?_) fun _ _ e => e)
  obtain ⟨I, fp, wr, n, P, St, K, bt, rfl, W, hK, hst, hfp, hn, hcmp, hQ⟩ := h₂
  refine wpAny_bind (wpAny_newObj_type ?_)
  have hSf : s₂.heap.objs.size ∉ fp := fun hm => Nat.lt_irrefl _ (hfp _ hm)
  have nS : ∀ b, b ∈ fp → s₂.heap.objs.size ≠ b := fun b hb q => hSf (q ▸ hb)
  have hSw : s₂.heap.objs.size ∉ wr := fun h => hSf (W.sub _ h)
  rw [hname]
  refine wpAny_pure ⟨plainId_quiet PySem.F.plain_min_loop _, codeAny_builtin PySem.F.entry_min_loop ?_⟩
  rw [Around.under_plainId PySem.F.plain_min_loop _]
  have hS0 : (s₂.heap.push { cls := .type "list", dict := none, data := .seq #[] }).get? s₂.heap.objs.size = some _ := Heap.get?_push_size _ rfl
  show wpAny _ A.in1 (seqItems? (.ref s₂.heap.objs.size) >>= _) _ _ _
  refine wpAny_bind (wpAny_seqItems hS0 rfl ?_)
  show wpAny _ A.in1 (tryCatch (pyNext (.ref I)) _ >>= _) _ _ _
  refine wpAny_bind (wpAny_tryCatch (W.item 0 _ _ _ hn (W.frame _ _ _ hst fun b _ o e => Heap.get?_push_of_some _ e) fun v h' tk hP hst' hk' => ?_))
  have hS' := hk' _ _ hSw hS0
  show wpAny _ A.in1 (updateSeq s₂.heap.objs.size (fun _ => #[v, v]) >>= _) _ _ _
  refine wpAny_bind (wpAny_updateSeq hS' rfl ?_)
  rw [hname]
  exact wpAny_pure ⟨plainId_quiet PySem.F.plain_min_loop _, min_turns W hK bt hcmp s₂.heap.objs.size hSf _ 0 _ v _ rfl hn (W.frame _ _ _ hst' fun b hbf o e => (Heap.get?_update_other _ _ (nS b hbf)).trans e) hP (Heap.get?_update_self _ hS' rfl) fun v' h'' tk'' hP' hk'' =>
    hQ v' h'' tk'' hP' fun b o hbw e => by
      have hbS : b ≠ s₂.heap.objs.size := Nat.ne_of_lt (Heap.lt_size e)
      exact hk'' b o hbw hbS ((Heap.get?_update_other _ _ (Ne.symm hbS)).trans (hk' b o hbw (Heap.get?_push_of_some _ e)))⟩

/-- a list walked, all that stood standing -/
theorem walks_all {h₀ : Heap} (hh : A.handled = none) (I ax : Addr) (vs : List Value) (hax : h₀.IsList ax vs.toArray) (hI : h₀.get? I = none) :
    Walks prog w A I (I :: domH h₀) [I] vs.length (fun (i : Nat) v => vs[i]? = some v) (fun (i : Nat) h => h.IsListIter I ax i ∧ ∀ b o, h₀.get? b = some o → h.get? b = some o) where
  sub := fun b hb => by simp at hb; simp [hb]
  frame := fun _ _ _ st hk => ⟨st.1.at fun o e => hk I (by simp) o e, fun b o e => hk b (List.mem_cons_of_mem _ (mem_domH.mpr ⟨o, e⟩)) o (st.2 b o e)⟩
  item := fun i s Q E hi st hQ => by
    refine wpAny_pyNext_list_item st.1 (hax.at fun o => st.2 _ o) (x := vs[i]) (by simp [hi]) fun h' hit' hs' => ?_
    exact hQ _ h' s.toks (by simp [hi]) ⟨hit', fun b o e => hs'.extBut b o (fun q => by rw [q, hI] at e; cases e) (st.2 b o e)⟩ fun b o hb e => hs'.extBut b o (fun h => hb (by simp [h])) e
  done := fun s Q E st hQ => wpAny_pyNext_list_end hh st.1 (hax.at fun o => st.2 _ o) (by simp) fun h' he' => hQ h' s.toks fun b o hb e => he' b o (fun h => hb (by simp [h])) e
  self := fun _ _ _ _ st hQ => wpAny_pyIter_listiter st.1 hQ
end
end

-- F12
section
open PySem PySem.W PyProof.Rows PySem.Calls
set_option maxRecDepth 100000
set_option maxHeartbeats 4000000
section
variable {prog : Program} {w : World} {A : Around} {E : Value → Shared → Prop} {s : Shared}

/-- pyIter of a list, walked with all that stood -/
theorem iter_all {X : List Addr} {a : Addr} {vs : List Value} {Q : Value → Shared → Prop} (hh : A.handled = none) (hl : s.heap.IsList a vs.toArray)
    (h : ∀ I fp wr St h', Walks prog w A I fp wr vs.length (fun (i : Nat) v => vs[i]? = some v) St → (∀ i h, St i h → ∀ b o, s.heap.get? b = some o → h.get? b = some o) → St 0 h' → (∀ b ∈ fp, b < h'.objs.size) → (∀ b ∈ wr, s.heap.get? b = none) →
      (∀ b o, s.heap.get? b = some o → h'.get? b = some o) → Q (.ref I) { s with heap := h' }) :
    wpAny (model prog w) A (pyIter (.ref a)) Q E s := by
  refine wpAny_pyIter_list hl ?_
  refine h s.heap.objs.size _ _ _ _ (walks_all hh _ a vs hl (get_size _)) (fun i h st => st.2) ⟨⟨_, Heap.get?_push_size _ rfl, rfl, rfl⟩, fun b o e => Heap.get?_push_of_some _ e⟩ (fun b hb => ?_) (fun b hb => ?_) fun b o e => Heap.get?_push_of_some _ e
  · rcases List.mem_cons.mp hb with rfl | hb
    · rw [Heap.size_push]; exact Nat.lt_succ_self _
    · obtain ⟨o, ho⟩ := mem_domH.mp hb
      exact Heap.lt_size (Heap.get?_push_of_some _ ho)
  · rw [List.mem_singleton.mp hb]; exact get_size _

noncomputable def strsP (xs : List Str) : PV := .list (xs.map .str)
noncomputable def minLL (xss : List (List Str)) : List Str := xss.getD (argBest (fun i j => lexLt (xss.getD i []) (xss.getD j [])) (xss.length - 1)) []
noncomputable def maxLL (xss : List (List Str)) : List Str := xss.getD (argBest (fun i j => lexGt (xss.getD i []) (xss.getD j [])) (xss.length - 1)) []
theorem argBest_le (bt : Nat → Nat → Bool) : ∀ k, argBest bt k ≤ k
  | 0 => Nat.le_refl _
  | k + 1 => by
    unfold argBest
    split
    · exact Nat.le_refl _
    · exact Nat.le_succ_of_le (argBest_le bt k)

theorem strsP_at {X : List Addr} {h : Heap} {vs : List Value} {xss : List (List Str)} (hr : Reps h X vs (xss.map strsP)) {i : Nat} {v : Value} (hv : vs[i]? = some v) : ∃ a, ∃ us : List Value, v = .ref a ∧ h.IsList a us.toArray ∧ StrsAre us (xss.getD i []) ∧ Rep h X v (strsP (xss.getD i [])) := by
  obtain ⟨p, hp, hrp⟩ := hr.get' hv
  rw [List.getElem?_map] at hp
  cases e : xss[i]? with
  | none => rw [e] at hp; cases hp
  | some xs =>
    rw [e] at hp
    obtain rfl : strsP xs = p := Option.some.inj hp
    have hg : xss.getD i [] = xs := by simp [List.getD, e]
    rw [hg]
    have hrp' := hrp
    unfold strsP at hrp
    cases hrp with
    | list hx hl hn hi => exact ⟨_, _, rfl, hl, reps_strsAre (h := h) (X := X) ⟨hn, hi⟩, hrp'⟩

theorem Fn.minLL {xss : List (List Str)} (hh : A.handled = none) (hu : A.units + 2 < cLine) (hne : xss ≠ []) : Fn prog w A (.builtin "min") [.list (xss.map strsP)] (strsP (minLL xss)) := fun X s vs L hr => by
  obtain ⟨v, rfl, hv⟩ := hr.one
  cases hv with
  | @list a vs _ ha hl hn hi =>
    have hreps : Reps s.heap X vs (xss.map strsP) := ⟨hn, hi⟩
    have hlen : vs.length = xss.length := by rw [hn, List.length_map]
    have hpos : 0 < xss.length := by cases xss with
      | nil => exact absurd rfl hne
      | cons _ _ => simp
    refine call_min_K (iter_all (X := X) hh hl fun I fp wr St h' W hK st hfp hwr hk => ?_)
    refine ⟨I, fp, wr, _, _, St, (fun h => ∀ b o, s.heap.get? b = some o → h.get? b = some o), (fun i j => lexLt (xss.getD i []) (xss.getD j [])), rfl, W, hK, st, hfp, by omega, ?_, fun v h'' tk hP hk' => ?_⟩
    · intro i j vi vj s₁ Q E hK hi' hj' hQ
      obtain ⟨a1, us1, rfl, l1, s1, _⟩ := strsP_at hreps hi'
      obtain ⟨a2, us2, rfl, l2, s2, _⟩ := strsP_at hreps hj'
      exact lt_lists (l1.at fun o => hK _ o) (l2.at fun o => hK _ o) s1 s2 (by show A.units + 1 < cLine; omega) hQ
    · have kk : ∀ b o, s.heap.get? b = some o → h''.get? b = some o := fun b o e => hk' b o (fun q => by rw [hwr b q] at e; cases e) (hk b o e)
      obtain ⟨_, _, _, _, _, hrep⟩ := strsP_at hreps hP
      rw [hlen] at hrep
      exact ⟨⟨h'', tk, rfl, kk⟩, hrep.keeps kk⟩

theorem Fn.maxLL {xss : List (List Str)} (hh : A.handled = none) (hu : A.units + 2 < cLine) (hne : xss ≠ []) : Fn prog w A (.builtin "max") [.list (xss.map strsP)] (strsP (maxLL xss)) := fun X s vs L hr => by
  obtain ⟨v, rfl, hv⟩ := hr.one
  cases hv with
  | @list a vs _ ha hl hn hi =>
    have hreps : Reps s.heap X vs (xss.map strsP) := ⟨hn, hi⟩
    have hlen : vs.length = xss.length := by rw [hn, List.length_map]
    have hpos : 0 < xss.length := by cases xss with
      | nil => exact absurd rfl hne
      | cons _ _ => simp
    refine call_max_K (iter_all (X := X) hh hl fun I fp wr St h' W hK st hfp hwr hk => ?_)
    refine ⟨I, fp, wr, _, _, St, (fun h => ∀ b o, s.heap.get? b = some o → h.get? b = some o), (fun i j => lexGt (xss.getD i []) (xss.getD j [])), rfl, W, hK, st, hfp, by omega, ?_, fun v h'' tk hP hk' => ?_⟩
    · intro i j vi vj s₁ Q E hK hi' hj' hQ
      obtain ⟨a1, us1, rfl, l1, s1, _⟩ := strsP_at hreps hi'
      obtain ⟨a2, us2, rfl, l2, s2, _⟩ := strsP_at hreps hj'
      exact gt_lists (l1.at fun o => hK _ o) (l2.at fun o => hK _ o) s1 s2 (by show A.units + 1 < cLine; omega) hQ
    · have kk : ∀ b o, s.heap.get? b = some o → h''.get? b = some o := fun b o e => hk' b o (fun q => by rw [hwr b q] at e; cases e) (hk b o e)
      obtain ⟨_, _, _, _, _, hrep⟩ := strsP_at hreps hP
      rw [hlen] at hrep
      exact ⟨⟨h'', tk, rfl, kk⟩, hrep.keeps kk⟩
end
end

-- F13
section
open PySem PySem.W PyProof.Rows PySem.Calls
theorem range_pick (m : List PV) (k : Nat) : (List.range k).filterMap (m[·]?) = m.take k := by
  induction k with
  | zero => rfl
  | succ k ih =>
    rw [List.range_succ, List.filterMap_append, ih, List.take_add_one]
    cases h : m[k]? <;> simp [h]
theorem pick_run' (l : List PV) (a k : Nat) : ((List.range k).map fun (i : Nat) => ((a : Int) + 1 * (i : Int)).toNat).filterMap (l[·]?) = (l.drop a).take k := by
  rw [List.filterMap_map, ← range_pick]
  congr 1
  funext i
  show l[((a : Int) + 1 * (i : Int)).toNat]? = _
  rw [List.getElem?_drop]
  congr 1
  omega
theorem range_step (a b : Nat) : sliceRange (a : Int) (b : Int) 1 = (List.range (b - a)).map fun (i : Nat) => ((a : Int) + 1 * (i : Int)).toNat := by
  unfold sliceRange
  simp only [show (1 : Int) > 0 by decide, if_true]
  congr 2
  split <;> omega
theorem pickP_take (l : List PV) (b : Nat) : pickP l none (some (b : Int)) = l.take b := by
  have e : sliceBounds none (some (b : Int)) none l.length = (((0 : Nat) : Int), ((min b l.length : Nat) : Int), 1) := by
    simp only [sliceBounds, Option.getD_none]
    have h2 : ¬ ((b : Int) < 0) := by omega
    simp only [h2, if_false, show (1 : Int) > 0 by decide, if_true]
    congr 1
    congr 1; omega
  unfold pickP
  rw [e]
  simp only
  rw [range_step, pick_run', List.drop_zero, Nat.sub_zero]
  rcases Nat.le_total b l.length with h | h
  · rw [Nat.min_eq_left h]
  · rw [Nat.min_eq_right h, List.take_of_length_le (Nat.le_refl _), List.take_of_length_le h]
theorem pickP_drop (l : List PV) (a : Nat) : pickP l (some (a : Int)) none = l.drop a := by
  have e : sliceBounds (some (a : Int)) none none l.length = (((min a l.length : Nat) : Int), (l.length : Int), 1) := by
    simp only [sliceBounds, Option.getD_none]
    have h1 : ¬ ((a : Int) < 0) := by omega
    simp only [h1, if_false, show (1 : Int) > 0 by decide, if_true]
    congr 1
    omega
  unfold pickP
  rw [e]
  simp only
  rw [range_step, pick_run']
  rcases Nat.le_total a l.length with h | h
  · rw [Nat.min_eq_left h, List.take_of_length_le (by simp)]
  · rw [Nat.min_eq_right h]
    simp [List.drop_eq_nil_of_le h]
theorem pickP_last (l : List PV) : pickP l (some (-1)) none = l.drop (l.length - 1) := by
  have e : sliceBounds (some (-1 : Int)) none none l.length = (((l.length - 1 : Nat) : Int), (l.length : Int), 1) := by
    simp only [sliceBounds, Option.getD_none, show (-1 : Int) < 0 by decide, if_true, show (1 : Int) > 0 by decide]
    congr 1
    omega
  unfold pickP
  rw [e]
  simp only
  rw [range_step, pick_run', List.take_of_length_le (by simp)]
end

-- L17
section
open PySem PySem.W PyProof.Rows PySem.Calls
set_option maxRecDepth 10000
set_option maxHeartbeats 1000000
section
variable {prog : Program} {w : World} {A : Around} {env cenv : Env} {h₀ : Heap} {X₀ : List Addr} {ρ ρc : PEnv} {Q : PF → PEnv → Prop}

/-- only D turns, no frame and no cell -/
theorem Sit.atD {X : List Addr} {D : Addr} {h h' : Heap} (S : Sit cenv ρ X h₀ h) (hD : D ∈ X) (hD0 : h₀.get? D = Option.none) (hst : ∃ o, h.get? D = some o ∧ Still o) (hs : Heap.SameBut D h h') (hl : ∃ o, h'.get? D = some o) (hno : NoOwn ρ) : Sit cenv ρ X h₀ h' := by
  have nD : ∀ a o, h.get? a = some o → ¬ Still o → h'.get? a = some o := fun a o ho hn => (hs.2 a fun q => hn (by
    subst q; obtain ⟨o', e, st⟩ := hst; rw [e] at ho; cases ho; exact st)).trans ho
  have vk : ∀ {x v}, Var cenv h x v → Var cenv h' x v := fun hv => by
    rcases hv with ⟨e, m, hn, hm⟩ | ⟨e, c, hc, hv⟩
    · exact .inl ⟨e, m, hn.at' (fun o ho => nD _ o ho fun st => st.ns ho hn rfl), hm⟩
    · obtain ⟨o, ho, hd⟩ := id hv
      exact .inr ⟨e, c, hc, o, nD _ o ho (fun st => st.cell ho hv rfl), hd⟩
  have rk : ∀ {v p}, Rep h X v p → Rep h' X v p := fun r => r.but fun a o ha ho => (hs.2 a fun q => ha (q ▸ hD)).trans ho
  exact {
    kind := S.kind
    glob := S.glob
    blt := S.blt
    keep := fun b o e => (hs.2 b fun q => by rw [q, hD0] at e; cases e).trans (S.keep b o e)
    live := fun x hx => by
      by_cases q : x = D
      · rw [q]; exact hl
      · obtain ⟨o, ho⟩ := S.live x hx; exact ⟨o, (hs.2 x q).trans ho⟩
    loc := S.loc
    locN := S.locN
    ns := by obtain ⟨m, hn⟩ := S.ns; exact ⟨m, hn.at' fun o ho => nD _ o ho fun st => st.ns ho hn rfl⟩
    cel := fun x c e => by obtain ⟨a, b, v, hv⟩ := S.cel x c e; obtain ⟨o, ho, hd⟩ := id hv; exact ⟨a, b, v, o, nD _ o ho (fun st => st.cell ho hv rfl), hd⟩
    inj := S.inj
    val := fun x p e => by obtain ⟨v, hv, hr⟩ := S.val x p e; exact ⟨v, vk hv, rk hr⟩
    own := fun x l e => (hno x l e).elim }

/-- a set that only True was put into -/
noncomputable def AccS (w : World) (D : Addr) (X : List Addr) (l : List PV) (h : Heap) : Prop := ((l = [] ∧ h.get? D = some (set0 (!w.params.followText "set-order"))) ∨ (l ≠ [] ∧ h.get? D = some (set1 (!w.params.followText "set-order")))) ∧ ∀ p ∈ l, p = .bool true
theorem still_set0 (led : Bool) : Still (set0 led) := ⟨fun _ _ q => (by cases q), fun _ q => (by cases q)⟩
theorem still_set1 (led : Bool) : Still (set1 led) := ⟨fun _ _ q => (by cases q), fun _ q => (by cases q)⟩
theorem accS_ok (D : Addr) : AccOk D (AccS w D) where
  keep := fun X l h h' a h1 h2 => ⟨a.1.imp (fun q => ⟨q.1, h2 _ q.2⟩) (fun q => ⟨q.1, h2 _ q.2⟩), a.2⟩
  less := fun X X' l h a hs => a
  more := fun X Y l h h' a hn hk => ⟨a.1.imp (fun q => ⟨q.1, hk _ _ q.2⟩) (fun q => ⟨q.1, hk _ _ q.2⟩), a.2⟩
  still := fun X l h a => by
    rcases a.1 with ⟨_, e⟩ | ⟨_, e⟩
    · exact ⟨_, e, still_set0 _⟩
    · exact ⟨_, e, still_set1 _⟩

noncomputable def mSet (elt : Expr) (acc : Value) (cenv : Env) : Sem Unit := do
  let v ← eval elt cenv
  standAt elt.pos
  let _ ← call (.builtin "set.add") [acc, v]

theorem Em.set {elt : Expr} {D : Addr} (h : Ev prog w A cenv h₀ ρ elt (.bool true)) (hno : NoOwn ρ) {hk : Heap} : Em prog w A cenv h₀ hk D (AccS w D) (mSet elt (.ref D) cenv) ρ [.bool true] := fun X s l₀ hD hD0 hkD hks S ha hsz => by
  refine wpAny_bind (wpAny_mono (h X s S) (fun y s₁ h₁ => wpAny_bind (wpAny_standAt ?_)) fun _ _ x => x.elim)
  obtain ⟨⟨h₁, tk₁, rfl, k₁⟩, hry⟩ := h₁
  cases hry
  have all : ∀ p ∈ l₀ ++ [PV.bool true], p = .bool true := fun p hp => by
    rcases List.mem_append.mp hp with hp | hp
    · exact ha.2 p hp
    · exact List.mem_singleton.mp hp
  rcases ha.1 with ⟨e0, e1⟩ | ⟨e0, e1⟩
  · refine wpAny_bind (call_add0 (s := { s with heap := h₁, toks := tk₁ }) (k₁ _ _ e1) fun h₂ hs₂ h2 => wpAny_pure ⟨h₂, tk₁ + 1, rfl, ?_, ⟨.inr ⟨by simp, h2⟩, all⟩, fun a o ha ho => (hs₂.2 a fun q => ha (q ▸ hD)).trans (k₁ a o ho), fun a o ha ho _ => (hs₂.2 a ha).trans (k₁ a o ho), fun a o e => (hs₂.2 a fun q => by rw [q, hkD] at e; cases e).trans (k₁ a o (hks a o e))⟩)
    exact (S.keeps k₁).atD hD hD0 ⟨_, k₁ _ _ e1, still_set0 _⟩ hs₂ ⟨_, h2⟩ hno
  · refine wpAny_bind (call_add1 (s := { s with heap := h₁, toks := tk₁ }) (k₁ _ _ e1) (wpAny_pure ⟨h₁, tk₁ + 1, rfl, S.keeps k₁, ⟨.inr ⟨by simp, k₁ _ _ e1⟩, all⟩, fun a o ha ho => k₁ a o ho, fun a o ha ho _ => k₁ a o ho, fun a o e => k₁ a o (hks a o e)⟩))

theorem codeAny_compStartS {R : Result → Shared → Prop} {s : Shared} {elt target iter ifs rest scope pos it acc env}
    (h0 : codeAny (model prog w) A (.compLoop (.SetComp elt (⟨target, iter, ifs, 0⟩ :: rest) scope pos) 0 it acc env) R s)
    (h : wpAny (model prog w) A (pyIter it) (fun it' s' => codeAny (model prog w) A (.compLoop (.SetComp elt (⟨target, iter, ifs, 0⟩ :: rest) scope pos) 0 it' acc env) R s')
      (notedBy (model prog w) A env fun x s' => R (.error x) s') s) :
    codeAny (model prog w) A (.compStart (.SetComp elt (⟨target, iter, ifs, 0⟩ :: rest) scope pos) 0 it acc env) R s := by
  refine codeAny_of_tree ?_
  show wpAny _ _ ((compStart (.SetComp elt (⟨target, iter, ifs, 0⟩ :: rest) scope pos) 0 it acc env).onRaise (fun x => do noteFrame x env; standAt theWindowsPlace)) _ _ s
  refine wpAny_notedAt ?_
  unfold compStart
  show wpAny _ _ (ask >>= _) _ _ s
  refine wpAny_bind (wpAny_askSetting (wpAny_ite ?_))
  split
  · first
      | exact wpAny_bind (wpAny_pure (wpAny_pure (And.intro rfl h0)))
      | exact wpAny_pure (And.intro rfl h0)
  · first
      | exact wpAny_bind (wpAny_rule (wpAny_bind (wpAny_standAt (wpAny_bind (wpAny_mono h (fun it' s' h' => wpAny_pure (And.intro rfl h')) fun _ _ x => x)))))
      | (refine wpAny_bind (wpAny_rule ?_); show wpAny _ _ (standAt iter.pos >>= _) _ _ s; exact wpAny_bind (wpAny_standAt (wpAny_bind (wpAny_mono h (fun it' s' h' => wpAny_pure (And.intro rfl h')) fun _ _ x => x))))

theorem comp_coreS {elt tgt iter : Expr} {ifs : List Expr} {rest : List Comprehension} {scope : Scope} {pos ipos : Pos} {cl : List (Str × Addr)} {X : List Addr} {l : List PV} {fb : Bool} {h : Heap} {s₂ : Shared} {I : Addr} {fp wr : List Addr} {St : Nat → Heap → Prop} {RR : Value → Addr → Result → Shared → Prop}
    (m : Value → Env → Sem Unit) (f : PV → Bool) (g : PV → List PV) (ρt : PV → PEnv)
    (O : Src prog w A tgt fb X l h s₂.heap I fp wr St) (S : Sit env ρ X h₀ h) (hh : ∀ b o, h.get? b = some o → s₂.heap.get? b = some o) (hcap : Cap scope env cl ρ ρc)
    (hcl : ∀ y c, cl.lookup y = some c → env.cells.lookup y = some c) (hkind : scope.kind = .function)
    (hcn : ∀ n y c, ρc.lookup y ≠ Option.none → cl.lookup y = some c → (cellsFrom (n + 1) scope.names cl).lookup y = some c)
    (hasg : ∀ C p, p ∈ l → AsgT prog w A (compEnvC scope (cellsFrom (C + 1) scope.names cl) C env) h₀ ρc tgt p (ρt p))
    (hsub : ∀ p ∈ l, ∀ x sv, ρc.lookup x = some sv → (ρt p).lookup x = some sv)
    (htest : ∀ C p, p ∈ l → EvTs prog w A (compEnvC scope (cellsFrom (C + 1) scope.names cl) C env) h₀ (ρt p) ifs (f p))
    (htg : ∀ x, tgtHas tgt x = true → cl.lookup x = Option.none)
    (hem : ∀ C D p, h.get? C = Option.none → p ∈ l → f p = true → Em prog w A (compEnvC scope (cellsFrom (C + 1) scope.names cl) C env) h₀ h D (AccS w D) (m (.ref D) (compEnvC scope (cellsFrom (C + 1) scope.names cl) C env)) (ρt p) (g p))
    (hsz : (l.flatMap fun p => if f p then g p else []).length ≤ sizeLine)
    (heq : ∀ it acc cenv, compTurn (.SetComp elt (⟨tgt, iter, ifs, 0⟩ :: rest) scope pos) 0 it acc cenv = (do
      standAt ipos
      match ← pyNext it with
      | Option.none => pure (.done .next)
      | some v =>
        letOwnedTupleGo tgt it v
        assign tgt cenv v
        let ok ← forIn ifs true fun c r => if r = true then do let ok ← isTrue c cenv (eval c cenv); pure (ForInStep.yield ok) else pure (ForInStep.yield r)
        if ok = true then do m acc cenv; again (.compLoop (.SetComp elt (⟨tgt, iter, ifs, 0⟩ :: rest) scope pos) 0 it acc cenv)
        else again (.compLoop (.SetComp elt (⟨tgt, iter, ifs, 0⟩ :: rest) scope pos) 0 it acc cenv)))
    (hRR : ∀ D C h' tk m', s₂.heap.get? D = Option.none → s₂.heap.get? C = Option.none → D ≠ C → h'.Ns C m' → AccS w D [] (l.flatMap fun p => if f p then g p else []) h' →
      (∀ b o, b ∉ wr → b ∉ X → s₂.heap.get? b = some o → h'.get? b = some o) → (∀ b o, h.get? b = some o → h'.get? b = some o) → RR (.ref D) C (.ok .next) { s₂ with heap := h', toks := tk }) :
    wpAny (model prog w) A (newSet (.type "set")) (fun acc s₃ => wpAny (model prog w) A (newFunctionEnv scope env.globals cl [] env.qual none .none (some env)) (fun cenv s₄ =>
      codeAny (model prog w) A (.compStart (.SetComp elt (⟨tgt, iter, ifs, 0⟩ :: rest) scope pos) 0 (.ref I) acc { cenv with scope := relabel scope env }) (RR acc cenv.locals) s₄) (fun _ _ => False) s₃) (fun _ _ => False) s₂ := by
  refine wp_newSet (wp_newComp ?_)
  dsimp only
  generalize hH2 : s₂.heap.push (set0 (!w.params.followText "set-order")) = H2
  have hC : H2.objs.size = s₂.heap.objs.size + 1 := by rw [← hH2, Heap.size_push]
  have k2 : ∀ b o, s₂.heap.get? b = some o → H2.get? b = some o := fun b o e => hH2 ▸ Heap.get?_push_of_some _ e
  have hD2 : H2.get? s₂.heap.objs.size = some (set0 (!w.params.followText "set-order")) := hH2 ▸ Heap.get?_push_size _ rfl
  have fresh : ∀ a, s₂.heap.objs.size ≤ a → s₂.heap.get? a = Option.none := fun a ha => by
    cases e : s₂.heap.get? a with
    | none => rfl
    | some o' => exact absurd (Heap.lt_size e) (Nat.not_lt.mpr ha)
  have hnone : ∀ a, s₂.heap.get? a = Option.none → h.get? a = Option.none := fun a ha => by
    cases e : h.get? a with
    | none => rfl
    | some o => rw [hh _ _ e] at ha; cases ha
  obtain ⟨N, hN, SC⟩ := sit_compG (Y := s₂.heap.objs.size :: wr) S hcap hcl hkind (fun b o e => k2 b o (hh b o e)) (fun b hb => by
    rcases List.mem_cons.mp hb with rfl | hb
    · exact ⟨hnone _ (fresh _ (Nat.le_refl _)), _, hD2⟩
    · obtain ⟨o, ho⟩ := O.fpl b (O.sub b hb); exact ⟨O.new b hb, o, k2 _ _ ho⟩) (fun y c => hcn H2.objs.size y c)
  have k3 : ∀ b o, H2.get? b = some o → (pushCells (H2.push { cls := .type "dict", data := .dict #[] }) scope.names).get? b = some o := fun b o e => pushCells_keeps _ _ b o (Heap.get?_push_of_some _ e)
  generalize hH3 : pushCells (H2.push { cls := .type "dict", data := .dict #[] }) scope.names = H3 at SC k3 ⊢
  have hst : St 0 H3 := O.frame _ _ _ O.start fun b _ o e => k3 b o (k2 b o e)
  have hNf : ∀ b ∈ N, s₂.heap.get? b = Option.none := fun b hb => fresh b (by have := hN b hb; rw [hC] at this; exact Nat.le_of_succ_le this)
  have hDw : s₂.heap.objs.size ∉ fp := fun hm => by obtain ⟨o, ho⟩ := O.fpl _ hm; rw [fresh _ (Nat.le_refl _)] at ho; cases ho
  have hw0 : ∀ b ∈ wr, h₀.get? b = Option.none := fun b hb => S.none₀ (O.new b hb)
  have loop : codeAny (model prog w) A (.compLoop (.SetComp elt (⟨tgt, iter, ifs, 0⟩ :: rest) scope pos) 0 (.ref I) (.ref s₂.heap.objs.size) (compEnvC scope (cellsFrom (H2.objs.size + 1) scope.names cl) H2.objs.size env))
      (RR (.ref s₂.heap.objs.size) H2.objs.size) { s₂ with heap := H3 } := by
    refine codeAny_mono (comp_loopG (X := N ++ ((s₂.heap.objs.size :: wr) ++ X)) (X₁ := (N ++ ((s₂.heap.objs.size :: wr) ++ X)).filter (· ∉ wr)) (Xs := X) (l₀ := []) (AccP := AccS w s₂.heap.objs.size) (m := m (.ref s₂.heap.objs.size) (compEnvC scope (cellsFrom (H2.objs.size + 1) scope.names cl) H2.objs.size env)) f g ρt O (accS_ok _)
      (by simp) (S.none₀ (hnone _ (fresh _ (Nat.le_refl _)))) (fun b hb => by simp [hb]) hDw ?_ ?_ (fun a ha => by simpa using List.mem_filter.mp ha) (fun a ha => by
        by_cases q : a ∈ wr
        · exact .inr q
        · exact .inl (List.mem_filter.mpr ⟨ha, by simpa using q⟩)) (fun p hp => hasg _ p hp) hsub (fun p hp => htest _ p hp) (fun p hp hf => hem _ _ p (hnone _ (fresh _ (by rw [hC]; exact Nat.le_succ _))) hp hf) (hnone _ (fresh _ (by rw [hC]; exact Nat.le_succ _))) ?hkC (hnone _ (fresh _ (Nat.le_refl _))) O.new (fun a o e => k3 a o (k2 a o (hh a o e))) hw0 ?_ ?_ hcap.noOwn SC
      ⟨.inl ⟨rfl, k3 _ _ hD2⟩, fun p hp => by cases hp⟩ hst (fun a o _ e => k3 a o (k2 a o e)) (by simpa using hsz) rfl rfl (heq _ _ _)) ?_
    case hkC =>
      intro x c hx hc
      have hs : (H2.push { cls := .type "dict", data := .dict #[] }).objs.size = H2.objs.size + 1 := Heap.size_push ..
      have hcs : ∀ y (c : Nat), cl.lookup y = some c → c < H2.objs.size := fun y c e => by
        obtain ⟨_, _, v, o, ho, _⟩ := S.cel y c (hcl y c e)
        exact Heap.lt_size (k2 _ _ (hh _ _ ho))
      obtain ⟨c1, c2⟩ := cells_new scope.names (H2.push { cls := .type "dict", data := .dict #[] }) cl (H2.objs.size + 1) (by omega) (fun y c e q => by have := hcs y c e; omega) (fun y c e => by have := hcs y c e; omega) (fun y z c q e _ => by have := hcs y c e; omega)
      rw [hs] at c1
      rcases c1 x c hc with ⟨q, _⟩ | ⟨_, q⟩
      · refine hnone _ (fresh _ ?_)
        have q' : H2.objs.size + 1 ≤ (c : Nat) := q
        have : s₂.heap.objs.size ≤ (c : Nat) := by omega
        exact this
      · rw [htg x hx] at q; cases q
    · intro b hb hm
      rcases List.mem_append.mp hm with hm | hm
      · obtain ⟨o, ho⟩ := O.fpl b hb; rw [hNf b hm] at ho; cases ho
      · rcases List.mem_append.mp hm with hm | hm
        · rcases List.mem_cons.mp hm with rfl | hm
          · exact (hDw hb).elim
          · exact hm
        · exact (O.off b hb hm).elim
    · intro a hm
      rcases List.mem_append.mp hm with hm | hm
      · exact .inr (.inr (hNf a hm))
      · rcases List.mem_append.mp hm with hm | hm
        · rcases List.mem_cons.mp hm with rfl | hm
          · exact .inr (.inr (fresh _ (Nat.le_refl _)))
          · exact .inr (.inl hm)
        · exact .inl hm
    · intro hm
      obtain ⟨o, ho, st⟩ := O.wl 0 H3 hst _ hm
      obtain ⟨mm, hn⟩ := SC.ns
      exact st.ns ho hn rfl
    · intro x c hc hm
      obtain ⟨o, ho, st⟩ := O.wl 0 H3 hst _ hm
      obtain ⟨_, _, v, hv⟩ := SC.cel x c hc
      exact st.cell ho hv rfl
    · rintro r s' ⟨rfl, h', tk, rfl, S', hacc, kA, kB, kC⟩
      obtain ⟨mm, hn⟩ := S'.ns
      have hCn : s₂.heap.get? H2.objs.size = Option.none := fresh _ (by rw [hC]; exact Nat.le_succ _)
      have hDC : s₂.heap.objs.size ≠ H2.objs.size := by rw [hC]; exact Nat.ne_of_lt (Nat.lt_succ_self _)
      have Nx : ∀ a o, s₂.heap.get? a = some o → a ∉ wr → a ∉ X → a ∉ N ++ ((s₂.heap.objs.size :: wr) ++ X) := fun a o e hw hx hm => by
        rcases List.mem_append.mp hm with hm | hm
        · rw [hNf a hm] at e; cases e
        · rcases List.mem_append.mp hm with hm | hm
          · rcases List.mem_cons.mp hm with rfl | hm
            · rw [fresh _ (Nat.le_refl _)] at e; cases e
            · exact hw hm
          · exact hx hm
      exact hRR _ _ h' tk mm (fresh _ (Nat.le_refl _)) hCn hDC hn (by rw [List.nil_append] at hacc; exact hacc) (fun b o hw hx e => kA b o (Nx b o e hw hx) (k3 b o (k2 b o e))) kC
  have hcs : wpAny (model prog w) A (pyIter (.ref I)) (fun it' s' => codeAny (model prog w) A (.compLoop (.SetComp elt (⟨tgt, iter, ifs, 0⟩ :: rest) scope pos) 0 it' (.ref s₂.heap.objs.size) (compEnvC scope (cellsFrom (H2.objs.size + 1) scope.names cl) H2.objs.size env))
      (RR (.ref s₂.heap.objs.size) H2.objs.size) s') (fun _ _ => False) { s₂ with heap := H3 } := O.self 0 _ _ _ hst loop
  exact codeAny_compStartS loop (wpAny_mono hcs (fun _ _ x => x) fun _ _ x => x.elim)

/-- x, = {elt for tgt in iter}, where each elt is True -/
theorem TrS.assignSet {elt tgt iter : Expr} {scope : Scope} {y : Str} {py pos tpos spos : Pos} {k : Nat} {cl : List (Str × Addr)} {l : List PV} {fb : Bool}
    (ρt : PV → PEnv) (hne : l ≠ []) (hA : A.handled = Option.none) (hit : EvSrc prog w A env h₀ ρ tgt fb iter l) (hclos : closureFor scope env = pure cl) (hcap : Cap scope env cl ρ ρc)
    (hcl : ∀ y c, cl.lookup y = some c → env.cells.lookup y = some c) (hkind : scope.kind = .function) (hnames : ∀ y ∈ scope.names, y.2 = .local → scope.names.lookup y.1 = some .local)
    (hcn : ∀ n y c, ρc.lookup y ≠ Option.none → cl.lookup y = some c → (cellsFrom (n + 1) scope.names cl).lookup y = some c)
    (hasg : ∀ C p, p ∈ l → AsgT prog w A (compEnvC scope (cellsFrom (C + 1) scope.names cl) C env) h₀ ρc tgt p (ρt p))
    (hsub : ∀ p ∈ l, ∀ x sv, ρc.lookup x = some sv → (ρt p).lookup x = some sv) (hno : ∀ p ∈ l, NoOwn (ρt p))
    (htg : ∀ x, tgtHas tgt x = true → cl.lookup x = Option.none)
    (helt : ∀ C p, p ∈ l → Ev prog w A (compEnvC scope (cellsFrom (C + 1) scope.names cl) C env) h₀ (ρt p) elt (.bool true))
    (hq : Q .next ((y, .val (.bool true)) :: ρ)) (hk : CanStore env y)
    (hsz : l.length ≤ sizeLine) (hs : ∀ x, foldedSetIterable iter env x = pure x := by intro _; rfl)
    (hsw : swapsWithSole [.Tuple [.Name y py] k tpos] (.SetComp elt [⟨tgt, iter, [], 0⟩] scope pos) spos.line env = pure false := by rfl) (hw : swappedStores [.Tuple [.Name y py] k tpos] (.SetComp elt [⟨tgt, iter, [], 0⟩] scope pos) env = pure none := by rfl) :
    TrS prog w A env h₀ X₀ ρ (.Assign [.Tuple [.Name y py] k tpos] (.SetComp elt [⟨tgt, iter, [], 0⟩] scope pos) spos) Q := fun X s hX S => by
  have hflat : (l.flatMap fun p => if (fun _ => true) p = true then (fun _ : PV => [PV.bool true]) p else []) = List.replicate l.length (.bool true) := by
    clear hit hasg hsub hno helt hsz hne
    induction l with
    | nil => rfl
    | cons p l ih => rw [List.flatMap_cons, ih]; rfl
  have key : wpAny (model prog w) A (eval (.SetComp elt [⟨tgt, iter, [], 0⟩] scope pos) env) (fun v s' => Keeps s s' ∧ ∃ D, v = .ref D ∧ s'.heap.get? D = some (set1 (!w.params.followText "set-order"))) (fun _ _ => False) s := by
    rw [arm_eval_SetComp]
    refine wpAny_comprehension_free (use := Option.none) rfl hs hclos hkind hnames (wpAny_mono (hit X s S) (fun xv s₁ h₁ => wpAny_mono h₁ (fun it s₂ h₂ => ?_) fun _ _ e => e) fun _ _ e => e)
    obtain ⟨k₂, I, fp, wr, St, rfl, O⟩ := h₂
    refine comp_coreS (RR := fun acc C => compPost (model prog w) A (fun _ _ => False) Option.none (fun v s' => Keeps s s' ∧ ∃ D, v = .ref D ∧ s'.heap.get? D = some (set1 (!w.params.followText "set-order"))) acc C) (ipos := iter.pos) (mSet elt) (fun _ => true) (fun _ => [.bool true]) ρt O S (Kp.hh k₂) hcap hcl hkind hcn hasg hsub (fun C p hp => EvTs.nil) htg
      (fun C D p _ hp _ => Em.set (helt C p hp) (hno p hp)) (by rw [hflat]; simpa using hsz) (fun it acc cenv => by rfl) ?_
    intro D C h' tk m' hD hC hDC hn hacc _ hkk
    rw [hflat] at hacc
    have h1 : h'.get? D = some (set1 (!w.params.followText "set-order")) := by
      rcases hacc.1 with ⟨q, _⟩ | ⟨_, q⟩
      · exfalso
        have := congrArg List.length q
        rw [List.length_replicate] at this
        exact hne (List.eq_nil_of_length_eq_zero this)
      · exact q
    refine ⟨m', hn, fun h'' hs'' => ⟨?_, D, rfl, (hs''.2 D hDC).trans h1⟩⟩
    obtain ⟨hh, t, rfl, hk2⟩ := k₂
    exact ⟨h'', tk, rfl, fun b o e => hs''.extBut b o (fun q => by rw [q] at e; rw [hk2 _ _ e] at hC; cases hC) (hkk b o e)⟩
  refine wpAny_Assign_stores (hs := hsw) (hw := hw) (wpAny_mono key (fun v s₁ h₁ => ?_) fun _ _ x => x)
  obtain ⟨k₁, D, rfl, hD⟩ := h₁
  have hh := Kp.hh k₁
  obtain ⟨h₁, tk₁, rfl, _⟩ := k₁
  show wpAny _ _ (assignAll (.ref D) [PySem.assign (.Tuple [.Name y py] k tpos) env]) _ _ _
  show wpAny _ _ (PySem.assign (.Tuple [.Name y py] k tpos) env (.ref D)) _ _ _
  refine assign_set1 hA hD fun h₂ hk₂ => ?_
  have kk : ∀ b o, h₁.get? b = some o → h₂.get? b = some o := fun b o e => hk₂ b o (Nat.ne_of_lt (Heap.lt_size e)) e
  have S₂ := (S.keeps hh).keeps kk
  refine wpAny_mono (AsgT.name hk X { s with heap := h₂, toks := tk₁ } (.bool true) S₂ (.bool true)) (fun _ s₃ h₃ => ?_) fun _ _ e => e
  obtain ⟨h₃, tk₃, rfl, S₃, k₃, _⟩ := h₃
  exact ⟨⟨h₃, tk₃, rfl⟩, fun a o ha e => k₃ a o ha (kk a o (hh a o e)), .next, _, X, hq, hX, S₃, fun a ha => .inl ha, trivial⟩
end
end

-- C1
open PySem PySem.W PyProof.Rows PySem.Calls
set_option maxRecDepth 100000
set_option maxHeartbeats 8000000
theorem warm : PySem.Challenge.rw_un0038_01 = PySem.Challenge.rw_un0038_01 ∧ frag = frag := by
  k_fill
  exact ⟨rfl, rfl⟩

structure Base (w : World) (h : Heap) : Prop where
  X : (frag w.params).In h
  T : ∃ mean mg mb, Top vw lo mean mg mb h
theorem Base.keeps {w : World} {h h' : Heap} (B : Base w h) (hk : ∀ b o, h.get? b = some o → h'.get? b = some o) : Base w h' :=
  ⟨B.X.keeps hk, let ⟨a, b, c, T⟩ := B.T; ⟨a, b, c, T.keeps hk⟩⟩

structure Ok (n : Nat) (A : Around) : Prop where
  hn : A.handled = Option.none
  dp : A.depth + n < recursionLimit
  un : A.units + 8 * n < cLine
theorem Ok.deeper {n : Nat} {A : Around} {env : Env} (k : Ok (n + 1) A) : Ok n (A.deeper env) :=
  ⟨k.hn, by have := k.dp; show A.depth + 1 + n < _; omega, by have := k.un; show A.units + 3 + 8 * n < _; omega⟩
theorem Ok.less {n m : Nat} {A : Around} (k : Ok n A) (h : m ≤ n) : Ok m A := ⟨k.hn, by have := k.dp; omega, by have := k.un; omega⟩

noncomputable def bindP (params : List Arg) (ps : List PV) : PEnv := (params.map (·.arg)).zip (ps.map .val)

theorem zip_reps {h : Heap} {X : List Addr} : ∀ {xs : List Str} {vs : List Value} {ps : List PV}, Reps h X vs ps → ∀ x p, (xs.zip (ps.map SV.val)).lookup x = some (.val p) → ∃ v, (xs.zip vs).lookup x = some v ∧ Rep h X v p
  | [], _, _, _, x, p, e => by simp at e
  | y :: xs, vs, ps, r, x, p, e => by
    cases ps with
    | nil => simp at e
    | cons q ps =>
      obtain ⟨v, vs', rfl, hv, hr⟩ := r.cons_inv
      simp only [List.map_cons, List.zip_cons_cons, List.lookup_cons] at e ⊢
      cases hq : x == y with
      | true => rw [hq] at e; cases e; exact ⟨v, rfl, hv⟩
      | false => rw [hq] at e; exact zip_reps hr x p e

theorem mem_of_lookup {α : Type} {l : List (Str × α)} {x : Str} {v : α} (h : l.lookup x = some v) : (x, v) ∈ l := by
  induction l with
  | nil => simp at h
  | cons q r ih =>
    obtain ⟨y, u⟩ := q
    rw [List.lookup_cons] at h
    cases e : x == y with
    | true => rw [e] at h; cases h; obtain rfl : x = y := by simpa using e
              exact List.mem_cons_self
    | false => rw [e] at h; exact List.mem_cons_of_mem _ (ih h)
theorem lookup_of_mem {α : Type} {l : List (Str × α)} {x : Str} {v : α} (hn : (l.map (·.1)).Nodup) (h : (x, v) ∈ l) : l.lookup x = some v := by
  induction l with
  | nil => cases h
  | cons q r ih =>
    obtain ⟨y, u⟩ := q
    rw [List.map_cons, List.nodup_cons] at hn
    rw [List.lookup_cons]
    rcases List.mem_cons.mp h with e | h'
    · cases e; simp
    · have hxy : x ≠ y := fun q => hn.1 (List.mem_map.mpr ⟨(x, v), h', q⟩)
      have hb : (x == y) = false := by simpa using hxy
      rw [hb]; exact ih hn.2 h'
theorem zip_fst_nodup {α : Type} {xs : List Str} (hn : xs.Nodup) (vs : List α) : ((xs.zip vs).map (·.1)).Nodup := by
  induction xs generalizing vs with
  | nil => simp
  | cons y xs ih =>
    rw [List.nodup_cons] at hn
    cases vs with
    | nil => simp
    | cons v vs =>
      rw [List.zip_cons_cons, List.map_cons, List.nodup_cons]
      refine ⟨fun hm => ?_, ih hn.2 vs⟩
      obtain ⟨⟨a, b⟩, hab, e⟩ := List.mem_map.mp hm
      dsimp only at e; subst e
      exact hn.1 (List.of_mem_zip hab).1
theorem lookup_rev {α : Type} {xs : List Str} {vs : List α} {x : Str} {v : α} (hn : xs.Nodup) (h : (xs.zip vs).lookup x = some v) : (xs.zip vs).reverse.lookup x = some v := by
  refine lookup_of_mem ?_ (List.mem_reverse.mpr (mem_of_lookup h))
  rw [List.map_reverse]
  exact List.pairwise_reverse.mpr ((zip_fst_nodup hn vs).imp Ne.symm)

/-- enter a def without cells -/
theorem enterFnX {w : World} {A : Around} {h₀ : Heap} {ps : List PV} {r : PV} {n : Nat} (X : List Addr)
    {name qual : Str} {params : Arguments} {body : List Stmt} {scope : Scope} {dV kV doc pm cdv ct oc : Value} {an od : Option Addr} {osl : Array (Option Value)} {f : Addr}
    (B : Base w h₀) (K : Ok (n + 1) A)
    (ho : (frag w.params).lookup f = some ⟨oc, od, .func (fnOf name qual params body scope dV kV doc pm an cdv ct), osl⟩) (hcd : codeIn (frag w.params) cdv qual = true)
    (hbind : ∀ vs : List Value, vs.length = ps.length → bindArgs (fnOf name qual params body scope dV kV doc pm an cdv ct) ⟨vs, []⟩ = pure ((params.args.map (·.arg)).zip vs))
    (hloc : ∀ y ∈ params.args.map (·.arg), scope.names.lookup y = some .local) (hnd : (params.args.map (·.arg)).Nodup)
    (h : ∀ h L A', Base w h → Ok n A' → Live X h → Tr PySem.Challenge.rw_un0038_01.row.prog w A' (envOf qual scope L f cdv) h X (bindP params.args ps) body (fun pf _ => pf = .ret r))
    (hco : scope.isCoroutine = false := by rfl) (hgen : scope.isGenerator = false := by rfl) (hk : scope.kind = .function := by rfl)
    (hcell : ∀ x ∈ scope.names, x.2 ≠ .cell := by decide) : ∀ s vs, (∀ b o, h₀.get? b = some o → s.heap.get? b = some o) → Live X s.heap → Reps s.heap X vs ps → wpAny (model PySem.Challenge.rw_un0038_01.row.prog w) A (call (.ref f) vs) (fun v s' => Keeps s s' ∧ Rep s'.heap X v r) (fun _ _ => False) s := fun s vs hs L hr => by
  have B' := B.keeps hs
  obtain ⟨mean, mg, mb, T⟩ := B'.T
  refine wpAny_call (codeAny_call_def (fd := fnOf name qual params body scope dV kV doc pm an cdv ct) (body := body) (binds := (params.args.map (·.arg)).zip vs) (by have := K.dp; omega) (B'.X _ _ ho) rfl T.nolimit (codeRec_of B'.X hcd) rfl
    (BindsTo.of_eq (hbind vs hr.1)) hcell (fun x hx => hloc _ (List.of_mem_zip hx).1) (fun h₁ hns hk₁ => ?_) hco hgen hk)
  have S : Sit (envOf qual scope s.heap.objs.size f cdv) (bindP params.args ps) (s.heap.objs.size :: X) s.heap h₁ := {
    kind := hk
    glob := rfl
    blt := rfl
    keep := hk₁
    live := fun x hx => by
      rcases List.mem_cons.mp hx with rfl | hx
      · obtain ⟨o, _, _, e, _⟩ := hns; exact ⟨o, e⟩
      · obtain ⟨o, e⟩ := L x hx; exact ⟨o, hk₁ _ _ e⟩
    loc := List.mem_cons_self
    locN := get_size _
    ns := ⟨_, hns⟩
    cel := fun x c e => by simp [envOf] at e
    inj := fun x y c e => by simp [envOf] at e
    val := fun x p e => by
      obtain ⟨v, hv, hrep⟩ := zip_reps hr x p e
      have hm : x ∈ params.args.map (·.arg) := (List.of_mem_zip (mem_of_lookup hv)).1
      refine ⟨v, .inl ⟨hloc x hm, _, hns, ?_⟩, hrep.map fun a o ha ho => ⟨fun q => ?_, hk₁ a o ho⟩⟩
      · exact lookup_rev hnd hv
      · rcases List.mem_cons.mp q with rfl | q
        · rw [get_size] at ho; cases ho
        · exact ha q
    own := fun x l e => by
      exfalso
      have := lookup_mem' e
      have := (List.of_mem_zip this).2
      simp at this }
  refine wpAny_mono (h s.heap s.heap.objs.size _ B' K.deeper L (s.heap.objs.size :: X) _ (fun x hx => List.mem_cons_of_mem _ hx) S) (fun fl s' e => ?_) fun _ _ x => x.elim
  obtain ⟨⟨h', tk, rfl⟩, _, pf, ρ', X', rfl, _, S', _, hf⟩ := e
  cases fl with
  | ret v => exact ⟨⟨h', tk, rfl, S'.keep⟩, hf⟩
  | next => exact hf.elim
  | brk => exact hf.elim
  | cont => exact hf.elim


theorem enterFn {w : World} {A : Around} {h₀ : Heap} {ps : List PV} {r : PV} {n : Nat}
    {name qual : Str} {params : Arguments} {body : List Stmt} {scope : Scope} {dV kV doc pm cdv ct oc : Value} {an od : Option Addr} {osl : Array (Option Value)} {f : Addr}
    (B : Base w h₀) (K : Ok (n + 1) A)
    (ho : (frag w.params).lookup f = some ⟨oc, od, .func (fnOf name qual params body scope dV kV doc pm an cdv ct), osl⟩) (hcd : codeIn (frag w.params) cdv qual = true)
    (hbind : ∀ vs : List Value, vs.length = ps.length → bindArgs (fnOf name qual params body scope dV kV doc pm an cdv ct) ⟨vs, []⟩ = pure ((params.args.map (·.arg)).zip vs))
    (hloc : ∀ y ∈ params.args.map (·.arg), scope.names.lookup y = some .local) (hnd : (params.args.map (·.arg)).Nodup)
    (h : ∀ h L X A', Base w h → Ok n A' → Live X h → Tr PySem.Challenge.rw_un0038_01.row.prog w A' (envOf qual scope L f cdv) h X (bindP params.args ps) body (fun pf _ => pf = .ret r))
    (hco : scope.isCoroutine = false := by rfl) (hgen : scope.isGenerator = false := by rfl) (hk : scope.kind = .function := by rfl)
    (hcell : ∀ x ∈ scope.names, x.2 ≠ .cell := by decide) : FnD PySem.Challenge.rw_un0038_01.row.prog w A h₀ f ps r :=
  fun X => enterFnX X B K ho hcd hbind hloc hnd (fun h' L A' a b c => h h' L X A' a b c) hco hgen hk hcell

theorem bind1 {fd : FuncData} {names : List Str} {p : PV} (h : ∀ v, bindArgs fd ⟨[v], []⟩ = pure (names.zip [v])) : ∀ vs : List Value, vs.length = [p].length → bindArgs fd ⟨vs, []⟩ = pure (names.zip vs) := fun vs e => by
  match vs, e with
  | [v], _ => exact h v
theorem bind2 {fd : FuncData} {names : List Str} {p q : PV} (h : ∀ v u, bindArgs fd ⟨[v, u], []⟩ = pure (names.zip [v, u])) : ∀ vs : List Value, vs.length = [p, q].length → bindArgs fd ⟨vs, []⟩ = pure (names.zip vs) := fun vs e => by
  match vs, e with
  | [v, u], _ => exact h v u
local macro_rules | `(tactic| walk_at "m_enter") => `(tactic| (
  refine' enterFn ?kB ?kK ?ho ?hcd ?hbind ?hloc ?hnd ?_ ?h1 ?h2 ?h3 ?h4
  (case kB => assumption)
  (case kK => assumption)
  (case ho => k_is)
  (case hcd => k_is)
  (case hloc => decide)
  (case hnd => decide)
  (case h1 => rfl)
  (case h2 => rfl)
  (case h3 => rfl)
  (case h4 => decide)
  (case hbind => first | (refine bind1 fun v => ?_; kernel_rfl) | (refine bind2 fun v u => ?_; kernel_rfl))))

theorem Base.glob {w : World} {h : Heap} {x : Str} {v : Value} (B : Base w h) (e : nsIn (frag w.params) mainGlobals x = some (some v)) : Glob h x v :=
  let ⟨_, _, _, T⟩ := B.T; .inl ⟨_, T.g, mg_of B.X T.g e⟩
theorem Base.blt {w : World} {h : Heap} {x : Str} {v : Value} (B : Base w h) (e : nsIn (frag w.params) mainGlobals x = some Option.none) (hv : bootBuiltins x = some v) (hn : x ≠ "__name__" := by decide) : Glob h x v :=
  let ⟨_, _, _, T⟩ := B.T; .inr ⟨_, _, T.g, mg_none_of B.X T.g e, T.b, (T.builtins x hn).trans hv⟩
theorem Base.fn {w : World} {h : Heap} {f : Addr} {oc : Value} {od : Option Addr} {fd : FuncData} {osl : Array (Option Value)} (B : Base w h) (e : (frag w.params).lookup f = some ⟨oc, od, .func fd, osl⟩) : IsFun h f :=
  ⟨_, fd, B.X _ _ e, rfl⟩

theorem S_IFMT_c {w : World} {A : Around} {h₀ : Heap} {m : Int} (B : Base w h₀) (K : Ok 1 A) : FnD PySem.Challenge.rw_un0038_01.row.prog w A h₀ 134 [.int m] (.int (Builtin.bitAnd m 61440)) := by
  walk_at "m_enter"
  intro h L X A' B' K' hL
  refine Tr.cons (TrS.ret (Ev.binop (Ev.var rfl) Ev.int Op2.andI) rfl)

/-- what every walk asks -/
local macro_rules | `(tactic| walk_at "m_glob") => `(tactic| first
  | exact Base.glob (by assumption) (by k_is)
  | exact Base.blt (by assumption) (by k_is) (by kernel_rfl) (by decide))
local macro_rules | `(tactic| walk_at "m_fun") => `(tactic| exact Base.fn (by assumption) (by k_is))

theorem fspath_c {w : World} {A : Around} {h₀ : Heap} {x : Str} (B : Base w h₀) (K : Ok 1 A) : FnD PySem.Challenge.rw_un0038_01.row.prog w A h₀ 94 [.str x] (.str x) := by
  walk_at "m_enter"
  intro h L X A' B' K' hL
  refine Tr.cons (TrS.assign (Ev.callTy (T := "type") (by walk_at "m_glob") (EvA.cons (Ev.var rfl) EvA.nil) Fn.typeStr) ?_ (.inl rfl))
  refine Tr.cons (TrS.ite (EvT.plain (Ev.callB (id := "issubclass") (by walk_at "m_glob") (EvA.cons (Ev.var rfl) (EvA.cons (Ev.tuple (EvA.cons (Ev.globP (v := .type "str") (by walk_at "m_glob") (fun _ _ => .ty _)) (EvA.cons (Ev.globP (v := .type "bytes") (by walk_at "m_glob") (fun _ _ => .ty _)) EvA.nil))) EvA.nil)) Fn.issubStr) Tru.bool) (fun _ => ?_) (fun q => by cases q))
  exact Tr.cons (TrS.ret (Ev.var rfl) rfl)

theorem get_sep_c {w : World} {A : Around} {h₀ : Heap} {x : Str} (B : Base w h₀) (K : Ok 1 A) : FnD PySem.Challenge.rw_un0038_01.row.prog w A h₀ 108 [.str x] (.str (Str.ofString "/")) := by
  walk_at "m_enter"
  intro h L X A' B' K' hL
  refine Tr.cons (TrS.ite (EvT.plain (Ev.callB (id := "isinstance") (by walk_at "m_glob") (EvA.cons (Ev.var rfl) (EvA.cons (Ev.globP (v := .type "bytes") (by walk_at "m_glob") (fun _ _ => .ty _)) EvA.nil)) Fn.isiBytes) Tru.bool) (fun q => by cases q) (fun _ => ?_))
  exact Tr.cons (TrS.ret Ev.str rfl)

-- C2
section
open PySem PySem.W PyProof.Rows PySem.Calls
set_option maxRecDepth 100000
set_option maxHeartbeats 8000000
theorem warm2 : PySem.Challenge.rw_un0038_01 = PySem.Challenge.rw_un0038_01 ∧ frag = frag := by
  k_fill
  exact ⟨rfl, rfl⟩

noncomputable abbrev sl : Str := Str.ofString "/"
noncomputable def headS (x : Str) : Str := Txt.slice x none (some (Txt.rfind x sl + 1))
noncomputable def dirS (x : Str) : Str := if ((headS x).length : Int) != 0 && (headS x).cps.toList != (Txt.mul sl ((headS x).length : Int)).cps.toList then Txt.rstripChars (headS x) sl else headS x

theorem headS_le (x : Str) : (headS x).length ≤ x.length := Txt.slice_le _ _ _

theorem mulOk_sl {n : Int} (h0 : 0 ≤ n) (h1 : n ≤ 64) : MulOk sl n := by
  have hl : sl.length = 1 := by decide +kernel
  refine ⟨?_, fun h2 _ => ?_, fun h2 _ => ?_⟩
  · rw [Bool.or_eq_false_iff]; exact ⟨decide_eq_false (by omega), decide_eq_false (by omega)⟩
  · rw [hl]
    have : (1 : Int) ≤ (2 ^ 63 - 1) / n := (Int.le_ediv_iff_mul_le (by omega)).mpr (by omega)
    omega
  · rw [hl]
    unfold Builtin.Str.tooLong
    have := sizeLine_eq
    exact decide_eq_false (by omega)

theorem dirname_c {w : World} {A : Around} {h₀ : Heap} {x : Str} (B : Base w h₀) (K : Ok 2 A) (hx : x.length ≤ 64) : FnD PySem.Challenge.rw_un0038_01.row.prog w A h₀ 122 [.str x] (.str (dirS x)) := by
  have hz := sizeLine_eq
  have hh := headS_le x
  walk_at "m_enter"
  intro h L X A' B' K' hL
  refine Tr.cons (TrS.assign (Ev.callD (by walk_at "m_glob") (by walk_at "m_fun") (EvA.cons (Ev.var rfl) EvA.nil) (fspath_c B' K')) ?_ (.inl rfl))
  refine Tr.cons (TrS.assign (Ev.callD (by walk_at "m_glob") (by walk_at "m_fun") (EvA.cons (Ev.var rfl) EvA.nil) (get_sep_c B' K')) ?_ (.inl rfl))
  refine Tr.cons (TrS.assign (Ev.binop (Ev.callM (Ev.var rfl) (Mth.str PySem.F.slot_str_rfind PySem.F.type_str_rfind) (EvA.cons (Ev.var rfl) EvA.nil) Fn.rfind) Ev.int Op2.addI) ?_ (.inl rfl))
  refine Tr.cons (TrS.assign (Ev.sliceS (Ev.var rfl) EvP.none (EvP.some (Ev.var rfl)) (by omega)) ?_ (.inl rfl))
  refine Tr.cons (TrS.ite (EvT.and (EvT.plain (Ev.var rfl) (Tru.str (by show (headS x).length ≤ _; omega))) (fun _ => EvT.cmp (Ev.var rfl) (Ev.binop (Ev.var rfl) (Ev.callB (by walk_at "m_glob") (EvA.cons (Ev.var rfl) EvA.nil) (Fn.lenStr (by show (headS x).length ≤ _; omega))) (Op2.mulS ?mulok)) Cmp.neS)) (fun q => ?_) (fun q => ?_))
  case mulok => exact mulOk_sl (by omega) (by show ((headS x).length : Int) ≤ 64; omega)
  · refine Tr.cons (TrS.assign (Ev.callM (Ev.var rfl) (Mth.str PySem.F.slot_str_rstrip PySem.F.type_str_rstrip) (EvA.cons (Ev.var rfl) EvA.nil) (Fn.rstrip (by show (headS x).length ≤ _; omega))) ?_ (.inl rfl))
    refine Tr.nil ?_
    refine Tr.cons (TrS.ret (Ev.var rfl) ?_)
    show PF.ret (.str (Txt.rstripChars (headS x) sl)) = _
    exact congrArg (fun z => PF.ret (.str z)) (if_pos q).symm
  · refine Tr.nil ?_
    refine Tr.cons (TrS.ret (Ev.var rfl) ?_)
    show PF.ret (.str (headS x)) = _
    exact congrArg (fun z => PF.ret (.str z)) (if_neg (ne_true_of_eq_false q)).symm
end

-- C3
section
open PySem PySem.W PyProof.Rows PySem.Calls
set_option maxRecDepth 100000
set_option maxHeartbeats 8000000
theorem bindL_off (kf : Str → Option NameKind) {x : Str} : ∀ (binds : List (Str × Value)) (m : Str → Option Value), x ∉ binds.map (·.1) → bindL kf binds m x = m x
  | [], m, _ => rfl
  | (n, v) :: r, m, h => by
    unfold bindL
    rw [bindL_off kf r _ (fun q => h (List.mem_cons_of_mem _ q))]
    have : x ≠ n := fun q => h (by rw [q]; exact List.mem_cons_self)
    split <;> simp [this]
theorem bindC_off (kf : Str → Option NameKind) {x : Str} : ∀ (binds : List (Str × Value)) (m : Str → Option Value), x ∉ binds.map (·.1) → bindC kf binds m x = m x
  | [], m, _ => rfl
  | (n, v) :: r, m, h => by
    unfold bindC
    rw [bindC_off kf r _ (fun q => h (List.mem_cons_of_mem _ q))]
    have : x ≠ n := fun q => h (by rw [q]; exact List.mem_cons_self)
    split <;> simp [this]
theorem bindL_get (kf : Str → Option NameKind) {x : Str} {v : Value} (hk : kf x = some .local) : ∀ (binds : List (Str × Value)) (m : Str → Option Value), (binds.map (·.1)).Nodup → binds.lookup x = some v → bindL kf binds m x = some v
  | [], m, _, h => by simp at h
  | (n, u) :: r, m, hn, h => by
    rw [List.map_cons, List.nodup_cons] at hn
    rw [List.lookup_cons] at h
    unfold bindL
    cases q : x == n with
    | true =>
      rw [q] at h; cases h
      obtain rfl : x = n := by simpa using q
      rw [bindL_off kf r _ hn.1, if_pos hk]; simp
    | false => rw [q] at h; exact bindL_get kf hk r _ hn.2 h
theorem bindC_get (kf : Str → Option NameKind) {x : Str} {v : Value} (hk : kf x = some .cell) : ∀ (binds : List (Str × Value)) (m : Str → Option Value), (binds.map (·.1)).Nodup → binds.lookup x = some v → bindC kf binds m x = some v
  | [], m, _, h => by simp at h
  | (n, u) :: r, m, hn, h => by
    rw [List.map_cons, List.nodup_cons] at hn
    rw [List.lookup_cons] at h
    unfold bindC
    cases q : x == n with
    | true =>
      rw [q] at h; cases h
      obtain rfl : x = n := by simpa using q
      rw [bindC_off kf r _ hn.1, if_neg (by rw [hk]; decide)]; simp
    | false => rw [q] at h; exact bindC_get kf hk r _ hn.2 h

noncomputable def ownCells (cs : List (Str × Addr)) : List Addr := (cs.filter fun q => cs.lookup q.1 == some q.2).map (·.2)
theorem mem_ownCells {cs : List (Str × Addr)} {c : Addr} : c ∈ ownCells cs ↔ ∃ n, cs.lookup n = some c := by
  unfold ownCells
  constructor
  · intro h
    obtain ⟨⟨n, c'⟩, hm, rfl⟩ := List.mem_map.mp h
    exact ⟨n, by simpa using (List.mem_filter.mp hm).2⟩
  · rintro ⟨n, h⟩
    exact List.mem_map.mpr ⟨(n, c), List.mem_filter.mpr ⟨mem_of_lookup h, by simpa using h⟩, rfl⟩

/-- the frame of a def with cells -/
theorem sit_cells {qual : Str} {scope : Scope} {cdv : Value} {f : Addr} {names : List Str} {vs : List Value} {ps : List PV} {X : List Addr} {s s₁ : Shared} {L : Addr} (hLn : s.heap.get? L = Option.none)
    (hr : Reps s.heap X vs ps) (Lv : Live X s.heap)
    (hkind : ∀ y ∈ names, scope.names.lookup y = some .local ∨ (scope.names.lookup y = some .cell ∧ ∀ n, ((cellsFrom n scope.names []).lookup y).isSome = true)) (hnd : names.Nodup)
    (x : InCallC s (envOfC qual scope L f cdv).locals (bindL (envOfC qual scope L f cdv).kindOf (names.zip vs) fun _ => Option.none) (envOfC qual scope L f cdv).cells
        (bindC (envOfC qual scope L f cdv).kindOf (names.zip vs) fun _ => Option.none) s₁) (hfresh : s.heap.objs.size ≤ L) (hk : scope.kind = .function) :
    Sit (envOfC qual scope L f cdv) (names.zip (ps.map .val)) (L :: (ownCells (envOfC qual scope L f cdv).cells ++ X)) s.heap s₁.heap := by
  have cellNew : ∀ n c, (envOfC qual scope L f cdv).cells.lookup n = some c → s.heap.get? c = Option.none := fun n c e => by
    have h1 := x.above n c (mem_of_lookup e)
    cases q : s.heap.get? c with
    | none => rfl
    | some o => exact absurd (Heap.lt_size q) (Nat.not_lt.mpr (Nat.le_of_lt (Nat.lt_of_le_of_lt hfresh h1)))
  exact {
    kind := hk
    glob := rfl
    blt := rfl
    keep := x.toInCall.keep
    live := fun y hy => by
      rcases List.mem_cons.mp hy with rfl | hy
      · obtain ⟨o, _, _, e, _⟩ := x.toInCall.ns; exact ⟨o, e⟩
      · rcases List.mem_append.mp hy with hy | hy
        · obtain ⟨n, e⟩ := mem_ownCells.mp hy
          obtain ⟨o, ho, _⟩ := x.cell n _ e
          exact ⟨o, ho⟩
        · obtain ⟨o, e⟩ := Lv y hy; exact ⟨o, x.toInCall.keep _ _ e⟩
    loc := List.mem_cons_self
    locN := hLn
    ns := ⟨_, x.toInCall.ns⟩
    cel := fun n c e => ⟨List.mem_cons_of_mem _ (List.mem_append.mpr (.inl (mem_ownCells.mpr ⟨n, e⟩))), cellNew n c e, _, x.cell n c e⟩
    inj := fun y z c e e' => name_of_addr x.apart (mem_of_lookup e) (mem_of_lookup e')
    val := fun y p e => by
      obtain ⟨v, hv, hrep⟩ := zip_reps hr y p e
      have hm : y ∈ names := (List.of_mem_zip (mem_of_lookup hv)).1
      have hrep' : Rep s₁.heap (L :: (ownCells (envOfC qual scope L f cdv).cells ++ X)) v p := hrep.map fun a o ha ho => ⟨fun q => by
        rcases List.mem_cons.mp q with rfl | q
        · rw [hLn] at ho; cases ho
        · rcases List.mem_append.mp q with q | q
          · obtain ⟨n, hm⟩ := mem_ownCells.mp q
            have h1 := x.above n _ (mem_of_lookup hm)
            exact absurd (Heap.lt_size ho) (Nat.not_lt.mpr (Nat.le_of_lt (Nat.lt_of_le_of_lt hfresh h1)))
          · exact ha q, x.toInCall.keep a o ho⟩
      have nd := zip_fst_nodup hnd vs
      rcases hkind y hm with hl | ⟨hl, hc⟩
      · exact ⟨v, .inl ⟨hl, _, x.toInCall.ns, bindL_get _ hl _ _ nd hv⟩, hrep'⟩
      · obtain ⟨c, hc'⟩ := Option.isSome_iff_exists.mp (hc (L + 1))
        refine ⟨v, .inr ⟨hl, c, hc', ?_⟩, hrep'⟩
        have := x.cell y c hc'
        rw [bindC_get _ hl _ _ nd hv] at this
        exact this
    own := fun y l e => by
      exfalso
      have := lookup_mem' e
      have := (List.of_mem_zip this).2
      simp at this }

/-- enter a def with cells -/
theorem enterC {w : World} {A : Around} {h₀ : Heap} {ps : List PV} {r : PV} {n : Nat}
    {name qual : Str} {params : Arguments} {body : List Stmt} {scope : Scope} {dV kV doc pm cdv ct oc : Value} {an od : Option Addr} {osl : Array (Option Value)} {f : Addr}
    (B : Base w h₀) (K : Ok (n + 1) A)
    (ho : (frag w.params).lookup f = some ⟨oc, od, .func (fnOf name qual params body scope dV kV doc pm an cdv ct), osl⟩) (hcd : codeIn (frag w.params) cdv qual = true)
    (hbind : ∀ vs : List Value, vs.length = ps.length → bindArgs (fnOf name qual params body scope dV kV doc pm an cdv ct) ⟨vs, []⟩ = pure ((params.args.map (·.arg)).zip vs))
    (hloc : ∀ y ∈ params.args.map (·.arg), scope.names.lookup y = some .local ∨ (scope.names.lookup y = some .cell ∧ ∀ n, ((cellsFrom n scope.names []).lookup y).isSome = true)) (hnd : (params.args.map (·.arg)).Nodup)
    (h : ∀ h L X A', Base w h → Ok n A' → Live X h → Tr PySem.Challenge.rw_un0038_01.row.prog w A' (envOfC qual scope L f cdv) h X (bindP params.args ps) body (fun pf _ => pf = .ret r))
    (hco : scope.isCoroutine = false := by rfl) (hgen : scope.isGenerator = false := by rfl) (hk : scope.kind = .function := by rfl) :
    FnD PySem.Challenge.rw_un0038_01.row.prog w A h₀ f ps r := fun X s vs hs L hr => by
  have B' := B.keeps hs
  obtain ⟨mean, mg, mb, T⟩ := B'.T
  refine wpAny_call (codeAny_call_cells (fd := fnOf name qual params body scope dV kV doc pm an cdv ct) (body := body) (binds := (params.args.map (·.arg)).zip vs) (by have := K.dp; omega) (B'.X _ _ ho) rfl T.nolimit (codeRec_of B'.X hcd) rfl
    (hbind vs hr.1) rfl (fun x hx => (hloc _ (List.of_mem_zip hx).1).imp id fun q => ⟨q.1, q.2 _⟩) (fun s₁ x => ?_) hco hgen hk)
  have S := sit_cells (qual := qual) (scope := scope) (cdv := cdv) (f := f) (L := s.heap.objs.size) (get_size _) hr L hloc hnd x (Nat.le_refl _) hk
  obtain ⟨h₁, tk₁, rfl⟩ := x.toInCall.same
  refine wpAny_mono (h s.heap s.heap.objs.size X _ B' K.deeper L _ _ (fun x hx => List.mem_cons_of_mem _ (List.mem_append.mpr (.inr hx))) S) (fun fl s' e => ?_) fun _ _ x => x.elim
  obtain ⟨⟨h', tk, rfl⟩, _, pf, ρ', X', rfl, _, S', _, hf⟩ := e
  cases fl with
  | ret v => exact ⟨⟨h', tk, rfl, S'.keep⟩, hf⟩
  | next => exact hf.elim
  | brk => exact hf.elim
  | cont => exact hf.elim
end

-- C4
section
open PySem PySem.W PyProof.Rows PySem.Calls
set_option maxRecDepth 100000
set_option maxHeartbeats 8000000
/-- the binding of arguments makes objects or reads some -/
noncomputable def BindsP (prog : Program) (w : World) (fd : FuncData) (ps : List PV) (names : List Str) (qs : List PV) : Prop :=
  ∀ A X s (vs : List Value) (Q : List (Str × Value) → Shared → Prop) (E : Value → Shared → Prop), Base w s.heap → Live X s.heap → Reps s.heap X vs ps →
    (∀ h' tk us, (∀ b o, s.heap.get? b = some o → h'.get? b = some o) → Reps h' X us qs → Q (names.zip us) { s with heap := h', toks := tk }) → wpAny (model prog w) A (bindArgs fd ⟨vs, []⟩) Q E s

theorem enterV {w : World} {A : Around} {h₀ : Heap} {ps qs : List PV} {names : List Str} {r : PV} {n : Nat}
    {name qual : Str} {params : Arguments} {body : List Stmt} {scope : Scope} {dV kV doc pm cdv ct oc : Value} {an od : Option Addr} {osl : Array (Option Value)} {f : Addr}
    (B : Base w h₀) (K : Ok (n + 1) A)
    (ho : (frag w.params).lookup f = some ⟨oc, od, .func (fnOf name qual params body scope dV kV doc pm an cdv ct), osl⟩) (hcd : codeIn (frag w.params) cdv qual = true)
    (hbind : BindsP PySem.Challenge.rw_un0038_01.row.prog w (fnOf name qual params body scope dV kV doc pm an cdv ct) ps names qs)
    (hloc : ∀ y ∈ names, scope.names.lookup y = some .local) (hnd : names.Nodup)
    (h : ∀ h L X A', Base w h → Ok n A' → Live X h → Tr PySem.Challenge.rw_un0038_01.row.prog w A' (envOf qual scope L f cdv) h X (names.zip (qs.map .val)) body (fun pf _ => pf = .ret r))
    (hco : scope.isCoroutine = false := by rfl) (hgen : scope.isGenerator = false := by rfl) (hk : scope.kind = .function := by rfl)
    (hcell : ∀ x ∈ scope.names, x.2 ≠ .cell := by decide) : FnD PySem.Challenge.rw_un0038_01.row.prog w A h₀ f ps r := fun X s vs hs L hr => by
  have B' := B.keeps hs
  obtain ⟨mean, mg, mb, T⟩ := B'.T
  refine wpAny_call (codeAny_call_function (fd := fnOf name qual params body scope dV kV doc pm an cdv ct) (body := body) (by have := K.dp; omega) (B'.X _ _ ho) rfl hco hgen rfl (codeRec_of B'.X hcd)
    (hbind _ X s vs _ _ B' L hr fun h₁ tk₁ us hk₁ hus => ?_))
  have L₁ : Live X h₁ := Live.keeps L hk₁
  have B₁ := B'.keeps hk₁
  refine wpAny_newFunctionEnv hcell (fun x hx => hloc _ (List.of_mem_zip hx).1) (fun h₂ hns hsb => ⟨(T.nolimit.keeps hk₁).fresh _ hsb, codeAny_func ?_⟩) hk
  have hk₂ : ∀ b o, h₁.get? b = some o → h₂.get? b = some o := fun b o e => hsb.extBut b o (Nat.ne_of_lt (Heap.lt_size e)) (Heap.get?_push_of_some _ e)
  have S : Sit (envOf qual scope h₁.objs.size f cdv) (names.zip (qs.map .val)) (h₁.objs.size :: X) h₁ h₂ := {
    kind := hk
    glob := rfl
    blt := rfl
    keep := hk₂
    live := fun x hx => by
      rcases List.mem_cons.mp hx with rfl | hx
      · obtain ⟨o, _, _, e, _⟩ := hns; exact ⟨o, e⟩
      · obtain ⟨o, e⟩ := L₁ x hx; exact ⟨o, hk₂ _ _ e⟩
    loc := List.mem_cons_self
    locN := get_size _
    ns := ⟨_, hns⟩
    cel := fun x c e => by simp [envOf] at e
    inj := fun x y c e => by simp [envOf] at e
    val := fun x p e => by
      obtain ⟨v, hv, hrep⟩ := zip_reps hus x p e
      have hm : x ∈ names := (List.of_mem_zip (mem_of_lookup hv)).1
      refine ⟨v, .inl ⟨hloc x hm, _, hns, ?_⟩, hrep.map fun a o ha ho => ⟨fun q => ?_, hk₂ a o ho⟩⟩
      · exact lookup_rev hnd hv
      · rcases List.mem_cons.mp q with rfl | q
        · rw [get_size] at ho; cases ho
        · exact ha q
    own := fun x l e => by
      exfalso
      have := lookup_mem' e
      have := (List.of_mem_zip this).2
      simp at this }
  refine wpAny_mono (h h₁ h₁.objs.size X _ B₁ K.deeper L₁ (h₁.objs.size :: X) _ (fun x hx => List.mem_cons_of_mem _ hx) S) (fun fl s' e => ?_) fun _ _ x => x.elim
  obtain ⟨⟨h', tk, rfl⟩, _, pf, ρ', X', rfl, _, S', _, hf⟩ := e
  cases fl with
  | ret v => exact ⟨⟨h', tk, rfl, fun b o e => S'.keep b o (hk₁ b o e)⟩, hf⟩
  | next => exact hf.elim
  | brk => exact hf.elim
  | cont => exact hf.elim

/-- a vararg behind one parameter, two arguments -/
theorem binds_var {prog : Program} {w : World} {fd : FuncData} {p q : PV} {na np : Str} (h : ∀ v u, bindArgs fd ⟨[v, u], []⟩ = (newTuple [u] >>= fun t => pure [(na, v), (np, t)])) : BindsP prog w fd [p, q] [na, np] [p, .tuple [q]] := fun A X s vs Q E B L hr hQ => by
  obtain ⟨v, u, rfl, hv, hu⟩ := hr.two
  rw [h]
  refine wpAny_bind (wpAny_newObj_type ?_ (by size_fits))
  refine wpAny_pure ?_
  have := hQ (s.heap.push { cls := .type "tuple", data := .seq [u].toArray }) s.toks [v, .ref s.heap.objs.size] (fun b o e => Heap.get?_push_of_some _ e)
    (Reps.cons (hv.keeps fun b o e => Heap.get?_push_of_some _ e) (Reps.cons (.tuple (Live.fresh L (get_size _)) ⟨_, Heap.get?_push_size _ rfl, rfl, _, rfl⟩ rfl fun i v p h1 h2 => (Reps.cons hu Reps.nil).2 i v p h1 h2 |>.keeps fun b o e => Heap.get?_push_of_some _ e) Reps.nil))
  exact this

section
variable {prog : Program} {w : World} {A : Around} {env : Env} {h₀ : Heap} {X₀ : List Addr} {ρ : PEnv} {Q : PF → PEnv → Prop}
theorem Op2I.addS {x y : Str} (hsz : x.length + y.length ≤ sizeLine) : Op2I prog w A .Add (.str x) (.str y) (.str (x ++ y)) := fun X s va vb L ha hb => by
  cases ha with
  | str _ t => cases hb with
    | str _ u => exact PySem.SB.iadd (fun t' k => ⟨Kp.tok s _, .str _ _⟩) hsz
/-- a try whose body raises nothing -/
theorem TrS.try {body orelse : List Stmt} {hd : ExceptHandler} {hs : List ExceptHandler} {pos : Pos} (h : Tr prog w A env h₀ X₀ ρ body (Seq prog w A env h₀ X₀ orelse Q)) : TrS prog w A env h₀ X₀ ρ (.Try body (hd :: hs) orelse [] pos) Q := fun X s hX S =>
  wpAny_Try_except (wpAny_mono (h X s hX S) (fun f s₁ e => by
    obtain ⟨hs, hk, pf, ρ', X', hq, h0, hS, hx, hf⟩ := e
    cases f with
    | next => cases pf with
      | next => exact wpAny_mono (hq X' s₁ h0 hS) (fun f s₂ e => e.after hs hk hx) fun _ _ x => x
      | brk => exact hf.elim
      | cont => exact hf.elim
      | ret p => exact hf.elim
    | brk => cases pf with
      | brk => exact ⟨hs, hk, .brk, ρ', X', hq, h0, hS, hx, hf⟩
      | next => exact hf.elim
      | cont => exact hf.elim
      | ret p => exact hf.elim
    | cont => cases pf with
      | cont => exact ⟨hs, hk, .cont, ρ', X', hq, h0, hS, hx, hf⟩
      | next => exact hf.elim
      | brk => exact hf.elim
      | ret p => exact hf.elim
    | ret v => cases pf with
      | ret p => exact ⟨hs, hk, .ret p, ρ', X', hq, h0, hS, hx, hf⟩
      | next => exact hf.elim
      | brk => exact hf.elim
      | cont => exact hf.elim) fun _ _ x => x.elim)
end

theorem warm4 : PySem.Challenge.rw_un0038_01 = PySem.Challenge.rw_un0038_01 ∧ frag = frag := by
  k_fill
  exact ⟨rfl, rfl⟩

noncomputable def joinS (a b : Str) : Str := if Txt.startswith b sl || !((a.length : Int) != 0) then b else if Txt.endswith a sl then a ++ b else a ++ (sl ++ b)

theorem join_c {w : World} {A : Around} {h₀ : Heap} {a b : Str} (B : Base w h₀) (K : Ok 2 A) (ha : a.length ≤ 64) (hb : b.length ≤ 64) : FnD PySem.Challenge.rw_un0038_01.row.prog w A h₀ 115 [.str a, .str b] (.str (joinS a b)) := by
  have hz := sizeLine_eq
  refine' enterV (names := [Str.ofString "a", Str.ofString "p"]) (qs := [.str a, .tuple [.str b]]) ?kB ?kK ?ho ?hcd ?hbind ?hloc ?hnd ?_ ?h1 ?h2 ?h3 ?h4
  (case kB => assumption)
  (case kK => assumption)
  (case ho => k_is)
  (case hcd => k_is)
  (case hloc => decide)
  (case hnd => decide)
  (case h1 => rfl)
  (case h2 => rfl)
  (case h3 => rfl)
  (case h4 => decide)
  (case hbind => exact binds_var fun v u => by kernel_rfl)
  intro h L X A' B' K' hL
  refine Tr.cons (TrS.assign (Ev.callD (by walk_at "m_glob") (by walk_at "m_fun") (EvA.cons (Ev.var rfl) EvA.nil) (fspath_c B' K')) ?_ (.inl rfl))
  refine Tr.cons (TrS.assign (Ev.callD (by walk_at "m_glob") (by walk_at "m_fun") (EvA.cons (Ev.var rfl) EvA.nil) (get_sep_c B' K')) ?_ (.inl rfl))
  refine Tr.cons (TrS.assign (Ev.var rfl) ?_ (.inl rfl))
  refine Tr.cons (TrS.try ?_)
  refine Tr.cons (TrS.for (l := [.str b]) (fun i ρ => (i = 0 → Has ρ [(Str.ofString "sep", .val (.str sl)), (Str.ofString "path", .val (.str a))]) ∧ (i = 1 → Has ρ [(Str.ofString "path", .val (.str (joinS a b)))])) (EvIt.tuple (Ev.var rfl) K'.hn) (.inl rfl) ⟨fun _ => Has.cons rfl (Has.cons rfl Has.nil), fun q => by cases q⟩ ?_ ?_)
  · intro i p ρ' hp hI
    have hi : i = 0 := by
      cases i with
      | zero => rfl
      | succ i => simp at hp
    subst hi
    obtain rfl : p = .str b := by simpa using hp.symm
    refine Tr.has (l := [(Str.ofString "b", .val (.str b)), (Str.ofString "sep", .val (.str sl)), (Str.ofString "path", .val (.str a))]) (Has.cons rfl (Has.cons ((hI.1 rfl).sub _ _ rfl) (Has.cons ((hI.1 rfl).sub _ _ rfl) Has.nil))) ?_
    refine Tr.cons (TrS.assign (Ev.callD (by walk_at "m_glob") (by walk_at "m_fun") (EvA.cons (Ev.var rfl) EvA.nil) (fspath_c B' K')) ?_ (.inl rfl))
    have fin : ∀ {x : Str} {ρ : PEnv}, x = joinS a b → ρ.lookup (Str.ofString "path") = some (.val (.str x)) → (1 = 0 → Has ρ [(Str.ofString "sep", .val (.str sl)), (Str.ofString "path", .val (.str a))]) ∧ (1 = 1 → Has ρ [(Str.ofString "path", .val (.str (joinS a b)))]) := fun hx h => ⟨fun q => (by cases q), fun _ => Has.cons (by rw [h, hx]) Has.nil⟩
    refine Tr.cons (TrS.ite (EvT.or (EvT.plain (Ev.callM (Ev.var rfl) (Mth.str PySem.F.slot_str_startswith PySem.F.type_str_startswith) (EvA.cons (Ev.var rfl) EvA.nil) Fn.startswith) Tru.bool) (fun _ => EvT.not (EvT.plain (Ev.var rfl) (Tru.str (by omega))))) (fun q => ?_) (fun q => ?_))
    · refine Tr.cons (TrS.assign (Ev.var rfl) ?_ (.inl rfl))
      exact Tr.nil (Tr.nil (fin (by unfold joinS; rw [if_pos q]) rfl))
    · refine Tr.cons (TrS.ite (EvT.plain (Ev.callM (Ev.var rfl) (Mth.str PySem.F.slot_str_endswith PySem.F.type_str_endswith) (EvA.cons (Ev.var rfl) EvA.nil) Fn.endswith) Tru.bool) (fun q2 => ?_) (fun q2 => ?_))
      · refine Tr.cons (TrS.aug (a := .str a) (b := .str b) rfl (Ev.var rfl) (Op2I.addS (by omega)) ?_ (.inl rfl))
        exact Tr.nil (Tr.nil (Tr.nil (fin (by unfold joinS; rw [if_neg (ne_true_of_eq_false q), if_pos q2]) rfl)))
      · have hsl : sl.length = 1 := by decide +kernel
        refine Tr.cons (TrS.aug (a := .str a) (b := .str (sl ++ b)) rfl (Ev.binop (Ev.var rfl) (Ev.var rfl) (Op2.addS (by rw [hsl]; omega))) (Op2I.addS (by rw [Str.length_append, hsl]; omega)) ?_ (.inl rfl))
        exact Tr.nil (Tr.nil (Tr.nil (fin (by unfold joinS; rw [if_neg (ne_true_of_eq_false q), if_neg (ne_true_of_eq_false q2)]) rfl)))
  · intro ρ' hI
    refine Tr.nil (Tr.nil (Tr.nil ?_))
    exact Tr.cons (TrS.ret (Ev.var ((hI.2 rfl).sub _ _ rfl)) rfl)
end

-- C5
section
open PySem PySem.W PyProof.Rows PySem.Calls
set_option maxRecDepth 100000
set_option maxHeartbeats 8000000
theorem warm5 : PySem.Challenge.rw_un0038_01 = PySem.Challenge.rw_un0038_01 ∧ frag = frag := by
  k_fill
  exact ⟨rfl, rfl⟩
noncomputable def dedStep (acc : List PV) (p : PV) : List PV := if acc.any (fun q => pvEq q p) then acc else acc ++ [p]
noncomputable def dedP (l : List PV) : List PV := l.foldl dedStep []
theorem dedP_take {l : List PV} {i : Nat} {p : PV} (h : l[i]? = some p) : dedP (l.take (i + 1)) = dedStep (dedP (l.take i)) p := by
  unfold dedP
  rw [List.take_add_one, h, List.foldl_append]; rfl
theorem dedStep_mem {acc : List PV} {p q : PV} (h : q ∈ dedStep acc p) : q ∈ acc ∨ q = p := by
  unfold dedStep at h
  split at h
  · exact .inl h
  · rcases List.mem_append.mp h with h | h
    · exact .inl h
    · exact .inr (List.mem_singleton.mp h)
theorem dedStep_len (acc : List PV) (p : PV) : (dedStep acc p).length ≤ acc.length + 1 := by
  unfold dedStep
  split
  · omega
  · simp
theorem dedP_mem {l : List PV} {q : PV} (h : q ∈ dedP l) : q ∈ l := by
  have key : ∀ (l acc : List PV), q ∈ l.foldl dedStep acc → q ∈ acc ∨ q ∈ l := by
    intro l
    induction l with
    | nil => intro acc h; exact .inl h
    | cons p l ih =>
      intro acc h
      rcases ih _ h with h | h
      · rcases dedStep_mem h with h | h
        · exact .inl h
        · exact .inr (by rw [h]; exact List.mem_cons_self)
      · exact .inr (List.mem_cons_of_mem _ h)
  exact (key l [] h).resolve_left (by simp)
theorem dedP_len (l : List PV) : (dedP l).length ≤ l.length := by
  have key : ∀ (l acc : List PV), (l.foldl dedStep acc).length ≤ acc.length + l.length := by
    intro l
    induction l with
    | nil => intro acc; simp
    | cons p l ih =>
      intro acc
      have := ih (dedStep acc p)
      have := dedStep_len acc p
      rw [List.foldl_cons, List.length_cons]
      omega
  have := key l []
  simpa [dedP] using this
theorem alike_mem {l l' k : List PV} {p : PV} (h : Alike l l') (hp : p ∈ l) (hk : ∀ q ∈ k, q ∈ l) : Alike k [p] := by
  rcases h with ⟨h1, h2⟩ | ⟨h1, h2⟩
  · exact .inl ⟨List.all_eq_true.mpr fun q hq => List.all_eq_true.mp h1 q (hk q hq), by simpa using List.all_eq_true.mp h1 p hp⟩
  · exact .inr ⟨List.all_eq_true.mpr fun q hq => List.all_eq_true.mp h1 q (hk q hq), by simpa using List.all_eq_true.mp h1 p hp⟩

theorem ded_c {w : World} {A : Around} {h₀ : Heap} {l : List PV} (B : Base w h₀) (K : Ok 1 A) (ha : Alike l l) (hl : l.length ≤ 64) : FnD PySem.Challenge.rw_un0038_01.row.prog w A h₀ 189 [.list l] (.list (dedP l)) := by
  have hz := sizeLine_eq
  walk_at "m_enter"
  intro h L X A' B' K' hL
  refine Tr.cons (TrS.assignOwn EvNew.nil ?_ (.inl rfl))
  refine Tr.cons (TrS.for (l := l) (fun i ρ => Has ρ [(Str.ofString "new_unhashable", .own (dedP (l.take i)))]) (EvIt.list (Ev.var rfl) K'.hn) (.inl rfl) (Has.cons rfl Has.nil) ?_ ?_)
  · intro i p ρ' hp hI
    have hlt : i < l.length := (List.getElem?_eq_some_iff.mp hp).1
    have hlen : (dedP (l.take i)).length ≤ 64 := Nat.le_trans (dedP_len _) (by rw [List.length_take]; omega)
    refine Tr.has (l := [(Str.ofString "t", .val p), (Str.ofString "new_unhashable", .own (dedP (l.take i)))]) (Has.cons rfl (Has.cons (hI.sub _ _ rfl) Has.nil)) ?_
    have hal : Alike (dedP (l.take i)) [p] := alike_mem ha (List.mem_of_getElem? hp) fun q hq => List.mem_of_mem_take (dedP_mem hq)
    refine Tr.cons (TrS.ite (EvT.cmpL (Ev.var rfl) (EvL.own rfl) (CmpL.notIn hal)) (fun q => ?_) (fun q => ?_))
    · refine Tr.cons (TrS.append rfl (Ev.var rfl) ?_ (by omega))
      refine Tr.nil (Tr.nil ?_)
      show Has _ _
      rw [dedP_take hp]
      refine Has.cons ?_ Has.nil
      unfold dedStep
      rw [if_neg (by simpa using q)]
      rfl
    · refine Tr.nil (Tr.nil ?_)
      show Has _ _
      rw [dedP_take hp]
      refine Has.cons ?_ Has.nil
      unfold dedStep
      rw [if_pos (by simpa using q)]
      rfl
  · intro ρ' hI
    rw [List.take_length] at hI
    refine Tr.nil ?_
    refine Tr.freeze (x := Str.ofString "new_unhashable") hL (hI.sub _ _ rfl) ?_
    exact Tr.cons (TrS.ret (Ev.var rfl) rfl)
end

-- C6
section
open PySem PySem.W PyProof.Rows PySem.Calls
set_option maxRecDepth 100000
set_option maxHeartbeats 8000000
theorem warm6 : PySem.Challenge.rw_un0038_01 = PySem.Challenge.rw_un0038_01 ∧ frag = frag := by
  k_fill
  exact ⟨rfl, rfl⟩
noncomputable def mergeStep (r : List Int × Int) (o : Int) : List Int × Int := if (Builtin.bitAnd o r.2 != 0) = true then (r.1, Builtin.bitOr r.2 o) else (r.1 ++ [o], r.2)
noncomputable def heapStep (hs : List Int) (w : Int) : List Int := (hs.foldl mergeStep ([], w)).1 ++ [(hs.foldl mergeStep ([], w)).2]
noncomputable def heapsP (l : List Int) : List Int := l.foldl heapStep []
theorem mergeStep_len (hs : List Int) (r : List Int × Int) : (hs.foldl mergeStep r).1.length ≤ r.1.length + hs.length := by
  induction hs generalizing r with
  | nil => simp
  | cons o hs ih =>
    have := ih (mergeStep r o)
    have h2 : (mergeStep r o).1.length ≤ r.1.length + 1 := by
      unfold mergeStep
      split
      · exact Nat.le_succ _
      · simp
    rw [List.foldl_cons, List.length_cons]
    omega
theorem heapStep_len (hs : List Int) (w : Int) : (heapStep hs w).length ≤ hs.length + 1 := by
  have := mergeStep_len hs ([], w)
  unfold heapStep
  simp at this ⊢
  omega
theorem heapsP_len (l : List Int) : (heapsP l).length ≤ l.length := by
  have key : ∀ (l acc : List Int), (l.foldl heapStep acc).length ≤ acc.length + l.length := by
    intro l
    induction l with
    | nil => intro acc; simp
    | cons p l ih =>
      intro acc
      have := ih (heapStep acc p)
      have := heapStep_len acc p
      rw [List.foldl_cons, List.length_cons]
      omega
  have := key l []
  simpa [heapsP] using this
theorem foldl_take {α β : Type} (f : β → α → β) (b : β) {l : List α} {i : Nat} {p : α} (h : l[i]? = some p) : (l.take (i + 1)).foldl f b = f ((l.take i).foldl f b) p := by
  rw [List.take_add_one, h, List.foldl_append]; rfl
theorem map_get {l : List Int} {i : Nat} {p : PV} (h : (l.map PV.int)[i]? = some p) : ∃ x, l[i]? = some x ∧ p = .int x := by
  rw [List.getElem?_map] at h
  cases e : l[i]? with
  | none => rw [e] at h; cases h
  | some x => rw [e] at h; cases h; exact ⟨x, rfl, rfl⟩

theorem heaps_c {w : World} {A : Around} {h₀ : Heap} {l : List Int} (B : Base w h₀) (K : Ok 1 A) (hl : l.length ≤ 64) : FnD PySem.Challenge.rw_un0038_01.row.prog w A h₀ 215 [.list (l.map .int)] (.int (heapsP l).length) := by
  have hz := sizeLine_eq
  walk_at "m_enter"
  intro h L X A' B' K' hL
  refine Tr.cons (TrS.assign (p := .list (([] : List Int).map .int)) (Ev.list EvA.nil) ?_ (.inl rfl))
  refine Tr.cons (TrS.for (l := l.map .int) (fun i ρ => Has ρ [(Str.ofString "heaps", .val (.list ((heapsP (l.take i)).map .int)))]) (EvIt.list (Ev.var rfl) K'.hn) (.inl rfl) (Has.cons rfl Has.nil) ?_ ?_)
  · intro i p ρ' hp hI
    obtain ⟨x, hx, rfl⟩ := map_get hp
    have hlt : i < l.length := (List.getElem?_eq_some_iff.mp hx).1
    have hlen : (heapsP (l.take i)).length ≤ 64 := Nat.le_trans (heapsP_len _) (by rw [List.length_take]; omega)
    refine Tr.has (l := [(Str.ofString "whole", .val (.int x)), (Str.ofString "heaps", .val (.list ((heapsP (l.take i)).map .int)))]) (Has.cons rfl (Has.cons (hI.sub _ _ rfl) Has.nil)) ?_
    have hnext : heapsP (l.take (i + 1)) = heapStep (heapsP (l.take i)) x := foldl_take _ _ hx
    generalize heapsP (l.take i) = hs at hlen hnext ⊢
    refine Tr.cons (TrS.assignOwn EvNew.nil ?_ (.inl rfl))
    refine Tr.cons (TrS.for (l := hs.map .int) (fun j ρ => Has ρ [(Str.ofString "whole", .val (.int ((hs.take j).foldl mergeStep ([], x)).2)), (Str.ofString "apart", .own (((hs.take j).foldl mergeStep ([], x)).1.map .int))]) (EvIt.list (Ev.var rfl) K'.hn) (.inl rfl) (Has.cons rfl (Has.cons rfl Has.nil)) ?_ ?_)
    · intro j p ρ' hp hI
      obtain ⟨o, ho, rfl⟩ := map_get hp
      have hjlt : j < hs.length := (List.getElem?_eq_some_iff.mp ho).1
      have hn := foldl_take mergeStep ([], x) ho
      have hlen2 : ((hs.take j).foldl mergeStep ([], x)).1.length ≤ 64 := by
        have := mergeStep_len (hs.take j) ([], x)
        rw [List.length_take] at this
        simp at this; omega
      refine Tr.has (l := [(Str.ofString "other", .val (.int o)), (Str.ofString "whole", .val (.int ((hs.take j).foldl mergeStep ([], x)).2)), (Str.ofString "apart", .own (((hs.take j).foldl mergeStep ([], x)).1.map .int))]) (Has.cons rfl (Has.cons (hI.sub _ _ rfl) (Has.cons (hI.sub _ _ rfl) Has.nil))) ?_
      generalize (hs.take j).foldl mergeStep ([], x) = r at hn hlen2 ⊢
      refine Tr.cons (TrS.ite (EvT.cmp (Ev.binop (Ev.var rfl) (Ev.var rfl) Op2.andI) Ev.int Cmp.neI) (fun q => ?_) (fun q => ?_))
      · refine Tr.cons (TrS.assign (Ev.binop (Ev.var rfl) (Ev.var rfl) Op2.orI) ?_ (.inl rfl))
        refine Tr.nil (Tr.nil ?_)
        show Has _ _
        rw [hn]
        unfold mergeStep
        rw [if_pos q]
        exact Has.cons rfl (Has.cons rfl Has.nil)
      · refine Tr.cons (TrS.append rfl (Ev.var rfl) ?_ (by simp; omega))
        refine Tr.nil (Tr.nil ?_)
        show Has _ _
        rw [hn]
        unfold mergeStep
        rw [if_neg (ne_true_of_eq_false q)]
        refine Has.cons rfl (Has.cons ?_ Has.nil)
        simp only [List.map_append]
        rfl
    · intro ρ' hI
      rw [List.length_map, List.take_length] at hI
      have hlen3 : (hs.foldl mergeStep ([], x)).1.length ≤ 64 := by
        have := mergeStep_len hs ([], x)
        simp at this; omega
      refine Tr.nil ?_
      refine Tr.has hI ?_
      refine Tr.freeze (x := Str.ofString "apart") hL rfl ?_
      refine Tr.cons (TrS.assign (Ev.binop (Ev.var rfl) (Ev.list (EvA.cons (Ev.var rfl) EvA.nil)) (Op2.addL (by simp; omega))) ?_ (.inl rfl))
      refine Tr.nil ?_
      show Has _ _
      rw [hnext]
      refine Has.cons ?_ Has.nil
      unfold heapStep
      rw [List.map_append]
      rfl
  · intro ρ' hI
    rw [List.length_map, List.take_length] at hI
    have := heapsP_len l
    refine Tr.nil (Tr.has hI ?_)
    refine Tr.cons (TrS.ret (Ev.callB (by walk_at "m_glob") (EvA.cons (Ev.var rfl) EvA.nil) (Fn.lenList (by simp; omega))) ?_)
    show PF.ret _ = PF.ret _
    rw [List.length_map]
end

-- C7
section
open PySem PySem.W PyProof.Rows PySem.Calls
set_option maxRecDepth 100000
set_option maxHeartbeats 8000000
theorem warm7 : PySem.Challenge.rw_un0038_01 = PySem.Challenge.rw_un0038_01 ∧ frag = frag := by
  k_fill
  exact ⟨rfl, rfl⟩
noncomputable def tblT : List (List (Int × Str)) := [[(40960, Str.ofString "l"), (49152, Str.ofString "s"), (32768, Str.ofString "-"), (24576, Str.ofString "b"), (16384, Str.ofString "d"), (8192, Str.ofString "c"), (4096, Str.ofString "p")],
  [(256, Str.ofString "r")],
  [(128, Str.ofString "w")],
  [(2112, Str.ofString "s"), (2048, Str.ofString "S"), (64, Str.ofString "x")],
  [(32, Str.ofString "r")],
  [(16, Str.ofString "w")],
  [(1032, Str.ofString "s"), (1024, Str.ofString "S"), (8, Str.ofString "x")],
  [(4, Str.ofString "r")],
  [(2, Str.ofString "w")],
  [(513, Str.ofString "t"), (512, Str.ofString "T"), (1, Str.ofString "x")]]
noncomputable def tabP (q : Int × Str) : PV := .tuple [.int q.1, .str q.2]
noncomputable def tblP : List PV := tblT.map fun tab => .tuple (tab.map tabP)
theorem rep_tup {h : Heap} {X : List Addr} {a : Addr} {vs : Array Value} {l : List PV} (hn : a ∉ X) (ho : h.get? a = some ⟨.type "tuple", Option.none, .seq vs 0, #[]⟩) (hr : Reps h X vs.toList l) : Rep h X (.ref a) (.tuple l) :=
  .tuple (vs := vs.toList) hn ⟨_, ho, rfl, _, rfl⟩ hr.1 hr.2
theorem rep_leaf {h : Heap} {X : List Addr} {a : Addr} {i : Int} {x : Str} {t u : Tok} (hn : a ∉ X) (ho : h.get? a = some ⟨.type "tuple", Option.none, .seq #[.int i t, .str x u] 0, #[]⟩) : Rep h X (.ref a) (.tuple [.int i, .str x]) :=
  rep_tup hn ho (Reps.cons (.int _ _) (Reps.cons (.str _ _) Reps.nil))

theorem tbl_rep {w : World} {h₀ h : Heap} {X : List Addr} (B : Base w h₀) (hk : ∀ b o, h₀.get? b = some o → h.get? b = some o) (hX : ∀ a ∈ X, h₀.get? a = Option.none) : Rep h X (.ref 167) (.tuple tblP) := by
  have k : ∀ a o, (frag w.params).lookup a = some o → h.get? a = some o := fun a o e => hk a o (B.X a o e)
  have n : ∀ a o, (frag w.params).lookup a = some o → a ∉ X := fun a o e q => by have := hX a q; rw [B.X a o e] at this; cases this
  have r135 : Rep h X (.ref 135) (.tuple [.int 40960, .str (Str.ofString "l")]) := rep_leaf (n 135 ⟨.type "tuple", Option.none, .seq #[.int 40960 361, .str (Str.ofString "l") 389] 0, #[]⟩ (by k_is)) (k 135 ⟨.type "tuple", Option.none, .seq #[.int 40960 361, .str (Str.ofString "l") 389] 0, #[]⟩ (by k_is))
  have r136 : Rep h X (.ref 136) (.tuple [.int 49152, .str (Str.ofString "s")]) := rep_leaf (n 136 ⟨.type "tuple", Option.none, .seq #[.int 49152 363, .str (Str.ofString "s") 390] 0, #[]⟩ (by k_is)) (k 136 ⟨.type "tuple", Option.none, .seq #[.int 49152 363, .str (Str.ofString "s") 390] 0, #[]⟩ (by k_is))
  have r137 : Rep h X (.ref 137) (.tuple [.int 32768, .str (Str.ofString "-")]) := rep_leaf (n 137 ⟨.type "tuple", Option.none, .seq #[.int 32768 357, .str (Str.ofString "-") 391] 0, #[]⟩ (by k_is)) (k 137 ⟨.type "tuple", Option.none, .seq #[.int 32768 357, .str (Str.ofString "-") 391] 0, #[]⟩ (by k_is))
  have r138 : Rep h X (.ref 138) (.tuple [.int 24576, .str (Str.ofString "b")]) := rep_leaf (n 138 ⟨.type "tuple", Option.none, .seq #[.int 24576 355, .str (Str.ofString "b") 392] 0, #[]⟩ (by k_is)) (k 138 ⟨.type "tuple", Option.none, .seq #[.int 24576 355, .str (Str.ofString "b") 392] 0, #[]⟩ (by k_is))
  have r139 : Rep h X (.ref 139) (.tuple [.int 16384, .str (Str.ofString "d")]) := rep_leaf (n 139 ⟨.type "tuple", Option.none, .seq #[.int 16384 351, .str (Str.ofString "d") 393] 0, #[]⟩ (by k_is)) (k 139 ⟨.type "tuple", Option.none, .seq #[.int 16384 351, .str (Str.ofString "d") 393] 0, #[]⟩ (by k_is))
  have r140 : Rep h X (.ref 140) (.tuple [.int 8192, .str (Str.ofString "c")]) := rep_leaf (n 140 ⟨.type "tuple", Option.none, .seq #[.int 8192 353, .str (Str.ofString "c") 394] 0, #[]⟩ (by k_is)) (k 140 ⟨.type "tuple", Option.none, .seq #[.int 8192 353, .str (Str.ofString "c") 394] 0, #[]⟩ (by k_is))
  have r141 : Rep h X (.ref 141) (.tuple [.int 4096, .str (Str.ofString "p")]) := rep_leaf (n 141 ⟨.type "tuple", Option.none, .seq #[.int 4096 359, .str (Str.ofString "p") 395] 0, #[]⟩ (by k_is)) (k 141 ⟨.type "tuple", Option.none, .seq #[.int 4096 359, .str (Str.ofString "p") 395] 0, #[]⟩ (by k_is))
  have r142 : Rep h X (.ref 142) (.tuple [.tuple [.int 40960, .str (Str.ofString "l")], .tuple [.int 49152, .str (Str.ofString "s")], .tuple [.int 32768, .str (Str.ofString "-")], .tuple [.int 24576, .str (Str.ofString "b")], .tuple [.int 16384, .str (Str.ofString "d")], .tuple [.int 8192, .str (Str.ofString "c")], .tuple [.int 4096, .str (Str.ofString "p")]]) := rep_tup (n 142 ⟨.type "tuple", Option.none, .seq #[.ref 135, .ref 136, .ref 137, .ref 138, .ref 139, .ref 140, .ref 141] 0, #[]⟩ (by k_is)) (k 142 ⟨.type "tuple", Option.none, .seq #[.ref 135, .ref 136, .ref 137, .ref 138, .ref 139, .ref 140, .ref 141] 0, #[]⟩ (by k_is)) (Reps.cons r135 (Reps.cons r136 (Reps.cons r137 (Reps.cons r138 (Reps.cons r139 (Reps.cons r140 (Reps.cons r141 (Reps.nil))))))))
  have r143 : Rep h X (.ref 143) (.tuple [.int 256, .str (Str.ofString "r")]) := rep_leaf (n 143 ⟨.type "tuple", Option.none, .seq #[.int 256 371, .str (Str.ofString "r") 396] 0, #[]⟩ (by k_is)) (k 143 ⟨.type "tuple", Option.none, .seq #[.int 256 371, .str (Str.ofString "r") 396] 0, #[]⟩ (by k_is))
  have r144 : Rep h X (.ref 144) (.tuple [.tuple [.int 256, .str (Str.ofString "r")]]) := rep_tup (n 144 ⟨.type "tuple", Option.none, .seq #[.ref 143] 0, #[]⟩ (by k_is)) (k 144 ⟨.type "tuple", Option.none, .seq #[.ref 143] 0, #[]⟩ (by k_is)) (Reps.cons r143 (Reps.nil))
  have r145 : Rep h X (.ref 145) (.tuple [.int 128, .str (Str.ofString "w")]) := rep_leaf (n 145 ⟨.type "tuple", Option.none, .seq #[.int 128 373, .str (Str.ofString "w") 397] 0, #[]⟩ (by k_is)) (k 145 ⟨.type "tuple", Option.none, .seq #[.int 128 373, .str (Str.ofString "w") 397] 0, #[]⟩ (by k_is))
  have r146 : Rep h X (.ref 146) (.tuple [.tuple [.int 128, .str (Str.ofString "w")]]) := rep_tup (n 146 ⟨.type "tuple", Option.none, .seq #[.ref 145] 0, #[]⟩ (by k_is)) (k 146 ⟨.type "tuple", Option.none, .seq #[.ref 145] 0, #[]⟩ (by k_is)) (Reps.cons r145 (Reps.nil))
  have r147 : Rep h X (.ref 147) (.tuple [.int 2112, .str (Str.ofString "s")]) := rep_leaf (n 147 ⟨.type "tuple", Option.none, .seq #[.int 2112 398, .str (Str.ofString "s") 399] 0, #[]⟩ (by k_is)) (k 147 ⟨.type "tuple", Option.none, .seq #[.int 2112 398, .str (Str.ofString "s") 399] 0, #[]⟩ (by k_is))
  have r148 : Rep h X (.ref 148) (.tuple [.int 2048, .str (Str.ofString "S")]) := rep_leaf (n 148 ⟨.type "tuple", Option.none, .seq #[.int 2048 365, .str (Str.ofString "S") 400] 0, #[]⟩ (by k_is)) (k 148 ⟨.type "tuple", Option.none, .seq #[.int 2048 365, .str (Str.ofString "S") 400] 0, #[]⟩ (by k_is))
  have r149 : Rep h X (.ref 149) (.tuple [.int 64, .str (Str.ofString "x")]) := rep_leaf (n 149 ⟨.type "tuple", Option.none, .seq #[.int 64 375, .str (Str.ofString "x") 401] 0, #[]⟩ (by k_is)) (k 149 ⟨.type "tuple", Option.none, .seq #[.int 64 375, .str (Str.ofString "x") 401] 0, #[]⟩ (by k_is))
  have r150 : Rep h X (.ref 150) (.tuple [.tuple [.int 2112, .str (Str.ofString "s")], .tuple [.int 2048, .str (Str.ofString "S")], .tuple [.int 64, .str (Str.ofString "x")]]) := rep_tup (n 150 ⟨.type "tuple", Option.none, .seq #[.ref 147, .ref 148, .ref 149] 0, #[]⟩ (by k_is)) (k 150 ⟨.type "tuple", Option.none, .seq #[.ref 147, .ref 148, .ref 149] 0, #[]⟩ (by k_is)) (Reps.cons r147 (Reps.cons r148 (Reps.cons r149 (Reps.nil))))
  have r151 : Rep h X (.ref 151) (.tuple [.int 32, .str (Str.ofString "r")]) := rep_leaf (n 151 ⟨.type "tuple", Option.none, .seq #[.int 32 377, .str (Str.ofString "r") 402] 0, #[]⟩ (by k_is)) (k 151 ⟨.type "tuple", Option.none, .seq #[.int 32 377, .str (Str.ofString "r") 402] 0, #[]⟩ (by k_is))
  have r152 : Rep h X (.ref 152) (.tuple [.tuple [.int 32, .str (Str.ofString "r")]]) := rep_tup (n 152 ⟨.type "tuple", Option.none, .seq #[.ref 151] 0, #[]⟩ (by k_is)) (k 152 ⟨.type "tuple", Option.none, .seq #[.ref 151] 0, #[]⟩ (by k_is)) (Reps.cons r151 (Reps.nil))
  have r153 : Rep h X (.ref 153) (.tuple [.int 16, .str (Str.ofString "w")]) := rep_leaf (n 153 ⟨.type "tuple", Option.none, .seq #[.int 16 379, .str (Str.ofString "w") 403] 0, #[]⟩ (by k_is)) (k 153 ⟨.type "tuple", Option.none, .seq #[.int 16 379, .str (Str.ofString "w") 403] 0, #[]⟩ (by k_is))
  have r154 : Rep h X (.ref 154) (.tuple [.tuple [.int 16, .str (Str.ofString "w")]]) := rep_tup (n 154 ⟨.type "tuple", Option.none, .seq #[.ref 153] 0, #[]⟩ (by k_is)) (k 154 ⟨.type "tuple", Option.none, .seq #[.ref 153] 0, #[]⟩ (by k_is)) (Reps.cons r153 (Reps.nil))
  have r155 : Rep h X (.ref 155) (.tuple [.int 1032, .str (Str.ofString "s")]) := rep_leaf (n 155 ⟨.type "tuple", Option.none, .seq #[.int 1032 404, .str (Str.ofString "s") 405] 0, #[]⟩ (by k_is)) (k 155 ⟨.type "tuple", Option.none, .seq #[.int 1032 404, .str (Str.ofString "s") 405] 0, #[]⟩ (by k_is))
  have r156 : Rep h X (.ref 156) (.tuple [.int 1024, .str (Str.ofString "S")]) := rep_leaf (n 156 ⟨.type "tuple", Option.none, .seq #[.int 1024 367, .str (Str.ofString "S") 406] 0, #[]⟩ (by k_is)) (k 156 ⟨.type "tuple", Option.none, .seq #[.int 1024 367, .str (Str.ofString "S") 406] 0, #[]⟩ (by k_is))
  have r157 : Rep h X (.ref 157) (.tuple [.int 8, .str (Str.ofString "x")]) := rep_leaf (n 157 ⟨.type "tuple", Option.none, .seq #[.int 8 381, .str (Str.ofString "x") 407] 0, #[]⟩ (by k_is)) (k 157 ⟨.type "tuple", Option.none, .seq #[.int 8 381, .str (Str.ofString "x") 407] 0, #[]⟩ (by k_is))
  have r158 : Rep h X (.ref 158) (.tuple [.tuple [.int 1032, .str (Str.ofString "s")], .tuple [.int 1024, .str (Str.ofString "S")], .tuple [.int 8, .str (Str.ofString "x")]]) := rep_tup (n 158 ⟨.type "tuple", Option.none, .seq #[.ref 155, .ref 156, .ref 157] 0, #[]⟩ (by k_is)) (k 158 ⟨.type "tuple", Option.none, .seq #[.ref 155, .ref 156, .ref 157] 0, #[]⟩ (by k_is)) (Reps.cons r155 (Reps.cons r156 (Reps.cons r157 (Reps.nil))))
  have r159 : Rep h X (.ref 159) (.tuple [.int 4, .str (Str.ofString "r")]) := rep_leaf (n 159 ⟨.type "tuple", Option.none, .seq #[.int 4 383, .str (Str.ofString "r") 408] 0, #[]⟩ (by k_is)) (k 159 ⟨.type "tuple", Option.none, .seq #[.int 4 383, .str (Str.ofString "r") 408] 0, #[]⟩ (by k_is))
  have r160 : Rep h X (.ref 160) (.tuple [.tuple [.int 4, .str (Str.ofString "r")]]) := rep_tup (n 160 ⟨.type "tuple", Option.none, .seq #[.ref 159] 0, #[]⟩ (by k_is)) (k 160 ⟨.type "tuple", Option.none, .seq #[.ref 159] 0, #[]⟩ (by k_is)) (Reps.cons r159 (Reps.nil))
  have r161 : Rep h X (.ref 161) (.tuple [.int 2, .str (Str.ofString "w")]) := rep_leaf (n 161 ⟨.type "tuple", Option.none, .seq #[.int 2 385, .str (Str.ofString "w") 409] 0, #[]⟩ (by k_is)) (k 161 ⟨.type "tuple", Option.none, .seq #[.int 2 385, .str (Str.ofString "w") 409] 0, #[]⟩ (by k_is))
  have r162 : Rep h X (.ref 162) (.tuple [.tuple [.int 2, .str (Str.ofString "w")]]) := rep_tup (n 162 ⟨.type "tuple", Option.none, .seq #[.ref 161] 0, #[]⟩ (by k_is)) (k 162 ⟨.type "tuple", Option.none, .seq #[.ref 161] 0, #[]⟩ (by k_is)) (Reps.cons r161 (Reps.nil))
  have r163 : Rep h X (.ref 163) (.tuple [.int 513, .str (Str.ofString "t")]) := rep_leaf (n 163 ⟨.type "tuple", Option.none, .seq #[.int 513 410, .str (Str.ofString "t") 411] 0, #[]⟩ (by k_is)) (k 163 ⟨.type "tuple", Option.none, .seq #[.int 513 410, .str (Str.ofString "t") 411] 0, #[]⟩ (by k_is))
  have r164 : Rep h X (.ref 164) (.tuple [.int 512, .str (Str.ofString "T")]) := rep_leaf (n 164 ⟨.type "tuple", Option.none, .seq #[.int 512 369, .str (Str.ofString "T") 412] 0, #[]⟩ (by k_is)) (k 164 ⟨.type "tuple", Option.none, .seq #[.int 512 369, .str (Str.ofString "T") 412] 0, #[]⟩ (by k_is))
  have r165 : Rep h X (.ref 165) (.tuple [.int 1, .str (Str.ofString "x")]) := rep_leaf (n 165 ⟨.type "tuple", Option.none, .seq #[.int 1 387, .str (Str.ofString "x") 413] 0, #[]⟩ (by k_is)) (k 165 ⟨.type "tuple", Option.none, .seq #[.int 1 387, .str (Str.ofString "x") 413] 0, #[]⟩ (by k_is))
  have r166 : Rep h X (.ref 166) (.tuple [.tuple [.int 513, .str (Str.ofString "t")], .tuple [.int 512, .str (Str.ofString "T")], .tuple [.int 1, .str (Str.ofString "x")]]) := rep_tup (n 166 ⟨.type "tuple", Option.none, .seq #[.ref 163, .ref 164, .ref 165] 0, #[]⟩ (by k_is)) (k 166 ⟨.type "tuple", Option.none, .seq #[.ref 163, .ref 164, .ref 165] 0, #[]⟩ (by k_is)) (Reps.cons r163 (Reps.cons r164 (Reps.cons r165 (Reps.nil))))
  have r167 : Rep h X (.ref 167) (.tuple tblP) := rep_tup (n 167 ⟨.type "tuple", Option.none, .seq #[.ref 142, .ref 144, .ref 146, .ref 150, .ref 152, .ref 154, .ref 158, .ref 160, .ref 162, .ref 166] 0, #[]⟩ (by k_is)) (k 167 ⟨.type "tuple", Option.none, .seq #[.ref 142, .ref 144, .ref 146, .ref 150, .ref 152, .ref 154, .ref 158, .ref 160, .ref 162, .ref 166] 0, #[]⟩ (by k_is)) (Reps.cons r142 (Reps.cons r144 (Reps.cons r146 (Reps.cons r150 (Reps.cons r152 (Reps.cons r154 (Reps.cons r158 (Reps.cons r160 (Reps.cons r162 (Reps.cons r166 (Reps.nil)))))))))))
  exact r167


/-- enter a def whose arguments and value hold no address -/
theorem enterFn0 {w : World} {A : Around} {h₀ : Heap} {ps : List PV} {r : PV} {n : Nat}
    {name qual : Str} {params : Arguments} {body : List Stmt} {scope : Scope} {dV kV doc pm cdv ct oc : Value} {an od : Option Addr} {osl : Array (Option Value)} {f : Addr}
    (hp : ∀ h X vs, Reps h X vs ps → Reps h [] vs ps) (hr0 : ∀ h X v, Rep h [] v r → Rep h X v r)
    (B : Base w h₀) (K : Ok (n + 1) A)
    (ho : (frag w.params).lookup f = some ⟨oc, od, .func (fnOf name qual params body scope dV kV doc pm an cdv ct), osl⟩) (hcd : codeIn (frag w.params) cdv qual = true)
    (hbind : ∀ vs : List Value, vs.length = ps.length → bindArgs (fnOf name qual params body scope dV kV doc pm an cdv ct) ⟨vs, []⟩ = pure ((params.args.map (·.arg)).zip vs))
    (hloc : ∀ y ∈ params.args.map (·.arg), scope.names.lookup y = some .local) (hnd : (params.args.map (·.arg)).Nodup)
    (h : ∀ h L A', Base w h → Ok n A' → Tr PySem.Challenge.rw_un0038_01.row.prog w A' (envOf qual scope L f cdv) h [] (bindP params.args ps) body (fun pf _ => pf = .ret r))
    (hco : scope.isCoroutine = false := by rfl) (hgen : scope.isGenerator = false := by rfl) (hk : scope.kind = .function := by rfl)
    (hcell : ∀ x ∈ scope.names, x.2 ≠ .cell := by decide) : FnD PySem.Challenge.rw_un0038_01.row.prog w A h₀ f ps r := fun X s vs hs L hr =>
  wpAny_mono (enterFnX [] B K ho hcd hbind hloc hnd (fun h' L A' a b _ => h h' L A' a b) hco hgen hk hcell s vs hs (fun _ h => by cases h) (hp _ _ _ hr)) (fun v s' q => ⟨q.1, hr0 _ _ _ q.2⟩) fun _ _ x => x
end

-- C8
section
open PySem PySem.W PyProof.Rows PySem.Calls
set_option maxRecDepth 100000
set_option maxHeartbeats 8000000
theorem warm8 : PySem.Challenge.rw_un0038_01 = PySem.Challenge.rw_un0038_01 ∧ frag = frag := by
  k_fill
  exact ⟨rfl, rfl⟩
section
variable {prog : Program} {w : World} {A : Around} {env cenv : Env} {h₀ : Heap} {X₀ : List Addr} {ρ ρc : PEnv} {Q : PF → PEnv → Prop}
/-- enumerate over a tuple, at one X -/
theorem enumT_at {np pos : Pos} {elts : List Expr} {k : Nat} {tp : Pos} {x : Str} {e : Expr} {l : List PV} {X : List Addr} {s : Shared} (S : Sit env ρ X h₀ s.heap) (hg : Glob h₀ x (.type "enumerate"))
    (he' : wpAny (model prog w) A (eval e env) (fun v s' => Keeps s s' ∧ Rep s'.heap X v (.tuple l)) (fun _ _ => False) s) (hA : A.handled = Option.none)
    (hk : env.kindOf x = some .globalImplicit := by with_unfolding_all rfl) (hd : (x == ("__debug__" : Str)) = false := by decide)
    (he : starEach [e] env = (false, eval e env) :: starEach [] env := by rfl) :
    wpAny (model prog w) A (eval (.Call (.Name x np) [e] [] pos) env) (fun xv s₁ => wpAny (model prog w) A (pyIter xv) (fun it s₂ => Keeps s s₂ ∧ ∃ I fp wr St, it = .ref I ∧ Src prog w A (.Tuple elts k tp) true X (enumP l) s.heap s₂.heap I fp wr St) (fun _ _ => False) s₁) (fun _ _ => False) s :=
  Call_ (wp_glob S hg hk hd (callWith_ty (he := he) (hplain := by rfl) (args_cons (he := he) (wpAny_mono he' (fun v s₁ h₁ => args_nil (by
    obtain ⟨k₁, hv⟩ := h₁
    cases hv with
    | @tuple b vs _ hb hl hn hi =>
      refine call_enumerate_tuple hl fun h' hE hI hz hkk => ?_
      have hlb : ∃ o, s₁.heap.get? b = some o := by obtain ⟨o, ho, _⟩ := hl; exact ⟨o, ho⟩
      have n0 : s₁.heap.get? s₁.heap.objs.size = Option.none := get_size _
      have n1 : s₁.heap.get? (s₁.heap.objs.size + 1) = Option.none := get_far _ 1
      have D := Draws.ofTuple (prog := prog) (w := w) (A := A.in1) hA s₁.heap.objs.size b (fun q => by subst q; obtain ⟨o, ho⟩ := hlb; rw [n0] at ho; cases ho) vs.toArray
      have O := src_enum (prog := prog) (w := w) (A := A) (elts := elts) (k := k) (pos := tp) (X := X) (l := l) (h := s.heap) (h₁ := s₁.heap) (h₂ := h') (vs := vs) (b := b) (it := s₁.heap.objs.size) (e := s₁.heap.objs.size + 1) (StD := fun i h => h.IsTupleIter s₁.heap.objs.size b i ∧ h.IsTuple b vs.toArray) (by simpa using D) ⟨hn, hi⟩ hE ⟨hI, let ⟨o, ho, r⟩ := hl; ⟨o, hkk _ _ ho, r⟩⟩ hkk (Kp.hh k₁) n1 n0 (Nat.succ_ne_self _) hlb hb S.live (fun i h st => by
        obtain ⟨⟨o, ho, hc, hd⟩, _⟩ := st
        exact ⟨o, _, _, ho, hc, by decide, by decide, hd⟩)
      obtain ⟨hp, t, rfl, hk⟩ := k₁
      exact wpAny_pyIter_enum hE ⟨⟨h', t, rfl, fun b o e => hkk b o (hk b o e)⟩, _, _, _, _, rfl, O⟩)) fun _ _ x => x.elim))))
end

noncomputable def hitT (m : Int) (idx : Nat) (q : Int × Str) : Bool := if idx = 0 then Builtin.bitAnd m 61440 == q.1 else Builtin.bitAnd m q.1 == q.1
noncomputable def pickT (m : Int) (idx : Nat) (tab : List (Int × Str)) : Str := match tab.find? (hitT m idx) with
  | some q => q.2
  | Option.none => if idx = 0 then Str.ofString "?" else Str.ofString "-"
noncomputable def charsT (m : Int) (n : Nat) : List Str := (tblT.take n).mapIdx fun i tab => pickT m i tab
noncomputable def modeS (m : Int) : Str := Txt.join (Str.ofString "") (charsT m 10)

theorem pickT_hit {m : Int} {idx j : Nat} {tab : List (Int × Str)} {q : Int × Str} (hq : tab[j]? = some q) (h : hitT m idx q = true) (hno : ∀ i q, i < j → tab[i]? = some q → hitT m idx q = false) : pickT m idx tab = q.2 := by
  have : tab.find? (hitT m idx) = some q := by
    obtain ⟨hlt, hq'⟩ := List.getElem?_eq_some_iff.mp hq
    refine List.find?_eq_some_iff_getElem.mpr ⟨h, j, hlt, hq', fun i hi => ?_⟩
    have := hno i tab[i] hi (by simp)
    simp [this]
  unfold pickT; rw [this]
theorem pickT_miss {m : Int} {idx : Nat} {tab : List (Int × Str)} (hno : ∀ i q, i < tab.length → tab[i]? = some q → hitT m idx q = false) : pickT m idx tab = if idx = 0 then Str.ofString "?" else Str.ofString "-" := by
  have : tab.find? (hitT m idx) = Option.none := by
    rw [List.find?_eq_none]
    intro q hq
    obtain ⟨i, hi, rfl⟩ := List.mem_iff_getElem.mp hq
    simp [hno i tab[i] hi (by simp)]
  unfold pickT; rw [this]
theorem charsT_succ {m : Int} {i : Nat} {tab : List (Int × Str)} (h : tblT[i]? = some tab) : charsT m (i + 1) = charsT m i ++ [pickT m i tab] := by
  have hlt : i < tblT.length := (List.getElem?_eq_some_iff.mp h).1
  unfold charsT
  rw [List.take_add_one, h]
  simp [List.mapIdx_append, Nat.min_eq_left (Nat.le_of_lt hlt)]
theorem charsT_len (m : Int) (n : Nat) : (charsT m n).length ≤ 10 := by
  have : tblT.length = 10 := rfl
  unfold charsT; simp; omega

theorem filemode_c {w : World} {A : Around} {h₀ : Heap} {m : Int} (B : Base w h₀) (K : Ok 2 A) (hj : ((charsT m 10).map (·.length)).sum ≤ 1000) : FnD PySem.Challenge.rw_un0038_01.row.prog w A h₀ 174 [.int m] (.str (modeS m)) := by
  have hz := sizeLine_eq
  refine' enterFn0 ?hp ?hr0 ?kB ?kK ?ho ?hcd ?hbind ?hloc ?hnd ?_ ?h1 ?h2 ?h3 ?h4
  (case hp => exact fun h X vs r => r.less fun _ q => (by cases q))
  (case hr0 => exact fun h X v r => by cases r; exact .str _ _)
  (case kB => assumption)
  (case kK => assumption)
  (case ho => k_is)
  (case hcd => k_is)
  (case hloc => decide)
  (case hnd => decide)
  (case h1 => rfl)
  (case h2 => rfl)
  (case h3 => rfl)
  (case h4 => decide)
  (case hbind => refine bind1 fun v => ?_; kernel_rfl)
  intro h L A' B' K'
  refine Tr.cons (TrS.assignOwn EvNew.nil ?_ (.inl rfl))
  refine Tr.cons (TrS.forG0 (l := enumP tblP) (fun i ρ => Has ρ [(Str.ofString "mode", .val (.int m)), (Str.ofString "perm", .own ((charsT m i).map .str))]) (fun X s hX S => enumT_at S (by walk_at "m_glob") ?tab K'.hn) (Has.cons rfl (Has.cons rfl Has.nil)) ?_ ?_)
  case tab =>
    exact wp_glob S (v := .ref 167) (by walk_at "m_glob") (by with_unfolding_all rfl) (by decide) ⟨Kp.refl s, tbl_rep B' S.keep hX⟩
  · intro i p ρ' hp hI
    have hi : i < tblT.length := by
      have := (List.getElem?_eq_some_iff.mp hp).1
      rw [enumP_len] at this
      simpa [tblP] using this
    obtain ⟨tab, htab⟩ : ∃ tab, tblT[i]? = some tab := ⟨tblT[i], by simp [hi]⟩
    obtain rfl : p = .tuple [.int i, .tuple (tab.map tabP)] := by
      have := enumP_get (l := tblP) (i := i) (p := .tuple (tab.map tabP)) (by unfold tblP; rw [List.getElem?_map, htab]; rfl)
      rw [hp] at this; exact Option.some.inj this
    refine ⟨_, AsgT.pair K'.hn (.inl rfl) (.inl rfl), ?_⟩
    have hlen := charsT_len m i
    refine Tr.has (l := [(Str.ofString "table", .val (.tuple (tab.map tabP))), (Str.ofString "index", .val (.int i)), (Str.ofString "mode", .val (.int m)), (Str.ofString "perm", .own ((charsT m i).map .str))]) (Has.cons rfl (Has.cons rfl (Has.cons (hI.sub _ _ rfl) (Has.cons (hI.sub _ _ rfl) Has.nil)))) ?_
    have hnext := charsT_succ (m := m) htab
    generalize hch : charsT m i = ch at hlen hnext ⊢
    have fin : ∀ {ρ : PEnv} {c : Str}, pickT m i tab = c → ρ.lookup (Str.ofString "mode") = some (.val (.int m)) → ρ.lookup (Str.ofString "perm") = some (.own (ch.map .str ++ [.str c])) → Has ρ [(Str.ofString "mode", .val (.int m)), (Str.ofString "perm", .own ((charsT m (i + 1)).map .str))] := fun hc h1 h2 => by
      refine Has.cons h1 (Has.cons ?_ Has.nil)
      rw [hnext, List.map_append, hc]; exact h2
    refine Tr.cons (TrS.forG (l := tab.map tabP) (fun j ρ => Has ρ [(Str.ofString "index", .val (.int i)), (Str.ofString "mode", .val (.int m)), (Str.ofString "perm", .own (ch.map .str))] ∧ ∀ j' q, j' < j → tab[j']? = some q → hitT m i q = false) (EvSrc.ofIt (EvIt.tuple (Ev.var rfl) K'.hn)) ⟨Has.cons rfl (Has.cons rfl (Has.cons rfl Has.nil)), fun j' q h => absurd h (Nat.not_lt_zero _)⟩ ?_ ?_)
    · rintro j p ρ' hp ⟨hI, hno⟩
      obtain ⟨q, hq, rfl⟩ : ∃ q, tab[j]? = some q ∧ p = tabP q := by
        rw [List.getElem?_map] at hp
        cases e : tab[j]? with
        | none => rw [e] at hp; cases hp
        | some q => rw [e] at hp; cases hp; exact ⟨q, rfl, rfl⟩
      refine ⟨_, AsgT.pair K'.hn (.inl rfl) (.inl rfl), ?_⟩
      refine Tr.has (l := [(Str.ofString "char", .val (.str q.2)), (Str.ofString "bit", .val (.int q.1)), (Str.ofString "index", .val (.int i)), (Str.ofString "mode", .val (.int m)), (Str.ofString "perm", .own (ch.map .str))]) (Has.cons rfl (Has.cons rfl (Has.cons (hI.sub _ _ rfl) (Has.cons (hI.sub _ _ rfl) (Has.cons (hI.sub _ _ rfl) Has.nil))))) ?_
      have again : ∀ {ρ : PEnv}, hitT m i q = false → Has ρ [(Str.ofString "index", .val (.int i)), (Str.ofString "mode", .val (.int m)), (Str.ofString "perm", .own (ch.map .str))] → Has ρ [(Str.ofString "index", .val (.int i)), (Str.ofString "mode", .val (.int m)), (Str.ofString "perm", .own (ch.map .str))] ∧ ∀ j' q, j' < j + 1 → tab[j']? = some q → hitT m i q = false := fun hf hh => ⟨hh, fun j' q' hj' hq' => by
        rcases Nat.lt_succ_iff_lt_or_eq.mp hj' with h | h
        · exact hno j' q' h hq'
        · subst h; rw [hq] at hq'; cases hq'; exact hf⟩
      refine Tr.cons (TrS.ite (EvT.cmp (Ev.var rfl) Ev.int Cmp.eqI) (fun q0 => ?_) (fun q0 => ?_))
      · have hi0 : i = 0 := by have := eq_of_beq q0; exact_mod_cast this
        refine Tr.cons (TrS.ite (EvT.cmp (Ev.callD (by walk_at "m_glob") (by walk_at "m_fun") (EvA.cons (Ev.var rfl) EvA.nil) (S_IFMT_c B' K')) (Ev.var rfl) Cmp.eqI) (fun q1 => ?_) (fun q1 => ?_))
        · refine Tr.cons (TrS.append rfl (Ev.var rfl) ?_ (by simp; omega))
          refine Tr.cons (TrS.brk ?_)
          refine Tr.nil (fin (pickT_hit hq ?_ hno) rfl rfl)
          unfold hitT; rw [if_pos hi0]; exact q1
        · refine Tr.nil (Tr.nil (Tr.nil (again ?_ (Has.cons rfl (Has.cons rfl (Has.cons rfl Has.nil))))))
          unfold hitT; rw [if_pos hi0]; exact q1
      · have hi0 : i ≠ 0 := fun e => by subst e; simp at q0
        refine Tr.cons (TrS.ite (EvT.cmp (Ev.binop (Ev.var rfl) (Ev.var rfl) Op2.andI) (Ev.var rfl) Cmp.eqI) (fun q1 => ?_) (fun q1 => ?_))
        · refine Tr.cons (TrS.append rfl (Ev.var rfl) ?_ (by simp; omega))
          refine Tr.cons (TrS.brk ?_)
          refine Tr.nil (fin (pickT_hit hq ?_ hno) rfl rfl)
          unfold hitT; rw [if_neg hi0]; exact q1
        · refine Tr.nil (Tr.nil (Tr.nil (again ?_ (Has.cons rfl (Has.cons rfl (Has.cons rfl Has.nil))))))
          unfold hitT; rw [if_neg hi0]; exact q1
    · rintro ρ' ⟨hI, hno⟩
      rw [List.length_map] at hno
      refine Tr.has hI ?_
      refine Tr.cons (TrS.ite (EvT.cmp (Ev.var rfl) Ev.int Cmp.eqI) (fun q0 => ?_) (fun q0 => ?_))
      · have hi0 : i = 0 := by have := eq_of_beq q0; exact_mod_cast this
        refine Tr.cons (TrS.append rfl (p := .str (Str.ofString "?")) Ev.str ?_ (by simp; omega))
        refine Tr.nil (Tr.nil (Tr.nil (fin ?_ rfl rfl)))
        rw [pickT_miss hno, if_pos hi0]
      · have hi0 : i ≠ 0 := fun e => by subst e; simp at q0
        refine Tr.cons (TrS.append rfl (p := .str (Str.ofString "-")) Ev.str ?_ (by simp; omega))
        refine Tr.nil (Tr.nil (Tr.nil (fin ?_ rfl rfl)))
        rw [pickT_miss hno, if_neg hi0]
  · intro ρ' hI
    rw [enumP_len] at hI
    have e10 : tblP.length = 10 := rfl
    rw [e10] at hI
    refine Tr.nil (Tr.has hI ?_)
    refine Tr.freeze (x := Str.ofString "perm") (fun x h => by cases h) rfl ?_
    refine Tr.cons (TrS.ret (Ev.callM (p := .str (Str.ofString "")) Ev.str (Mth.str PySem.F.slot_str_join PySem.F.type_str_join) (EvA.cons (Ev.var rfl) EvA.nil) (Fn.join (by
      have h0 : (Str.ofString "").length = 0 := by decide +kernel
      have := charsT_len m 10
      rw [h0]; omega))) ?_)
    rfl
end

-- C9
section
open PySem PySem.W PyProof.Rows PySem.Calls
set_option maxRecDepth 100000
set_option maxHeartbeats 8000000
theorem warm9 : PySem.Challenge.rw_un0038_01 = PySem.Challenge.rw_un0038_01 ∧ frag = frag := by
  k_fill
  exact ⟨rfl, rfl⟩
noncomputable def AllQ {α : Type} (P : α → Prop) : List α → Prop
  | [] => True
  | a :: l => P a ∧ AllQ P l
theorem AllQ.mem {α : Type} {P : α → Prop} : ∀ {l : List α}, AllQ P l → ∀ a ∈ l, P a
  | a :: l, h, b, hb => by
    rcases List.mem_cons.mp hb with rfl | hb
    · exact h.1
    · exact AllQ.mem h.2 b hb
theorem clSub {cl cells : List (Str × Addr)} (h : AllQ (fun q => cells.lookup q.1 = some q.2) cl) : ∀ y c, cl.lookup y = some c → cells.lookup y = some c := fun y c e => h.mem (y, c) (mem_of_lookup e)
theorem keepCons {ρ : PEnv} {x : Str} {sv : SV} (h : ρ.lookup x = none) : ∀ y sv', ρ.lookup y = some sv' → ((x, sv) :: ρ).lookup y = some sv' := fun y sv' e => by
  rw [List.lookup_cons]
  cases q : y == x with
  | true => obtain rfl : y = x := by simpa using q
            rw [h] at e; cases e
  | false => exact e
theorem tgName {x : Str} {px : Pos} {cl : List (Str × Addr)} (h : cl.lookup x = none) : ∀ y, tgtHas (.Name x px) y = true → cl.lookup y = none := fun y hy => by
  have : (x == y) = true := hy
  obtain rfl : x = y := by simpa using this
  exact h
theorem namesOk {names : List (Str × NameKind)} (h : (names.all fun y => y.2 != .local || names.lookup y.1 == some .local) = true) : ∀ y ∈ names, y.2 = .local → names.lookup y.1 = some .local := fun y hy hl => by
  have := List.all_eq_true.mp h y hy
  rw [hl] at this
  simpa using this

theorem Ok.in4 {n : Nat} {A : Around} (k : Ok (n + 1) A) : Ok n A.in1.in1.in1.in1 := ⟨k.hn, by have := k.dp; show A.depth + n < _; omega, by have := k.un; show A.units + 1 + 1 + 1 + 1 + 8 * n < _; omega⟩

noncomputable abbrev dot : Str := Str.ofString "."
noncomputable def keepC (c : Str) : Bool := ((c.length : Int) != 0) && (c.cps.toList != dot.cps.toList)
noncomputable def compsS (p : Str) : List Str := (Txt.split p sl).filter keepC
noncomputable def commonPre : List Str → List Str → List Str
  | x :: xs, y :: ys => if x.cps.toList != y.cps.toList then [] else x :: commonPre xs ys
  | xs, _ => xs
noncomputable def cpS (ps : List Str) : Str := sl ++ Txt.join sl (commonPre (minLL (ps.map compsS)) (maxLL (ps.map compsS)))

structure GoodP (p : Str) : Prop where
  abs : Txt.startswith p sl = true
  len : p.length ≤ 64
  parts : (Builtin.Str.partsBetween p (Builtin.Str.occurrences p sl 0 p.length (p.length + 1)) sl.length).length ≤ 64
  split : (Txt.split p sl).length ≤ 64
  sizes : ∀ c ∈ Txt.split p sl, c.length ≤ 64

theorem filter_strs (f : Str → Bool) (l : List Str) (F : PV → Bool) (hF : ∀ c, F (.str c) = f c) : ((l.map PV.str).filter F).map id = (l.filter f).map PV.str := by
  induction l with
  | nil => rfl
  | cons c l ih =>
    simp only [List.map_cons, List.filter_cons, hF]
    cases f c <;> simp_all

theorem commonPre_diff {xs ys : List Str} {i : Nat} {x y : Str} (hx : xs[i]? = some x) (hy : ys[i]? = some y) (hne : (x.cps.toList != y.cps.toList) = true) (heq : ∀ j, j < i → xs[j]? = ys[j]?) : commonPre xs ys = xs.take i := by
  induction i generalizing xs ys with
  | zero =>
    cases xs with
    | nil => simp at hx
    | cons a xs => cases ys with
      | nil => simp at hy
      | cons b ys =>
        simp at hx hy; subst hx hy
        unfold commonPre
        rw [if_pos hne]; rfl
  | succ i ih =>
    cases xs with
    | nil => simp at hx
    | cons a xs => cases ys with
      | nil => simp at hy
      | cons b ys =>
        have h0 := heq 0 (by omega)
        simp at h0; subst h0
        unfold commonPre
        rw [if_neg (by simp), ih (by simpa using hx) (by simpa using hy) fun j hj => by simpa using heq (j + 1) (by omega)]
        rfl
theorem commonPre_same {xs ys : List Str} (heq : ∀ j, j < xs.length → xs[j]? = ys[j]?) : commonPre xs ys = xs := by
  induction xs generalizing ys with
  | nil => cases ys <;> rfl
  | cons a xs ih =>
    cases ys with
    | nil => rfl
    | cons b ys =>
      have h0 := heq 0 (by simp)
      simp at h0; subst h0
      unfold commonPre
      rw [if_neg (by simp), ih fun j hj => by simpa using heq (j + 1) (by simpa using hj)]

theorem commonpath_c {w : World} {A : Around} {h₀ : Heap} {ps : List Str} (B : Base w h₀) (K : Ok 3 A) (hne : ps ≠ []) (hlen : ps.length ≤ 64) (hg : ∀ p ∈ ps, GoodP p)
    (hpre : ∀ i, i < (minLL (ps.map compsS)).length → (∀ j, j < i → (minLL (ps.map compsS))[j]? = (maxLL (ps.map compsS))[j]?) → i < (maxLL (ps.map compsS)).length)
    (hmin : (minLL (ps.map compsS)).length ≤ 64) (hjoin : ∀ n, (((minLL (ps.map compsS)).take n).map (·.length)).sum ≤ 10000) (hjl : ∀ n, (Txt.join sl ((minLL (ps.map compsS)).take n)).length ≤ 10000) :
    FnD PySem.Challenge.rw_un0038_01.row.prog w A h₀ 127 [.list (ps.map .str)] (.str (cpS ps)) := by
  have hz := sizeLine_eq
  have hsl : sl.length = 1 := by decide +kernel
  refine' enterC ?kB ?kK ?ho ?hcd ?hbind ?hloc ?hnd ?_ ?h1 ?h2 ?h3
  (case kB => assumption)
  (case kK => assumption)
  (case ho => k_is)
  (case hcd => k_is)
  (case hloc => intro y hy; rw [List.mem_singleton.mp hy]; exact .inl rfl)
  (case hnd => decide)
  (case h1 => rfl)
  (case h2 => rfl)
  (case h3 => rfl)
  (case hbind => refine bind1 fun v => ?_; kernel_rfl)
  intro h L X A' B' K' hL
  refine Tr.cons (TrS.assign (Ev.tupleMap K'.hn (by walk_at "m_glob") (by walk_at "m_glob") (by walk_at "m_glob") (Ev.var rfl) (fun x hx => fspath_c B' K'.in4) (by omega)) ?_ (.inl rfl))
  refine Tr.cons (TrS.ite (EvT.not (EvT.plain (Ev.var rfl) (Tru.tuple (by rw [List.length_map]; omega)))) (fun q => ?_) (fun _ => Tr.nil ?_))
  · exfalso
    cases ps with
    | nil => exact hne rfl
    | cons p ps => simp at q
  obtain ⟨p0, hp0⟩ : ∃ p0, ps[0]? = some p0 := by
    cases ps with
    | nil => exact absurd rfl hne
    | cons p ps => exact ⟨p, rfl⟩
  refine Tr.cons (TrS.ite (EvT.plain (Ev.callB (id := "isinstance") (by walk_at "m_glob") (EvA.cons (Ev.item (Ev.var rfl) Ev.int (Idx.tuple (j := 0) (r := .str p0) (by decide) (by decide) ?_ ?_)) (EvA.cons (Ev.globP (v := .type "bytes") (by walk_at "m_glob") (fun _ _ => .ty _)) EvA.nil)) Fn.isiBytes) Tru.bool) (fun q => by cases q) (fun _ => ?_))
  · unfold seqIndex?; cases ps with
    | nil => exact absurd rfl hne
    | cons p ps => simp
  · rw [List.getElem?_map, hp0]; rfl
  refine Tr.cons (TrS.assign (p := .str sl) Ev.str ?_ (.inr ⟨rfl, rfl⟩))
  refine Tr.cons (TrS.assign (p := .str dot) Ev.str ?_ (.inr ⟨rfl, rfl⟩))
  refine Tr.nil ?_
  refine Tr.cons (TrS.try ?_)
  refine Tr.cons (TrS.assignComp (fun _ => true) (fun p => match p with | .str x => .list ((Txt.split x sl).map .str) | _ => .none) (fun p => (Str.ofString "path", .val p) :: [(Str.ofString "sep", .val (.str sl))])
    (fb := true) (EvSrc.ofIt (EvIt.tuple (Ev.var rfl) K'.hn)) (hclos := rfl) (Cap.cons rfl rfl rfl rfl Cap.nil) (clSub ⟨rfl, trivial⟩) rfl (namesOk (by decide)) (fun n y c _ e => e) (fun C p hp => AsgT.name (.inl rfl)) (fun p hp => keepCons rfl) (fun p hp => NoOwn.cons (NoOwn.cons NoOwn.nil)) (tgName rfl) (fun C p hp => EvTs.nil) (fun C p hp _ => ?_) ?_ (.inl rfl) rfl (by rw [List.length_map]; omega))
  · obtain ⟨x, hx, rfl⟩ := List.mem_map.mp hp
    have gx := hg x hx
    exact Ev.callM (Ev.var rfl) (Mth.str PySem.F.slot_str_split PySem.F.type_str_split) (EvA.cons (Ev.var rfl) EvA.nil) (Fn.split (by rw [hsl]; rfl) (by have := gx.len; omega) (by have := gx.parts; omega))
  have e1 : ((ps.map PV.str).filter fun _ => true).map (fun p => match p with | .str x => PV.list ((Txt.split x sl).map .str) | _ => .none) = (ps.map fun p => Txt.split p sl).map strsP := by
    rw [List.filter_eq_self.mpr (by simp), List.map_map, List.map_map]; rfl
  rw [e1]
  refine Tr.cons (TrS.try (Tr.cons (TrS.assignSet (fun p => (Str.ofString "p", .val p) :: [(Str.ofString "sep", .val (.str sl))]) (l := ps.map .str) (fb := true) (by cases ps with | nil => exact absurd rfl hne | cons _ _ => simp) K'.hn (EvSrc.ofIt (EvIt.tuple (Ev.var rfl) K'.hn)) (hclos := rfl)
    (Cap.cons rfl rfl rfl rfl Cap.nil) (clSub ⟨rfl, trivial⟩) rfl (namesOk (by decide)) (fun n y c _ e => e) (fun C p hp => AsgT.name (.inl rfl)) (fun p hp => keepCons rfl) (fun p hp => NoOwn.cons (NoOwn.cons NoOwn.nil)) (tgName rfl) (fun C p hp => ?_) (Tr.nil (Tr.nil ?_)) (.inl rfl) (by rw [List.length_map]; omega))))
  · obtain ⟨x, hx, rfl⟩ := List.mem_map.mp hp
    have f : ∀ A'', Fn PySem.Challenge.rw_un0038_01.row.prog w A'' (.builtin "str.startswith") [.str x, .str sl] (.bool true) := fun A'' => by
      have := Fn.startswith (prog := PySem.Challenge.rw_un0038_01.row.prog) (w := w) (A := A'') (x := x) (y := sl)
      rw [(hg x hx).abs] at this
      exact this
    exact Ev.callM (Ev.var rfl) (Mth.str PySem.F.slot_str_startswith PySem.F.type_str_startswith) (EvA.cons (Ev.var rfl) EvA.nil) (f _)
  refine Tr.cons (TrS.assignComp (fun _ => true) (fun p => match p with | .list l => .list ((l.filter fun c => match c with | .str c => keepC c | _ => false).map id) | _ => .none) (fun p => (Str.ofString "s", .val p) :: [(Str.ofString "curdir", .val (.str dot))])
    (l := (ps.map fun p => Txt.split p sl).map strsP) (fb := true) (EvSrc.ofIt (EvIt.list (Ev.var rfl) K'.hn)) (hclos := rfl) (Cap.cons rfl rfl rfl rfl Cap.nil) (clSub ⟨rfl, trivial⟩) rfl (namesOk (by decide)) (fun n y c _ e => e) (fun C p hp => AsgT.name (.inl rfl)) (fun p hp => keepCons rfl) (fun p hp => NoOwn.cons (NoOwn.cons NoOwn.nil)) (tgName rfl) (fun C p hp => EvTs.nil) (fun C p hp _ => ?_) ?_ (.inl rfl) rfl (by rw [List.length_map, List.length_map]; omega))
  · obtain ⟨cs, hcs, rfl⟩ := List.mem_map.mp hp
    obtain ⟨x, hx, rfl⟩ := List.mem_map.mp hcs
    have gx := hg x hx
    exact Ev.comp1 (fun c => match c with | .str c => keepC c | _ => false) id (fun c => (Str.ofString "c", .val c) :: [(Str.ofString "curdir", .val (.str dot))])
      (l := (Txt.split x sl).map .str) (fb := true) (EvSrc.ofIt (EvIt.list (Ev.var rfl) K'.hn)) (hclos := rfl) (Cap.cons rfl rfl rfl rfl Cap.nil) (clSub ⟨rfl, trivial⟩) rfl (namesOk (by decide)) (fun n y c _ e => e) (fun C p hp => AsgT.name (.inl rfl)) (fun p hp => keepCons rfl) (fun p hp => NoOwn.cons (NoOwn.cons NoOwn.nil)) (tgName rfl)
      (fun C p hp => by
        obtain ⟨c, hc, rfl⟩ := List.mem_map.mp hp
        have := gx.sizes c hc
        exact EvTs.one (EvT.and (EvT.plain (Ev.var rfl) (Tru.str (by omega))) (fun _ => EvT.cmp (Ev.var rfl) (Ev.var rfl) Cmp.neS)))
      (fun C p hp _ => Ev.var rfl) (by rw [List.length_map]; have := gx.split; omega)
  have e2 : (((ps.map fun p => Txt.split p sl).map strsP).filter fun _ => true).map (fun p => match p with | .list l => PV.list ((l.filter fun c => match c with | .str c => keepC c | _ => false).map id) | _ => .none) = (ps.map compsS).map strsP := by
    rw [List.filter_eq_self.mpr (by simp), List.map_map, List.map_map, List.map_map]
    refine List.map_congr_left fun p hp => ?_
    show PV.list _ = PV.list _
    rw [filter_strs keepC _ _ fun c => rfl]; rfl
  rw [e2]
  have hxs : ps.map compsS ≠ [] := by cases ps with
    | nil => exact absurd rfl hne
    | cons _ _ => simp
  have hu : A'.units + 2 < cLine := by have := K'.un; omega
  refine Tr.cons (TrS.assign (Ev.callB (by walk_at "m_glob") (EvA.cons (Ev.var rfl) EvA.nil) (Fn.minLL K'.hn hu hxs)) ?_ (.inl rfl))
  refine Tr.cons (TrS.assign (Ev.callB (by walk_at "m_glob") (EvA.cons (Ev.var rfl) EvA.nil) (Fn.maxLL K'.hn hu hxs)) ?_ (.inl rfl))
  unfold cpS
  generalize minLL (ps.map compsS) = s1 at hpre hmin hjoin hjl ⊢
  generalize maxLL (ps.map compsS) = s2 at hpre ⊢
  refine Tr.cons (TrS.assign (p := strsP s1) (Ev.var rfl) ?_ (.inl rfl))
  refine Tr.has (l := [(Str.ofString "common", .val (strsP s1)), (Str.ofString "s1", .val (strsP s1)), (Str.ofString "s2", .val (strsP s2)), (Str.ofString "isabs", .val (.bool true)), (Str.ofString "sep", .val (.str sl))]) (Has.cons rfl (Has.cons rfl (Has.cons rfl (Has.cons rfl (Has.cons rfl Has.nil))))) ?_
  refine Tr.cons (TrS.mono (Q := fun pf ρ => pf = .next ∧ Has ρ [(Str.ofString "common", .val (strsP (commonPre s1 s2))), (Str.ofString "isabs", .val (.bool true)), (Str.ofString "sep", .val (.str sl))]) (TrS.forG (l := enumP (s1.map .str)) (fun i ρ => Has ρ [(Str.ofString "common", .val (strsP s1)), (Str.ofString "s1", .val (strsP s1)), (Str.ofString "s2", .val (strsP s2)), (Str.ofString "isabs", .val (.bool true)), (Str.ofString "sep", .val (.str sl))] ∧ ∀ j, j < i → s1[j]? = s2[j]?) (EvSrc.enumL (by walk_at "m_glob") (Ev.var rfl) K'.hn) ⟨Has.cons rfl (Has.cons rfl (Has.cons rfl (Has.cons rfl (Has.cons rfl Has.nil)))), fun j hj => absurd hj (Nat.not_lt_zero _)⟩ ?_ ?_) ?_)
  · rintro i p ρ' hp ⟨hI, heq⟩
    have hi : i < s1.length := by
      have := (List.getElem?_eq_some_iff.mp hp).1
      rw [enumP_len, List.length_map] at this; exact this
    obtain ⟨x, hx⟩ : ∃ x, s1[i]? = some x := ⟨s1[i], by simp [hi]⟩
    obtain rfl : p = .tuple [.int i, .str x] := by
      have := enumP_get (l := s1.map .str) (i := i) (p := .str x) (by rw [List.getElem?_map, hx]; rfl)
      rw [hp] at this; exact Option.some.inj this
    have hi2 := hpre i hi heq
    obtain ⟨y, hy⟩ : ∃ y, s2[i]? = some y := ⟨s2[i], by simp [hi2]⟩
    refine ⟨_, AsgT.pair K'.hn (.inl rfl) (.inl rfl), ?_⟩
    refine Tr.has (l := [(Str.ofString "c", .val (.str x)), (Str.ofString "i", .val (.int i)), (Str.ofString "common", .val (strsP s1)), (Str.ofString "s1", .val (strsP s1)), (Str.ofString "s2", .val (strsP s2)), (Str.ofString "isabs", .val (.bool true)), (Str.ofString "sep", .val (.str sl))]) (Has.cons rfl (Has.cons rfl (Has.cons (hI.sub _ _ rfl) (Has.cons (hI.sub _ _ rfl) (Has.cons (hI.sub _ _ rfl) (Has.cons (hI.sub _ _ rfl) (Has.cons (hI.sub _ _ rfl) Has.nil))))))) ?_
    refine Tr.cons (TrS.ite (EvT.cmp (Ev.var rfl) (Ev.itemL (l := s2.map .str) (k := (i : Int)) (r := .str y) (Ev.toL (Ev.var rfl)) (Ev.var rfl) (by omega) (by omega) (by rw [Int.toNat_natCast, List.getElem?_map, hy]; rfl)) Cmp.neS) (fun q => ?_) (fun q => ?_))
    · refine Tr.cons (TrS.assign (Ev.sliceL (Ev.toL (Ev.var rfl)) EvP.none (EvP.some (Ev.var rfl)) (by rw [List.length_map]; omega)) ?_ (.inl rfl))
      refine Tr.cons (TrS.brk ?_)
      refine ⟨rfl, Has.cons ?_ (Has.cons rfl (Has.cons rfl Has.nil))⟩
      rw [commonPre_diff hx hy q heq]
      show some (SV.val (PV.list (pickP (s1.map .str) none (some (i : Int))))) = _
      rw [pickP_take, ← List.map_take]; rfl
    · refine Tr.nil (Tr.nil ⟨Has.cons rfl (Has.cons rfl (Has.cons rfl (Has.cons rfl (Has.cons rfl Has.nil)))), fun j hj => ?_⟩)
      rcases Nat.lt_succ_iff_lt_or_eq.mp hj with h | h
      · exact heq j h
      · subst h
        rw [hx, hy]
        have : x.cps.toList = y.cps.toList := by simpa using q
        congr 1
        exact Str.ext' (Array.toList_inj.mp this)
  · rintro ρ' ⟨hI, heq⟩
    rw [enumP_len, List.length_map] at heq
    refine Tr.nil ⟨rfl, ?_⟩
    rw [commonPre_same heq]
    exact Has.cons (hI.sub _ _ rfl) (Has.cons (hI.sub _ _ rfl) (Has.cons (hI.sub _ _ rfl) Has.nil))
  · rintro pf ρ' ⟨rfl, hI⟩
    have hpl : ∃ n, commonPre s1 s2 = s1.take n := by
      clear hpre hmin hjoin hjl hI
      induction s1 generalizing s2 with
      | nil => exact ⟨0, by cases s2 <;> rfl⟩
      | cons a s1 ih => cases s2 with
        | nil => exact ⟨s1.length + 1, by simp [commonPre]⟩
        | cons b s2 =>
          unfold commonPre
          split
          · exact ⟨0, rfl⟩
          · obtain ⟨n, e⟩ := ih s2
            exact ⟨n + 1, by rw [e]; rfl⟩
    obtain ⟨n, hn⟩ := hpl
    have hj := hjoin n
    have hj2 := hjl n
    rw [← hn] at hj hj2
    have hcl : (commonPre s1 s2).length ≤ 64 := by rw [hn, List.length_take]; omega
    refine Tr.has hI ?_
    refine Tr.cons (TrS.assign (p := .str sl) (Ev.ifExp (c := true) (EvT.plain (Ev.var rfl) Tru.bool) (fun _ => Ev.var rfl) (fun q => by cases q)) ?_ (.inl rfl))
    refine Tr.cons (TrS.ret (Ev.binop (Ev.var rfl) (Ev.callM (Ev.var rfl) (Mth.str PySem.F.slot_str_join PySem.F.type_str_join) (EvA.cons (Ev.var rfl) EvA.nil) (Fn.join (by rw [hsl]; omega))) (Op2.addS (by rw [hsl]; omega))) rfl)
end

-- F14
section
open PySem PySem.W PyProof.Rows PySem.Calls
set_option maxRecDepth 100000
set_option maxHeartbeats 4000000
section
variable {prog : Program} {w : World} {A : Around} {E : Value → Shared → Prop} {s : Shared}
theorem mro_dict : mroOf (.type "dict") = pure [.type "dict", .type "object"] := by rw [mroOf_type]; kernel_rfl
theorem lookup_dict_new : typeLookup (.type "dict") "__new__" = pure (some (.builtin "dict.__new__")) := by rw [typeLookup_type, builtinLookup_eq_fast]; kernel_rfl
theorem slot_dict_init' : Slot "dict" "__init__" "dict.__init__" :=
  .of (owner := "dict") (n := "__init__") (by rw [typeLookup_type, builtinLookup_eq_fast]; kernel_rfl) (by decide +kernel) (by decide +kernel) (by decide +kernel)
    (by first | exact .inl (by decide +kernel) | exact .inr (by decide +kernel)) (by rw [isSubtype_type]; kernel_rfl)
theorem called_dict : TypeCalled "dict" "dict.__new__" "dict.__init__" :=
  ⟨by decide +kernel, by decide +kernel, ⟨_, _, mro_dict⟩, madeBy_type mro_dict lookup_dict_new (by decide +kernel), by decide +kernel, by rw [isSubtype_type]; kernel_rfl, slot_dict_init'⟩
theorem typeCall_dict_0 : checkTypeCall "dict" ⟨[], []⟩ = pure () := by kernel_rfl
theorem newCall_dict_0 : checkBuiltinCall "dict.__new__" ⟨[.type "dict"], []⟩ = pure () := by kernel_rfl
theorem entry_dict_new : entryFor table "dict.__new__" = some Builtin.«dict.__new__» := entryFor_of_tree (by kernel_rfl)
theorem entry_dict_init' : entryFor table "dict.__init__" = some Builtin.«dict.__init__» := entryFor_of_tree (by kernel_rfl)
theorem plain_dict_new : plainId "dict.__new__" = true := by decide +kernel
theorem sub_dict_self : isSubtype (.type "dict") (.type "dict") = pure true := by rw [isSubtype_type]; kernel_rfl
theorem owner_dict' : Manifest.owners.lookup (String.ofList ['t', 'c', 'i', 'd'].reverse) = some Manifest.sig_dict := by kernel_rfl
theorem args_dict_init_1' (a : Value) : argsOk "dict.__init__" ⟨[a], []⟩ := by
  unfold argsOk; rw [PySem.signature?_of (id := "dict.__init__") (n := ['_', '_', 't', 'i', 'n', 'i', '_', '_']) (o := ['t', 'c', 'i', 'd']) (by kernel_rfl) owner_dict']; kernel_rfl

theorem call_dict_0 {Q : Value → Shared → Prop} (hQ : Q (.ref s.heap.objs.size) { s with heap := s.heap.push { cls := .type "dict", data := .dict #[] } }) :
    wpAny (model prog w) A (call (.type "dict") []) Q E s := by
  refine callType_codes (Q₁ := fun obj s₁ => obj = .ref s.heap.objs.size ∧ s₁ = { s with heap := s.heap.push { cls := .type "dict", data := .dict #[] } }) called_dict typeCall_dict_0 entry_dict_init'
    (codeAny_of_tree ?_) fun obj s₁ h₁ => ?_
  · show wpAny _ A.in1.in1 (do checkBuiltinCall "dict.__new__" ⟨[.type "dict"], []⟩; again (.builtin "dict.__new__" ⟨[.type "dict"], []⟩)) _ _ s
    refine wpAny_bind (wpAny_of_eq newCall_dict_0 (wpAny_pure ⟨plainId_quiet plain_dict_new _, codeAny_builtin entry_dict_new ?_⟩))
    rw [Around.under_plainId plain_dict_new _]
    have hsub := sub_dict_self
    have hmro := mro_dict
    obtain ⟨hp, g, d, tk, os⟩ := s
    wp_walk
    exact ⟨rfl, rfl⟩
  · obtain ⟨rfl, rfl⟩ := h₁
    have ho : (s.heap.push { cls := .type "dict", data := .dict #[] }).get? s.heap.objs.size = some { cls := .type "dict", data := .dict #[] } := Heap.get?_push_size _ rfl
    refine ⟨⟨_, ho, rfl⟩, args_dict_init_1' _, ?_⟩
    wp_walk
    exact ⟨rfl, hQ⟩
end
end

-- F15
section
open PySem PySem.W PyProof.Rows PySem.Calls
set_option maxRecDepth 100000
set_option maxHeartbeats 4000000
noncomputable def boundFK : Obj := { cls := .type "builtin_function_or_method", data := .fields #[.builtin "dict.fromkeys", .type "dict"] }
theorem type_fk : typeOf (.builtin "dict.fromkeys") = pure (.type "classmethod_descriptor") := by show builtinType _ = _; rw [builtinType_eq_fast]; kernel_rfl
theorem entry_fk : entryFor table "dict.fromkeys" = some Builtin.«dict.fromkeys» := entryFor_of_tree (by kernel_rfl)
theorem quiet_fk {as : Args} : (Code.builtin "dict.fromkeys" as).quiet = true := Code.quiet_builtin _ (by decide +kernel)
theorem type_dict' : isType (.type "dict") = pure true := by first | rfl | kernel_rfl | (unfold isType; rw [isSubtype_type]; kernel_rfl)
section
variable {prog : Program} {w : World} {M : Model} {A : Around} {E : Value → Shared → Prop} {s : Shared}
theorem run_get_fk {P : Fin → Shared → Prop} (h : P (.done (.ret (.ref s.heap.objs.size))) { s with heap := s.heap.push boundFK }) :
    wpAny M A (Builtin.«classmethod_descriptor.__get__» ⟨[.builtin "dict.fromkeys", .none, .type "dict"], []⟩) P E s := by
  unfold Builtin.«classmethod_descriptor.__get__»
  refine wpAny_bind (wpAny_of_eq (a := (.builtin "dict.fromkeys", none, some (.type "dict"))) (by first | rfl | kernel_rfl) ?_)
  dsimp only
  refine wpAny_bind (wpAny_of_eq (a := .type "dict") rfl ?_)
  refine wpAny_bind (wpAny_of_eq (a := true) type_dict' ?_)
  refine KFB.if_not rfl ?_
  refine wpAny_bind (wpAny_of_eq (a := true) ((congrArg (fun o => isSubtype (.type "dict") (.type o)) (show _ = "dict" from by first | decide +kernel | kernel_rfl)).trans sub_dict_self) ?_)
  refine KFB.if_not rfl ?_
  exact wpAny_bind (wpAny_newObj_type (wpAny_pure h))

theorem getm_fk {h₀ : Heap} {pl : Sem Bool} {Q : Value × List Value → Shared → Prop} (B : Base w h₀) (hk : ∀ b o, h₀.get? b = some o → s.heap.get? b = some o)
    (e : findCls (frag w.params) (.type "dict") (.type "type") (PySem.Str.ofString "fromkeys") = some (.get (.builtin "classmethod_descriptor.__get__") (.builtin "dict.fromkeys") .none (.type "dict")))
    (h : Q (.ref s.heap.objs.size, []) { s with heap := s.heap.push boundFK, toks := s.toks + 1 }) :
    wpAny (model prog w) A (getMethod (.type "dict") (PySem.Str.ofString "fromkeys") pl) Q E s := by
  have X := B.X.keeps hk
  have hstub : opaqueClassAbove (.type "dict") = pure none := by unfold opaqueClassAbove; dsimp only; rw [show Manifest.isStub "dict" = false by decide +kernel]; rfl
  have ht : typeOf (.type "dict") = pure (.type "type") := by first | rfl | kernel_rfl
  have L0 : Looks (model prog w) s.heap (typeOf (.type "dict")) (.type "type") := Looks.of_pure ht
  have hg : findIn (frag w.params) (.type "type") "__getattribute__" = some (some (.builtin "type.__getattribute__")) := type_tga
  unfold getMethod specialOf
  refine wpAny_bind (wpAny_bind (L0.here ((looks_findIn X hg).here ?_)))
  dsimp only
  rw [if_pos canon_tga]
  refine wpAny_bind (wpAny_mono (Q := fun v => Q (v, [])) (E := E) ?_ (fun _ _ z => wpAny_pure z) fun _ _ z => z)
  have LO : Looks (model prog w) s.heap (opaqueClassAbove (.type "dict")) none := Looks.of_pure hstub
  refine cls_open X LO L0 hg (looks_hook X (r := none) (by rfl)) (by show subIn (frag w.params) _ _ = _; rfl) e ?_
  show wpAny _ _ (holding [.builtin "dict.fromkeys"] (call (.builtin "classmethod_descriptor.__get__") [.builtin "dict.fromkeys", .none, .type "dict"]) >>= fun v => ret v) _ _ _
  refine wpAny_bind (wpAny_holding (wpAny_call_entry KFB.slot_get type_fk KFB.entry_get (run_get_fk ⟨_, rfl, wpAny_pure (wpAny_pure h)⟩) (KFB.args_get _ _ _)))
end
end

-- F16
section
open PySem PySem.W PyProof.Rows PySem.Calls
set_option maxRecDepth 100000
set_option maxHeartbeats 4000000
theorem plain_fk_loop : plainId "dict.fromkeys.loop" = true := by decide +kernel
theorem entry_fk_loop : entryFor table "dict.fromkeys.loop" = some Builtin.«dict.fromkeys.loop» := entryFor_of_fast (by kernel_rfl)
section
variable {prog : Program} {w : World} {A : Around} {R : Result → Shared → Prop} {E : Value → Shared → Prop} {s : Shared}

theorem fk_loop (hh : A.handled = none) {d it l : Addr} {vs : List Value} {xs : List Str} (hx : StrsAre vs xs) (hdi : d ≠ it) (hli : l ≠ it) (hld : l ≠ d) (hn : xs.length ≤ 10000) :
    ∀ (k i : Nat) (s : Shared) (kvs : List (Str × Value)), vs.length - i = k → i ≤ vs.length → s.heap.IsListIter it l i → s.heap.IsList l vs.toArray → s.heap.DictOf (PySem.strKind prog w) d kvs → kvs.length ≤ i →
    (∀ h' tk, h'.DictOf (PySem.strKind prog w) d ((xs.drop i).foldl (fun kvs x => stored kvs x .none) kvs) → (∀ b o, b ≠ it → b ≠ d → s.heap.get? b = some o → h'.get? b = some o) → R (.ok (.ret (.ref d))) { s with heap := h', toks := tk }) →
    codeAny (model prog w) A (.builtin "dict.fromkeys.loop" ⟨[.ref d, .ref it, .none], []⟩) R s := by
  intro k
  induction k with
  | zero =>
    intro i s kvs hk hi hit hl hd hkn hR
    refine codeAny_builtin entry_fk_loop ?_
    rw [Around.under_plainId plain_fk_loop _]
    show wpAny _ A.in1 (pyNext (.ref it) >>= _) _ _ s
    refine wpAny_bind (wpAny_pyNext_list_end hh hit hl (by simp; omega) fun h' he' => ?_)
    refine wpAny_pure (hR h' s.toks ?_ fun b o h1 _ e => he' b o h1 e)
    have hlen := hx.length
    rw [List.drop_eq_nil_of_le (by omega)]
    exact hd.extBut he' hdi
  | succ k ih =>
    intro i s kvs hk hi hit hl hd hkn hR
    have hlen := hx.length
    have hlt : i < vs.length := by omega
    have hlt2 : i < xs.length := by omega
    obtain ⟨x, t, hxi, hvi⟩ : ∃ x t, xs[i]? = some x ∧ vs[i]? = some (.str x t) := by
      have key : ∀ {vs : List Value} {xs : List Str}, StrsAre vs xs → ∀ i, i < vs.length → ∃ x t, xs[i]? = some x ∧ vs[i]? = some (.str x t) := by
        intro vs xs h
        induction h with
        | nil => intro i hi; simp at hi
        | cons x t _ ih =>
          intro i hi
          cases i with
          | zero => exact ⟨x, t, rfl, rfl⟩
          | succ i => simpa using ih i (by simpa using hi)
      exact key hx i hlt
    refine codeAny_builtin entry_fk_loop ?_
    rw [Around.under_plainId plain_fk_loop _]
    show wpAny _ A.in1 (pyNext (.ref it) >>= _) _ _ s
    refine wpAny_bind (wpAny_pyNext_list_item hit hl (x := .str x t) (by simpa using hvi) fun h₁ hit₁ hs₁ => ?_)
    have hd₁ := hd.extBut hs₁.extBut hdi
    have hT : ({ s with heap := h₁ } : Shared).TypeIs (.ref d) "dict" := by obtain ⟨o, es, ep, ho, hc, _⟩ := hd₁; exact ⟨o, ho, hc.1⟩
    show wpAny _ A.in1 (typeOf (.ref d) >>= _) _ _ _
    refine wpAny_bind (wpAny_typeOf hT ?_)
    rw [if_pos (by decide)]
    show wpAny _ A.in1 (holding [.str x t] (dictSet d (.str x t) .none) >>= _) _ _ _
    refine wpAny_bind (wpAny_holding (wpAny_dictSet_pairs (knd := PySem.strKind prog w) (k := x) (show Value.isStrOf x (.str x t) = true from by simp [Value.isStrOf]) hd₁ (fun h₂ hd₂ hs₂ => ?_) (by rw [sizeLine_eq]; omega)))
    refine wpAny_pure ⟨plainId_quiet plain_fk_loop _, ih (i + 1) _ (stored kvs x .none) (by omega) (by omega) (hit₁.extBut hs₂.extBut (Ne.symm hdi)) ((hl.extBut hs₁.extBut hli).extBut hs₂.extBut hld) hd₂ ?_ fun h' tk hd' hk' => ?_⟩
    · unfold stored; split
      · rw [List.length_map]; omega
      · simp; omega
    · refine hR h' tk ?_ fun b o h1 h2 e => hk' b o h1 h2 (hs₂.extBut b o h2 (hs₁.extBut b o h1 e))
      have : xs.drop i = x :: xs.drop (i + 1) := by
        rw [List.drop_eq_getElem_cons hlt2]; obtain ⟨_, e⟩ := List.getElem?_eq_some_iff.mp hxi; rw [e]
      rw [this, List.foldl_cons]; exact hd'
end
end

-- F17
section
open PySem PySem.W PyProof.Rows PySem.Calls
set_option maxRecDepth 100000
set_option maxHeartbeats 4000000
section
variable {prog : Program} {w : World} {M : Model} {A : Around} {R : Result → Shared → Prop} {E : Value → Shared → Prop} {s : Shared}
theorem check_fk {l : Addr} : checkBoundCall "dict.fromkeys" ⟨[.type "dict", .ref l], []⟩ = pure () := by first | kernel_rfl | rfl

noncomputable def fkPairs (xs : List Str) : List (Str × Value) := xs.foldl (fun kvs x => stored kvs x .none) []

theorem call_fk {x l : Addr} {vs : List Value} {xs : List Str} {Q : Value → Shared → Prop} (hh : A.handled = none) (ho : s.heap.get? x = some boundFK) (hl : s.heap.IsList l vs.toArray) (hx : StrsAre vs xs) (hn : xs.length ≤ 10000)
    (hQ : ∀ h' tk, h'.DictOf (PySem.strKind prog w) s.heap.objs.size (fkPairs xs) → (∀ b o, s.heap.get? b = some o → h'.get? b = some o) → Q (.ref s.heap.objs.size) { s with heap := h', toks := tk }) :
    wpAny (model prog w) A (call (.ref x) [.ref l]) Q E s := by
  refine wpAny_call (codeAny_of_tree ?_)
  show wpAny _ A.in1 (callAny (.ref x) ⟨[.ref l], []⟩) _ _ s
  simp only [callAny]
  refine wpAny_bind (wpAny_load ho ?_)
  simp only [boundFK, show (Value.type "builtin_function_or_method" == Value.type "method" || Value.type "builtin_function_or_method" == Value.type "builtin_function_or_method" || Value.type "builtin_function_or_method" == Value.type "method-wrapper") = true by decide, if_true]
  refine KFB.if_so (by decide) ?_
  refine wpAny_bind (wpAny_of_eq (a := ()) check_fk ?_)
  refine wpAny_bind (wpAny_pure (wpAny_pure ⟨quiet_fk, codeAny_builtin entry_fk ?_⟩))
  rw [Around.under_plainId (show plainId "dict.fromkeys" = true by decide +kernel) _]
  show wpAny _ A.in1 (Builtin.«dict.fromkeys» ⟨[.type "dict", .ref l], []⟩) _ _ s
  unfold Builtin.«dict.fromkeys»
  refine wpAny_bind (wpAny_of_eq (a := true) type_dict' ?_)
  refine KFB.if_not rfl ?_
  refine wpAny_bind (wpAny_of_eq (a := true) sub_dict_self ?_)
  refine KFB.if_not rfl ?_
  refine KFB.if_not rfl ?_
  refine wpAny_bind (wpAny_bind (wpAny_rule ?_))
  refine wpAny_pure ?_
  refine wpAny_bind (wpAny_pure ?_)
  dsimp only
  refine wpAny_bind (call_dict_0 ?_)
  have hlt : l ≠ s.heap.objs.size := by obtain ⟨o, e, _⟩ := hl; exact Nat.ne_of_lt (Heap.lt_size e)
  generalize hH : s.heap.push { cls := .type "dict", data := .dict #[] } = H
  have kH : ∀ b o, s.heap.get? b = some o → H.get? b = some o := fun b o e => hH ▸ Heap.get?_push_of_some _ e
  have hd : H.get? s.heap.objs.size = some { cls := .type "dict", data := .dict #[] } := hH ▸ Heap.get?_push_size _ rfl
  have hl' : H.IsList l vs.toArray := hl.at fun o => kH _ o
  refine wpAny_holding ?_
  refine wpAny_bind (wpAny_typeOf (s := { s with heap := H }) hl'.typeIs ?_)
  refine wpAny_bind (wpAny_typeOf (s := { s with heap := H }) ⟨_, hd, rfl⟩ ?_)
  refine KFB.if_not (by decide) ?_
  refine wpAny_bind (wpAny_typeOf (s := { s with heap := H }) ⟨_, hd, rfl⟩ ?_)
  refine KFB.if_not (by decide) ?_
  refine wpAny_bind (wpAny_pyIter_list hl' ?_)
  have hsz : H.objs.size = s.heap.objs.size + 1 := by rw [← hH, Heap.size_push]
  have hdi : s.heap.objs.size ≠ H.objs.size := by rw [hsz]; exact (Nat.succ_ne_self _).symm
  have hli : l ≠ H.objs.size := by obtain ⟨o, e, _⟩ := hl'; exact Nat.ne_of_lt (Heap.lt_size e)
  refine wpAny_pure ⟨plainId_quiet plain_fk_loop _, fk_loop hh hx hdi hli hlt hn _ 0 _ [] rfl (Nat.zero_le _) ⟨_, Heap.get?_push_size _ rfl, rfl, rfl⟩ (hl'.push _) ?_ (Nat.le_refl _) fun h' tk hd' hk' => ?_⟩
  · exact ⟨_, #[], 0, Heap.get?_push_of_some _ hd, ⟨rfl, rfl, rfl⟩, rfl, fun e he => by simp at he, by first | exact .nil | (unfold Pairs; trivial) | simp [Pairs], by simp⟩
  · refine hQ h' tk hd' fun b o e => hk' b o ?_ ?_ (Heap.get?_push_of_some _ (kH b o e))
    · exact Nat.ne_of_lt (Heap.lt_size (kH b o e))
    · exact Nat.ne_of_lt (Heap.lt_size e)
end
end

-- F18
section
open PySem PySem.W PyProof.Rows PySem.Calls
set_option maxRecDepth 100000
set_option maxHeartbeats 4000000
section
variable {prog : Program} {w : World} {A : Around} {E : Value → Shared → Prop} {s : Shared}
theorem dict_len_lookup : typeLookup (.type "dict") "__len__" = pure (some (.builtin "dict.__len__")) := by rw [typeLookup_type, builtinLookup_eq_fast]; kernel_rfl

/-- list(d) -/
theorem call_list_dict {d : Addr} {kvs : List (Str × Value)} {Q : Value → Shared → Prop} (hh : A.handled = none) (hds : (d == sysModules) = false) (hm : s.heap.DictOf (PySem.strKind prog w) d kvs) (hn : kvs.length ≤ sizeLine)
    (hQ : ∀ h' tk (acc : List Value), Heap.PlainList h' s.heap.objs.size acc.toArray → acc.length = kvs.length → (∀ (j : Nat) v, acc[j]? = some v → ∃ k x t, kvs[j]? = some (k, x) ∧ v = .str k t) → (∀ b o, s.heap.get? b = some o → h'.get? b = some o) → Q (.ref s.heap.objs.size) { s with heap := h', toks := tk }) :
    wpAny (model prog w) A (call (.type "list") [.ref d]) Q E s := by
  refine callType_codes (Q₁ := fun obj s₁ => obj = .ref s.heap.objs.size ∧ s₁ = { s with heap := s.heap.push { cls := .type "list", data := .seq #[] } }) PySem.F.called_list (PySem.F.typeCall_list_1 _) PySem.F.entry_list_init
    (code_list_new _ ⟨rfl, rfl⟩) fun obj s₁ h₁ => ?_
  obtain ⟨rfl, rfl⟩ := h₁
  have hlt : d < s.heap.objs.size := by obtain ⟨o, es, ep, ho, _⟩ := hm; exact Heap.lt_size ho
  have hdS : d ≠ s.heap.objs.size := Nat.ne_of_lt hlt
  have hS : (s.heap.push { cls := .type "list", data := .seq #[] }).get? s.heap.objs.size = some { cls := .type "list", data := .seq #[] } := Heap.get?_push_size _ rfl
  refine ⟨⟨_, hS, rfl⟩, PySem.F.args_list_init_2 _ _, ?_⟩
  show wpAny _ A.in1.in1 (do let old ← Builtin.List.listItems (.ref s.heap.objs.size); Builtin.List.listUpdate (.ref s.heap.objs.size) (fun _ => #[]); letGo old.toList.reverse; Builtin.List.listExtendWith (.ref s.heap.objs.size) (.ref d) .none) _ _ _
  refine wpAny_bind ?_
  unfold Builtin.List.listItems
  refine wpAny_bind (wpAny_seqItems hS rfl (wpAny_pure ?_))
  show wpAny _ A.in1.in1 (updateSeq s.heap.objs.size (fun _ => #[]) >>= fun _ => letGo (#[] : Array Value).toList.reverse >>= fun _ => Builtin.List.listExtendWith (.ref s.heap.objs.size) (.ref d) .none) _ _ _
  refine wpAny_bind (wpAny_updateSeq hS rfl ?_)
  have hS₂ := Heap.get?_update_self (Obj.mapSeq (fun _ => (#[] : Array Value))) hS rfl
  generalize hH : (s.heap.push { cls := .type "list", data := .seq #[] }).update s.heap.objs.size (Obj.mapSeq (fun _ => (#[] : Array Value))) = H at hS₂ ⊢
  have kH : ∀ b o, s.heap.get? b = some o → H.get? b = some o := fun b o e => by
    have hb : s.heap.objs.size ≠ b := Nat.ne_of_gt (Heap.lt_size e)
    rw [← hH]; exact (Heap.get?_update_other _ _ hb).trans (Heap.get?_push_of_some _ e)
  have szH : H.objs.size = s.heap.objs.size + 1 := by rw [← hH]; first | (rw [Heap.size_update, Heap.size_push]) | (simp [Heap.size_push])
  refine wpAny_bind (wpAny_letGo ?_)
  obtain ⟨o, es, ep, ho, hc, hdat, hk, hp, hnd⟩ := id hm
  have hat : H.DictAt (PySem.strKind prog w) d kvs ep := ⟨o, es, kH _ _ ho, hc, hdat, hk, hp, hnd⟩
  have hT : ({ s with heap := H } : Shared).TypeIs (.ref d) "dict" := ⟨o, kH _ _ ho, hc.1⟩
  unfold Builtin.List.listExtendWith
  refine wpAny_bind (wpAny_typeOf hT ?_)
  have e1 : Builtin.List.listSameRef (.ref s.heap.objs.size) (.ref d) = false := by simp [Builtin.List.listSameRef, Ne.symm hdS]
  have e2 : (Value.type "dict" == Value.type "list") = false := by decide
  have e3 : (Value.type "dict" == Value.type "tuple") = false := by decide
  simp only [e1, e2, e3, Bool.or_false, Bool.false_eq_true, if_false]
  refine wpAny_bind (wpAny_pyIter_dict (s := { s with heap := H }) hds hat ?_)
  have hT2 : ({ s with heap := H.push { cls := .type "dict_keyiterator", data := .fields #[.ref d, .int 0 0, .int kvs.length 0, .int ep 0] } } : Shared).TypeIs (.ref d) "dict" := ⟨o, Heap.get?_push_of_some _ (kH _ _ ho), hc.1⟩
  refine wpAny_bind (wpAny_holding ?_)
  have hsp : splitId "dict.__len__" = some ("dict", "__len__") := by decide +kernel
  unfold Builtin.List.listLengthHint
  refine wpAny_bind (wpAny_specialOf hT2 dict_len_lookup ?_)
  dsimp only
  rw [hsp]
  dsimp only
  refine wpAny_bind (wpAny_isInstance (b := true) hT2 (by rw [isSubtype_type]; kernel_rfl) ?_)
  refine KFB.if_not rfl ?_
  refine KFB.if_so (by decide +kernel) ?_
  refine wpAny_bind (wpAny_typeOf hT2 ?_)
  dsimp only
  refine wpAny_pure ?_
  refine KFB.if_so (by decide +kernel) ?_
  refine wpAny_bind (wpAny_rule ?_)
  generalize hJ : H.push { cls := .type "dict_keyiterator", data := .fields #[.ref d, .int 0 0, .int kvs.length 0, .int ep 0] } = J
  have kJ : ∀ b o, H.get? b = some o → J.get? b = some o := fun b o e => hJ ▸ Heap.get?_push_of_some _ e
  have hit : J.IsKeyIter H.objs.size d 0 kvs.length ep := hJ ▸ ⟨_, Heap.get?_push_size _ rfl, rfl, rfl⟩
  have hS₃ := kJ _ _ hS₂
  refine wpAny_bind ?_
  show wpAny _ A.in1.in1 (updateSeq s.heap.objs.size (·.push .none) >>= fun _ => updateSeq s.heap.objs.size (·.pop)) _ _ _
  refine wpAny_bind (wpAny_updateSeq hS₃ rfl ?_)
  have hS₄ := Heap.get?_update_self (Obj.mapSeq (·.push Value.none)) hS₃ rfl
  refine wpAny_updateSeq hS₄ rfl ?_
  have hS₅ := Heap.get?_update_self (Obj.mapSeq (·.pop)) hS₄ rfl
  generalize hK : (J.update s.heap.objs.size (Obj.mapSeq (·.push Value.none))).update s.heap.objs.size (Obj.mapSeq (·.pop)) = K at hS₅ ⊢
  have kK : ∀ b o, b ≠ s.heap.objs.size → J.get? b = some o → K.get? b = some o := fun b o hb e => by
    rw [← hK]; exact (Heap.get?_update_other _ _ (Ne.symm hb)).trans ((Heap.get?_update_other _ _ (Ne.symm hb)).trans e)
  have hHS : H.objs.size ≠ s.heap.objs.size := by rw [szH]; exact Nat.succ_ne_self _
  have hdI : d ≠ H.objs.size := fun q => by rw [q, szH] at hlt; exact absurd hlt (Nat.not_lt.mpr (Nat.le_succ _))
  have W := (Walks.dictKeys (prog := prog) (w := w) (A := A.in1.in1) (knd := PySem.strKind prog w) hh H.objs.size d hdI kvs ep).toS
  have hSf : s.heap.objs.size ∉ [H.objs.size, d] := by
    intro q
    rcases List.mem_cons.mp q with q | q
    · exact hHS q.symm
    · exact hdS (List.mem_singleton.mp q).symm
  refine wpAny_pure ⟨plainId_quiet PySem.F.plain_extend_loop _, codeAny_extend_loopS W hn _ hSf _ kvs.length 0 { s with heap := K } _ _ rfl (Nat.zero_le _) ⟨?_, ?_⟩ hS₅ (ItemsOf.nil _) fun s' acc' c' hm' hS' hacc => ?_⟩
  · obtain ⟨oo, ho', r⟩ := hit; exact ⟨oo, kK _ _ hHS ho', r⟩
  · exact hat.at' fun o e => kK _ _ hdS (kJ _ _ e)
  · obtain ⟨h1, h2, h3, h4, _⟩ := hm'
    obtain ⟨hh', g, dr, tk, os⟩ := s'
    dsimp only at h2 h3 h4
    subst h2 h3 h4
    refine ⟨rfl, hQ hh' tk acc'.toList ⟨c', by simpa using hS'⟩ (by simpa using hacc.1) (fun j v hv => ?_) fun b o e => ?_⟩
    · obtain ⟨k, x, hkx, hv'⟩ := hacc.2 j v (by simpa using hv)
      obtain ⟨t, rfl⟩ := Value.isStrOf_shape hv'
      exact ⟨k, x, t, hkx, rfl⟩
    · have hb : b ≠ s.heap.objs.size := Nat.ne_of_lt (Heap.lt_size e)
      refine h1 b o (fun q => ?_) (kK b o hb (kJ _ _ (kH _ _ e)))
      rcases List.mem_cons.mp q with q | q
      · exact hb q
      · have := List.mem_singleton.mp q
        have hlt2 := Heap.lt_size e
        rw [this, szH] at hlt2
        exact absurd hlt2 (Nat.not_lt.mpr (Nat.le_succ _))
end
end

-- C10
section
open PySem PySem.W PyProof.Rows PySem.Calls
set_option maxRecDepth 100000
set_option maxHeartbeats 8000000
theorem warm10 : PySem.Challenge.rw_un0038_01 = PySem.Challenge.rw_un0038_01 ∧ frag = frag := by
  k_fill
  exact ⟨rfl, rfl⟩
theorem enterRaw {w : World} {A : Around} {h₀ : Heap} {ps qs : List PV} {names : List Str} {Rv : Value → Heap → Prop} {n : Nat}
    {name qual : Str} {params : Arguments} {body : List Stmt} {scope : Scope} {dV kV doc pm cdv ct oc : Value} {an od : Option Addr} {osl : Array (Option Value)} {f : Addr}
    (B : Base w h₀) (K : Ok (n + 1) A)
    (ho : (frag w.params).lookup f = some ⟨oc, od, .func (fnOf name qual params body scope dV kV doc pm an cdv ct), osl⟩) (hcd : codeIn (frag w.params) cdv qual = true)
    (hbind : BindsP PySem.Challenge.rw_un0038_01.row.prog w (fnOf name qual params body scope dV kV doc pm an cdv ct) ps names qs)
    (hloc : ∀ y ∈ names, scope.names.lookup y = some .local) (hnd : names.Nodup)
    (h : ∀ h L X A' s₁, Base w h → Ok n A' → Sit (envOf qual scope L f cdv) (names.zip (qs.map .val)) X h s₁.heap → wpAny (model PySem.Challenge.rw_un0038_01.row.prog w) A' (execs body (envOf qual scope L f cdv)) (fun fl s' => Keeps s₁ s' ∧ ∃ v, fl = .ret v ∧ Rv v s'.heap) (fun _ _ => False) s₁)
    (hco : scope.isCoroutine = false := by rfl) (hgen : scope.isGenerator = false := by rfl) (hk : scope.kind = .function := by rfl)
    (hcell : ∀ x ∈ scope.names, x.2 ≠ .cell := by decide) : ∀ X s vs, (∀ b o, h₀.get? b = some o → s.heap.get? b = some o) → Live X s.heap → Reps s.heap X vs ps → wpAny (model PySem.Challenge.rw_un0038_01.row.prog w) A (call (.ref f) vs) (fun v s' => Keeps s s' ∧ Rv v s'.heap) (fun _ _ => False) s := fun X s vs hs L hr => by
  have B' := B.keeps hs
  obtain ⟨mean, mg, mb, T⟩ := B'.T
  refine wpAny_call (codeAny_call_function (fd := fnOf name qual params body scope dV kV doc pm an cdv ct) (body := body) (by have := K.dp; omega) (B'.X _ _ ho) rfl hco hgen rfl (codeRec_of B'.X hcd)
    (hbind _ X s vs _ _ B' L hr fun h₁ tk₁ us hk₁ hus => ?_))
  have L₁ : Live X h₁ := Live.keeps L hk₁
  have B₁ := B'.keeps hk₁
  refine wpAny_newFunctionEnv hcell (fun x hx => hloc _ (List.of_mem_zip hx).1) (fun h₂ hns hsb => ⟨(T.nolimit.keeps hk₁).fresh _ hsb, codeAny_func ?_⟩) hk
  have hk₂ : ∀ b o, h₁.get? b = some o → h₂.get? b = some o := fun b o e => hsb.extBut b o (Nat.ne_of_lt (Heap.lt_size e)) (Heap.get?_push_of_some _ e)
  have S : Sit (envOf qual scope h₁.objs.size f cdv) (names.zip (qs.map .val)) (h₁.objs.size :: X) h₁ h₂ := {
    kind := hk
    glob := rfl
    blt := rfl
    keep := hk₂
    live := fun x hx => by
      rcases List.mem_cons.mp hx with rfl | hx
      · obtain ⟨o, _, _, e, _⟩ := hns; exact ⟨o, e⟩
      · obtain ⟨o, e⟩ := L₁ x hx; exact ⟨o, hk₂ _ _ e⟩
    loc := List.mem_cons_self
    locN := get_size _
    ns := ⟨_, hns⟩
    cel := fun x c e => by simp [envOf] at e
    inj := fun x y c e => by simp [envOf] at e
    val := fun x p e => by
      obtain ⟨v, hv, hrep⟩ := zip_reps hus x p e
      have hm : x ∈ names := (List.of_mem_zip (mem_of_lookup hv)).1
      refine ⟨v, .inl ⟨hloc x hm, _, hns, ?_⟩, hrep.map fun a o ha ho => ⟨fun q => ?_, hk₂ a o ho⟩⟩
      · exact lookup_rev hnd hv
      · rcases List.mem_cons.mp q with rfl | q
        · rw [get_size] at ho; cases ho
        · exact ha q
    own := fun x l e => by
      exfalso
      have := lookup_mem' e
      have := (List.of_mem_zip this).2
      simp at this }
  refine wpAny_mono (h h₁ h₁.objs.size (h₁.objs.size :: X) _ _ B₁ K.deeper S) (fun fl s' e => ?_) fun _ _ x => x.elim
  obtain ⟨⟨h', tk, rfl, kk⟩, v, rfl, hv⟩ := e
  exact ⟨⟨h', tk, rfl, fun b o e => kk b o (hk₂ b o (hk₁ b o e))⟩, hv⟩

theorem kwd_ns {w : World} {h : Heap} (B : Base w h) : ∃ m, h.Ns 175 m ∧ m (Str.ofString "unhashable_fallback") = some (.bool false) := by
  have X := B.X
  have e : ∃ hsh, (frag w.params).lookup 175 = some ⟨.type "dict", none, .dict #[{ hash := hsh, key := .str (Str.ofString "unhashable_fallback") 429, val := .bool false }] 1, #[]⟩ := ⟨_, by k_is⟩
  obtain ⟨hsh, e⟩ := e
  refine ⟨_, ⟨_, _, _, X _ _ e, rfl, ?_, fun _ => rfl⟩, ?_⟩
  · intro e he
    obtain rfl := by simpa using he
    exact ⟨_, _, rfl⟩
  · first | rfl | decide +kernel | simp [nsFind]

theorem bind_ded {M : Model} {A : Around} {E : Value → Shared → Prop} {s : Shared} {v : Value} {Q : List (Str × Value) → Shared → Prop} {fd : FuncData} {m : Str → Option Value} (hp : fd.params.posonlyargs = []) (ha : fd.params.args.map (·.arg) = [Str.ofString "params"]) (hk : fd.params.kwonlyargs.map (·.arg) = [Str.ofString "unhashable_fallback"]) (hva : fd.params.vararg = none) (hkw : fd.params.kwarg = none) (hd : fd.defaults = .none) (hkd : fd.kwdefaults = .ref 175)
    (hn : s.heap.Ns 175 m) (hm : m (Str.ofString "unhashable_fallback") = some (.bool false)) (h : Q [(Str.ofString "params", v), (Str.ofString "unhashable_fallback", .bool false)] s) :
    wpAny M A (bindArgs fd ⟨[v], []⟩) Q E s := by
  have e1 : (Str.ofString "params" == Str.ofString "params") = true := by decide
  have e2 : (Str.ofString "unhashable_fallback" == Str.ofString "params") = false := by decide
  have e3 : (Str.ofString "unhashable_fallback" == Str.ofString "unhashable_fallback") = true := by decide
  have e4 : (Str.ofString "params" == Str.ofString "unhashable_fallback") = false := by decide
  unfold bindArgs
  simp only [hp, ha, hk, hva, hkw, hd, hkd, List.map_nil, List.nil_append, List.forIn_nil, List.length_cons, List.length_nil, List.zip_cons_cons, List.zip_nil_right, pure_bind, seqItems?, notAStandIn]
  refine KFB.if_not rfl ?_
  refine KFB.if_not rfl ?_
  refine wpAny_bind ?_
  show wpAny _ _ (forIn ([] : List (Str × Value)) _ _) _ _ _
  rw [List.forIn_nil]
  refine wpAny_pure ?_
  refine wpAny_bind ?_
  rw [List.forIn_cons]
  refine wpAny_bind ?_
  refine KFB.if_so rfl ?_
  refine wpAny_bind (wpAny_nsGet hn ?_)
  rw [hm]
  refine wpAny_pure ?_
  dsimp only
  rw [List.forIn_nil]
  refine wpAny_pure ?_
  refine KFB.if_not rfl ?_
  exact wpAny_pure h

theorem base_far {w : World} {h : Heap} (B : Base w h) : sysModules < h.objs.size := by
  have e : ∃ o, (frag w.params).lookup 175 = some o := ⟨_, by k_is⟩
  obtain ⟨o, e⟩ := e
  have := Heap.lt_size (B.X _ _ e)
  exact Nat.lt_trans (by decide) this

noncomputable def IsDed (w : World) (xs : List Str) (v : Value) (h : Heap) : Prop := ∃ d, v = .ref d ∧ (d == sysModules) = false ∧ h.DictOf (PySem.strKind PySem.Challenge.rw_un0038_01.row.prog w) d (fkPairs xs)

theorem callWith_fk {M : Model} {A : Around} {E : Value → Shared → Prop} {s : Shared} {pos : Pos} {u : Addr} {first : List Value} {env : Env} {e : Expr} {Q : Value → Shared → Prop}
    (h : wpAny M A (eval e env) (fun v s₁ => s₁.heap.get? u = some boundFK ∧ wpAny M A (call (.ref u) (first ++ [v])) Q E s₁) E s)
    (he : starEach [e] env = [(false, eval e env)] := by rfl) :
    wpAny M A (callWith pos (.ref u) first (backTo pos (starEach [e] env)) []) Q E s := by
  rw [he]
  have hplain : (backTo pos [(false, eval e env)]).any (·.1) = false := rfl
  unfold callWith
  refine wpAny_bind (wpAny_holding (wpAny_mono (Q := fun (x : Args) s₁ => s₁.heap.get? u = some boundFK ∧ wpAny M A (call (.ref u) (first ++ x.pos) x.kw) Q E s₁) ?_ (fun x s₁ h₁ => wpAny_bind (wpAny_standAt ?_)) fun _ _ x => x))
  · refine Calls.evalArgs_plain ?_
    refine Calls.spliced_cons ?_
    refine wpAny_mono h (fun v s₁ h₁ => ?_) fun _ _ x => x
    exact Calls.spliced_nil h₁
  obtain ⟨ho, hcall⟩ := h₁
  simp only [hplain, List.any_nil, Bool.or_false]
  refine wpAny_bind (m := keeperOf (.ref u)) ?_
  unfold keeperOf
  refine wpAny_bind (wpAny_load ho ?_)
  simp only [boundFK, show (Value.type "builtin_function_or_method" != Value.type "method") = true by decide, show (Value.type "builtin_function_or_method" == Value.type "builtin_function_or_method" || Value.type "builtin_function_or_method" == Value.type "method-wrapper") = true by decide, if_true]
  refine wpAny_pure ?_
  exact wpAny_bind (wpAny_mono hcall (fun r s₂ hr => wpAny_bind (wpAny_holding (wpAny_point (wpAny_pure hr)))) fun _ _ x => x)

theorem dedup_c {w : World} {A : Around} {h₀ : Heap} {xs : List Str} (B : Base w h₀) (K : Ok 1 A) (hn : xs.length ≤ 1000) :
    ∀ X s vs, (∀ b o, h₀.get? b = some o → s.heap.get? b = some o) → Live X s.heap → Reps s.heap X vs [.list (xs.map .str)] → wpAny (model PySem.Challenge.rw_un0038_01.row.prog w) A (call (.ref 182) vs) (fun v s' => Keeps s s' ∧ IsDed w xs v s'.heap) (fun _ _ => False) s := by
  refine' enterRaw (names := [Str.ofString "params", Str.ofString "unhashable_fallback"]) (qs := [.list (xs.map .str), .bool false]) ?kB ?kK ?ho ?hcd ?hbind ?hloc ?hnd ?_ ?h1 ?h2 ?h3 ?h4
  (case kB => assumption)
  (case kK => assumption)
  (case ho => k_is)
  (case hcd => k_is)
  (case hloc => decide)
  (case hnd => decide)
  (case h1 => rfl)
  (case h2 => rfl)
  (case h3 => rfl)
  (case h4 => decide)
  (case hbind =>
    intro A X s vs Q E B L hr hQ
    obtain ⟨v, rfl, hv⟩ := hr.one
    obtain ⟨m, hns, hm⟩ := kwd_ns B
    exact bind_ded rfl rfl rfl rfl rfl rfl rfl hns hm (hQ s.heap s.toks [v, .bool false] (fun b o e => e) (Reps.cons hv (Reps.cons (.bool _) Reps.nil))))
  intro h L X A' s₁ B' K' S
  obtain ⟨v, hvar, hrep⟩ := S.val (Str.ofString "params") (.list (xs.map .str)) rfl
  refine wpAny_execs_cons (wpAny_Try_except (wpAny_execs_cons (wpAny_Return_some ?_)))
  refine MethodCall_ (wp_glob S (v := .type "dict") (by walk_at "m_glob") (by with_unfolding_all rfl) (by decide) ?_) (he := by with_unfolding_all rfl)
  refine getm_fk B' S.keep (by k_is) ?_
  refine callWith_fk ?_
  cases hrep with
  | list hx hl hn' hi =>
  have kp : ∀ b o, s₁.heap.get? b = some o → (s₁.heap.push boundFK).get? b = some o := fun b o e => Heap.get?_push_of_some _ e
  refine wp_var (S.keeps kp) (hvar.keeps kp) (by decide) ?_
  refine ⟨Heap.get?_push_size _ rfl, ?_⟩
  refine call_fk K'.hn (Heap.get?_push_size _ rfl) (by obtain ⟨o, e, r⟩ := hl; exact ⟨o, kp _ _ e, r⟩) (reps_strsAre (h := s₁.heap) (X := X) ⟨hn', hi⟩) (by omega) ?_
  intro h' tk hD hk
  refine ⟨?_, _, rfl, _, rfl, ?_, hD⟩
  · exact ⟨h', tk, rfl, fun b o e => hk b o (kp b o e)⟩
  · have B₁ := B'.keeps S.keep
    have := base_far (B₁.keeps kp)
    exact beq_eq_false_iff_ne.mpr (Nat.ne_of_gt this)

theorem fkPairs_len (xs : List Str) : (fkPairs xs).length ≤ xs.length := by
  have : ∀ (xs : List Str) (kvs : List (Str × Value)), (xs.foldl (fun kvs x => stored kvs x Value.none) kvs).length ≤ kvs.length + xs.length := by
    intro xs
    induction xs with
    | nil => intro kvs; exact Nat.le_refl _
    | cons x r ih =>
      intro kvs
      have h1 := ih (stored kvs x .none)
      have h2 := stored_length_le kvs x Value.none
      simp only [List.foldl_cons, List.length_cons]
      omega
  simpa [fkPairs] using this xs []
/-- list(_deduplicate(x)) for a list of strs -/
theorem ev_dedup {w : World} {A : Around} {env : Env} {h₀ : Heap} {ρ : PEnv} {xs : List Str} {e : Expr} {np np' pos pos' : Pos} (B : Base w h₀) (K : Ok 1 A) (hn : xs.length ≤ 1000)
    (hl : Glob h₀ (Str.ofString "list") (.type "list")) (hg : Glob h₀ (Str.ofString "_deduplicate") (.ref 182)) (hi : IsFun h₀ 182)
    (ha : EvA PySem.Challenge.rw_un0038_01.row.prog w A env h₀ ρ [e] [.list (xs.map .str)])
    (hk : env.kindOf (Str.ofString "list") = some .globalImplicit := by with_unfolding_all rfl) (hk' : env.kindOf (Str.ofString "_deduplicate") = some .globalImplicit := by with_unfolding_all rfl)
    (he : starEach [e] env = (false, eval e env) :: starEach [] env := by rfl)
    (he' : starEach [Expr.Call (.Name (Str.ofString "_deduplicate") np') [e] [] pos'] env = (false, eval (Expr.Call (.Name (Str.ofString "_deduplicate") np') [e] [] pos') env) :: starEach [] env := by rfl) :
    Ev PySem.Challenge.rw_un0038_01.row.prog w A env h₀ ρ (.Call (.Name (Str.ofString "list") np) [.Call (.Name (Str.ofString "_deduplicate") np') [e] [] pos'] [] pos) (.list (((fkPairs xs).map (·.1)).map .str)) := fun X s S => by
  refine Call_ (wp_glob S hl hk (by decide) (callWith_ty (he := he') (hplain := rfl) ?_))
  rw [he']
  refine Calls.spliced_cons ?_
  obtain ⟨o, fd, ho, hd'⟩ := hi
  refine Call_ (wp_glob S hg hk' (by decide) (callWith_def (he := he) hd' (wpAny_mono (ha X s pos' S) (fun vs s₁ h₁ => ⟨Kp.hh h₁.1 _ _ (S.keep _ _ ho), wpAny_mono (dedup_c B K hn X s₁ vs (fun b o e => Kp.hh h₁.1 _ _ (S.keep _ _ e)) (Live.keeps S.live (Kp.hh h₁.1)) h₁.2) (fun v s₂ h₂ => ?_) fun _ _ x => x.elim⟩) fun _ _ x => x)))
  refine Calls.spliced_nil ?_
  obtain ⟨k₂, d, rfl, hds, hD⟩ := h₂
  have k12 := Kp.trans h₁.1 k₂
  refine call_list_dict K.hn hds hD (Nat.le_trans (fkPairs_len xs) (Nat.le_trans hn (by decide))) ?_
  intro h' tk acc hacc hlen hel hk
  refine ⟨Kp.trans k12 ⟨h', tk, rfl, hk⟩, ?_⟩
  have hX : s₂.heap.objs.size ∉ X := fun q => by
    obtain ⟨o, ho⟩ := (Live.keeps S.live (Kp.hh k12)) _ q
    exact absurd (Heap.lt_size ho) (Nat.lt_irrefl _)
  refine .list (vs := acc) hX hacc.isList (by simpa using hlen) ?_
  intro i v p hv hp
  obtain ⟨k, x, t, hkx, rfl⟩ := hel i v hv
  have : p = .str k := by
    simp only [List.getElem?_map, hkx, Option.map_some, Option.some.injEq] at hp
    exact hp.symm
  subst this
  exact .str _ _
end

-- F19
section
open PySem PySem.W PyProof.Rows PySem.Calls
set_option maxRecDepth 10000

/-- an own list turns -/
theorem Sit.turn {env : Env} {ρ : PEnv} {X : List Addr} {h₀ h h' : Heap} {x : Str} {a : Addr} {l l' : List PV} {vs vs' : List Value} (hx : ρ.lookup x = some (.own l)) (S : Sit env ρ X h₀ h) (hv : Var env h x (.ref a)) (ha : a ∈ X)
    (haN : h₀.get? a = Option.none) (hdd : ∀ y l', ρ.lookup y = some (.own l') → y ≠ x → ¬ Var env h y (.ref a)) (hl : h.PlainList a vs.toArray) (hl' : h'.PlainList a vs'.toArray) (hs' : Heap.SameBut a h h') (hr' : Reps h X vs' l') : Sit env ((x, .own l') :: ρ) X h₀ h' := by
  have rk : ∀ {v p}, Rep h X v p → Rep h' X v p := fun r => r.but fun b o hb ho => (hs'.2 b fun q => hb (q ▸ ha)).trans ho
  have vk : ∀ {y v}, Var env h y v → Var env h' y v := fun hv => by
    rcases hv with ⟨e, m, hn, hm⟩ | ⟨e, c, hc, hv⟩
    · exact .inl ⟨e, m, hn.sameBut hs' (Ne.symm (list_ne_ns hl hn)), hm⟩
    · obtain ⟨o, ho, hd⟩ := id hv
      exact .inr ⟨e, c, hc, o, (hs'.2 c (Ne.symm (list_ne_cell hl hv))).trans ho, hd⟩
  exact {
    kind := S.kind
    glob := S.glob
    blt := S.blt
    keep := fun b o e => (hs'.2 b fun q => by rw [q, haN] at e; cases e).trans (S.keep b o e)
    live := fun y hy => by
      by_cases q : y = a
      · rw [q]; obtain ⟨n, e⟩ := hl'; exact ⟨_, e⟩
      · obtain ⟨o, ho⟩ := S.live y hy; exact ⟨o, (hs'.2 y q).trans ho⟩
    loc := S.loc
    locN := S.locN
    ns := by obtain ⟨m, hn⟩ := S.ns; exact ⟨m, hn.sameBut hs' (Ne.symm (list_ne_ns hl hn))⟩
    cel := fun y c e => by
      obtain ⟨h1, h2, u, h3⟩ := S.cel y c e
      obtain ⟨o, ho, hd⟩ := id h3
      exact ⟨h1, h2, u, o, (hs'.2 c (Ne.symm (list_ne_cell hl h3))).trans ho, hd⟩
    inj := S.inj
    val := fun y q e => by
      rw [List.lookup_cons] at e
      cases hq : y == x with
      | true => rw [hq] at e; cases e
      | false =>
        rw [hq] at e
        obtain ⟨u, h1, h2⟩ := S.val y q e
        exact ⟨u, vk h1, rk h2⟩
    own := fun y l'' e => by
      rw [List.lookup_cons] at e
      cases hq : y == x with
      | true =>
        rw [hq] at e; cases e
        obtain rfl : y = x := by simpa using hq
        refine ⟨a, vk hv, ha, haN, ⟨vs', hl', ?_⟩, fun z l' e' hne hc => ?_⟩
        · exact ⟨hr'.1, fun i u q h1 h2 => rk (hr'.2 i u q h1 h2)⟩
        · rw [List.lookup_cons] at e'
          have hz : (z == y) = false := by simpa using hne
          rw [hz] at e'
          obtain ⟨b, hb, _⟩ := S.own z l' e'
          have : Value.ref b = .ref a := (vk hb).fun hc
          cases this
          exact hdd z l' e' hne hb
      | false =>
        rw [hq] at e
        have hyx : y ≠ x := by simpa using hq
        obtain ⟨b, h1, h2, h3, ⟨ws, h4, h5⟩, h6⟩ := S.own y l'' e
        have hba : b ≠ a := fun q => by subst q; exact h6 x l hx (Ne.symm hyx) hv
        refine ⟨b, vk h1, h2, h3, ⟨ws, h4.extBut hs'.extBut hba, h5.1, fun i u q k1 k2 => rk (h5.2 i u q k1 k2)⟩, fun z l'' e' hne hcz => ?_⟩
        rw [List.lookup_cons] at e'
        cases qz : z == x with
        | true =>
          rw [qz] at e'; cases e'
          obtain rfl : z = x := by simpa using qz
          have : Value.ref a = .ref b := (vk hv).fun hcz
          cases this
          exact hba rfl
        | false =>
          rw [qz] at e'
          obtain ⟨c, hc', _⟩ := S.own z l'' e'
          have : Value.ref c = .ref b := (vk hc').fun hcz
          cases this
          exact h6 z l'' e' hne hc' }

noncomputable def strIs (x : Str) : Value → Bool
  | .str a _ => a == x
  | _ => false
theorem Reps.strs_at {h : Heap} {X : List Addr} {vs : List Value} {xs : List Str} (r : Reps h X vs (xs.map .str)) {i : Nat} {v : Value} (hv : vs[i]? = some v) : ∃ x t, xs[i]? = some x ∧ v = .str x t := by
  have hi : i < xs.length := by
    have := (List.getElem?_eq_some_iff.mp hv).1
    have := r.1; simp at this; omega
  have := r.2 i v (.str xs[i]) hv (by simp [hi])
  cases this with
  | str x t => exact ⟨_, t, by simp [hi], rfl⟩
theorem Reps.eraseIdx {h : Heap} {X : List Addr} {vs : List Value} {ps : List PV} (r : Reps h X vs ps) (j : Nat) : Reps h X (vs.eraseIdx j) (ps.eraseIdx j) := by
  refine ⟨by simp [List.length_eraseIdx, r.1], fun i v p hv hp => ?_⟩
  rw [List.getElem?_eraseIdx] at hv hp
  split at hv <;> rename_i hij
  · rw [if_pos hij] at hp; exact r.2 i v p hv hp
  · rw [if_neg hij] at hp; exact r.2 (i + 1) v p hv hp

theorem eraseIdx_map {α β : Type} (f : α → β) : ∀ (l : List α) (j : Nat), (l.map f).eraseIdx j = (l.eraseIdx j).map f
  | [], _ => rfl
  | _ :: _, 0 => rfl
  | x :: r, j + 1 => by show f x :: (r.map f).eraseIdx j = f x :: (r.eraseIdx j).map f; rw [eraseIdx_map f r j]
section
variable {prog : Program} {w : World} {A : Around} {env : Env} {h₀ : Heap} {X₀ : List Addr} {ρ : PEnv} {Q : PF → PEnv → Prop} {R : PEnv → Prop}
/-- x.remove(e) on an own list of strs -/
theorem rem_at {x : Str} {px apos cpos pos : Pos} {e : Expr} {xs : List Str} {y : Str} {X : List Addr} {s : Shared} (hx : ρ.lookup x = some (.own (xs.map .str))) (h : Ev prog w A env h₀ ρ e (.str y))
    (hq : y ∈ xs → Q .next ((x, .own ((xs.erase y).map .str)) :: ρ)) (hR : y ∉ xs → R ρ) (hsz : xs.length ≤ sizeLine) (hA : A.handled = Option.none) (hX : ∀ x ∈ X₀, x ∈ X) (S : Sit env ρ X h₀ s.heap)
    {pl : Sem Bool} (hd : (x == ("__debug__" : Str)) = false := by decide)
    (hc : eval (.Call (.Attribute (.Name x px) (Str.ofString "remove") apos) [e] [] cpos) env = (do
      let ov ← eval (.Name x px) env
      standAt apos.atName
      let (f, first) ← holding [ov] (getMethod ov (Str.ofString "remove") pl)
      callWith cpos f first (backTo cpos (starEach [e] env)) []) := by rfl)
    (he : starEach [e] env = (false, eval e env) :: starEach [] env := by rfl)
    (hi : interactive env = false := by rfl) (hs : swapsWith (.Call (.Attribute (.Name x px) (Str.ofString "remove") apos) [e] [] cpos) none pos.line env = pure false := by rfl) :
    wpAny (model prog w) A (exec (.Expr (.Call (.Attribute (.Name x px) (Str.ofString "remove") apos) [e] [] cpos) pos) env) (Ends env h₀ X₀ X Q s) (Raised "ValueError" env h₀ X₀ X R s) s := by
  obtain ⟨a, hv, ha, haN, ⟨vs, hl, hr⟩, hdd⟩ := S.own x _ hx
  refine wpAny_Expr (hi := hi) (hs := hs) (MethodCall_ (he := hc) (wp_var S hv hd ?_))
  refine getMethod_builtin (T := "list") (by obtain ⟨n, e⟩ := hl; exact ⟨_, e, rfl⟩) PySem.F.plainAttrs_list PySem.F.slot_list_remove PySem.F.type_list_remove (fun b q => by cases q; obtain ⟨n, e⟩ := hl; exact ⟨_, e, rfl⟩) ?_
  rw [he]
  refine seqMethod1_meets PySem.F.slot_list_remove PySem.F.entry_list_remove (wpAny_mono (h X s S) (fun v s₁ h₁ => ?_) fun _ _ q => False.elim q)
  obtain ⟨k, hrv⟩ := h₁
  have hh := Kp.hh k
  have S₁ := S.keeps hh
  have hl₁ := hl.at fun o => hh _ o
  have hr₁ : Reps s₁.heap X vs (xs.map .str) := hr.keeps hh
  obtain ⟨n, hln⟩ := hl₁
  obtain ⟨t, rfl⟩ : ∃ t, v = .str y t := by cases hrv; exact ⟨_, rfl⟩
  have heq : ∀ u, u ∈ vs.toArray → MeetsSeq.EqGives u (.str y t) (strIs y u) := fun u hu => by
    obtain ⟨i, hi, rfl⟩ := List.mem_iff_getElem.mp (List.mem_toArray.mp hu)
    obtain ⟨z, t', _, hz⟩ := hr₁.strs_at (List.getElem?_eq_getElem hi)
    rw [hz]; exact eqGives_str _ _ _ _
  refine ⟨⟨_, hln, rfl⟩, PySem.F.args_list_remove_2 _ _, ?_⟩
  have hlen : vs.length = xs.length := by simpa using hr.1
  have val : ∀ m (hm : m < vs.toArray.size), strIs y vs.toArray[m] = (xs[m]'(by simpa [hlen] using hm) == y) := fun m hm => by
    have hm' : m < vs.length := by simpa using hm
    obtain ⟨z, t', h1, hz⟩ := hr₁.strs_at (List.getElem?_eq_getElem hm')
    simp only [List.getElem_toArray]
    rw [hz]
    rw [List.getElem?_eq_getElem (by omega)] at h1
    cases h1
    rfl
  by_cases hy : y ∈ xs
  · have hj : xs.idxOf y < xs.length := List.idxOf_lt_length_iff.mpr hy
    refine ⟨_, MeetsSeq.list_remove a vs.toArray n (.str y t) (strIs y) heq (xs.idxOf y) (by simpa [hlen] using hj) ?_ ?_ (by simpa [hlen] using hsz), hln, ?_⟩
    · rw [val]; simp
    · intro m hm hlt
      rw [val]
      simpa using List.not_of_lt_findIdx hlt
    · show Ends _ _ _ _ _ _ _ _
      have hl' : (s₁.heap.update a (Obj.mapSeq fun xs' => xs'.eraseIdxIfInBounds (xs.idxOf y))).PlainList a (vs.eraseIdx (xs.idxOf y)).toArray := by
        refine ⟨if ((vs.eraseIdx (xs.idxOf y)).toArray.size == vs.toArray.size) = true then n else n + 1, (IsL.update hln _).trans ?_⟩
        rw [show vs.toArray.eraseIdxIfInBounds (xs.idxOf y) = (vs.eraseIdx (xs.idxOf y)).toArray from by
          apply Array.ext'
          rw [Array.eraseIdxIfInBounds, dif_pos (by simpa [hlen] using hj), Array.toList_eraseIdx]]
      have hs' : Heap.SameBut a s₁.heap (s₁.heap.update a (Obj.mapSeq fun xs' => xs'.eraseIdxIfInBounds (xs.idxOf y))) := Heap.SameBut.update ..
      have hr' : Reps s₁.heap X (vs.eraseIdx (xs.idxOf y)) ((xs.erase y).map .str) := by
        rw [List.erase_eq_eraseIdx_of_idxOf rfl]
        have := hr₁.eraseIdx (xs.idxOf y)
        rwa [eraseIdx_map] at this
      have S' := S₁.turn hx (hv.keeps hh) ha haN (fun y l e q hc => hdd y l e q (by
        obtain ⟨b, hb, _⟩ := S.own y l e
        have : Value.ref b = .ref a := (hb.keeps hh).fun hc
        cases this
        exact hb)) ⟨n, hln⟩ hl' hs' hr'
      obtain ⟨hp, tk, rfl, _⟩ := k
      exact ⟨⟨_, tk, rfl⟩, fun b o hb ho => (hs'.2 b fun q => hb (q ▸ ha)).trans (hh b o ho), .next, _, X, hq hy, hX, S', fun b hb => .inl hb, trivial⟩
  · refine ⟨_, MeetsSeq.list_remove_none a vs.toArray n (.str y t) (strIs y) heq (fun m hm => ?_), hln, hA, fun h' tk' e hx' => ?_⟩
    · rw [val]
      simp only [beq_eq_false_iff_ne, ne_eq]
      exact fun q => hy (q ▸ List.getElem_mem _)
    · show Raised _ _ _ _ _ _ _ _ _
      obtain ⟨ob, t', he', hc', hd'⟩ := hx'.there
      obtain ⟨hp, tk, rfl, _⟩ := k
      have hen : s.heap.get? e = Option.none := by
        cases q : s.heap.get? e with
        | none => rfl
        | some o => have := hh _ _ q; rw [hx'.new] at this; cases this
      exact ⟨⟨⟨_, tk', rfl⟩, fun b o hb ho => hx'.keeps _ _ (hh b o ho), .next, ρ, X, hR hy, hX, S₁.keeps hx'.keeps, fun b hb => .inl hb, trivial⟩, e, ob, _, t', rfl, .inr hen, he', hc', hd', rfl, rfl⟩
theorem TrE.one {T : String} {st : Stmt} (h : ∀ X s, (∀ x ∈ X₀, x ∈ X) → Sit env ρ X h₀ s.heap → wpAny (model prog w) A (exec st env) (Ends env h₀ X₀ X Q s) (Raised T env h₀ X₀ X R s) s) : TrE T prog w A env h₀ X₀ ρ [st] Q R := fun X s hX S =>
  wpAny_execs_cons (wpAny_mono (h X s hX S) (fun f s₁ e => by
    cases f with
    | next => exact wpAny_execs_nil e
    | _ => exact e) fun _ _ x => x)
end
end

-- C11
section
open PySem PySem.W PyProof.Rows PySem.Calls
set_option maxRecDepth 100000
set_option maxHeartbeats 8000000
theorem warm11 : PySem.Challenge.rw_un0038_01 = PySem.Challenge.rw_un0038_01 ∧ frag = frag := by
  k_fill
  exact ⟨rfl, rfl⟩

/-- list(e) of a list: a new one -/
theorem EvNew.list {prog : Program} {w : World} {A : Around} {env : Env} {h₀ : Heap} {ρ : PEnv} {l : List PV} {e : Expr} {np pos : Pos} (hz : l.length ≤ sizeLine)
    (hl : Glob h₀ (Str.ofString "list") (.type "list")) (ha : Ev prog w A env h₀ ρ e (.list l))
    (hk : env.kindOf (Str.ofString "list") = some .globalImplicit := by with_unfolding_all rfl)
    (he : starEach [e] env = (false, eval e env) :: starEach [] env := by rfl) :
    EvNew prog w A env h₀ ρ (.Call (.Name (Str.ofString "list") np) [e] [] pos) l := fun X s S => by
  refine Call_ (wp_glob S hl hk (by decide) (callWith_ty (he := he) (hplain := rfl) ?_))
  rw [he]
  refine Calls.spliced_cons (wpAny_mono (ha X s S) (fun v s₁ h₁ => Calls.spliced_nil ?_) fun _ _ x => x.elim)
  obtain ⟨k, hr⟩ := h₁
  cases hr with
  | list hx hls hn hi =>
    obtain ⟨o, ho, hc, n, hd⟩ := hls
    refine call_list_seq (hsz := by simpa [hn] using hz) _ (.inl rfl) ho hc hd fun h' c' hkeep hnew => ⟨?_, _, _, rfl, ?_, ⟨c', hnew⟩, ?_⟩
    · exact Kp.trans k ⟨h', _, rfl, hkeep⟩
    · cases q : s.heap.get? s₁.heap.objs.size with
      | none => rfl
      | some o => exact absurd (Heap.lt_size (Kp.hh k _ _ q)) (Nat.lt_irrefl _)
    · refine ⟨hn, fun i v p hv hp => (hi i v p hv hp).map fun a o ha ho => ⟨fun q => ?_, hkeep a o ho⟩⟩
      rcases List.mem_cons.mp q with rfl | q
      · exact absurd (Heap.lt_size ho) (Nat.lt_irrefl _)
      · exact ha q

noncomputable def dedStr (l : List Str) : List Str := l.foldl (fun acc x => if acc.any (fun q => q == x) then acc else acc ++ [x]) []
theorem dedP_str (l : List Str) : dedP (l.map .str) = (dedStr l).map .str := by
  have key : ∀ (l acc : List Str), (l.map PV.str).foldl dedStep (acc.map PV.str) = (l.foldl (fun acc x => if acc.any (fun q => q == x) then acc else acc ++ [x]) acc).map PV.str := by
    intro l
    induction l with
    | nil => intro acc; rfl
    | cons x l ih =>
      intro acc
      rw [List.map_cons, List.foldl_cons, List.foldl_cons]
      have : dedStep (acc.map PV.str) (.str x) = (if acc.any (fun q => q == x) then acc else acc ++ [x]).map PV.str := by
        unfold dedStep
        rw [List.any_map]
        have : (fun q => pvEq q (PV.str x)) ∘ PV.str = fun q => q == x := by funext q; rfl
        rw [this]
        split <;> simp
      rw [this, ih]
  exact key l []
noncomputable def remAll : List Str → List Str → Option (List Str)
  | [], t => some t
  | x :: r, t => if x ∈ t then remAll r (t.erase x) else none
noncomputable def cmpS (a b : List Str) : Bool := remAll (dedStr a) (dedStr b) == some []
theorem remAll_take {a b t : List Str} {i : Nat} {x : Str} (hx : a[i]? = some x) (h : remAll (a.take i) b = some t) : remAll (a.take (i + 1)) b = if x ∈ t then some (t.erase x) else none := by
  induction i generalizing a b with
  | zero =>
    cases a with
    | nil => simp at hx
    | cons y r =>
      simp at hx; subst hx
      simp [remAll] at h ⊢
      subst h
      by_cases q : y ∈ b <;> simp [q]
  | succ i ih =>
    cases a with
    | nil => simp at hx
    | cons y r =>
      rw [List.take_succ_cons] at h ⊢
      unfold remAll at h ⊢
      split at h
      · rename_i q; rw [if_pos q]; exact ih (by simpa using hx) h
      · cases h
theorem remAll_none {a b : List Str} {i : Nat} (h : remAll (a.take i) b = Option.none) : remAll a b = Option.none := by
  induction a generalizing b i with
  | nil => simpa using h
  | cons y r ih =>
    cases i with
    | zero => simp [remAll] at h
    | succ i =>
      rw [List.take_succ_cons] at h
      unfold remAll at h ⊢
      split at h
      · rename_i q; rw [if_pos q]; exact ih h
      · rename_i q; rw [if_neg q]
theorem remAll_len {a b t : List Str} (h : remAll a b = some t) : t.length ≤ b.length := by
  induction a generalizing b with
  | nil => cases h; exact Nat.le_refl _
  | cons y r ih =>
    unfold remAll at h
    split at h
    · have h1 := ih h
      have := List.length_erase_le (a := y) (l := b)
      omega
    · cases h
theorem dedStr_len (l : List Str) : (dedStr l).length ≤ l.length := by
  have := dedP_len (l.map .str)
  rw [dedP_str] at this
  simpa using this
end

-- C12
section
open PySem PySem.W PyProof.Rows PySem.Calls
set_option maxRecDepth 100000
set_option maxHeartbeats 8000000
noncomputable def KeepsBut (L : Addr) (s s' : Shared) : Prop := (∃ h' tk, s' = { s with heap := h', toks := tk }) ∧ (∀ b o, b ≠ L → s.heap.get? b = some o → s'.heap.get? b = some o) ∧ ∀ o, s.heap.get? L = some o → ∃ sl, s'.heap.get? L = some { o with slots := sl }
theorem KeepsBut.ofKeeps {L : Addr} {s s' : Shared} (k : Keeps s s') : KeepsBut L s s' :=
  ⟨let ⟨h, t, e, _⟩ := k; ⟨h, t, e⟩, fun b o _ e => Kp.hh k b o e, fun o e => ⟨o.slots, Kp.hh k _ _ e⟩⟩
theorem KeepsBut.after {L : Addr} {s s₁ s' : Shared} (k : Keeps s s₁) (kb : KeepsBut L s₁ s') : KeepsBut L s s' := by
  obtain ⟨h, t, rfl, kk⟩ := k
  obtain ⟨⟨h', t', rfl⟩, h1, h2⟩ := kb
  exact ⟨⟨h', t', rfl⟩, fun b o hb e => h1 b o hb (kk b o e), fun o e => h2 o (kk _ _ e)⟩
theorem KeepsBut.then {L : Addr} {s s₁ s' : Shared} (kb : KeepsBut L s s₁) (k : Keeps s₁ s') : KeepsBut L s s' := by
  obtain ⟨⟨h, t, rfl⟩, h1, h2⟩ := kb
  obtain ⟨h', t', rfl, kk⟩ := k
  exact ⟨⟨h', t', rfl⟩, fun b o hb e => kk b o (h1 b o hb e), fun o e => let ⟨sl, q⟩ := h2 o e; ⟨sl, kk _ _ q⟩⟩

theorem caught {prog : Program} {w : World} {A : Around} {env lenv : Env} {s' : Shared} {Lc Ll e : Addr} {oc ol oe : Obj} {vs : Array Value} {a0 : Value} {t : Expr} {b₀ : Stmt} {suite : List Stmt} {pos : Pos} {Q : Flow → Shared → Prop}
    (hfr : A.frames = some [env, lenv]) (hk : env.scope.kind ≠ .module) (hkl : lenv.scope.kind ≠ .module) (hf : env.frame = some Lc) (hfl : lenv.frame = some Ll)
    (hc : s'.heap.get? Lc = some oc) (hcd : ∀ vs, oc.data ≠ .fields vs) (hl : s'.heap.get? Ll = some ol) (hld : ∀ vs, ol.data ≠ .fields vs)
    (he : s'.heap.get? e = some oe) (hcls : oe.cls = .type "ValueError") (hd : oe.data = .fields vs) (h1 : vs[1]? = some .none) (h0 : vs[0]? = some a0)
    (k : ∀ h', (∀ b o, b ≠ e → b ≠ Lc → b ≠ Ll → s'.heap.get? b = some o → h'.get? b = some o) → s'.heap.UpToSlots h' →
      wpAny (model prog w) (A.mark (some (.ref e))) (eval t env) (fun c s₁ => c = .type "ValueError" ∧ s₁ = { s' with heap := h' }) (fun _ _ => False) { s' with heap := h' })
    (k2 : ∀ h', (∀ b o, b ≠ e → b ≠ Lc → b ≠ Ll → s'.heap.get? b = some o → h'.get? b = some o) → s'.heap.UpToSlots h' →
      wpAny (model prog w) (A.mark (some (.ref e))) (execs (b₀ :: suite) env) Q (fun _ _ => False) { s' with heap := h' }) :
    wpAny (model prog w) A (noteFrame (.ref e) env) (fun _ s₂ => wpAny (model prog w) A (setFlight (.ref e) none) (fun _ s₃ =>
      wpAny (model prog w) A (handleBy (.ref e) env [.ExceptHandler (some t) none (b₀ :: suite) pos]) Q (fun _ _ => False) s₃) (fun _ _ => False) s₂) (fun _ _ => False) s' := by
  have hkb : (hideAll s'.heap [e, Lc, Ll]).StaysIn s'.heap := fun b o q => of_hideAll _ q
  have kb : ∀ {h' : Heap}, (hideAll s'.heap [e, Lc, Ll]).StaysIn h' → ∀ b o, b ≠ e → b ≠ Lc → b ≠ Ll → s'.heap.get? b = some o → h'.get? b = some o := fun hs b o n1 n2 n3 q =>
    hs b o (hideAll_get _ q (by simp [n1, n2, n3]))
  have hen : (hideAll s'.heap [e, Lc, Ll]).get? e = none := hideAll_none _ (by simp)
  have hFF : s'.heap.FunFrames (hideAll s'.heap [e, Lc, Ll]) [env, lenv] := ⟨hk, ⟨Lc, oc, hf, hideAll_none _ (by simp), hc, hcd⟩, hkl, ⟨Ll, ol, hfl, hideAll_none _ (by simp), hl, hld⟩, trivial⟩
  have hsz : 1 < vs.size := (Array.getElem?_eq_some_iff.mp h1).1
  unfold noteFrame
  simp only [hf]
  refine wpAny_bind (wpAny_field he hd h1 ?_)
  rw [if_neg (by decide)]
  refine wpAny_entryW hfr hFF hf he hkb hen hd hsz h0 fun h₁ hN => ?_
  obtain ⟨x1, x2, x3, x4⟩ := hN
  refine wpAny_landsW (l := [env, lenv]) (L := Lc) (cls := oe.cls) (a0 := a0) (base := hideAll s'.heap [e, Lc, Ll]) ⟨x1, hen, x2, x3⟩ fun h₂ hfly hup => ?_
  have hup2 : s'.heap.UpToSlots h₂ := Heap.UpToSlots.trans (fun b o q n => x4 b o q n) hup
  obtain ⟨y1, y2, y3, y4⟩ := hfly
  refine wpAny_handleBy_builtin (X := "ValueError") (T := "ValueError") (b := true) (isSubtype_of_subB (by decide +kernel)) (isSubtype_of_subB (by decide +kernel)) (isSubtype_of_subB (by decide +kernel))
    (wpAny_mono (k h₂ (kb y1) hup2) (fun c s₁ hc1 => ?_) fun _ _ x => x.elim)
  obtain ⟨rfl, rfl⟩ := hc1
  refine ⟨rfl, ?_, ?_⟩
  · obtain ⟨ob, he2, hcl⟩ := Heap.TracedAtW.there (fl := .none) y4
    exact ⟨ob, he2, hcl.trans hcls⟩
  · rw [if_pos rfl]
    refine wpAny_setFlight_noneW (base := hideAll s'.heap [e, Lc, Ll]) (l := [env, lenv]) (cls := oe.cls) (a0 := a0) (fl := .none) y1 y3 y4 fun h₃ z1 z2 z3 z4 => ?_
    exact wpAny_mono (k2 h₃ (kb z1) (Heap.UpToSlots.trans hup2 fun b o q n => ⟨o.slots, z4 b o q n⟩)) (fun _ _ x => x) fun _ _ x => x.elim
end

-- C13
section
open PySem PySem.W PyProof.Rows PySem.Calls
set_option maxRecDepth 100000
set_option maxHeartbeats 8000000
theorem warm13 : PySem.Challenge.rw_un0038_01 = PySem.Challenge.rw_un0038_01 ∧ frag = frag := by
  k_fill
  exact ⟨rfl, rfl⟩

theorem enterAny {w : World} {A : Around} {h₀ : Heap} {ps : List PV} {n : Nat} {P : Shared → Prop} {Q : Shared → Value → Shared → Prop}
    {name qual : Str} {params : Arguments} {body : List Stmt} {scope : Scope} {dV kV doc pm cdv ct oc : Value} {an od : Option Addr} {osl : Array (Option Value)} {f : Addr}
    (B : Base w h₀) (K : Ok (n + 1) A)
    (ho : (frag w.params).lookup f = some ⟨oc, od, .func (fnOf name qual params body scope dV kV doc pm an cdv ct), osl⟩) (hcd : codeIn (frag w.params) cdv qual = true)
    (hbind : ∀ vs : List Value, vs.length = ps.length → bindArgs (fnOf name qual params body scope dV kV doc pm an cdv ct) ⟨vs, []⟩ = pure ((params.args.map (·.arg)).zip vs))
    (hloc : ∀ y ∈ params.args.map (·.arg), scope.names.lookup y = some .local) (hnd : (params.args.map (·.arg)).Nodup)
    (h : ∀ s L h₁ tk, P s → Base w s.heap → (∀ b o, h₀.get? b = some o → s.heap.get? b = some o) → Sit (envOf qual scope L f cdv) (bindP params.args ps) [L] s.heap h₁ → Ok n (A.deeper (envOf qual scope L f cdv)) →
      wpAny (model PySem.Challenge.rw_un0038_01.row.prog w) (A.deeper (envOf qual scope L f cdv)) (execs body (envOf qual scope L f cdv)) (fun fl s' => ∃ v, fl = .ret v ∧ Q s v s') (fun _ _ => False) { s with heap := h₁, toks := tk })
    (hco : scope.isCoroutine = false := by rfl) (hgen : scope.isGenerator = false := by rfl) (hk : scope.kind = .function := by rfl)
    (hcell : ∀ x ∈ scope.names, x.2 ≠ .cell := by decide) : ∀ s vs, (∀ b o, h₀.get? b = some o → s.heap.get? b = some o) → P s → Reps s.heap [] vs ps → wpAny (model PySem.Challenge.rw_un0038_01.row.prog w) A (call (.ref f) vs) (fun v s' => Q s v s') (fun _ _ => False) s := fun s vs hs hP hr => by
  have B' := B.keeps hs
  obtain ⟨mean, mg, mb, T⟩ := B'.T
  refine wpAny_call (codeAny_call_def (fd := fnOf name qual params body scope dV kV doc pm an cdv ct) (body := body) (binds := (params.args.map (·.arg)).zip vs) (by have := K.dp; omega) (B'.X _ _ ho) rfl T.nolimit (codeRec_of B'.X hcd) rfl
    (BindsTo.of_eq (hbind vs hr.1)) hcell (fun x hx => hloc _ (List.of_mem_zip hx).1) (fun h₁ hns hk₁ => ?_) hco hgen hk)
  have S : Sit (envOf qual scope s.heap.objs.size f cdv) (bindP params.args ps) [s.heap.objs.size] s.heap h₁ := {
    kind := hk
    glob := rfl
    blt := rfl
    keep := hk₁
    live := fun x hx => by
      obtain rfl := List.mem_singleton.mp hx
      obtain ⟨o, _, _, e, _⟩ := hns; exact ⟨o, e⟩
    loc := List.mem_cons_self
    locN := get_size _
    ns := ⟨_, hns⟩
    cel := fun x c e => by simp [envOf] at e
    inj := fun x y c e => by simp [envOf] at e
    val := fun x p e => by
      obtain ⟨v, hv, hrep⟩ := zip_reps hr x p e
      have hm : x ∈ params.args.map (·.arg) := (List.of_mem_zip (mem_of_lookup hv)).1
      refine ⟨v, .inl ⟨hloc x hm, _, hns, ?_⟩, hrep.map fun a o ha ho => ⟨fun q => ?_, hk₁ a o ho⟩⟩
      · exact lookup_rev hnd hv
      · obtain rfl := List.mem_singleton.mp q
        rw [get_size] at ho; cases ho
    own := fun x l e => by
      exfalso
      have := lookup_mem' e
      have := (List.of_mem_zip this).2
      simp at this }
  refine wpAny_mono (h s s.heap.objs.size _ _ hP B' hs S K.deeper) (fun fl s' e => ?_) fun _ _ x => x.elim
  obtain ⟨v, rfl, hv⟩ := e
  exact hv

section
variable {prog : Program} {w : World} {A : Around} {env : Env} {h₀ : Heap} {ρ : PEnv}
theorem seq_raw {st : Stmt} {rest : List Stmt} {P : PEnv → Prop} {X : List Addr} {s : Shared} {Q : Flow → Shared → Prop} {E : Value → Shared → Prop} (h : TrS prog w A env h₀ [] ρ st (fun pf ρ' => (match pf with | .next => True | _ => False) ∧ P ρ'))
    (S : Sit env ρ X h₀ s.heap) (hN : ∀ a ∈ X, h₀.get? a = Option.none)
    (k : ∀ ρ' X' h' tk, P ρ' → Sit env ρ' X' h₀ h' → (∀ a ∈ X', h₀.get? a = Option.none) → wpAny (model prog w) A (execs rest env) Q E { s with heap := h', toks := tk }) :
    wpAny (model prog w) A (execs (st :: rest) env) Q E s := by
  refine wpAny_execs_cons (wpAny_mono (h X s (fun _ q => by cases q) S) (fun f s₁ e => ?_) fun _ _ x => x.elim)
  obtain ⟨⟨h', tk, rfl⟩, hk, pf, ρ', X', ⟨hq, hP⟩, h0, hS, hx, hf⟩ := e
  cases pf with
  | next =>
    cases f with
    | next =>
      refine k ρ' X' h' tk hP hS fun a ha => ?_
      rcases hx a ha with q | q
      · exact hN a q
      · cases e : h₀.get? a with
        | none => rfl
        | some o => rw [S.keep a o e] at q; cases q
    | _ => exact hf.elim
  | _ => exact hq.elim
end

theorem sit_bare {env : Env} {h₀ h : Heap} {ρ : PEnv} {X : List Addr} {h' : Heap} (S : Sit env ρ X h₀ h) (hc : env.cells = []) {h₁ : Heap} (hN : h₁.get? env.locals = Option.none) (hk : ∀ b o, h₁.get? b = some o → h'.get? b = some o) (hns : ∃ m, h'.Ns env.locals m) : Sit env [] [env.locals] h₁ h' := {
  kind := S.kind
  glob := S.glob
  blt := S.blt
  keep := hk
  live := fun x hx => by
    obtain rfl := List.mem_singleton.mp hx
    obtain ⟨m, o, _, _, e, _⟩ := hns; exact ⟨o, e⟩
  loc := List.mem_cons_self
  locN := hN
  ns := hns
  cel := fun x c e => by rw [hc] at e; simp at e
  inj := fun x y c e => by rw [hc] at e; simp at e
  val := fun x p e => by simp at e
  own := fun x p e => by simp at e }

theorem cmp_c {w : World} {A : Around} {h₀ : Heap} {lenv : Env} {a b : List Str} (B : Base w h₀) (K : Ok 2 A) (hfr : A.frames = some [lenv]) (hkl : lenv.scope.kind = .function) (hfl : lenv.frame = some lenv.locals)
    (hN : h₀.get? lenv.locals = Option.none) (ha : a.length ≤ 64) (hb : b.length ≤ 64) : ∀ s vs, (∀ b o, h₀.get? b = some o → s.heap.get? b = some o) → (∃ m, s.heap.Ns lenv.locals m) → Reps s.heap [] vs [.list (a.map .str), .list (b.map .str)] →
      wpAny (model PySem.Challenge.rw_un0038_01.row.prog w) A (call (.ref 196) vs) (fun v s' => KeepsBut lenv.locals s s' ∧ v = .bool (cmpS a b)) (fun _ _ => False) s := by
  have hz := sizeLine_eq
  refine' enterAny (ps := [.list (a.map .str), .list (b.map .str)]) (P := fun s => ∃ m, s.heap.Ns lenv.locals m) (Q := fun s v s' => KeepsBut lenv.locals s s' ∧ v = .bool (cmpS a b)) B K ?ho ?hcd ?hbind ?hloc ?hnd ?_ ?h1 ?h2 ?h3 ?h4
  (case ho => k_is)
  (case hcd => k_is)
  (case hloc => decide)
  (case hnd => decide)
  (case h1 => rfl)
  (case h2 => rfl)
  (case h3 => rfl)
  (case h4 => decide)
  (case hbind => refine bind2 fun v u => ?_; kernel_rfl)
  intro s L h₁ tk hns B' hs S K'
  have al : ∀ l : List Str, (l.map PV.str).all SmallS = true := fun l => List.all_eq_true.mpr fun q hq => by obtain ⟨x, _, rfl⟩ := List.mem_map.mp hq; rfl
  have ala : Alike (a.map PV.str) (a.map PV.str) := .inr ⟨al a, al a⟩
  have alb : Alike (b.map PV.str) (b.map PV.str) := .inr ⟨al b, al b⟩
  have hN1 : ∀ x ∈ [L], s.heap.get? x = Option.none := fun x hx => by obtain rfl := List.mem_singleton.mp hx; exact S.locN
  refine seq_raw (P := fun ρ => Has ρ [(Str.ofString "first_unhashable", .val (.list ((dedStr a).map .str))), (Str.ofString "second_args", .val (.list (b.map .str)))])
    (TrS.assign (p := .list ((dedStr a).map .str)) (Ev.callD (f := 189) (by walk_at "m_glob") (by walk_at "m_fun") (EvA.cons (Ev.var rfl) EvA.nil) (by rw [← dedP_str]; exact ded_c B' (K'.less (by omega)) ala (by simpa using ha))) ⟨trivial, Has.cons rfl (Has.cons rfl Has.nil)⟩ (.inl rfl)) S hN1 ?_
  intro ρ1 X1 h1 tk1 hP1 S1 hX1
  refine seq_raw (P := fun ρ => Has ρ [(Str.ofString "first_unhashable", .val (.list ((dedStr a).map .str))), (Str.ofString "second_unhashable", .val (.list ((dedStr b).map .str)))])
    (TrS.has hP1 (TrS.assign (p := .list ((dedStr b).map .str)) (Ev.callD (f := 189) (by walk_at "m_glob") (by walk_at "m_fun") (EvA.cons (Ev.var rfl) EvA.nil) (by rw [← dedP_str]; exact ded_c B' (K'.less (by omega)) alb (by simpa using hb))) ⟨trivial, Has.cons rfl (Has.cons rfl Has.nil)⟩ (.inl rfl))) S1 hX1 ?_
  intro ρ2 X2 h2 tk2 hP2 S2 hX2
  refine seq_raw (P := fun ρ => Has ρ [(Str.ofString "first_unhashable", .val (.list ((dedStr a).map .str))), (Str.ofString "t", .own ((dedStr b).map .str))])
    (TrS.has hP2 (TrS.assignOwn (EvNew.list ?_ (by walk_at "m_glob") (Ev.var rfl)) ⟨trivial, Has.cons rfl (Has.cons rfl Has.nil)⟩ (.inl rfl))) S2 hX2 ?_
  · have := dedStr_len b; simp; omega
  intro ρ3 X3 h3 tk3 hP3 S3 hX3
  have hlen : (dedStr b).length ≤ 64 := by have := dedStr_len b; omega
  refine wpAny_execs_cons (wpAny_Try_except (wpAny_execs_cons ?_))
  refine wpAny_mono (forGE_at (T := "ValueError") (X₀ := []) (l := (dedStr a).map .str) (ρ := ρ3) (R := fun _ => cmpS a b = false) (Q := fun pf ρ => (match pf with | .next => True | _ => False) ∧ ∃ t, remAll (dedStr a) (dedStr b) = some t ∧ Has ρ [(Str.ofString "t", .own (t.map .str))])
    (fun i ρ => ∃ t, remAll ((dedStr a).take i) (dedStr b) = some t ∧ Has ρ [(Str.ofString "t", .own (t.map .str))])
    ((EvSrc.ofIt (EvIt.list (Ev.var (hP3.sub _ _ rfl)) K'.hn)) _ _ S3) ⟨_, by simp [remAll], Has.cons (hP3.sub _ _ rfl) Has.nil⟩ ?turn ?done (fun _ q => by cases q) S3 PassesOwn.looking ?hE (fun _ => rfl)) (fun f s₁ e => ?_) (fun _ _ x => x)
  case turn =>
    intro i p ρ' hp hI
    obtain ⟨t, ht, hh⟩ := hI
    obtain ⟨y, hy, rfl⟩ : ∃ y, (dedStr a)[i]? = some y ∧ p = .str y := by
      rw [List.getElem?_map] at hp
      obtain ⟨y, hy, e⟩ := Option.map_eq_some_iff.mp hp
      exact ⟨y, hy, e.symm⟩
    have htl := remAll_len ht
    refine ⟨_, AsgT.name (.inl rfl), TrE.one fun X s hX S => ?_⟩
    refine rem_at (xs := t) (y := y) ?_ (Ev.var rfl) (fun hm => ?_) (fun hm => ?_) (by omega) K'.hn hX S
    · rw [List.lookup_cons]; exact hh.sub _ _ rfl
    · exact ⟨_, by rw [remAll_take hy ht, if_pos hm], Has.cons rfl Has.nil⟩
    · have := remAll_take hy ht
      rw [if_neg hm] at this
      unfold cmpS
      rw [remAll_none this]; rfl
  case done =>
    rintro ρ' ⟨t, ht, hh⟩
    rw [List.length_map, List.take_length] at ht
    exact Tr.nil ⟨trivial, t, ht, hh⟩
  case hE =>
    rintro x s' ⟨hE1, e, ob, vs, a0, rfl, hen, heo, hcl, hdt, hv1, hv0⟩
    obtain ⟨⟨h', tk', rfl⟩, hk', pf, ρ', X', hR, -, S', hsub, -⟩ := hE1
    have heN : s.heap.get? e = Option.none := by
      rcases hen with q | q
      · exact hX3 e q
      · cases e2 : s.heap.get? e with
        | none => rfl
        | some o => rw [S3.keep _ _ e2] at q; cases q
    obtain ⟨ml, ol, esl, epl, hol, hold, hnsl⟩ := hns
    have hol' := S'.keep _ _ hol
    obtain ⟨mc, oc, esc, epc, hoc, hocd, hnsc⟩ := S'.ns
    have hLN : s.heap.get? L = Option.none := S.locN
    have back : ∀ h2 : Heap, (∀ b o, b ≠ e → b ≠ L → b ≠ lenv.locals → h'.get? b = some o → h2.get? b = some o) → ∀ b o, b ≠ lenv.locals → s.heap.get? b = some o → h2.get? b = some o := fun h2 hk2 b o n q =>
      hk2 b o (fun q' => by rw [q', heN] at q; cases q) (fun q' => by rw [q'] at q; rw [hLN] at q; cases q) n (S'.keep b o q)
    have h0L : h₀.get? L = Option.none := by
      cases e2 : h₀.get? L with
      | none => rfl
      | some o => have := hs _ _ e2; rw [hLN] at this; cases this
    have bare : ∀ h2 : Heap, (∀ b o, b ≠ e → b ≠ L → b ≠ lenv.locals → h'.get? b = some o → h2.get? b = some o) → h'.UpToSlots h2 → Sit _ [] [L] h₀ h2 := fun h2 hk2 hup =>
      sit_bare S' rfl h0L (fun b o q => back h2 hk2 b o (fun q' => by rw [q', hN] at q; cases q) (hs b o q)) ⟨mc, hup.ns ⟨oc, esc, epc, hoc, hocd, hnsc⟩⟩
    refine caught (lenv := lenv) (Lc := L) (Ll := lenv.locals) (Around.frames_deeper hfr) (by intro q; cases q) (by rw [hkl]; decide) rfl hfl hoc (by rw [hocd]; intro vs q; cases q) hol' (by rw [hold]; intro vs q; cases q) heo hcl hdt hv1 hv0 ?_ ?_
    · intro h2 hk2 hup
      exact wp_glob (s := { s with heap := h2, toks := tk' }) (bare h2 hk2 hup) (v := .type "ValueError") (by walk_at "m_glob") (by with_unfolding_all rfl) (by decide) ⟨rfl, rfl⟩
    · intro h2 hk2 hup
      refine wpAny_mono ((Tr.cons (X₀ := []) (Q := fun pf _ => pf = .ret (.bool false)) (TrS.ret Ev.bool rfl)) [L] { s with heap := h2, toks := tk' } (fun _ q => by cases q) (bare h2 hk2 hup)) (fun f s'' e2 => ?_) fun _ _ x => x
      obtain ⟨⟨h3', tk3', rfl⟩, hk3, pf3, ρ3', X3', rfl, -, S3', -, hf3⟩ := e2
      cases f with
      | ret v =>
        cases hf3
        refine ⟨_, rfl, ⟨⟨_, _, rfl⟩, fun b o n q => ?_, fun o q => ?_⟩, ?_⟩
        · exact hk3 b o (fun q' => by obtain rfl := List.mem_singleton.mp q'; rw [hLN] at q; cases q) (back h2 hk2 b o n q)
        · obtain ⟨sl, hsl⟩ := hup _ _ (S'.keep _ _ q) (by rw [hol] at q; cases q; rw [hold]; intro vs q; cases q)
          exact ⟨sl, hk3 _ _ (fun q' => by rw [List.mem_singleton.mp q'] at q; rw [hLN] at q; cases q) hsl⟩
        · rw [hR]
      | _ => exact hf3.elim
  · obtain ⟨⟨h', tk', rfl⟩, hk', pf, ρ', X', ⟨hq, t, ht, hh⟩, -, S', hsub, hf⟩ := e
    cases pf with
    | next =>
      cases f with
      | next =>
        refine wpAny_execs_nil (wpAny_execs_nil ?_)
        refine wpAny_mono ((Tr.has hh (Tr.freeze (X₀ := []) (x := Str.ofString "t") (Q := fun pf _ => pf = .ret (.bool (cmpS a b))) (fun _ q => by cases q) rfl (Tr.cons (TrS.ret (Ev.not (Ev.var rfl) (Tru.list (by have := remAll_len ht; simp; omega))) ?_)))) X' { s with heap := h', toks := tk' } (fun _ q => by cases q) S') (fun f s'' e2 => ?_) fun _ _ x => x
        · show PF.ret _ = PF.ret _
          unfold cmpS
          rw [ht]
          cases t <;> rfl
        obtain ⟨⟨h3', tk3', rfl⟩, hk3, pf3, ρ3', X3', rfl, -, S3', -, hf3⟩ := e2
        cases f with
        | ret v =>
          cases hf3
          exact ⟨_, rfl, KeepsBut.ofKeeps ⟨_, _, rfl, S3'.keep⟩, rfl⟩
        | _ => exact hf3.elim
      | _ => exact hf.elim
    | _ => exact hq.elim
end

-- L19
section
open PySem PySem.W PyProof.Rows PySem.Calls
set_option maxRecDepth 100000
set_option maxHeartbeats 8000000
theorem Sit.keepsBut {env : Env} {ρ : PEnv} {X : List Addr} {h₀ h h' : Heap} (S : Sit env ρ X h₀ h) (hk : ∀ b o, b ≠ env.locals → h.get? b = some o → h'.get? b = some o) (hl : ∀ o, h.get? env.locals = some o → ∃ sl, h'.get? env.locals = some { o with slots := sl }) : Sit env ρ X h₀ h' := by
  have ns1 : ∀ {m}, h.Ns env.locals m → h'.Ns env.locals m := fun hn => by
    obtain ⟨o, es, ep, ho, hd, r⟩ := hn
    obtain ⟨sl, hs⟩ := hl o ho
    exact ⟨_, es, ep, hs, hd, r⟩
  obtain ⟨m₀, hns₀⟩ := S.ns
  have cl1 : ∀ {c v}, h.IsCell c v → h'.IsCell c v := fun hc => by
    have hne := cell_ne_ns hc hns₀
    obtain ⟨o, ho, hd⟩ := hc
    exact ⟨o, hk _ _ hne ho, hd⟩
  have vk : ∀ {y v}, Var env h y v → Var env h' y v := fun hv => by
    rcases hv with ⟨e, m, hn, hm⟩ | ⟨e, c, hc, hv⟩
    · exact .inl ⟨e, m, ns1 hn, hm⟩
    · exact .inr ⟨e, c, hc, cl1 hv⟩
  have rk : ∀ {v p}, Rep h X v p → Rep h' X v p := fun r => r.but fun b o hb ho => hk b o (fun q => hb (q ▸ S.loc)) ho
  exact {
    kind := S.kind
    glob := S.glob
    blt := S.blt
    keep := fun b o e => hk b o (fun q => by rw [q, S.locN] at e; cases e) (S.keep b o e)
    live := fun x hx => by
      obtain ⟨o, e⟩ := S.live x hx
      by_cases q : x = env.locals
      · subst q; obtain ⟨sl, hs⟩ := hl o e; exact ⟨_, hs⟩
      · exact ⟨o, hk _ _ q e⟩
    loc := S.loc
    locN := S.locN
    ns := ⟨m₀, ns1 hns₀⟩
    cel := fun x c e => let ⟨a, b, v, hv⟩ := S.cel x c e; ⟨a, b, v, cl1 hv⟩
    inj := S.inj
    val := fun x p e => let ⟨v, hv, hr⟩ := S.val x p e; ⟨v, vk hv, rk hr⟩
    own := fun x l e => by
      obtain ⟨a, hv, hx, hn, ⟨vs, hls, hr⟩, hs⟩ := S.own x l e
      have hne : a ≠ env.locals := list_ne_ns hls hns₀
      refine ⟨a, vk hv, hx, hn, ⟨vs, hls.at fun o => hk a o hne, hr.1, fun i v p h1 h2 => rk (hr.2 i v p h1 h2)⟩, fun y l' e' hne' hc => ?_⟩
      obtain ⟨b, hb, _⟩ := S.own y l' e'
      have : Value.ref b = .ref a := (vk hb).fun hc
      cases this
      exact hs y l' e' hne' hb }

/-- an expression in whose run a frame's object may turn -/
noncomputable def EvW (prog : Program) (w : World) (A : Around) (env : Env) (h₀ : Heap) (ρ : PEnv) (e : Expr) (p : PV) : Prop :=
  ∀ X s, Sit env ρ X h₀ s.heap → wpAny (model prog w) A (eval e env) (fun v s' => KeepsBut env.locals s s' ∧ Rep s'.heap X v p) (fun _ _ => False) s
noncomputable def EvTW (prog : Program) (w : World) (A : Around) (env : Env) (h₀ : Heap) (ρ : PEnv) (e : Expr) (b : Bool) : Prop :=
  ∀ X s, Sit env ρ X h₀ s.heap → wpAny (model prog w) A (isTrue e env (eval e env)) (fun c s' => KeepsBut env.locals s s' ∧ c = b) (fun _ _ => False) s
theorem KeepsBut.sit {env : Env} {ρ : PEnv} {X : List Addr} {h₀ : Heap} {s s' : Shared} (k : KeepsBut env.locals s s') (S : Sit env ρ X h₀ s.heap) : Sit env ρ X h₀ s'.heap := S.keepsBut k.2.1 k.2.2
section
variable {prog : Program} {w : World} {A : Around} {env : Env} {h₀ : Heap} {X₀ : List Addr} {ρ : PEnv} {Q : PF → PEnv → Prop}
theorem EvTW.or {e₁ e₂ : Expr} {pos : Pos} {b₁ b₂ : Bool} (h₁ : EvT prog w A env h₀ ρ e₁ b₁) (h₂ : b₁ = false → EvTW prog w A env h₀ ρ e₂ b₂) : EvTW prog w A env h₀ ρ (.BoolOp .Or [e₁, e₂] pos) (b₁ || b₂) := fun X s S =>
  isTrue_or (wpAny_mono (h₁ X s S) (fun c s₁ hc => by
    obtain ⟨k, rfl⟩ := hc
    cases c with
    | true => exact ⟨.ofKeeps k, rfl⟩
    | false =>
      refine isTrue_or (wpAny_mono (h₂ rfl X s₁ (S.keeps (Kp.hh k))) (fun c' s₂ hc' => ?_) fun _ _ x => x)
      obtain ⟨k', rfl⟩ := hc'
      cases c' with
      | true => exact ⟨.after k k', rfl⟩
      | false => exact isTrue_or_nil ⟨.after k k', rfl⟩) fun _ _ x => x)
theorem EvTW.not {e : Expr} {pos : Pos} {b : Bool} (h : EvTW prog w A env h₀ ρ e b) : EvTW prog w A env h₀ ρ (.UnaryOp .Not e pos) (!b) := fun X s S =>
  isTrue_not (wpAny_mono (h X s S) (fun c s₁ h₁ => ⟨h₁.1, by rw [h₁.2]⟩) fun _ _ x => x)
theorem EvTW.plain {e : Expr} {p : PV} {b : Bool} (h : EvW prog w A env h₀ ρ e p) (ht : Tru prog w A p b) (he : ∀ whole, isTrue e env whole = (do let v ← whole; standAt e.pos; holding [v] (truthy v)) := by intro _; rfl) : EvTW prog w A env h₀ ρ e b := fun X s S =>
  isTrue_plain (he := he _) (wpAny_mono (h X s S) (fun v s₁ h₁ => wpAny_mono (ht X s₁ v h₁.2) (fun c s₂ h₂ => ⟨.then h₁.1 h₂.1, h₂.2⟩) fun _ _ x => x) fun _ _ x => x)
theorem EvTW.cmp {l r : Expr} {op : CmpOp} {pos : Pos} {a b : PV} {c : Bool} (hl : EvW prog w A env h₀ ρ l a) (hr : Ev prog w A env h₀ ρ r b) (ho : Cmp prog w A op a b c) (hm : behindInMarks op r = false := by with_unfolding_all rfl) :
    EvTW prog w A env h₀ ρ (.Compare l [op] [r] pos) c := fun X s S =>
  wpAny_isTrue_Compare1 (hm := hm) (wpAny_mono (hl X s S) (fun va s₁ h₁ => wpAny_mono (hr X s₁ (h₁.1.sit S)) (fun vb s₂ h₂ =>
    wpAny_mono (ho X s₂ va vb (Live.keeps (h₁.1.sit S).live (Kp.hh h₂.1)) (h₁.2.keeps (Kp.hh h₂.1)) h₂.2) (fun v s₃ h₃ => by
      obtain ⟨k, rfl⟩ := h₃
      exact wpAny_truthy_bool ⟨.then (.then h₁.1 h₂.1) k, rfl⟩) fun _ _ x => x) fun _ _ x => x) fun _ _ x => x)
theorem TrS.iteW {t : Expr} {body orelse : List Stmt} {pos : Pos} {b : Bool} (ht : EvTW prog w A env h₀ ρ t b) (h1 : b = true → Tr prog w A env h₀ X₀ ρ body Q) (h2 : b = false → Tr prog w A env h₀ X₀ ρ orelse Q) :
    TrS prog w A env h₀ X₀ ρ (.If t body orelse pos) Q := fun X s hX S =>
  wpAny_If (wpAny_mono (ht X s S) (fun c s₁ hc => by
    obtain ⟨k, rfl⟩ := hc
    have S₁ := k.sit S
    have hh : ∀ a o, a ∉ X → s.heap.get? a = some o → s₁.heap.get? a = some o := fun a o ha ho => k.2.1 a o (fun q => ha (q ▸ S.loc)) ho
    have hs := k.1
    cases c with
    | true => exact wpAny_mono (h1 rfl X s₁ hX S₁) (fun f s₂ e => e.after hs hh fun a ha => .inl ha) fun _ _ x => x
    | false => exact wpAny_mono (h2 rfl X s₁ hX S₁) (fun f s₂ e => e.after hs hh fun a ha => .inl ha) fun _ _ x => x) fun _ _ x => x)
theorem Cmp.neB {a b : Bool} (hu : A.units < cLine) : Cmp prog w A .NotEq (.bool a) (.bool b) (a != b) := fun X s va vb L ha hb => by
  cases ha; cases hb
  refine PySem.SeqAt.compareNe_reads (.bool _) (.bool _) rfl rfl ?_ ?_
  · simp [PyData.depth]; omega
  · refine ⟨Kp.refl s, ?_⟩
    cases a <;> cases b <;> rfl
end

theorem warm19 : PySem.Challenge.rw_un0038_01 = PySem.Challenge.rw_un0038_01 ∧ frag = frag := by
  k_fill
  exact ⟨rfl, rfl⟩
/-- _compare_args_orderless(e1, e2) from law's frame -/
theorem ev_cmp {w : World} {A : Around} {env : Env} {h₀ : Heap} {ρ : PEnv} {a b : List Str} {e1 e2 : Expr} {np pos : Pos} (B : Base w h₀) (K : Ok 2 A) (hfr : A.frames = some [env]) (hfl : env.frame = some env.locals) (ha : a.length ≤ 64) (hb : b.length ≤ 64)
    (hg : Glob h₀ (Str.ofString "_compare_args_orderless") (.ref 196)) (hi : IsFun h₀ 196)
    (hA : EvA PySem.Challenge.rw_un0038_01.row.prog w A env h₀ ρ [e1, e2] [.list (a.map .str), .list (b.map .str)])
    (hk : env.kindOf (Str.ofString "_compare_args_orderless") = some .globalImplicit := by with_unfolding_all rfl)
    (he : starEach [e1, e2] env = (false, eval e1 env) :: starEach [e2] env := by rfl) :
    EvW PySem.Challenge.rw_un0038_01.row.prog w A env h₀ ρ (.Call (.Name (Str.ofString "_compare_args_orderless") np) [e1, e2] [] pos) (.bool (cmpS a b)) := fun X s S => by
  obtain ⟨o, fd, ho, hd'⟩ := hi
  refine Call_ (wp_glob S hg hk (by decide) (callWith_def (he := he) hd' (wpAny_mono (hA X s pos S) (fun vs s₁ h₁ => ⟨Kp.hh h₁.1 _ _ (S.keep _ _ ho), ?_⟩) fun _ _ x => x)))
  have S₁ := S.keeps (Kp.hh h₁.1)
  refine wpAny_mono (cmp_c B K hfr S.kind hfl S.locN ha hb s₁ vs S₁.keep S₁.ns ⟨h₁.2.1, fun i v p q1 q2 => (h₁.2.2 i v p q1 q2).less (fun _ q => by cases q)⟩) (fun v s₂ h₂ => ?_) fun _ _ x => x.elim
  obtain ⟨k, rfl⟩ := h₂
  exact ⟨.after h₁.1 k, .bool _⟩
end

-- C14
section
open PySem PySem.W PyProof.Rows PySem.Calls
set_option maxRecDepth 100000
set_option maxHeartbeats 8000000
theorem warm14 : PySem.Challenge.rw_un0038_01 = PySem.Challenge.rw_un0038_01 ∧ frag = frag := by
  k_fill
  exact ⟨rfl, rfl⟩

noncomputable def neS (x y : Str) : Bool := x.cps.toList != y.cps.toList
noncomputable def climbN : Nat → Str → Str → List Str → List Str
  | 0, _, _, acc => acc
  | n + 1, top, way, acc => if neS way top && decide ((acc.length : Int) < 60) then climbN n top (dirS way) (acc ++ [way]) else acc
noncomputable def livesS (ps : List Str) : List Str :=
  if ps.isEmpty then [] else ((fkPairs (ps.foldl (fun acc way => climbN 60 (cpS ps) way acc) [])).map (·.1)) ++ [cpS ps]

structure CpOk (ps : List Str) : Prop where
  good : ∀ p ∈ ps, GoodP p
  pre : ∀ i, i < (minLL (ps.map compsS)).length → (∀ j, j < i → (minLL (ps.map compsS))[j]? = (maxLL (ps.map compsS))[j]?) → i < (maxLL (ps.map compsS)).length
  min : (minLL (ps.map compsS)).length ≤ 64
  join : ∀ n, (((minLL (ps.map compsS)).take n).map (·.length)).sum ≤ 10000
  jl : ∀ n, (Txt.join sl ((minLL (ps.map compsS)).take n)).length ≤ 10000

theorem climbN_len (top : Str) : ∀ n way (acc : List Str), acc.length ≤ 60 → (climbN n top way acc).length ≤ 60
  | 0, _, _, h => h
  | n + 1, way, acc, h => by
    unfold climbN
    split
    · rename_i q
      have : (acc.length : Int) < 60 := by simpa using (Bool.and_eq_true_iff.mp q).2
      exact climbN_len top n _ _ (by simp; omega)
    · exact h

theorem lives_c {w : World} {A : Around} {h₀ : Heap} {ps : List Str} {W : Str → Prop} (B : Base w h₀) (K : Ok 4 A) (hl : ps.length ≤ 64) (hW : ∀ x, W x → x.length ≤ 64 ∧ W (dirS x)) (hps : ∀ p ∈ ps, W p) (hok : ps ≠ [] → CpOk ps) :
    FnD PySem.Challenge.rw_un0038_01.row.prog w A h₀ 203 [.list (ps.map .str)] (.list ((livesS ps).map .str)) := by
  have hz := sizeLine_eq
  walk_at "m_enter"
  intro h L X A' B' K' hL
  have al : ∀ l : List Str, (l.map PV.str).all SmallS = true := fun l => List.all_eq_true.mpr fun q hq => by obtain ⟨x, _, rfl⟩ := List.mem_map.mp hq; rfl
  have hemp : pvsEq (ps.map PV.str) [] = ps.isEmpty := by cases ps <;> rfl
  refine Tr.cons (TrS.ite (b := ps.isEmpty) (by rw [← hemp]; exact EvT.cmp (Ev.var rfl) (Ev.list EvA.nil) (Cmp.eqL (by have := K'.un; omega) (.inr ⟨al ps, rfl⟩))) (fun q => ?_) (fun q => Tr.nil ?_))
  · refine Tr.cons (TrS.ret (p := .list ((livesS ps).map .str)) ?_ rfl)
    unfold livesS
    rw [if_pos q]
    exact Ev.list EvA.nil
  · have hne : ps ≠ [] := fun e => by rw [e] at q; cases q
    have hc := hok hne
    refine Tr.cons (TrS.assign (Ev.callD (by walk_at "m_glob") (by walk_at "m_fun") (EvA.cons (Ev.var rfl) EvA.nil) (commonpath_c B' (K'.less (by omega)) hne hl hc.good hc.pre hc.min hc.join hc.jl)) ?_ (.inl rfl))
    refine Tr.cons (TrS.assignOwn EvNew.nil ?_ (.inl rfl))
    refine Tr.cons (TrS.for (l := ps.map .str) (fun i ρ => (((ps.take i).foldl (fun acc way => climbN 60 (cpS ps) way acc) []).length ≤ 60) ∧ Has ρ [(Str.ofString "top", .val (.str (cpS ps))), (Str.ofString "folders", .own (((ps.take i).foldl (fun acc way => climbN 60 (cpS ps) way acc) []).map .str))]) (EvIt.list (Ev.var rfl) K'.hn) (.inl rfl) ⟨by simp, Has.cons rfl (Has.cons rfl Has.nil)⟩ ?_ ?_)
    · intro i p ρ' hp hI
      obtain ⟨y, hy, rfl⟩ : ∃ y, ps[i]? = some y ∧ p = .str y := by
        rw [List.getElem?_map] at hp
        obtain ⟨y, hy, e⟩ := Option.map_eq_some_iff.mp hp
        exact ⟨y, hy, e.symm⟩
      obtain ⟨hlen, hI⟩ := hI
      have hstep : (ps.take (i + 1)).foldl (fun acc way => climbN 60 (cpS ps) way acc) [] = climbN 60 (cpS ps) y ((ps.take i).foldl (fun acc way => climbN 60 (cpS ps) way acc) []) := by
        rw [List.take_add_one, hy, List.foldl_append]; rfl
      have hlen2 := climbN_len (cpS ps) 60 y _ hlen
      rw [← hstep] at hlen2
      refine Tr.has (l := [(Str.ofString "way", .val (.str y)), (Str.ofString "top", .val (.str (cpS ps))), (Str.ofString "folders", .own (((ps.take i).foldl (fun acc way => climbN 60 (cpS ps) way acc) []).map .str))]) (Has.cons rfl (Has.cons (hI.sub _ _ rfl) (Has.cons (hI.sub _ _ rfl) Has.nil))) ?_
      refine Tr.cons (TrS.while (fun n ρ => ∃ way acc, W way ∧ 60 ≤ n + acc.length ∧ acc.length ≤ 60 ∧ climbN n (cpS ps) way acc = (ps.take (i + 1)).foldl (fun acc way => climbN 60 (cpS ps) way acc) [] ∧
        Has ρ [(Str.ofString "way", .val (.str way)), (Str.ofString "top", .val (.str (cpS ps))), (Str.ofString "folders", .own (acc.map .str))]) 60
        ⟨y, _, hps y (List.mem_of_getElem? hy), by omega, hlen, hstep.symm, Has.cons rfl (Has.cons rfl (Has.cons rfl Has.nil))⟩ ?_)
      · rintro n ρ2 ⟨way, acc, hw, hna, hal, hcl, hh⟩
        refine ⟨neS way (cpS ps) && decide ((acc.length : Int) < 60), EvT.and (EvT.cmp (Ev.var (hh.sub _ _ rfl)) (Ev.var (hh.sub _ _ rfl)) Cmp.neS) (fun _ => EvT.cmp (Ev.lenL (l := acc.map .str) (by walk_at "m_glob") (EvL.own (hh.sub _ _ rfl)) (by rw [List.length_map]; omega)) Ev.int (by rw [List.length_map]; exact Cmp.ltI)), fun q => ?_, fun q => ?_⟩
        · have hlt : acc.length < 60 := by have := (Bool.and_eq_true_iff.mp q).2; simp at this; omega
          obtain ⟨m, rfl⟩ : ∃ m, n = m + 1 := ⟨n - 1, by omega⟩
          refine Tr.has hh ?_
          refine Tr.cons (TrS.append rfl (Ev.var rfl) ?_ (by rw [List.length_map]; omega))
          refine Tr.cons (TrS.assign (Ev.callD (by walk_at "m_glob") (by walk_at "m_fun") (EvA.cons (Ev.var rfl) EvA.nil) (dirname_c B' (K'.less (by omega)) (hW _ hw).1)) ?_ (.inl rfl))
          refine Tr.nil ⟨m, Nat.lt_succ_self _, dirS way, acc ++ [way], (hW _ hw).2, by simp; omega, by simp; omega, ?_, Has.cons rfl (Has.cons rfl (Has.cons (by show some (SV.own _) = some (SV.own _); rw [List.map_append]; rfl) Has.nil))⟩
          rw [← hcl]
          show _ = climbN (m + 1) (cpS ps) way acc
          rw [climbN, if_pos q]
        · have : acc = (ps.take (i + 1)).foldl (fun acc way => climbN 60 (cpS ps) way acc) [] := by
            rw [← hcl]
            cases n with
            | zero => rfl
            | succ m => rw [climbN, if_neg (by rw [q]; decide)]
          rw [← this]
          refine Tr.nil ⟨hal, Has.cons (hh.sub _ _ rfl) (Has.cons (hh.sub _ _ rfl) Has.nil)⟩
    · rintro ρ' ⟨hlen, hI⟩
      rw [List.length_map, List.take_length] at hI hlen
      refine Tr.nil ?_
      refine Tr.freeze (x := Str.ofString "folders") hL (hI.sub _ _ rfl) ?_
      refine Tr.cons (TrS.ret (p := .list ((livesS ps).map .str)) ?_ rfl)
      unfold livesS
      rw [if_neg (by rw [q]; decide), List.map_append]
      refine Ev.binop (ev_dedup B' (K'.less (by omega)) (by omega) (by walk_at "m_glob") (by walk_at "m_glob") (by walk_at "m_fun") (EvA.cons (Ev.var rfl) EvA.nil)) (Ev.list (ps := [.str (cpS ps)]) (EvA.cons (Ev.var (hI.sub _ _ rfl)) EvA.nil)) (Op2.addL ?_)
      have := fkPairs_len (ps.foldl (fun acc way => climbN 60 (cpS ps) way acc) [])
      simp; omega
end

-- L20
section
open PySem PySem.W PyProof.Rows PySem.Calls
set_option maxRecDepth 10000
set_option maxHeartbeats 1000000
section
variable {prog : Program} {w : World} {A : Around} {env cenv : Env} {h₀ : Heap} {X₀ : List Addr} {ρ ρc : PEnv} {Q : PF → PEnv → Prop}

/-- x[i] op= e for an own list -/
theorem TrS.augItem {x : Str} {px tpos pos : Pos} {i value : Expr} {op : Operator} {l : List PV} {k : Int} {r b c : PV} (hx : ρ.lookup x = some (.own l)) (hi : Ev prog w A env h₀ ρ i (.int k)) (h0 : 0 ≤ k) (h1 : k < 2 ^ 63) (hg : l[k.toNat]? = some r)
    (hv : Ev prog w A env h₀ ρ value b) (ho : Op2I prog w A op r b c) (hq : Q .next ((x, .own (l.set k.toNat c)) :: ρ)) (hd : (x == ("__debug__" : Str)) = false := by decide)
    (ha : ∀ ov iv new, augStore i ov iv new = (do holding [new, ov, iv] (setItem ov iv new); release [new, ov, iv] []; pure .next) := by intro _ _ _; rfl) :
    TrS prog w A env h₀ X₀ ρ (.AugAssign (.Subscript (.Name x px) i tpos) op value pos) Q := fun X s hX S => by
  obtain ⟨a, hva, haX, haN, ⟨vs, hl, hr⟩, hdd⟩ := S.own x l hx
  refine wpAny_AugAssign_SubscriptAny (hi := ha) (wp_var S hva hd (wpAny_mono (hi X s S) (fun iv s₁ h₁ => ?_) fun _ _ x => x))
  obtain ⟨k₁, hki⟩ := h₁
  cases hki with
  | int k t =>
    have S₁ := S.keeps (Kp.hh k₁)
    obtain ⟨v, hvv, hvr⟩ := hr.get hg
    have hl₁ := hl.at fun o => Kp.hh k₁ _ o
    refine wpAny_getItem_list hl₁.isList h0 h1 (by simpa using hvv) (wpAny_mono (hv X s₁ S₁) (fun bv s₂ h₂ => ?_) fun _ _ x => x)
    obtain ⟨k₂, hb⟩ := h₂
    have S₂ := S₁.keeps (Kp.hh k₂)
    refine wpAny_mono (ho X s₂ v bv S₂.live (hvr.keeps (Kp.hh (Kp.trans k₁ k₂))) hb) (fun nv s₃ h₃ => ?_) fun _ _ x => x
    obtain ⟨k₃, hc⟩ := h₃
    have k13 := Kp.trans (Kp.trans k₁ k₂) k₃
    have hh := Kp.hh k13
    have S₃ := S.keeps hh
    obtain ⟨n, hl₃⟩ := hl.at fun o => hh _ o
    have hlt : k.toNat < vs.length := by
      have := (List.getElem?_eq_some_iff.mp hvv).1; exact this
    refine ki_setAt (n := n) hl₃ h0 h1 (by rw [List.size_toArray]; omega) ?_
    have hs' : Heap.SameBut a s₃.heap (s₃.heap.update a (Obj.mapSeq (·.setIfInBounds k.toNat nv))) := Heap.SameBut.update ..
    have hl' : (s₃.heap.update a (Obj.mapSeq (·.setIfInBounds k.toNat nv))).PlainList a (vs.set k.toNat nv).toArray := by
      refine ⟨if ((vs.set k.toNat nv).toArray.size == vs.toArray.size) = true then n else n + 1, (IsL.update (n := n) hl₃ _).trans ?_⟩
      rw [show vs.toArray.setIfInBounds k.toNat nv = (vs.set k.toNat nv).toArray from by simp]
    have hr' : Reps s₃.heap X (vs.set k.toNat nv) (l.set k.toNat c) := by
      refine ⟨by simp [hr.1], fun j u p hu hp => ?_⟩
      by_cases q : k.toNat = j
      · subst q
        rw [List.getElem?_set_self hlt] at hu
        rw [List.getElem?_set_self (by rw [← hr.1]; exact hlt)] at hp
        cases hu; cases hp; exact hc
      · rw [List.getElem?_set_ne q] at hu hp
        exact (hr.2 j u p hu hp).keeps hh
    have S' := S₃.turn hx (hva.keeps hh) haX haN (fun y l e q hc => hdd y l e q (by
      obtain ⟨b, hb, _⟩ := S.own y l e
      have : Value.ref b = .ref a := (hb.keeps hh).fun hc
      cases this
      exact hb)) ⟨n, hl₃⟩ hl' hs' hr'
    obtain ⟨hp, tk, rfl, _⟩ := k13
    exact ⟨⟨_, tk, rfl⟩, fun b o hb ho => (hs'.2 b fun q => hb (q ▸ haX)).trans (hh b o ho), .next, _, X, hq, hX, S', fun b hb => .inl hb, trivial⟩
end
end

-- L21
section
open PySem PySem.W PyProof.Rows PySem.Calls
set_option maxRecDepth 10000
section
variable {prog : Program} {w : World} {A : Around} {env cenv : Env} {h₀ : Heap} {X₀ : List Addr} {ρ ρc : PEnv} {Q : PF → PEnv → Prop}

theorem EvNew.compG {elt tgt iter : Expr} {ifs : List Expr} {rest : List Comprehension} {scope : Scope} {pos ipos : Pos} {cl : List (Str × Addr)} {l : List PV} {fb : Bool} 
    (m : Value → Env → Sem Unit) (f : PV → Bool) (g : PV → List PV) (ρt : PV → PEnv) (hit : EvSrc prog w A env h₀ ρ tgt fb iter l) (hclos : closureFor scope env = pure cl) (hcap : Cap scope env cl ρ ρc)
    (hcl : ∀ y c, cl.lookup y = some c → env.cells.lookup y = some c) (hkind : scope.kind = .function) (hnames : ∀ y ∈ scope.names, y.2 = .local → scope.names.lookup y.1 = some .local)
    (hcn : ∀ n y c, ρc.lookup y ≠ Option.none → cl.lookup y = some c → (cellsFrom (n + 1) scope.names cl).lookup y = some c)
    (hasg : ∀ C p, p ∈ l → AsgT prog w A (compEnvC scope (cellsFrom (C + 1) scope.names cl) C env) h₀ ρc tgt p (ρt p))
    (hsub : ∀ p ∈ l, ∀ x sv, ρc.lookup x = some sv → (ρt p).lookup x = some sv)
    (htest : ∀ C p, p ∈ l → EvTs prog w A (compEnvC scope (cellsFrom (C + 1) scope.names cl) C env) h₀ (ρt p) ifs (f p))
    (htg : ∀ x, tgtHas tgt x = true → cl.lookup x = Option.none)
    (hem : ∀ h C D p, h.get? C = Option.none → p ∈ l → f p = true → Em prog w A (compEnvC scope (cellsFrom (C + 1) scope.names cl) C env) h₀ h D (AccL D) (m (.ref D) (compEnvC scope (cellsFrom (C + 1) scope.names cl) C env)) (ρt p) (g p))
    (hsz : (l.flatMap fun p => if f p then g p else []).length ≤ sizeLine)
    (heq : ∀ it acc cenv, compTurn (.ListComp elt (⟨tgt, iter, ifs, 0⟩ :: rest) scope pos) 0 it acc cenv = (do
      standAt ipos
      match ← pyNext it with
      | Option.none => pure (.done .next)
      | some v =>
        letOwnedTupleGo tgt it v
        assign tgt cenv v
        let ok ← forIn ifs true fun c r => if r = true then do let ok ← isTrue c cenv (eval c cenv); pure (ForInStep.yield ok) else pure (ForInStep.yield r)
        if ok = true then do m acc cenv; again (.compLoop (.ListComp elt (⟨tgt, iter, ifs, 0⟩ :: rest) scope pos) 0 it acc cenv)
        else again (.compLoop (.ListComp elt (⟨tgt, iter, ifs, 0⟩ :: rest) scope pos) 0 it acc cenv)))
    (hs : ∀ x, foldedSetIterable iter env x = pure x) :
    EvNew prog w A env h₀ ρ (.ListComp elt (⟨tgt, iter, ifs, 0⟩ :: rest) scope pos) (l.flatMap fun p => if f p then g p else []) := fun X s S => by
  rw [eval_ListComp]
  refine wpAny_comprehension_free (use := Option.none) rfl hs hclos hkind hnames (wpAny_mono (hit X s S) (fun xv s₁ h₁ => wpAny_mono h₁ (fun it s₂ h₂ => ?_) fun _ _ e => e) fun _ _ e => e)
  obtain ⟨k₂, I, fp, wr, St, rfl, O⟩ := h₂
  refine comp_core (RR := fun acc C => compPost (model prog w) A (fun _ _ => False) Option.none (fun v s' => Keeps s s' ∧ ∃ a, ∃ vs : List Value, v = .ref a ∧ s.heap.get? a = Option.none ∧ s'.heap.PlainList a vs.toArray ∧ Reps s'.heap (a :: X) vs (l.flatMap fun p => if f p then g p else [])) acc C) m f g ρt O S (Kp.hh k₂) hcap hcl hkind hcn hasg hsub htest htg (fun C D p => hem s.heap C D p) hsz heq ?_
  intro D C h' tk m' ys hD hC hDC hn hpl hys _ hk
  refine ⟨m', hn, fun h'' hs'' => ⟨?_, ?_⟩⟩
  · obtain ⟨hh, t, rfl, hkk⟩ := k₂
    exact ⟨h'', tk, rfl, fun b o e => hs''.extBut b o (fun q => by rw [q] at e; rw [hkk _ _ e] at hC; cases hC) (hk b o e)⟩
  · refine ⟨D, ys, rfl, ?_, hpl.at fun o e => hs''.extBut D o hDC e, hys.1, fun i v p hv hp => ?_⟩
    · cases e : s.heap.get? D with
      | none => rfl
      | some o => rw [Kp.hh k₂ _ _ e] at hD; cases hD
    refine ((hys.2 i v p hv hp).but fun a o ha ho => hs''.extBut a o (fun q => ha (q ▸ List.mem_cons_self)) ho).less fun a ha => ?_
    exact List.mem_cons_of_mem _ ha

/-- one generator -/
theorem EvNew.comp1 {elt tgt iter : Expr} {ifs : List Expr} {scope : Scope} {pos : Pos} {cl : List (Str × Addr)} {l : List PV} {fb : Bool}
    (f : PV → Bool) (g : PV → PV) (ρt : PV → PEnv) (hit : EvSrc prog w A env h₀ ρ tgt fb iter l) (hclos : closureFor scope env = pure cl) (hcap : Cap scope env cl ρ ρc)
    (hcl : ∀ y c, cl.lookup y = some c → env.cells.lookup y = some c) (hkind : scope.kind = .function) (hnames : ∀ y ∈ scope.names, y.2 = .local → scope.names.lookup y.1 = some .local)
    (hcn : ∀ n y c, ρc.lookup y ≠ Option.none → cl.lookup y = some c → (cellsFrom (n + 1) scope.names cl).lookup y = some c)
    (hasg : ∀ C p, p ∈ l → AsgT prog w A (compEnvC scope (cellsFrom (C + 1) scope.names cl) C env) h₀ ρc tgt p (ρt p))
    (hsub : ∀ p ∈ l, ∀ x sv, ρc.lookup x = some sv → (ρt p).lookup x = some sv) (hno : ∀ p ∈ l, NoOwn (ρt p))
    (htg : ∀ x, tgtHas tgt x = true → cl.lookup x = Option.none)
    (htest : ∀ C p, p ∈ l → EvTs prog w A (compEnvC scope (cellsFrom (C + 1) scope.names cl) C env) h₀ (ρt p) ifs (f p))
    (helt : ∀ C p, p ∈ l → f p = true → Ev prog w A (compEnvC scope (cellsFrom (C + 1) scope.names cl) C env) h₀ (ρt p) elt (g p))
    (hsz : l.length ≤ sizeLine) (hs : ∀ x, foldedSetIterable iter env x = pure x := by intro _; rfl) :
    EvNew prog w A env h₀ ρ (.ListComp elt [⟨tgt, iter, ifs, 0⟩] scope pos) ((l.filter f).map g) := by
  have hl : ((l.filter f).map g).length ≤ sizeLine := by rw [List.length_map]; exact Nat.le_trans (List.length_filter_le _ _) hsz
  have key := EvNew.compG (prog := prog) (w := w) (A := A) (elt := elt) (rest := []) (pos := pos) (ipos := iter.pos) (mLast elt) f (fun p => [g p]) ρt hit hclos hcap hcl hkind hnames hcn hasg hsub htest htg (fun h C D p hC hp hf => Em.last (helt C p hp hf) (hno p hp)) (by rw [flat_one]; exact hl) (fun it acc cenv => by rfl) hs
  rw [flat_one] at key
  exact key

end
end

-- C15
section
open PySem PySem.W PyProof.Rows PySem.Calls
set_option maxRecDepth 100000
set_option maxHeartbeats 8000000
theorem warm15 : PySem.Challenge.rw_un0038_01 = PySem.Challenge.rw_un0038_01 ∧ frag = frag := by
  k_fill
  exact ⟨rfl, rfl⟩
noncomputable def nz (l : List Int) (i : Int) : Int := l.getD i.toNat 0
noncomputable def intL (l : List Int) : List PV := l.map .int
noncomputable def fIn (above bl : List Int) (n : Nat) (k : Int) (j : Int) : Bool := nz above j == k && nz bl j == (n : Int)
noncomputable def r07 : List Int := [0, 1, 2, 3, 4, 5, 6]
noncomputable def pI (f : Int → Bool) : PV → Bool
  | .int k => f k
  | _ => false
theorem filter_intL (f : Int → Bool) (l : List Int) : ((intL l).filter (pI f)).map id = intL (l.filter f) := by
  unfold intL; rw [List.map_id, List.filter_map]; rfl
noncomputable def below0 (having : List Int) : List Int := r07.map fun k => if having.any (fun p => p == k) then 1 else 0
noncomputable def belowStep (above bl : List Int) (k : Int) : List Int := bl.set (nz above k).toNat (nz bl (nz above k) + nz bl k)
noncomputable def belowP (above having : List Int) : List Int := [6, 5, 4, 3, 2, 1].foldl (belowStep above) (below0 having)
noncomputable def betweenP (above having : List Int) : List Int := r07.filter fun k => decide (nz (belowP above having) k > 0) && (([1, 2, 3, 4, 5, 6] : List Int).filter (fIn above (belowP above having) having.length k)).isEmpty
structure Above (above : List Int) : Prop where
  len : above.length = 7
  lo : ∀ k, 0 ≤ nz above k
  hi : ∀ k, nz above k < 7
theorem nz_get {l : List Int} {k : Int} (h1 : k.toNat < l.length) : (intL l)[k.toNat]? = some (.int (nz l k)) := by
  unfold intL nz
  rw [List.getElem?_map, List.getElem?_eq_getElem h1]
  simp [h1]
theorem belowStep_len (above bl : List Int) (k : Int) : (belowStep above bl k).length = bl.length := by simp [belowStep]
theorem below_len (above : List Int) (ks bl : List Int) : (ks.foldl (belowStep above) bl).length = bl.length := by
  induction ks generalizing bl with
  | nil => rfl
  | cons k ks ih => rw [List.foldl_cons, ih, belowStep_len]
theorem all_small (l : List Int) : (intL l).all Small = true := List.all_eq_true.mpr fun q hq => by obtain ⟨x, _, rfl⟩ := List.mem_map.mp hq; rfl
theorem pvsEq_nil (l : List PV) : pvsEq l [] = l.isEmpty := by cases l <;> rfl
theorem any_ints (l : List Int) (k : Int) : ((intL l).any fun p => pvEq p (.int k)) = l.any fun p => p == k := by
  unfold intL; rw [List.any_map]; rfl
theorem mem07 {k : Int} (h : k ∈ r07) : 0 ≤ k ∧ k < 7 := by
  unfold r07 at h
  simp only [List.mem_cons, List.not_mem_nil, or_false] at h
  rcases h with rfl | rfl | rfl | rfl | rfl | rfl | rfl <;> decide

theorem between_c {w : World} {A : Around} {h₀ : Heap} {above having : List Int} (B : Base w h₀) (K : Ok 1 A) (ha : Above above) (hl : having.length ≤ 64) :
    FnD PySem.Challenge.rw_un0038_01.row.prog w A h₀ 208 [.list (intL above), .list (intL having)] (.list (intL (betweenP above having))) := by
  have hz := sizeLine_eq
  refine' enterC ?kB ?kK ?ho ?hcd ?hbind ?hloc ?hnd ?_ ?h1 ?h2 ?h3
  (case kB => assumption)
  (case kK => assumption)
  (case ho => k_is)
  (case hcd => k_is)
  (case hloc =>
    intro y hy
    rcases List.mem_cons.mp hy with rfl | hy
    · exact .inr ⟨rfl, fun n => rfl⟩
    · rw [List.mem_singleton.mp hy]; exact .inr ⟨rfl, fun n => rfl⟩)
  (case hnd => decide)
  (case h1 => rfl)
  (case h2 => rfl)
  (case h3 => rfl)
  (case hbind => refine bind2 fun v u => ?_; kernel_rfl)
  intro h L X A' B' K' hL
  refine Tr.cons (TrS.assignOwn (EvNew.comp1 (l := intL r07) (fun _ => true) (fun p => match p with | .int k => .int (if having.any (fun p => p == k) then 1 else 0) | _ => .none) (fun p => (Str.ofString "k", .val p) :: [(Str.ofString "having", .val (.list (intL having)))])
    (fb := true) (EvSrc.ofIt (EvIt.range (a := 0) (b := 7) (c := 1) (n := 7) (by walk_at "m_glob") (EvA.cons Ev.int EvA.nil) K'.hn (.inl ⟨rfl, rfl, rfl⟩) rfl rfl)) (hclos := rfl) (Cap.cons rfl rfl rfl rfl Cap.nil) (clSub ⟨rfl, trivial⟩) rfl (namesOk (by decide)) (fun n y c _ e => e) (fun C p hp => AsgT.name (.inl rfl)) (fun p hp => keepCons rfl) (fun p hp => NoOwn.cons (NoOwn.cons NoOwn.nil)) (tgName rfl) (fun C p hp => EvTs.nil) (fun C p hp _ => ?_) (by decide +kernel)) ?_ (.inr ⟨rfl, rfl⟩))
  · obtain ⟨k, hk, rfl⟩ := List.mem_map.mp hp
    have e : (if (intL having).any (fun p => pvEq p (.int k)) then PV.int 1 else .int 0) = .int (if having.any (fun p => p == k) then 1 else 0) := by rw [any_ints]; split <;> rfl
    show Ev _ _ _ _ _ _ _ (.int (if having.any (fun p => p == k) then 1 else 0))
    exact Ev.ifExp (EvT.cmp (Ev.var rfl) (Ev.var rfl) (Cmp.inL (.inl ⟨all_small _, rfl⟩))) (fun q => by rw [any_ints] at q; rw [if_pos q]; exact Ev.int) (fun q => by rw [any_ints] at q; rw [if_neg (by rw [q]; decide)]; exact Ev.int)
  have e0 : ((intL r07).filter fun _ => true).map (fun p => match p with | .int k => PV.int (if having.any (fun p => p == k) then 1 else 0) | _ => .none) = intL (below0 having) := rfl
  rw [e0]
  have bl0 : (below0 having).length = 7 := rfl
  refine Tr.cons (TrS.for (l := intL [6, 5, 4, 3, 2, 1]) (fun i ρ => Has ρ [(Str.ofString "above", .val (.list (intL above))), (Str.ofString "having", .val (.list (intL having))), (Str.ofString "below", .own (intL ((([6, 5, 4, 3, 2, 1] : List Int).take i).foldl (belowStep above) (below0 having))))])
    (EvIt.range (a := 6) (b := 0) (c := -1) (n := 6) (by walk_at "m_glob") (EvA.cons Ev.int (EvA.cons Ev.int (EvA.cons (Ev.neg Ev.int) EvA.nil))) K'.hn (.inr (.inr ⟨rfl, by decide, by decide⟩)) rfl rfl) (.inl rfl) (Has.cons rfl (Has.cons rfl (Has.cons rfl Has.nil))) ?_ ?_)
  · intro i p ρ' hp hI
    obtain ⟨k, hk, rfl⟩ : ∃ k, ([6, 5, 4, 3, 2, 1] : List Int)[i]? = some k ∧ p = .int k := by
      unfold intL at hp
      rw [List.getElem?_map] at hp
      obtain ⟨y, hy, e⟩ := Option.map_eq_some_iff.mp hp
      exact ⟨y, hy, e.symm⟩
    have hkr : 0 ≤ k ∧ k < 7 := by
      have := List.mem_of_getElem? hk
      simp only [List.mem_cons, List.not_mem_nil, or_false] at this
      rcases this with rfl | rfl | rfl | rfl | rfl | rfl <;> decide
    generalize hbl : (([6, 5, 4, 3, 2, 1] : List Int).take i).foldl (belowStep above) (below0 having) = bl at hI
    have hlen : bl.length = 7 := by rw [← hbl, below_len]; rfl
    have hstep : (([6, 5, 4, 3, 2, 1] : List Int).take (i + 1)).foldl (belowStep above) (below0 having) = belowStep above bl k := by
      rw [List.take_add_one, hk, List.foldl_append, hbl]; rfl
    refine Tr.has (l := [(Str.ofString "k", .val (.int k)), (Str.ofString "above", .val (.list (intL above))), (Str.ofString "having", .val (.list (intL having))), (Str.ofString "below", .own (intL bl))]) (Has.cons rfl (Has.cons (hI.sub _ _ rfl) (Has.cons (hI.sub _ _ rfl) (Has.cons (hI.sub _ _ rfl) Has.nil)))) ?_
    have hlo := ha.lo k
    have hhi := ha.hi k
    refine Tr.cons (TrS.augItem (k := nz above k) (r := .int (nz bl (nz above k))) (b := .int (nz bl k)) (c := .int (nz bl (nz above k) + nz bl k)) rfl
      (Ev.itemL (k := k) (Ev.toL (Ev.var rfl)) (Ev.var rfl) hkr.1 (by omega) (nz_get (by rw [ha.len]; omega))) hlo (by omega) (nz_get (by omega)) (Ev.itemL (k := k) (EvL.own rfl) (Ev.var rfl) hkr.1 (by omega) (nz_get (by omega))) Op2I.addI ?_)
    refine Tr.nil ?_
    show Has _ _
    rw [hstep]
    refine Has.cons rfl (Has.cons rfl (Has.cons ?_ Has.nil))
    show some (SV.own _) = some (SV.own _)
    unfold belowStep intL
    rw [List.map_set]
  · intro ρ' hI
    refine Tr.nil ?_
    refine Tr.freeze (x := Str.ofString "below") hL (hI.sub _ _ rfl) ?_
    refine Tr.has (l := [(Str.ofString "above", .val (.list (intL above))), (Str.ofString "having", .val (.list (intL having))), (Str.ofString "below", .val (.list (intL (belowP above having))))]) (Has.cons (hI.sub _ _ rfl) (Has.cons (hI.sub _ _ rfl) (Has.cons rfl Has.nil))) ?_
    have hlen : (belowP above having).length = 7 := below_len above _ _
    generalize hbl : belowP above having = bl at hlen
    have hP : betweenP above having = r07.filter fun k => decide (nz bl k > 0) && (([1, 2, 3, 4, 5, 6] : List Int).filter (fIn above bl having.length k)).isEmpty := by unfold betweenP; rw [hbl]
    rw [hP, ← filter_intL]
    refine Tr.cons (TrS.ret (Ev.comp1 (l := intL r07) (pI fun k => decide (nz bl k > 0) && (([1, 2, 3, 4, 5, 6] : List Int).filter (fIn above bl having.length k)).isEmpty) id (fun p => (Str.ofString "k", .val p) :: [(Str.ofString "above", .val (.list (intL above))), (Str.ofString "having", .val (.list (intL having))), (Str.ofString "below", .val (.list (intL bl)))])
      (fb := true) (EvSrc.ofIt (EvIt.range (a := 0) (b := 7) (c := 1) (n := 7) (by walk_at "m_glob") (EvA.cons Ev.int EvA.nil) K'.hn (.inl ⟨rfl, rfl, rfl⟩) rfl rfl)) (hclos := rfl) (Cap.cons rfl rfl rfl rfl (Cap.cons rfl rfl rfl rfl (Cap.cons rfl rfl rfl rfl Cap.nil))) (clSub ⟨rfl, rfl, rfl, trivial⟩) rfl (namesOk (by decide)) ?hcn (fun C p hp => AsgT.name (.inr ⟨rfl, rfl⟩)) (fun p hp => keepCons rfl) (fun p hp => NoOwn.cons (NoOwn.cons (NoOwn.cons (NoOwn.cons NoOwn.nil)))) (tgName rfl) (fun C p hp => EvTs.one ?test) (fun C p hp _ => Ev.var rfl) (by decide +kernel)) rfl)
    case test =>
      obtain ⟨k, hk, rfl⟩ := List.mem_map.mp hp
      obtain ⟨k0, k7⟩ := mem07 hk
      show EvT _ _ _ _ _ _ _ (decide (nz bl k > 0) && _)
      have e1 : ∀ l : List Int, l.isEmpty = pvsEq (intL l) [] := fun l => by cases l <;> rfl
      rw [e1, ← filter_intL]
      refine EvT.and (EvT.cmp (Ev.itemL (k := k) (Ev.toL (Ev.var rfl)) (Ev.var rfl) k0 (by omega) (nz_get (by omega))) Ev.int Cmp.gtI) (fun _ => EvT.cmp (Ev.comp1 (l := intL [1, 2, 3, 4, 5, 6]) (pI (fIn above bl having.length k)) id (fun p => (Str.ofString "j", .val p) :: [(Str.ofString "above", .val (.list (intL above))), (Str.ofString "having", .val (.list (intL having))), (Str.ofString "below", .val (.list (intL bl))), (Str.ofString "k", .val (.int k))])
        (fb := true) (EvSrc.ofIt (EvIt.range (a := 1) (b := 7) (c := 1) (n := 6) (by walk_at "m_glob") (EvA.cons Ev.int (EvA.cons Ev.int EvA.nil)) K'.hn (.inr (.inl ⟨rfl, rfl⟩)) rfl rfl)) (hclos := rfl) (Cap.cons rfl rfl rfl rfl (Cap.cons rfl rfl rfl rfl (Cap.cons rfl rfl rfl rfl (Cap.cons rfl rfl rfl rfl Cap.nil)))) (clSub ⟨rfl, rfl, rfl, rfl, trivial⟩) rfl (namesOk (by decide)) (fun n y c _ e => e) (fun C p hp => AsgT.name (.inl rfl)) (fun p hp => keepCons rfl) (fun p hp => NoOwn.cons (NoOwn.cons (NoOwn.cons (NoOwn.cons (NoOwn.cons NoOwn.nil))))) (tgName rfl) (fun C p hp => EvTs.one ?t2) (fun C p hp _ => Ev.var rfl) (by decide +kernel))
        (Ev.list EvA.nil) (Cmp.eqL (by have := K'.un; omega) (.inl ⟨?_, rfl⟩)))
      case t2 =>
        obtain ⟨j, hj, rfl⟩ := List.mem_map.mp hp
        have hj7 : 0 ≤ j ∧ j < 7 := by
          simp only [List.mem_cons, List.not_mem_nil, or_false] at hj
          rcases hj with rfl | rfl | rfl | rfl | rfl | rfl <;> decide
        show EvT _ _ _ _ _ _ _ (fIn above bl having.length k j)
        exact EvT.and (EvT.cmp (Ev.itemL (k := j) (Ev.toL (Ev.var rfl)) (Ev.var rfl) hj7.1 (by omega) (nz_get (by rw [ha.len]; omega))) (Ev.var rfl) Cmp.eqI)
          (fun _ => EvT.cmp (Ev.itemL (k := j) (Ev.toL (Ev.var rfl)) (Ev.var rfl) hj7.1 (by omega) (nz_get (by omega))) (Ev.lenL (by walk_at "m_glob") (Ev.toL (Ev.var rfl)) (by unfold intL; rw [List.length_map]; omega)) (by unfold intL; rw [List.length_map]; exact Cmp.eqI))
      rw [filter_intL]; exact all_small _
    case hcn =>
      intro n y c hy e
      show List.lookup y ((Str.ofString "k", _) :: _) = some c
      have hne : y ≠ Str.ofString "k" := fun q => hy (by rw [q]; rfl)
      rw [List.lookup_cons, show (y == Str.ofString "k") = false from by simpa using hne]
      exact e
end

-- F20
section
open PySem PySem.W PyProof.Rows PySem.Calls
set_option maxRecDepth 100000
set_option maxHeartbeats 4000000
open PySem.MeetsSeq PySem.MeetsSeq2 PySem.MeetsSeq3 PySem.AutoSeq1
/-- pairs of an int and a str compared -/
noncomputable def pairGt (p q : Int × Str) : Bool := if p.1 == q.1 then (if p.2 == q.2 then false else gtS p.2 q.2) else decide (p.1 > q.1)

theorem gt_pairs {prog : Program} {w : World} {A : Around} {E : Value → Shared → Prop} {s : Shared} {l b : Addr} {p q : Int × Str} {t u t' u' : Tok} {Q : Value → Shared → Prop} (hl : IsTup s.heap l #[.int p.1 t, .str p.2 u]) (hb : IsTup s.heap b #[.int q.1 t', .str q.2 u']) (hu : A.units < cLine)
    (h : Q (.bool (pairGt p q)) s) : wpAny (model prog w) A (richCompare .Gt (.ref l) (.ref b)) Q E s := by
  obtain ⟨⟨cls, dd, data, sl⟩, ho, hc, n, hd⟩ := id hl
  obtain ⟨⟨cls2, dd2, data2, sl2⟩, ho2, hc2, n2, hd2⟩ := id hb
  simp only at hc hd hc2 hd2
  subst hc hd hc2 hd2
  have g : Meets (Builtin.«tuple.__gt__» ⟨[.ref l, .ref b], []⟩) (fun A R s => s.heap.get? l = some { cls := .type "tuple", dict := dd, data := .seq #[.int p.1 t, .str p.2 u] n, slots := sl } ∧ s.heap.get? b = some { cls := .type "tuple", dict := dd2, data := .seq #[.int q.1 t', .str q.2 u'] n2, slots := sl2 } ∧
      R (.ok (.ret (.bool (pairGt p q)))) s) :=
    .of_wp fun prog w A R s h => by
    obtain ⟨hp, g, d, tk, os⟩ := s; obtain ⟨hl, hb, h⟩ := h
    have f2 := AutoSeq1.sub_tuple_tuple
    wp_walk using wpAny_loadPart' hl, wpAny_loadPart' hb
    refine wpAny_eqBool_int ?_
    unfold pairGt at h
    cases hpq : p.1 == q.1 with
    | true =>
      rw [hpq] at h
      wp_walk
      refine eqBool_str ?_
      cases hxy : p.2 == q.2 with
      | true =>
        rw [hxy] at h
        wp_walk
        exact ⟨_, rfl, h⟩
      | false =>
        rw [hxy] at h
        refine wpAny_bind (wpAny_rule (wpAny_bind (PySem.P.gt_str ?_)))
        wp_walk
        exact ⟨_, rfl, h⟩
    | false =>
      rw [hpq] at h
      refine wpAny_bind (wpAny_rule (wpAny_bind (PySem.P.gt_int ?_)))
      wp_walk
      exact ⟨_, rfl, h⟩
  exact richCompare_meets_room (op := .Gt) ⟨_, ho, rfl⟩ ⟨_, ho2, rfl⟩ PySem.F.slot_tuple_gt PySem.F.entry_tuple_gt (PySem.F.args_tuple_gt_2 _ _) g
    ⟨ho, ho2, show Value.bool (pairGt p q) ≠ Value.notImplemented ∧ Q (.bool (pairGt p q)) s from ⟨(fun x => nomatch x), h⟩⟩ hu

noncomputable def pairP (p : Int × Str) : PV := .tuple [.int p.1, .str p.2]
noncomputable def maxPP (ps : List (Int × Str)) : Int × Str := ps.getD (argBest (fun i j => pairGt (ps.getD i (0, Str.empty)) (ps.getD j (0, Str.empty))) (ps.length - 1)) (0, Str.empty)
theorem pairP_at {X : List Addr} {h : Heap} {vs : List Value} {ps : List (Int × Str)} (hr : Reps h X vs (ps.map pairP)) {i : Nat} {v : Value} (hv : vs[i]? = some v) : ∃ a t u, v = .ref a ∧ IsTup h a #[.int (ps.getD i (0, Str.empty)).1 t, .str (ps.getD i (0, Str.empty)).2 u] ∧ Rep h X v (pairP (ps.getD i (0, Str.empty))) := by
  obtain ⟨p, hp, hrp⟩ := hr.get' hv
  rw [List.getElem?_map] at hp
  cases e : ps[i]? with
  | none => rw [e] at hp; cases hp
  | some q =>
    rw [e] at hp
    obtain rfl : pairP q = p := Option.some.inj hp
    have hg : ps.getD i (0, Str.empty) = q := by simp [List.getD, e]
    rw [hg]
    have hrp' := hrp
    unfold pairP at hrp
    cases hrp with
    | tuple hx hl hn hi =>
      have hh : Reps h X _ [PV.int q.1, .str q.2] := ⟨hn, hi⟩
      obtain ⟨v1, vs1, rfl, h1, hr1⟩ := hh.cons_inv
      obtain ⟨v2, vs2, rfl, h2, hr2⟩ := hr1.cons_inv
      obtain rfl := hr2.nil_inv
      cases h1; cases h2
      exact ⟨_, _, _, rfl, hl, hrp'⟩
section
variable {prog : Program} {w : World} {A : Around} {E : Value → Shared → Prop} {s : Shared}
theorem Fn.maxPP {ps : List (Int × Str)} (hh : A.handled = none) (hu : A.units + 2 < cLine) (hne : ps ≠ []) : Fn prog w A (.builtin "max") [.list (ps.map pairP)] (pairP (maxPP ps)) := fun X s vs L hr => by
  obtain ⟨v, rfl, hv⟩ := hr.one
  cases hv with
  | @list a vs _ ha hl hn hi =>
    have hreps : Reps s.heap X vs (ps.map pairP) := ⟨hn, hi⟩
    have hlen : vs.length = ps.length := by rw [hn, List.length_map]
    have hpos : 0 < ps.length := by cases ps with
      | nil => exact absurd rfl hne
      | cons _ _ => simp
    refine call_max_K (iter_all (X := X) hh hl fun I fp wr St h' W hK st hfp hwr hk => ?_)
    refine ⟨I, fp, wr, _, _, St, (fun h => ∀ b o, s.heap.get? b = some o → h.get? b = some o), (fun i j => pairGt (ps.getD i (0, Str.empty)) (ps.getD j (0, Str.empty))), rfl, W, hK, st, hfp, by omega, ?_, fun v h'' tk hP hk' => ?_⟩
    · intro i j vi vj s₁ Q E hK hi' hj' hQ
      obtain ⟨a1, t1, u1, rfl, ⟨o1, l1, r1⟩, _⟩ := pairP_at hreps hi'
      obtain ⟨a2, t2, u2, rfl, ⟨o2, l2, r2⟩, _⟩ := pairP_at hreps hj'
      exact gt_pairs ⟨o1, hK _ _ l1, r1⟩ ⟨o2, hK _ _ l2, r2⟩ (by show A.units + 1 < cLine; omega) hQ
    · have kk : ∀ b o, s.heap.get? b = some o → h''.get? b = some o := fun b o e => hk' b o (fun q => by rw [hwr b q] at e; cases e) (hk b o e)
      obtain ⟨_, _, _, _, _, hrep⟩ := pairP_at hreps hP
      rw [hlen] at hrep
      exact ⟨⟨h'', tk, rfl, kk⟩, hrep.keeps kk⟩
theorem reps_ints {h : Heap} {X : List Addr} : ∀ {vs : List Value} {l : List Int}, Reps h X vs (l.map .int) → IntsAre vs l
  | [], [], _ => .nil
  | [], _ :: _, r => by have := r.1; simp at this
  | v :: vs, [], r => by have := r.1; simp at this
  | v :: vs, k :: l, r => by
    obtain ⟨v', vs', e, h1, h2⟩ := r.cons_inv
    cases e
    cases h1
    exact .cons _ _ (reps_ints h2)
theorem Fn.sumI {l : List Int} (hh : A.handled = none) : Fn prog w A (.builtin "sum") [.list (l.map .int)] (.int l.sum) := fun X s vs L hr => by
  obtain ⟨v, rfl, hv⟩ := hr.one
  cases hv with
  | @list a vs _ ha hl hn hi =>
    have hI := reps_ints (h := s.heap) (X := X) ⟨hn, hi⟩
    obtain ⟨xs, hxs⟩ := hI.allInts.items
    rw [hxs] at hl
    have hnum := hI.numsOf
    rw [show vs = vs.toArray.toList from rfl, hxs, nums_intItems] at hnum
    refine sum_intListG hh hl fun h' tk t' hk => ⟨⟨h', tk, rfl, hk⟩, ?_⟩
    rw [preSum_eq, List.take_of_length_le (by simp), hnum]
    exact .int _ _
end
end

-- L22
section
open PySem PySem.W PyProof.Rows PySem.Calls PySem.Builtin PySem.Builtin.Str PySem.SeqAt PySem.SeqRoads2
set_option maxRecDepth 100000
section
variable {prog : Program} {w : World} {A : Around} {env : Env} {h₀ : Heap} {ρ : PEnv}
/-- a slice of a list that nothing else holds -/
theorem Ev.sliceT {e : Expr} {lo hi : Option Expr} {p pos : Pos} {ps : List PV} {l u : Option Int} (he : EvL prog w A env h₀ ρ e ps) (hl : EvP prog w A env h₀ ρ lo l) (hu : EvP prog w A env h₀ ρ hi u) (hsz : ps.length ≤ sizeLine)
    : Ev prog w A env h₀ ρ (.Subscript e (.Slice lo hi Option.none p) pos) (.list (pickP ps l u)) := fun X s S =>
  Subscript_ (wpAny_mono (he X s S) (fun v s₁ h₁ => wpAny_Slice (wpAny_mono (hl X s₁ (S.keeps (Kp.hh h₁.1))) (fun vl s₂ h₂ => wpAny_mono (hu X s₂ (S.keeps (Kp.hh (Kp.trans h₁.1 h₂.1)))) (fun vu s₃ h₃ => by
    obtain ⟨k₁, a, vs, rfl, hla, hr⟩ := h₁
    obtain ⟨k₂, l', rfl, rfl⟩ := h₂
    obtain ⟨k₃, u', rfl, rfl⟩ := h₃
    have k₂₃ := Kp.hh (Kp.trans k₂ k₃)
    have k := Kp.trans (Kp.trans k₁ k₂) (Kp.trans k₃ (Kp.push s₃ { cls := .type "slice", data := .fields #[partValue l', partValue u', .none] } s₃.toks))
    rw [evalPart_none]
    have hla₃ : s₃.heap.IsList a vs.toArray := hla.at fun o => k₂₃ _ o
    refine wpAny_pure (tail_any (ops := [.ref s₃.heap.objs.size, .ref a]) (hla₃.push _).typeIs slot_list_getitem.lookup (wpAny_getItem_list_slice (hla₃.push _) (Heap.IsSliceOf.new ..) isPart_of isPart_of .none (by simp) ?_ (by rw [List.size_toArray, hr.1]; exact hsz)) rfl)
    rw [Heap.size_push]
    have hr' : Reps (s₃.heap.push { cls := .type "slice", data := .fields #[partValue l', partValue u', .none] }) X vs ps := hr.keeps fun b o e => Heap.get?_push_of_some _ (k₂₃ b o e)
    have e : slicePick vs.toArray (l'.map (·.1)) (u'.map (·.1)) Option.none = ((sliceRange (sliceBounds (l'.map (·.1)) (u'.map (·.1)) Option.none ps.length).1 (sliceBounds (l'.map (·.1)) (u'.map (·.1)) Option.none ps.length).2.1 (sliceBounds (l'.map (·.1)) (u'.map (·.1)) Option.none ps.length).2.2).filterMap (vs[·]?)).toArray := by
      unfold slicePick; simp [hr.1]
    rw [e]
    have L := Live.keeps S.live (Kp.hh k)
    have := rep_pushed (s := { s₃ with heap := s₃.heap.push { cls := .type "slice", data := .fields #[partValue l', partValue u', .none] } }) (tk := s₃.toks) (n := 0) L (reps_pick hr' (sliceRange (sliceBounds (l'.map (·.1)) (u'.map (·.1)) Option.none ps.length).1 (sliceBounds (l'.map (·.1)) (u'.map (·.1)) Option.none ps.length).2.1 (sliceBounds (l'.map (·.1)) (u'.map (·.1)) Option.none ps.length).2.2))
    rw [Heap.size_push] at this
    exact ⟨Kp.trans k this.1, this.2⟩) fun _ _ x => x) fun _ _ x => x)) fun _ _ x => x)
/-- a list display: a new list -/
theorem EvNew.disp {es : List Expr} {pos : Pos} {ps : List PV} (h : EvA prog w A env h₀ ρ es ps) (hsz : ps.length ≤ sizeLine := by first | decide | size_fits) : EvNew prog w A env h₀ ρ (.List es pos) ps := fun X s S =>
  List_ (wpAny_mono (h X s pos S) (fun vs s₁ h₁ => wpAny_newObj_type (by
    refine ⟨Kp.trans h₁.1 (Kp.push s₁ _ _), _, vs, rfl, ?_, ⟨_, Heap.get?_push_size _ rfl⟩, h₁.2.1, fun i v p hv hp => (h₁.2.2 i v p hv hp).map fun a o ha ho => ⟨fun q => ?_, Heap.get?_push_of_some _ ho⟩⟩
    · cases q : s.heap.get? s₁.heap.objs.size with
      | none => rfl
      | some o => exact absurd (Heap.lt_size (Kp.hh h₁.1 _ _ q)) (Nat.lt_irrefl _)
    · rcases List.mem_cons.mp q with rfl | q
      · exact absurd (Heap.lt_size ho) (Nat.lt_irrefl _)
      · exact ha q)
    (by show vs.toArray.size ≤ sizeLine; rw [List.size_toArray, h₁.2.1]; exact hsz)) fun _ _ x => x)
end
end

-- P1
section
open PySem PySem.W PyProof.Rows PySem.Calls
set_option maxRecDepth 100000
/-- what law computes -/
noncomputable def dflt : List Int := [240, 0, 120, 181, 301, 962, 1445]
noncomputable def numbersP (script : List Int) : List Int := script.take 7 ++ dflt.drop (script.take 7).length
noncomputable def r16 : List Int := [1, 2, 3, 4, 5, 6]
noncomputable def aboveP (N : List Int) : List Int := 0 :: r16.map fun k => (nz N k).fmod k
noncomputable def strI (k : Int) : Str := Str.ofString (toString k)
noncomputable def sz (ws : List Str) (i : Int) : Str := ws.getD i.toNat Str.empty
noncomputable def wayStep (ab : List Int) (ws : List Str) (k : Int) : List Str := ws ++ [joinS (sz ws (nz ab k)) (strI k)]
noncomputable def waysP (ab : List Int) : List Str := r16.foldl (wayStep ab) [sl]
noncomputable def modeI (v : Int) : Int := 16384 + (v.fdiv 60).fmod 32
noncomputable def rowsP (N : List Int) : List Str := N.map fun v => modeS (modeI v)
noncomputable def havingP (N : List Int) (p : Int) : List Int := r07.filter fun k => Builtin.bitAnd (((nz N k).fdiv 60).fdiv (2 ^ (9 - p).toNat)) 1 != 0
noncomputable def chS (x : Str) (k : Int) : Str := match x.cps[k.toNat]? with
  | some c => ⟨#[c]⟩
  | none => Str.empty
noncomputable abbrev patS : Str := Str.ofString "-----wxrwx"
noncomputable abbrev dashS : Str := Str.ofString "-"
noncomputable def ways (N : List Int) : List Str := waysP (aboveP N)
noncomputable def hvWays (N : List Int) (p : Int) : List Str := (((ways N).zip (rowsP N)).filter fun q => neS (chS q.2 p) dashS).map (·.1)
noncomputable def foP (N : List Int) (p : Int) : List Str := livesS (hvWays N p)
noncomputable def toP (N : List Int) (p : Int) : List Int := if (havingP N p).isEmpty then [] else betweenP (aboveP N) (havingP N p)
noncomputable def maskP (N : List Int) (p : Int) : Int := ((r07.filter fun k => (foP N p).any fun q => q == sz (ways N) k).map fun k => 1 * 2 ^ k.toNat).sum
noncomputable def placesP (N : List Int) : List Int := ([5, 6, 7, 8, 9] : List Int).filter fun p => !(foP N p).isEmpty
noncomputable def livesP (N : List Int) : List Int := (placesP N).map (maskP N)
noncomputable def topsP (N : List Int) : List Str := (placesP N).map fun p => (foP N p).getLastD Str.empty
noncomputable def chosenP (n : Nat) (c : Int) : List Int := ((List.range n).map fun (i : Nat) => (i : Int)).filter fun i => Builtin.bitAnd (c.fdiv (2 ^ i.toNat)) 1 != 0
noncomputable def commonP (lv : List Int) (c : Int) : Int := (chosenP lv.length c).foldl (fun acc i => Builtin.bitAnd acc (nz lv i)) 127
noncomputable def meetP (lv : List Int) (c : Int) : Bool := ((chosenP lv.length c).all fun i => (chosenP lv.length c).all fun j => Builtin.bitAnd (nz lv i) (nz lv j) != 0)
noncomputable def lowestP (lv : List Int) (tp : List Str) (c : Int) : Str := (maxPP ((chosenP lv.length c).map fun i => (((sz tp i).length : Int), sz tp i))).2
noncomputable def signP (lv : List Int) (c : Int) : Int := if meetP lv c then (if ((chosenP lv.length c).length : Int).fmod 2 == 1 then 1 else -1) else 0
noncomputable def choices (lv : List Int) : List Int := ((List.range (2 ^ lv.length - 1)).map fun (i : Nat) => (i : Int) + 1)

theorem way_more (ab : List Int) : ∀ (ks : List Int) (ws : List Str), ∃ r, ks.foldl (wayStep ab) ws = ws ++ r ∧ r.length = ks.length
  | [], ws => ⟨[], by simp, rfl⟩
  | k :: ks, ws => by
    obtain ⟨r, h, hl⟩ := way_more ab ks (wayStep ab ws k)
    refine ⟨joinS (sz ws (nz ab k)) (strI k) :: r, ?_, by simp [hl]⟩
    rw [List.foldl_cons, h]
    simp [wayStep]
theorem way_len (ab : List Int) (i : Nat) (h : i ≤ 6) : ((r16.take i).foldl (wayStep ab) [sl]).length = i + 1 := by
  obtain ⟨r, e, hl⟩ := way_more ab (r16.take i) [sl]
  rw [e, List.length_append, hl, List.length_take]
  show 1 + min i 6 = i + 1
  omega
theorem way_pre (ab : List Int) (i : Nat) (h : i ≤ 6) (j : Int) (hj : j.toNat < i + 1) : sz ((r16.take i).foldl (wayStep ab) [sl]) j = sz (waysP ab) j := by
  have e : waysP ab = (r16.drop i).foldl (wayStep ab) ((r16.take i).foldl (wayStep ab) [sl]) := by
    unfold waysP
    rw [← List.foldl_append, List.take_append_drop]
  obtain ⟨r, e2, hl⟩ := way_more ab (r16.drop i) ((r16.take i).foldl (wayStep ab) [sl])
  rw [e, e2]
  unfold sz
  have := way_len ab i h
  rw [List.getD_eq_getElem?_getD, List.getD_eq_getElem?_getD, List.getElem?_append_left (by omega)]
theorem fmod_lt {a k : Int} (h : 0 < k) : 0 ≤ a.fmod k ∧ a.fmod k < k := ⟨Int.fmod_nonneg_of_pos a h, Int.fmod_lt_of_pos a h⟩
theorem above_at {N : List Int} {k : Int} (h1 : 1 ≤ k) (h6 : k < 7) : nz (aboveP N) k = (nz N k).fmod k := by
  obtain rfl | rfl | rfl | rfl | rfl | rfl : k = 1 ∨ k = 2 ∨ k = 3 ∨ k = 4 ∨ k = 5 ∨ k = 6 := by omega
  all_goals rfl
theorem above_lt {N : List Int} {k : Int} (h1 : 1 ≤ k) (h6 : k < 7) : 0 ≤ nz (aboveP N) k ∧ nz (aboveP N) k < k := by
  rw [above_at h1 h6]; exact fmod_lt (by omega)
theorem r16_at {i : Nat} {k : Int} (h : r16[i]? = some k) : i < 6 ∧ k = (i : Int) + 1 := by
  have hi : i < 6 := (List.getElem?_eq_some_iff.mp h).1
  obtain rfl | rfl | rfl | rfl | rfl | rfl : i = 0 ∨ i = 1 ∨ i = 2 ∨ i = 3 ∨ i = 4 ∨ i = 5 := by omega
  all_goals (cases h; exact ⟨by decide, rfl⟩)

structure Facts (N : List Int) : Prop where
  above : Above (aboveP N)
  wlen : ∀ i : Int, (sz (ways N) i).length ≤ 64
  wdir : ∃ W : Str → Prop, (∀ x, W x → x.length ≤ 64 ∧ W (dirS x)) ∧ ∀ x ∈ ways N, W x
  mode : ∀ v ∈ N, ((charsT (modeI v) 10).map (·.length)).sum ≤ 1000 ∧ (modeS (modeI v)).length = 10 ∧ (Txt.slice (modeS (modeI v)) none (some 5)).cps.toList = (Str.ofString "d----").cps.toList
  row : ∀ p : Int, 5 ≤ p → p < 10 → (rowsP N).map (fun x => chS x p) = r07.map fun k => if (havingP N p).any (fun q => q == k) then chS patS p else dashS
  cp : ∀ p : Int, 5 ≤ p → p < 10 → hvWays N p ≠ [] → CpOk (hvWays N p)
  fol : ∀ p : Int, 5 ≤ p → p < 10 → (foP N p).length = (toP N p).length ∧ cmpS (foP N p) ((toP N p).map fun k => sz (ways N) k) = true
  cmp : ∀ p : Int, 5 ≤ p → p < 9 → cmpS (foP N (p + 1)) (foP N p) = (toP N (p + 1) == toP N p)
  meet : ∀ c ∈ choices (livesP N), (commonP (livesP N) c != 0) = meetP (livesP N) c
  low : ∀ c ∈ choices (livesP N), meetP (livesP N) c = true → (r07.any fun k => (sz (ways N) k == lowestP (livesP N) (topsP N) c) && (Builtin.bitAnd ((commonP (livesP N) c).fdiv (2 ^ k.toNat)) 1 == 1)) = true
  tlen : ∀ i : Int, (sz (topsP N) i).length ≤ 64
  euler : ((choices (livesP N)).map (signP (livesP N))).sum = ((heapsP (livesP N)).length : Int)
end

-- P2
section
open PySem PySem.W PyProof.Rows PySem.Calls
set_option maxRecDepth 100000
section
variable {prog : Program} {w : World} {A : Around} {env : Env} {h₀ : Heap} {ρ : PEnv}
theorem EvT.eqb {e : Expr} {b c : Bool} (t : EvT prog w A env h₀ ρ e b) (h : b = c) : EvT prog w A env h₀ ρ e c := h ▸ t
theorem EvTW.eqb {e : Expr} {b c : Bool} (t : EvTW prog w A env h₀ ρ e b) (h : b = c) : EvTW prog w A env h₀ ρ e c := h ▸ t
theorem Ev.eqp {e : Expr} {b c : PV} (t : Ev prog w A env h₀ ρ e b) (h : b = c) : Ev prog w A env h₀ ρ e c := h ▸ t
end
noncomputable def plist : List Int := [5, 6, 7, 8, 9]
noncomputable def keptV (N : List Int) (p : Int) : PV := .tuple [.list ((foP N p).map .str), .list (intL (toP N p))]
noncomputable def neF (N : List Int) (p : Int) : Bool := !(foP N p).isEmpty
theorem plist_at {i : Nat} {p : Int} (h : plist[i]? = some p) : i < 5 ∧ p = (i : Int) + 5 := by
  have hi : i < 5 := (List.getElem?_eq_some_iff.mp h).1
  obtain rfl | rfl | rfl | rfl | rfl : i = 0 ∨ i = 1 ∨ i = 2 ∨ i = 3 ∨ i = 4 := by omega
  all_goals (cases h; exact ⟨by decide, rfl⟩)
theorem idx_ch {prog : Program} {w : World} {A : Around} {x : Str} {k : Int} (hx : x.length = 10) (h0 : 0 ≤ k) (h1 : k < 10) : Idx prog w A (.str x) (.int k) (.str (chS x k)) := by
  have hk : k.toNat < x.cps.size := by have : x.cps.size = 10 := hx; omega
  have e : x.cps[k.toNat]? = some x.cps[k.toNat] := by simp [hk]
  have : chS x k = ⟨#[x.cps[k.toNat]]⟩ := by unfold chS; rw [e]
  rw [this]
  refine Idx.str ?_ ?_
  · rw [Bool.or_eq_false_iff]; exact ⟨decide_eq_false (by omega), decide_eq_false (by omega)⟩
  · have : seqIndex? k x.length = some k.toNat := by
      unfold seqIndex?
      rw [hx]
      have : ¬ k < 0 := by omega
      simp [this]
      omega
    rw [this]; exact e
theorem pvsEq_strs (l : List Str) : pvsEq (l.map .str) (l.map .str) = true := by
  unfold pvsEq
  rw [Bool.and_eq_true_iff]
  refine ⟨by simp, List.all_eq_true.mpr fun j hj => ?_⟩
  have hj' : j < l.length := by simpa using List.mem_range.mp hj
  rw [List.getD_eq_getElem?_getD, List.getElem?_map, List.getElem?_eq_getElem hj']
  show (l[j] == l[j]) = true
  exact beq_self_eq_true _
theorem pvsEq_ints (l k : List Int) : pvsEq (intL l) (intL k) = (l == k) := by
  rw [Bool.eq_iff_iff]
  unfold pvsEq intL
  rw [Bool.and_eq_true_iff, beq_iff_eq, beq_iff_eq, List.length_map, List.length_map]
  constructor
  · rintro ⟨hl, h⟩
    refine List.ext_getElem hl fun j h1 h2 => ?_
    have := List.all_eq_true.mp h j (List.mem_range.mpr h1)
    rw [List.getD_eq_getElem?_getD, List.getD_eq_getElem?_getD, List.getElem?_map, List.getElem?_map, List.getElem?_eq_getElem h1, List.getElem?_eq_getElem h2] at this
    exact beq_iff_eq.mp (show (l[j] == k[j]) = true from this)
  · rintro rfl
    refine ⟨rfl, List.all_eq_true.mpr fun j hj => ?_⟩
    have hj' : j < l.length := List.mem_range.mp hj
    rw [List.getD_eq_getElem?_getD, List.getElem?_map, List.getElem?_eq_getElem hj']
    show (l[j] == l[j]) = true
    exact beq_self_eq_true _
theorem all_smallS (l : List Str) : (l.map PV.str).all SmallS = true := List.all_eq_true.mpr fun q hq => by obtain ⟨x, _, rfl⟩ := List.mem_map.mp hq; rfl
noncomputable def fZip (p : Int) : PV → Bool
  | .tuple [.str _, .str r] => neS (chS r p) dashS
  | _ => false
noncomputable def gZip : PV → PV
  | .tuple [a, _] => a
  | _ => .none
theorem zip_hv (p : Int) : ∀ (ws rs : List Str), ((zipP (ws.map .str) (rs.map .str)).filter (fZip p)).map gZip = (((ws.zip rs).filter fun q => neS (chS q.2 p) dashS).map (·.1)).map .str
  | [], _ => rfl
  | _ :: _, [] => rfl
  | x :: ws, r :: rs => by
    show (List.filter (fZip p) (.tuple [.str x, .str r] :: zipP (ws.map .str) (rs.map .str))).map gZip = _
    rw [List.zip_cons_cons, List.filter_cons, List.filter_cons]
    show (if neS (chS r p) dashS = true then _ else _ : List PV).map gZip = _
    dsimp only
    split
    · rw [List.map_cons, List.map_cons, List.map_cons, zip_hv p ws rs]; rfl
    · exact zip_hv p ws rs
theorem zip_mem {ws rs : List Str} {p : PV} (h : p ∈ zipP (ws.map .str) (rs.map .str)) : ∃ x r, p = .tuple [.str x, .str r] ∧ x ∈ ws ∧ r ∈ rs := by
  induction ws generalizing rs with
  | nil => simp [zipP] at h
  | cons x ws ih =>
    cases rs with
    | nil => simp [zipP] at h
    | cons r rs =>
      rcases List.mem_cons.mp (show p ∈ PV.tuple [.str x, .str r] :: zipP (ws.map .str) (rs.map .str) from h) with rfl | h
      · exact ⟨x, r, rfl, List.mem_cons_self, List.mem_cons_self⟩
      · obtain ⟨x', r', e, h1, h2⟩ := ih h
        exact ⟨x', r', e, List.mem_cons_of_mem _ h1, List.mem_cons_of_mem _ h2⟩
noncomputable def ρZip (ρ : PEnv) : PV → PEnv
  | .tuple [a, b] => (Str.ofString "row", .val b) :: (Str.ofString "way", .val a) :: ρ
  | _ => ρ
theorem tgPair {x y : Str} {px py tp : Pos} {k : Nat} {cl : List (Str × Addr)} (hx : cl.lookup x = none) (hy : cl.lookup y = none) : ∀ z, tgtHas (.Tuple [.Name x px, .Name y py] k tp) z = true → cl.lookup z = none := fun z hz => by
  simp only [tgtHas, List.any_cons, List.any_nil, Bool.or_false, Bool.or_eq_true] at hz
  rcases hz with h | h
  · obtain rfl : x = z := by simpa using h
    exact hx
  · obtain rfl : y = z := by simpa using h
    exact hy
theorem toP_mem {N : List Int} {p k : Int} (h : k ∈ toP N p) : 0 ≤ k ∧ k < 7 := by
  unfold toP at h
  split at h
  · cases h
  · exact mem07 (List.mem_filter.mp h).1
theorem toP_len (N : List Int) (p : Int) : (toP N p).length ≤ 7 := by
  unfold toP
  split
  · exact Nat.zero_le _
  · exact List.length_filter_le _ _
theorem having_len (N : List Int) (p : Int) : (havingP N p).length ≤ 7 := List.length_filter_le _ _
theorem ways_len (N : List Int) : (ways N).length = 7 := way_len (aboveP N) 6 (Nat.le_refl _)
theorem way_get (N : List Int) {k : Int} (h0 : 0 ≤ k) (h7 : k < 7) : ((ways N).map PV.str)[k.toNat]? = some (.str (sz (ways N) k)) := by
  have := ways_len N
  rw [List.getElem?_map, List.getElem?_eq_getElem (by omega)]
  unfold sz
  rw [List.getD_eq_getElem?_getD, List.getElem?_eq_getElem (by omega)]; rfl
theorem hvWays_len (N : List Int) (p : Int) (hN : N.length = 7) : (hvWays N p).length ≤ 7 := by
  unfold hvWays
  rw [List.length_map]
  refine Nat.le_trans (List.length_filter_le _ _) ?_
  rw [List.length_zip, ways_len]
  omega
theorem foP_len {N : List Int} {p : Int} (F : Facts N) (h5 : 5 ≤ p) (h9 : p < 10) : (foP N p).length ≤ 7 := by
  rw [(F.fol p h5 h9).1]; exact toP_len N p
theorem hv_sub {N : List Int} {p : Int} {x : Str} (h : x ∈ hvWays N p) : x ∈ ways N := by
  unfold hvWays at h
  obtain ⟨q, hq, rfl⟩ := List.mem_map.mp h
  exact (List.of_mem_zip (List.mem_filter.mp hq).1).1
theorem pvsEq_nilI (l : List Int) : pvsEq (intL l) [] = l.isEmpty := by cases l <;> rfl
theorem pvsEq_nilS (l : List Str) : pvsEq (l.map .str) [] = l.isEmpty := by cases l <;> rfl
theorem fm_intL (f : Int → Bool) (g : Int → Int) (l : List Int) : ((intL l).filter (pI f)).map (fun q => match q with | .int k => PV.int (g k) | _ => .none) = ((l.filter f).map g).map .int := by
  unfold intL; rw [List.filter_map, List.map_map, List.map_map]; rfl
theorem any_strs (l : List Str) (x : Str) : ((l.map PV.str).any fun p => pvEq p (.str x)) = l.any fun q => q == x := by
  rw [List.any_map]; rfl
theorem kept_last {N : List Int} {i j : Nat} {p : Int} {v : PV} (hi : i < 5) (hp : p = (i : Int) + 5) (h : (pickP ((plist.take i).map (keptV N)) (some (-1)) none)[j]? = some v) : v = keptV N (p - 1) ∧ 6 ≤ p := by
  rw [pickP_last, List.getElem?_drop, List.length_map, List.length_take, List.getElem?_map] at h
  obtain ⟨y, hy, rfl⟩ := Option.map_eq_some_iff.mp h
  rw [List.getElem?_take] at hy
  have h5 : plist.length = 5 := rfl
  rw [h5] at hy
  split at hy
  · rename_i hlt
    obtain rfl : j = 0 := by omega
    have e : Nat.min i 5 - 1 + 0 = i - 1 := by show min i 5 - 1 + 0 = i - 1; omega
    have hy' : plist[i - 1]? = some y := by rw [← hy]; congr 1; omega
    have := plist_at hy'
    have hi1 : 1 ≤ i := by omega
    refine ⟨?_, by omega⟩
    rw [show y = p - 1 by omega]
  · cases hy
theorem plist_take {i : Nat} {p : Int} (h : plist[i]? = some p) : plist.take (i + 1) = plist.take i ++ [p] := by
  rw [List.take_add_one, h]; rfl
theorem last_get (l : List Str) (h : l.isEmpty = false) : (l.map PV.str)[((-1 : Int) + (l.map PV.str).length).toNat]? = some (.str (l.getLastD Str.empty)) := by
  cases l with
  | nil => cases h
  | cons x r =>
    rw [List.length_map]
    have : ((-1 : Int) + ((x :: r).length : Nat)).toNat = r.length := by rw [List.length_cons]; omega
    rw [this, List.getElem?_map]
    have e : (x :: r)[r.length]? = some ((x :: r).getLastD Str.empty) := by
      rw [List.getLastD_eq_getLast?, List.getLast?_eq_getElem?]
      have : (x :: r).length - 1 = r.length := by simp
      rw [this, List.getElem?_eq_getElem (by simp)]
      rfl
    rw [e]; rfl
end

-- P3
section
open PySem PySem.W PyProof.Rows PySem.Calls
set_option maxRecDepth 100000
theorem beq_cps (x y : Str) : (x.cps.toList == y.cps.toList) = (x == y) := by
  rw [Bool.eq_iff_iff, beq_iff_eq, beq_iff_eq]
  constructor
  · intro h
    obtain ⟨a⟩ := x
    obtain ⟨b⟩ := y
    congr 1
    exact Array.toList_inj.mp h
  · rintro rfl; rfl
theorem neS_eq (x y : Str) : neS x y = (x != y) := by
  unfold neS bne
  rw [beq_cps]
theorem lives_len (N : List Int) : (livesP N).length ≤ 5 := by
  unfold livesP placesP
  rw [List.length_map]
  exact List.length_filter_le _ _
theorem range_choices {lv : List Int} (h : lv.length ≤ 5) : Builtin.Range.rangeSize 1 (1 * 2 ^ (lv.length : Int).toNat) 1 = (2 ^ lv.length - 1 : Nat) ∧ Builtin.Range.small 1 (1 * 2 ^ (lv.length : Int).toNat) 1 = true := by
  rw [Int.toNat_natCast]
  generalize lv.length = n at h
  obtain rfl | rfl | rfl | rfl | rfl | rfl : n = 0 ∨ n = 1 ∨ n = 2 ∨ n = 3 ∨ n = 4 ∨ n = 5 := by omega
  all_goals exact ⟨by decide +kernel, by decide +kernel⟩
theorem range_upto {n : Nat} (h : n ≤ 5) : Builtin.Range.rangeSize 0 (n : Int) 1 = n ∧ Builtin.Range.small 0 (n : Int) 1 = true := by
  obtain rfl | rfl | rfl | rfl | rfl | rfl : n = 0 ∨ n = 1 ∨ n = 2 ∨ n = 3 ∨ n = 4 ∨ n = 5 := by omega
  all_goals exact ⟨by decide +kernel, by decide +kernel⟩
theorem rangeP_choices (lv : List Int) : rangeP 1 1 (2 ^ lv.length - 1) = intL (choices lv) := by
  unfold rangeP choices intL
  rw [List.map_map]
  refine List.map_congr_left fun i _ => ?_
  show PV.int (1 + (i : Int) * 1) = PV.int ((i : Int) + 1)
  congr 1; omega
theorem rangeP_len (n : Nat) : rangeP 0 1 n = intL ((List.range n).map fun (i : Nat) => (i : Int)) := by
  unfold rangeP intL
  rw [List.map_map]
  refine List.map_congr_left fun i _ => ?_
  show PV.int (0 + (i : Int) * 1) = PV.int (i : Int)
  congr 1; omega
theorem choices_mem {lv : List Int} {c : Int} (h : c ∈ choices lv) : 1 ≤ c ∧ c < 2 ^ lv.length := by
  unfold choices at h
  obtain ⟨i, hi, rfl⟩ := List.mem_map.mp h
  have := List.mem_range.mp hi
  have e : ((2 ^ lv.length : Nat) : Int) = 2 ^ lv.length := by push_cast; rfl
  omega
theorem chosen_mem {n : Nat} {c i : Int} (h : i ∈ chosenP n c) : 0 ≤ i ∧ i < n := by
  unfold chosenP at h
  obtain ⟨j, hj, rfl⟩ := List.mem_map.mp (List.mem_filter.mp h).1
  have := List.mem_range.mp hj
  omega
theorem chosen_len (n : Nat) (c : Int) : (chosenP n c).length ≤ n := by
  unfold chosenP
  refine Nat.le_trans (List.length_filter_le _ _) ?_
  rw [List.length_map, List.length_range]
  exact Nat.le_refl n
theorem chosen_ne {lv : List Int} {c : Int} (h : lv.length ≤ 5) (hc : c ∈ choices lv) : chosenP lv.length c ≠ [] := by
  have key : ∀ n, n ≤ 5 → ((List.range (2 ^ n - 1)).all fun i => !(chosenP n ((i : Int) + 1)).isEmpty) = true := by
    intro n hn
    obtain rfl | rfl | rfl | rfl | rfl | rfl : n = 0 ∨ n = 1 ∨ n = 2 ∨ n = 3 ∨ n = 4 ∨ n = 5 := by omega
    all_goals decide +kernel
  unfold choices at hc
  obtain ⟨i, hi, rfl⟩ := List.mem_map.mp hc
  have := List.all_eq_true.mp (key lv.length h) i hi
  intro e
  rw [e] at this
  cases this
noncomputable def f2M (lv : List Int) : PV → PV → Bool
  | .int i, .int j => Builtin.bitAnd (nz lv i) (nz lv j) == 0
  | _, _ => false
noncomputable def meetL (lv : List Int) (c : Int) : List PV := (intL (chosenP lv.length c)).flatMap fun p => if (fun _ : PV => true) p then ((fun _ : PV => intL (chosenP lv.length c)) p |>.filter (f2M lv p)).map ((fun _ _ : PV => PV.int 1) p) else []
noncomputable def gPair (tp : List Str) : PV → PV
  | .int i => pairP (((sz tp i).length : Int), sz tp i)
  | _ => .none
theorem gPair_map (tp : List Str) (l : List Int) : ((intL l).filter fun _ => true).map (gPair tp) = (l.map fun i => (((sz tp i).length : Int), sz tp i)).map pairP := by
  rw [List.filter_eq_self.mpr (by simp)]; unfold intL; rw [List.map_map, List.map_map]; rfl
theorem strs_get' {l : List Str} {i : Int} (h : i.toNat < l.length) : (l.map PV.str)[i.toNat]? = some (.str (sz l i)) := by
  rw [List.getElem?_map, List.getElem?_eq_getElem h]
  unfold sz
  rw [List.getD_eq_getElem?_getD, List.getElem?_eq_getElem h]; rfl
theorem sum_take_sign (l : List Int) (f : Int → Int) {i : Nat} {c : Int} (h : l[i]? = some c) : ((l.take (i + 1)).map f).sum = ((l.take i).map f).sum + f c := by
  rw [List.take_add_one, h, List.map_append, List.sum_append]
  simp
theorem filter_any (f : Int → Bool) (l : List Int) (h : l.any f = true) : pvsEq (intL (l.filter f)) [] = false := by
  rw [pvsEq_nilI]
  obtain ⟨x, hx, hf⟩ := List.any_eq_true.mp h
  cases e : l.filter f with
  | nil => exact absurd hf (List.filter_eq_nil_iff.mp e x hx)
  | cons _ _ => rfl
theorem meetL_small (lv : List Int) (c : Int) : (meetL lv c).all Small = true := by
  refine List.all_eq_true.mpr fun q hq => ?_
  unfold meetL at hq
  obtain ⟨p, hp, hq⟩ := List.mem_flatMap.mp hq
  rw [if_pos rfl] at hq
  obtain ⟨r, hr, rfl⟩ := List.mem_map.mp hq
  rfl
theorem meetL_len {lv : List Int} (h : lv.length ≤ 5) (c : Int) : (meetL lv c).length ≤ 25 := by
  have hc := chosen_len lv.length c
  have key : ∀ (l : List PV) (g : PV → List PV), (∀ p, (g p).length ≤ 5) → (l.flatMap g).length ≤ l.length * 5 := by
    intro l g hg
    induction l with
    | nil => simp
    | cons p l ih => rw [List.flatMap_cons, List.length_append, List.length_cons]; have := hg p; omega
  have := key (intL (chosenP lv.length c)) _ (fun p => show (if (fun _ : PV => true) p then ((fun _ : PV => intL (chosenP lv.length c)) p |>.filter (f2M lv p)).map ((fun _ _ : PV => PV.int 1) p) else []).length ≤ 5 by
    rw [if_pos rfl, List.length_map]
    refine Nat.le_trans (List.length_filter_le _ _) ?_
    unfold intL; rw [List.length_map]; omega)
  have e : (intL (chosenP lv.length c)).length = (chosenP lv.length c).length := by unfold intL; rw [List.length_map]
  unfold meetL
  omega
theorem meet_eq (lv : List Int) (c : Int) : pvsEq (meetL lv c) [] = meetP lv c := by
  rw [pvsEq_nil, Bool.eq_iff_iff, List.isEmpty_iff]
  unfold meetL meetP
  rw [List.flatMap_eq_nil_iff]
  constructor
  · intro h
    refine List.all_eq_true.mpr fun i hi => List.all_eq_true.mpr fun j hj => ?_
    have := h (.int i) (List.mem_map_of_mem hi)
    rw [if_pos rfl, List.map_eq_nil_iff, List.filter_eq_nil_iff] at this
    have := this (.int j) (List.mem_map_of_mem hj)
    show (!(Builtin.bitAnd (nz lv i) (nz lv j) == 0)) = true
    have h2 : (Builtin.bitAnd (nz lv i) (nz lv j) == 0) = false := by simpa [f2M] using this
    rw [h2]; rfl
  · intro h p hp
    obtain ⟨i, hi, rfl⟩ := List.mem_map.mp hp
    rw [if_pos rfl, List.map_eq_nil_iff, List.filter_eq_nil_iff]
    intro q hq
    obtain ⟨j, hj, rfl⟩ := List.mem_map.mp hq
    have := List.all_eq_true.mp (List.all_eq_true.mp h i hi) j hj
    show ¬ (Builtin.bitAnd (nz lv i) (nz lv j) == 0) = true
    intro e
    have h3 : (!(Builtin.bitAnd (nz lv i) (nz lv j) == 0)) = true := this
    rw [e] at h3; cases h3
end

-- C16
section
open PySem PySem.W PyProof.Rows PySem.Calls
set_option maxRecDepth 100000
set_option maxHeartbeats 8000000
theorem warm16 : PySem.Challenge.rw_un0038_01 = PySem.Challenge.rw_un0038_01 ∧ frag = frag := by
  k_fill
  exact ⟨rfl, rfl⟩
/-- a call's code -/
noncomputable def CodeD (w : World) (A : Around) (h₀ : Heap) (f : Addr) (ps : List PV) (r : PV) : Prop :=
  ∀ X s vs, (∀ b o, h₀.get? b = some o → s.heap.get? b = some o) → Live X s.heap → Reps s.heap X vs ps →
    codeAny (model PySem.Challenge.rw_un0038_01.row.prog w) A (.call (.ref f) ⟨vs, []⟩) (fun r' s' => ∃ v, r' = .ok (.ret v) ∧ Keeps s s' ∧ Rep s'.heap X v r) s
/-- enter a def with cells, the frames known -/
theorem enterCA {w : World} {A : Around} {h₀ : Heap} {ps : List PV} {r : PV} {n : Nat}
    {name qual : Str} {params : Arguments} {body : List Stmt} {scope : Scope} {dV kV doc pm cdv ct oc : Value} {an od : Option Addr} {osl : Array (Option Value)} {f : Addr}
    (B : Base w h₀) (K : Ok (n + 1) A) (hfr : A.frames = some [])
    (ho : (frag w.params).lookup f = some ⟨oc, od, .func (fnOf name qual params body scope dV kV doc pm an cdv ct), osl⟩) (hcd : codeIn (frag w.params) cdv qual = true)
    (hbind : ∀ vs : List Value, vs.length = ps.length → bindArgs (fnOf name qual params body scope dV kV doc pm an cdv ct) ⟨vs, []⟩ = pure ((params.args.map (·.arg)).zip vs))
    (hloc : ∀ y ∈ params.args.map (·.arg), scope.names.lookup y = some .local ∨ (scope.names.lookup y = some .cell ∧ ∀ n, ((cellsFrom n scope.names []).lookup y).isSome = true)) (hnd : (params.args.map (·.arg)).Nodup)
    (h : ∀ h L X, Base w h → Ok n (A.deeper (envOfC qual scope L f cdv)) → (A.deeper (envOfC qual scope L f cdv)).frames = some [envOfC qual scope L f cdv] → Live X h → Tr PySem.Challenge.rw_un0038_01.row.prog w (A.deeper (envOfC qual scope L f cdv)) (envOfC qual scope L f cdv) h X (bindP params.args ps) body (fun pf _ => pf = .ret r))
    (hco : scope.isCoroutine = false := by rfl) (hgen : scope.isGenerator = false := by rfl) (hk : scope.kind = .function := by rfl) :
    CodeD w A h₀ f ps r := fun X s vs hs L hr => by
  have B' := B.keeps hs
  obtain ⟨mean, mg, mb, T⟩ := B'.T
  refine (codeAny_call_cells (fd := fnOf name qual params body scope dV kV doc pm an cdv ct) (body := body) (binds := (params.args.map (·.arg)).zip vs) (by have := K.dp; omega) (B'.X _ _ ho) rfl T.nolimit (codeRec_of B'.X hcd) rfl
    (hbind vs hr.1) rfl (fun x hx => (hloc _ (List.of_mem_zip hx).1).imp id fun q => ⟨q.1, q.2 _⟩) (fun s₁ x => ?_) hco hgen hk)
  have S := sit_cells (qual := qual) (scope := scope) (cdv := cdv) (f := f) (L := s.heap.objs.size) (get_size _) hr L hloc hnd x (Nat.le_refl _) hk
  obtain ⟨h₁, tk₁, rfl⟩ := x.toInCall.same
  refine wpAny_mono (h s.heap s.heap.objs.size X B' K.deeper (Around.frames_deeper hfr) L _ _ (fun x hx => List.mem_cons_of_mem _ (List.mem_append.mpr (.inr hx))) S) (fun fl s' e => ?_) fun _ _ x => x.elim
  obtain ⟨⟨h', tk, rfl⟩, _, pf, ρ', X', rfl, _, S', _, hf⟩ := e
  cases fl with
  | ret v => exact ⟨v, rfl, ⟨h', tk, rfl, S'.keep⟩, hf⟩
  | next => exact hf.elim
  | brk => exact hf.elim
  | cont => exact hf.elim

theorem lt63 {k : Int} (h : k < 7) : k < 2 ^ 63 := by omega
theorem lt7_nat {N : List Int} (h : N.length = 7) {k : Int} (h0 : 0 ≤ k) (h7 : k < 7) : k.toNat < N.length := by omega
theorem lt_big {lv : List Int} (h : lv.length ≤ 5) {n : Int} (h1 : n < lv.length) : n < 2 ^ 63 := by omega
theorem lt_toNat {n : Int} {m : Nat} (h0 : 0 ≤ n) (h1 : n < m) : n.toNat < m := by omega
theorem law_c {w : World} {A : Around} {h₀ : Heap} {script : List Int} (B : Base w h₀) (K : Ok 5 A) (hfr : A.frames = some []) (hl : script.length ≤ 64) (F : Facts (numbersP script)) :
    CodeD w A h₀ 220 [.list (intL script)] (.bool true) := by
  have hz := sizeLine_eq
  refine' enterCA ?kB ?kK hfr ?ho ?hcd ?hbind ?hloc ?hnd ?_ ?h1 ?h2 ?h3
  (case kB => assumption)
  (case kK => assumption)
  (case ho => k_is)
  (case hcd => k_is)
  (case hloc => intro y hy; rw [List.mem_singleton.mp hy]; exact .inl rfl)
  (case hnd => decide)
  (case h1 => rfl)
  (case h2 => rfl)
  (case h3 => rfl)
  (case hbind => refine bind1 fun v => ?_; kernel_rfl)
  intro h L X B' K' hF hL
  have hN : numbersP script = script.take 7 ++ dflt.drop (script.take 7).length := rfl
  generalize numbersP script = N at F hN
  have hNl : N.length = 7 := by
    rw [hN, List.length_append, List.length_drop, List.length_take]
    show min 7 script.length + (7 - min 7 script.length) = 7
    omega
  have ltN : ∀ {k : Int}, 0 ≤ k → k < 7 → k.toNat < N.length := fun a b => lt7_nat hNl a b
  have p7 : pickP (intL script) none (some 7) = intL (script.take 7) := by
    have := pickP_take (intL script) 7
    rw [show ((7 : Nat) : Int) = 7 from rfl] at this
    rw [this]; unfold intL; rw [List.map_take]
  -- numbers = script[:7] + [...][len(script[:7]):]
  refine Tr.cons (TrS.assign (p := .list (intL N)) ?num ?_ (.inr ⟨rfl, rfl⟩))
  case num =>
    have e : intL N = pickP (intL script) none (some 7) ++ pickP (intL dflt) (some ((pickP (intL script) none (some 7)).length : Int)) none := by
      rw [pickP_drop, p7, hN]; unfold intL; rw [List.map_append, List.map_drop, List.length_map]
    have s7 : (pickP (intL script) none (some 7)).length ≤ 7 := by rw [p7]; unfold intL; rw [List.length_map, List.length_take]; omega
    have ls : (intL script).length ≤ sizeLine := by unfold intL; rw [List.length_map]; omega
    rw [e]
    refine Ev.binop (Ev.sliceL (Ev.toL (Ev.var rfl)) EvP.none (EvP.some Ev.int) ls) (Ev.sliceT (ps := intL dflt) (Ev.toL (Ev.list (EvA.cons Ev.int (EvA.cons Ev.int (EvA.cons Ev.int (EvA.cons Ev.int (EvA.cons Ev.int (EvA.cons Ev.int (EvA.cons Ev.int EvA.nil))))))))) (EvP.some (Ev.callB (by walk_at "m_glob") (EvA.cons (Ev.sliceL (Ev.toL (Ev.var rfl)) EvP.none (EvP.some Ev.int) ls) EvA.nil) (Fn.lenList (by omega)))) EvP.none (by decide +kernel)) (Op2.addL ?_)
    rw [pickP_drop, List.length_drop]; have : (intL dflt).length = 7 := rfl; omega
  refine Tr.has (l := [(Str.ofString "numbers", .val (.list (intL N)))]) (Has.cons rfl Has.nil) ?_
  -- above
  have hab : aboveP N = 0 :: r16.map fun k => (nz N k).fmod k := rfl
  refine Tr.cons (TrS.assign (p := .list (intL (aboveP N))) ?abv ?_ (.inl rfl))
  case abv =>
    have e : intL (aboveP N) = [.int 0] ++ ((intL r16).filter fun _ => true).map (fun p => match p with | .int k => .int ((nz N k).fmod k) | _ => .none) := rfl
    rw [e]
    refine Ev.binop (Ev.list (EvA.cons Ev.int EvA.nil)) (Ev.comp1 (l := intL r16) (fun _ => true) (fun p => match p with | .int k => .int ((nz N k).fmod k) | _ => .none) (fun p => (Str.ofString "k", .val p) :: [(Str.ofString "numbers", .val (.list (intL N)))])
      (fb := true) (EvSrc.ofIt (EvIt.range (a := 1) (b := 7) (c := 1) (n := 6) (by walk_at "m_glob") (EvA.cons Ev.int (EvA.cons Ev.int EvA.nil)) K'.hn (.inr (.inl ⟨rfl, rfl⟩)) rfl rfl)) (hclos := rfl) (Cap.cons rfl rfl rfl rfl Cap.nil) (clSub ⟨rfl, trivial⟩) rfl (namesOk (by decide)) (fun n y c _ e => e) (fun C p hp => AsgT.name (.inl rfl)) (fun p hp => keepCons rfl) (fun p hp => NoOwn.cons (NoOwn.cons NoOwn.nil)) (tgName rfl) (fun C p hp => EvTs.nil) (fun C p hp _ => ?ab1) (by decide +kernel)) (Op2.addL (by rw [List.length_map]; exact Nat.le_trans (Nat.add_le_add_left (List.length_filter_le _ _) _) (by decide +kernel)))
    case ab1 =>
      obtain ⟨k, hk, rfl⟩ := List.mem_map.mp hp
      have hk7 : 1 ≤ k ∧ k < 7 := by
        unfold r16 at hk
        simp only [List.mem_cons, List.not_mem_nil, or_false] at hk
        rcases hk with rfl | rfl | rfl | rfl | rfl | rfl <;> decide
      exact Ev.binop (Ev.itemL (k := k) (Ev.toL (Ev.var rfl)) (Ev.var rfl) (by omega) (by omega) (nz_get (by omega))) (Ev.var rfl) (Op2.modI (by omega))
  refine Tr.has (l := [(Str.ofString "numbers", .val (.list (intL N))), (Str.ofString "above", .val (.list (intL (aboveP N))))]) (Has.cons rfl (Has.cons rfl Has.nil)) ?_
  have hA := F.above
  -- ways
  refine Tr.cons (TrS.assignOwn (EvNew.disp (ps := [.str sl]) (EvA.cons Ev.str EvA.nil)) ?_ (.inr ⟨rfl, rfl⟩))
  refine Tr.cons (TrS.for (l := intL r16) (fun i ρ => Has ρ [(Str.ofString "numbers", .val (.list (intL N))), (Str.ofString "above", .val (.list (intL (aboveP N)))), (Str.ofString "ways", .own (((r16.take i).foldl (wayStep (aboveP N)) [sl]).map .str))])
    (EvIt.range (a := 1) (b := 7) (c := 1) (n := 6) (by walk_at "m_glob") (EvA.cons Ev.int (EvA.cons Ev.int EvA.nil)) K'.hn (.inr (.inl ⟨rfl, rfl⟩)) rfl rfl) (.inl rfl) (Has.cons rfl (Has.cons rfl (Has.cons rfl Has.nil))) ?wt ?wd)
  case wt =>
    intro i p ρ' hp hI
    obtain ⟨k, hk, rfl⟩ : ∃ k, r16[i]? = some k ∧ p = .int k := by
      unfold intL at hp
      rw [List.getElem?_map] at hp
      obtain ⟨y, hy, e⟩ := Option.map_eq_some_iff.mp hp
      exact ⟨y, hy, e.symm⟩
    obtain ⟨hi6, rfl⟩ := r16_at hk
    generalize hws : (r16.take i).foldl (wayStep (aboveP N)) [sl] = ws at hI
    have hwl : ws.length = i + 1 := by rw [← hws]; exact way_len _ i (by omega)
    have hstep : (r16.take (i + 1)).foldl (wayStep (aboveP N)) [sl] = wayStep (aboveP N) ws ((i : Int) + 1) := by
      rw [List.take_add_one, hk, List.foldl_append, hws]; rfl
    obtain ⟨ha0, ha1⟩ := above_lt (N := N) (k := (i : Int) + 1) (by omega) (by omega)
    have hwk : (sz ws (nz (aboveP N) ((i : Int) + 1))).length ≤ 64 := by
      rw [← hws, way_pre _ i (by omega) _ (by omega)]; exact F.wlen _
    refine Tr.has (l := [(Str.ofString "k", .val (.int ((i : Int) + 1))), (Str.ofString "numbers", .val (.list (intL N))), (Str.ofString "above", .val (.list (intL (aboveP N)))), (Str.ofString "ways", .own (ws.map .str))]) (Has.cons rfl (Has.cons (hI.sub _ _ rfl) (Has.cons (hI.sub _ _ rfl) (Has.cons (hI.sub _ _ rfl) Has.nil)))) ?_
    have hget : (ws.map PV.str)[(nz (aboveP N) ((i : Int) + 1)).toNat]? = some (.str (sz ws (nz (aboveP N) ((i : Int) + 1)))) := by
      rw [List.getElem?_map, List.getElem?_eq_getElem (by omega)]
      unfold sz
      rw [List.getD_eq_getElem?_getD, List.getElem?_eq_getElem (by omega)]; rfl
    have hsk : (strI ((i : Int) + 1)).length ≤ 64 := by
      obtain rfl | rfl | rfl | rfl | rfl | rfl : i = 0 ∨ i = 1 ∨ i = 2 ∨ i = 3 ∨ i = 4 ∨ i = 5 := by omega
      all_goals decide +kernel
    have hlog : ((i : Int) + 1).natAbs.log2 < 1920 := by
      obtain rfl | rfl | rfl | rfl | rfl | rfl : i = 0 ∨ i = 1 ∨ i = 2 ∨ i = 3 ∨ i = 4 ∨ i = 5 := by omega
      all_goals decide +kernel
    refine Tr.cons (TrS.append rfl (Ev.callD (f := 115) (ps := [.str (sz ws (nz (aboveP N) ((i : Int) + 1))), .str (strI ((i : Int) + 1))]) (by walk_at "m_glob") (by walk_at "m_fun")
      (EvA.cons (Ev.itemL (k := nz (aboveP N) ((i : Int) + 1)) (EvL.own rfl) (Ev.itemL (k := (i : Int) + 1) (Ev.toL (Ev.var rfl)) (Ev.var rfl) (by omega) (by omega) (nz_get (by rw [hA.len]; omega))) ha0 (by omega) hget)
        (EvA.cons (Ev.callTy (by walk_at "m_glob") (EvA.cons (Ev.var rfl) EvA.nil) (Fn.strInt hlog)) EvA.nil)) (join_c B' (K'.less (by decide)) hwk hsk)) ?_ (by rw [List.length_map]; omega))
    refine Tr.nil ?_
    show Has _ _
    rw [hstep]
    refine Has.cons rfl (Has.cons rfl (Has.cons ?_ Has.nil))
    show some (SV.own _) = some (SV.own _)
    unfold wayStep
    rw [List.map_append]; rfl
  case wd =>
    intro ρ' hI
    refine Tr.nil ?_
    refine Tr.freeze (x := Str.ofString "ways") hL (hI.sub _ _ rfl) ?_
    have hI' : Has ρ' [(Str.ofString "numbers", .val (.list (intL N))), (Str.ofString "above", .val (.list (intL (aboveP N)))), (Str.ofString "ways", .own ((ways N).map .str))] := hI
    refine Tr.has (l := [(Str.ofString "ways", .val (.list ((ways N).map .str))), (Str.ofString "numbers", .val (.list (intL N))), (Str.ofString "above", .val (.list (intL (aboveP N))))]) (Has.cons rfl (Has.cons (hI.sub _ _ rfl) (Has.cons (hI.sub _ _ rfl) Has.nil))) ?_
    clear hI hI' ρ'
    -- rows
    refine Tr.cons (TrS.assignComp (l := intL N) (fun _ => true) (fun p => match p with | .int v => .str (modeS (modeI v)) | _ => .none) (fun p => (Str.ofString "v", .val p) :: [])
      (fb := true) (EvSrc.ofIt (EvIt.list (Ev.var rfl) K'.hn)) (hclos := rfl) Cap.nil (fun y c e => by simp at e) rfl (namesOk (by decide)) (fun n y c hy e => by simp at hy) (fun C p hp => AsgT.name (.inl rfl)) (fun p hp => keepCons rfl) (fun p hp => NoOwn.cons NoOwn.nil) (tgName rfl) (fun C p hp => EvTs.nil) (fun C p hp _ => ?rw1) ?_ (.inl rfl) rfl (by unfold intL; rw [List.length_map]; omega))
    case rw1 =>
      obtain ⟨v, hv, rfl⟩ := List.mem_map.mp hp
      exact Ev.callD (f := 174) (by walk_at "m_glob") (by walk_at "m_fun") (EvA.cons (Ev.binop (Ev.globP (p := .int 16384) (by walk_at "m_glob") (fun h X => .int _ _)) (Ev.binop (Ev.binop (Ev.var rfl) Ev.int (Op2.divI (by decide) (by decide))) Ev.int (Op2.modI (by decide))) Op2.addI) EvA.nil) (filemode_c B' (K'.less (by decide)) (F.mode v hv).1)
    have e1 : ((intL N).filter fun _ => true).map (fun p => match p with | .int v => PV.str (modeS (modeI v)) | _ => .none) = (rowsP N).map .str := by
      rw [List.filter_eq_self.mpr (by simp)]; unfold rowsP intL; rw [List.map_map, List.map_map]; rfl
    rw [e1]
    refine Tr.cons (TrS.assignOwn EvNew.nil ?_ (.inr ⟨rfl, rfl⟩))
    refine Tr.cons (TrS.assignOwn EvNew.nil ?_ (.inr ⟨rfl, rfl⟩))
    refine Tr.cons (TrS.assign Ev.bool ?_ (.inl rfl))
    refine Tr.cons (TrS.assignOwn EvNew.nil ?_ (.inl rfl))
    -- the main loop
    let inv : Nat → PEnv → Prop := fun i ρ => Has ρ [(Str.ofString "ways", .val (.list ((ways N).map .str))), (Str.ofString "numbers", .val (.list (intL N))), (Str.ofString "above", .val (.list (intL (aboveP N)))), (Str.ofString "rows", .val (.list ((rowsP N).map .str))),
      (Str.ofString "lives", .own (intL (((plist.take i).filter (neF N)).map (maskP N)))), (Str.ofString "tops", .own ((((plist.take i).filter (neF N)).map fun p => (foP N p).getLastD Str.empty).map .str)), (Str.ofString "right", .val (.bool true)), (Str.ofString "kept", .own ((plist.take i).map (keptV N)))]
    refine Tr.cons (TrS.for (l := intL plist) inv (EvIt.range (a := 5) (b := 10) (c := 1) (n := 5) (by walk_at "m_glob") (EvA.cons Ev.int (EvA.cons Ev.int EvA.nil)) K'.hn (.inr (.inl ⟨rfl, rfl⟩)) rfl rfl) (.inr ⟨rfl, rfl⟩)
      (Has.cons rfl (Has.cons rfl (Has.cons rfl (Has.cons rfl (Has.cons rfl (Has.cons rfl (Has.cons rfl (Has.cons rfl Has.nil)))))))) ?mt ?md)
    case mt =>
      intro i pv ρ' hp hI
      obtain ⟨p, hk, rfl⟩ : ∃ k, plist[i]? = some k ∧ pv = .int k := by
        unfold intL at hp
        rw [List.getElem?_map] at hp
        obtain ⟨y, hy, e⟩ := Option.map_eq_some_iff.mp hp
        exact ⟨y, hy, e.symm⟩
      obtain ⟨hi5, hpi⟩ := plist_at hk
      have h5 : 5 ≤ p := by omega
      have h9 : p < 10 := by omega
      have hp0 : 0 ≤ p := by omega
      change Has ρ' _ at hI
      generalize hlv : ((plist.take i).filter (neF N)).map (maskP N) = lv at hI
      generalize htp : (((plist.take i).filter (neF N)).map fun p => (foP N p).getLastD Str.empty).map PV.str = tp at hI
      generalize hkp : (plist.take i).map (keptV N) = kp at hI
      have hlvl : lv.length ≤ 5 := by rw [← hlv, List.length_map]; exact Nat.le_trans (List.length_filter_le _ _) (by rw [List.length_take]; exact Nat.min_le_right _ _)
      have htpl : tp.length ≤ 5 := by rw [← htp, List.length_map, List.length_map]; exact Nat.le_trans (List.length_filter_le _ _) (by rw [List.length_take]; exact Nat.min_le_right _ _)
      have hkpl : kp.length ≤ 5 := by rw [← hkp, List.length_map, List.length_take]; exact Nat.min_le_right _ _
      have hu := Nat.lt_of_le_of_lt (Nat.le_add_right _ _) K'.un
      have hrl : (rowsP N).length = 7 := by unfold rowsP; rw [List.length_map]; exact hNl
      have hrow10 : ∀ r ∈ rowsP N, r.length = 10 := fun r hr => by
        unfold rowsP at hr
        obtain ⟨v, hv, rfl⟩ := List.mem_map.mp hr
        exact (F.mode v hv).2.1
      have hHl := having_len N p
      refine Tr.has (l := [(Str.ofString "place", .val (.int p)), (Str.ofString "ways", .val (.list ((ways N).map .str))), (Str.ofString "numbers", .val (.list (intL N))), (Str.ofString "above", .val (.list (intL (aboveP N)))), (Str.ofString "rows", .val (.list ((rowsP N).map .str))),
        (Str.ofString "lives", .own (intL lv)), (Str.ofString "tops", .own tp), (Str.ofString "right", .val (.bool true)), (Str.ofString "kept", .own kp)]) (Has.cons rfl (Has.cons (hI.sub _ _ rfl) (Has.cons (hI.sub _ _ rfl) (Has.cons (hI.sub _ _ rfl) (Has.cons (hI.sub _ _ rfl) (Has.cons (hI.sub _ _ rfl) (Has.cons (hI.sub _ _ rfl) (Has.cons (hI.sub _ _ rfl) (Has.cons (hI.sub _ _ rfl) Has.nil))))))))) ?_
      -- having
      refine Tr.cons (TrS.assign (p := .list (intL (havingP N p))) ?hv ?_ (.inr ⟨rfl, rfl⟩))
      case hv =>
        unfold havingP
        rw [← filter_intL]
        refine Ev.comp1 (l := intL r07) (pI fun k => Builtin.bitAnd (((nz N k).fdiv 60).fdiv (2 ^ (9 - p).toNat)) 1 != 0) id (fun q => (Str.ofString "k", .val q) :: [(Str.ofString "numbers", .val (.list (intL N))), (Str.ofString "place", .val (.int p))])
          (fb := true) (EvSrc.ofIt (EvIt.range (a := 0) (b := 7) (c := 1) (n := 7) (by walk_at "m_glob") (EvA.cons Ev.int EvA.nil) K'.hn (.inl ⟨rfl, rfl, rfl⟩) rfl rfl)) (hclos := rfl) (Cap.cons rfl rfl rfl rfl (Cap.cons rfl rfl rfl rfl Cap.nil)) (clSub ⟨rfl, rfl, trivial⟩) rfl (namesOk (by decide)) (fun n y c _ e => e) (fun C p hp => AsgT.name (.inl rfl)) (fun p hp => keepCons rfl) (fun p hp => NoOwn.cons (NoOwn.cons (NoOwn.cons NoOwn.nil))) (tgName rfl) (fun C q hq => EvTs.one ?hv1) (fun C p hp _ => Ev.var rfl) (by decide +kernel)
        case hv1 =>
          obtain ⟨k, hk', rfl⟩ := List.mem_map.mp hq
          obtain ⟨k0, k7⟩ := mem07 hk'
          exact EvT.plain (Ev.binop (Ev.binop (Ev.binop (Ev.itemL (k := k) (Ev.toL (Ev.var rfl)) (Ev.var rfl) k0 (lt63 k7) (nz_get (ltN k0 k7))) Ev.int (Op2.divI (by decide) (by decide))) (Ev.binop Ev.int (Ev.var rfl) Op2.subI) (Op2.shrI (by omega))) Ev.int Op2.andI) Tru.int
      -- the rows' signs
      refine Tr.cons (TrS.ite (b := false) ?tb (fun q => by cases q) (fun _ => Tr.nil ?_))
      case tb =>
        have e1 : ((rowsP N).map fun x => chS x p).map PV.str = (((rowsP N).map PV.str).filter fun _ => true).map (fun q => match q with | .str x => PV.str (chS x p) | _ => .none) := by
          rw [List.filter_eq_self.mpr (by simp), List.map_map, List.map_map]; rfl
        have e2 : (r07.map fun k => if (havingP N p).any (fun q => q == k) then chS patS p else dashS).map PV.str = ((intL r07).filter fun _ => true).map (fun q => match q with | .int k => PV.str (if (havingP N p).any (fun q => q == k) then chS patS p else dashS) | _ => .none) := rfl
        refine EvT.eqb (EvT.cmp (Ev.comp1 (l := (rowsP N).map .str) (fun _ => true) (fun q => match q with | .str x => .str (chS x p) | _ => .none) (fun q => (Str.ofString "row", .val q) :: [(Str.ofString "place", .val (.int p))])
            (fb := true) (EvSrc.ofIt (EvIt.list (Ev.var rfl) K'.hn)) (hclos := rfl) (Cap.cons rfl rfl rfl rfl Cap.nil) (clSub ⟨rfl, trivial⟩) rfl (namesOk (by decide)) (fun n y c _ e => e) (fun C p hp => AsgT.name (.inl rfl)) (fun p hp => keepCons rfl) (fun p hp => NoOwn.cons (NoOwn.cons NoOwn.nil)) (tgName rfl) (fun C q hq => EvTs.nil) (fun C q hq _ => ?rc1) (by rw [List.length_map]; omega))
          (Ev.comp1 (l := intL r07) (fun _ => true) (fun q => match q with | .int k => PV.str (if (havingP N p).any (fun q => q == k) then chS patS p else dashS) | _ => .none) (fun q => (Str.ofString "k", .val q) :: [(Str.ofString "having", .val (.list (intL (havingP N p)))), (Str.ofString "place", .val (.int p))])
            (fb := true) (EvSrc.ofIt (EvIt.range (a := 0) (b := 7) (c := 1) (n := 7) (by walk_at "m_glob") (EvA.cons Ev.int EvA.nil) K'.hn (.inl ⟨rfl, rfl, rfl⟩) rfl rfl)) (hclos := rfl) (Cap.cons rfl rfl rfl rfl (Cap.cons rfl rfl rfl rfl Cap.nil)) (clSub ⟨rfl, rfl, trivial⟩) rfl (namesOk (by decide)) (fun n y c _ e => e) (fun C p hp => AsgT.name (.inl rfl)) (fun p hp => keepCons rfl) (fun p hp => NoOwn.cons (NoOwn.cons (NoOwn.cons NoOwn.nil))) (tgName rfl) (fun C q hq => EvTs.nil) (fun C q hq _ => ?rc2) (by decide +kernel))
          (Cmp.neL hu ?ral)) ?req
        case rc1 =>
          obtain ⟨x, hx, rfl⟩ := List.mem_map.mp hq
          exact Ev.item (Ev.var rfl) (Ev.var rfl) (idx_ch (hrow10 x hx) hp0 h9)
        case rc2 =>
          obtain ⟨k, hk', rfl⟩ := List.mem_map.mp hq
          show Ev _ _ _ _ _ _ _ (.str (if (havingP N p).any (fun q => q == k) then chS patS p else dashS))
          exact Ev.ifExp (EvT.cmp (Ev.var rfl) (Ev.var rfl) (Cmp.inL (.inl ⟨all_small _, rfl⟩))) (fun q => by rw [any_ints] at q; rw [if_pos q]; exact Ev.item Ev.str (Ev.var rfl) (idx_ch (by decide +kernel) hp0 h9)) (fun q => by rw [any_ints] at q; rw [if_neg (by rw [q]; decide)]; exact Ev.str)
        case ral =>
          rw [← e1, ← e2]; exact .inr ⟨all_smallS _, all_smallS _⟩
        case req =>
          rw [← e1, ← e2, F.row p h5 h9, pvsEq_strs]; rfl
      obtain ⟨W, hW1, hW2⟩ := F.wdir
      have hvl := hvWays_len N p hNl
      have hfl := foP_len F h5 h9
      have htl := toP_len N p
      -- folders
      refine Tr.cons (TrS.assign (p := .list ((foP N p).map .str)) (Ev.callD (f := 203) (by walk_at "m_glob") (by walk_at "m_fun") (EvA.cons (p := .list ((hvWays N p).map .str)) ?fo EvA.nil) (lives_c B' K' (by omega) hW1 (fun x hx => hW2 x (hv_sub hx)) (F.cp p h5 h9))) ?_ (.inr ⟨rfl, rfl⟩))
      case fo =>
        refine Ev.eqp (Ev.comp1 (ρc := [(Str.ofString "place", .val (.int p))]) (l := zipP ((ways N).map .str) ((rowsP N).map .str)) (fZip p) gZip (ρZip [(Str.ofString "place", .val (.int p))])
          (fb := false) (EvSrc.zip (by walk_at "m_glob") (Ev.var rfl) (Ev.var rfl) K'.hn) (hclos := rfl) (Cap.cons rfl rfl rfl rfl Cap.nil) (clSub ⟨rfl, trivial⟩) rfl (namesOk (by decide)) (fun n y c _ e => e) (fun C q hq => ?za) (fun q hq => ?zs) (fun q hq => ?zn) (tgPair rfl rfl) (fun C q hq => EvTs.one ?zt) (fun C q hq _ => ?ze) ?zl) (by rw [zip_hv]; rfl)
        case za => obtain ⟨x, r, rfl, -, -⟩ := zip_mem hq; exact AsgT.pair K'.hn (.inl rfl) (.inl rfl)
        case zs => obtain ⟨x, r, rfl, -, -⟩ := zip_mem hq; exact fun y sv e => keepCons rfl y sv (keepCons rfl y sv e)
        case zn => obtain ⟨x, r, rfl, -, -⟩ := zip_mem hq; exact NoOwn.cons (NoOwn.cons (NoOwn.cons NoOwn.nil))
        case zt =>
          obtain ⟨x, r, rfl, -, hr⟩ := zip_mem hq
          exact EvT.cmp (Ev.item (Ev.var rfl) (Ev.var rfl) (idx_ch (hrow10 r hr) hp0 h9)) Ev.str Cmp.neS
        case ze => obtain ⟨x, r, rfl, -, -⟩ := zip_mem hq; exact Ev.var rfl
        case zl =>
          unfold zipP
          rw [List.length_zipWith, List.length_map, List.length_map]
          omega
      -- lives, tops
      refine Tr.cons (TrS.mono (Q := fun pf ρ => (match pf with | .next => True | _ => False) ∧ Has ρ [(Str.ofString "having", .val (.list (intL (havingP N p)))), (Str.ofString "folders", .val (.list ((foP N p).map .str))), (Str.ofString "ways", .val (.list ((ways N).map .str))), (Str.ofString "numbers", .val (.list (intL N))), (Str.ofString "above", .val (.list (intL (aboveP N)))), (Str.ofString "rows", .val (.list ((rowsP N).map .str))),
        (Str.ofString "lives", .own (intL (if neF N p then lv ++ [maskP N p] else lv))), (Str.ofString "tops", .own (if neF N p then tp ++ [.str ((foP N p).getLastD Str.empty)] else tp)), (Str.ofString "right", .val (.bool true)), (Str.ofString "kept", .own kp)]) (TrS.ite (b := neF N p) ?lt (fun q => ?lb) (fun q => ?ln)) ?lm)
      case lt =>
        exact EvT.eqb (EvT.cmp (Ev.var rfl) (Ev.list EvA.nil) (Cmp.neL hu (.inr ⟨all_smallS _, rfl⟩))) (by rw [pvsEq_nilS]; rfl)
      case lb =>
        rw [if_pos q, if_pos q]
        have hne : (foP N p).isEmpty = false := by have := q; unfold neF at this; cases e : (foP N p).isEmpty with
          | true => rw [e] at this; cases this
          | false => rfl
        refine Tr.cons (TrS.append (l := intL lv) (p := .int (maskP N p)) rfl (Ev.callB (id := "sum") (by walk_at "m_glob") (EvA.cons (p := .list (((r07.filter fun k => (foP N p).any fun q => q == sz (ways N) k).map fun k => 1 * 2 ^ k.toNat).map .int)) ?mk EvA.nil) (Fn.sumI K'.hn)) ?_ (by unfold intL; rw [List.length_map]; omega))
        case mk =>
          rw [← fm_intL]
          refine Ev.comp1 (ρc := [(Str.ofString "ways", .val (.list ((ways N).map .str))), (Str.ofString "folders", .val (.list ((foP N p).map .str)))]) (l := intL r07) (pI fun k => (foP N p).any fun q => q == sz (ways N) k) (fun q => match q with | .int k => PV.int (1 * 2 ^ k.toNat) | _ => .none) (fun q => (Str.ofString "k", .val q) :: [(Str.ofString "ways", .val (.list ((ways N).map .str))), (Str.ofString "folders", .val (.list ((foP N p).map .str)))])
            (fb := true) (EvSrc.ofIt (EvIt.range (a := 0) (b := 7) (c := 1) (n := 7) (by walk_at "m_glob") (EvA.cons Ev.int EvA.nil) K'.hn (.inl ⟨rfl, rfl, rfl⟩) rfl rfl)) (hclos := rfl) (Cap.cons rfl rfl rfl rfl (Cap.cons rfl rfl rfl rfl Cap.nil)) (clSub ⟨rfl, rfl, trivial⟩) rfl (namesOk (by decide)) (fun n y c _ e => e) (fun C p hp => AsgT.name (.inl rfl)) (fun p hp => keepCons rfl) (fun p hp => NoOwn.cons (NoOwn.cons (NoOwn.cons NoOwn.nil))) (tgName rfl) (fun C q hq => EvTs.one ?mk1) (fun C q hq _ => ?mk2) (by decide +kernel)
          case mk1 =>
            obtain ⟨k, hk', rfl⟩ := List.mem_map.mp hq
            obtain ⟨k0, k7⟩ := mem07 hk'
            exact EvT.eqb (EvT.cmp (Ev.itemL (k := k) (Ev.toL (Ev.var rfl)) (Ev.var rfl) k0 (lt63 k7) (way_get N k0 k7)) (Ev.var rfl) (Cmp.inL (.inr ⟨all_smallS _, rfl⟩))) (any_strs _ _)
          case mk2 =>
            obtain ⟨k, hk', rfl⟩ := List.mem_map.mp hq
            obtain ⟨k0, k7⟩ := mem07 hk'
            exact Ev.binop Ev.int (Ev.var rfl) (Op2.shlI k0 (by omega) (by decide))
        refine Tr.cons (TrS.append (p := .str ((foP N p).getLastD Str.empty)) rfl (Ev.itemN (l := (foP N p).map .str) (k := -1) (Ev.toL (Ev.var rfl)) (Ev.neg Ev.int) (by decide) ?lneg (by decide) (last_get _ hne)) ?_ (by omega))
        case lneg =>
          cases e : foP N p with
          | nil => rw [e] at hne; cases hne
          | cons _ _ => simp; omega
        refine Tr.nil ⟨trivial, Has.cons rfl (Has.cons rfl (Has.cons rfl (Has.cons rfl (Has.cons rfl (Has.cons rfl (Has.cons ?_ (Has.cons rfl (Has.cons rfl (Has.cons rfl Has.nil)))))))))⟩
        show some (SV.own _) = some (SV.own _)
        unfold intL; rw [List.map_append]; rfl
      case ln =>
        rw [if_neg (by rw [q]; decide), if_neg (by rw [q]; decide)]
        exact Tr.nil ⟨trivial, Has.cons rfl (Has.cons rfl (Has.cons rfl (Has.cons rfl (Has.cons rfl (Has.cons rfl (Has.cons rfl (Has.cons rfl (Has.cons rfl (Has.cons rfl Has.nil)))))))))⟩
      case lm =>
        rintro pf ρ2 ⟨hpf, hρ2⟩
        cases pf with
        | next =>
          refine Tr.has hρ2 ?_
          -- told
          refine Tr.cons (TrS.assign (p := .list (intL (toP N p))) (Ev.ifExp (c := !(havingP N p).isEmpty) (EvT.eqb (EvT.cmp (Ev.var rfl) (Ev.list EvA.nil) (Cmp.neL hu (.inl ⟨all_small _, rfl⟩))) (by rw [pvsEq_nilI])) (fun q => ?to1) (fun q => ?to2)) ?_ (.inl rfl))
          case to1 =>
            have q' : (havingP N p).isEmpty = false := by simpa using q
            refine Ev.eqp (Ev.callD (f := 208) (by walk_at "m_glob") (by walk_at "m_fun") (EvA.cons (Ev.var rfl) (EvA.cons (Ev.var rfl) EvA.nil)) (between_c B' (K'.less (by decide)) hA (by omega))) ?_
            unfold toP; rw [if_neg (by rw [q']; decide)]
          case to2 =>
            have q' : (havingP N p).isEmpty = true := by simpa using q
            refine Ev.eqp (Ev.list EvA.nil) ?_
            unfold toP; rw [if_pos q']; rfl
          -- the folders that are told
          refine Tr.cons (TrS.iteW (b := false) (EvTW.eqb (EvTW.or (EvT.cmp (Ev.lenL (by walk_at "m_glob") (Ev.toL (Ev.var rfl)) (by rw [List.length_map]; omega)) (Ev.lenL (by walk_at "m_glob") (Ev.toL (Ev.var rfl)) (by unfold intL; rw [List.length_map]; omega)) Cmp.neI)
            (fun _ => EvTW.not (EvTW.plain (ev_cmp (a := foP N p) (b := (toP N p).map fun k => sz (ways N) k) B' (K'.less (by decide)) hF rfl (by omega) (by rw [List.length_map]; omega) (by walk_at "m_glob") (by walk_at "m_fun") (EvA.cons (Ev.var rfl) (EvA.cons ?tw EvA.nil))) Tru.bool))) ?teq) (fun q => by cases q) (fun _ => Tr.nil ?_))
          case tw =>
            refine Ev.eqp (Ev.comp1 (ρc := [(Str.ofString "ways", .val (.list ((ways N).map .str)))]) (l := intL (toP N p)) (fun _ => true) (fun q => match q with | .int k => .str (sz (ways N) k) | _ => .none) (fun q => (Str.ofString "k", .val q) :: [(Str.ofString "ways", .val (.list ((ways N).map .str)))])
              (fb := true) (EvSrc.ofIt (EvIt.list (Ev.var rfl) K'.hn)) (hclos := rfl) (Cap.cons rfl rfl rfl rfl Cap.nil) (clSub ⟨rfl, trivial⟩) rfl (namesOk (by decide)) (fun n y c _ e => e) (fun C p hp => AsgT.name (.inl rfl)) (fun p hp => keepCons rfl) (fun p hp => NoOwn.cons (NoOwn.cons NoOwn.nil)) (tgName rfl) (fun C q hq => EvTs.nil) (fun C q hq _ => ?tw1) (by unfold intL; rw [List.length_map]; omega)) ?_
            case tw1 =>
              obtain ⟨k, hk', rfl⟩ := List.mem_map.mp hq
              obtain ⟨k0, k7⟩ := toP_mem hk'
              exact Ev.itemL (k := k) (Ev.toL (Ev.var rfl)) (Ev.var rfl) k0 (lt63 k7) (way_get N k0 k7)
            rw [List.filter_eq_self.mpr (by simp)]; unfold intL; rw [List.map_map, List.map_map]; rfl
          case teq =>
            obtain ⟨e1, e2⟩ := F.fol p h5 h9
            rw [e2, List.length_map]; unfold intL; rw [List.length_map, e1]; simp
          -- two rights next to each other
          refine Tr.has (l := [(Str.ofString "told", .val (.list (intL (toP N p)))), (Str.ofString "folders", .val (.list ((foP N p).map .str))), (Str.ofString "ways", .val (.list ((ways N).map .str))), (Str.ofString "numbers", .val (.list (intL N))), (Str.ofString "above", .val (.list (intL (aboveP N)))), (Str.ofString "rows", .val (.list ((rowsP N).map .str))),
            (Str.ofString "lives", .own (intL (if neF N p then lv ++ [maskP N p] else lv))), (Str.ofString "tops", .own (if neF N p then tp ++ [.str ((foP N p).getLastD Str.empty)] else tp)), (Str.ofString "right", .val (.bool true)), (Str.ofString "kept", .own kp)]) (Has.cons rfl (Has.cons rfl (Has.cons rfl (Has.cons rfl (Has.cons rfl (Has.cons rfl (Has.cons rfl (Has.cons rfl (Has.cons rfl (Has.cons rfl Has.nil)))))))))) ?_
          let inv2 : Nat → PEnv → Prop := fun _ ρ => Has ρ [(Str.ofString "told", .val (.list (intL (toP N p)))), (Str.ofString "folders", .val (.list ((foP N p).map .str))), (Str.ofString "ways", .val (.list ((ways N).map .str))), (Str.ofString "numbers", .val (.list (intL N))), (Str.ofString "above", .val (.list (intL (aboveP N)))), (Str.ofString "rows", .val (.list ((rowsP N).map .str))),
            (Str.ofString "lives", .own (intL (if neF N p then lv ++ [maskP N p] else lv))), (Str.ofString "tops", .own (if neF N p then tp ++ [.str ((foP N p).getLastD Str.empty)] else tp)), (Str.ofString "right", .val (.bool true)), (Str.ofString "kept", .own kp)]
          refine Tr.cons (TrS.forG (l := pickP kp (some (-1)) none) inv2 (EvSrc.ofIt (EvIt.list (Ev.sliceL (EvL.own rfl) (EvP.some (Ev.neg Ev.int)) EvP.none (by omega)) K'.hn)) (Has.cons rfl (Has.cons rfl (Has.cons rfl (Has.cons rfl (Has.cons rfl (Has.cons rfl (Has.cons rfl (Has.cons rfl (Has.cons rfl (Has.cons rfl Has.nil)))))))))) ?kt ?kd)
          case kt =>
            intro j v ρ3 hv hJ
            rw [← hkp] at hv
            obtain ⟨rfl, h6⟩ := kept_last hi5 hpi hv
            refine ⟨_, AsgT.pair K'.hn (.inl rfl) (.inl rfl), ?_⟩
            refine Tr.has (l := [(Str.ofString "further", .val (.list (intL (toP N (p - 1))))), (Str.ofString "others", .val (.list ((foP N (p - 1)).map .str))), (Str.ofString "told", .val (.list (intL (toP N p)))), (Str.ofString "folders", .val (.list ((foP N p).map .str))), (Str.ofString "ways", .val (.list ((ways N).map .str))), (Str.ofString "numbers", .val (.list (intL N))), (Str.ofString "above", .val (.list (intL (aboveP N)))), (Str.ofString "rows", .val (.list ((rowsP N).map .str))),
              (Str.ofString "lives", .own (intL (if neF N p then lv ++ [maskP N p] else lv))), (Str.ofString "tops", .own (if neF N p then tp ++ [.str ((foP N p).getLastD Str.empty)] else tp)), (Str.ofString "right", .val (.bool true)), (Str.ofString "kept", .own kp)]) (Has.cons rfl (Has.cons rfl (Has.cons (hJ.sub _ _ rfl) (Has.cons (hJ.sub _ _ rfl) (Has.cons (hJ.sub _ _ rfl) (Has.cons (hJ.sub _ _ rfl) (Has.cons (hJ.sub _ _ rfl) (Has.cons (hJ.sub _ _ rfl) (Has.cons (hJ.sub _ _ rfl) (Has.cons (hJ.sub _ _ rfl) (Has.cons (hJ.sub _ _ rfl) (Has.cons (hJ.sub _ _ rfl) Has.nil)))))))))))) ?_
            have hfl' := foP_len F (p := p - 1) (by omega) (by omega)
            have hcm := F.cmp (p - 1) (by omega) (by omega)
            rw [show p - 1 + 1 = p by omega] at hcm
            refine Tr.cons (TrS.iteW (b := false) (EvTW.eqb (EvTW.cmp (ev_cmp (a := foP N p) (b := foP N (p - 1)) B' (K'.less (by decide)) hF rfl (by omega) (by omega) (by walk_at "m_glob") (by walk_at "m_fun") (EvA.cons (Ev.var rfl) (EvA.cons (Ev.var rfl) EvA.nil))) (Ev.cmp (Ev.var rfl) (Ev.var rfl) (Cmp.eqL hu (.inl ⟨all_small _, all_small _⟩))) (Cmp.neB hu)) ?keq) (fun q => by cases q) (fun _ => Tr.nil ?_))
            case keq => rw [pvsEq_ints, hcm]; simp
            refine Tr.nil ?_
            change Has _ _
            exact Has.cons rfl (Has.cons rfl (Has.cons rfl (Has.cons rfl (Has.cons rfl (Has.cons rfl (Has.cons rfl (Has.cons rfl (Has.cons rfl (Has.cons rfl Has.nil)))))))))
          case kd =>
            intro ρ3 hJ
            refine Tr.nil ?_
            change Has ρ3 _ at hJ
            refine Tr.has hJ ?_
            refine Tr.cons (TrS.append (p := keptV N p) rfl (Ev.tuple (EvA.cons (Ev.var rfl) (EvA.cons (Ev.var rfl) EvA.nil))) ?_ (by omega))
            refine Tr.nil ?_
            show Has _ _
            rw [plist_take hk]
            refine Has.cons rfl (Has.cons rfl (Has.cons rfl (Has.cons rfl (Has.cons ?i1 (Has.cons ?i2 (Has.cons rfl (Has.cons ?i3 Has.nil)))))))
            case i1 =>
              show some (SV.own _) = some (SV.own _)
              rw [List.filter_append, List.map_append, hlv]
              cases e : neF N p with
              | true => simp [List.filter_cons, e]
              | false => simp [List.filter_cons, e]
            case i2 =>
              show some (SV.own _) = some (SV.own _)
              rw [List.filter_append, List.map_append, List.map_append, htp]
              cases e : neF N p with
              | true => simp [List.filter_cons, e]
              | false => simp [List.filter_cons, e]
            case i3 =>
              show some (SV.own _) = some (SV.own _)
              rw [List.map_append, hkp]; rfl
        | _ => exact hpf.elim
    case md =>
      intro ρ' hI
      change Has ρ' _ at hI
      have hpl : plist.take (intL plist).length = plist := rfl
      rw [hpl] at hI
      have hu := Nat.lt_of_le_of_lt (Nat.le_add_right _ _) K'.un
      have hI' : Has ρ' [(Str.ofString "ways", .val (.list ((ways N).map .str))), (Str.ofString "rows", .val (.list ((rowsP N).map .str))), (Str.ofString "lives", .own (intL (livesP N))), (Str.ofString "tops", .own ((topsP N).map .str)), (Str.ofString "right", .val (.bool true))] :=
        Has.cons (hI.sub _ _ rfl) (Has.cons (hI.sub _ _ rfl) (Has.cons (hI.sub _ _ rfl) (Has.cons (hI.sub _ _ rfl) (Has.cons (hI.sub _ _ rfl) Has.nil))))
      have hlv := lives_len N
      have htl : (topsP N).length = (livesP N).length := by unfold topsP livesP; rw [List.length_map, List.length_map]
      have hFm := F.meet
      have hFl := F.low
      have hFe := F.euler
      have hFt := F.tlen
      generalize livesP N = lv at hI' hlv htl hFm hFl hFe
      generalize topsP N = tp at hI' htl hFl hFt
      have hrl : (rowsP N).length = 7 := by unfold rowsP; rw [List.length_map]; exact hNl
      have ltb : ∀ {n : Int}, n < lv.length → n < 2 ^ 63 := fun a => lt_big hlv a
      have tob : ∀ {n : Int}, 0 ≤ n → n < lv.length → n.toNat < lv.length := fun a b => lt_toNat a b
      have tob2 : ∀ {n : Int}, 0 ≤ n → n < lv.length → n.toNat < tp.length := fun a b => by rw [htl]; exact lt_toNat a b
      refine Tr.nil ?_
      refine Tr.freeze (x := Str.ofString "lives") hL (hI'.sub _ _ rfl) ?_
      refine Tr.freeze (x := Str.ofString "tops") (l := tp.map .str) hL (hI'.sub _ _ rfl) ?_
      refine Tr.has (l := [(Str.ofString "tops", .val (.list (tp.map .str))), (Str.ofString "lives", .val (.list (intL lv))), (Str.ofString "ways", .val (.list ((ways N).map .str))), (Str.ofString "rows", .val (.list ((rowsP N).map .str))), (Str.ofString "right", .val (.bool true))])
        (Has.cons rfl (Has.cons rfl (Has.cons (hI'.sub _ _ rfl) (Has.cons (hI'.sub _ _ rfl) (Has.cons (hI'.sub _ _ rfl) Has.nil))))) ?_
      -- the rows' heads
      refine Tr.cons (TrS.ite (b := false) (EvT.eqb (EvT.cmp (Ev.comp1 (ρc := []) (l := (rowsP N).map .str) (fun _ => false) id (fun q => (Str.ofString "row", .val q) :: [])
          (fb := true) (EvSrc.ofIt (EvIt.list (Ev.var rfl) K'.hn)) (hclos := rfl) Cap.nil (fun y c e => by simp at e) rfl (namesOk (by decide)) (fun n y c hy e => by simp at hy) (fun C p hp => AsgT.name (.inl rfl)) (fun p hp => keepCons rfl) (fun p hp => NoOwn.cons NoOwn.nil) (tgName rfl) (fun C q hq => EvTs.one ?h5) (fun C q hq _ => Ev.var rfl) (by rw [List.length_map]; omega)) (Ev.list EvA.nil) (Cmp.neL hu ?h5a)) ?h5e) (fun q => by cases q) (fun _ => Tr.nil ?_))
      case h5 =>
        obtain ⟨x, hx, rfl⟩ := List.mem_map.mp hq
        unfold rowsP at hx
        obtain ⟨v, hv, rfl⟩ := List.mem_map.mp hx
        obtain ⟨-, m2, m3⟩ := F.mode v hv
        refine EvT.eqb (EvT.cmp (Ev.sliceS (Ev.var rfl) EvP.none (EvP.some Ev.int) (by omega)) Ev.str Cmp.neS) ?_
        show ((Txt.slice (modeS (modeI v)) none (some 5)).cps.toList != _) = false
        rw [m3]; simp
      case h5a => rw [List.filter_eq_nil_iff.mpr (by simp)]; exact .inl ⟨rfl, rfl⟩
      case h5e => rw [List.filter_eq_nil_iff.mpr (by simp)]; rfl
      -- heaps
      refine Tr.cons (TrS.assign Ev.int ?_ (.inl rfl))
      let inv3 : Nat → PEnv → Prop := fun i ρ => Has ρ [(Str.ofString "heaps", .val (.int (((choices lv).take i).map (signP lv)).sum)), (Str.ofString "tops", .val (.list (tp.map .str))), (Str.ofString "lives", .val (.list (intL lv))), (Str.ofString "ways", .val (.list ((ways N).map .str))), (Str.ofString "right", .val (.bool true))]
      have elen : (intL lv).length = lv.length := by unfold intL; rw [List.length_map]
      obtain ⟨hr1, hr2⟩ := range_choices hlv
      refine Tr.cons (TrS.for (l := intL (choices lv)) inv3 (by
          rw [← rangeP_choices]
          exact EvIt.range (a := 1) (b := 1 * 2 ^ (lv.length : Int).toNat) (c := 1) (n := 2 ^ lv.length - 1) (by walk_at "m_glob") (EvA.cons Ev.int (EvA.cons (Ev.binop Ev.int (Ev.eqp (Ev.lenL (by walk_at "m_glob") (Ev.toL (Ev.var rfl)) (by omega)) (by rw [elen])) (Op2.shlI (by omega) (by omega) (by decide))) EvA.nil)) K'.hn (.inr (.inl ⟨rfl, rfl⟩)) hr1 hr2) (.inr ⟨rfl, rfl⟩)
        (Has.cons rfl (Has.cons rfl (Has.cons rfl (Has.cons rfl (Has.cons rfl Has.nil))))) ?ct ?cd)
      case ct =>
        intro i pv ρ2 hp hJ
        obtain ⟨c, hk, rfl⟩ : ∃ k, (choices lv)[i]? = some k ∧ pv = .int k := by
          unfold intL at hp
          rw [List.getElem?_map] at hp
          obtain ⟨y, hy, e⟩ := Option.map_eq_some_iff.mp hp
          exact ⟨y, hy, e.symm⟩
        have hcm := List.mem_of_getElem? hk
        have hF1 := hFm c hcm
        have hF2 := hFl c hcm
        have hsum := sum_take_sign (choices lv) (signP lv) hk
        obtain ⟨hc1, hc2⟩ := choices_mem hcm
        have hchl := chosen_len lv.length c
        have hchn := chosen_ne hlv hcm
        have hcmem : ∀ j ∈ chosenP lv.length c, 0 ≤ j ∧ j < lv.length := fun j hj => chosen_mem hj
        have hmeq := meet_eq lv c
        have hmlen := meetL_len hlv c
        have hmsm := meetL_small lv c
        have hcom : commonP lv c = (chosenP lv.length c).foldl (fun acc i => Builtin.bitAnd acc (nz lv i)) 127 := rfl
        have hsig : signP lv c = if meetP lv c then (if ((chosenP lv.length c).length : Int).fmod 2 == 1 then 1 else -1) else 0 := rfl
        have hlow : lowestP lv tp c = (maxPP ((chosenP lv.length c).map fun i => (((sz tp i).length : Int), sz tp i))).2 := rfl
        have hml : meetL lv c = (intL (chosenP lv.length c)).flatMap fun p => if (fun _ : PV => true) p then ((fun _ : PV => intL (chosenP lv.length c)) p |>.filter (f2M lv p)).map ((fun _ _ : PV => PV.int 1) p) else [] := rfl
        have hchd : intL (chosenP lv.length c) = ((intL ((List.range lv.length).map fun (i : Nat) => (i : Int))).filter (pI fun i => Builtin.bitAnd (c.fdiv (2 ^ i.toNat)) 1 != 0)).map id := by
          rw [filter_intL]; rfl
        change Has ρ2 _ at hJ
        generalize hsm : (((choices lv).take i).map (signP lv)).sum = sm at hJ
        refine Tr.has (l := [(Str.ofString "choice", .val (.int c)), (Str.ofString "heaps", .val (.int sm)), (Str.ofString "tops", .val (.list (tp.map .str))), (Str.ofString "lives", .val (.list (intL lv))), (Str.ofString "ways", .val (.list ((ways N).map .str))), (Str.ofString "right", .val (.bool true))])
          (Has.cons rfl (Has.cons (hJ.sub _ _ rfl) (Has.cons (hJ.sub _ _ rfl) (Has.cons (hJ.sub _ _ rfl) (Has.cons (hJ.sub _ _ rfl) (Has.cons (hJ.sub _ _ rfl) Has.nil)))))) ?_
        -- chosen
        obtain ⟨ru1, ru2⟩ := range_upto hlv
        refine Tr.cons (TrS.assign (p := .list (intL (chosenP lv.length c))) ?cho ?_ (.inr ⟨rfl, rfl⟩))
        case cho =>
          rw [hchd, ← rangeP_len]
          refine Ev.comp1 (ρc := [(Str.ofString "choice", .val (.int c))]) (pI fun i => Builtin.bitAnd (c.fdiv (2 ^ i.toNat)) 1 != 0) id (fun q => (Str.ofString "n", .val q) :: [(Str.ofString "choice", .val (.int c))])
              (fb := true) (EvSrc.ofIt (EvIt.range (a := 0) (b := (lv.length : Int)) (c := 1) (n := lv.length) (by walk_at "m_glob") (EvA.cons (Ev.eqp (Ev.lenL (by walk_at "m_glob") (Ev.toL (Ev.var rfl)) (by omega)) (by rw [elen])) EvA.nil) K'.hn (.inl ⟨rfl, rfl, rfl⟩) ru1 ru2)) (hclos := rfl) (Cap.cons rfl rfl rfl rfl Cap.nil) (clSub ⟨rfl, trivial⟩) rfl (namesOk (by decide)) (fun n y c _ e => e) (fun C p hp => AsgT.name (.inl rfl)) (fun p hp => keepCons rfl) (fun p hp => NoOwn.cons (NoOwn.cons NoOwn.nil)) (tgName rfl) (fun C q hq => EvTs.one ?ch1) (fun C q hq _ => Ev.var rfl) ?rg3
          case ch1 =>
            rw [rangeP_len] at hq
            obtain ⟨j, hj, rfl⟩ := List.mem_map.mp hq
            obtain ⟨j', hj', rfl⟩ := List.mem_map.mp hj
            exact EvT.plain (Ev.binop (Ev.binop (Ev.var rfl) (Ev.var rfl) (Op2.shrI (by omega))) Ev.int Op2.andI) Tru.int
          case rg3 => unfold rangeP; rw [List.length_map, List.length_range]; omega
        generalize chosenP lv.length c = ch at hchl hchn hcmem hml hcom hsig hlow
        have echl : (intL ch).length = ch.length := by unfold intL; rw [List.length_map]
        -- common
        refine Tr.cons (TrS.assign (p := .int 127) Ev.int ?_ (.inr ⟨rfl, rfl⟩))
        let inv4 : Nat → PEnv → Prop := fun i ρ => Has ρ [(Str.ofString "common", .val (.int ((ch.take i).foldl (fun acc i => Builtin.bitAnd acc (nz lv i)) 127))), (Str.ofString "chosen", .val (.list (intL ch))), (Str.ofString "heaps", .val (.int sm)), (Str.ofString "tops", .val (.list (tp.map .str))), (Str.ofString "lives", .val (.list (intL lv))), (Str.ofString "ways", .val (.list ((ways N).map .str))), (Str.ofString "right", .val (.bool true))]
        refine Tr.cons (TrS.for (l := intL ch) inv4 (EvIt.list (Ev.var rfl) K'.hn) (.inl rfl) (Has.cons rfl (Has.cons rfl (Has.cons rfl (Has.cons rfl (Has.cons rfl (Has.cons rfl (Has.cons rfl Has.nil))))))) ?cmt ?cmd)
        case cmt =>
          intro j qv ρ3 hq hK
          obtain ⟨n, hn, rfl⟩ : ∃ k, ch[j]? = some k ∧ qv = .int k := by
            unfold intL at hq
            rw [List.getElem?_map] at hq
            obtain ⟨y, hy, e⟩ := Option.map_eq_some_iff.mp hq
            exact ⟨y, hy, e.symm⟩
          change Has ρ3 _ at hK
          obtain ⟨n0, n1⟩ := hcmem n (List.mem_of_getElem? hn)
          have hst : (ch.take (j + 1)).foldl (fun acc i => Builtin.bitAnd acc (nz lv i)) 127 = Builtin.bitAnd ((ch.take j).foldl (fun acc i => Builtin.bitAnd acc (nz lv i)) 127) (nz lv n) := by
            rw [List.take_add_one, hn, List.foldl_append]; rfl
          refine Tr.cons (TrS.assign (p := .int (Builtin.bitAnd ((ch.take j).foldl (fun acc i => Builtin.bitAnd acc (nz lv i)) 127) (nz lv n))) (Ev.has (l := [(Str.ofString "n", .val (.int n)), (Str.ofString "common", .val (.int ((ch.take j).foldl (fun acc i => Builtin.bitAnd acc (nz lv i)) 127))), (Str.ofString "lives", .val (.list (intL lv)))]) (Has.cons rfl (Has.cons (hK.sub _ _ rfl) (Has.cons (hK.sub _ _ rfl) Has.nil)))
            (Ev.binop (Ev.var rfl) (Ev.itemL (k := n) (Ev.toL (Ev.var rfl)) (Ev.var rfl) n0 (ltb n1) (nz_get (tob n0 n1))) Op2.andI)) ?_ (.inr ⟨rfl, rfl⟩))
          refine Tr.nil ?_
          change Has _ _
          rw [hst]
          exact Has.cons rfl (Has.cons (hK.sub _ _ rfl) (Has.cons (hK.sub _ _ rfl) (Has.cons (hK.sub _ _ rfl) (Has.cons (hK.sub _ _ rfl) (Has.cons (hK.sub _ _ rfl) (Has.cons (hK.sub _ _ rfl) Has.nil))))))
        case cmd =>
          intro ρ3 hK
          change Has ρ3 _ at hK
          rw [echl, List.take_length, ← hcom] at hK
          refine Tr.nil ?_
          refine Tr.has hK ?_
          -- meeting
          refine Tr.cons (TrS.assign (p := .bool (meetP lv c)) (Ev.eqp (Ev.cmp (b := .list []) (c := pvsEq (meetL lv c) []) (a := .list (meetL lv c)) ?mee (Ev.list EvA.nil) (Cmp.eqL hu (.inl ⟨hmsm, rfl⟩))) (by rw [hmeq])) ?_ (.inl rfl))
          case mee =>
            rw [hml]
            refine Ev.comp2 (ρc := [(Str.ofString "chosen", .val (.list (intL ch))), (Str.ofString "lives", .val (.list (intL lv)))]) (l := intL ch) (l2 := fun _ => intL ch) (fb := true) (fb2 := true) (fun _ => true) (fun q => (Str.ofString "n", .val q) :: [(Str.ofString "chosen", .val (.list (intL ch))), (Str.ofString "lives", .val (.list (intL lv)))]) (f2M lv) (fun _ _ => .int 1) (fun p q => (Str.ofString "m", .val q) :: (Str.ofString "n", .val p) :: [(Str.ofString "chosen", .val (.list (intL ch))), (Str.ofString "lives", .val (.list (intL lv)))])
              (EvSrc.ofIt (EvIt.list (Ev.var rfl) K'.hn)) (hclos := rfl) (Cap.cons rfl rfl rfl rfl (Cap.cons rfl rfl rfl rfl Cap.nil)) (clSub ⟨rfl, rfl, trivial⟩) rfl (namesOk (by decide)) (fun n y c _ e => e) (fun C p hp => AsgT.name (.inl rfl)) (fun p hp => keepCons rfl) (fun p hp => NoOwn.cons (NoOwn.cons (NoOwn.cons NoOwn.nil))) (tgName rfl) (fun C q hq => EvTs.nil)
              (fun C p hp _ => EvSrc.ofIt (EvIt.list (Ev.var rfl) K'.hn)) (fun C p q hp _ hq => AsgT.name (.inl rfl)) (fun p q hp hq => keepCons rfl) (fun p q hp hq => NoOwn.cons (NoOwn.cons (NoOwn.cons (NoOwn.cons NoOwn.nil)))) (fun C => tgName rfl) (fun C p q hp _ hq => EvTs.one ?me1) (fun C p q hp _ hq _ => Ev.int) (by rw [← hml]; omega)
            case me1 =>
              obtain ⟨n, hn, rfl⟩ := List.mem_map.mp hp
              obtain ⟨m, hm, rfl⟩ := List.mem_map.mp hq
              obtain ⟨n0, n1⟩ := hcmem n hn
              obtain ⟨m0, m1⟩ := hcmem m hm
              exact EvT.cmp (Ev.binop (Ev.itemL (k := n) (Ev.toL (Ev.var rfl)) (Ev.var rfl) n0 (ltb n1) (nz_get (tob n0 n1))) (Ev.itemL (k := m) (Ev.toL (Ev.var rfl)) (Ev.var rfl) m0 (ltb m1) (nz_get (tob m0 m1))) Op2.andI) Ev.int Cmp.eqI
          -- Helly
          refine Tr.cons (TrS.ite (b := false) (EvT.eqb (EvT.cmp (Ev.cmp (Ev.var rfl) Ev.int Cmp.neI) (Ev.var rfl) (Cmp.neB hu)) (by rw [hF1]; simp)) (fun q => by cases q) (fun _ => Tr.nil ?_))
          -- the lowest
          refine Tr.cons (TrS.ite (b := meetP lv c) (EvT.plain (Ev.var rfl) Tru.bool) (fun hme => ?mt1) (fun hme => ?mt2))
          case mt2 =>
            refine Tr.nil ?_
            refine Tr.nil ?_
            change Has _ _
            rw [hsum, hsm, hsig, hme]
            refine Has.cons ?_ (Has.cons rfl (Has.cons rfl (Has.cons rfl (Has.cons rfl Has.nil))))
            show some (SV.val _) = some (SV.val _)
            simp
          case mt1 =>
            refine Tr.cons (TrS.aug (c := .int (sm + (if (ch.length : Int).fmod 2 == 1 then 1 else -1))) rfl (Ev.ifExp (c := (ch.length : Int).fmod 2 == 1) (p := .int (if (ch.length : Int).fmod 2 == 1 then 1 else -1)) (EvT.cmp (Ev.binop (Ev.eqp (Ev.lenL (by walk_at "m_glob") (Ev.toL (Ev.var rfl)) (by omega)) (by rw [echl])) Ev.int (Op2.modI (by decide))) Ev.int Cmp.eqI) (fun q => by rw [if_pos q]; exact Ev.int) (fun q => by rw [if_neg (by rw [q]; decide)]; exact Ev.neg Ev.int)) Op2I.addI ?_ (.inl rfl))
            have hpne : (ch.map fun i => (((sz tp i).length : Int), sz tp i)) ≠ [] := fun e => hchn (List.map_eq_nil_iff.mp e)
            refine Tr.cons (TrS.assign (p := .str (lowestP lv tp c)) (Ev.item (p := pairP (maxPP (ch.map fun i => (((sz tp i).length : Int), sz tp i)))) (Ev.callB (id := "max") (by walk_at "m_glob") (EvA.cons (p := .list ((ch.map fun i => (((sz tp i).length : Int), sz tp i)).map pairP)) ?mx EvA.nil) (Fn.maxPP K'.hn (by have := K'.un; omega) hpne)) Ev.int (Idx.tuple (j := 1) (by decide) (by decide) rfl (by rw [hlow]; rfl))) ?_ (.inr ⟨rfl, rfl⟩))
            case mx =>
              rw [← gPair_map]
              refine Ev.comp1 (ρc := [(Str.ofString "tops", .val (.list (tp.map .str)))]) (l := intL ch) (fun _ => true) (gPair tp) (fun q => (Str.ofString "n", .val q) :: [(Str.ofString "tops", .val (.list (tp.map .str)))])
                (fb := true) (EvSrc.ofIt (EvIt.list (Ev.var rfl) K'.hn)) (hclos := rfl) (Cap.cons rfl rfl rfl rfl Cap.nil) (clSub ⟨rfl, trivial⟩) rfl (namesOk (by decide)) (fun n y c _ e => e) (fun C p hp => AsgT.name (.inl rfl)) (fun p hp => keepCons rfl) (fun p hp => NoOwn.cons (NoOwn.cons NoOwn.nil)) (tgName rfl) (fun C q hq => EvTs.nil) (fun C q hq _ => ?mx1) (by omega)
              case mx1 =>
                obtain ⟨n, hn, rfl⟩ := List.mem_map.mp hq
                obtain ⟨n0, n1⟩ := hcmem n hn
                have hx := hFt n
                exact Ev.tuple (EvA.cons (Ev.callB (id := "len") (by walk_at "m_glob") (EvA.cons (Ev.itemL (k := n) (Ev.toL (Ev.var rfl)) (Ev.var rfl) n0 (ltb n1) (strs_get' (tob2 n0 n1))) EvA.nil) (Fn.lenStr (by omega))) (EvA.cons (Ev.itemL (k := n) (Ev.toL (Ev.var rfl)) (Ev.var rfl) n0 (ltb n1) (strs_get' (tob2 n0 n1))) EvA.nil)) (by show (2 : Nat) ≤ sizeLine; omega)
            refine Tr.cons (TrS.ite (b := false) ?lo (fun q => by cases q) (fun _ => Tr.nil ?_))
            case lo =>
              have hF3 := hF2 hme
              refine EvT.eqb (EvT.cmp (Ev.comp1 (ρc := [(Str.ofString "ways", .val (.list ((ways N).map .str))), (Str.ofString "lowest", .val (.str (lowestP lv tp c))), (Str.ofString "common", .val (.int (commonP lv c)))]) (l := intL r07) (pI fun k => (sz (ways N) k == lowestP lv tp c) && (Builtin.bitAnd ((commonP lv c).fdiv (2 ^ k.toNat)) 1 == 1)) id (fun q => (Str.ofString "k", .val q) :: [(Str.ofString "ways", .val (.list ((ways N).map .str))), (Str.ofString "lowest", .val (.str (lowestP lv tp c))), (Str.ofString "common", .val (.int (commonP lv c)))])
                (fb := true) (EvSrc.ofIt (EvIt.range (a := 0) (b := 7) (c := 1) (n := 7) (by walk_at "m_glob") (EvA.cons Ev.int EvA.nil) K'.hn (.inl ⟨rfl, rfl, rfl⟩) rfl rfl)) (hclos := rfl) (Cap.cons rfl rfl rfl rfl (Cap.cons rfl rfl rfl rfl (Cap.cons rfl rfl rfl rfl Cap.nil))) (clSub ⟨rfl, rfl, rfl, trivial⟩) rfl (namesOk (by decide)) (fun n y c _ e => e) (fun C p hp => AsgT.name (.inl rfl)) (fun p hp => keepCons rfl) (fun p hp => NoOwn.cons (NoOwn.cons (NoOwn.cons (NoOwn.cons NoOwn.nil)))) (tgName rfl) (fun C q hq => EvTs.one ?lo1) (fun C q hq _ => Ev.var rfl) (by decide +kernel))
                (Ev.list EvA.nil) (Cmp.eqL hu (.inl ⟨?lo2, rfl⟩))) ?lo3
              case lo1 =>
                obtain ⟨k, hk', rfl⟩ := List.mem_map.mp hq
                obtain ⟨k0, k7⟩ := mem07 hk'
                show EvT _ _ _ _ _ _ _ ((sz (ways N) k == lowestP lv tp c) && _)
                rw [← beq_cps]
                exact EvT.and (EvT.cmp (Ev.itemL (k := k) (Ev.toL (Ev.var rfl)) (Ev.var rfl) k0 (lt63 k7) (way_get N k0 k7)) (Ev.var rfl) Cmp.eqS) (fun _ => EvT.cmp (Ev.binop (Ev.binop (Ev.var rfl) (Ev.var rfl) (Op2.shrI k0)) Ev.int Op2.andI) Ev.int Cmp.eqI)
              case lo2 => rw [filter_intL]; exact all_small _
              case lo3 => rw [filter_intL]; exact filter_any _ _ hF3
            refine Tr.nil ?_
            refine Tr.nil ?_
            change Has _ _
            rw [hsum, hsm, hsig, hme, if_pos rfl]
            exact Has.cons rfl (Has.cons rfl (Has.cons rfl (Has.cons rfl (Has.cons rfl Has.nil))))
      case cd =>
        intro ρ2 hJ
        change Has ρ2 _ at hJ
        refine Tr.nil ?_
        refine Tr.has hJ ?_
        refine Tr.cons (TrS.ret (p := .bool true) ?_ rfl)
        have e1 : (choices lv).take (intL (choices lv)).length = choices lv := by unfold intL; rw [List.length_map, List.take_length]
        rw [e1, hFe]
        refine Ev.eqp (Ev.and (b := true) (Ev.cmp (Ev.var rfl) (Ev.callD (f := 215) (by walk_at "m_glob") (by walk_at "m_fun") (EvA.cons (Ev.var rfl) EvA.nil) (heaps_c B' (K'.less (by decide)) (by omega))) Cmp.eqI) ?cu (fun _ => Ev.var rfl)) rfl
        case cu => simp only [beq_self_eq_true]; exact Tru.bool
end

-- Q1
section
open PySem PySem.W PyProof.Rows PySem.Calls
set_option maxRecDepth 100000
set_option maxHeartbeats 4000000
noncomputable def digN (m : Nat) : List Nat := [1, 2, 3, 4, 5, 6].filter fun i => m.testBit (i - 1)
noncomputable def digS (m : Nat) : List Str := (digN m).map fun (i : Nat) => strI (i : Int)
noncomputable def Pm (m : Nat) : Str := sl ++ Txt.join sl (digS m)
noncomputable def goodB (p : Str) : Bool := Txt.startswith p sl && decide (p.length ≤ 20) && decide ((Builtin.Str.partsBetween p (Builtin.Str.occurrences p sl 0 p.length (p.length + 1)) sl.length).length ≤ 64) && decide ((Txt.split p sl).length ≤ 64) && (Txt.split p sl).all fun c => decide (c.length ≤ 64)
theorem t_good : ((List.range 64).all fun m => goodB (Pm m)) = true := by decide +kernel
theorem t_comps : ((List.range 64).all fun m => compsS (Pm m) == digS m) = true := by decide +kernel
theorem t_join : ((List.range 6).all fun i => (List.range (2 ^ i)).all fun m => joinS (Pm m) (strI ((i : Int) + 1)) == Pm (m + 2 ^ i)) = true := by decide +kernel
theorem t_dir : ((List.range 6).all fun i => (List.range (2 ^ i)).all fun m => dirS (Pm (m + 2 ^ i)) == Pm m) = true := by decide +kernel
theorem t_dir0 : dirS (Pm 0) = Pm 0 := by decide +kernel
noncomputable def decP (s : Str) : Nat := (s.cps.toList.map fun c => if 49 ≤ c && c ≤ 54 then 2 ^ (c - 49) else 0).sum
theorem t_dec : ((List.range 64).all fun m => decP (Pm m) == m) = true := by decide +kernel
theorem t_len : ((List.range 6).all fun i => (List.range (2 ^ i)).all fun m => decide ((Pm m).length < (Pm (m + 2 ^ i)).length)) = true := by decide +kernel
theorem t_p0 : Pm 0 = sl := by decide +kernel
/-- the order of the paths -/
noncomputable def valN (m : Nat) : Nat := ((digN m).foldl (fun (r : Nat × Nat) i => (r.1 + i * 7 ^ (5 - r.2), r.2 + 1)) (0, 0)).1
theorem t_lt : ((List.range 64).all fun m => (List.range 64).all fun k => lexLt (digS m) (digS k) == decide (valN m < valN k)) = true := by decide +kernel
theorem t_gt : ((List.range 64).all fun m => (List.range 64).all fun k => lexGt (digS m) (digS k) == decide (valN m > valN k)) = true := by decide +kernel
end

-- Q2
section
open PySem PySem.W PyProof.Rows PySem.Calls
set_option maxRecDepth 100000
set_option maxHeartbeats 4000000
noncomputable def cm (m k : Nat) : Nat := match (List.range 6).find? (fun i => m.testBit i != k.testBit i) with
  | none => m
  | some d => m % 2 ^ d
noncomputable def bl (c : Nat) : Nat := ((List.range 7).find? fun i => decide (c < 2 ^ i)).getD 6
noncomputable def pre (c m : Nat) : Bool := m % 2 ^ bl c == c
theorem t_cm : ((List.range 64).all fun m => (List.range 64).all fun k => !decide (valN m ≤ valN k) || commonPre (digS m) (digS k) == digS (cm m k)) = true := by decide +kernel
theorem t_cmp : ((List.range 64).all fun m => (List.range 64).all fun k => pre (cm m k) m && pre (cm m k) k && decide (cm m k < 64)) = true := by decide +kernel
theorem t_big : ((List.range 64).all fun a => ((List.range 64).filter (pre a)).all fun m => ((List.range 64).filter (pre a)).all fun k => pre a (cm m k)) = true := by decide +kernel
theorem t_iv : ((List.range 64).all fun c => (List.range 64).all fun m => pre c m == (decide (valN c ≤ valN m) && decide (valN m < valN c + 7 ^ (6 - (digN c).length)))) = true := by decide +kernel
theorem t_ord : ((List.range 64).all fun m => (List.range 64).all fun k => !decide (valN m ≤ valN k) || ((List.range (digN m).length).all fun i => !((digN m).take i == (digN k).take i) || decide (i < (digN k).length))) = true := by decide +kernel
noncomputable def decD (s : Str) : Nat := (s.cps.toList.map fun c => c - 48).sum
theorem t_decD : ((List.range 64).all fun m => (digS m).map decD == digN m) = true := by decide +kernel
theorem t_sizes : ((List.range 64).all fun m => decide ((digS m).length ≤ 6) && (List.range 7).all fun n => decide ((((digS m).take n).map (·.length)).sum ≤ 100) && decide ((Txt.join sl ((digS m).take n)).length ≤ 100)) = true := by decide +kernel
theorem all64 {f : Nat → Bool} (h : ((List.range 64).all f) = true) {m : Nat} (hm : m < 64) : f m = true := List.all_eq_true.mp h m (List.mem_range.mpr hm)
theorem all6464 {f : Nat → Nat → Bool} (h : ((List.range 64).all fun m => (List.range 64).all fun k => f m k) = true) {m k : Nat} (hm : m < 64) (hk : k < 64) : f m k = true := all64 (f := f m) (all64 (f := fun m => (List.range 64).all fun k => f m k) h hm) hk

theorem argBest_lo (f : Nat → Nat) : ∀ k i, i ≤ k → f (argBest (fun i j => decide (f i < f j)) k) ≤ f i
  | 0, i, h => by obtain rfl : i = 0 := by omega
                  exact Nat.le_refl _
  | k + 1, i, h => by
    have ih := argBest_lo f k
    unfold argBest
    split
    · rename_i q
      have q' : f (k + 1) < f (argBest (fun i j => decide (f i < f j)) k) := of_decide_eq_true q
      rcases Nat.lt_or_ge i (k + 1) with hi | hi
      · have := ih i (by omega); omega
      · obtain rfl : i = k + 1 := by omega
        exact Nat.le_refl _
    · rename_i q
      have q' : ¬ f (k + 1) < f (argBest (fun i j => decide (f i < f j)) k) := fun e => q (decide_eq_true e)
      rcases Nat.lt_or_ge i (k + 1) with hi | hi
      · exact ih i (by omega)
      · obtain rfl : i = k + 1 := by omega
        omega
theorem argBest_hi (f : Nat → Nat) : ∀ k i, i ≤ k → f i ≤ f (argBest (fun i j => decide (f i > f j)) k)
  | 0, i, h => by obtain rfl : i = 0 := by omega
                  exact Nat.le_refl _
  | k + 1, i, h => by
    have ih := argBest_hi f k
    unfold argBest
    split
    · rename_i q
      have q' : f (k + 1) > f (argBest (fun i j => decide (f i > f j)) k) := of_decide_eq_true q
      rcases Nat.lt_or_ge i (k + 1) with hi | hi
      · have := ih i (by omega); omega
      · obtain rfl : i = k + 1 := by omega
        exact Nat.le_refl _
    · rename_i q
      have q' : ¬ f (k + 1) > f (argBest (fun i j => decide (f i > f j)) k) := fun e => q (decide_eq_true e)
      rcases Nat.lt_or_ge i (k + 1) with hi | hi
      · exact ih i (by omega)
      · obtain rfl : i = k + 1 := by omega
        omega
theorem argBest_congr {bt bt' : Nat → Nat → Bool} : ∀ k, (∀ i j, i ≤ k → j ≤ k → bt i j = bt' i j) → argBest bt k = argBest bt' k
  | 0, _ => rfl
  | k + 1, h => by
    unfold argBest
    have ih := argBest_congr k (fun i j hi hj => h i j (by omega) (by omega))
    rw [ih, h (k + 1) (argBest bt' k) (Nat.le_refl _) (Nat.le_succ_of_le (argBest_le bt' k))]
end

-- Q3
section
open PySem PySem.W PyProof.Rows PySem.Calls
set_option maxRecDepth 100000
set_option maxHeartbeats 4000000
theorem getD_mem {α : Type} {l : List α} {i : Nat} {d : α} (h : i < l.length) : l.getD i d ∈ l := by
  rw [List.getD_eq_getElem?_getD, List.getElem?_eq_getElem h]; exact List.getElem_mem h
theorem getD_map {α β : Type} (f : α → β) {l : List α} {i : Nat} {d : α} {e : β} (h : i < l.length) : (l.map f).getD i e = f (l.getD i d) := by
  rw [List.getD_eq_getElem?_getD, List.getD_eq_getElem?_getD, List.getElem?_map, List.getElem?_eq_getElem h]; rfl
theorem ex_getD {α : Type} {l : List α} {x d : α} (h : x ∈ l) : ∃ i, i < l.length ∧ l.getD i d = x := by
  obtain ⟨i, hi, e⟩ := List.mem_iff_getElem.mp h
  exact ⟨i, hi, by rw [List.getD_eq_getElem?_getD, List.getElem?_eq_getElem hi, e]; rfl⟩
theorem min_of {ms : List Nat} (hne : ms ≠ []) (h64 : ∀ m ∈ ms, m < 64) : ∃ m1, m1 ∈ ms ∧ minLL (ms.map digS) = digS m1 ∧ ∀ m ∈ ms, valN m1 ≤ valN m := by
  have hpos : 0 < ms.length := List.length_pos_iff.mpr hne
  have e : argBest (fun i j => lexLt ((ms.map digS).getD i []) ((ms.map digS).getD j [])) (ms.length - 1) = argBest (fun i j => decide (valN (ms.getD i 0) < valN (ms.getD j 0))) (ms.length - 1) := argBest_congr _ fun i j hi hj => by
    rw [getD_map (d := 0) digS (by omega), getD_map (d := 0) digS (by omega)]
    exact beq_iff_eq.mp (all6464 t_lt (h64 _ (getD_mem (by omega))) (h64 _ (getD_mem (by omega))))
  have hb := argBest_le (fun i j => decide (valN (ms.getD i 0) < valN (ms.getD j 0))) (ms.length - 1)
  refine ⟨ms.getD (argBest (fun i j => decide (valN (ms.getD i 0) < valN (ms.getD j 0))) (ms.length - 1)) 0, getD_mem (by omega), ?_, fun m hm => ?_⟩
  · unfold minLL
    rw [List.length_map, e, getD_map (d := 0) digS (by omega)]
  · obtain ⟨i, hi, rfl⟩ := ex_getD (d := 0) hm
    exact argBest_lo (fun i => valN (ms.getD i 0)) _ i (by omega)
theorem max_of {ms : List Nat} (hne : ms ≠ []) (h64 : ∀ m ∈ ms, m < 64) : ∃ m1, m1 ∈ ms ∧ maxLL (ms.map digS) = digS m1 ∧ ∀ m ∈ ms, valN m ≤ valN m1 := by
  have hpos : 0 < ms.length := List.length_pos_iff.mpr hne
  have e : argBest (fun i j => lexGt ((ms.map digS).getD i []) ((ms.map digS).getD j [])) (ms.length - 1) = argBest (fun i j => decide (valN (ms.getD i 0) > valN (ms.getD j 0))) (ms.length - 1) := argBest_congr _ fun i j hi hj => by
    rw [getD_map (d := 0) digS (by omega), getD_map (d := 0) digS (by omega)]
    exact beq_iff_eq.mp (all6464 t_gt (h64 _ (getD_mem (by omega))) (h64 _ (getD_mem (by omega))))
  have hb := argBest_le (fun i j => decide (valN (ms.getD i 0) > valN (ms.getD j 0))) (ms.length - 1)
  refine ⟨ms.getD (argBest (fun i j => decide (valN (ms.getD i 0) > valN (ms.getD j 0))) (ms.length - 1)) 0, getD_mem (by omega), ?_, fun m hm => ?_⟩
  · unfold maxLL
    rw [List.length_map, e, getD_map (d := 0) digS (by omega)]
  · obtain ⟨i, hi, rfl⟩ := ex_getD (d := 0) hm
    exact argBest_hi (fun i => valN (ms.getD i 0)) _ i (by omega)
theorem comps_map {ms : List Nat} (h64 : ∀ m ∈ ms, m < 64) : (ms.map Pm).map compsS = ms.map digS := by
  rw [List.map_map]
  exact List.map_congr_left fun m hm => beq_iff_eq.mp (all64 t_comps (h64 m hm))
theorem good_of {m : Nat} (h : m < 64) : GoodP (Pm m) ∧ (Pm m).length ≤ 20 := by
  have := all64 t_good h
  unfold goodB at this
  simp only [Bool.and_eq_true, decide_eq_true_eq] at this
  obtain ⟨⟨⟨⟨h1, h2⟩, h3⟩, h4⟩, h5⟩ := this
  exact ⟨⟨h1, by omega, h3, h4, fun c hc => of_decide_eq_true (List.all_eq_true.mp h5 c hc)⟩, h2⟩
theorem cp_main {ms : List Nat} (hne : ms ≠ []) (h64 : ∀ m ∈ ms, m < 64) : CpOk (ms.map Pm) ∧ ∃ c, c < 64 ∧ cpS (ms.map Pm) = Pm c ∧ (∀ m ∈ ms, pre c m = true) ∧ ∀ a, a < 64 → (∀ m ∈ ms, pre a m = true) → pre a c = true := by
  obtain ⟨m1, hm1, e1, l1⟩ := min_of hne h64
  obtain ⟨m2, hm2, e2, l2⟩ := max_of hne h64
  have s1 := h64 m1 hm1
  have s2 := h64 m2 hm2
  have hle : valN m1 ≤ valN m2 := l1 m2 hm2
  have ec := comps_map h64
  have hsz := all64 t_sizes s1
  rw [Bool.and_eq_true, decide_eq_true_eq] at hsz
  have tk : ∀ n, ∃ n', n' < 7 ∧ (digS m1).take n = (digS m1).take n' := fun n => by
    rcases Nat.lt_or_ge n 7 with h | h
    · exact ⟨n, h, rfl⟩
    · exact ⟨6, by decide, by rw [List.take_of_length_le (by omega), List.take_of_length_le (by omega)]⟩
  have hsz2 : ∀ n, (((digS m1).take n).map (·.length)).sum ≤ 100 ∧ (Txt.join sl ((digS m1).take n)).length ≤ 100 := fun n => by
    obtain ⟨n', hn, e⟩ := tk n
    have := List.all_eq_true.mp hsz.2 n' (List.mem_range.mpr hn)
    rw [Bool.and_eq_true, decide_eq_true_eq, decide_eq_true_eq] at this
    rw [e]; exact this
  refine ⟨⟨fun p hp => ?_, ?_, ?_, fun n => ?_, fun n => ?_⟩, cm m1 m2, ?_, ?_, fun m hm => ?_, fun a ha hp => ?_⟩
  · obtain ⟨m, hm, rfl⟩ := List.mem_map.mp hp
    exact (good_of (h64 m hm)).1
  · rw [ec, e1, e2]
    intro i hi hj
    have h3 := all6464 t_ord s1 s2
    rw [decide_eq_true hle, Bool.not_true, Bool.false_or] at h3
    have dl : ∀ m, (digS m).length = (digN m).length := fun m => by unfold digS; rw [List.length_map]
    rw [dl] at hi
    have h4 := List.all_eq_true.mp h3 i (List.mem_range.mpr hi)
    rw [dl]
    have et : (digN m1).take i = (digN m2).take i := by
      rw [← beq_iff_eq.mp (all64 t_decD s1), ← beq_iff_eq.mp (all64 t_decD s2), ← List.map_take, ← List.map_take]
      congr 1
      apply List.ext_getElem?
      intro j
      rw [List.getElem?_take, List.getElem?_take]
      split
      · rename_i q; exact hj j q
      · rfl
    rw [beq_iff_eq.mpr et, Bool.not_true, Bool.false_or] at h4
    exact of_decide_eq_true h4
  · rw [ec, e1]; omega
  · rw [ec, e1]; have := (hsz2 n).1; omega
  · rw [ec, e1]; have := (hsz2 n).2; omega
  · have := all6464 t_cmp s1 s2
    rw [Bool.and_eq_true, decide_eq_true_eq] at this
    exact this.2
  · unfold cpS
    rw [ec, e1, e2]
    have := all6464 t_cm s1 s2
    rw [decide_eq_true hle, Bool.not_true, Bool.false_or] at this
    rw [beq_iff_eq.mp this]; rfl
  · have h1 := all6464 t_cmp s1 s2
    rw [Bool.and_eq_true, Bool.and_eq_true, decide_eq_true_eq] at h1
    obtain ⟨⟨p1, p2⟩, pc⟩ := h1
    have i1 := beq_iff_eq.mp (all6464 t_iv pc s1)
    have i2 := beq_iff_eq.mp (all6464 t_iv pc s2)
    have i3 := beq_iff_eq.mp (all6464 t_iv pc (h64 m hm))
    rw [p1] at i1
    rw [p2] at i2
    rw [i3]
    have i1' := Bool.and_eq_true_iff.mp i1.symm
    have i2' := Bool.and_eq_true_iff.mp i2.symm
    have a1 := of_decide_eq_true i1'.1
    have a2 := of_decide_eq_true i2'.2
    have b1 := l1 m hm
    have b2 := l2 m hm
    rw [Bool.and_eq_true, decide_eq_true_eq, decide_eq_true_eq]
    omega
  · have := all64 t_big ha
    exact List.all_eq_true.mp (List.all_eq_true.mp this m1 (List.mem_filter.mpr ⟨List.mem_range.mpr s1, hp m1 hm1⟩)) m2 (List.mem_filter.mpr ⟨List.mem_range.mpr s2, hp m2 hm2⟩)
end

-- Q4
section
open PySem PySem.W PyProof.Rows PySem.Calls
set_option maxRecDepth 100000
set_option maxHeartbeats 4000000
/-- a tree of seven: who lies in whom -/
structure Tree (par : Nat → Nat) : Prop where
  lt : ∀ k, 1 ≤ k → k < 7 → par k < k
noncomputable def pmF (par : Nat → Nat) : Nat → Nat → Nat
  | 0, _ => 0
  | f + 1, k => if k = 0 then 0 else pmF par f (par k) + 2 ^ (k - 1)
noncomputable def pm (par : Nat → Nat) (k : Nat) : Nat := pmF par (k + 1) k
/-- a lies on k's way -/
noncomputable def An (par : Nat → Nat) (a k : Nat) : Prop := pm par k % 2 ^ a = pm par a
theorem t_bl : ((List.range 64).all fun c => decide (c < 2 ^ bl c) && decide (bl c ≤ 6) && (c == 0 || decide (2 ^ (bl c - 1) ≤ c && 1 ≤ bl c))) = true := by decide +kernel
theorem bl_of {c : Nat} (h : c < 64) : c < 2 ^ bl c ∧ bl c ≤ 6 ∧ (c ≠ 0 → 1 ≤ bl c ∧ 2 ^ (bl c - 1) ≤ c) := by
  have := all64 t_bl h
  simp only [Bool.and_eq_true, decide_eq_true_eq, Bool.or_eq_true, beq_iff_eq] at this
  obtain ⟨⟨h1, h2⟩, h3⟩ := this
  exact ⟨h1, h2, fun q => ⟨(h3.resolve_left q).2, (h3.resolve_left q).1⟩⟩
section
variable {par : Nat → Nat}
theorem pmF_eq (T : Tree par) : ∀ f f' k, k < 7 → k < f → k < f' → pmF par f k = pmF par f' k
  | 0, _, _, _, h, _ => absurd h (Nat.not_lt_zero _)
  | _ + 1, 0, _, _, _, h => absurd h (Nat.not_lt_zero _)
  | f + 1, f' + 1, k, h7, h1, h2 => by
    unfold pmF
    split
    · rfl
    · rename_i h0
      have := T.lt k (by omega) h7
      rw [pmF_eq T f f' (par k) (by omega) (by omega) (by omega)]
theorem pm_zero : pm par 0 = 0 := rfl
theorem pm_succ (T : Tree par) {k : Nat} (h1 : 1 ≤ k) (h7 : k < 7) : pm par k = pm par (par k) + 2 ^ (k - 1) := by
  have := T.lt k h1 h7
  show pmF par (k + 1) k = _
  rw [pmF, if_neg (by omega)]
  congr 1
  exact pmF_eq T _ _ _ (by omega) (by omega) (by omega)
theorem pm_lt (T : Tree par) : ∀ n k, k < n → k < 7 → pm par k < 2 ^ k
  | 0, _, h, _ => absurd h (Nat.not_lt_zero _)
  | n + 1, k, h, h7 => by
    rcases Nat.eq_zero_or_pos k with rfl | h1
    · rw [pm_zero]; decide
    · rw [pm_succ T h1 h7]
      have hp := T.lt k h1 h7
      have := pm_lt T n (par k) (by omega) (by omega)
      have h2 : 2 ^ par k ≤ 2 ^ (k - 1) := Nat.pow_le_pow_right (by decide) (by omega)
      have h3 : 2 ^ k = 2 ^ (k - 1) + 2 ^ (k - 1) := by
        obtain ⟨j, rfl⟩ : ∃ j, k = j + 1 := ⟨k - 1, by omega⟩
        rw [Nat.add_sub_cancel, Nat.pow_succ]; omega
      omega
theorem pm_lt' (T : Tree par) {k : Nat} (h7 : k < 7) : pm par k < 2 ^ k := pm_lt T (k + 1) k (Nat.lt_succ_self _) h7
theorem pm_ge (T : Tree par) {k : Nat} (h1 : 1 ≤ k) (h7 : k < 7) : 2 ^ (k - 1) ≤ pm par k := by
  rw [pm_succ T h1 h7]; omega
theorem pm_64 (T : Tree par) {k : Nat} (h7 : k < 7) : pm par k < 64 := by
  have := pm_lt' T h7
  have : 2 ^ k ≤ 2 ^ 6 := Nat.pow_le_pow_right (by decide) (by omega)
  omega
theorem bl_pm (T : Tree par) {k : Nat} (h7 : k < 7) : bl (pm par k) = k := by
  obtain ⟨b1, b2, b3⟩ := bl_of (pm_64 T h7)
  rcases Nat.eq_zero_or_pos k with rfl | h1
  · rw [pm_zero]; decide
  · have h2 := pm_ge T h1 h7
    have h3 := pm_lt' T h7
    have hp : 0 < 2 ^ (k - 1) := Nat.pow_pos (by decide)
    obtain ⟨b4, b5⟩ := b3 (by omega)
    rcases Nat.lt_trichotomy (bl (pm par k)) k with h | h | h
    · have : 2 ^ bl (pm par k) ≤ 2 ^ (k - 1) := Nat.pow_le_pow_right (by decide) (by omega)
      omega
    · exact h
    · have : 2 ^ k ≤ 2 ^ (bl (pm par k) - 1) := Nat.pow_le_pow_right (by decide) (by omega)
      omega
theorem pm_inj (T : Tree par) {a b : Nat} (ha : a < 7) (hb : b < 7) (h : pm par a = pm par b) : a = b := by
  rw [← bl_pm T ha, ← bl_pm T hb, h]
theorem pre_pm (T : Tree par) {a k : Nat} (ha : a < 7) : pre (pm par a) (pm par k) = true ↔ An par a k := by
  unfold pre An
  rw [bl_pm T ha, beq_iff_eq]
theorem An.refl (T : Tree par) {k : Nat} (h7 : k < 7) : An par k k := Nat.mod_eq_of_lt (pm_lt' T h7)
theorem An.le (T : Tree par) {a k : Nat} (ha : a < 7) (hk : k < 7) (h : An par a k) : a ≤ k := by
  rcases Nat.lt_or_ge k a with q | q
  · exfalso
    unfold An at h
    have h1 := pm_lt' T hk
    have h2 := pm_ge T (k := a) (by omega) ha
    have : 2 ^ k ≤ 2 ^ (a - 1) := Nat.pow_le_pow_right (by decide) (by omega)
    have h3 := Nat.mod_le (pm par k) (2 ^ a)
    omega
  · exact q
theorem An.chain {a b k : Nat} (hab : a ≤ b) (ha : An par a k) (hb : An par b k) : An par a b := by
  unfold An at ha hb ⊢
  rw [← hb, Nat.mod_mod_of_dvd _ (Nat.pow_dvd_pow 2 hab)]
  exact ha
theorem An.trans {a b k : Nat} (hab : a ≤ b) (h1 : An par a b) (h2 : An par b k) : An par a k := by
  unfold An at h1 h2 ⊢
  rw [← h2, Nat.mod_mod_of_dvd _ (Nat.pow_dvd_pow 2 hab)] at h1
  exact h1
theorem pm_mod (T : Tree par) {a k : Nat} (hak : a < k) (h7 : k < 7) : pm par k % 2 ^ a = pm par (par k) % 2 ^ a := by
  rw [pm_succ T (by omega) h7]
  obtain ⟨j, hj⟩ : ∃ j, k - 1 = a + j := ⟨k - 1 - a, by omega⟩
  rw [hj, Nat.pow_add, Nat.add_mul_mod_self_left]
theorem An.ofPar (T : Tree par) {k : Nat} (h1 : 1 ≤ k) (h7 : k < 7) : An par (par k) k := by
  have := T.lt k h1 h7
  unfold An
  rw [pm_mod T this h7, Nat.mod_eq_of_lt (pm_lt' T (by omega))]
theorem An.up (T : Tree par) {a k : Nat} (hak : a < k) (h7 : k < 7) (h : An par a k) : An par a (par k) := by
  unfold An at h ⊢
  rw [← pm_mod T hak h7]; exact h
theorem An.down (T : Tree par) {a k : Nat} (hak : a < k) (h7 : k < 7) (h : An par a (par k)) : An par a k := by
  unfold An at h ⊢
  rw [pm_mod T hak h7]; exact h
/-- each beginning of a way is a node's way -/
theorem pre_node (T : Tree par) {c : Nat} (hc : c < 64) : ∀ n h, h < n → h < 7 → pre c (pm par h) = true → c = pm par (bl c) ∧ bl c ≤ h
  | 0, _, h, _, _ => absurd h (Nat.not_lt_zero _)
  | n + 1, h, hn, h7, hp => by
    obtain ⟨b1, b2, b3⟩ := bl_of hc
    have hp' : pm par h % 2 ^ bl c = c := beq_iff_eq.mp hp
    rcases Nat.lt_or_ge (bl c) h with q | q
    · have hlt := T.lt h (by omega) h7
      rw [pm_mod T q h7] at hp'
      obtain ⟨e1, e2⟩ := pre_node T hc n (par h) (by omega) (by omega) (beq_iff_eq.mpr hp')
      exact ⟨e1, by omega⟩
    · have : 2 ^ h ≤ 2 ^ bl c := Nat.pow_le_pow_right (by decide) q
      rw [Nat.mod_eq_of_lt (by have := pm_lt' T h7; omega)] at hp'
      have e : bl c = h := by rw [← hp', bl_pm T h7]
      exact ⟨by rw [e]; exact hp'.symm, by omega⟩
/-- the lowest folder that they all lie in -/
theorem top_of (T : Tree par) {H : List Nat} (hne : H ≠ []) (h7 : ∀ h ∈ H, h < 7) :
    CpOk (H.map fun h => Pm (pm par h)) ∧ ∃ t, t < 7 ∧ cpS (H.map fun h => Pm (pm par h)) = Pm (pm par t) ∧ (∀ h ∈ H, An par t h) ∧ ∀ a, a < 7 → (∀ h ∈ H, An par a h) → An par a t := by
  have e : (H.map fun h => Pm (pm par h)) = (H.map (pm par)).map Pm := by rw [List.map_map]; rfl
  have h64 : ∀ m ∈ H.map (pm par), m < 64 := fun m hm => by
    obtain ⟨h, hh, rfl⟩ := List.mem_map.mp hm
    exact pm_64 T (h7 h hh)
  obtain ⟨ok, c, c64, hc, hpre, hbig⟩ := cp_main (ms := H.map (pm par)) (by simpa using hne) h64
  rw [e]
  obtain ⟨h0, hh0⟩ := List.exists_mem_of_ne_nil H hne
  obtain ⟨e1, e2⟩ := pre_node T c64 (h0 + 1) h0 (Nat.lt_succ_self _) (h7 h0 hh0) (hpre _ (List.mem_map_of_mem hh0))
  have b2 := (bl_of c64).2.1
  refine ⟨ok, bl c, by omega, by rw [hc, ← e1], fun h hh => ?_, fun a ha hall => ?_⟩
  · have := hpre _ (List.mem_map_of_mem hh)
    rw [e1] at this
    exact (pre_pm T (by omega)).mp this
  · have := hbig (pm par a) (pm_64 T ha) fun m hm => by
      obtain ⟨h, hh, rfl⟩ := List.mem_map.mp hm
      exact (pre_pm T ha).mpr (hall h hh)
    rw [e1] at this
    exact (pre_pm T ha).mp this
theorem dir_of (T : Tree par) {k : Nat} (h1 : 1 ≤ k) (h7 : k < 7) : dirS (Pm (pm par k)) = Pm (pm par (par k)) := by
  have hp := T.lt k h1 h7
  have hl := pm_lt' T (k := par k) (by omega)
  have hle : 2 ^ par k ≤ 2 ^ (k - 1) := Nat.pow_le_pow_right (by decide) (by omega)
  rw [pm_succ T h1 h7]
  exact beq_iff_eq.mp (List.all_eq_true.mp (List.all_eq_true.mp t_dir (k - 1) (List.mem_range.mpr (by omega))) (pm par (par k)) (List.mem_range.mpr (by omega)))
theorem join_of (T : Tree par) {k : Nat} (h1 : 1 ≤ k) (h7 : k < 7) : joinS (Pm (pm par (par k))) (strI (k : Int)) = Pm (pm par k) := by
  have hp := T.lt k h1 h7
  have hl := pm_lt' T (k := par k) (by omega)
  have hle : 2 ^ par k ≤ 2 ^ (k - 1) := Nat.pow_le_pow_right (by decide) (by omega)
  rw [pm_succ T h1 h7]
  have := beq_iff_eq.mp (List.all_eq_true.mp (List.all_eq_true.mp t_join (k - 1) (List.mem_range.mpr (by omega))) (pm par (par k)) (List.mem_range.mpr (by omega)))
  rw [← this]
  congr 1
  have : ((k - 1 : Nat) : Int) + 1 = (k : Int) := by omega
  rw [this]
theorem Pm_inj {m k : Nat} (hm : m < 64) (hk : k < 64) (h : Pm m = Pm k) : m = k := by
  rw [← beq_iff_eq.mp (all64 t_dec hm), ← beq_iff_eq.mp (all64 t_dec hk), h]
theorem len_up (T : Tree par) {k : Nat} (h1 : 1 ≤ k) (h7 : k < 7) : (Pm (pm par (par k))).length < (Pm (pm par k)).length := by
  have hp := T.lt k h1 h7
  have hl := pm_lt' T (k := par k) (by omega)
  have hle : 2 ^ par k ≤ 2 ^ (k - 1) := Nat.pow_le_pow_right (by decide) (by omega)
  rw [pm_succ T h1 h7]
  exact of_decide_eq_true (List.all_eq_true.mp (List.all_eq_true.mp t_len (k - 1) (List.mem_range.mpr (by omega))) (pm par (par k)) (List.mem_range.mpr (by omega)))
theorem len_An (T : Tree par) : ∀ n a k, k < n → a < 7 → k < 7 → An par a k → a ≠ k → (Pm (pm par a)).length < (Pm (pm par k)).length
  | 0, _, _, h, _, _, _, _ => absurd h (Nat.not_lt_zero _)
  | n + 1, a, k, hn, ha, h7, h, hne => by
    have hle := An.le T ha h7 h
    have hp := T.lt k (by omega) h7
    have := len_up T (k := k) (by omega) h7
    by_cases q : a = par k
    · rw [q]; exact this
    · have := len_An T n a (par k) (by omega) ha (by omega) (An.up T (by omega) h7 h) q
      omega
end
end

-- Q5
section
open PySem PySem.W PyProof.Rows PySem.Calls
set_option maxRecDepth 100000
set_option maxHeartbeats 4000000
/-- a node's way -/
noncomputable def wy (par : Nat → Nat) (k : Nat) : Str := Pm (pm par k)
section
variable {par : Nat → Nat}
theorem wy_inj (T : Tree par) {a b : Nat} (ha : a < 7) (hb : b < 7) (h : wy par a = wy par b) : a = b := pm_inj T ha hb (Pm_inj (pm_64 T ha) (pm_64 T hb) h)
theorem climb_of (T : Tree par) {t : Nat} (ht : t < 7) : ∀ n h (acc : List Str), h < 7 → An par t h → h - t ≤ n → acc.length + (h - t) ≤ 60 →
    ∃ l : List Nat, climbN n (wy par t) (wy par h) acc = acc ++ l.map (wy par) ∧ l.length ≤ h - t ∧ (∀ k ∈ l, k < 7) ∧ ∀ k, k < 7 → (k ∈ l ↔ An par k h ∧ t < k)
  | n, h, acc, h7, hA, hn, hacc => by
    by_cases q : h = t
    · subst q
      refine ⟨[], ?_, by simp, by simp, fun k hk => ⟨fun e => by simp at e, fun e => ?_⟩⟩
      · cases n with
        | zero => simp [climbN]
        | succ n =>
          rw [climbN, neS_eq]
          simp
      · have := An.le T hk h7 e.1; omega
    · have hle := An.le T ht h7 hA
      obtain ⟨m, rfl⟩ : ∃ m, n = m + 1 := ⟨n - 1, by omega⟩
      have hlt := T.lt h (by omega) h7
      have hA' := An.up T (by omega) h7 hA
      have hle' := An.le T ht (by omega) hA'
      obtain ⟨l, e, hl, hl7, hm⟩ := climb_of T ht m (par h) (acc ++ [wy par h]) (by omega) hA' (by omega) (by simp; omega)
      refine ⟨h :: l, ?_, by simp; omega, fun k hk => (List.mem_cons.mp hk).elim (fun e => e ▸ h7) (hl7 k), fun k hk => ?_⟩
      · rw [climbN, neS_eq, if_pos]
        · have : dirS (wy par h) = wy par (par h) := dir_of T (by omega) h7
          rw [this, e]
          simp
        · rw [Bool.and_eq_true, bne_iff_ne, decide_eq_true_eq]
          exact ⟨fun e => q (wy_inj T h7 ht e), by omega⟩
      · rw [List.mem_cons]
        constructor
        · rintro (rfl | hk')
          · exact ⟨An.refl T h7, by omega⟩
          · obtain ⟨a1, a2⟩ := (hm k hk).mp hk'
            have := An.le T hk (by omega) a1
            exact ⟨An.down T (by omega) h7 a1, a2⟩
        · rintro ⟨a1, a2⟩
          by_cases q2 : k = h
          · exact .inl q2
          · have := An.le T hk h7 a1
            exact .inr ((hm k hk).mpr ⟨An.up T (by omega) h7 a1, a2⟩)
theorem climbs_of (T : Tree par) {t : Nat} (ht : t < 7) : ∀ (H : List Nat) (acc : List Str), (∀ h ∈ H, h < 7 ∧ An par t h) → acc.length + 6 * H.length ≤ 60 →
    ∃ l : List Nat, (H.map (wy par)).foldl (fun acc way => climbN 60 (wy par t) way acc) acc = acc ++ l.map (wy par) ∧ (∀ k ∈ l, k < 7) ∧ ∀ k, k < 7 → (k ∈ l ↔ ∃ h ∈ H, An par k h ∧ t < k)
  | [], acc, _, _ => ⟨[], by simp, by simp, fun k _ => by simp⟩
  | h :: H, acc, hH, hlen => by
    obtain ⟨h7, hA⟩ := hH h List.mem_cons_self
    rw [List.length_cons] at hlen
    obtain ⟨l1, e1, hl1, hl7, hm1⟩ := climb_of T ht 60 h acc h7 hA (by omega) (by omega)
    obtain ⟨l2, e2, h72, hm2⟩ := climbs_of T ht H (acc ++ l1.map (wy par)) (fun x hx => hH x (List.mem_cons_of_mem _ hx)) (by rw [List.length_append, List.length_map]; omega)
    refine ⟨l1 ++ l2, ?_, fun k hk => ?_, fun k hk => ?_⟩
    · rw [List.map_cons, List.foldl_cons, e1, e2]; simp
    · rcases List.mem_append.mp hk with q | q
      · exact hl7 k q
      · exact h72 k q
    · rw [List.mem_append, hm1 k hk, hm2 k hk]
      constructor
      · rintro (q | ⟨x, hx, q⟩)
        · exact ⟨h, List.mem_cons_self, q⟩
        · exact ⟨x, List.mem_cons_of_mem _ hx, q⟩
      · rintro ⟨x, hx, q⟩
        rcases List.mem_cons.mp hx with rfl | hx
        · exact .inl q
        · exact .inr ⟨x, hx, q⟩
end
/-- dict.fromkeys -/
theorem fk_of (xs : List Str) : ((fkPairs xs).map (·.1)).Nodup ∧ ∀ x, x ∈ (fkPairs xs).map (·.1) ↔ x ∈ xs := by
  have key : ∀ (xs : List Str) (kvs : List (Str × Value)), (kvs.map (·.1)).Nodup → ((xs.foldl (fun kvs x => stored kvs x Value.none) kvs).map (·.1)).Nodup ∧ ∀ x, x ∈ (xs.foldl (fun kvs x => stored kvs x Value.none) kvs).map (·.1) ↔ x ∈ kvs.map (·.1) ∨ x ∈ xs := by
    intro xs
    induction xs with
    | nil => intro kvs h; exact ⟨h, fun x => by simp⟩
    | cons y xs ih =>
      intro kvs h
      have hst : ((stored kvs y Value.none).map (·.1)).Nodup ∧ ∀ x, x ∈ (stored kvs y Value.none).map (·.1) ↔ x ∈ kvs.map (·.1) ∨ x = y := by
        unfold stored
        split
        · rename_i q
          have e : (kvs.map fun kv => if kv.1 = y then (kv.1, Value.none) else kv).map (·.1) = kvs.map (·.1) := by
            rw [List.map_map]
            exact List.map_congr_left fun kv _ => by simp only [Function.comp]; split <;> rfl
          rw [e]
          refine ⟨h, fun x => ⟨.inl, ?_⟩⟩
          rintro (q2 | rfl)
          · exact q2
          · obtain ⟨kv, hkv, e2⟩ := List.any_eq_true.mp q
            exact List.mem_map.mpr ⟨kv, hkv, of_decide_eq_true e2⟩
        · rename_i q
          rw [List.map_append]
          refine ⟨List.nodup_append.mpr ⟨h, by simp, fun a ha b hb => ?_⟩, fun x => by simp⟩
          obtain rfl : b = y := by simpa using hb
          rintro rfl
          obtain ⟨kv, hkv, e2⟩ := List.mem_map.mp ha
          exact q (List.any_eq_true.mpr ⟨kv, hkv, decide_eq_true e2⟩)
      obtain ⟨n1, m1⟩ := hst
      obtain ⟨n2, m2⟩ := ih _ n1
      refine ⟨n2, fun x => ?_⟩
      rw [List.foldl_cons, m2, m1, List.mem_cons]
      constructor
      · rintro ((a | a) | a)
        · exact .inl a
        · exact .inr (.inl a)
        · exact .inr (.inr a)
      · rintro (a | a | a)
        · exact .inl (.inl a)
        · exact .inl (.inr a)
        · exact .inr a
  obtain ⟨a, b⟩ := key xs [] (by simp)
  exact ⟨a, fun x => by rw [show fkPairs xs = xs.foldl (fun kvs x => stored kvs x Value.none) [] from rfl, b]; simp⟩
/-- the folders in which a right lives -/
theorem lives_of {par : Nat → Nat} (T : Tree par) {H : List Nat} (hne : H ≠ []) (h7 : ∀ h ∈ H, h < 7) (hlen : H.length ≤ 7) :
    CpOk (H.map (wy par)) ∧ ∃ t, t < 7 ∧ (∀ h ∈ H, An par t h) ∧ (∀ a, a < 7 → (∀ h ∈ H, An par a h) → An par a t) ∧ (livesS (H.map (wy par))).Nodup ∧
      (∀ x, x ∈ livesS (H.map (wy par)) ↔ ∃ k, k < 7 ∧ x = wy par k ∧ t ≤ k ∧ ∃ h ∈ H, An par k h) ∧ (livesS (H.map (wy par))).getLastD Str.empty = wy par t ∧ (livesS (H.map (wy par))).isEmpty = false := by
  obtain ⟨ok, t, ht, hcp, hAll, hBig⟩ := top_of T hne h7
  refine ⟨ok, t, ht, hAll, hBig, ?_⟩
  have hcp' : cpS (H.map (wy par)) = wy par t := hcp
  obtain ⟨l, e, hl7, hm⟩ := climbs_of T ht H [] (fun h hh => ⟨h7 h hh, hAll h hh⟩) (by simp; omega)
  obtain ⟨n1, m1⟩ := fk_of ((H.map (wy par)).foldl (fun acc way => climbN 60 (wy par t) way acc) [])
  have hL : livesS (H.map (wy par)) = ((fkPairs ((H.map (wy par)).foldl (fun acc way => climbN 60 (wy par t) way acc) [])).map (·.1)) ++ [wy par t] := by
    unfold livesS
    rw [if_neg, hcp']
    cases H with
    | nil => exact absurd rfl hne
    | cons _ _ => simp
  rw [hL]
  generalize (fkPairs ((H.map (wy par)).foldl (fun acc way => climbN 60 (wy par t) way acc) [])).map (·.1) = K at n1 m1
  rw [e, List.nil_append] at m1
  obtain ⟨h0, hh0⟩ := List.exists_mem_of_ne_nil H hne
  refine ⟨List.nodup_append.mpr ⟨n1, by simp, fun a ha b hb => ?_⟩, fun x => ?_, ?_, ?_⟩
  · obtain rfl : b = wy par t := by simpa using hb
    rintro rfl
    obtain ⟨k, hk, e2⟩ := List.mem_map.mp ((m1 _).mp ha)
    obtain rfl := wy_inj T (hl7 k hk) ht e2
    obtain ⟨_, _, _, q⟩ := (hm _ ht).mp hk
    omega
  · rw [List.mem_append, m1, List.mem_map, List.mem_singleton]
    constructor
    · rintro (⟨k, hk, rfl⟩ | rfl)
      · obtain ⟨h, hh, a1, a2⟩ := (hm k (hl7 k hk)).mp hk
        exact ⟨k, hl7 k hk, rfl, by omega, h, hh, a1⟩
      · exact ⟨t, ht, rfl, Nat.le_refl _, h0, hh0, hAll h0 hh0⟩
    · rintro ⟨k, hk, rfl, htk, h, hh, hA⟩
      rcases Nat.lt_or_ge t k with q | q
      · exact .inl ⟨k, (hm k hk).mpr ⟨h, hh, hA, q⟩, rfl⟩
      · obtain rfl : k = t := by omega
        exact .inr rfl
  · simp
  · simp
/-- two lists without doubles compared -/
theorem ded_nodup {a : List Str} (h : a.Nodup) : dedStr a = a := by
  have key : ∀ (a acc : List Str), (acc ++ a).Nodup → a.foldl (fun acc x => if acc.any (fun q => q == x) then acc else acc ++ [x]) acc = acc ++ a := by
    intro a
    induction a with
    | nil => intro acc _; simp
    | cons x a ih =>
      intro acc h
      rw [List.foldl_cons, if_neg]
      · rw [ih _ (by simpa using h)]; simp
      · intro q
        obtain ⟨y, hy, e⟩ := List.any_eq_true.mp q
        obtain rfl := beq_iff_eq.mp e
        exact (List.nodup_append.mp h).2.2 y hy y List.mem_cons_self rfl
  have := key a [] (by simpa using h)
  simpa [dedStr] using this
theorem rem_iff : ∀ {a b : List Str}, a.Nodup → b.Nodup → (remAll a b = some [] ↔ ∀ x, x ∈ a ↔ x ∈ b)
  | [], b, _, _ => by
    constructor
    · intro h; cases h; intro x; exact Iff.rfl
    · intro h
      cases b with
      | nil => rfl
      | cons y b => exact absurd ((h y).mpr List.mem_cons_self) (by simp)
  | x :: a, b, ha, hb => by
    rw [List.nodup_cons] at ha
    unfold remAll
    split
    · rename_i q
      rw [rem_iff ha.2 (hb.erase x)]
      constructor
      · intro h y
        rw [List.mem_cons, h y, hb.mem_erase_iff]
        constructor
        · rintro (rfl | q2)
          · exact q
          · exact q2.2
        · intro hy
          by_cases e : y = x
          · exact .inl e
          · exact .inr ⟨e, hy⟩
      · intro h y
        rw [hb.mem_erase_iff, ← h y, List.mem_cons]
        constructor
        · intro hy; exact ⟨fun e => ha.1 (e ▸ hy), .inr hy⟩
        · rintro ⟨e, q2⟩; exact q2.resolve_left e
    · rename_i q
      constructor
      · intro h; cases h
      · intro h; exact absurd ((h x).mp List.mem_cons_self) q
theorem cmp_iff {a b : List Str} (ha : a.Nodup) (hb : b.Nodup) : cmpS a b = true ↔ ∀ x, x ∈ a ↔ x ∈ b := by
  unfold cmpS
  rw [ded_nodup ha, ded_nodup hb, beq_iff_eq, rem_iff ha hb]
end

-- Q6
section
open PySem PySem.W PyProof.Rows PySem.Calls
set_option maxRecDepth 100000
set_option maxHeartbeats 4000000
section
variable {par : Nat → Nat}
noncomputable def Dn (par : Nat → Nat) (i x h : Nat) : Prop := An par x h ∧ (x ≤ i → ∀ y, y < 7 → An par y h → y ≤ i → y ≤ x)
open Classical in
noncomputable def cn (par : Nat → Nat) (H : List Nat) (i x : Nat) : Nat := H.countP fun h => decide (Dn par i x h)
theorem Dn.six (T : Tree par) {x h : Nat} (hx : x < 7) (h7 : h < 7) : Dn par 6 x h ↔ x = h := by
  constructor
  · rintro ⟨a, b⟩
    have := b (by omega) h h7 (An.refl T h7) (by omega)
    have := An.le T hx h7 a
    omega
  · rintro rfl
    exact ⟨An.refl T hx, fun _ y hy a _ => An.le T hy hx a⟩
theorem Dn.nil (T : Tree par) {x h : Nat} : Dn par 0 x h ↔ An par x h := by
  constructor
  · exact fun a => a.1
  · exact fun a => ⟨a, fun _ y _ _ q => by omega⟩
theorem Dn.other (T : Tree par) {i x h : Nat} (hi : i + 1 < 7) (hx : x < 7) (h7 : h < 7) (hne : x ≠ par (i + 1)) : Dn par i x h ↔ Dn par (i + 1) x h := by
  have hp := T.lt (i + 1) (by omega) hi
  constructor
  · rintro ⟨a, b⟩
    refine ⟨a, fun hxi y hy ay hyi => ?_⟩
    rcases Nat.lt_or_ge i x with q | q
    · omega
    · rcases Nat.lt_or_ge i y with q2 | q2
      · obtain rfl : y = i + 1 := by omega
        exfalso
        have c1 : An par (par (i + 1)) h := An.trans (by omega) (An.ofPar T (by omega) hi) ay
        have l1 := b q (par (i + 1)) (by omega) c1 (by omega)
        have c2 : An par x (i + 1) := An.chain (by omega) a ay
        have l2 := An.le T hx (by omega) (An.up T (by omega) hi c2)
        omega
      · exact b q y hy ay q2
  · rintro ⟨a, b⟩
    exact ⟨a, fun hxi y hy ay hyi => b (by omega) y hy ay (by omega)⟩
theorem Dn.at (T : Tree par) {i h : Nat} (hi : i + 1 < 7) (h7 : h < 7) : Dn par i (par (i + 1)) h ↔ (Dn par (i + 1) (par (i + 1)) h ∨ Dn par (i + 1) (i + 1) h) := by
  have hp := T.lt (i + 1) (by omega) hi
  constructor
  · rintro ⟨a, b⟩
    by_cases q : An par (i + 1) h
    · exact .inr ⟨q, fun _ y _ _ hy => hy⟩
    · refine .inl ⟨a, fun hxi y hy ay hyi => ?_⟩
      rcases Nat.lt_or_ge i y with q2 | q2
      · obtain rfl : y = i + 1 := by omega
        exact absurd ay q
      · exact b (by omega) y hy ay q2
  · rintro (⟨a, b⟩ | ⟨a, b⟩)
    · exact ⟨a, fun hxi y hy ay hyi => b (by omega) y hy ay (by omega)⟩
    · refine ⟨An.trans (by omega) (An.ofPar T (by omega) hi) a, fun hxi y hy ay hyi => ?_⟩
      have c2 : An par y (i + 1) := An.chain (by omega) ay a
      exact An.le T hy (by omega) (An.up T (by omega) hi c2)
theorem Dn.not (T : Tree par) {i h : Nat} (hi : i + 1 < 7) : Dn par (i + 1) (par (i + 1)) h → ¬ Dn par (i + 1) (i + 1) h := by
  have hp := T.lt (i + 1) (by omega) hi
  rintro ⟨a, b⟩ ⟨c, d⟩
  have := b (by omega) (i + 1) hi c (Nat.le_refl _)
  omega
theorem countP_congr' {H : List Nat} {p q : Nat → Bool} (h : ∀ x ∈ H, p x = q x) : H.countP p = H.countP q := by
  induction H with
  | nil => rfl
  | cons x H ih =>
    rw [List.countP_cons, List.countP_cons, h x List.mem_cons_self, ih fun y hy => h y (List.mem_cons_of_mem _ hy)]
theorem countP_or {H : List Nat} {p q r : Nat → Bool} (h : ∀ x ∈ H, p x = (q x || r x) ∧ (q x && r x) = false) : H.countP p = H.countP q + H.countP r := by
  induction H with
  | nil => rfl
  | cons x H ih =>
    obtain ⟨h1, h2⟩ := h x List.mem_cons_self
    rw [List.countP_cons, List.countP_cons, List.countP_cons, ih fun y hy => h y (List.mem_cons_of_mem _ hy), h1]
    cases hq : q x <;> cases hr : r x <;> rw [hq, hr] at h2 <;> simp at h2 ⊢ <;> omega
theorem nz_set {bl : List Int} {j : Nat} {v : Int} {x : Nat} (hj : j < bl.length) : nz (bl.set j v) (x : Int) = if x = j then v else nz bl (x : Int) := by
  unfold nz
  rw [Int.toNat_natCast, List.getD_eq_getElem?_getD, List.getD_eq_getElem?_getD]
  split
  · rename_i e; subst e
    rw [List.getElem?_set_self hj]; rfl
  · rename_i e
    rw [List.getElem?_set_ne (Ne.symm e)]
theorem cn_other (T : Tree par) {H : List Nat} (h7 : ∀ h ∈ H, h < 7) {i x : Nat} (hi : i + 1 < 7) (hx : x < 7) (hne : x ≠ par (i + 1)) : cn par H i x = cn par H (i + 1) x := by
  unfold cn
  exact countP_congr' fun h hh => decide_eq_decide.mpr (Dn.other T hi hx (h7 h hh) hne)
theorem cn_at (T : Tree par) {H : List Nat} (h7 : ∀ h ∈ H, h < 7) {i : Nat} (hi : i + 1 < 7) : cn par H i (par (i + 1)) = cn par H (i + 1) (par (i + 1)) + cn par H (i + 1) (i + 1) := by
  classical
  unfold cn
  refine countP_or fun h hh => ⟨?_, ?_⟩
  · rw [Bool.eq_iff_iff, Bool.or_eq_true, decide_eq_true_eq, decide_eq_true_eq, decide_eq_true_eq]
    exact Dn.at T hi (h7 h hh)
  · rw [Bool.eq_false_iff]
    intro e
    rw [Bool.and_eq_true, decide_eq_true_eq, decide_eq_true_eq] at e
    exact Dn.not T hi e.1 e.2
theorem below_turn (T : Tree par) {H : List Nat} (h7 : ∀ h ∈ H, h < 7) {ab : List Int} (hab : ∀ k : Nat, 1 ≤ k → k < 7 → nz ab (k : Int) = (par k : Int)) {bl : List Int} (hl : bl.length = 7) {i : Nat} (hi : i + 1 < 7)
    (h : ∀ x : Nat, x < 7 → nz bl (x : Int) = (cn par H (i + 1) x : Int)) : (belowStep ab bl ((i + 1 : Nat) : Int)).length = 7 ∧ ∀ x : Nat, x < 7 → nz (belowStep ab bl ((i + 1 : Nat) : Int)) (x : Int) = (cn par H i x : Int) := by
  refine ⟨by rw [belowStep_len, hl], fun x hx => ?_⟩
  have hp := T.lt (i + 1) (by omega) hi
  unfold belowStep
  rw [hab (i + 1) (by omega) hi, Int.toNat_natCast, nz_set (by omega), h (par (i + 1)) (by omega), h (i + 1) hi]
  split
  · rename_i e; subst e
    rw [cn_at T h7 hi]; omega
  · rename_i e
    rw [h x hx, cn_other T h7 hi hx e]
theorem below_of (T : Tree par) {H : List Nat} (hnd : H.Nodup) (h7 : ∀ h ∈ H, h < 7) {ab : List Int} (hab : ∀ k : Nat, 1 ≤ k → k < 7 → nz ab (k : Int) = (par k : Int)) :
    ∀ x : Nat, x < 7 → nz (belowP ab (H.map fun (h : Nat) => (h : Int))) (x : Int) = (cn par H 0 x : Int) := by
  have e : belowP ab (H.map fun (h : Nat) => (h : Int)) = belowStep ab (belowStep ab (belowStep ab (belowStep ab (belowStep ab (belowStep ab (below0 (H.map fun (h : Nat) => (h : Int))) ((5 + 1 : Nat) : Int)) ((4 + 1 : Nat) : Int)) ((3 + 1 : Nat) : Int)) ((2 + 1 : Nat) : Int)) ((1 + 1 : Nat) : Int)) ((0 + 1 : Nat) : Int) := rfl
  have b0 : ∀ x : Nat, x < 7 → nz (below0 (H.map fun (h : Nat) => (h : Int))) (x : Int) = (cn par H (5 + 1) x : Int) := fun x hx => by
    classical
    have e1 : nz (below0 (H.map fun (h : Nat) => (h : Int))) (x : Int) = if (H.map fun (h : Nat) => (h : Int)).any (fun p => p == (x : Int)) then 1 else 0 := by
      obtain rfl | rfl | rfl | rfl | rfl | rfl | rfl : x = 0 ∨ x = 1 ∨ x = 2 ∨ x = 3 ∨ x = 4 ∨ x = 5 ∨ x = 6 := by omega
      all_goals rfl
    rw [e1]
    have e2 : cn par H (5 + 1) x = H.count x := by
      unfold cn
      rw [List.count]
      refine countP_congr' fun h hh => ?_
      rw [Bool.eq_iff_iff, decide_eq_true_eq, beq_iff_eq, Dn.six T hx (h7 h hh)]
      exact eq_comm
    rw [e2]
    have e3 : (H.map fun (h : Nat) => (h : Int)).any (fun p => p == (x : Int)) = decide (x ∈ H) := by
      rw [Bool.eq_iff_iff, List.any_eq_true, decide_eq_true_eq]
      constructor
      · rintro ⟨p, hp, q⟩
        obtain ⟨h, hh, rfl⟩ := List.mem_map.mp hp
        have : h = x := by have := beq_iff_eq.mp q; omega
        exact this ▸ hh
      · intro hx'; exact ⟨(x : Int), List.mem_map_of_mem hx', beq_self_eq_true _⟩
    rw [e3]
    by_cases q : x ∈ H
    · rw [decide_eq_true q, if_pos rfl, hnd.count, if_pos q]; rfl
    · rw [decide_eq_false q, if_neg (by decide), List.count_eq_zero_of_not_mem q]; rfl
  obtain ⟨l5, b5⟩ := below_turn T h7 hab (show (below0 (H.map fun (h : Nat) => (h : Int))).length = 7 from rfl) (i := 5) (by omega) b0
  obtain ⟨l4, b4⟩ := below_turn T h7 hab l5 (i := 4) (by omega) b5
  obtain ⟨l3, b3⟩ := below_turn T h7 hab l4 (i := 3) (by omega) b4
  obtain ⟨l2, b2⟩ := below_turn T h7 hab l3 (i := 2) (by omega) b3
  obtain ⟨l1, b1⟩ := below_turn T h7 hab l2 (i := 1) (by omega) b2
  obtain ⟨l0, b0'⟩ := below_turn T h7 hab l1 (i := 0) (by omega) b1
  rw [e]
  exact b0'
theorem child_of (T : Tree par) {k : Nat} : ∀ n t, t < n → t < 7 → An par k t → k < t → ∃ j, 1 ≤ j ∧ j < 7 ∧ par j = k ∧ An par j t
  | 0, _, h, _, _, _ => absurd h (Nat.not_lt_zero _)
  | n + 1, t, hn, h7, hA, hlt => by
    have hp := T.lt t (by omega) h7
    by_cases q : par t = k
    · exact ⟨t, by omega, h7, q, An.refl T h7⟩
    · have hA' := An.up T hlt h7 hA
      have := An.le T (by omega) (by omega) hA'
      obtain ⟨j, j1, j7, e, hj⟩ := child_of T n (par t) (by omega) (by omega) hA' (by omega)
      have := An.le T j7 (by omega) hj
      exact ⟨j, j1, j7, e, An.down T (by omega) h7 hj⟩
theorem between_of (T : Tree par) {H : List Nat} (hnd : H.Nodup) (h7 : ∀ h ∈ H, h < 7) {ab : List Int} (hab : ∀ k : Nat, 1 ≤ k → k < 7 → nz ab (k : Int) = (par k : Int)) {t : Nat} (ht : t < 7) (hAll : ∀ h ∈ H, An par t h) (hBig : ∀ a, a < 7 → (∀ h ∈ H, An par a h) → An par a t) (k : Nat) (hk : k < 7) :
    ((k : Int) ∈ betweenP ab (H.map fun (h : Nat) => (h : Int))) ↔ (t ≤ k ∧ ∃ h ∈ H, An par k h) := by
  classical
  have hb := below_of T hnd h7 hab
  have c0 : ∀ x, cn par H 0 x = H.countP fun h => decide (An par x h) := fun x => by
    unfold cn
    exact countP_congr' fun h _ => decide_eq_decide.mpr (Dn.nil T)
  have pos : ∀ x, 0 < cn par H 0 x ↔ ∃ h ∈ H, An par x h := fun x => by
    rw [c0, List.countP_pos_iff]
    exact exists_congr fun h => and_congr_right fun _ => decide_eq_true_iff
  have all : ∀ x, cn par H 0 x = H.length ↔ ∀ h ∈ H, An par x h := fun x => by
    rw [c0, List.countP_eq_length]
    exact forall_congr' fun h => imp_congr_right fun _ => decide_eq_true_iff
  unfold betweenP
  have hk07 : (k : Int) ∈ r07 := by
    obtain rfl | rfl | rfl | rfl | rfl | rfl | rfl : k = 0 ∨ k = 1 ∨ k = 2 ∨ k = 3 ∨ k = 4 ∨ k = 5 ∨ k = 6 := by omega
    all_goals decide
  rw [List.mem_filter, Bool.and_eq_true, decide_eq_true_eq, List.isEmpty_iff, List.filter_eq_nil_iff, hb k hk]
  have key : (∀ a ∈ ([1, 2, 3, 4, 5, 6] : List Int), ¬ fIn ab (belowP ab (H.map fun (h : Nat) => (h : Int))) (H.map fun (h : Nat) => (h : Int)).length k a = true) ↔ ∀ j : Nat, 1 ≤ j → j < 7 → ¬ (par j = k ∧ ∀ h ∈ H, An par j h) := by
    constructor
    · intro hq j j1 j7 ⟨e1, e2⟩
      refine hq (j : Int) ?_ ?_
      · obtain rfl | rfl | rfl | rfl | rfl | rfl : j = 1 ∨ j = 2 ∨ j = 3 ∨ j = 4 ∨ j = 5 ∨ j = 6 := by omega
        all_goals decide
      · unfold fIn
        rw [hab j j1 j7, hb j j7, List.length_map, Bool.and_eq_true, beq_iff_eq, beq_iff_eq]
        exact ⟨by rw [e1], by rw [(all j).mpr e2]⟩
    · intro hq a ha e
      obtain ⟨j, rfl, j1, j7⟩ : ∃ j : Nat, a = (j : Int) ∧ 1 ≤ j ∧ j < 7 := by
        have : 1 ≤ a ∧ a < 7 := by
          simp only [List.mem_cons, List.not_mem_nil, or_false] at ha
          rcases ha with rfl | rfl | rfl | rfl | rfl | rfl <;> decide
        exact ⟨a.toNat, by omega, by omega, by omega⟩
      unfold fIn at e
      rw [hab j j1 j7, hb j j7, List.length_map, Bool.and_eq_true, beq_iff_eq, beq_iff_eq] at e
      exact hq j j1 j7 ⟨by omega, (all j).mp (by omega)⟩
  rw [key]
  constructor
  · rintro ⟨-, hp, hq⟩
    obtain ⟨h, hh, hA⟩ := (pos k).mp (by omega)
    refine ⟨?_, h, hh, hA⟩
    rcases Nat.lt_or_ge k t with q | q
    · exfalso
      have c : An par k t := An.chain (by omega) hA (hAll h hh)
      obtain ⟨j, j1, j7, e, hj⟩ := child_of T (t + 1) t (Nat.lt_succ_self _) ht c q
      exact hq j j1 j7 ⟨e, fun h' hh' => An.trans (An.le T j7 ht hj) hj (hAll h' hh')⟩
    · exact q
  · rintro ⟨htk, h, hh, hA⟩
    refine ⟨hk07, ?_, fun j j1 j7 ⟨e, hall⟩ => ?_⟩
    · have := (pos k).mpr ⟨h, hh, hA⟩; omega
    · have := An.le T j7 ht (hBig j j7 hall)
      have := T.lt j j1 j7
      omega
end
end

-- Q7
section
open PySem PySem.W PyProof.Rows PySem.Calls
set_option maxRecDepth 100000
set_option maxHeartbeats 4000000
theorem and_nat (a b : Nat) : Builtin.bitAnd (a : Int) (b : Int) = ((a &&& b : Nat) : Int) := by
  unfold Builtin.bitAnd
  rw [decide_eq_true (Int.natCast_nonneg a), decide_eq_true (Int.natCast_nonneg b)]
  rfl
theorem or_nat (a b : Nat) : Builtin.bitOr (a : Int) (b : Int) = ((a ||| b : Nat) : Int) := by
  unfold Builtin.bitOr Builtin.bitAnd Builtin.bitNot
  rw [decide_eq_false (by omega), decide_eq_false (by omega)]
  simp only [Builtin.bitNot]
  have e : ∀ x : Nat, (-(-(x : Int) - 1) - 1).toNat = x := fun x => by omega
  rw [e a, e b]
  omega
theorem bit_at (c k : Nat) : (Builtin.bitAnd ((c : Int).fdiv (2 ^ ((k : Int)).toNat)) 1 == 1) = c.testBit k ∧ (Builtin.bitAnd ((c : Int).fdiv (2 ^ ((k : Int)).toNat)) 1 != 0) = c.testBit k := by
  have e : (c : Int).fdiv (2 ^ ((k : Int)).toNat) = ((c / 2 ^ k : Nat) : Int) := by
    rw [Int.toNat_natCast, Int.fdiv_eq_ediv_of_nonneg _ (by exact Int.le_of_lt (Int.pow_pos (by decide)))]
    push_cast; rfl
  rw [e, bitAnd_m1, Nat.testBit_eq_decide_div_mod_eq]
  have h : ((c / 2 ^ k : Nat) : Int) % 2 = ((c / 2 ^ k % 2 : Nat) : Int) := by push_cast; rfl
  rw [h]
  have := Nat.mod_lt (c / 2 ^ k) (show 0 < 2 by decide)
  constructor
  · rw [Bool.eq_iff_iff, beq_iff_eq, decide_eq_true_eq]; omega
  · rw [Bool.eq_iff_iff, bne_iff_ne, decide_eq_true_eq]; omega
theorem nz_iff (m : Nat) : m ≠ 0 ↔ ∃ k, m.testBit k = true := by
  constructor
  · intro h; exact Nat.exists_testBit_of_ne_zero h
  · rintro ⟨k, h⟩ rfl; simp at h
theorem sum_filter (f : Int → Bool) (g : Int → Int) (l : List Int) : ((l.filter f).map g).sum = (l.map fun k => if f k then g k else 0).sum := by
  induction l with
  | nil => rfl
  | cons a l ih =>
    rw [List.filter_cons]
    cases h : f a
    · rw [if_neg (by decide), ih, List.map_cons, List.sum_cons, h, if_neg (by decide), Int.zero_add]
    · rw [if_pos rfl, List.map_cons, List.sum_cons, ih, List.map_cons, List.sum_cons, h, if_pos rfl]
theorem ite_bool (b : Bool) (c : Nat) : (if b then ((c : Nat) : Int) else 0) = ((c * b.toNat : Nat) : Int) := by
  cases b <;> simp
theorem mask_key : ∀ b0 b1 b2 b3 b4 b5 b6 : Bool, (decide (b0.toNat + 2 * b1.toNat + 4 * b2.toNat + 8 * b3.toNat + 16 * b4.toNat + 32 * b5.toNat + 64 * b6.toNat < 128) && (List.range 8).all fun k => (b0.toNat + 2 * b1.toNat + 4 * b2.toNat + 8 * b3.toNat + 16 * b4.toNat + 32 * b5.toNat + 64 * b6.toNat).testBit k == ([b0, b1, b2, b3, b4, b5, b6].getD k false)) = true := by decide +kernel
theorem mask_bit (f : Int → Bool) : ∃ m : Nat, ((r07.filter f).map fun k => 1 * 2 ^ k.toNat).sum = (m : Int) ∧ m < 128 ∧ ∀ k : Nat, m.testBit k = (decide (k < 7) && f (k : Int)) := by
  have hk := mask_key (f 0) (f 1) (f 2) (f 3) (f 4) (f 5) (f 6)
  rw [Bool.and_eq_true, decide_eq_true_eq] at hk
  refine ⟨_, ?_, hk.1, fun k => ?_⟩
  · rw [sum_filter]
    show (if f 0 then ((1 : Nat) : Int) else 0) + ((if f 1 then ((2 : Nat) : Int) else 0) + ((if f 2 then ((4 : Nat) : Int) else 0) + ((if f 3 then ((8 : Nat) : Int) else 0) + ((if f 4 then ((16 : Nat) : Int) else 0) + ((if f 5 then ((32 : Nat) : Int) else 0) + ((if f 6 then ((64 : Nat) : Int) else 0) + 0)))))) = _
    simp only [ite_bool]
    omega
  · rcases Nat.lt_or_ge k 8 with h | h
    · rw [beq_iff_eq.mp (List.all_eq_true.mp hk.2 k (List.mem_range.mpr h))]
      obtain rfl | rfl | rfl | rfl | rfl | rfl | rfl | rfl : k = 0 ∨ k = 1 ∨ k = 2 ∨ k = 3 ∨ k = 4 ∨ k = 5 ∨ k = 6 ∨ k = 7 := by omega
      all_goals rfl
    · rw [decide_eq_false (by omega), Bool.false_and]
      apply Nat.testBit_lt_two_pow
      have : (2 : Nat) ^ 8 ≤ 2 ^ k := Nat.pow_le_pow_right (by decide) h
      omega
end

-- Q8
section
open PySem PySem.W PyProof.Rows PySem.Calls
set_option maxRecDepth 100000
set_option maxHeartbeats 4000000
/-- graphs of at most five rights -/
noncomputable def touch (adj : Nat → Nat → Bool) (A B : List Nat) : Bool := A.any fun a => B.any fun b => adj a b
noncomputable def gMerge (adj : Nat → Nat → Bool) (r : List (List Nat) × List Nat) (o : List Nat) : List (List Nat) × List Nat := if touch adj o r.2 then (r.1, r.2 ++ o) else (r.1 ++ [o], r.2)
noncomputable def gStep (adj : Nat → Nat → Bool) (hs : List (List Nat)) (w : List Nat) : List (List Nat) := (hs.foldl (gMerge adj) ([], w)).1 ++ [(hs.foldl (gMerge adj) ([], w)).2]
noncomputable def gHeaps (adj : Nat → Nat → Bool) (l : List Nat) : List (List Nat) := l.foldl (fun hs i => gStep adj hs [i]) []
noncomputable def clique (adj : Nat → Nat → Bool) (A : List Nat) : Bool := A.all fun i => A.all fun j => adj i j
noncomputable def sgn (adj : Nat → Nat → Bool) (A : List Nat) : Int := if clique adj A then (if A.length % 2 == 1 then 1 else -1) else 0
noncomputable def subs0 : List (List Nat) := []
noncomputable def subs1 : List (List Nat) := [[0]]
noncomputable def subs2 : List (List Nat) := [[0], [1], [0, 1]]
noncomputable def subs3 : List (List Nat) := [[0], [1], [0, 1], [2], [0, 2], [1, 2], [0, 1, 2]]
noncomputable def subs4 : List (List Nat) := [[0], [1], [0, 1], [2], [0, 2], [1, 2], [0, 1, 2], [3], [0, 3], [1, 3], [0, 1, 3], [2, 3], [0, 2, 3], [1, 2, 3], [0, 1, 2, 3]]
noncomputable def subs5 : List (List Nat) := [[0], [1], [0, 1], [2], [0, 2], [1, 2], [0, 1, 2], [3], [0, 3], [1, 3], [0, 1, 3], [2, 3], [0, 2, 3], [1, 2, 3], [0, 1, 2, 3], [4], [0, 4], [1, 4], [0, 1, 4], [2, 4], [0, 2, 4], [1, 2, 4], [0, 1, 2, 4], [3, 4], [0, 3, 4], [1, 3, 4], [0, 1, 3, 4], [2, 3, 4], [0, 2, 3, 4], [1, 2, 3, 4], [0, 1, 2, 3, 4]]
noncomputable def subsN : Nat → List (List Nat)
  | 0 => subs0
  | 1 => subs1
  | 2 => subs2
  | 3 => subs3
  | 4 => subs4
  | 5 => subs5
  | _ => []
noncomputable def cyc4 : Nat → List (List Nat)
  | 4 => [[0, 1, 2, 3], [0, 1, 3, 2], [0, 2, 1, 3]]
  | 5 => [[0, 1, 2, 3], [0, 1, 3, 2], [0, 2, 1, 3], [0, 1, 2, 4], [0, 1, 4, 2], [0, 2, 1, 4], [0, 1, 3, 4], [0, 1, 4, 3], [0, 3, 1, 4], [0, 2, 3, 4], [0, 2, 4, 3], [0, 3, 2, 4], [1, 2, 3, 4], [1, 2, 4, 3], [1, 3, 2, 4]]
  | _ => []
noncomputable def cyc5 : Nat → List (List Nat)
  | 5 => [[0, 1, 2, 3, 4], [0, 1, 2, 4, 3], [0, 1, 3, 2, 4], [0, 1, 3, 4, 2], [0, 1, 4, 2, 3], [0, 1, 4, 3, 2], [0, 2, 1, 3, 4], [0, 2, 1, 4, 3], [0, 2, 3, 1, 4], [0, 2, 4, 1, 3], [0, 3, 1, 2, 4], [0, 3, 2, 1, 4]]
  | _ => []
noncomputable def ok4 (adj : Nat → Nat → Bool) : List Nat → Bool
  | [a, b, c, d] => !(adj a b && adj b c && adj c d && adj d a) || (adj a c || adj b d)
  | _ => true
noncomputable def ok5 (adj : Nat → Nat → Bool) : List Nat → Bool
  | [a, b, c, d, e] => !(adj a b && adj b c && adj c d && adj d e && adj e a) || (adj a c || adj b d || adj c e || adj d a || adj e b)
  | _ => true
noncomputable def chordal (adj : Nat → Nat → Bool) (n : Nat) : Bool := (cyc4 n).all (ok4 adj) && (cyc5 n).all (ok5 adj)
noncomputable def euler (adj : Nat → Nat → Bool) (n : Nat) : Bool := ((subsN n).map (sgn adj)).sum == ((gHeaps adj (List.range n)).length : Int)
noncomputable def adjB (l : List Bool) (i j : Nat) : Bool := i == j || l.getD (if i < j then j * (j - 1) / 2 + i else i * (i - 1) / 2 + j) false
theorem e0 : (!chordal (adjB []) 0 || euler (adjB []) 0) = true := by decide +kernel
theorem e1 : (!chordal (adjB []) 1 || euler (adjB []) 1) = true := by decide +kernel
theorem e2 : ∀ a : Bool, (!chordal (adjB [a]) 2 || euler (adjB [a]) 2) = true := by decide +kernel
theorem e3 : ∀ a b c : Bool, (!chordal (adjB [a, b, c]) 3 || euler (adjB [a, b, c]) 3) = true := by decide +kernel
theorem e4 : ∀ a b c d e f : Bool, (!chordal (adjB [a, b, c, d, e, f]) 4 || euler (adjB [a, b, c, d, e, f]) 4) = true := by decide +kernel
theorem e5 : ∀ a b c d e f g h i j : Bool, (!chordal (adjB [a, b, c, d, e, f, g, h, i, j]) 5 || euler (adjB [a, b, c, d, e, f, g, h, i, j]) 5) = true := by
  intro a b c
  cases a <;> cases b <;> cases c <;> decide +kernel
end

-- Q9
section
open PySem PySem.W PyProof.Rows PySem.Calls
set_option maxRecDepth 100000
set_option maxHeartbeats 4000000
noncomputable def mt (a b : Nat) : Bool := (a &&& b) != 0
theorem mt_iff {a b : Nat} : mt a b = true ↔ ∃ k, a.testBit k = true ∧ b.testBit k = true := by
  unfold mt
  rw [bne_iff_ne, nz_iff]
  simp only [Nat.testBit_and, Bool.and_eq_true]
theorem mt_comm (a b : Nat) : mt a b = mt b a := by unfold mt; rw [Nat.and_comm]
/-- a piece of the tree that hangs together, with its top -/
structure Sub (par : Nat → Nat) (t M : Nat) : Prop where
  ht : t < 7
  top : M.testBit t = true
  mem : ∀ k, M.testBit k = true → k < 7 ∧ An par t k
  dn : ∀ k a, a < 7 → M.testBit k = true → An par a k → t ≤ a → M.testBit a = true
theorem helly {par : Nat → Nat} {t1 t2 M1 M2 : Nat} (S1 : Sub par t1 M1) (S2 : Sub par t2 M2) (h : t1 ≤ t2) (hm : mt M1 M2 = true) : M1.testBit t2 = true := by
  obtain ⟨k, k1, k2⟩ := mt_iff.mp hm
  exact S1.dn k t2 S2.ht k1 (S2.mem k k2).2 h
noncomputable def adjM (Ms : List Nat) (i j : Nat) : Bool := i == j || mt (Ms.getD i 0) (Ms.getD j 0)
theorem getD_ge {l : List Nat} {i : Nat} (h : l.length ≤ i) : l.getD i 0 = 0 := by
  rw [List.getD_eq_getElem?_getD, List.getElem?_eq_none h]; rfl
theorem idx_ge {n j : Nat} (h : n ≤ j) : n * (n - 1) / 2 ≤ j * (j - 1) / 2 := Nat.div_le_div_right (Nat.mul_le_mul h (by omega))
theorem getDB_ge {l : List Bool} {i : Nat} (h : l.length ≤ i) : l.getD i false = false := by
  rw [List.getD_eq_getElem?_getD, List.getElem?_eq_none h]; rfl
theorem adjB_far {l : List Bool} {n i j : Nat} (hl : l.length = n * (n - 1) / 2) (h : n ≤ i ∨ n ≤ j) : adjB l i j = (i == j) := by
  unfold adjB
  by_cases e : i = j
  · subst e; simp
  · rw [getDB_ge, Bool.or_false]
    rw [hl]
    split
    · have := idx_ge (n := n) (j := j) (by omega); omega
    · have := idx_ge (n := n) (j := i) (by omega); omega
theorem adjM_far {Ms : List Nat} {i j : Nat} (h : Ms.length ≤ i ∨ Ms.length ≤ j) : adjM Ms i j = (i == j) := by
  unfold adjM mt
  rcases h with h | h
  · rw [getD_ge h]; simp
  · rw [getD_ge h]; simp
theorem adj_eq {Ms : List Nat} (h : Ms.length ≤ 5) : ∃ l : List Bool, adjM Ms = adjB l ∧ (!chordal (adjB l) Ms.length || euler (adjB l) Ms.length) = true := by
  have far : ∀ l : List Bool, l.length = Ms.length * (Ms.length - 1) / 2 → (∀ i j, i < Ms.length → j < Ms.length → adjM Ms i j = adjB l i j) → adjM Ms = adjB l := fun l hl hc => by
    funext i j
    by_cases hi : i < Ms.length
    · by_cases hj : j < Ms.length
      · exact hc i j hi hj
      · rw [adjM_far (.inr (by omega)), adjB_far hl (.inr (by omega))]
    · rw [adjM_far (.inl (by omega)), adjB_far hl (.inl (by omega))]
  match Ms, h with
  | [], _ => exact ⟨[], far [] (by simp) (fun i j hi _ => absurd hi (by simp)), e0⟩
  | [a], _ => exact ⟨[], far [] (by simp) (fun i j hi hj => by
      obtain rfl : i = 0 := by simpa using hi
      obtain rfl : j = 0 := by simpa using hj
      rfl), e1⟩
  | [a, b], _ => exact ⟨[mt a b], far _ (by simp) (fun i j hi hj => by
      simp only [List.length_cons, List.length_nil] at hi hj
      obtain rfl | rfl : i = 0 ∨ i = 1 := by omega
      all_goals obtain rfl | rfl : j = 0 ∨ j = 1 := by omega
      all_goals first | rfl | exact mt_comm _ _), e2 _⟩
  | [a, b, c], _ => exact ⟨[mt a b, mt a c, mt b c], far _ (by simp) (fun i j hi hj => by
      simp only [List.length_cons, List.length_nil] at hi hj
      obtain rfl | rfl | rfl : i = 0 ∨ i = 1 ∨ i = 2 := by omega
      all_goals obtain rfl | rfl | rfl : j = 0 ∨ j = 1 ∨ j = 2 := by omega
      all_goals first | rfl | exact mt_comm _ _), e3 _ _ _⟩
  | [a, b, c, d], _ => exact ⟨[mt a b, mt a c, mt b c, mt a d, mt b d, mt c d], far _ (by simp) (fun i j hi hj => by
      simp only [List.length_cons, List.length_nil] at hi hj
      obtain rfl | rfl | rfl | rfl : i = 0 ∨ i = 1 ∨ i = 2 ∨ i = 3 := by omega
      all_goals obtain rfl | rfl | rfl | rfl : j = 0 ∨ j = 1 ∨ j = 2 ∨ j = 3 := by omega
      all_goals first | rfl | exact mt_comm _ _), e4 _ _ _ _ _ _⟩
  | [a, b, c, d, e], _ => exact ⟨[mt a b, mt a c, mt b c, mt a d, mt b d, mt c d, mt a e, mt b e, mt c e, mt d e], far _ (by simp) (fun i j hi hj => by
      simp only [List.length_cons, List.length_nil] at hi hj
      obtain rfl | rfl | rfl | rfl | rfl : i = 0 ∨ i = 1 ∨ i = 2 ∨ i = 3 ∨ i = 4 := by omega
      all_goals obtain rfl | rfl | rfl | rfl | rfl : j = 0 ∨ j = 1 ∨ j = 2 ∨ j = 3 ∨ j = 4 := by omega
      all_goals first | rfl | exact mt_comm _ _), e5 _ _ _ _ _ _ _ _ _ _⟩
  | _ :: _ :: _ :: _ :: _ :: _ :: _, h => exact absurd h (by simp)

structure Rights (par : Nat → Nat) (Ms ts : List Nat) : Prop where
  len : ts.length = Ms.length
  n : Ms.length ≤ 5
  sub : ∀ i, i < Ms.length → Sub par (ts.getD i 0) (Ms.getD i 0)
section
variable {par : Nat → Nat} {Ms ts : List Nat} (R : Rights par Ms ts)
include R
theorem Rights.adj {i j : Nat} (hi : i < Ms.length) (hj : j < Ms.length) : adjM Ms i j = mt (Ms.getD i 0) (Ms.getD j 0) := by
  unfold adjM
  by_cases e : i = j
  · subst e
    have : mt (Ms.getD i 0) (Ms.getD i 0) = true := mt_iff.mpr ⟨_, (R.sub i hi).top, (R.sub i hi).top⟩
    rw [this]; simp
  · rw [beq_eq_false_iff_ne.mpr e, Bool.false_or]
theorem Rights.tri {x y z : Nat} (hx : x < Ms.length) (hy : y < Ms.length) (hz : z < Ms.length) (h1 : ts.getD y 0 ≤ ts.getD x 0) (h2 : ts.getD z 0 ≤ ts.getD x 0) (a1 : adjM Ms x y = true) (a2 : adjM Ms x z = true) : adjM Ms y z = true := by
  rw [R.adj hx hy, mt_comm] at a1
  rw [R.adj hx hz, mt_comm] at a2
  rw [R.adj hy hz]
  exact mt_iff.mpr ⟨_, helly (R.sub y hy) (R.sub x hx) h1 a1, helly (R.sub z hz) (R.sub x hx) h2 a2⟩
theorem adjM_comm (i j : Nat) : adjM Ms i j = adjM Ms j i := by
  unfold adjM; rw [mt_comm]; congr 1; rw [Bool.eq_iff_iff, beq_iff_eq, beq_iff_eq]; exact eq_comm
theorem Rights.chordal : chordal (adjM Ms) Ms.length = true := by
  have hn := R.n
  have f4 : ((List.range 6).all fun n => (cyc4 n).all fun q => q.length == 4 && q.all fun a => decide (a < n)) = true := by decide +kernel
  have f5 : ((List.range 6).all fun n => (cyc5 n).all fun q => q.length == 5 && q.all fun a => decide (a < n)) = true := by decide +kernel
  have g4 := List.all_eq_true.mp f4 Ms.length (List.mem_range.mpr (by omega))
  have g5 := List.all_eq_true.mp f5 Ms.length (List.mem_range.mpr (by omega))
  have c := fun i j => adjM_comm R i j
  unfold Mine.chordal
  rw [Bool.and_eq_true]
  constructor
  · refine List.all_eq_true.mpr fun q hq => ?_
    have := List.all_eq_true.mp g4 q hq
    rw [Bool.and_eq_true, beq_iff_eq] at this
    obtain ⟨h4, hlt⟩ := this
    match q, h4, hlt with
    | [a, b, c', d], _, hlt =>
      simp only [List.all_cons, List.all_nil, Bool.and_true, Bool.and_eq_true, decide_eq_true_eq] at hlt
      obtain ⟨ha, hb, hc, hd⟩ := hlt
      show (!(adjM Ms a b && adjM Ms b c' && adjM Ms c' d && adjM Ms d a) || (adjM Ms a c' || adjM Ms b d)) = true
      by_cases q1 : (adjM Ms a b && adjM Ms b c' && adjM Ms c' d && adjM Ms d a) = true
      · rw [q1, Bool.not_true, Bool.false_or, Bool.or_eq_true]
        simp only [Bool.and_eq_true] at q1
        obtain ⟨⟨⟨ab, bc⟩, cd⟩, da⟩ := q1
        by_cases m1 : ts.getD b 0 ≤ ts.getD a 0 ∧ ts.getD d 0 ≤ ts.getD a 0
        · exact .inr (R.tri ha hb hd m1.1 m1.2 ab (by rw [c]; exact da))
        · by_cases m2 : ts.getD a 0 ≤ ts.getD b 0 ∧ ts.getD c' 0 ≤ ts.getD b 0
          · exact .inl (R.tri hb ha hc m2.1 m2.2 (by rw [c]; exact ab) bc)
          · by_cases m3 : ts.getD b 0 ≤ ts.getD c' 0 ∧ ts.getD d 0 ≤ ts.getD c' 0
            · exact .inr (R.tri hc hb hd m3.1 m3.2 (by rw [c]; exact bc) cd)
            · exact .inl (R.tri hd ha hc (by omega) (by omega) da (by rw [c]; exact cd))
      · rw [Bool.not_eq_true] at q1; rw [q1]; rfl
  · refine List.all_eq_true.mpr fun q hq => ?_
    have := List.all_eq_true.mp g5 q hq
    rw [Bool.and_eq_true, beq_iff_eq] at this
    obtain ⟨h4, hlt⟩ := this
    match q, h4, hlt with
    | [a, b, c', d, e], _, hlt =>
      simp only [List.all_cons, List.all_nil, Bool.and_true, Bool.and_eq_true, decide_eq_true_eq] at hlt
      obtain ⟨ha, hb, hc, hd, he⟩ := hlt
      show (!(adjM Ms a b && adjM Ms b c' && adjM Ms c' d && adjM Ms d e && adjM Ms e a) || (adjM Ms a c' || adjM Ms b d || adjM Ms c' e || adjM Ms d a || adjM Ms e b)) = true
      by_cases q1 : (adjM Ms a b && adjM Ms b c' && adjM Ms c' d && adjM Ms d e && adjM Ms e a) = true
      · rw [q1, Bool.not_true, Bool.false_or]
        simp only [Bool.and_eq_true] at q1
        obtain ⟨⟨⟨⟨ab, bc⟩, cd⟩, de⟩, ea⟩ := q1
        simp only [Bool.or_eq_true]
        by_cases m1 : ts.getD b 0 ≤ ts.getD a 0 ∧ ts.getD e 0 ≤ ts.getD a 0
        · exact .inr (R.tri ha he hb m1.2 m1.1 (by rw [c]; exact ea) ab)
        · by_cases m2 : ts.getD a 0 ≤ ts.getD b 0 ∧ ts.getD c' 0 ≤ ts.getD b 0
          · exact .inl (.inl (.inl (.inl (R.tri hb ha hc m2.1 m2.2 (by rw [c]; exact ab) bc))))
          · by_cases m3 : ts.getD b 0 ≤ ts.getD c' 0 ∧ ts.getD d 0 ≤ ts.getD c' 0
            · exact .inl (.inl (.inl (.inr (R.tri hc hb hd m3.1 m3.2 (by rw [c]; exact bc) cd))))
            · by_cases m4 : ts.getD c' 0 ≤ ts.getD d 0 ∧ ts.getD e 0 ≤ ts.getD d 0
              · exact .inl (.inl (.inr (R.tri hd hc he m4.1 m4.2 (by rw [c]; exact cd) de)))
              · exact .inl (.inr (R.tri he hd ha (by omega) (by omega) (by rw [c]; exact de) ea))
      · rw [Bool.not_eq_true] at q1; rw [q1]; rfl
theorem Rights.euler : euler (adjM Ms) Ms.length = true := by
  obtain ⟨l, e, h⟩ := adj_eq R.n
  have hc := R.chordal
  rw [e] at hc ⊢
  rw [hc, Bool.not_true, Bool.false_or] at h
  exact h
end
end

-- Q10
section
open PySem PySem.W PyProof.Rows PySem.Calls
set_option maxRecDepth 100000
set_option maxHeartbeats 4000000
noncomputable def natL (l : List Nat) : List Int := l.map fun (m : Nat) => (m : Int)
theorem nz_nat (Ms : List Nat) (i : Nat) : nz (natL Ms) (i : Int) = ((Ms.getD i 0 : Nat) : Int) := by
  unfold nz natL
  rw [Int.toNat_natCast, List.getD_eq_getElem?_getD, List.getD_eq_getElem?_getD, List.getElem?_map]
  cases Ms[i]? <;> rfl
theorem nat_ne (m : Nat) : ((m : Int) != 0) = (m != 0) := by
  rw [Bool.eq_iff_iff, bne_iff_ne, bne_iff_ne]; omega
theorem subs_eq {n : Nat} (h : n ≤ 5) : ((List.range (2 ^ n - 1)).map fun (i : Nat) => chosenP n ((i : Int) + 1)) = (subsN n).map natL := by
  obtain rfl | rfl | rfl | rfl | rfl | rfl : n = 0 ∨ n = 1 ∨ n = 2 ∨ n = 3 ∨ n = 4 ∨ n = 5 := by omega
  all_goals decide +kernel
theorem subs_ok {n : Nat} (h : n ≤ 5) : ∀ A ∈ subsN n, A ≠ [] ∧ ∀ a ∈ A, a < n := by
  have key : ((List.range 6).all fun n => (subsN n).all fun A => !A.isEmpty && A.all fun a => decide (a < n)) = true := by decide +kernel
  intro A hA
  have := List.all_eq_true.mp (List.all_eq_true.mp key n (List.mem_range.mpr (by omega))) A hA
  rw [Bool.and_eq_true] at this
  refine ⟨?_, fun a ha => of_decide_eq_true (List.all_eq_true.mp this.2 a ha)⟩
  rintro rfl
  exact absurd this.1 (by decide)
theorem natL_len (l : List Nat) : (natL l).length = l.length := by unfold natL; rw [List.length_map]
theorem chosen_sub {Ms : List Nat} (h : Ms.length ≤ 5) {c : Int} (hc : c ∈ choices (natL Ms)) : ∃ A ∈ subsN Ms.length, chosenP (natL Ms).length c = natL A := by
  unfold choices at hc
  rw [natL_len] at hc ⊢
  obtain ⟨i, hi, rfl⟩ := List.mem_map.mp hc
  have : chosenP Ms.length ((i : Int) + 1) ∈ (subsN Ms.length).map natL := by
    rw [← subs_eq h]; exact List.mem_map.mpr ⟨i, hi, rfl⟩
  obtain ⟨A, hA, e⟩ := List.mem_map.mp this
  exact ⟨A, hA, e.symm⟩
noncomputable def meetC (lv : List Int) (ch : List Int) : Bool := ch.all fun i => ch.all fun j => Builtin.bitAnd (nz lv i) (nz lv j) != 0
noncomputable def signC (lv : List Int) (ch : List Int) : Int := if meetC lv ch then (if (ch.length : Int).fmod 2 == 1 then 1 else -1) else 0
noncomputable def commonC (lv : List Int) (ch : List Int) : Int := ch.foldl (fun acc i => Builtin.bitAnd acc (nz lv i)) 127
theorem all_natL (A : List Nat) (f : Int → Bool) : (natL A).all f = A.all fun a => f (a : Int) := by unfold natL; rw [List.all_map]; rfl
theorem all_congr' {α : Type} {l : List α} {f g : α → Bool} (h : ∀ a ∈ l, f a = g a) : l.all f = l.all g := by
  induction l with
  | nil => rfl
  | cons a l ih => rw [List.all_cons, List.all_cons, h a List.mem_cons_self, ih fun b hb => h b (List.mem_cons_of_mem _ hb)]
theorem max_at (f : Nat → Nat) : ∀ A : List Nat, A ≠ [] → ∃ j ∈ A, ∀ i ∈ A, f i ≤ f j
  | [a], _ => ⟨a, List.mem_cons_self, fun i hi => by rw [List.mem_singleton.mp hi]; exact Nat.le_refl _⟩
  | a :: b :: A, _ => by
    obtain ⟨j, hj, h⟩ := max_at f (b :: A) (by simp)
    rcases Nat.lt_or_ge (f j) (f a) with q | q
    · refine ⟨a, List.mem_cons_self, fun i hi => ?_⟩
      rcases List.mem_cons.mp hi with rfl | hi
      · exact Nat.le_refl _
      · have := h i hi; omega
    · refine ⟨j, List.mem_cons_of_mem _ hj, fun i hi => ?_⟩
      rcases List.mem_cons.mp hi with rfl | hi
      · exact q
      · exact h i hi
section
variable {par : Nat → Nat} {Ms ts : List Nat} (R : Rights par Ms ts)
include R
theorem Rights.meetC {A : List Nat} (hA : ∀ a ∈ A, a < Ms.length) : meetC (natL Ms) (natL A) = clique (adjM Ms) A := by
  unfold Mine.meetC clique
  rw [all_natL]
  refine all_congr' fun i hi => ?_
  rw [all_natL]
  refine all_congr' fun j hj => ?_
  rw [nz_nat, nz_nat, and_nat, nat_ne, R.adj (hA i hi) (hA j hj)]; rfl
theorem Rights.signC {A : List Nat} (hA : ∀ a ∈ A, a < Ms.length) : signC (natL Ms) (natL A) = sgn (adjM Ms) A := by
  unfold Mine.signC sgn
  rw [R.meetC hA, natL_len]
  have : ((A.length : Int).fmod 2 == 1) = (A.length % 2 == 1) := by
    rw [Int.fmod_eq_emod_of_nonneg _ (by decide), Bool.eq_iff_iff, beq_iff_eq, beq_iff_eq]; omega
  rw [this]
theorem Rights.sum : ((choices (natL Ms)).map (signP (natL Ms))).sum = ((subsN Ms.length).map (sgn (adjM Ms))).sum := by
  have e1 : (choices (natL Ms)).map (signP (natL Ms)) = ((choices (natL Ms)).map (chosenP (natL Ms).length)).map (Mine.signC (natL Ms)) := by
    rw [List.map_map]; rfl
  have e2 : (choices (natL Ms)).map (chosenP (natL Ms).length) = (subsN Ms.length).map natL := by
    rw [← subs_eq R.n]
    unfold choices
    rw [natL_len, List.map_map]; rfl
  rw [e1, e2, List.map_map]
  congr 1
  exact List.map_congr_left fun A hA => R.signC (subs_ok R.n A hA).2

noncomputable def orM (Ms : List Nat) (A : List Nat) : Nat := A.foldl (fun m i => m ||| Ms.getD i 0) 0
omit R in
theorem orM_bit (A : List Nat) (k : Nat) : (orM Ms A).testBit k = true ↔ ∃ a ∈ A, (Ms.getD a 0).testBit k = true := by
  have key : ∀ (A : List Nat) (m : Nat), (A.foldl (fun m i => m ||| Ms.getD i 0) m).testBit k = true ↔ m.testBit k = true ∨ ∃ a ∈ A, (Ms.getD a 0).testBit k = true := by
    intro A
    induction A with
    | nil => intro m; simp
    | cons a A ih =>
      intro m
      rw [List.foldl_cons, ih, Nat.testBit_or, Bool.or_eq_true]
      constructor
      · rintro ((q | q) | ⟨x, hx, q⟩)
        · exact .inl q
        · exact .inr ⟨a, List.mem_cons_self, q⟩
        · exact .inr ⟨x, List.mem_cons_of_mem _ hx, q⟩
      · rintro (q | ⟨x, hx, q⟩)
        · exact .inl (.inl q)
        · rcases List.mem_cons.mp hx with rfl | hx
          · exact .inl (.inr q)
          · exact .inr ⟨x, hx, q⟩
  unfold orM
  rw [key]; simp
omit R in
theorem orM_app (A B : List Nat) : orM Ms (A ++ B) = orM Ms A ||| orM Ms B := by
  apply Nat.eq_of_testBit_eq
  intro k
  rw [Bool.eq_iff_iff, Nat.testBit_or, Bool.or_eq_true, orM_bit, orM_bit, orM_bit]
  constructor
  · rintro ⟨a, ha, q⟩
    rcases List.mem_append.mp ha with h | h
    · exact .inl ⟨a, h, q⟩
    · exact .inr ⟨a, h, q⟩
  · rintro (⟨a, h, q⟩ | ⟨a, h, q⟩)
    · exact ⟨a, List.mem_append.mpr (.inl h), q⟩
    · exact ⟨a, List.mem_append.mpr (.inr h), q⟩
theorem Rights.touch {A B : List Nat} (hA : ∀ a ∈ A, a < Ms.length) (hB : ∀ a ∈ B, a < Ms.length) : mt (orM Ms A) (orM Ms B) = touch (adjM Ms) A B := by
  rw [Bool.eq_iff_iff, mt_iff]
  unfold Mine.touch
  rw [List.any_eq_true]
  constructor
  · rintro ⟨k, h1, h2⟩
    obtain ⟨a, ha, q1⟩ := (orM_bit A k).mp h1
    obtain ⟨b, hb, q2⟩ := (orM_bit B k).mp h2
    exact ⟨a, ha, List.any_eq_true.mpr ⟨b, hb, by rw [R.adj (hA a ha) (hB b hb)]; exact mt_iff.mpr ⟨k, q1, q2⟩⟩⟩
  · rintro ⟨a, ha, h⟩
    obtain ⟨b, hb, q⟩ := List.any_eq_true.mp h
    rw [R.adj (hA a ha) (hB b hb)] at q
    obtain ⟨k, q1, q2⟩ := mt_iff.mp q
    exact ⟨k, (orM_bit A k).mpr ⟨a, ha, q1⟩, (orM_bit B k).mpr ⟨b, hb, q2⟩⟩
noncomputable def imL (Ms : List Nat) (hs : List (List Nat)) : List Int := hs.map fun A => ((orM Ms A : Nat) : Int)
noncomputable def okL (n : Nat) (hs : List (List Nat)) : Prop := ∀ A ∈ hs, ∀ a ∈ A, a < n
theorem Rights.merge : ∀ (hs : List (List Nat)) (r : List (List Nat) × List Nat), okL Ms.length hs → okL Ms.length r.1 → (∀ a ∈ r.2, a < Ms.length) →
    (imL Ms hs).foldl mergeStep (imL Ms r.1, ((orM Ms r.2 : Nat) : Int)) = (imL Ms (hs.foldl (gMerge (adjM Ms)) r).1, ((orM Ms (hs.foldl (gMerge (adjM Ms)) r).2 : Nat) : Int)) ∧ okL Ms.length (hs.foldl (gMerge (adjM Ms)) r).1 ∧ ∀ a ∈ (hs.foldl (gMerge (adjM Ms)) r).2, a < Ms.length
  | [], r, _, h1, h2 => ⟨rfl, h1, h2⟩
  | o :: hs, r, h0, h1, h2 => by
    have ho := h0 o List.mem_cons_self
    have hm : mergeStep (imL Ms r.1, ((orM Ms r.2 : Nat) : Int)) ((orM Ms o : Nat) : Int) = (imL Ms (gMerge (adjM Ms) r o).1, ((orM Ms (gMerge (adjM Ms) r o).2 : Nat) : Int)) := by
      unfold mergeStep gMerge
      dsimp only
      rw [and_nat, nat_ne]
      have : ((orM Ms o &&& orM Ms r.2) != 0) = Mine.touch (adjM Ms) o r.2 := R.touch ho h2
      rw [this]
      split
      · rw [or_nat, orM_app]
      · unfold imL; rw [List.map_append]; rfl
    have hk : okL Ms.length (gMerge (adjM Ms) r o).1 ∧ ∀ a ∈ (gMerge (adjM Ms) r o).2, a < Ms.length := by
      unfold gMerge
      split
      · exact ⟨h1, fun a ha => (List.mem_append.mp ha).elim (h2 a) (ho a)⟩
      · exact ⟨fun A hA => (List.mem_append.mp hA).elim (h1 A) fun q => by rw [List.mem_singleton.mp q]; exact ho, h2⟩
    have := Rights.merge hs (gMerge (adjM Ms) r o) (fun A hA => h0 A (List.mem_cons_of_mem _ hA)) hk.1 hk.2
    rw [List.foldl_cons]
    show List.foldl mergeStep (mergeStep _ _) (imL Ms hs) = _ ∧ _
    rw [hm]
    exact this
theorem Rights.step (hs : List (List Nat)) (i : Nat) (h0 : okL Ms.length hs) (hi : i < Ms.length) : heapStep (imL Ms hs) (nz (natL Ms) (i : Int)) = imL Ms (gStep (adjM Ms) hs [i]) ∧ okL Ms.length (gStep (adjM Ms) hs [i]) := by
  have e : nz (natL Ms) (i : Int) = ((orM Ms [i] : Nat) : Int) := by
    rw [nz_nat]; unfold orM; simp
  obtain ⟨h1, h2, h3⟩ := R.merge hs ([], [i]) h0 (fun A hA => by simp at hA) (fun a ha => by rw [List.mem_singleton.mp ha]; exact hi)
  have h1' : (imL Ms hs).foldl mergeStep ([], ((orM Ms [i] : Nat) : Int)) = _ := h1
  unfold heapStep gStep
  rw [e, h1']
  dsimp only
  refine ⟨?_, fun A hA => ?_⟩
  · unfold imL; rw [List.map_append]; rfl
  · rcases List.mem_append.mp hA with q | q
    · exact h2 A q
    · rw [List.mem_singleton.mp q]; exact h3
theorem Rights.heaps : (heapsP (natL Ms)).length = (gHeaps (adjM Ms) (List.range Ms.length)).length := by
  have key : ∀ (l : List Nat) (hs : List (List Nat)), okL Ms.length hs → (∀ i ∈ l, i < Ms.length) → (l.map fun (i : Nat) => nz (natL Ms) (i : Int)).foldl heapStep (imL Ms hs) = imL Ms (l.foldl (fun hs i => gStep (adjM Ms) hs [i]) hs) := by
    intro l
    induction l with
    | nil => intro hs _ _; rfl
    | cons i l ih =>
      intro hs h0 hl
      obtain ⟨e, ok⟩ := R.step hs i h0 (hl i List.mem_cons_self)
      rw [List.map_cons, List.foldl_cons, List.foldl_cons, e, ih _ ok fun j hj => hl j (List.mem_cons_of_mem _ hj)]
  have e : natL Ms = (List.range Ms.length).map fun (i : Nat) => nz (natL Ms) (i : Int) := by
    apply List.ext_getElem
    · rw [natL_len, List.length_map, List.length_range]
    · intro i h1 h2
      rw [natL_len] at h1
      rw [List.getElem_map, List.getElem_range, nz_nat, List.getD_eq_getElem?_getD, List.getElem?_eq_getElem h1]
      simp only [natL, List.getElem_map]; rfl
  have := key (List.range Ms.length) [] (fun A hA => by simp at hA) (fun i hi => List.mem_range.mp hi)
  rw [← e] at this
  unfold heapsP gHeaps
  rw [show (([] : List Int)) = imL Ms [] from rfl, this]
  unfold imL; rw [List.length_map]
theorem Rights.eulerP : ((choices (natL Ms)).map (signP (natL Ms))).sum = ((heapsP (natL Ms)).length : Int) := by
  have := R.euler
  unfold Mine.euler at this
  rw [R.sum, R.heaps]
  exact beq_iff_eq.mp this
omit R in
theorem common_bit (A : List Nat) : ∃ C : Nat, commonC (natL Ms) (natL A) = (C : Int) ∧ ∀ k, C.testBit k = true ↔ k < 7 ∧ ∀ a ∈ A, (Ms.getD a 0).testBit k = true := by
  have key : ∀ (A : List Nat) (m : Nat), ∃ C : Nat, (natL A).foldl (fun acc i => Builtin.bitAnd acc (nz (natL Ms) i)) (m : Int) = (C : Int) ∧ ∀ k, C.testBit k = true ↔ m.testBit k = true ∧ ∀ a ∈ A, (Ms.getD a 0).testBit k = true := by
    intro A
    induction A with
    | nil => intro m; exact ⟨m, rfl, fun k => by simp⟩
    | cons a A ih =>
      intro m
      obtain ⟨C, e, h⟩ := ih (m &&& Ms.getD a 0)
      refine ⟨C, ?_, fun k => ?_⟩
      · rw [← e, ← and_nat, ← nz_nat]; rfl
      · rw [h, Nat.testBit_and, Bool.and_eq_true]
        constructor
        · rintro ⟨⟨q1, q2⟩, q3⟩
          refine ⟨q1, fun x hx => ?_⟩
          rcases List.mem_cons.mp hx with rfl | hx
          · exact q2
          · exact q3 x hx
        · rintro ⟨q1, q2⟩
          exact ⟨⟨q1, q2 a List.mem_cons_self⟩, fun x hx => q2 x (List.mem_cons_of_mem _ hx)⟩
  obtain ⟨C, e, h⟩ := key A 127
  refine ⟨C, e, fun k => ?_⟩
  rw [h]
  have : (127 : Nat).testBit k = decide (k < 7) := by
    have := Nat.testBit_two_pow_sub_one 7 k
    exact this
  rw [this, decide_eq_true_eq]
theorem Rights.top_all {A : List Nat} (hne : A ≠ []) (hA : ∀ a ∈ A, a < Ms.length) (hc : clique (adjM Ms) A = true) : ∃ j ∈ A, (∀ i ∈ A, ts.getD i 0 ≤ ts.getD j 0) ∧ ∀ i ∈ A, (Ms.getD i 0).testBit (ts.getD j 0) = true := by
  obtain ⟨j, hj, hmax⟩ := max_at (fun i => ts.getD i 0) A hne
  refine ⟨j, hj, hmax, fun i hi => ?_⟩
  have a1 := List.all_eq_true.mp (List.all_eq_true.mp hc i hi) j hj
  rw [R.adj (hA i hi) (hA j hj)] at a1
  exact helly (R.sub i (hA i hi)) (R.sub j (hA j hj)) (hmax i hi) a1
theorem Rights.meet {c : Int} (hc : c ∈ choices (natL Ms)) : (commonP (natL Ms) c != 0) = meetP (natL Ms) c := by
  obtain ⟨A, hA, e⟩ := chosen_sub R.n hc
  obtain ⟨hne, hlt⟩ := subs_ok R.n A hA
  have e1 : commonP (natL Ms) c = commonC (natL Ms) (natL A) := by unfold commonP commonC; rw [e]
  have e2 : meetP (natL Ms) c = clique (adjM Ms) A := by rw [← R.meetC hlt]; unfold meetP Mine.meetC; rw [e]
  obtain ⟨C, eC, hC⟩ := common_bit (Ms := Ms) A
  rw [e1, e2, eC, nat_ne, Bool.eq_iff_iff, bne_iff_ne, nz_iff]
  constructor
  · rintro ⟨k, hk⟩
    obtain ⟨k7, hall⟩ := (hC k).mp hk
    exact List.all_eq_true.mpr fun i hi => List.all_eq_true.mpr fun j hj => by
      rw [R.adj (hlt i hi) (hlt j hj)]; exact mt_iff.mpr ⟨k, hall i hi, hall j hj⟩
  · intro h
    obtain ⟨j, hj, _, hall⟩ := R.top_all hne hlt h
    exact ⟨ts.getD j 0, (hC _).mpr ⟨(R.sub j (hlt j hj)).ht, hall⟩⟩
omit R in
theorem pairGt_le {p q : Int × Str} (h : pairGt p q = true) : q.1 ≤ p.1 := by
  unfold pairGt at h
  split at h
  · rename_i e; rw [beq_iff_eq.mp e]; exact Int.le_refl _
  · have := of_decide_eq_true h; omega
omit R in
theorem pairGt_ge {p q : Int × Str} (h : ¬ pairGt p q = true) : p.1 ≤ q.1 := by
  unfold pairGt at h
  split at h
  · rename_i e; rw [beq_iff_eq.mp e]; exact Int.le_refl _
  · have : ¬ p.1 > q.1 := fun e => h (decide_eq_true e)
    omega
omit R in
theorem best_fst (ps : List (Int × Str)) (d : Int × Str) : ∀ k i, i ≤ k → (ps.getD i d).1 ≤ (ps.getD (argBest (fun i j => pairGt (ps.getD i d) (ps.getD j d)) k) d).1
  | 0, i, h => by obtain rfl : i = 0 := by omega
                  exact Int.le_refl _
  | k + 1, i, h => by
    have ih := best_fst ps d k
    unfold argBest
    split
    · rename_i q
      have q' := pairGt_le q
      rcases Nat.lt_or_ge i (k + 1) with hi | hi
      · have := ih i (by omega); omega
      · obtain rfl : i = k + 1 := by omega
        exact Int.le_refl _
    · rename_i q
      rcases Nat.lt_or_ge i (k + 1) with hi | hi
      · exact ih i (by omega)
      · obtain rfl : i = k + 1 := by omega
        exact pairGt_ge q
theorem Rights.low (T : Tree par) {c : Int} (hc : c ∈ choices (natL Ms)) (hm : meetP (natL Ms) c = true) {wsz : Nat → Str} (hw : ∀ k, k < 7 → wsz k = wy par k) :
    (r07.any fun k => (wsz k.toNat == lowestP (natL Ms) (ts.map (wy par)) c) && (Builtin.bitAnd ((commonP (natL Ms) c).fdiv (2 ^ k.toNat)) 1 == 1)) = true := by
  obtain ⟨A, hA, e⟩ := chosen_sub R.n hc
  obtain ⟨hne, hlt⟩ := subs_ok R.n A hA
  have e1 : commonP (natL Ms) c = commonC (natL Ms) (natL A) := by unfold commonP commonC; rw [e]
  have e2 : meetP (natL Ms) c = clique (adjM Ms) A := by rw [← R.meetC hlt]; unfold meetP Mine.meetC; rw [e]
  rw [e2] at hm
  obtain ⟨C, eC, hC⟩ := common_bit (Ms := Ms) A
  obtain ⟨j, hj, hmax, hall⟩ := R.top_all hne hlt hm
  have hj7 := (R.sub j (hlt j hj)).ht
  have sz_at : ∀ i, i < Ms.length → sz (ts.map (wy par)) (i : Int) = wy par (ts.getD i 0) := fun i hi => by
    unfold sz
    rw [Int.toNat_natCast, getD_map (d := 0) (wy par) (by rw [R.len]; exact hi)]
  have hlow : lowestP (natL Ms) (ts.map (wy par)) c = wy par (ts.getD j 0) := by
    have ep : ((natL A).map fun i => (((sz (ts.map (wy par)) i).length : Int), sz (ts.map (wy par)) i)) = A.map fun a => (((wy par (ts.getD a 0)).length : Int), wy par (ts.getD a 0)) := by
      unfold natL
      rw [List.map_map]
      exact List.map_congr_left fun a ha => by simp only [Function.comp]; rw [sz_at a (hlt a ha)]
    unfold lowestP
    rw [e, ep]
    unfold maxPP
    rw [List.length_map]
    have hpos : 0 < A.length := List.length_pos_iff.mpr hne
    have hb := best_fst (A.map fun a => (((wy par (ts.getD a 0)).length : Int), wy par (ts.getD a 0))) (0, Str.empty) (A.length - 1)
    have hble := argBest_le (fun i j => pairGt ((A.map fun a => (((wy par (ts.getD a 0)).length : Int), wy par (ts.getD a 0))).getD i (0, Str.empty)) ((A.map fun a => (((wy par (ts.getD a 0)).length : Int), wy par (ts.getD a 0))).getD j (0, Str.empty))) (A.length - 1)
    generalize argBest (fun i j => pairGt ((A.map fun a => (((wy par (ts.getD a 0)).length : Int), wy par (ts.getD a 0))).getD i (0, Str.empty)) ((A.map fun a => (((wy par (ts.getD a 0)).length : Int), wy par (ts.getD a 0))).getD j (0, Str.empty))) (A.length - 1) = b at hb hble
    obtain ⟨i, hi, rfl⟩ := ex_getD (d := 0) hj
    have h1 := hb i (by omega)
    rw [getD_map (d := 0) _ (by omega), getD_map (d := 0) _ (by omega)] at h1
    rw [getD_map (d := 0) _ (by omega)]
    dsimp only at h1 ⊢
    have hbA : A.getD b 0 ∈ A := getD_mem (by omega)
    have hA1 : An par (ts.getD (A.getD b 0) 0) (ts.getD (A.getD i 0) 0) := ((R.sub _ (hlt _ hbA)).mem _ (hall _ hbA)).2
    by_cases q : ts.getD (A.getD b 0) 0 = ts.getD (A.getD i 0) 0
    · rw [q]
    · exfalso
      have := len_An T 7 _ _ hj7 (R.sub _ (hlt _ hbA)).ht hj7 hA1 q
      unfold wy at h1
      omega
  rw [List.any_eq_true]
  refine ⟨((ts.getD j 0 : Nat) : Int), ?_, ?_⟩
  · generalize ts.getD j 0 = k at hj7
    obtain rfl | rfl | rfl | rfl | rfl | rfl | rfl : k = 0 ∨ k = 1 ∨ k = 2 ∨ k = 3 ∨ k = 4 ∨ k = 5 ∨ k = 6 := by omega
    all_goals decide
  · rw [hlow, e1, eC, (bit_at C _).1, Int.toNat_natCast, hw _ hj7, beq_self_eq_true, Bool.true_and]
    exact (hC _).mpr ⟨hj7, hall⟩
end
end

-- Q11
section
open PySem PySem.W PyProof.Rows PySem.Calls
set_option maxRecDepth 100000
set_option maxHeartbeats 4000000
noncomputable def tblC (r : Nat) : List Str := [Str.ofString "d", Str.ofString "-", Str.ofString "-", Str.ofString "-", Str.ofString "-", if r.testBit 4 then Str.ofString "w" else Str.ofString "-", if r.testBit 3 then Str.ofString "x" else Str.ofString "-", if r.testBit 2 then Str.ofString "r" else Str.ofString "-", if r.testBit 1 then Str.ofString "w" else Str.ofString "-", if r.testBit 0 then Str.ofString "x" else Str.ofString "-"]
noncomputable def tblM (r : Nat) : Str := Txt.join (Str.ofString "") (tblC r)
theorem t_chars : ((List.range 32).all fun r => charsT (16384 + (r : Int)) 10 == tblC r) = true := by decide +kernel
theorem t_mode : ((List.range 32).all fun r => decide (((tblC r).map (·.length)).sum ≤ 1000) && decide ((tblM r).length = 10) && ((Txt.slice (tblM r) none (some 5)).cps.toList == (Str.ofString "d----").cps.toList) &&
    (List.range 5).all fun j => (chS (tblM r) (9 - (j : Int)) == if r.testBit j then chS patS (9 - (j : Int)) else dashS) && (neS (chS (tblM r) (9 - (j : Int))) dashS == r.testBit j)) = true := by decide +kernel
theorem mode_r (v : Int) : ∃ r : Nat, r < 32 ∧ modeI v = 16384 + (r : Int) ∧ ∀ j : Nat, j < 5 → (Builtin.bitAnd ((v.fdiv 60).fdiv (2 ^ j)) 1 != 0) = r.testBit j := by
  generalize hq : v.fdiv 60 = q
  have h0 : 0 ≤ q.fmod 32 := Int.fmod_nonneg_of_pos q (by decide)
  have h1 : q.fmod 32 < 32 := Int.fmod_lt_of_pos q (by decide)
  refine ⟨(q.fmod 32).toNat, by omega, by unfold modeI; rw [hq]; omega, fun j hj => ?_⟩
  rw [bitAnd_m1, Nat.testBit_eq_decide_div_mod_eq]
  have hf : q.fmod 32 = q % 32 := Int.fmod_eq_emod_of_nonneg q (by decide)
  have hd : q.fdiv (2 ^ j) = q / 2 ^ j := Int.fdiv_eq_ediv_of_nonneg q (Int.le_of_lt (Int.pow_pos (by decide)))
  rw [hf, hd, Bool.eq_iff_iff, bne_iff_ne, decide_eq_true_eq]
  have : ((q % 32).toNat : Int) = q % 32 := by omega
  obtain rfl | rfl | rfl | rfl | rfl : j = 0 ∨ j = 1 ∨ j = 2 ∨ j = 3 ∨ j = 4 := by omega
  all_goals (simp only [Int.reducePow, Nat.reducePow]; omega)
theorem mode_all (v : Int) : ((charsT (modeI v) 10).map (·.length)).sum ≤ 1000 ∧ (modeS (modeI v)).length = 10 ∧ (Txt.slice (modeS (modeI v)) none (some 5)).cps.toList = (Str.ofString "d----").cps.toList ∧
    ∀ p : Int, 5 ≤ p → p < 10 → chS (modeS (modeI v)) p = (if (Builtin.bitAnd ((v.fdiv 60).fdiv (2 ^ (9 - p).toNat)) 1 != 0) then chS patS p else dashS) ∧ neS (chS (modeS (modeI v)) p) dashS = (Builtin.bitAnd ((v.fdiv 60).fdiv (2 ^ (9 - p).toNat)) 1 != 0) := by
  obtain ⟨r, hr, e, hb⟩ := mode_r v
  rw [e]
  have hc := beq_iff_eq.mp (List.all_eq_true.mp t_chars r (List.mem_range.mpr hr))
  have hm : modeS (16384 + (r : Int)) = tblM r := by unfold modeS tblM; rw [hc]
  rw [hc, hm]
  have := List.all_eq_true.mp t_mode r (List.mem_range.mpr hr)
  simp only [Bool.and_eq_true, decide_eq_true_eq] at this
  obtain ⟨⟨⟨h1, h2⟩, h3⟩, h4⟩ := this
  refine ⟨h1, h2, beq_iff_eq.mp h3, fun p p5 p9 => ?_⟩
  have := List.all_eq_true.mp h4 (9 - p).toNat (List.mem_range.mpr (by omega))
  rw [Bool.and_eq_true, beq_iff_eq, beq_iff_eq] at this
  have ep : (9 : Int) - ((9 - p).toNat : Int) = p := by omega
  rw [ep] at this
  rw [hb (9 - p).toNat (by omega)]
  exact this

/-- the tree of the numbers -/
noncomputable def parN (N : List Int) (k : Nat) : Nat := (nz (aboveP N) (k : Int)).toNat
theorem tree_of (N : List Int) : Tree (parN N) := ⟨fun k h1 h7 => by
  have := above_lt (N := N) (k := (k : Int)) (by omega) (by omega)
  unfold parN; omega⟩
theorem par_at (N : List Int) (k : Nat) (h1 : 1 ≤ k) (h7 : k < 7) : nz (aboveP N) (k : Int) = (parN N k : Int) := by
  have := above_lt (N := N) (k := (k : Int)) (by omega) (by omega)
  unfold parN; omega
theorem way_at (N : List Int) : ∀ (n k : Nat), k < n → k < 7 → sz (ways N) (k : Int) = wy (parN N) k
  | 0, _, h, _ => absurd h (Nat.not_lt_zero _)
  | n + 1, k, hn, h7 => by
    rcases Nat.eq_zero_or_pos k with rfl | h1
    · have := way_pre (aboveP N) 0 (by omega) 0 (by decide)
      unfold ways
      rw [show ((0 : Nat) : Int) = 0 from rfl, ← this]
      unfold wy
      rw [pm_zero, t_p0]
      simp only [List.take_zero, List.foldl_nil, sz, Int.toNat_zero, List.getD_cons_zero]
    · have T := tree_of N
      have hlt := T.lt k h1 h7
      obtain ⟨i, rfl⟩ : ∃ i, k = i + 1 := ⟨k - 1, by omega⟩
      have e1 := way_pre (aboveP N) (i + 1) (by omega) ((i + 1 : Nat) : Int) (by omega)
      unfold ways
      rw [← e1]
      have hk : r16[i]? = some ((i + 1 : Nat) : Int) := by
        obtain rfl | rfl | rfl | rfl | rfl | rfl : i = 0 ∨ i = 1 ∨ i = 2 ∨ i = 3 ∨ i = 4 ∨ i = 5 := by omega
        all_goals rfl
      have hst : (r16.take (i + 1)).foldl (wayStep (aboveP N)) [sl] = wayStep (aboveP N) ((r16.take i).foldl (wayStep (aboveP N)) [sl]) ((i + 1 : Nat) : Int) := by
        rw [List.take_add_one, hk, List.foldl_append]; rfl
      rw [hst]
      have hl := way_len (aboveP N) i (by omega)
      have e2 : sz ((r16.take i).foldl (wayStep (aboveP N)) [sl] ++ [joinS (sz ((r16.take i).foldl (wayStep (aboveP N)) [sl]) (nz (aboveP N) ((i + 1 : Nat) : Int))) (strI ((i + 1 : Nat) : Int))]) ((i + 1 : Nat) : Int) = joinS (sz ((r16.take i).foldl (wayStep (aboveP N)) [sl]) (nz (aboveP N) ((i + 1 : Nat) : Int))) (strI ((i + 1 : Nat) : Int)) := by
        unfold sz
        rw [Int.toNat_natCast, List.getD_eq_getElem?_getD, List.getElem?_append_right (by omega), hl]
        simp
      rw [show ∀ ws k, wayStep (aboveP N) ws k = ws ++ [joinS (sz ws (nz (aboveP N) k)) (strI k)] from fun _ _ => rfl, e2, par_at N (i + 1) (by omega) h7, way_pre (aboveP N) i (by omega) _ (by omega)]
      have ih := way_at N n (parN N (i + 1)) (by omega) (by omega)
      unfold ways at ih
      rw [ih]
      have hj := join_of T (k := i + 1) (by omega) h7
      unfold wy
      exact hj
theorem ways_eq (N : List Int) : ways N = (List.range 7).map (wy (parN N)) := by
  apply List.ext_getElem
  · rw [ways_len, List.length_map, List.length_range]
  · intro i h1 h2
    rw [ways_len] at h1
    have := way_at N 7 i h1 h1
    unfold sz at this
    rw [Int.toNat_natCast, List.getD_eq_getElem?_getD, List.getElem?_eq_getElem (by rw [ways_len]; exact h1), Option.getD_some] at this
    rw [List.getElem_map, List.getElem_range, ← this]
noncomputable def hN (N : List Int) (p : Int) : List Nat := (List.range 7).filter fun k => Builtin.bitAnd (((nz N (k : Int)).fdiv 60).fdiv (2 ^ (9 - p).toNat)) 1 != 0
theorem having_eq (N : List Int) (p : Int) : havingP N p = natL (hN N p) := by
  unfold havingP hN natL
  rw [show r07 = (List.range 7).map fun (k : Nat) => (k : Int) from rfl, List.filter_map]; rfl
theorem hN_lt {N : List Int} {p : Int} : ∀ h ∈ hN N p, h < 7 := fun h hh => List.mem_range.mp (List.mem_filter.mp hh).1
theorem hN_nodup (N : List Int) (p : Int) : (hN N p).Nodup := List.Nodup.sublist List.filter_sublist List.nodup_range
theorem hN_len (N : List Int) (p : Int) : (hN N p).length ≤ 7 := Nat.le_trans (List.length_filter_le _ _) (by simp)
theorem rows_eq {N : List Int} (hl : N.length = 7) : rowsP N = (List.range 7).map fun (k : Nat) => modeS (modeI (nz N (k : Int))) := by
  have : N = (List.range 7).map fun (k : Nat) => nz N (k : Int) := by
    apply List.ext_getElem
    · rw [hl, List.length_map, List.length_range]
    · intro i h1 h2
      rw [List.getElem_map, List.getElem_range]
      unfold nz
      rw [Int.toNat_natCast, List.getD_eq_getElem?_getD, List.getElem?_eq_getElem h1]; rfl
  unfold rowsP
  conv => lhs; rw [this]
  rw [List.map_map]; rfl
theorem zip_map2 {α β γ : Type} (f : α → β) (g : α → γ) : ∀ l : List α, (l.map f).zip (l.map g) = l.map fun a => (f a, g a)
  | [] => rfl
  | a :: l => by rw [List.map_cons, List.map_cons, List.zip_cons_cons, zip_map2 f g l, List.map_cons]
theorem hv_eq {N : List Int} (hl : N.length = 7) {p : Int} (h5 : 5 ≤ p) (h9 : p < 10) : hvWays N p = (hN N p).map (wy (parN N)) := by
  unfold hvWays hN
  rw [ways_eq, rows_eq hl, zip_map2, List.filter_map, List.map_map]
  have : (fun q : Str × Str => neS (chS q.2 p) dashS) ∘ (fun a : Nat => (wy (parN N) a, modeS (modeI (nz N (a : Int))))) = fun k : Nat => Builtin.bitAnd (((nz N (k : Int)).fdiv 60).fdiv (2 ^ (9 - p).toNat)) 1 != 0 := by
    funext k
    simp only [Function.comp]
    rw [((mode_all (nz N (k : Int))).2.2.2 p h5 h9).2]
  rw [this]
  refine List.map_congr_left fun k _ => ?_
  simp only [Function.comp]
end

-- Q12
section
open PySem PySem.W PyProof.Rows PySem.Calls
set_option maxRecDepth 100000
set_option maxHeartbeats 4000000
theorem natL_mem {l : List Nat} {k : Nat} : (k : Int) ∈ natL l ↔ k ∈ l := by
  unfold natL
  rw [List.mem_map]
  constructor
  · rintro ⟨m, hm, e⟩
    have : m = k := by omega
    exact this ▸ hm
  · intro h; exact ⟨k, h, rfl⟩
theorem toP_nat {N : List Int} {p k : Int} (h : k ∈ toP N p) : ∃ m : Nat, k = (m : Int) ∧ m < 7 := by
  have := toP_mem h
  exact ⟨k.toNat, by omega, by omega⟩
theorem toP_nodup (N : List Int) (p : Int) : (toP N p).Nodup := by
  unfold toP
  split
  · exact List.nodup_nil
  · exact List.Nodup.sublist List.filter_sublist (by decide)
theorem toP_self (N : List Int) (p : Int) : toP N p = r07.filter fun k => decide (k ∈ toP N p) := by
  unfold toP
  split
  · simp
  · unfold betweenP
    refine List.filter_congr fun k hk => ?_
    rw [Bool.eq_iff_iff, decide_eq_true_eq, List.mem_filter]
    exact ⟨fun h => ⟨hk, h⟩, fun h => h.2⟩
theorem map_nodup {α β : Type} {f : α → β} {l : List α} (h : l.Nodup) (hf : ∀ a ∈ l, ∀ b ∈ l, f a = f b → a = b) : (l.map f).Nodup := by
  induction l with
  | nil => exact List.nodup_nil
  | cons a l ih =>
    rw [List.nodup_cons] at h
    rw [List.map_cons, List.nodup_cons]
    refine ⟨fun q => ?_, ih h.2 fun x hx y hy => hf x (List.mem_cons_of_mem _ hx) y (List.mem_cons_of_mem _ hy)⟩
    obtain ⟨b, hb, e⟩ := List.mem_map.mp q
    have := hf b (List.mem_cons_of_mem _ hb) a List.mem_cons_self e
    exact h.1 (this ▸ hb)

/-- what is so of one right -/
structure One (N : List Int) (p : Int) : Prop where
  nodup : (foP N p).Nodup
  mem : ∀ x, x ∈ foP N p ↔ ∃ k : Nat, k < 7 ∧ x = wy (parN N) k ∧ (k : Int) ∈ toP N p
  ne : (foP N p).isEmpty = false → ∃ t, t < 7 ∧ (foP N p).getLastD Str.empty = wy (parN N) t ∧ ∀ M : Nat, (∀ k : Nat, M.testBit k = true ↔ k < 7 ∧ (k : Int) ∈ toP N p) → Sub (parN N) t M
  cp : hvWays N p ≠ [] → CpOk (hvWays N p)
theorem one_of {N : List Int} (hl : N.length = 7) {p : Int} (h5 : 5 ≤ p) (h9 : p < 10) : One N p := by
  have T := tree_of N
  have hv := hv_eq hl h5 h9
  by_cases hne : hN N p = []
  · have f0 : foP N p = [] := by unfold foP livesS; rw [hv, hne]; rfl
    have t0 : toP N p = [] := by unfold toP; rw [having_eq, hne]; rfl
    exact {
      nodup := by rw [f0]; exact List.nodup_nil
      mem := fun x => by rw [f0, t0]; simp
      ne := fun h => by rw [f0] at h; cases h
      cp := fun h => by rw [hv, hne] at h; exact absurd rfl h }
  · obtain ⟨ok, t, ht, hAll, hBig, nd, hm, hlast, hemp⟩ := lives_of T hne hN_lt (hN_len N p)
    have hbt := between_of T (hN_nodup N p) hN_lt (par_at N) ht hAll hBig
    have ef : foP N p = livesS ((hN N p).map (wy (parN N))) := by unfold foP; rw [hv]
    have et : toP N p = betweenP (aboveP N) (natL (hN N p)) := by
      unfold toP
      rw [having_eq, if_neg]
      intro q
      have := List.isEmpty_iff.mp q
      unfold natL at this
      exact hne (List.map_eq_nil_iff.mp this)
    have hto : ∀ k : Nat, k < 7 → ((k : Int) ∈ toP N p ↔ t ≤ k ∧ ∃ h ∈ hN N p, An (parN N) k h) := fun k hk => by rw [et]; exact hbt k hk
    exact {
      nodup := by rw [ef]; exact nd
      mem := fun x => by
        rw [ef, hm]
        constructor
        · rintro ⟨k, hk, e, a, b⟩; exact ⟨k, hk, e, (hto k hk).mpr ⟨a, b⟩⟩
        · rintro ⟨k, hk, e, a⟩; exact ⟨k, hk, e, (hto k hk).mp a⟩
      ne := fun _ => ⟨t, ht, by rw [ef]; exact hlast, fun M hM => {
        ht := ht
        top := (hM t).mpr ⟨ht, (hto t ht).mpr ⟨Nat.le_refl _, by
          obtain ⟨h, hh⟩ := List.exists_mem_of_ne_nil _ hne
          exact ⟨h, hh, hAll h hh⟩⟩⟩
        mem := fun k hk => by
          obtain ⟨k7, q⟩ := (hM k).mp hk
          obtain ⟨a, h, hh, b⟩ := (hto k k7).mp q
          exact ⟨k7, An.chain a (hAll h hh) b⟩
        dn := fun k a ha hk hA hta => by
          obtain ⟨k7, q⟩ := (hM k).mp hk
          obtain ⟨_, h, hh, b⟩ := (hto k k7).mp q
          exact (hM a).mpr ⟨ha, (hto a ha).mpr ⟨hta, h, hh, An.trans (An.le T ha k7 hA) hA b⟩⟩ }⟩
      cp := fun _ => by rw [hv]; exact ok }
theorem sz_way {N : List Int} {k : Nat} (h : k < 7) : sz (ways N) (k : Int) = wy (parN N) k := way_at N 7 k h h
theorem to_ways_mem {N : List Int} {p : Int} (O : One N p) (x : Str) : x ∈ (toP N p).map (fun k => sz (ways N) k) ↔ x ∈ foP N p := by
  rw [O.mem, List.mem_map]
  constructor
  · rintro ⟨k, hk, rfl⟩
    obtain ⟨m, rfl, hm⟩ := toP_nat hk
    exact ⟨m, hm, sz_way hm, hk⟩
  · rintro ⟨k, hk, rfl, h⟩
    exact ⟨(k : Int), h, sz_way hk⟩
theorem to_ways_nodup (N : List Int) (p : Int) : ((toP N p).map fun k => sz (ways N) k).Nodup := map_nodup (toP_nodup N p) fun a ha b hb e => by
  obtain ⟨m, rfl, hm⟩ := toP_nat ha
  obtain ⟨n, rfl, hn⟩ := toP_nat hb
  have e' : sz (ways N) (m : Int) = sz (ways N) (n : Int) := e
  rw [sz_way hm, sz_way hn] at e'
  rw [wy_inj (tree_of N) hm hn e']
theorem fol_of {N : List Int} {p : Int} (O : One N p) : (foP N p).length = (toP N p).length ∧ cmpS (foP N p) ((toP N p).map fun k => sz (ways N) k) = true := by
  have h1 : (foP N p).length = ((toP N p).map fun k => sz (ways N) k).length :=
    ((List.perm_ext_iff_of_nodup O.nodup (to_ways_nodup N p)).mpr fun x => (to_ways_mem O x).symm).length_eq
  rw [List.length_map] at h1
  exact ⟨h1, (cmp_iff O.nodup (to_ways_nodup N p)).mpr fun x => (to_ways_mem O x).symm⟩
theorem cmp_of {N : List Int} {p q : Int} (O : One N p) (O' : One N q) : cmpS (foP N p) (foP N q) = (toP N p == toP N q) := by
  have T := tree_of N
  rw [Bool.eq_iff_iff, cmp_iff O.nodup O'.nodup, beq_iff_eq]
  have key : ∀ {p q : Int}, One N p → One N q → (∀ x, x ∈ foP N p ↔ x ∈ foP N q) → ∀ k, k ∈ toP N p → k ∈ toP N q := fun {p q} O O' h k hk => by
    obtain ⟨m, rfl, hm⟩ := toP_nat hk
    obtain ⟨m', hm', e, h'⟩ := (O'.mem _).mp ((h _).mp ((O.mem _).mpr ⟨m, hm, rfl, hk⟩))
    rw [wy_inj T hm hm' e]; exact h'
  constructor
  · intro h
    rw [toP_self N p, toP_self N q]
    refine List.filter_congr fun k _ => decide_eq_decide.mpr ⟨key O O' h k, key O' O (fun x => (h x).symm) k⟩
  · intro h x
    rw [O.mem, O'.mem, h]
theorem mask_of {N : List Int} {p : Int} (O : One N p) : ∃ M : Nat, maskP N p = (M : Int) ∧ ∀ k : Nat, M.testBit k = true ↔ k < 7 ∧ (k : Int) ∈ toP N p := by
  obtain ⟨M, e, _, hM⟩ := mask_bit fun k => (foP N p).any fun q => q == sz (ways N) k
  refine ⟨M, e, fun k => ?_⟩
  rw [hM, Bool.and_eq_true, decide_eq_true_eq]
  refine and_congr_right fun hk => ?_
  rw [List.any_eq_true]
  constructor
  · rintro ⟨x, hx, e⟩
    obtain ⟨m, hm, rfl, h⟩ := (O.mem x).mp hx
    have e' := beq_iff_eq.mp e
    rw [sz_way hk] at e'
    rw [← wy_inj (tree_of N) hm hk e']; exact h
  · intro h
    exact ⟨wy (parN N) k, (O.mem _).mpr ⟨k, hk, rfl, h⟩, by rw [sz_way hk]; exact beq_self_eq_true _⟩
theorem rights_list {N : List Int} : ∀ L : List Int, (∀ p ∈ L, One N p ∧ (foP N p).isEmpty = false) →
    ∃ Ms ts : List Nat, L.map (maskP N) = natL Ms ∧ (L.map fun p => (foP N p).getLastD Str.empty) = ts.map (wy (parN N)) ∧ Ms.length = L.length ∧ ts.length = Ms.length ∧ ∀ i, i < Ms.length → Sub (parN N) (ts.getD i 0) (Ms.getD i 0)
  | [], _ => ⟨[], [], rfl, rfl, rfl, rfl, fun i hi => by simp at hi⟩
  | p :: L, h => by
    obtain ⟨O, hne⟩ := h p List.mem_cons_self
    obtain ⟨M, eM, hM⟩ := mask_of O
    obtain ⟨t, ht, et, hS⟩ := O.ne hne
    obtain ⟨Ms, ts, e1, e2, l1, l2, hs⟩ := rights_list L fun q hq => h q (List.mem_cons_of_mem _ hq)
    refine ⟨M :: Ms, t :: ts, ?_, ?_, by simp [l1], by simp [l2], fun i hi => ?_⟩
    · rw [List.map_cons, e1, eM]; rfl
    · rw [List.map_cons, e2, et]; rfl
    · cases i with
      | zero => exact hS M hM
      | succ i => exact hs i (by simpa using hi)
theorem dir_closed (m : Nat) (h : m < 64) : ∃ k, k < 64 ∧ dirS (Pm m) = Pm k := by
  rcases Nat.eq_zero_or_pos m with rfl | h0
  · exact ⟨0, by decide, t_dir0⟩
  · obtain ⟨b1, b2, b3⟩ := bl_of h
    obtain ⟨b4, b5⟩ := b3 (by omega)
    obtain ⟨j, hj⟩ : ∃ j, bl m = j + 1 := ⟨bl m - 1, by omega⟩
    rw [hj] at b1 b5
    rw [Nat.add_sub_cancel] at b5
    rw [Nat.pow_succ] at b1
    have := beq_iff_eq.mp (List.all_eq_true.mp (List.all_eq_true.mp t_dir j (List.mem_range.mpr (by omega))) (m - 2 ^ j) (List.mem_range.mpr (by omega)))
    rw [show m - 2 ^ j + 2 ^ j = m by omega] at this
    exact ⟨m - 2 ^ j, by omega, this⟩
theorem facts {N : List Int} (hl : N.length = 7) : Facts N := by
  have T := tree_of N
  have O : ∀ p : Int, 5 ≤ p → p < 10 → One N p := fun p h5 h9 => one_of hl h5 h9
  have hwl : ∀ k, k < 7 → (wy (parN N) k).length ≤ 20 := fun k hk => (good_of (pm_64 T hk)).2
  have hpl : ∀ p ∈ placesP N, One N p ∧ (foP N p).isEmpty = false := fun p hp => by
    unfold placesP at hp
    obtain ⟨h1, h2⟩ := List.mem_filter.mp hp
    have : 5 ≤ p ∧ p < 10 := by
      simp only [List.mem_cons, List.not_mem_nil, or_false] at h1
      rcases h1 with rfl | rfl | rfl | rfl | rfl <;> decide
    exact ⟨O p this.1 this.2, by simpa using h2⟩
  obtain ⟨Ms, ts, e1, e2, l1, l2, hs⟩ := rights_list (placesP N) hpl
  have eL : livesP N = natL Ms := e1
  have eT : topsP N = ts.map (wy (parN N)) := e2
  have h5 : Ms.length ≤ 5 := by rw [l1]; unfold placesP; exact List.length_filter_le _ _
  have R : Rights (parN N) Ms ts := ⟨l2, h5, hs⟩
  exact {
    above := {
      len := by unfold aboveP r16; rfl
      lo := fun k => by
        rcases Nat.lt_or_ge k.toNat 7 with h | h
        · have e : nz (aboveP N) k = nz (aboveP N) ((k.toNat : Nat) : Int) := rfl
          rw [e]
          rcases Nat.eq_zero_or_pos k.toNat with h0 | h0
          · rw [h0]; exact Int.le_refl _
          · exact (above_lt (N := N) (k := ((k.toNat : Nat) : Int)) (by omega) (by omega)).1
        · unfold nz
          rw [List.getD_eq_getElem?_getD, List.getElem?_eq_none (by exact h)]; exact Int.le_refl _
      hi := fun k => by
        rcases Nat.lt_or_ge k.toNat 7 with h | h
        · have e : nz (aboveP N) k = nz (aboveP N) ((k.toNat : Nat) : Int) := rfl
          rw [e]
          rcases Nat.eq_zero_or_pos k.toNat with h0 | h0
          · rw [h0]; show (0 : Int) < 7; decide
          · have := (above_lt (N := N) (k := ((k.toNat : Nat) : Int)) (by omega) (by omega)).2
            omega
        · unfold nz
          rw [List.getD_eq_getElem?_getD, List.getElem?_eq_none (by exact h)]; show (0 : Int) < 7; decide }
    wlen := fun i => by
      unfold sz
      rw [ways_eq, List.getD_eq_getElem?_getD]
      rcases Nat.lt_or_ge i.toNat 7 with h | h
      · rw [List.getElem?_eq_getElem (by simpa using h), List.getElem_map, List.getElem_range]
        have := hwl i.toNat h
        show (wy (parN N) i.toNat).length ≤ 64
        omega
      · rw [List.getElem?_eq_none (by simpa using h)]; decide
    wdir := ⟨fun x => ∃ m, m < 64 ∧ x = Pm m, fun x hx => by
      obtain ⟨m, hm, rfl⟩ := hx
      obtain ⟨k, hk, e⟩ := dir_closed m hm
      exact ⟨by have := (good_of hm).2; omega, k, hk, e⟩, fun x hx => by
      rw [ways_eq] at hx
      obtain ⟨k, hk, rfl⟩ := List.mem_map.mp hx
      exact ⟨_, pm_64 T (List.mem_range.mp hk), rfl⟩⟩
    mode := fun v _ => by
      obtain ⟨a, b, c, _⟩ := mode_all v
      exact ⟨a, b, c⟩
    row := fun p h5 h9 => by
      rw [rows_eq hl, List.map_map, show r07 = (List.range 7).map fun (k : Nat) => (k : Int) from rfl, List.map_map]
      refine List.map_congr_left fun k hk => ?_
      have hk7 := List.mem_range.mp hk
      simp only [Function.comp]
      rw [((mode_all (nz N (k : Int))).2.2.2 p h5 h9).1, having_eq]
      have : (natL (hN N p)).any (fun q => q == (k : Int)) = (Builtin.bitAnd (((nz N (k : Int)).fdiv 60).fdiv (2 ^ (9 - p).toNat)) 1 != 0) := by
        rw [Bool.eq_iff_iff, List.any_eq_true]
        constructor
        · rintro ⟨q, hq, e⟩
          rw [beq_iff_eq.mp e, natL_mem] at hq
          exact (List.mem_filter.mp hq).2
        · intro h
          exact ⟨(k : Int), natL_mem.mpr (List.mem_filter.mpr ⟨hk, h⟩), beq_self_eq_true _⟩
      rw [this]
    cp := fun p h5 h9 h => (O p h5 h9).cp h
    fol := fun p h5 h9 => fol_of (O p h5 h9)
    cmp := fun p h5 h9 => cmp_of (O (p + 1) (by omega) (by omega)) (O p h5 (by omega))
    meet := fun c hc => by rw [eL] at hc ⊢; exact R.meet hc
    low := fun c hc hm => by
      rw [eL] at hc hm ⊢
      rw [eT]
      exact R.low T hc hm (wsz := fun k => sz (ways N) (k : Int)) fun k hk => sz_way hk
    tlen := fun i => by
      rw [eT]
      unfold sz
      rw [List.getD_eq_getElem?_getD, List.getElem?_map]
      rcases Nat.lt_or_ge i.toNat ts.length with h | h
      · rw [List.getElem?_eq_getElem h]
        have hS := hs i.toNat (by omega)
        have : ts.getD i.toNat 0 = ts[i.toNat] := by rw [List.getD_eq_getElem?_getD, List.getElem?_eq_getElem h]; rfl
        rw [this] at hS
        have := hwl _ hS.ht
        show (wy (parN N) ts[i.toNat]).length ≤ 64
        omega
      · rw [List.getElem?_eq_none h]; show (0 : Nat) ≤ 64; decide
    euler := by rw [eL]; exact R.eulerP }
theorem numbers_len (script : List Int) : (numbersP script).length = 7 := by
  unfold numbersP
  rw [List.length_append, List.length_drop, List.length_take]
  show min 7 script.length + (7 - min 7 script.length) = 7
  omega
theorem facts_all (script : List Int) : Facts (numbersP script) := facts (numbers_len script)
end

-- C17
section
open PySem PySem.W PyProof.Rows PySem.Calls
set_option maxRecDepth 100000
set_option maxHeartbeats 8000000
theorem reps_of_ints {h : Heap} : ∀ {vs : List Value} {l : List Int}, IntsAre vs l → Reps h [] vs (intL l) := fun {vs l} hi => by
  induction hi with
  | nil => exact Reps.nil
  | cons n t _ ih => exact Reps.cons (.int n t) ih
theorem warmT : PySem.Challenge.rw_un0038_01 = PySem.Challenge.rw_un0038_01 ∧ frag = frag := by
  k_fill
  exact ⟨rfl, rfl⟩
theorem law_addr {w : World} {h : Heap} {mg : Str → Option Value} {fa : Addr} (X : (frag w.params).In h) (hg : h.Ns mainGlobals mg) (e : mg (Str.ofString "law") = some (.ref fa)) : fa = 220 := by
  have e2 : nsIn (frag w.params) mainGlobals (Str.ofString "law") = some (some (.ref 220)) := by k_is
  have := mg_of X hg e2
  rw [e] at this
  cases this; rfl
theorem top : PySem.Challenge.rw_un0038_01.Holds := by
  w_on
  refine holds_law said fun said => ?_
  refine holds_open (q := vw) (loose := lo) (XP := XL vw []) (YP := kH.says) (N := 3096) left kH.of kH.keeps (fun s e => xl_of s (Bool.and_eq_true_iff.mp e).1) XL.keeps (by rfl) (by rfl) (by rfl)
    (fun s e => recFacts_of (Bool.and_eq_true_iff.mp e).2) (by rfl) said (by decide +kernel) ⟨rfl, rfl, rfl, rfl, rfl, by decide +kernel⟩ ?hw ?hc
  case hw => w_witness2
  k_fill
  intro w s₀ s₁ mg mb G Y fa o pm cd doc dV kV ho hd hcd hD hmg hg args vals as hpre hlay hrd hwl hlo
  have KX := kIn_of Y
  have X := (Ground.X G).1
  have V := (Ground.X G).2
  refine Ground.open G ?_
  intro T B D TE TW
  try (refine guard_noD D (by decide +kernel) ?_; clear D)
  obtain ⟨_, _, M⟩ := bmod_of_top T
  have TA := at_of_top T
  wrow_args hpre hlay hrd hwl hlo
  all_goals (
    first | refine callC_kw (enter_call ?_) | refine enter_call ?_ | refine callC_kw (enter_callW ?_) | refine enter_callW ?_ | w_how
    w_top on
    try refine codeAny_mono ?_ (fun _ _ g => GoodW.toG g)
    have K0 := below_caller (Top.heap T)
    skip)
  have hlaw : mg (Str.ofString "law") = some (.ref fa) := hmg
  clear Y hD hcd hmg V X G TA TE TW B M
  rename_i N0 _ _ _ _ _ _ _ a vs _ hL _ _ _ hI _ hc _
  have B0 : Base w s₁.heap := ⟨KX, _, mg, mb, T⟩
  obtain rfl := law_addr KX T.g hlaw
  have hlen : N0.length ≤ 64 := by omega
  have hcode := law_c (A := callerA) (script := N0) B0 ⟨rfl, by decide +kernel, by decide +kernel⟩ rfl hlen (facts_all N0) [] s₁ [.ref a] (fun _ _ e => e) (fun x hx => by cases hx)
    (Reps.cons (.list (by simp) hL (reps_of_ints (h := s₁.heap) hI).1 (reps_of_ints hI).2) Reps.nil)
  refine codeAny_mono hcode (fun r s' q => ?_)
  obtain ⟨v, rfl, ⟨h', tk, rfl, hk⟩, hr⟩ := q
  cases hr
  refine ⟨.inl ⟨_, .bool true, [], rfl, raisesW_false ?_, .bool _, ?_, unshared_nil⟩, hk, rfl, hg⟩
  · wrow_none_raised
  · wrow_post
end

end Mine

theorem PySem.Challenge.cw_un0038_01_holds : PySem.Challenge.rw_un0038_01.Holds :=
  Mine.top
