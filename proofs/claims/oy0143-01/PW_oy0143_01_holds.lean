import PyProof.Rows.All
import Wide.All
import OpenK.AllK
import Wide.FinOn
import PySem.Challenge.RW_oy0143_01
set_option Elab.async false
section
open PySem PySem.W PyProof.Rows
set_option Elab.async false
set_option maxRecDepth 1000000
namespace Mine
/-! ### the top: its objects, and the head -/
noncomputable def stAt (l : List Stmt) (i : Nat) : Stmt := (l.drop i).headD (.Pass ⟨0, 0, 0, 0⟩)
noncomputable def stIn : Stmt → List Stmt
  | .ClassDef _ _ _ b _ _ _ _ _ _ _ => b
  | _ => []
noncomputable def stT (i : Nat) : Stmt := stAt PySem.Challenge.pw_oy0143_01.main.body i
noncomputable def stC (i j : Nat) : Stmt := stAt (stIn (stT i)) j
noncomputable def fnD (s : Stmt) (qual : Str) (mod code : Value) : Data := match s with
  | .FunctionDef n a b _ _ _ sc _ _ _ => .func ⟨n, qual, a, .stmts b, sc, 3, [], .none, .none, .none, mod, none, code, .none, 0⟩
  | _ => .plain
noncomputable def recD (s : Stmt) : DefRec := match s with
  | .FunctionDef n a b _ _ _ sc _ _ p => ⟨n, a, b, sc, p⟩
  | _ => ⟨.ofString "", ⟨[], [], none, [], [], none, []⟩, [], ⟨.function, [], false, false, []⟩, ⟨0, 0, 0, 0⟩⟩
set_option maxHeartbeats 4000000 in
/-- the top's objects -/
noncomputable def hdK (P : Params) : Frag :=
  [ (2,⟨.none,none,.dict #[] 0,#[]⟩),
    (3,⟨.type "dict",none,.dict #[⟨PySem.PyData.keyHash P (.ofString "__name__"),.str (.ofString "__name__") 165,.str (.ofString "law_oy0143_01") 383⟩,⟨PySem.PyData.keyHash P (.ofString "__doc__"),.str (.ofString "__doc__") 166,.none⟩,⟨PySem.PyData.keyHash P (.ofString "__package__"),.str (.ofString "__package__") 167,.none⟩,⟨PySem.PyData.keyHash P (.ofString "__loader__"),.str (.ofString "__loader__") 168,.builtin "__main__.__loader__#opaque"⟩,⟨PySem.PyData.keyHash P (.ofString "__spec__"),.str (.ofString "__spec__") 169,.none⟩,⟨PySem.PyData.keyHash P (.ofString "__annotations__"),.str (.ofString "__annotations__") 170,.ref 6⟩,⟨PySem.PyData.keyHash P (.ofString "__builtins__"),.str (.ofString "__builtins__") 171,.ref 4⟩,⟨PySem.PyData.keyHash P (.ofString "__file__"),.str (.ofString "__file__") 173,.str (.ofString "/claim/cut.py") 172⟩,⟨PySem.PyData.keyHash P (.ofString "__cached__"),.str (.ofString "__cached__") 174,.none⟩,⟨PySem.PyData.keyHash P (.ofString "_netrclex"),.str (.ofString "_netrclex") 246,.ref 52⟩,⟨PySem.PyData.keyHash P (.ofString "heappush"),.str (.ofString "heappush") 256,.ref 63⟩,⟨PySem.PyData.keyHash P (.ofString "heappop"),.str (.ofString "heappop") 265,.ref 70⟩,⟨PySem.PyData.keyHash P (.ofString "_siftdown"),.str (.ofString "_siftdown") 277,.ref 77⟩,⟨PySem.PyData.keyHash P (.ofString "_siftup"),.str (.ofString "_siftup") 290,.ref 84⟩,⟨PySem.PyData.keyHash P (.ofString "S_IMODE"),.str (.ofString "S_IMODE") 299,.ref 91⟩,⟨PySem.PyData.keyHash P (.ofString "S_IFMT"),.str (.ofString "S_IFMT") 306,.ref 98⟩,⟨PySem.PyData.keyHash P (.ofString "S_IFDIR"),.str (.ofString "S_IFDIR") 308,.int 16384 307⟩,⟨PySem.PyData.keyHash P (.ofString "S_IFCHR"),.str (.ofString "S_IFCHR") 310,.int 8192 309⟩,⟨PySem.PyData.keyHash P (.ofString "S_IFBLK"),.str (.ofString "S_IFBLK") 312,.int 24576 311⟩,⟨PySem.PyData.keyHash P (.ofString "S_IFREG"),.str (.ofString "S_IFREG") 314,.int 32768 313⟩,⟨PySem.PyData.keyHash P (.ofString "S_IFIFO"),.str (.ofString "S_IFIFO") 316,.int 4096 315⟩,⟨PySem.PyData.keyHash P (.ofString "S_IFLNK"),.str (.ofString "S_IFLNK") 318,.int 40960 317⟩,⟨PySem.PyData.keyHash P (.ofString "S_IFSOCK"),.str (.ofString "S_IFSOCK") 320,.int 49152 319⟩,⟨PySem.PyData.keyHash P (.ofString "S_ISUID"),.str (.ofString "S_ISUID") 322,.int 2048 321⟩,⟨PySem.PyData.keyHash P (.ofString "S_ISGID"),.str (.ofString "S_ISGID") 324,.int 1024 323⟩,⟨PySem.PyData.keyHash P (.ofString "S_ISVTX"),.str (.ofString "S_ISVTX") 326,.int 512 325⟩,⟨PySem.PyData.keyHash P (.ofString "S_IRUSR"),.str (.ofString "S_IRUSR") 328,.int 256 327⟩,⟨PySem.PyData.keyHash P (.ofString "S_IWUSR"),.str (.ofString "S_IWUSR") 330,.int 128 329⟩,⟨PySem.PyData.keyHash P (.ofString "S_IXUSR"),.str (.ofString "S_IXUSR") 332,.int 64 331⟩,⟨PySem.PyData.keyHash P (.ofString "S_IRGRP"),.str (.ofString "S_IRGRP") 334,.int 32 333⟩,⟨PySem.PyData.keyHash P (.ofString "S_IWGRP"),.str (.ofString "S_IWGRP") 336,.int 16 335⟩,⟨PySem.PyData.keyHash P (.ofString "S_IXGRP"),.str (.ofString "S_IXGRP") 338,.int 8 337⟩,⟨PySem.PyData.keyHash P (.ofString "S_IROTH"),.str (.ofString "S_IROTH") 340,.int 4 339⟩,⟨PySem.PyData.keyHash P (.ofString "S_IWOTH"),.str (.ofString "S_IWOTH") 342,.int 2 341⟩,⟨PySem.PyData.keyHash P (.ofString "S_IXOTH"),.str (.ofString "S_IXOTH") 344,.int 1 343⟩,⟨PySem.PyData.keyHash P (.ofString "_filemode_table"),.str (.ofString "_filemode_table") 370,.ref 131⟩,⟨PySem.PyData.keyHash P (.ofString "filemode"),.str (.ofString "filemode") 382,.ref 138⟩,⟨PySem.PyData.keyHash P (.ofString "_law_drawn"),.str (.ofString "_law_drawn") 390,.ref 143⟩,⟨PySem.PyData.keyHash P (.ofString "_law_row"),.str (.ofString "_law_row") 401,.ref 150⟩,⟨PySem.PyData.keyHash P (.ofString "_law_choices"),.str (.ofString "_law_choices") 407,.ref 155⟩,⟨PySem.PyData.keyHash P (.ofString "_law_cheapest"),.str (.ofString "_law_cheapest") 420,.ref 162⟩,⟨PySem.PyData.keyHash P (.ofString "_law_told"),.str (.ofString "_law_told") 430,.ref 169⟩,⟨PySem.PyData.keyHash P (.ofString "_law_written"),.str (.ofString "_law_written") 436,.ref 174⟩,⟨PySem.PyData.keyHash P (.ofString "_law_led"),.str (.ofString "_law_led") 447,.ref 181⟩,⟨PySem.PyData.keyHash P (.ofString "_law_round"),.str (.ofString "_law_round") 466,.ref 188⟩,⟨PySem.PyData.keyHash P (.ofString "_law_rounds"),.str (.ofString "_law_rounds") 486,.ref 195⟩,⟨PySem.PyData.keyHash P (.ofString "_law_by_heap"),.str (.ofString "_law_by_heap") 505,.ref 202⟩,⟨PySem.PyData.keyHash P (.ofString "_law_holds"),.str (.ofString "_law_holds") 511,.ref 207⟩,⟨PySem.PyData.keyHash P (.ofString "law"),.str (.ofString "law") 521,.ref 214⟩] 49,#[]⟩),
    (22,⟨.type "tuple",none,.seq #[] 0,#[]⟩),
    (24,⟨.type "tuple",none,.seq #[.str (.ofString "self") 204,.str (.ofString "fp") 205] 0,#[]⟩),
    (25,⟨.type "tuple",none,.seq #[] 0,#[]⟩),
    (27,⟨.type "code",none,.fields #[.str (.ofString "__init__") 201,.str (.ofString "_netrclex.__init__") 202,.str (.ofString "/claim/cut.py") 203,.int 4 0,.int 2 0,.int 0 0,.int 0 0,.int 3 0,.ref 22,.bool true,.int 181 0,.ref 23,.none,.ref 24,.ref 25,.ref 26,.int 206 0,.int 4 0,.str (.ofString "/claim/cut.py") 207],#[]⟩),
    (28,⟨.type "function",none,fnD (stC 1 0) (.ofString "_netrclex.__init__") (.str (.ofString "cpy313.netrc") 187) (.ref 27),#[]⟩),
    (29,⟨.type "tuple",none,.seq #[] 0,#[]⟩),
    (31,⟨.type "tuple",none,.seq #[.str (.ofString "self") 212,.str (.ofString "ch") 213] 0,#[]⟩),
    (32,⟨.type "tuple",none,.seq #[] 0,#[]⟩),
    (34,⟨.type "code",none,.fields #[.str (.ofString "_read_char") 209,.str (.ofString "_netrclex._read_char") 210,.str (.ofString "/claim/cut.py") 211,.int 10 0,.int 1 0,.int 0 0,.int 0 0,.int 3 0,.ref 29,.bool true,.int 181 0,.ref 30,.none,.ref 31,.ref 32,.ref 33,.int 214 0,.int 10 0,.str (.ofString "/claim/cut.py") 215],#[]⟩),
    (35,⟨.type "function",none,fnD (stC 1 1) (.ofString "_netrclex._read_char") (.str (.ofString "cpy313.netrc") 187) (.ref 34),#[]⟩),
    (36,⟨.type "tuple",none,.seq #[] 0,#[]⟩),
    (38,⟨.type "tuple",none,.seq #[.str (.ofString "self") 220,.str (.ofString "token") 221,.str (.ofString "fiter") 222,.str (.ofString "ch") 223] 0,#[]⟩),
    (39,⟨.type "tuple",none,.seq #[] 0,#[]⟩),
    (41,⟨.type "code",none,.fields #[.str (.ofString "get_token") 217,.str (.ofString "_netrclex.get_token") 218,.str (.ofString "/claim/cut.py") 219,.int 16 0,.int 1 0,.int 0 0,.int 0 0,.int 3 0,.ref 36,.bool true,.int 181 0,.ref 37,.none,.ref 38,.ref 39,.ref 40,.int 224 0,.int 16 0,.str (.ofString "/claim/cut.py") 225],#[]⟩),
    (42,⟨.type "function",none,fnD (stC 1 2) (.ofString "_netrclex.get_token") (.str (.ofString "cpy313.netrc") 187) (.ref 41),#[]⟩),
    (43,⟨.type "tuple",none,.seq #[] 0,#[]⟩),
    (45,⟨.type "tuple",none,.seq #[.str (.ofString "self") 230,.str (.ofString "token") 231] 0,#[]⟩),
    (46,⟨.type "tuple",none,.seq #[] 0,#[]⟩),
    (48,⟨.type "code",none,.fields #[.str (.ofString "push_token") 227,.str (.ofString "_netrclex.push_token") 228,.str (.ofString "/claim/cut.py") 229,.int 43 0,.int 2 0,.int 0 0,.int 0 0,.int 3 0,.ref 43,.bool true,.int 181 0,.ref 44,.none,.ref 45,.ref 46,.ref 47,.int 232 0,.int 43 0,.str (.ofString "/claim/cut.py") 233],#[]⟩),
    (49,⟨.type "function",none,fnD (stC 1 3) (.ofString "_netrclex.push_token") (.str (.ofString "cpy313.netrc") 187) (.ref 48),#[]⟩),
    (50,⟨.type "tuple",none,.seq #[.str (.ofString "instream") 235,.str (.ofString "lineno") 236,.str (.ofString "pushback") 237,.str (.ofString "whitespace") 238] 0,#[]⟩),
    (51,⟨.type "dict",none,.dict #[⟨PySem.PyData.keyHash P (.ofString "__module__"),.str (.ofString "__module__") 196,.str (.ofString "cpy313.netrc") 187⟩,⟨PySem.PyData.keyHash P (.ofString "__firstlineno__"),.str (.ofString "__firstlineno__") 200,.int 2 199⟩,⟨PySem.PyData.keyHash P (.ofString "__init__"),.str (.ofString "__init__") 208,.ref 28⟩,⟨PySem.PyData.keyHash P (.ofString "_read_char"),.str (.ofString "_read_char") 216,.ref 35⟩,⟨PySem.PyData.keyHash P (.ofString "get_token"),.str (.ofString "get_token") 226,.ref 42⟩,⟨PySem.PyData.keyHash P (.ofString "push_token"),.str (.ofString "push_token") 234,.ref 49⟩,⟨PySem.PyData.keyHash P (.ofString "__static_attributes__"),.str (.ofString "__static_attributes__") 239,.ref 50⟩,⟨PySem.PyData.keyHash P (.ofString "__dict__"),.str (.ofString "__dict__") 241,.ref 53⟩,⟨PySem.PyData.keyHash P (.ofString "__weakref__"),.str (.ofString "__weakref__") 243,.ref 54⟩,⟨PySem.PyData.keyHash P (.ofString "__doc__"),.str (.ofString "__doc__") 244,.none⟩] 4,#[]⟩),
    (52,⟨.type "type",none,.cls ⟨.ofString "_netrclex",[.type "object"],[.ref 52,.type "object"],51,.ofString "_netrclex",true,[],[],false,none,false⟩,#[none,none,some (.str (.ofString "_netrclex") 189),some (.str (.ofString "_netrclex") 197),some (.builtin "object.__new__"),some (.bool true)]⟩),
    (53,⟨.type "getset_descriptor",none,.fields #[.str (.ofString "__dict__") 240,.ref 52,.builtin "function.__dict__",.builtin "function.__dict__#set"],#[]⟩),
    (54,⟨.type "getset_descriptor",none,.fields #[.str (.ofString "__weakref__") 242,.ref 52,.builtin "ExceptionGroup.__weakref__",.none],#[]⟩),
    (57,⟨.type "tuple",none,.seq #[] 0,#[]⟩),
    (59,⟨.type "tuple",none,.seq #[.str (.ofString "heap") 252,.str (.ofString "item") 253] 0,#[]⟩),
    (60,⟨.type "tuple",none,.seq #[] 0,#[]⟩),
    (62,⟨.type "code",none,.fields #[.str (.ofString "heappush") 249,.str (.ofString "heappush") 250,.str (.ofString "/claim/cut.py") 251,.int 46 0,.int 2 0,.int 0 0,.int 0 0,.int 3 0,.ref 57,.bool true,.int 181 0,.ref 58,.none,.ref 59,.ref 60,.ref 61,.int 254 0,.int 46 0,.str (.ofString "/claim/cut.py") 255],#[]⟩),
    (63,⟨.type "function",none,fnD (stT 3) (.ofString "heappush") (.str (.ofString "cpy313.heapq") 247) (.ref 62),#[]⟩),
    (64,⟨.type "tuple",none,.seq #[] 0,#[]⟩),
    (66,⟨.type "tuple",none,.seq #[.str (.ofString "heap") 260,.str (.ofString "lastelt") 261,.str (.ofString "returnitem") 262] 0,#[]⟩),
    (67,⟨.type "tuple",none,.seq #[] 0,#[]⟩),
    (69,⟨.type "code",none,.fields #[.str (.ofString "heappop") 257,.str (.ofString "heappop") 258,.str (.ofString "/claim/cut.py") 259,.int 49 0,.int 1 0,.int 0 0,.int 0 0,.int 3 0,.ref 64,.bool true,.int 181 0,.ref 65,.none,.ref 66,.ref 67,.ref 68,.int 263 0,.int 49 0,.str (.ofString "/claim/cut.py") 264],#[]⟩),
    (70,⟨.type "function",none,fnD (stT 4) (.ofString "heappop") (.str (.ofString "cpy313.heapq") 247) (.ref 69),#[]⟩),
    (71,⟨.type "tuple",none,.seq #[] 0,#[]⟩),
    (73,⟨.type "tuple",none,.seq #[.str (.ofString "heap") 269,.str (.ofString "startpos") 270,.str (.ofString "pos") 271,.str (.ofString "newitem") 272,.str (.ofString "parentpos") 273,.str (.ofString "parent") 274] 0,#[]⟩),
    (74,⟨.type "tuple",none,.seq #[] 0,#[]⟩),
    (76,⟨.type "code",none,.fields #[.str (.ofString "_siftdown") 266,.str (.ofString "_siftdown") 267,.str (.ofString "/claim/cut.py") 268,.int 57 0,.int 3 0,.int 0 0,.int 0 0,.int 3 0,.ref 71,.bool true,.int 181 0,.ref 72,.none,.ref 73,.ref 74,.ref 75,.int 275 0,.int 57 0,.str (.ofString "/claim/cut.py") 276],#[]⟩),
    (77,⟨.type "function",none,fnD (stT 5) (.ofString "_siftdown") (.str (.ofString "cpy313.heapq") 247) (.ref 76),#[]⟩),
    (78,⟨.type "tuple",none,.seq #[] 0,#[]⟩),
    (80,⟨.type "tuple",none,.seq #[.str (.ofString "heap") 281,.str (.ofString "pos") 282,.str (.ofString "endpos") 283,.str (.ofString "startpos") 284,.str (.ofString "newitem") 285,.str (.ofString "childpos") 286,.str (.ofString "rightpos") 287] 0,#[]⟩),
    (81,⟨.type "tuple",none,.seq #[] 0,#[]⟩),
    (83,⟨.type "code",none,.fields #[.str (.ofString "_siftup") 278,.str (.ofString "_siftup") 279,.str (.ofString "/claim/cut.py") 280,.int 68 0,.int 2 0,.int 0 0,.int 0 0,.int 3 0,.ref 78,.bool true,.int 181 0,.ref 79,.none,.ref 80,.ref 81,.ref 82,.int 288 0,.int 68 0,.str (.ofString "/claim/cut.py") 289],#[]⟩),
    (84,⟨.type "function",none,fnD (stT 6) (.ofString "_siftup") (.str (.ofString "cpy313.heapq") 247) (.ref 83),#[]⟩),
    (85,⟨.type "tuple",none,.seq #[] 0,#[]⟩),
    (87,⟨.type "tuple",none,.seq #[.str (.ofString "mode") 296] 0,#[]⟩),
    (88,⟨.type "tuple",none,.seq #[] 0,#[]⟩),
    (90,⟨.type "code",none,.fields #[.str (.ofString "S_IMODE") 293,.str (.ofString "S_IMODE") 294,.str (.ofString "/claim/cut.py") 295,.int 83 0,.int 1 0,.int 0 0,.int 0 0,.int 3 0,.ref 85,.bool true,.int 181 0,.ref 86,.none,.ref 87,.ref 88,.ref 89,.int 297 0,.int 83 0,.str (.ofString "/claim/cut.py") 298],#[]⟩),
    (91,⟨.type "function",none,fnD (stT 8) (.ofString "S_IMODE") (.str (.ofString "cpy313.stat") 291) (.ref 90),#[]⟩),
    (92,⟨.type "tuple",none,.seq #[] 0,#[]⟩),
    (94,⟨.type "tuple",none,.seq #[.str (.ofString "mode") 303] 0,#[]⟩),
    (95,⟨.type "tuple",none,.seq #[] 0,#[]⟩),
    (97,⟨.type "code",none,.fields #[.str (.ofString "S_IFMT") 300,.str (.ofString "S_IFMT") 301,.str (.ofString "/claim/cut.py") 302,.int 85 0,.int 1 0,.int 0 0,.int 0 0,.int 3 0,.ref 92,.bool true,.int 181 0,.ref 93,.none,.ref 94,.ref 95,.ref 96,.int 304 0,.int 85 0,.str (.ofString "/claim/cut.py") 305],#[]⟩),
    (98,⟨.type "function",none,fnD (stT 9) (.ofString "S_IFMT") (.str (.ofString "cpy313.stat") 291) (.ref 97),#[]⟩),
    (99,⟨.type "tuple",none,.seq #[.int 40960 317,.str (.ofString "l") 345] 0,#[]⟩),
    (100,⟨.type "tuple",none,.seq #[.int 49152 319,.str (.ofString "s") 346] 0,#[]⟩),
    (101,⟨.type "tuple",none,.seq #[.int 32768 313,.str (.ofString "-") 347] 0,#[]⟩),
    (102,⟨.type "tuple",none,.seq #[.int 24576 311,.str (.ofString "b") 348] 0,#[]⟩),
    (103,⟨.type "tuple",none,.seq #[.int 16384 307,.str (.ofString "d") 349] 0,#[]⟩),
    (104,⟨.type "tuple",none,.seq #[.int 8192 309,.str (.ofString "c") 350] 0,#[]⟩),
    (105,⟨.type "tuple",none,.seq #[.int 4096 315,.str (.ofString "p") 351] 0,#[]⟩),
    (106,⟨.type "tuple",none,.seq #[.ref 99,.ref 100,.ref 101,.ref 102,.ref 103,.ref 104,.ref 105] 0,#[]⟩),
    (107,⟨.type "tuple",none,.seq #[.int 256 327,.str (.ofString "r") 352] 0,#[]⟩),
    (108,⟨.type "tuple",none,.seq #[.ref 107] 0,#[]⟩),
    (109,⟨.type "tuple",none,.seq #[.int 128 329,.str (.ofString "w") 353] 0,#[]⟩),
    (110,⟨.type "tuple",none,.seq #[.ref 109] 0,#[]⟩),
    (111,⟨.type "tuple",none,.seq #[.int 2112 354,.str (.ofString "s") 355] 0,#[]⟩),
    (112,⟨.type "tuple",none,.seq #[.int 2048 321,.str (.ofString "S") 356] 0,#[]⟩),
    (113,⟨.type "tuple",none,.seq #[.int 64 331,.str (.ofString "x") 357] 0,#[]⟩),
    (114,⟨.type "tuple",none,.seq #[.ref 111,.ref 112,.ref 113] 0,#[]⟩),
    (115,⟨.type "tuple",none,.seq #[.int 32 333,.str (.ofString "r") 358] 0,#[]⟩),
    (116,⟨.type "tuple",none,.seq #[.ref 115] 0,#[]⟩),
    (117,⟨.type "tuple",none,.seq #[.int 16 335,.str (.ofString "w") 359] 0,#[]⟩),
    (118,⟨.type "tuple",none,.seq #[.ref 117] 0,#[]⟩),
    (119,⟨.type "tuple",none,.seq #[.int 1032 360,.str (.ofString "s") 361] 0,#[]⟩),
    (120,⟨.type "tuple",none,.seq #[.int 1024 323,.str (.ofString "S") 362] 0,#[]⟩),
    (121,⟨.type "tuple",none,.seq #[.int 8 337,.str (.ofString "x") 363] 0,#[]⟩),
    (122,⟨.type "tuple",none,.seq #[.ref 119,.ref 120,.ref 121] 0,#[]⟩),
    (123,⟨.type "tuple",none,.seq #[.int 4 339,.str (.ofString "r") 364] 0,#[]⟩),
    (124,⟨.type "tuple",none,.seq #[.ref 123] 0,#[]⟩),
    (125,⟨.type "tuple",none,.seq #[.int 2 341,.str (.ofString "w") 365] 0,#[]⟩),
    (126,⟨.type "tuple",none,.seq #[.ref 125] 0,#[]⟩),
    (127,⟨.type "tuple",none,.seq #[.int 513 366,.str (.ofString "t") 367] 0,#[]⟩),
    (128,⟨.type "tuple",none,.seq #[.int 512 325,.str (.ofString "T") 368] 0,#[]⟩),
    (129,⟨.type "tuple",none,.seq #[.int 1 343,.str (.ofString "x") 369] 0,#[]⟩),
    (130,⟨.type "tuple",none,.seq #[.ref 127,.ref 128,.ref 129] 0,#[]⟩),
    (131,⟨.type "tuple",none,.seq #[.ref 106,.ref 108,.ref 110,.ref 114,.ref 116,.ref 118,.ref 122,.ref 124,.ref 126,.ref 130] 0,#[]⟩),
    (132,⟨.type "tuple",none,.seq #[] 0,#[]⟩),
    (134,⟨.type "tuple",none,.seq #[.str (.ofString "mode") 374,.str (.ofString "perm") 375,.str (.ofString "index") 376,.str (.ofString "table") 377,.str (.ofString "bit") 378,.str (.ofString "char") 379] 0,#[]⟩),
    (135,⟨.type "tuple",none,.seq #[] 0,#[]⟩),
    (137,⟨.type "code",none,.fields #[.str (.ofString "filemode") 371,.str (.ofString "filemode") 372,.str (.ofString "/claim/cut.py") 373,.int 107 0,.int 1 0,.int 0 0,.int 0 0,.int 3 0,.ref 132,.bool true,.int 181 0,.ref 133,.none,.ref 134,.ref 135,.ref 136,.int 380 0,.int 107 0,.str (.ofString "/claim/cut.py") 381],#[]⟩),
    (138,⟨.type "function",none,fnD (stT 30) (.ofString "filemode") (.str (.ofString "cpy313.stat") 291) (.ref 137),#[]⟩),
    (139,⟨.type "tuple",none,.seq #[] 0,#[]⟩),
    (142,⟨.type "code",none,.fields #[.str (.ofString "_law_drawn") 385,.str (.ofString "_law_drawn") 386,.str (.ofString "/claim/cut.py") 387,.int 125 0,.int 1 0,.int 0 0,.int 0 0,.int 3 0,.ref 139,.bool true,.int 181 0,.ref 140,.none,.none,.none,.ref 141,.int 388 0,.int 125 0,.str (.ofString "/claim/cut.py") 389],#[]⟩),
    (143,⟨.type "function",none,fnD (stT 32) (.ofString "_law_drawn") (.str (.ofString "law_oy0143_01") 383) (.ref 142),#[]⟩),
    (144,⟨.type "tuple",none,.seq #[] 0,#[]⟩),
    (146,⟨.type "tuple",none,.seq #[.str (.ofString "mode") 394,.str (.ofString "row") 395,.str (.ofString "c") 396,.str (.ofString "digit") 397,.str (.ofString "last") 398] 0,#[]⟩),
    (147,⟨.type "tuple",none,.seq #[] 0,#[]⟩),
    (149,⟨.type "code",none,.fields #[.str (.ofString "_law_row") 391,.str (.ofString "_law_row") 392,.str (.ofString "/claim/cut.py") 393,.int 131 0,.int 1 0,.int 0 0,.int 0 0,.int 3 0,.ref 144,.bool true,.int 181 0,.ref 145,.none,.ref 146,.ref 147,.ref 148,.int 399 0,.int 131 0,.str (.ofString "/claim/cut.py") 400],#[]⟩),
    (150,⟨.type "function",none,fnD (stT 33) (.ofString "_law_row") (.str (.ofString "law_oy0143_01") 383) (.ref 149),#[]⟩),
    (151,⟨.type "tuple",none,.seq #[] 0,#[]⟩),
    (154,⟨.type "code",none,.fields #[.str (.ofString "_law_choices") 402,.str (.ofString "_law_choices") 403,.str (.ofString "/claim/cut.py") 404,.int 139 0,.int 1 0,.int 0 0,.int 0 0,.int 3 0,.ref 151,.bool true,.int 181 0,.ref 152,.none,.none,.none,.ref 153,.int 405 0,.int 139 0,.str (.ofString "/claim/cut.py") 406],#[]⟩),
    (155,⟨.type "function",none,fnD (stT 34) (.ofString "_law_choices") (.str (.ofString "law_oy0143_01") 383) (.ref 154),#[]⟩),
    (156,⟨.type "tuple",none,.seq #[] 0,#[]⟩),
    (158,⟨.type "tuple",none,.seq #[.str (.ofString "rows") 411,.str (.ofString "choices") 412,.str (.ofString "most") 413,.str (.ofString "costs") 414,.str (.ofString "size") 415,.str (.ofString "turned") 416,.str (.ofString "cost") 417] 0,#[]⟩),
    (159,⟨.type "tuple",none,.seq #[] 0,#[]⟩),
    (161,⟨.type "code",none,.fields #[.str (.ofString "_law_cheapest") 408,.str (.ofString "_law_cheapest") 409,.str (.ofString "/claim/cut.py") 410,.int 144 0,.int 3 0,.int 0 0,.int 0 0,.int 3 0,.ref 156,.bool true,.int 181 0,.ref 157,.none,.ref 158,.ref 159,.ref 160,.int 418 0,.int 144 0,.str (.ofString "/claim/cut.py") 419],#[]⟩),
    (162,⟨.type "function",none,fnD (stT 35) (.ofString "_law_cheapest") (.str (.ofString "law_oy0143_01") 383) (.ref 161),#[]⟩),
    (163,⟨.type "tuple",none,.seq #[] 0,#[]⟩),
    (165,⟨.type "tuple",none,.seq #[.str (.ofString "rows") 424,.str (.ofString "choices") 425,.str (.ofString "told") 426,.str (.ofString "most") 427] 0,#[]⟩),
    (166,⟨.type "tuple",none,.seq #[] 0,#[]⟩),
    (168,⟨.type "code",none,.fields #[.str (.ofString "_law_told") 421,.str (.ofString "_law_told") 422,.str (.ofString "/claim/cut.py") 423,.int 150 0,.int 2 0,.int 0 0,.int 0 0,.int 3 0,.ref 163,.bool true,.int 181 0,.ref 164,.none,.ref 165,.ref 166,.ref 167,.int 428 0,.int 150 0,.str (.ofString "/claim/cut.py") 429],#[]⟩),
    (169,⟨.type "function",none,fnD (stT 36) (.ofString "_law_told") (.str (.ofString "law_oy0143_01") 383) (.ref 168),#[]⟩),
    (170,⟨.type "tuple",none,.seq #[] 0,#[]⟩),
    (173,⟨.type "code",none,.fields #[.str (.ofString "_law_written") 431,.str (.ofString "_law_written") 432,.str (.ofString "/claim/cut.py") 433,.int 157 0,.int 2 0,.int 0 0,.int 0 0,.int 3 0,.ref 170,.bool true,.int 181 0,.ref 171,.none,.none,.none,.ref 172,.int 434 0,.int 157 0,.str (.ofString "/claim/cut.py") 435],#[]⟩),
    (174,⟨.type "function",none,fnD (stT 37) (.ofString "_law_written") (.str (.ofString "law_oy0143_01") 383) (.ref 173),#[]⟩),
    (175,⟨.type "tuple",none,.seq #[] 0,#[]⟩),
    (177,⟨.type "tuple",none,.seq #[.str (.ofString "row") 440,.str (.ofString "mask") 441,.str (.ofString "names") 442,.str (.ofString "modes") 443,.str (.ofString "mode") 444] 0,#[]⟩),
    (178,⟨.type "tuple",none,.seq #[] 0,#[]⟩),
    (180,⟨.type "code",none,.fields #[.str (.ofString "_law_led") 437,.str (.ofString "_law_led") 438,.str (.ofString "/claim/cut.py") 439,.int 161 0,.int 4 0,.int 0 0,.int 0 0,.int 3 0,.ref 175,.bool true,.int 181 0,.ref 176,.none,.ref 177,.ref 178,.ref 179,.int 445 0,.int 161 0,.str (.ofString "/claim/cut.py") 446],#[]⟩),
    (181,⟨.type "function",none,fnD (stT 38) (.ofString "_law_led") (.str (.ofString "law_oy0143_01") 383) (.ref 180),#[]⟩),
    (182,⟨.type "tuple",none,.seq #[] 0,#[]⟩),
    (184,⟨.type "tuple",none,.seq #[.str (.ofString "queue") 451,.str (.ofString "costs") 452,.str (.ofString "deeds") 453,.str (.ofString "names") 454,.str (.ofString "modes") 455,.str (.ofString "before") 456,.str (.ofString "fresh") 457,.str (.ofString "turn") 458,.str (.ofString "row") 459,.str (.ofString "mask") 460,.str (.ofString "price") 461,.str (.ofString "other") 462,.str (.ofString "cost") 463] 0,#[]⟩),
    (185,⟨.type "tuple",none,.seq #[] 0,#[]⟩),
    (187,⟨.type "code",none,.fields #[.str (.ofString "_law_round") 448,.str (.ofString "_law_round") 449,.str (.ofString "/claim/cut.py") 450,.int 164 0,.int 5 0,.int 0 0,.int 0 0,.int 3 0,.ref 182,.bool true,.int 181 0,.ref 183,.none,.ref 184,.ref 185,.ref 186,.int 464 0,.int 164 0,.str (.ofString "/claim/cut.py") 465],#[]⟩),
    (188,⟨.type "function",none,fnD (stT 39) (.ofString "_law_round") (.str (.ofString "law_oy0143_01") 383) (.ref 187),#[]⟩),
    (189,⟨.type "tuple",none,.seq #[] 0,#[]⟩),
    (191,⟨.type "tuple",none,.seq #[.str (.ofString "first") 470,.str (.ofString "manner") 471,.str (.ofString "deeds") 472,.str (.ofString "names") 473,.str (.ofString "modes") 474,.str (.ofString "give") 475,.str (.ofString "source") 476,.str (.ofString "queue") 477,.str (.ofString "costs") 478,.str (.ofString "told") 479,.str (.ofString "lap") 480,.str (.ofString "fresh") 481] 0,#[]⟩),
    (192,⟨.type "tuple",none,.seq #[.str (.ofString "at") 482,.str (.ofString "text") 483] 0,#[]⟩),
    (194,⟨.type "code",none,.fields #[.str (.ofString "_law_rounds") 467,.str (.ofString "_law_rounds") 468,.str (.ofString "/claim/cut.py") 469,.int 182 0,.int 5 0,.int 0 0,.int 0 0,.int 3 0,.ref 189,.bool true,.int 181 0,.ref 190,.none,.ref 191,.ref 192,.ref 193,.int 484 0,.int 182 0,.str (.ofString "/claim/cut.py") 485],#[]⟩),
    (195,⟨.type "function",none,fnD (stT 40) (.ofString "_law_rounds") (.str (.ofString "law_oy0143_01") 383) (.ref 194),#[]⟩),
    (196,⟨.type "tuple",none,.seq #[] 0,#[]⟩),
    (198,⟨.type "tuple",none,.seq #[.str (.ofString "first") 490,.str (.ofString "deeds") 491,.str (.ofString "names") 492,.str (.ofString "modes") 493,.str (.ofString "heap") 494,.str (.ofString "best") 495,.str (.ofString "out") 496,.str (.ofString "turn") 497,.str (.ofString "cost") 498,.str (.ofString "row") 499,.str (.ofString "mask") 500,.str (.ofString "price") 501,.str (.ofString "other") 502] 0,#[]⟩),
    (199,⟨.type "tuple",none,.seq #[] 0,#[]⟩),
    (201,⟨.type "code",none,.fields #[.str (.ofString "_law_by_heap") 487,.str (.ofString "_law_by_heap") 488,.str (.ofString "/claim/cut.py") 489,.int 209 0,.int 4 0,.int 0 0,.int 0 0,.int 3 0,.ref 196,.bool true,.int 181 0,.ref 197,.none,.ref 198,.ref 199,.ref 200,.int 503 0,.int 209 0,.str (.ofString "/claim/cut.py") 504],#[]⟩),
    (202,⟨.type "function",none,fnD (stT 41) (.ofString "_law_by_heap") (.str (.ofString "law_oy0143_01") 383) (.ref 201),#[]⟩),
    (203,⟨.type "tuple",none,.seq #[] 0,#[]⟩),
    (206,⟨.type "code",none,.fields #[.str (.ofString "_law_holds") 506,.str (.ofString "_law_holds") 507,.str (.ofString "/claim/cut.py") 508,.int 230 0,.int 3 0,.int 0 0,.int 0 0,.int 3 0,.ref 203,.bool true,.int 181 0,.ref 204,.none,.none,.none,.ref 205,.int 509 0,.int 230 0,.str (.ofString "/claim/cut.py") 510],#[]⟩),
    (207,⟨.type "function",none,fnD (stT 42) (.ofString "_law_holds") (.str (.ofString "law_oy0143_01") 383) (.ref 206),#[]⟩),
    (208,⟨.type "tuple",none,.seq #[] 0,#[]⟩),
    (210,⟨.type "tuple",none,.seq #[.str (.ofString "script") 515,.str (.ofString "start") 516,.str (.ofString "manner") 517,.str (.ofString "deeds") 518] 0,#[]⟩),
    (211,⟨.type "tuple",none,.seq #[] 0,#[]⟩),
    (213,⟨.type "code",none,.fields #[.str (.ofString "law") 512,.str (.ofString "law") 513,.str (.ofString "/claim/cut.py") 514,.int 247 0,.int 1 0,.int 0 0,.int 0 0,.int 3 0,.ref 208,.bool true,.int 181 0,.ref 209,.none,.ref 210,.ref 211,.ref 212,.int 519 0,.int 247 0,.str (.ofString "/claim/cut.py") 520],#[]⟩),
    (214,⟨.type "function",none,fnD (stT 43) (.ofString "law") (.str (.ofString "law_oy0143_01") 383) (.ref 213),#[]⟩)]
noncomputable def hdV : Program := { PySem.Challenge.pw_oy0143_01 with main := { PySem.Challenge.pw_oy0143_01.main with body := [
    1,3,4,5,6,8,9,10,11,12,13,14,15,16,17,18,19,20,21,22,23,24,25,26,27,28,29,30,32,33,34,35,36,37,38,39,40,41,42,43].map stT } }
noncomputable def hdAs : List Addr := [
    2,3,22,24,25,27,28,29,31,32,34,35,36,38,39,41,42,43,45,46,48,49,50,51,52,53,54,57,59,60,62,63,64,66,67,69,70,71,73,74,76,77,78,80,81,83,84,85,87,88,
    90,91,92,94,95,97,98,99,100,101,102,103,104,105,106,107,108,109,110,111,112,113,114,115,116,117,118,119,120,121,122,123,124,125,126,127,128,129,130,
    131,132,134,135,137,138,139,142,143,144,146,147,149,150,151,154,155,156,158,159,161,162,163,165,166,168,169,170,173,174,175,177,178,180,181,182,184,
    185,187,188,189,191,192,194,195,196,198,199,201,202,203,206,207,208,210,211,213,214]
theorem hdAs_eq (P : Params) : hdAs = (hdK P).map (·.1) := by kernel_rfl
noncomputable abbrev hdX : List (Str × WData) :=
  let t : List WData → WData := .tuple
  let p : Int → Nat → WData := fun i c => .tuple [.int i, .str ⟨#[c]⟩]
  [(.ofString "_filemode_table", t [t [p 40960 108, p 49152 115, p 32768 45, p 24576 98, p 16384 100, p 8192 99, p 4096 112], t [p 256 114], t [p 128 119], t [p 2112 115, p 2048 83, p 64 120],
    t [p 32 114], t [p 16 119], t [p 1032 115, p 1024 83, p 8 120], t [p 4 114], t [p 2 119], t [p 513 116, p 512 84, p 1 120]])]
noncomputable abbrev hdH : Hook := kmHook hdK hdAs hdAs_eq [190]
theorem hd_said : PySem.W.OpenLaw.wellSaid PySem.Challenge.rw_oy0143_01 = true := by
  rw [PySem.W.Fast.te9446332074065402090]
  kernel_rfl
theorem hd_left : LeftO PySem.Challenge.rw_oy0143_01.row.prog hdV [.ofString "_filemode_table"] (fun s => xlAt hdV hdX s && recOk (RowW.records PySem.Challenge.rw_oy0143_01.row.toRowW) s) (Hook.obs hdH) (Hook.val hdH) 2738 := fun w => by
  unfold openEnds topFrom
  rw [PySem.W.Fast.te14364793385576792824, PySem.W.Fast.te14082659384304107361, PySem.W.Fast.te4187177175401517315, PySem.W.Fast.te5923862056798008813]
  kernel_rfl
set_option maxHeartbeats 4000000 in
theorem hd {d : DefRec} (e : d = recD (stT 43)) (walk : WalkO hdV [.ofString "_filemode_table"] (XL hdV hdX) (kmHook hdK hdAs hdAs_eq [190]).says PySem.Challenge.rw_oy0143_01.row.toRowW d [] fun f vs => PySem.call f vs) : PySem.Challenge.rw_oy0143_01.Holds := by
  subst e
  exact holds_law hd_said fun said => holds_open (Xt := fun s => xlAt hdV hdX s && recOk (RowW.records PySem.Challenge.rw_oy0143_01.row.toRowW) s) (N := 2738) hd_left (Hook.of hdH) (Hook.keeps hdH) (fun s e => xl_of s (Bool.and_eq_true_iff.mp e).1) XL.keeps (by kernel_rfl) (by kernel_rfl) (by kernel_rfl)
    (fun s e => recFacts_of (Bool.and_eq_true_iff.mp e).2) (by kernel_rfl) said (by kernel_rfl) ⟨rfl, rfl, rfl, rfl, rfl, by decide +kernel⟩ ⟨[WData.list []], by decide +kernel, by decide +kernel⟩ walk
end Mine
end
section
open PySem PySem.W PyProof.Rows PySem.Calls PySem.Spec
set_option Elab.async false
set_option maxRecDepth 100000
namespace Mine
/-! what is behind a long and, at one blow -/
theorem ea0_2  {p0 p1 : Prop} {G : Prop} (h : p0 ∧ p1) (k : p0 → p1 → G) : G := by
  obtain ⟨h0, h1⟩ := h; exact k h0 h1
theorem ea0_3  {p0 p1 p2 : Prop} {G : Prop} (h : p0 ∧ p1 ∧ p2) (k : p0 → p1 → p2 → G) : G := by
  obtain ⟨h0, h1, h2⟩ := h; exact k h0 h1 h2
theorem ea0_4  {p0 p1 p2 p3 : Prop} {G : Prop} (h : p0 ∧ p1 ∧ p2 ∧ p3) (k : p0 → p1 → p2 → p3 → G) : G := by
  obtain ⟨h0, h1, h2, h3⟩ := h; exact k h0 h1 h2 h3
theorem ea0_5  {p0 p1 p2 p3 p4 : Prop} {G : Prop} (h : p0 ∧ p1 ∧ p2 ∧ p3 ∧ p4) (k : p0 → p1 → p2 → p3 → p4 → G) : G := by
  obtain ⟨h0, h1, h2, h3, h4⟩ := h; exact k h0 h1 h2 h3 h4
theorem ea0_6  {p0 p1 p2 p3 p4 p5 : Prop} {G : Prop} (h : p0 ∧ p1 ∧ p2 ∧ p3 ∧ p4 ∧ p5) (k : p0 → p1 → p2 → p3 → p4 → p5 → G) : G := by
  obtain ⟨h0, h1, h2, h3, h4, h5⟩ := h; exact k h0 h1 h2 h3 h4 h5
theorem ea0_8  {p0 p1 p2 p3 p4 p5 p6 p7 : Prop} {G : Prop} (h : p0 ∧ p1 ∧ p2 ∧ p3 ∧ p4 ∧ p5 ∧ p6 ∧ p7) (k : p0 → p1 → p2 → p3 → p4 → p5 → p6 → p7 → G) : G := by
  obtain ⟨h0, h1, h2, h3, h4, h5, h6, h7⟩ := h; exact k h0 h1 h2 h3 h4 h5 h6 h7
theorem ea1_1.{u0} {α0 : Sort u0} {p0 : α0 → Prop} {G : Prop} (h : ∃ x0, p0 x0) (k : ∀ x0, p0 x0 → G) : G := by
  obtain ⟨x0, h0⟩ := h; exact k _ h0
theorem ea1_2.{u0} {α0 : Sort u0} {p0 p1 : α0 → Prop} {G : Prop} (h : ∃ x0, p0 x0 ∧ p1 x0) (k : ∀ x0, p0 x0 → p1 x0 → G) : G := by
  obtain ⟨x0, h0, h1⟩ := h; exact k _ h0 h1
theorem ea1_3.{u0} {α0 : Sort u0} {p0 p1 p2 : α0 → Prop} {G : Prop} (h : ∃ x0, p0 x0 ∧ p1 x0 ∧ p2 x0) (k : ∀ x0, p0 x0 → p1 x0 → p2 x0 → G) : G := by
  obtain ⟨x0, h0, h1, h2⟩ := h; exact k _ h0 h1 h2
theorem ea1_4.{u0} {α0 : Sort u0} {p0 p1 p2 p3 : α0 → Prop} {G : Prop} (h : ∃ x0, p0 x0 ∧ p1 x0 ∧ p2 x0 ∧ p3 x0) (k : ∀ x0, p0 x0 → p1 x0 → p2 x0 → p3 x0 → G) : G := by
  obtain ⟨x0, h0, h1, h2, h3⟩ := h; exact k _ h0 h1 h2 h3
theorem ea1_5.{u0} {α0 : Sort u0} {p0 p1 p2 p3 p4 : α0 → Prop} {G : Prop} (h : ∃ x0, p0 x0 ∧ p1 x0 ∧ p2 x0 ∧ p3 x0 ∧ p4 x0) (k : ∀ x0, p0 x0 → p1 x0 → p2 x0 → p3 x0 → p4 x0 → G) : G := by
  obtain ⟨x0, h0, h1, h2, h3, h4⟩ := h; exact k _ h0 h1 h2 h3 h4
theorem ea1_6.{u0} {α0 : Sort u0} {p0 p1 p2 p3 p4 p5 : α0 → Prop} {G : Prop} (h : ∃ x0, p0 x0 ∧ p1 x0 ∧ p2 x0 ∧ p3 x0 ∧ p4 x0 ∧ p5 x0) (k : ∀ x0, p0 x0 → p1 x0 → p2 x0 → p3 x0 → p4 x0 → p5 x0 → G) : G := by
  obtain ⟨x0, h0, h1, h2, h3, h4, h5⟩ := h; exact k _ h0 h1 h2 h3 h4 h5
theorem ea2_1.{u0, u1} {α0 : Sort u0} {α1 : Sort u1} {p0 : α0 → α1 → Prop} {G : Prop} (h : ∃ x0, ∃ x1, p0 x0 x1) (k : ∀ x0 x1, p0 x0 x1 → G) : G := by
  obtain ⟨x0, x1, h0⟩ := h; exact k _ _ h0
theorem ea2_2.{u0, u1} {α0 : Sort u0} {α1 : Sort u1} {p0 p1 : α0 → α1 → Prop} {G : Prop} (h : ∃ x0, ∃ x1, p0 x0 x1 ∧ p1 x0 x1) (k : ∀ x0 x1, p0 x0 x1 → p1 x0 x1 → G) : G := by
  obtain ⟨x0, x1, h0, h1⟩ := h; exact k _ _ h0 h1
theorem ea2_3.{u0, u1} {α0 : Sort u0} {α1 : Sort u1} {p0 p1 p2 : α0 → α1 → Prop} {G : Prop} (h : ∃ x0, ∃ x1, p0 x0 x1 ∧ p1 x0 x1 ∧ p2 x0 x1) (k : ∀ x0 x1, p0 x0 x1 → p1 x0 x1 → p2 x0 x1 → G) : G := by
  obtain ⟨x0, x1, h0, h1, h2⟩ := h; exact k _ _ h0 h1 h2
theorem ea2_4.{u0, u1} {α0 : Sort u0} {α1 : Sort u1} {p0 p1 p2 p3 : α0 → α1 → Prop} {G : Prop} (h : ∃ x0, ∃ x1, p0 x0 x1 ∧ p1 x0 x1 ∧ p2 x0 x1 ∧ p3 x0 x1) (k : ∀ x0 x1, p0 x0 x1 → p1 x0 x1 → p2 x0 x1 → p3 x0 x1 → G) : G := by
  obtain ⟨x0, x1, h0, h1, h2, h3⟩ := h; exact k _ _ h0 h1 h2 h3
theorem ea2_5.{u0, u1} {α0 : Sort u0} {α1 : Sort u1} {p0 p1 p2 p3 p4 : α0 → α1 → Prop} {G : Prop} (h : ∃ x0, ∃ x1, p0 x0 x1 ∧ p1 x0 x1 ∧ p2 x0 x1 ∧ p3 x0 x1 ∧ p4 x0 x1) (k : ∀ x0 x1, p0 x0 x1 → p1 x0 x1 → p2 x0 x1 → p3 x0 x1 → p4 x0 x1 → G) : G := by
  obtain ⟨x0, x1, h0, h1, h2, h3, h4⟩ := h; exact k _ _ h0 h1 h2 h3 h4
theorem ea2_6.{u0, u1} {α0 : Sort u0} {α1 : Sort u1} {p0 p1 p2 p3 p4 p5 : α0 → α1 → Prop} {G : Prop} (h : ∃ x0, ∃ x1, p0 x0 x1 ∧ p1 x0 x1 ∧ p2 x0 x1 ∧ p3 x0 x1 ∧ p4 x0 x1 ∧ p5 x0 x1) (k : ∀ x0 x1, p0 x0 x1 → p1 x0 x1 → p2 x0 x1 → p3 x0 x1 → p4 x0 x1 → p5 x0 x1 → G) : G := by
  obtain ⟨x0, x1, h0, h1, h2, h3, h4, h5⟩ := h; exact k _ _ h0 h1 h2 h3 h4 h5
theorem ea2_9.{u0, u1} {α0 : Sort u0} {α1 : Sort u1} {p0 p1 p2 p3 p4 p5 p6 p7 p8 : α0 → α1 → Prop} {G : Prop} (h : ∃ x0, ∃ x1, p0 x0 x1 ∧ p1 x0 x1 ∧ p2 x0 x1 ∧ p3 x0 x1 ∧ p4 x0 x1 ∧ p5 x0 x1 ∧ p6 x0 x1 ∧ p7 x0 x1 ∧ p8 x0 x1) (k : ∀ x0 x1, p0 x0 x1 → p1 x0 x1 → p2 x0 x1 → p3 x0 x1 → p4 x0 x1 → p5 x0 x1 → p6 x0 x1 → p7 x0 x1 → p8 x0 x1 → G) : G := by
  obtain ⟨x0, x1, h0, h1, h2, h3, h4, h5, h6, h7, h8⟩ := h; exact k _ _ h0 h1 h2 h3 h4 h5 h6 h7 h8
theorem ea2_10.{u0, u1} {α0 : Sort u0} {α1 : Sort u1} {p0 p1 p2 p3 p4 p5 p6 p7 p8 p9 : α0 → α1 → Prop} {G : Prop} (h : ∃ x0, ∃ x1, p0 x0 x1 ∧ p1 x0 x1 ∧ p2 x0 x1 ∧ p3 x0 x1 ∧ p4 x0 x1 ∧ p5 x0 x1 ∧ p6 x0 x1 ∧ p7 x0 x1 ∧ p8 x0 x1 ∧ p9 x0 x1) (k : ∀ x0 x1, p0 x0 x1 → p1 x0 x1 → p2 x0 x1 → p3 x0 x1 → p4 x0 x1 → p5 x0 x1 → p6 x0 x1 → p7 x0 x1 → p8 x0 x1 → p9 x0 x1 → G) : G := by
  obtain ⟨x0, x1, h0, h1, h2, h3, h4, h5, h6, h7, h8, h9⟩ := h; exact k _ _ h0 h1 h2 h3 h4 h5 h6 h7 h8 h9
theorem ea3_1.{u0, u1, u2} {α0 : Sort u0} {α1 : Sort u1} {α2 : Sort u2} {p0 : α0 → α1 → α2 → Prop} {G : Prop} (h : ∃ x0, ∃ x1, ∃ x2, p0 x0 x1 x2) (k : ∀ x0 x1 x2, p0 x0 x1 x2 → G) : G := by
  obtain ⟨x0, x1, x2, h0⟩ := h; exact k _ _ _ h0
theorem ea3_3.{u0, u1, u2} {α0 : Sort u0} {α1 : Sort u1} {α2 : Sort u2} {p0 p1 p2 : α0 → α1 → α2 → Prop} {G : Prop} (h : ∃ x0, ∃ x1, ∃ x2, p0 x0 x1 x2 ∧ p1 x0 x1 x2 ∧ p2 x0 x1 x2) (k : ∀ x0 x1 x2, p0 x0 x1 x2 → p1 x0 x1 x2 → p2 x0 x1 x2 → G) : G := by
  obtain ⟨x0, x1, x2, h0, h1, h2⟩ := h; exact k _ _ _ h0 h1 h2
theorem ea3_4.{u0, u1, u2} {α0 : Sort u0} {α1 : Sort u1} {α2 : Sort u2} {p0 p1 p2 p3 : α0 → α1 → α2 → Prop} {G : Prop} (h : ∃ x0, ∃ x1, ∃ x2, p0 x0 x1 x2 ∧ p1 x0 x1 x2 ∧ p2 x0 x1 x2 ∧ p3 x0 x1 x2) (k : ∀ x0 x1 x2, p0 x0 x1 x2 → p1 x0 x1 x2 → p2 x0 x1 x2 → p3 x0 x1 x2 → G) : G := by
  obtain ⟨x0, x1, x2, h0, h1, h2, h3⟩ := h; exact k _ _ _ h0 h1 h2 h3
theorem ea4_1.{u0, u1, u2, u3} {α0 : Sort u0} {α1 : Sort u1} {α2 : Sort u2} {α3 : Sort u3} {p0 : α0 → α1 → α2 → α3 → Prop} {G : Prop} (h : ∃ x0, ∃ x1, ∃ x2, ∃ x3, p0 x0 x1 x2 x3) (k : ∀ x0 x1 x2 x3, p0 x0 x1 x2 x3 → G) : G := by
  obtain ⟨x0, x1, x2, x3, h0⟩ := h; exact k _ _ _ _ h0
theorem ea4_2.{u0, u1, u2, u3} {α0 : Sort u0} {α1 : Sort u1} {α2 : Sort u2} {α3 : Sort u3} {p0 p1 : α0 → α1 → α2 → α3 → Prop} {G : Prop} (h : ∃ x0, ∃ x1, ∃ x2, ∃ x3, p0 x0 x1 x2 x3 ∧ p1 x0 x1 x2 x3) (k : ∀ x0 x1 x2 x3, p0 x0 x1 x2 x3 → p1 x0 x1 x2 x3 → G) : G := by
  obtain ⟨x0, x1, x2, x3, h0, h1⟩ := h; exact k _ _ _ _ h0 h1
theorem ea4_4.{u0, u1, u2, u3} {α0 : Sort u0} {α1 : Sort u1} {α2 : Sort u2} {α3 : Sort u3} {p0 p1 p2 p3 : α0 → α1 → α2 → α3 → Prop} {G : Prop} (h : ∃ x0, ∃ x1, ∃ x2, ∃ x3, p0 x0 x1 x2 x3 ∧ p1 x0 x1 x2 x3 ∧ p2 x0 x1 x2 x3 ∧ p3 x0 x1 x2 x3) (k : ∀ x0 x1 x2 x3, p0 x0 x1 x2 x3 → p1 x0 x1 x2 x3 → p2 x0 x1 x2 x3 → p3 x0 x1 x2 x3 → G) : G := by
  obtain ⟨x0, x1, x2, x3, h0, h1, h2, h3⟩ := h; exact k _ _ _ _ h0 h1 h2 h3
theorem ea4_5.{u0, u1, u2, u3} {α0 : Sort u0} {α1 : Sort u1} {α2 : Sort u2} {α3 : Sort u3} {p0 p1 p2 p3 p4 : α0 → α1 → α2 → α3 → Prop} {G : Prop} (h : ∃ x0, ∃ x1, ∃ x2, ∃ x3, p0 x0 x1 x2 x3 ∧ p1 x0 x1 x2 x3 ∧ p2 x0 x1 x2 x3 ∧ p3 x0 x1 x2 x3 ∧ p4 x0 x1 x2 x3) (k : ∀ x0 x1 x2 x3, p0 x0 x1 x2 x3 → p1 x0 x1 x2 x3 → p2 x0 x1 x2 x3 → p3 x0 x1 x2 x3 → p4 x0 x1 x2 x3 → G) : G := by
  obtain ⟨x0, x1, x2, x3, h0, h1, h2, h3, h4⟩ := h; exact k _ _ _ _ h0 h1 h2 h3 h4
theorem ea4_6.{u0, u1, u2, u3} {α0 : Sort u0} {α1 : Sort u1} {α2 : Sort u2} {α3 : Sort u3} {p0 p1 p2 p3 p4 p5 : α0 → α1 → α2 → α3 → Prop} {G : Prop} (h : ∃ x0, ∃ x1, ∃ x2, ∃ x3, p0 x0 x1 x2 x3 ∧ p1 x0 x1 x2 x3 ∧ p2 x0 x1 x2 x3 ∧ p3 x0 x1 x2 x3 ∧ p4 x0 x1 x2 x3 ∧ p5 x0 x1 x2 x3) (k : ∀ x0 x1 x2 x3, p0 x0 x1 x2 x3 → p1 x0 x1 x2 x3 → p2 x0 x1 x2 x3 → p3 x0 x1 x2 x3 → p4 x0 x1 x2 x3 → p5 x0 x1 x2 x3 → G) : G := by
  obtain ⟨x0, x1, x2, x3, h0, h1, h2, h3, h4, h5⟩ := h; exact k _ _ _ _ h0 h1 h2 h3 h4 h5
theorem ea4_8.{u0, u1, u2, u3} {α0 : Sort u0} {α1 : Sort u1} {α2 : Sort u2} {α3 : Sort u3} {p0 p1 p2 p3 p4 p5 p6 p7 : α0 → α1 → α2 → α3 → Prop} {G : Prop} (h : ∃ x0, ∃ x1, ∃ x2, ∃ x3, p0 x0 x1 x2 x3 ∧ p1 x0 x1 x2 x3 ∧ p2 x0 x1 x2 x3 ∧ p3 x0 x1 x2 x3 ∧ p4 x0 x1 x2 x3 ∧ p5 x0 x1 x2 x3 ∧ p6 x0 x1 x2 x3 ∧ p7 x0 x1 x2 x3) (k : ∀ x0 x1 x2 x3, p0 x0 x1 x2 x3 → p1 x0 x1 x2 x3 → p2 x0 x1 x2 x3 → p3 x0 x1 x2 x3 → p4 x0 x1 x2 x3 → p5 x0 x1 x2 x3 → p6 x0 x1 x2 x3 → p7 x0 x1 x2 x3 → G) : G := by
  obtain ⟨x0, x1, x2, x3, h0, h1, h2, h3, h4, h5, h6, h7⟩ := h; exact k _ _ _ _ h0 h1 h2 h3 h4 h5 h6 h7
theorem ea4_9.{u0, u1, u2, u3} {α0 : Sort u0} {α1 : Sort u1} {α2 : Sort u2} {α3 : Sort u3} {p0 p1 p2 p3 p4 p5 p6 p7 p8 : α0 → α1 → α2 → α3 → Prop} {G : Prop} (h : ∃ x0, ∃ x1, ∃ x2, ∃ x3, p0 x0 x1 x2 x3 ∧ p1 x0 x1 x2 x3 ∧ p2 x0 x1 x2 x3 ∧ p3 x0 x1 x2 x3 ∧ p4 x0 x1 x2 x3 ∧ p5 x0 x1 x2 x3 ∧ p6 x0 x1 x2 x3 ∧ p7 x0 x1 x2 x3 ∧ p8 x0 x1 x2 x3) (k : ∀ x0 x1 x2 x3, p0 x0 x1 x2 x3 → p1 x0 x1 x2 x3 → p2 x0 x1 x2 x3 → p3 x0 x1 x2 x3 → p4 x0 x1 x2 x3 → p5 x0 x1 x2 x3 → p6 x0 x1 x2 x3 → p7 x0 x1 x2 x3 → p8 x0 x1 x2 x3 → G) : G := by
  obtain ⟨x0, x1, x2, x3, h0, h1, h2, h3, h4, h5, h6, h7, h8⟩ := h; exact k _ _ _ _ h0 h1 h2 h3 h4 h5 h6 h7 h8
theorem ea4_11.{u0, u1, u2, u3} {α0 : Sort u0} {α1 : Sort u1} {α2 : Sort u2} {α3 : Sort u3} {p0 p1 p2 p3 p4 p5 p6 p7 p8 p9 p10 : α0 → α1 → α2 → α3 → Prop} {G : Prop} (h : ∃ x0, ∃ x1, ∃ x2, ∃ x3, p0 x0 x1 x2 x3 ∧ p1 x0 x1 x2 x3 ∧ p2 x0 x1 x2 x3 ∧ p3 x0 x1 x2 x3 ∧ p4 x0 x1 x2 x3 ∧ p5 x0 x1 x2 x3 ∧ p6 x0 x1 x2 x3 ∧ p7 x0 x1 x2 x3 ∧ p8 x0 x1 x2 x3 ∧ p9 x0 x1 x2 x3 ∧ p10 x0 x1 x2 x3) (k : ∀ x0 x1 x2 x3, p0 x0 x1 x2 x3 → p1 x0 x1 x2 x3 → p2 x0 x1 x2 x3 → p3 x0 x1 x2 x3 → p4 x0 x1 x2 x3 → p5 x0 x1 x2 x3 → p6 x0 x1 x2 x3 → p7 x0 x1 x2 x3 → p8 x0 x1 x2 x3 → p9 x0 x1 x2 x3 → p10 x0 x1 x2 x3 → G) : G := by
  obtain ⟨x0, x1, x2, x3, h0, h1, h2, h3, h4, h5, h6, h7, h8, h9, h10⟩ := h; exact k _ _ _ _ h0 h1 h2 h3 h4 h5 h6 h7 h8 h9 h10
theorem ea5_1.{u0, u1, u2, u3, u4} {α0 : Sort u0} {α1 : Sort u1} {α2 : Sort u2} {α3 : Sort u3} {α4 : Sort u4} {p0 : α0 → α1 → α2 → α3 → α4 → Prop} {G : Prop} (h : ∃ x0, ∃ x1, ∃ x2, ∃ x3, ∃ x4, p0 x0 x1 x2 x3 x4) (k : ∀ x0 x1 x2 x3 x4, p0 x0 x1 x2 x3 x4 → G) : G := by
  obtain ⟨x0, x1, x2, x3, x4, h0⟩ := h; exact k _ _ _ _ _ h0

/-! ## abstract values and objects -/
inductive MV where
  | none
  | bool (b : Bool)
  | int (i : Int)
  | str (s : Str)
  | tup (l : List MV)
  | ref (a : Addr)
  | bi (id : String)
  | ty (n : String)
  | rng (a b : Int)

noncomputable abbrev Fz := Addr → Option Obj
noncomputable abbrev tupObj (vs : List Value) (n : Nat) : Obj := { cls := .type "tuple", data := .seq vs.toArray n }

noncomputable abbrev rngObj (a b : Int) (t u v : Tok) : Obj := { cls := .type "range", dict := none, data := .fields #[.int a t, .int b u, .int 1 v], slots := #[] }
noncomputable def Imm (o : Obj) : Prop := (∃ vs n, o = tupObj vs n) ∨ ∃ a b t u v, o = rngObj a b t u v
theorem imm_cls {o : Obj} (h : Imm o) : o.cls = .type "tuple" ∨ o.cls = .type "range" := by
  rcases h with ⟨_, _, rfl⟩ | ⟨_, _, _, _, _, rfl⟩
  · exact .inl rfl
  · exact .inr rfl
theorem imm_dict {o : Obj} {es : Array DictEntry} {n : Nat} (hd : o.data = .dict es n) : ¬ Imm o := by
  rintro (⟨_, _, rfl⟩ | ⟨_, _, _, _, _, rfl⟩) <;> cases hd

mutual
inductive VRep (F : Fz) : MV → Value → Prop where
  | none : VRep F .none .none
  | bool (b : Bool) : VRep F (.bool b) (.bool b)
  | int (i : Int) (t : Tok) : VRep F (.int i) (.int i t)
  | str (s : Str) (t : Tok) : VRep F (.str s) (.str s t)
  | ref (a : Addr) : VRep F (.ref a) (.ref a)
  | bi (id : String) : VRep F (.bi id) (.builtin id)
  | ty (n : String) : VRep F (.ty n) (.type n)
  | rng {r : Addr} {a b : Int} {t u v : Tok} (h : F r = some (rngObj a b t u v)) : VRep F (.rng a b) (.ref r)
  | tup {a : Addr} {l : List MV} {vs : List Value} {n : Nat} (h : F a = some (tupObj vs n)) (hl : VRepL F l vs) : VRep F (.tup l) (.ref a)
inductive VRepL (F : Fz) : List MV → List Value → Prop where
  | nil : VRepL F [] []
  | cons {x : MV} {v : Value} {l : List MV} {vs : List Value} (h : VRep F x v) (hl : VRepL F l vs) : VRepL F (x :: l) (v :: vs)
end

noncomputable def Fz.le (F F' : Fz) : Prop := ∀ a o, F a = some o → F' a = some o
theorem Fz.le.refl (F : Fz) : F.le F := fun _ _ h => h
theorem Fz.le.trans {F G H : Fz} (a : F.le G) (b : G.le H) : F.le H := fun x o h => b x o (a x o h)
noncomputable def Fz.put (F : Fz) (a : Addr) (o : Obj) : Fz := fun b => if b = a then some o else F b
theorem Fz.le_put {F : Fz} {a : Addr} (o : Obj) (h : F a = Option.none) : F.le (F.put a o) := fun b x e => by
  unfold Fz.put
  by_cases q : b = a
  · subst q; rw [h] at e; cases e
  · rw [if_neg q]; exact e
theorem Fz.put_self (F : Fz) (a : Addr) (o : Obj) : (F.put a o) a = some o := if_pos rfl
theorem Fz.put_ne (F : Fz) {a b : Addr} (o : Obj) (h : b ≠ a) : (F.put a o) b = F b := if_neg h
noncomputable def Fz.del (F : Fz) (a : Addr) : Fz := fun b => if b = a then Option.none else F b

theorem VRep.tr {F F' : Fz} (h : ∀ a o, Imm o → F a = some o → F' a = some o) {x : MV} {v : Value} (r : VRep F x v) : VRep F' x v :=
  VRep.rec (motive_1 := fun x v _ => VRep F' x v) (motive_2 := fun l vs _ => VRepL F' l vs) .none .bool .int .str .ref .bi .ty (fun e => .rng (h _ _ (.inr ⟨_, _, _, _, _, rfl⟩) e)) (fun e _ l => .tup (h _ _ (.inl ⟨_, _, rfl⟩) e) l) .nil (fun _ _ a l => .cons a l) r
theorem VRepL.ind {F : Fz} {P : List MV → List Value → Prop} (n : P [] []) (c : ∀ {x : MV} {v : Value} {l : List MV} {vs : List Value}, VRep F x v → VRepL F l vs → P l vs → P (x :: l) (v :: vs)) {l : List MV} {vs : List Value} (r : VRepL F l vs) : P l vs :=
  VRepL.rec (motive_1 := fun _ _ _ => True) (motive_2 := fun l vs _ => P l vs) trivial (fun _ => trivial) (fun _ _ => trivial) (fun _ _ => trivial) (fun _ => trivial) (fun _ => trivial) (fun _ => trivial) (fun _ => trivial) (fun _ _ _ => trivial) n (fun h hl _ ih => c h hl ih) r
theorem VRepL.tr {F F' : Fz} (h : ∀ a o, Imm o → F a = some o → F' a = some o) {x : List MV} {v : List Value} (r : VRepL F x v) : VRepL F' x v := VRepL.ind .nil (fun a _ l => .cons (a.tr h) l) r
theorem VRep.mono {F F' : Fz} (h : F.le F') {x : MV} {v : Value} (r : VRep F x v) : VRep F' x v := r.tr fun a o _ => h a o
theorem VRepL.mono {F F' : Fz} (h : F.le F') {x : List MV} {v : List Value} (r : VRepL F x v) : VRepL F' x v := r.tr fun a o _ => h a o
theorem Fz.del_imm {F : Fz} {a : Addr} {o : Obj} (h : F a = some o) (hc : ¬ Imm o) (b : Addr) (o' : Obj) (k : Imm o') (e : F b = some o') : F.del a b = some o' := by
  unfold Fz.del
  by_cases q : b = a
  · subst q; rw [h] at e; cases e; exact absurd k hc
  · rw [if_neg q]; exact e
theorem VRep.del {F : Fz} {a : Addr} {o : Obj} (h : F a = some o) (hc : ¬ Imm o) {x : MV} {v : Value} (r : VRep F x v) : VRep (F.del a) x v := r.tr (Fz.del_imm h hc)
theorem VRepL.del {F : Fz} {a : Addr} {o : Obj} (h : F a = some o) (hc : ¬ Imm o) {x : List MV} {v : List Value} (r : VRepL F x v) : VRepL (F.del a) x v := r.tr (Fz.del_imm h hc)
theorem VRepL.length {F : Fz} {l : List MV} {vs : List Value} (r : VRepL F l vs) : vs.length = l.length := VRepL.ind (P := fun l vs => vs.length = l.length) rfl (fun _ _ e => congrArg (· + 1) e) r
theorem VRepL.append {F : Fz} {l' : List MV} {vs' : List Value} (h' : VRepL F l' vs') {l : List MV} {vs : List Value} (r : VRepL F l vs) : VRepL F (l ++ l') (vs ++ vs') := VRepL.ind (P := fun l vs => VRepL F (l ++ l') (vs ++ vs')) h' (fun a _ ih => .cons a ih) r
theorem VRepL.get {F : Fz} {l : List MV} {vs : List Value} (r : VRepL F l vs) {i : Nat} {x : MV} (h : l[i]? = some x) : ∃ v, vs[i]? = some v ∧ VRep F x v :=
  VRepL.ind (P := fun l vs => ∀ (i : Nat) x, l[i]? = some x → ∃ v, vs[i]? = some v ∧ VRep F x v) (fun i x h => by cases h) (fun a _ ih i y h => by
    cases i with
    | zero => cases h; exact ⟨_, rfl, a⟩
    | succ i => exact ih i y h) r i x h
theorem VRepL.set {F : Fz} {x : MV} {v : Value} (hx : VRep F x v) {l : List MV} {vs : List Value} (r : VRepL F l vs) (i : Nat) : VRepL F (l.set i x) (vs.set i v) :=
  VRepL.ind (P := fun l vs => ∀ i, VRepL F (l.set i x) (vs.set i v)) (fun _ => .nil) (fun a hl ih i => by
    cases i with
    | zero => exact .cons hx hl
    | succ i => exact .cons a (ih i)) r i
theorem VRepL.drop {F : Fz} {l : List MV} {vs : List Value} (r : VRepL F l vs) (i : Nat) : VRepL F (l.drop i) (vs.drop i) :=
  VRepL.ind (P := fun l vs => ∀ i, VRepL F (l.drop i) (vs.drop i)) (fun i => by cases i <;> exact .nil) (fun a hl ih i => by
    cases i with
    | zero => exact .cons a hl
    | succ i => exact ih i) r i
theorem VRepL.take {F : Fz} {l : List MV} {vs : List Value} (r : VRepL F l vs) (i : Nat) : VRepL F (l.take i) (vs.take i) :=
  VRepL.ind (P := fun l vs => ∀ i, VRepL F (l.take i) (vs.take i)) (fun i => by cases i <;> exact .nil) (fun a hl ih i => by
    cases i with
    | zero => exact .nil
    | succ i => exact .cons a (ih i)) r i

inductive OV (F : Fz) : Option MV → Option Value → Prop where
  | none : OV F .none .none
  | some {x : MV} {v : Value} (h : VRep F x v) : OV F (some x) (some v)
theorem OV.mono {F F' : Fz} (h : F.le F') {x : Option MV} {v : Option Value} : OV F x v → OV F' x v
  | .none => .none
  | .some a => .some (a.mono h)
theorem OV.del {F : Fz} {a : Addr} {o : Obj} (h : F a = .some o) (hc : ¬ Imm o) {x : Option MV} {v : Option Value} : OV F x v → OV (F.del a) x v
  | .none => .none
  | .some y => .some (y.del h hc)

/-- of a frame's own names: what is not said is not known -/
inductive OW (F : Fz) : Option MV → Option Value → Prop where
  | none {v : Option Value} : OW F .none v
  | some {x : MV} {v : Value} (h : VRep F x v) : OW F (some x) (some v)
theorem OW.mono {F F' : Fz} (h : F.le F') {x : Option MV} {v : Option Value} : OW F x v → OW F' x v
  | .none => .none
  | .some a => .some (a.mono h)
theorem OW.del {F : Fz} {a : Addr} {o : Obj} (h : F a = .some o) (hc : ¬ Imm o) {x : Option MV} {v : Option Value} : OW F x v → OW (F.del a) x v
  | .none => .none
  | .some y => .some (y.del h hc)

inductive MObj where
  | list (l : List MV)
  | sd (l : List (Str × MV))
  | idd (l : List (Int × MV))
  | ns (k : Nat) (m : Str → Option MV)
  | cell (v : Option MV)
  | raw (o : Obj)

/-- the pairs of a dict -/
inductive KV {K : Type} (F : Fz) : List (K × MV) → List (K × Value) → Prop where
  | nil : KV F [] []
  | cons {k : K} {x : MV} {v : Value} {l : List (K × MV)} {kvs : List (K × Value)} (hv : VRep F x v) (hl : KV F l kvs) : KV F ((k, x) :: l) ((k, v) :: kvs)
theorem KV.mono {K : Type} {F F' : Fz} (h : F.le F') {l : List (K × MV)} {es : List (K × Value)} (r : KV F l es) : KV F' l es := by
  induction r with
  | nil => exact .nil
  | cons a _ ih => exact .cons (a.mono h) ih
theorem KV.del {K : Type} {F : Fz} {a : Addr} {o : Obj} (h : F a = some o) (hc : ¬ Imm o) {l : List (K × MV)} {es : List (K × Value)} (r : KV F l es) : KV (F.del a) l es := by
  induction r with
  | nil => exact .nil
  | cons x _ ih => exact .cons (x.del h hc) ih

noncomputable abbrev Pg : Program := PySem.Challenge.rw_oy0143_01.row.prog

structure Cx where
  w : World
  h₀ : Heap
  os : OsState
noncomputable abbrev Cx.K (C : Cx) : Frag := Mine.hdK C.w.params
noncomputable abbrev Cx.M (C : Cx) : Model := model Pg C.w
structure Cx.Ok (C : Cx) : Prop where
  X : C.K.In C.h₀
  T : ∃ p loose mean mg mb, Top p loose mean mg mb C.h₀
  hd : CodeHd C.h₀ 194 190

noncomputable def ORep (C : Cx) (F : Fz) (o : Obj) : MObj → Prop
  | .list l => ∃ vs n, o = listOf (List.toArray vs) n ∧ VRepL F l vs
  | .sd l => ∃ kvs, o.IsDictOf (PySem.strKind Pg C.w) kvs ∧ KV F l kvs
  | .idd l => ∃ kvs, o.IsDictOf (PySem.intKind Pg C.w) kvs ∧ KV F l kvs
  | .ns k m => ∃ es n, o = { cls := .type "dict", data := .dict es n } ∧ (StrKeys es ∧ es.size ≤ k) ∧ ∃ m' : Str → Option Value, (∀ x, nsFind es x = m' x) ∧ ∀ x, OV F (m x) (m' x)
  | .cell v => ∃ v', o.data = .cell v' ∧ OV F v v'
  | .raw o' => o = o'
theorem ORep.mono {C : Cx} {F F' : Fz} (h : F.le F') {o : Obj} {x : MObj} (r : ORep C F o x) : ORep C F' o x := by
  cases x with
  | list l => obtain ⟨vs, n, e, r⟩ := r; exact ⟨vs, n, e, r.mono h⟩
  | sd l => obtain ⟨kvs, e, r⟩ := r; exact ⟨kvs, e, r.mono h⟩
  | idd l => obtain ⟨kvs, e, r⟩ := r; exact ⟨kvs, e, r.mono h⟩
  | ns k m => obtain ⟨es, n, e, k, m', f, r⟩ := r; exact ⟨es, n, e, k, m', f, fun x => (r x).mono h⟩
  | cell v => obtain ⟨v', e, r⟩ := r; exact ⟨v', e, r.mono h⟩
  | raw o' => exact r
theorem ORep.del {C : Cx} {F : Fz} {a : Addr} {q : Obj} (h : F a = some q) (hc : ¬ Imm q) {o : Obj} {x : MObj} (r : ORep C F o x) : ORep C (F.del a) o x := by
  cases x with
  | list l => obtain ⟨vs, n, e, r⟩ := r; exact ⟨vs, n, e, r.del h hc⟩
  | sd l => obtain ⟨kvs, e, r⟩ := r; exact ⟨kvs, e, r.del h hc⟩
  | idd l => obtain ⟨kvs, e, r⟩ := r; exact ⟨kvs, e, r.del h hc⟩
  | ns k m => obtain ⟨es, n, e, k, m', f, r⟩ := r; exact ⟨es, n, e, k, m', f, fun x => (r x).del h hc⟩
  | cell v => obtain ⟨v', e, r⟩ := r; exact ⟨v', e, r.del h hc⟩
  | raw o' => exact r

noncomputable abbrev Hp := Addr → Option MObj
noncomputable def Hp.put (H : Hp) (a : Addr) (x : MObj) : Hp := fun b => if b = a then some x else H b
noncomputable def Hp.del (H : Hp) (a : Addr) : Hp := fun b => if b = a then Option.none else H b
theorem Hp.put_self (H : Hp) (a : Addr) (x : MObj) : (H.put a x) a = some x := if_pos rfl
theorem Hp.put_ne (H : Hp) {a b : Addr} (x : MObj) (h : b ≠ a) : (H.put a x) b = H b := if_neg h
theorem Hp.put_put (H : Hp) (a : Addr) (x y : MObj) : (H.put a x).put a y = H.put a y := by
  funext b; unfold Hp.put; by_cases h : b = a <;> simp [h]
theorem Hp.put_same (H : Hp) {a : Addr} {x : MObj} (h : H a = some x) : H.put a x = H := by
  funext b; unfold Hp.put; by_cases q : b = a
  · subst q; simp [h]
  · simp [q]
noncomputable abbrev Lv := Str → Option MV
noncomputable def Lv.put (l : Lv) (x : Str) (v : MV) : Lv := fun y => if y = x then some v else l y

/-- the state: frozen objects, owned objects, the frame's own names -/
structure St (C : Cx) (F : Fz) (H : Hp) (L : Addr) (lv : Lv) (s : Shared) : Prop where
  fz : ∀ a o, F a = some o → s.heap.get? a = some o
  own : ∀ a x, H a = some x → F a = Option.none ∧ a ≠ L ∧ ∃ o, s.heap.get? a = some o ∧ ORep C F o x
  fL : F L = Option.none
  ns : ∃ m, s.heap.Ns L m ∧ ∀ x, OW F (lv x) (m x)
  base : ∀ a o, C.h₀.get? a = some o → F a = some o
  above : C.h₀.objs.size ≤ L
  gens : s.gens = #[]
  os : s.os = C.os
  nosys : H sysModules = Option.none
  big : sysModules < C.h₀.objs.size

section
variable {C : Cx} {F : Fz} {H : Hp} {L : Addr} {lv : Lv} {s : Shared}
theorem St.fr (h : St C F H L lv s) : ∃ m, Fr C.h₀ L s.heap m ∧ ∀ x, OW F (lv x) (m x) := by
  refine ea1_2 (h.ns) fun m hn r => ?_
  exact ⟨m, ⟨hn, fun b o e => h.fz b o (h.base b o e), h.above⟩, r⟩
theorem St.tok (h : St C F H L lv s) (t : Nat) : St C F H L lv { s with toks := t } := ⟨h.fz, h.own, h.fL, h.ns, h.base, h.above, h.gens, h.os, h.nosys, h.big⟩
/-- whatever else was made is of no account -/
theorem St.keeps (h : St C F H L lv s) {h' : Heap} (k : ∀ b o, s.heap.get? b = some o → h'.get? b = some o) (t : Nat) : St C F H L lv { s with heap := h', toks := t } :=
  ⟨fun a o e => k _ _ (h.fz a o e), fun a x e => let ⟨p, q, o, r, z⟩ := h.own a x e; ⟨p, q, o, k _ _ r, z⟩, h.fL, let ⟨m, n, r⟩ := h.ns; ⟨m, n.keeps k, r⟩, h.base, h.above, h.gens, h.os, h.nosys, h.big⟩
/-- an object that no one owns is turned -/
theorem St.other (h : St C F H L lv s) {h' : Heap} {a : Addr} (hs : ∀ b o, b ≠ a → s.heap.get? b = some o → h'.get? b = some o) (hF : F a = Option.none) (hH : H a = Option.none) (hL : a ≠ L) (t : Nat) : St C F H L lv { s with heap := h', toks := t } :=
  ⟨fun b o e => hs b o (fun q => by subst q; rw [hF] at e; cases e) (h.fz b o e), fun b x e => let ⟨p, q, o, r, z⟩ := h.own b x e; ⟨p, q, o, hs b o (fun q => by subst q; rw [hH] at e; cases e) r, z⟩, h.fL,
    let ⟨m, n, r⟩ := h.ns; ⟨m, n.extBut hs (Ne.symm hL), r⟩, h.base, h.above, h.gens, h.os, h.nosys, h.big⟩
theorem St.melt (h : St C F H L lv s) {a : Addr} {o : Obj} (e : F a = some o) (hi : ¬ Imm o) (hb : C.h₀.get? a = Option.none) : St C (F.del a) H L lv s := by
  refine ⟨fun b x q => ?_, fun b x q => ?_, ?_, ?_, fun b x q => ?_, h.above, h.gens, h.os, h.nosys, h.big⟩
  · unfold Fz.del at q
    by_cases z : b = a
    · rw [if_pos z] at q; cases q
    · rw [if_neg z] at q; exact h.fz b x q
  · obtain ⟨p, r, o', y, z⟩ := h.own b x q
    refine ⟨?_, r, o', y, z.del e hi⟩
    unfold Fz.del; split
    · rfl
    · exact p
  · unfold Fz.del; split
    · rfl
    · exact h.fL
  · obtain ⟨m, n, r⟩ := h.ns; exact ⟨m, n, fun x => (r x).del e hi⟩
  · unfold Fz.del
    have : b ≠ a := fun z => by subst z; rw [hb] at q; cases q
    rw [if_neg this]; exact h.base b x q
theorem St.freshF (h : St C F H L lv s) {a : Addr} (e : s.heap.get? a = Option.none) : F a = Option.none := by
  cases q : F a with
  | none => rfl
  | some o => rw [h.fz a o q] at e; cases e
theorem St.freshH (h : St C F H L lv s) {a : Addr} (e : s.heap.get? a = Option.none) : H a = Option.none := by
  cases q : H a with
  | none => rfl
  | some x => obtain ⟨_, _, o, r, _⟩ := h.own a x q; rw [r] at e; cases e
theorem St.freshL (h : St C F H L lv s) {a : Addr} (e : s.heap.get? a = Option.none) : a ≠ L := by
  intro q; subst q; obtain ⟨m, ⟨o, es, ep, r, _⟩, _⟩ := h.ns; rw [r] at e; cases e
theorem size_fresh (h : Heap) : h.get? h.objs.size = Option.none := by
  cases q : h.get? h.objs.size with
  | none => rfl
  | some o => exact absurd (Heap.lt_size q) (Nat.lt_irrefl _)
theorem St.newSys (h : St C F H L lv s) : s.heap.objs.size ≠ sysModules := by
  refine ea1_2 (h.ns) fun m n r => ?_
  have h1 := n.lt
  have h2 := h.above
  have h3 := h.big
  exact Nat.ne_of_gt (Nat.lt_of_lt_of_le h3 (Nat.le_trans h2 (Nat.le_of_lt h1)))
/-- freeze what lies there -/
theorem St.freeze (h : St C F H L lv s) {a : Addr} {o : Obj} (e : s.heap.get? a = some o) (hF : F a = Option.none) (hH : H a = Option.none) (hL : a ≠ L) : St C (F.put a o) H L lv s := by
  have le := Fz.le_put o hF
  refine ⟨fun b x q => ?_, fun b x q => ?_, ?_, ?_, fun b x q => le _ _ (h.base b x q), h.above, h.gens, h.os, h.nosys, h.big⟩
  · unfold Fz.put at q
    by_cases hb : b = a
    · subst hb; rw [if_pos rfl] at q; cases q; exact e
    · rw [if_neg hb] at q; exact h.fz b x q
  · obtain ⟨p, r, o', z, y⟩ := h.own b x q
    refine ⟨?_, r, o', z, y.mono le⟩
    unfold Fz.put
    have hb : b ≠ a := by intro hb; subst hb; rw [hH] at q; cases q
    rw [if_neg hb]; exact p
  · unfold Fz.put; rw [if_neg (Ne.symm hL)]; exact h.fL
  · obtain ⟨m, n, r⟩ := h.ns; exact ⟨m, n, fun x => (r x).mono le⟩
/-- own what lies there -/
theorem St.take (h : St C F H L lv s) {a : Addr} {o : Obj} {x : MObj} (e : s.heap.get? a = some o) (hF : F a = Option.none) (hL : a ≠ L) (hS : a ≠ sysModules) (r : ORep C F o x) : St C F (H.put a x) L lv s := by
  refine ⟨h.fz, fun b y q => ?_, h.fL, h.ns, h.base, h.above, h.gens, h.os, by unfold Hp.put; rw [if_neg (Ne.symm hS)]; exact h.nosys, h.big⟩
  unfold Hp.put at q
  by_cases hb : b = a
  · subst hb; rw [if_pos rfl] at q; cases q; exact ⟨hF, hL, o, e, r⟩
  · rw [if_neg hb] at q; exact h.own b y q
/-- forget some -/
theorem St.less (h : St C F H L lv s) {H' : Hp} (k : ∀ a x, H' a = some x → H a = some x) : St C F H' L lv s :=
  ⟨h.fz, fun a x e => h.own a x (k a x e), h.fL, h.ns, h.base, h.above, h.gens, h.os, (by
    cases q : H' sysModules with
    | none => rfl
    | some x => have := k _ _ q; rw [h.nosys] at this; cases this), h.big⟩
theorem St.lessL (h : St C F H L lv s) {lv' : Lv} (k : ∀ x y, lv' x = some y → lv x = some y) : St C F H L lv' s :=
  ⟨h.fz, h.own, h.fL, (let ⟨m, n, r⟩ := h.ns; ⟨m, n, fun x => by
    cases q : lv' x with
    | none => exact .none
    | some y => have := r x; rw [k x y q] at this; exact this⟩), h.base, h.above, h.gens, h.os, h.nosys, h.big⟩
/-- turn what is owned -/
theorem St.turn (h : St C F H L lv s) {h' : Heap} {a : Addr} {o' : Obj} {x x' : MObj} (e : H a = some x) (hs : Heap.SameBut a s.heap h') (ho : h'.get? a = some o') (r : ORep C F o' x') (t : Nat) : St C F (H.put a x') L lv { s with heap := h', toks := t } := by
  obtain ⟨p, q, o, z, y⟩ := h.own a x e
  refine ⟨fun b o e' => (hs.2 b fun q => by subst q; rw [p] at e'; cases e').trans (h.fz b o e'), fun b y q' => ?_, h.fL, let ⟨m, n, r⟩ := h.ns; ⟨m, n.sameBut hs (Ne.symm q), r⟩, h.base, h.above, h.gens, h.os, by unfold Hp.put; rw [if_neg (fun z => by rw [← z, h.nosys] at e; cases e)]; exact h.nosys, h.big⟩
  unfold Hp.put at q'
  by_cases hb : b = a
  · subst hb; rw [if_pos rfl] at q'; cases q'; exact ⟨p, q, o', ho, r⟩
  · rw [if_neg hb] at q'
    obtain ⟨p', r', o2, z', y'⟩ := h.own b y q'
    exact ⟨p', r', o2, (hs.2 b hb).trans z', y'⟩
/-- store a name of the frame's -/
theorem St.store (h : St C F H L lv s) {h' : Heap} {m' : Str → Option Value} {lv' : Lv} (hs : Heap.SameBut L s.heap h') (hn : h'.Ns L m') (r : ∀ x, OW F (lv' x) (m' x)) (t : Nat) : St C F H L lv' { s with heap := h', toks := t } :=
  ⟨fun b o e' => (hs.2 b fun q => by subst q; rw [h.fL] at e'; cases e').trans (h.fz b o e'), fun b y q' => let ⟨p', r', o2, z', y'⟩ := h.own b y q'; ⟨p', r', o2, (hs.2 b r').trans z', y'⟩, h.fL, ⟨m', hn, r⟩, h.base, h.above, h.gens, h.os, h.nosys, h.big⟩
end
end Mine
end
section
open PySem PySem.W PyProof.Rows PySem.Calls PySem.Spec
set_option Elab.async false
set_option maxRecDepth 100000
set_option linter.unusedVariables false
namespace Mine

/-- the end of a step -/
noncomputable def Pst {α β : Type} (C : Cx) (L : Addr) (R : Fz → β → α → Prop) (F : Fz) (Q : β → Hp → Lv → Prop) (v : α) (s' : Shared) : Prop :=
  ∃ F' H' lv' x, F.le F' ∧ St C F' H' L lv' s' ∧ R F' x v ∧ Q x H' lv'
noncomputable abbrev NoE : Value → Shared → Prop := fun _ _ => False
noncomputable def W {α β : Type} (C : Cx) (A : Around) (L : Addr) (R : Fz → β → α → Prop) (t : Sem α) (H : Hp) (lv : Lv) (Q : β → Hp → Lv → Prop) : Prop :=
  ∀ F s, St C F H L lv s → wpAny C.M A t (Pst C L R F Q) NoE s
theorem Pst.le {α β : Type} {C : Cx} {L : Addr} {R : Fz → β → α → Prop} {F F' : Fz} {Q : β → Hp → Lv → Prop} {v : α} {s' : Shared} (k : F.le F') (p : Pst C L R F' Q v s') : Pst C L R F Q v s' := by
  refine ea4_2 p fun G H lv x a b => ?_
  (try clear p)
  exact ⟨G, H, lv, x, k.trans a, b⟩
theorem Pst.here {α β : Type} {C : Cx} {L : Addr} {R : Fz → β → α → Prop} {F : Fz} {H : Hp} {lv : Lv} {Q : β → Hp → Lv → Prop} {v : α} {x : β} {s' : Shared} (st : St C F H L lv s') (r : R F x v) (q : Q x H lv) : Pst C L R F Q v s' :=
  ⟨F, H, lv, x, Fz.le.refl F, st, r, q⟩

/-- on with what a step leaves -/
theorem Pst.seq {α β : Type} {C : Cx} {A : Around} {t : Sem α} {L : Addr} {R : Fz → β → α → Prop} {F : Fz} {Q : β → Hp → Lv → Prop} {P : α → Shared → Prop} {E : Value → Shared → Prop} {s : Shared} (h : wpAny C.M A t (Pst C L R F Q) NoE s)
    (k : ∀ v s' F' H' lv' x, F.le F' → St C F' H' L lv' s' → R F' x v → Q x H' lv' → P v s') : wpAny C.M A t P E s :=
  wpAny_mono h (fun v s' ⟨F', H', lv', x, a, b, c, d⟩ => k v s' F' H' lv' x a b c d) fun _ _ e => e.elim
theorem Pst.up {α β : Type} {C : Cx} {A : Around} {t : Sem α} {L : Addr} {R : Fz → β → α → Prop} {F F' : Fz} {Q : β → Hp → Lv → Prop} {E : Value → Shared → Prop} {s : Shared} (k : F.le F') (h : wpAny C.M A t (Pst C L R F' Q) NoE s) : wpAny C.M A t (Pst C L R F Q) E s :=
  wpAny_mono h (fun _ _ p => p.le k) fun _ _ e => e.elim
inductive MFl where
  | next | brk | cont
  | ret (v : MV)
inductive FRep (F : Fz) : MFl → Flow → Prop where
  | next : FRep F .next .next
  | brk : FRep F .brk .brk
  | cont : FRep F .cont .cont
  | ret {x : MV} {v : Value} (h : VRep F x v) : FRep F (.ret x) (.ret v)
noncomputable abbrev EqR {α : Type} : Fz → α → α → Prop := fun _ x v => x = v

section
variable {C : Cx} {A : Around} {H : Hp} {lv : Lv} {env : Env}

/-- evaluate an expression -/
noncomputable abbrev WE (C : Cx) (A : Around) (env : Env) (e : Expr) (H : Hp) (lv : Lv) (Q : MV → Hp → Lv → Prop) : Prop := W C A env.locals VRep (eval e env) H lv Q
noncomputable abbrev WX (C : Cx) (A : Around) (env : Env) (b : List Stmt) (H : Hp) (lv : Lv) (Q : MFl → Hp → Lv → Prop) : Prop := W C A env.locals FRep (execs b env) H lv Q
noncomputable abbrev WS (C : Cx) (A : Around) (env : Env) (b : Stmt) (H : Hp) (lv : Lv) (Q : MFl → Hp → Lv → Prop) : Prop := W C A env.locals FRep (exec b env) H lv Q
/-- is a test true -/
noncomputable abbrev WT (C : Cx) (A : Around) (env : Env) (e : Expr) (H : Hp) (lv : Lv) (Q : Bool → Hp → Lv → Prop) : Prop := W C A env.locals EqR (isTrue e env (eval e env)) H lv Q
/-- an operation on one value, on two -/
noncomputable def O1 {α β : Type} (C : Cx) (A : Around) (L : Addr) (R : Fz → β → α → Prop) (f : Value → Sem α) (x : MV) (H : Hp) (lv : Lv) (Q : β → Hp → Lv → Prop) : Prop :=
  ∀ F s a, VRep F x a → St C F H L lv s → wpAny C.M A (f a) (Pst C L R F Q) NoE s
noncomputable def O2 {α β : Type} (C : Cx) (A : Around) (L : Addr) (R : Fz → β → α → Prop) (f : Value → Value → Sem α) (x y : MV) (H : Hp) (lv : Lv) (Q : β → Hp → Lv → Prop) : Prop :=
  ∀ F s a b, VRep F x a → VRep F y b → St C F H L lv s → wpAny C.M A (f a b) (Pst C L R F Q) NoE s
noncomputable def O3 {α β : Type} (C : Cx) (A : Around) (L : Addr) (R : Fz → β → α → Prop) (f : Value → Value → Value → Sem α) (x y z : MV) (H : Hp) (lv : Lv) (Q : β → Hp → Lv → Prop) : Prop :=
  ∀ F s a b c, VRep F x a → VRep F y b → VRep F z c → St C F H L lv s → wpAny C.M A (f a b c) (Pst C L R F Q) NoE s

/-! ### what comes next, each under a name -/
noncomputable abbrev kE {β : Type} (C : Cx) (A : Around) (env : Env) (e : Expr) (K : β → MV → Hp → Lv → Prop) (x : β) (H : Hp) (lv : Lv) : Prop := WE C A env e H lv (K x)
noncomputable abbrev kO1 {α β : Type} (C : Cx) (A : Around) (L : Addr) (R : Fz → β → α → Prop) (f : Value → Sem α) (Q : β → Hp → Lv → Prop) (x : MV) (H : Hp) (lv : Lv) : Prop := O1 C A L R f x H lv Q
noncomputable abbrev kO2 {α β : Type} (C : Cx) (A : Around) (L : Addr) (R : Fz → β → α → Prop) (f : Value → Value → Sem α) (Q : β → Hp → Lv → Prop) (x y : MV) (H : Hp) (lv : Lv) : Prop := O2 C A L R f x y H lv Q
noncomputable abbrev kNot (Q : Bool → Hp → Lv → Prop) (b : Bool) (H : Hp) (lv : Lv) : Prop := Q (!b) H lv
noncomputable abbrev kAnd (C : Cx) (A : Around) (L : Addr) (env : Env) (r : List Expr) (Q : Bool → Hp → Lv → Prop) (b : Bool) (H : Hp) (lv : Lv) : Prop := (b = true → W C A L EqR (allTrue .And r env) H lv Q) ∧ (b = false → Q false H lv)
noncomputable abbrev kOr (C : Cx) (A : Around) (L : Addr) (env : Env) (r : List Expr) (Q : Bool → Hp → Lv → Prop) (b : Bool) (H : Hp) (lv : Lv) : Prop := (b = false → W C A L EqR (allTrue .Or r env) H lv Q) ∧ (b = true → Q true H lv)
noncomputable abbrev kIfE (C : Cx) (A : Around) (env : Env) (a b : Expr) (Q : MV → Hp → Lv → Prop) (c : Bool) (H : Hp) (lv : Lv) : Prop := (c = true → WE C A env a H lv Q) ∧ (c = false → WE C A env b H lv Q)
noncomputable abbrev kIf (C : Cx) (A : Around) (env : Env) (a b : List Stmt) (Q : MFl → Hp → Lv → Prop) (c : Bool) (H : Hp) (lv : Lv) : Prop := (c = true → WX C A env a H lv Q) ∧ (c = false → WX C A env b H lv Q)
noncomputable abbrev kSeq (C : Cx) (A : Around) (env : Env) (r : List Stmt) (Q : MFl → Hp → Lv → Prop) (f : MFl) (H : Hp) (lv : Lv) : Prop := (f = .next → WX C A env r H lv Q) ∧ (f ≠ .next → Q f H lv)
noncomputable abbrev kRet (Q : MFl → Hp → Lv → Prop) (v : MV) (H : Hp) (lv : Lv) : Prop := Q (.ret v) H lv
noncomputable abbrev kSet (x : Str) (Q : MFl → Hp → Lv → Prop) (v : MV) (H : Hp) (lv : Lv) : Prop := Q .next H (lv.put x v)
noncomputable abbrev kNext (Q : MFl → Hp → Lv → Prop) (H : Hp) (lv : Lv) : Prop := Q .next H lv
theorem kSeq_next {r : List Stmt} {Q : MFl → Hp → Lv → Prop} (h : WX C A env r H lv Q) : kSeq C A env r Q .next H lv := ⟨fun _ => h, fun e => absurd rfl e⟩
theorem kSeq_ret {r : List Stmt} {v : MV} {Q : MFl → Hp → Lv → Prop} (h : Q (.ret v) H lv) : kSeq C A env r Q (.ret v) H lv := ⟨fun e => (nomatch e), fun _ => h⟩
theorem kSeq_brk {r : List Stmt} {Q : MFl → Hp → Lv → Prop} (h : Q .brk H lv) : kSeq C A env r Q .brk H lv := ⟨fun e => (nomatch e), fun _ => h⟩
theorem kSeq_cont {r : List Stmt} {Q : MFl → Hp → Lv → Prop} (h : Q .cont H lv) : kSeq C A env r Q .cont H lv := ⟨fun e => (nomatch e), fun _ => h⟩
theorem brA {P R : Prop} (h : P) : (true = true → P) ∧ (true = false → R) := ⟨fun _ => h, fun e => (nomatch e)⟩
theorem brB {P R : Prop} (h : R) : (false = true → P) ∧ (false = false → R) := ⟨fun e => (nomatch e), fun _ => h⟩
theorem brC {P R : Prop} (h : P) : (false = false → P) ∧ (false = true → R) := ⟨fun _ => h, fun e => (nomatch e)⟩
theorem W.mono {α β : Type} {L : Addr} {R : Fz → β → α → Prop} {t : Sem α} {Q Q' : β → Hp → Lv → Prop} (h : W C A L R t H lv Q) (k : ∀ x H lv, Q x H lv → Q' x H lv) : W C A L R t H lv Q' :=
  fun F s st => Pst.seq (h F s st) fun v s' F' H' lv' x a b c d => ⟨F', H', lv', x, a, b, c, k _ _ _ d⟩
theorem W.lessL {α β : Type} {L : Addr} {R : Fz → β → α → Prop} {t : Sem α} {Q : β → Hp → Lv → Prop} {lv' : Lv} (h : W C A L R t H lv' Q) (k : ∀ x y, lv' x = some y → lv x = some y) : W C A L R t H lv Q :=
  fun F s st => h F s (st.lessL k)
/-! ### leaves -/
theorem W_int {i : Int} {k : Nat} {pos : Pos} {Q : MV → Hp → Lv → Prop} (h : Q (.int i) H lv) : WE C A env (.Constant (.int i) k pos) H lv Q :=
  fun F s st => wpAny_Constant_int (Pst.here (st.tok _) (.int _ _) h)
theorem W_str {x : Str} {k : Nat} {pos : Pos} {Q : MV → Hp → Lv → Prop} (h : Q (.str x) H lv) : WE C A env (.Constant (.str x) k pos) H lv Q :=
  fun F s st => wpAny_Constant_str (Pst.here (st.tok _) (.str _ _) h)
theorem W_none {k : Nat} {pos : Pos} {Q : MV → Hp → Lv → Prop} (h : Q .none H lv) : WE C A env (.Constant .none k pos) H lv Q :=
  fun F s st => wpAny_Constant_none (Pst.here st .none h)
theorem W_local {x : Str} {pos : Pos} {v : MV} {Q : MV → Hp → Lv → Prop} (hv : lv x = some v) (h : Q v H lv) (hk : env.scope.kind = .function := by rfl) (hl : env.kindOf x = some .local := by rfl) (hd : (x == ("__debug__" : Str)) = false := by decide) :
    WE C A env (.Name x pos) H lv Q := fun F s st => by
  refine ea1_2 (st.ns) fun m hn r => ?_
  have := r x
  rw [hv] at this
  generalize hm : m x = q at this
  cases this with
  | some y => exact wpAny_Name (wpAny_loadName_local hk hl hn hm (Pst.here st y h)) hd
theorem St.keepsB {C : Cx} {F : Fz} {H : Hp} {L : Addr} {lv : Lv} {s : Shared} (st : St C F H L lv s) : ∀ b o, C.h₀.get? b = some o → s.heap.get? b = some o := fun b o e => st.fz b o (st.base b o e)
theorem W_global (O : C.Ok) {x : Str} {pos : Pos} {v : Value} {y : MV} {Q : MV → Hp → Lv → Prop} (e : nsIn C.K mainGlobals x = some (some v)) (r : ∀ F, VRep F y v) (h : Q y H lv) (hk : env.scope.kind = .function := by rfl) (hx : env.kindOf x = some .globalImplicit := by rfl)
    (hge : env.globals = mainGlobals := by rfl) (hd : (x == ("__debug__" : Str)) = false := by decide) : WE C A env (.Name x pos) H lv Q := fun F s st => by
  refine ea5_1 (O.T) fun p loose mean mg mb T => ?_
  have hg : s.heap.Ns env.globals mg := hge ▸ T.g.keeps st.keepsB
  exact Name_function_global hk hx (loadGlobal_global hg (mg_of O.X T.g e) (Pst.here st (r F) h)) hd
theorem W_builtin (O : C.Ok) {x : Str} {pos : Pos} {v : Value} {y : MV} {Q : MV → Hp → Lv → Prop} (e : nsIn C.K mainGlobals x = some Option.none) (hv : bootBuiltins x = some v) (r : ∀ F, VRep F y v) (h : Q y H lv) (hn : x ≠ "__name__" := by decide) (hk : env.scope.kind = .function := by rfl) (hx : env.kindOf x = some .globalImplicit := by rfl)
    (hge : env.globals = mainGlobals := by rfl) (hbe : env.builtins = builtinsNs := by rfl) (hd : (x == ("__debug__" : Str)) = false := by decide) : WE C A env (.Name x pos) H lv Q := fun F s st => by
  refine ea5_1 (O.T) fun p loose mean mg mb T => ?_
  have hg : s.heap.Ns env.globals mg := hge ▸ T.g.keeps st.keepsB
  have hb : s.heap.Ns env.builtins mb := hbe ▸ T.b.keeps st.keepsB
  exact Name_function_global hk hx (loadGlobal_builtin hg (mg_none_of O.X T.g e) hb ((T.builtins x hn).trans hv) (Pst.here st (r F) h)) hd
theorem W_cell {x : Str} {pos : Pos} {c : Addr} {v : MV} {Q : MV → Hp → Lv → Prop} (hc : env.cells.lookup x = some c) (hv : H c = some (.cell (some v))) (h : Q v H lv) (hk : env.scope.kind = .function := by rfl) (hx : env.kindOf x = some .cell := by rfl) (hd : (x == ("__debug__" : Str)) = false := by decide) :
    WE C A env (.Name x pos) H lv Q := fun F s st => by
  obtain ⟨_, _, o, ho, v', hd', r⟩ := st.own _ _ hv
  cases r with
  | some y => exact wpAny_Name (wpAny_loadName_cell hk hx hc ⟨o, ho, hd'⟩ (Pst.here st y h)) hd
theorem W_free {x : Str} {pos : Pos} {c : Addr} {v : MV} {Q : MV → Hp → Lv → Prop} (hc : env.cells.lookup x = some c) (hv : H c = some (.cell (some v))) (h : Q v H lv) (hk : env.scope.kind = .function := by rfl) (hx : env.kindOf x = some .free := by rfl) (hd : (x == ("__debug__" : Str)) = false := by decide) (hn : (x == ("__classdict__" : Str)) = false := by decide) :
    WE C A env (.Name x pos) H lv Q := fun F s st => by
  obtain ⟨_, _, o, ho, v', hd', r⟩ := st.own _ _ hv
  cases r with
  | some y => exact wpAny_Name (wpAny_loadName_free hk hx hc ⟨o, ho, hd'⟩ (Pst.here st y h) hn) hd

/-! ### expressions -/
theorem W_BinOp {l r : Expr} {op : Operator} {pos : Pos} {Q : MV → Hp → Lv → Prop}
    (h : WE C A env l H lv (kE C A env r (kO2 C A env.locals VRep (binaryOp op) Q))) : WE C A env (.BinOp l op r pos) H lv Q := fun F s st =>
  wpAny_BinOp (Pst.seq (h F s st) fun a s1 F1 H1 lv1 x k1 st1 r1 q1 => Pst.seq (q1 F1 s1 st1) fun b s2 F2 H2 lv2 y k2 st2 r2 q2 =>
    Pst.up (k1.trans k2) (q2 F2 s2 a b (r1.mono k2) r2 st2))
theorem W_Compare {l r : Expr} {op : CmpOp} {pos : Pos} {Q : MV → Hp → Lv → Prop}
    (h : WE C A env l H lv (kE C A env r (kO2 C A env.locals VRep (compareOp op) Q))) (hm : behindInMarks op r = false := by with_unfolding_all rfl) : WE C A env (.Compare l [op] [r] pos) H lv Q := fun F s st =>
  wpAny_Compare1 (Pst.seq (h F s st) fun a s1 F1 H1 lv1 x k1 st1 r1 q1 => Pst.seq (q1 F1 s1 st1) fun b s2 F2 H2 lv2 y k2 st2 r2 q2 =>
    Pst.up (k1.trans k2) (q2 F2 s2 a b (r1.mono k2) r2 st2)) hm
theorem W_UnaryOp {x : Expr} {op : UnaryOp} {pos : Pos} {Q : MV → Hp → Lv → Prop}
    (h : WE C A env x H lv (kO1 C A env.locals VRep (unaryOp op) Q)) : WE C A env (.UnaryOp op x pos) H lv Q := fun F s st =>
  wpAny_UnaryOp (Pst.seq (h F s st) fun a s1 F1 H1 lv1 x k1 st1 r1 q1 => Pst.up k1 (q1 F1 s1 a r1 st1))

/-! ### tests -/
theorem T_Compare {l r : Expr} {op : CmpOp} {pos : Pos} {Q : Bool → Hp → Lv → Prop}
    (h : WE C A env l H lv (kE C A env r (kO2 C A env.locals VRep (compareOp op) (kO1 C A env.locals EqR truthy Q)))) (hm : behindInMarks op r = false := by with_unfolding_all rfl) : WT C A env (.Compare l [op] [r] pos) H lv Q := fun F s st =>
  wpAny_isTrue_Compare1 (Pst.seq (h F s st) fun a s1 F1 H1 lv1 x k1 st1 r1 q1 => Pst.seq (q1 F1 s1 st1) fun b s2 F2 H2 lv2 y k2 st2 r2 q2 =>
    Pst.seq (q2 F2 s2 a b (r1.mono k2) r2 st2) fun c s3 F3 H3 lv3 z k3 st3 r3 q3 => Pst.up (k1.trans (k2.trans k3)) (q3 F3 s3 c r3 st3)) hm
theorem T_Not {x : Expr} {pos : Pos} {Q : Bool → Hp → Lv → Prop} (h : WT C A env x H lv (kNot Q)) : WT C A env (.UnaryOp .Not x pos) H lv Q := fun F s st =>
  wpAny_isTrue_Not (Pst.seq (h F s st) fun a s1 F1 H1 lv1 x k1 st1 r1 q1 => ⟨F1, H1, lv1, !x, k1, st1, by cases r1; rfl, q1⟩)
theorem T_value {e : Expr} {Q : Bool → Hp → Lv → Prop} (h : WE C A env e H lv (kO1 C A env.locals EqR truthy Q))
    (hp : ∀ whole, isTrue e env whole = (do let v ← whole; standAt e.pos; holding [v] (truthy v))) : WT C A env e H lv Q := fun F s st => by
  rw [hp]
  exact wpAny_bind (Pst.seq (h F s st) fun a s1 F1 H1 lv1 x k1 st1 r1 q1 => wpAny_bind (wpAny_standAt (wpAny_holding (Pst.up k1 (q1 F1 s1 a r1 st1)))))
theorem T_And_nil {Q : Bool → Hp → Lv → Prop} (h : Q true H lv) : W C A env.locals EqR (allTrue .And [] env) H lv Q := fun F s st => wpAny_allTrue_And_nil (Pst.here st rfl h)
theorem T_Or_nil {Q : Bool → Hp → Lv → Prop} (h : Q false H lv) : W C A env.locals EqR (allTrue .Or [] env) H lv Q := fun F s st => wpAny_allTrue_Or_nil (Pst.here st rfl h)
theorem T_And_cons {x : Expr} {r : List Expr} {Q : Bool → Hp → Lv → Prop} (h : WT C A env x H lv (kAnd C A env.locals env r Q)) : W C A env.locals EqR (allTrue .And (x :: r) env) H lv Q := fun F s st => by
  rw [arm_allTrue_cons]
  refine wpAny_bind (Pst.seq (h F s st) fun b s1 F1 H1 lv1 x k1 st1 r1 q1 => ?_)
  cases r1
  cases b with
  | true => exact Pst.up k1 (q1.1 rfl F1 s1 st1)
  | false => exact wpAny_pure ⟨F1, H1, lv1, _, k1, st1, rfl, q1.2 rfl⟩
theorem T_Or_cons {x : Expr} {r : List Expr} {Q : Bool → Hp → Lv → Prop} (h : WT C A env x H lv (kOr C A env.locals env r Q)) : W C A env.locals EqR (allTrue .Or (x :: r) env) H lv Q := fun F s st => by
  rw [arm_allTrue_cons]
  refine wpAny_bind (Pst.seq (h F s st) fun b s1 F1 H1 lv1 x k1 st1 r1 q1 => ?_)
  cases r1
  cases b with
  | false => exact Pst.up k1 (q1.1 rfl F1 s1 st1)
  | true => exact wpAny_pure ⟨F1, H1, lv1, _, k1, st1, rfl, q1.2 rfl⟩
theorem T_BoolOp {op : BoolOp} {vs : List Expr} {pos : Pos} {Q : Bool → Hp → Lv → Prop} (h : W C A env.locals EqR (allTrue op vs env) H lv Q) : WT C A env (.BoolOp op vs pos) H lv Q := fun F s st => wpAny_isTrue_BoolOp (h F s st)
theorem W_IfExp {t a b : Expr} {pos : Pos} {Q : MV → Hp → Lv → Prop} (h : WT C A env t H lv (kIfE C A env a b Q)) : WE C A env (.IfExp t a b pos) H lv Q := fun F s st => by
  refine wpAny_IfExp (Pst.seq (h F s st) fun c s1 F1 H1 lv1 x k1 st1 r1 q1 => ?_)
  cases r1
  cases c with
  | true => exact Pst.up k1 (q1.1 rfl F1 s1 st1)
  | false => exact Pst.up k1 (q1.2 rfl F1 s1 st1)

/-! ### statements -/
theorem X_nil {Q : MFl → Hp → Lv → Prop} (h : Q .next H lv) : WX C A env [] H lv Q := fun F s st => wpAny_execs_nil (Pst.here st .next h)
theorem X_cons {st : Stmt} {r : List Stmt} {Q : MFl → Hp → Lv → Prop} (h : WS C A env st H lv (kSeq C A env r Q)) : WX C A env (st :: r) H lv Q := fun F s sst => by
  refine wpAny_execs_cons (Pst.seq (h F s sst) fun f s1 F1 H1 lv1 x k1 st1 r1 q1 => ?_)
  cases r1 with
  | next => exact Pst.up k1 (q1.1 rfl F1 s1 st1)
  | brk => exact ⟨F1, H1, lv1, _, k1, st1, .brk, q1.2 (by intro e; cases e)⟩
  | cont => exact ⟨F1, H1, lv1, _, k1, st1, .cont, q1.2 (by intro e; cases e)⟩
  | ret v => exact ⟨F1, H1, lv1, _, k1, st1, .ret v, q1.2 (by intro e; cases e)⟩
theorem S_If {t : Expr} {a b : List Stmt} {pos : Pos} {Q : MFl → Hp → Lv → Prop} (h : WT C A env t H lv (kIf C A env a b Q)) : WS C A env (.If t a b pos) H lv Q := fun F s st => by
  refine wpAny_If (Pst.seq (h F s st) fun c s1 F1 H1 lv1 x k1 st1 r1 q1 => ?_)
  cases r1
  cases c with
  | true => exact Pst.up k1 (q1.1 rfl F1 s1 st1)
  | false => exact Pst.up k1 (q1.2 rfl F1 s1 st1)
theorem S_Return {e : Expr} {pos : Pos} {Q : MFl → Hp → Lv → Prop} (h : WE C A env e H lv (kRet Q)) : WS C A env (.Return (some e) pos) H lv Q := fun F s st =>
  wpAny_Return_some (Pst.seq (h F s st) fun v s1 F1 H1 lv1 x k1 st1 r1 q1 => ⟨F1, H1, lv1, _, k1, st1, .ret r1, q1⟩)
theorem S_Break {pos : Pos} {Q : MFl → Hp → Lv → Prop} (h : Q .brk H lv) : WS C A env (.Break pos) H lv Q := fun F s st => wpAny_Break (Pst.here st .brk h)
theorem S_Continue {pos : Pos} {Q : MFl → Hp → Lv → Prop} (h : Q .cont H lv) : WS C A env (.Continue pos) H lv Q := fun F s st => wpAny_Continue (Pst.here st .cont h)
/-- a store into a name of the frame -/
theorem store_local {F : Fz} {s : Shared} {x : Str} {y : MV} {v : Value} {E : Value → Shared → Prop} {Q : Unit → Shared → Prop} (st : St C F H env.locals lv s) (r : VRep F y v) (hl : env.kindOf x = some .local) (hk : env.scope.kind = .function)
    (h : ∀ s', St C F H env.locals (lv.put x y) s' → Q () s') : wpAny C.M A (storeName env x v) Q E s := by
  refine ea1_2 (st.ns) fun m hn hr => ?_
  refine wpAny_storeName_local hl hn (fun h' hn' hs => h _ (st.store hs hn' (fun z => ?_) _)) (by rw [hk]; rfl)
  unfold Lv.put
  by_cases q : z = x
  · simp only [q, if_true]; exact .some r
  · simp only [if_neg q]; exact hr z
theorem S_Assign {x : Str} {p' pos : Pos} {e : Expr} {Q : MFl → Hp → Lv → Prop} (h : WE C A env e H lv (kSet x Q)) (hk : env.scope.kind = .function := by rfl) (hl : env.kindOf x = some .local := by rfl)
    (hs : swapsWith e (some (.Name x p')) pos.line env = pure false := by rfl) : WS C A env (.Assign [.Name x p'] e pos) H lv Q := fun F s st =>
  wpAny_Assign_Name (Pst.seq (h F s st) fun v s1 F1 H1 lv1 y k1 st1 r1 q1 => store_local st1 r1 hl hk fun s' st' => ⟨F1, H1, _, _, k1, st', .next, q1⟩) hs
theorem S_Aug {x : Str} {p' pos : Pos} {op : Operator} {e : Expr} {u : MV} {Q : MFl → Hp → Lv → Prop} (hv : lv x = some u) (h : WE C A env e H lv (kO2 C A env.locals VRep (inplaceOp op) (kSet x Q) u)) (hk : env.scope.kind = .function := by rfl) (hl : env.kindOf x = some .local := by rfl) :
    WS C A env (.AugAssign (.Name x p') op e pos) H lv Q := fun F s st => by
  refine ea1_2 (st.ns) fun m hn r => ?_
  have := r x
  rw [hv] at this
  generalize hm : m x = q at this
  cases this with
  | some y =>
    exact wpAny_AugAssign_Name (wpAny_loadName_local hk hl hn hm (Pst.seq (h F s st) fun v s1 F1 H1 lv1 z k1 st1 r1 q1 => wpAny_mono (q1 F1 s1 _ v (y.mono k1) r1 st1)
      (fun v2 s2 ⟨F2, H2, lv2, z2, k2, st2, r2, q2⟩ => store_local st2 r2 hl hk fun s' st' => ⟨F2, H2, _, _, k1.trans k2, st', .next, q2⟩) fun _ _ e => e))
end
end Mine
end
section
open PySem PySem.W PyProof.Rows PySem.Calls PySem.Spec
set_option Elab.async false
set_option maxRecDepth 100000
set_option linter.unusedVariables false
namespace Mine
section
variable {C : Cx} {A : Around} {H : Hp} {lv : Lv} {L : Addr} {Q : MV → Hp → Lv → Prop}

/-! ### ints -/
theorem B_add {a b : Int} (h : Q (.int (a + b)) H lv) : O2 C A L VRep (binaryOp .Add) (.int a) (.int b) H lv Q := by
  intro F s u v hu hv st; cases hu; cases hv; exact add_int (Pst.here (st.tok _) (.int _ _) h)
theorem B_sub {a b : Int} (h : Q (.int (a - b)) H lv) : O2 C A L VRep (binaryOp .Sub) (.int a) (.int b) H lv Q := by
  intro F s u v hu hv st; cases hu; cases hv; exact sub_int (Pst.here (st.tok _) (.int _ _) h)
theorem B_mul {a b : Int} (hm : IntMulOk a b) (h : Q (.int (a * b)) H lv) : O2 C A L VRep (binaryOp .Mult) (.int a) (.int b) H lv Q := by
  intro F s u v hu hv st; cases hu; cases hv; exact mul_int (Pst.here (st.tok _) (.int _ _) h) hm
theorem B_mod {a b : Int} (hb : b ≠ 0) (h : Q (.int (a.fmod b)) H lv) : O2 C A L VRep (binaryOp .Mod) (.int a) (.int b) H lv Q := by
  intro F s u v hu hv st; cases hu; cases hv; exact mod_int' hb (Pst.here (st.tok _) (.int _ _) h)
theorem B_div {a b : Int} (hb : b ≠ 0) (hp : Builtin.divisionGoesByPylong a b = false) (h : Q (.int (a.fdiv b)) H lv) : O2 C A L VRep (binaryOp .FloorDiv) (.int a) (.int b) H lv Q := by
  intro F s u v hu hv st; cases hu; cases hv; exact floordiv_int hb (Pst.here (st.tok _) (.int _ _) h) (.inl hp)
theorem B_and {a b : Int} (h : Q (.int (Builtin.bitAnd a b)) H lv) : O2 C A L VRep (binaryOp .BitAnd) (.int a) (.int b) H lv Q := by
  intro F s u v hu hv st; cases hu; cases hv; exact and_int (Pst.here (st.tok _) (.int _ _) h)
theorem B_xor {a b : Int} (h : Q (.int (Builtin.bitXor a b)) H lv) : O2 C A L VRep (binaryOp .BitXor) (.int a) (.int b) H lv Q := by
  intro F s u v hu hv st; cases hu; cases hv; exact xor_int (Pst.here (st.tok _) (.int _ _) h)
theorem B_shr1 {a : Int} (h0 : 0 ≤ a) (h : Q (.int (a / 2)) H lv) : O2 C A L VRep (binaryOp .RShift) (.int a) (.int 1) H lv Q := by
  intro F s u v hu hv st; cases hu; cases hv; exact wpAny_rshift1_int h0 (Pst.here (st.tok _) (.int _ _) h)
theorem I_add {a b : Int} (h : Q (.int (a + b)) H lv) : O2 C A L VRep (inplaceOp .Add) (.int a) (.int b) H lv Q := by
  intro F s u v hu hv st; cases hu; cases hv; exact wpAny_iadd_int (Pst.here (st.tok _) (.int _ _) h)
theorem U_neg {a : Int} (h : Q (.int (-a)) H lv) : O1 C A L VRep (unaryOp .USub) (.int a) H lv Q := by
  intro F s u hu st; cases hu; exact neg_int (Pst.here (st.tok _) (.int _ _) h)

theorem C_lt {a b : Int} (h : Q (.bool (decide (a < b))) H lv) : O2 C A L VRep (compareOp .Lt) (.int a) (.int b) H lv Q := by
  intro F s u v hu hv st; cases hu; cases hv; exact lt_int (Pst.here st (.bool _) h)
theorem C_le {a b : Int} (h : Q (.bool (decide (a ≤ b))) H lv) : O2 C A L VRep (compareOp .LtE) (.int a) (.int b) H lv Q := by
  intro F s u v hu hv st; cases hu; cases hv; exact le_int (Pst.here st (.bool _) h)
theorem C_gt {a b : Int} (h : Q (.bool (decide (b < a))) H lv) : O2 C A L VRep (compareOp .Gt) (.int a) (.int b) H lv Q := by
  intro F s u v hu hv st; cases hu; cases hv; exact gt_int (Pst.here st (.bool _) h)
theorem C_eq {a b : Int} (h : Q (.bool (a == b)) H lv) : O2 C A L VRep (compareOp .Eq) (.int a) (.int b) H lv Q := by
  intro F s u v hu hv st; cases hu; cases hv; exact eq_int (Pst.here st (.bool _) h)
theorem C_ne {a b : Int} (h : Q (.bool (a != b)) H lv) : O2 C A L VRep (compareOp .NotEq) (.int a) (.int b) H lv Q := by
  intro F s u v hu hv st; cases hu; cases hv; exact ne_int (Pst.here st (.bool _) h)
theorem C_eqS {a b : Str} (h : Q (.bool (a == b)) H lv) : O2 C A L VRep (compareOp .Eq) (.str a) (.str b) H lv Q := by
  intro F s u v hu hv st; cases hu; cases hv; exact PyProof.Rows.eq_str (Pst.here st (.bool _) h)
theorem C_neS {a b : Str} (h : Q (.bool (a != b)) H lv) : O2 C A L VRep (compareOp .NotEq) (.str a) (.str b) H lv Q := by
  intro F s u v hu hv st; cases hu; cases hv; exact PyProof.Rows.ne_str (Pst.here st (.bool _) h)
theorem C_inS {a b : Str} (h : Q (.bool !(Builtin.Str.occurrences b a 0 b.length 1).isEmpty) H lv) : O2 C A L VRep (compareOp .In) (.str a) (.str b) H lv Q := by
  intro F s u v hu hv st; cases hu; cases hv; exact PyProof.Rows.in_str (Pst.here st (.bool _) h)
noncomputable def MV.isNone : MV → Bool
  | .none => true
  | _ => false
theorem VRep.isNone {F : Fz} {x : MV} {v : Value} (h : VRep F x v) : (v == .none) = x.isNone := by cases h <;> rfl
theorem C_is {x : MV} (h : Q (.bool x.isNone) H lv) : O2 C A L VRep (compareOp .Is) x .none H lv Q := by
  intro F s u v hu hv st; cases hv; exact is_none (hu.isNone ▸ Pst.here st (.bool _) h)
theorem C_isnt {x : MV} (h : Q (.bool !x.isNone) H lv) : O2 C A L VRep (compareOp .IsNot) x .none H lv Q := by
  intro F s u v hu hv st; cases hv; exact isNot_none (hu.isNone ▸ Pst.here st (.bool _) h)

/-! ### truth -/
theorem O_truth {b : Bool} {Q : Bool → Hp → Lv → Prop} (h : Q b H lv) : O1 C A L EqR truthy (.bool b) H lv Q := by
  intro F s u hu st; cases hu; exact wpAny_truthy_bool (Pst.here st rfl h)
theorem St.list {F : Fz} {s : Shared} {a : Addr} {l : List MV} (st : St C F H L lv s) (e : H a = some (.list l)) : ∃ vs n, s.heap.get? a = some (listOf (List.toArray vs) n) ∧ VRepL F l vs ∧ vs.length = l.length := by
  obtain ⟨_, _, o, ho, vs, n, rfl, r⟩ := st.own _ _ e
  exact ⟨vs, n, ho, r, r.length⟩
theorem O_truthL {a : Addr} {l : List MV} {Q : Bool → Hp → Lv → Prop} (e : H a = some (.list l)) (h : Q (!l.isEmpty) H lv) (hsz : l.length ≤ 100000) : O1 C A L EqR truthy (.ref a) H lv Q := by
  intro F s u hu st
  cases hu
  refine ea2_3 (st.list e) fun vs n ho r hlen => ?_
  refine wpAny_truthy_list (PySem.IsL.isList (n := n) ho) (by simp only [List.size_toArray]; lia) ?_
  refine Pst.here (st.tok _) ?_ h
  show (!l.isEmpty) = !(vs.toArray).isEmpty
  cases r <;> rfl

/-! ### lists -/
theorem put_own {F : Fz} {s : Shared} (st : St C F H L lv s) {o : Obj} {x : MObj} (hf : o.isFreed = false) (r : ORep C F o x) : St C F (H.put s.heap.objs.size x) L lv { s with heap := s.heap.push o } := by
  have st' := st.keeps (h' := s.heap.push o) (fun b o' e => Heap.get?_push_of_some _ e) s.toks
  exact st'.take (Heap.get?_push_size _ hf) (st.freshF (size_fresh _)) (st.freshL (size_fresh _)) st.newSys r
theorem put_fz {F : Fz} {s : Shared} (st : St C F H L lv s) {o : Obj} (hf : o.isFreed = false) : St C (F.put s.heap.objs.size o) H L lv { s with heap := s.heap.push o } := by
  have st' := st.keeps (h' := s.heap.push o) (fun b o' e => Heap.get?_push_of_some _ e) s.toks
  exact st'.freeze (Heap.get?_push_size _ hf) (st.freshF (size_fresh _)) (st.freshH (size_fresh _)) (st.freshL (size_fresh _))
theorem newList_ {F : Fz} {s : Shared} {vs : List Value} {l : List MV} {E : Value → Shared → Prop} (st : St C F H L lv s) (r : VRepL F l vs) (hsz : l.length ≤ 100000) (h : ∀ a, H a = Option.none → Q (.ref a) (H.put a (.list l)) lv) :
    wpAny C.M A (newList vs) (Pst C L VRep F Q) E s := by
  refine wpAny_newObj_type ?_ (by show vs.toArray.size ≤ sizeLine; rw [List.size_toArray, r.length]; exact Nat.le_trans hsz (by decide))
  exact Pst.here (put_own (x := .list l) st rfl ⟨vs, 0, rfl, r⟩) (.ref _) (h _ (st.freshH (size_fresh _)))
theorem newTuple_ {F : Fz} {s : Shared} {vs : List Value} {l : List MV} {E : Value → Shared → Prop} (st : St C F H L lv s) (r : VRepL F l vs) (hsz : l.length ≤ 100000) (h : Q (.tup l) H lv) :
    wpAny C.M A (newTuple vs) (Pst C L VRep F Q) E s := by
  refine wpAny_newObj_type ?_ (by show vs.toArray.size ≤ sizeLine; rw [List.size_toArray, r.length]; exact Nat.le_trans hsz (by decide))
  have hF := st.freshF (size_fresh s.heap)
  have le := Fz.le_put (F := F) (a := s.heap.objs.size) { cls := .type "tuple", data := .seq vs.toArray } hF
  exact ⟨_, H, lv, .tup l, le, put_fz st rfl, .tup (vs := vs) (n := 0) (Fz.put_self ..) (r.mono le), h⟩

/-- evaluate the items of a display or of a call -/
noncomputable def WL (C : Cx) (A : Around) (env : Env) (pos : Pos) (es : List Expr) (H : Hp) (lv : Lv) (Q : List MV → Hp → Lv → Prop) : Prop := W C A env.locals VRepL (spliced (backTo pos (starEach es env))) H lv Q
theorem L_nil {env : Env} {pos : Pos} {Q : List MV → Hp → Lv → Prop} (h : Q [] H lv) : WL C A env pos [] H lv Q := fun F s st => wpAny_items_nil (Pst.here st .nil h)
noncomputable abbrev kLc (Q : List MV → Hp → Lv → Prop) (x : MV) (l : List MV) (H : Hp) (lv : Lv) : Prop := Q (x :: l) H lv
noncomputable abbrev kL (C : Cx) (A : Around) (env : Env) (pos : Pos) (es : List Expr) (Q : List MV → Hp → Lv → Prop) (x : MV) (H : Hp) (lv : Lv) : Prop := WL C A env pos es H lv (kLc Q x)
noncomputable abbrev kList (Q : MV → Hp → Lv → Prop) (l : List MV) (H : Hp) (lv : Lv) : Prop := l.length ≤ 100000 ∧ ∀ a, H a = Option.none → Q (.ref a) (H.put a (.list l)) lv
noncomputable abbrev kTup (Q : MV → Hp → Lv → Prop) (l : List MV) (H : Hp) (lv : Lv) : Prop := l.length ≤ 100000 ∧ Q (.tup l) H lv
theorem L_cons {env : Env} {pos : Pos} {e : Expr} {es : List Expr} {Q : List MV → Hp → Lv → Prop} (h : WE C A env e H lv (kL C A env pos es Q)) (hns : starEach (e :: es) env = (false, eval e env) :: starEach es env := by rfl) : WL C A env pos (e :: es) H lv Q := fun F s st =>
  wpAny_items_cons (Pst.seq (h F s st) fun a s1 F1 H1 lv1 x k1 st1 r1 q1 => Pst.seq (q1 F1 s1 st1) fun vs s2 F2 H2 lv2 l k2 st2 r2 q2 => ⟨F2, H2, lv2, x :: l, k1.trans k2, st2, .cons (r1.mono k2) r2, q2⟩) hns
theorem W_List {env : Env} {pos : Pos} {es : List Expr} (h : WL C A env pos es H lv (kList Q)) : WE C A env (.List es pos) H lv Q := fun F s st =>
  List_ (Pst.seq (h F s st) fun vs s1 F1 H1 lv1 l k1 st1 r1 q1 => Pst.up k1 (newList_ st1 r1 q1.1 q1.2))
theorem W_Tuple {env : Env} {pos : Pos} {k : Nat} {es : List Expr} (h : WL C A env pos es H lv (kTup Q)) : WE C A env (.Tuple es k pos) H lv Q := fun F s st =>
  Tuple_ (Pst.seq (h F s st) fun vs s1 F1 H1 lv1 l k1 st1 r1 q1 => Pst.up k1 (newTuple_ st1 r1 q1.1 q1.2))

theorem W_Sub {env : Env} {pos : Pos} {v i : Expr} (h : WE C A env v H lv (kE C A env i (kO2 C A env.locals VRep (subscriptTail v i) Q))) : WE C A env (.Subscript v i pos) H lv Q := fun F s st =>
  Subscript_ (Pst.seq (h F s st) fun a s1 F1 H1 lv1 x k1 st1 r1 q1 => Pst.seq (q1 F1 s1 st1) fun b s2 F2 H2 lv2 y k2 st2 r2 q2 =>
    Pst.up (k1.trans k2) (q2 F2 s2 a b (r1.mono k2) r2 st2))
noncomputable def plainSlice : Expr → Bool
  | .Slice .. => false
  | _ => true
theorem subscripted_plain {i : Expr} (h : plainSlice i = true) (o v : Value) : subscripted i false o v = operate [o, v] (getItem o v) := by
  cases i <;> first | rfl | cases h
theorem G_list {a : Addr} {l : List MV} {k : Int} {x : MV} {v i : Expr} (e : H a = some (.list l)) (h0 : 0 ≤ k) (hx : l[k.toNat]? = some x) (h : Q x H lv) (hsz : l.length ≤ 100000) (hi : plainSlice i = true := by rfl) : O2 C A L VRep (subscriptTail v i) (.ref a) (.int k) H lv Q := by
  intro F s u w hu hw st; cases hu; cases hw
  refine ea2_3 (st.list e) fun vs n ho r hlen => ?_
  refine ea1_2 (r.get hx) fun y hy ry => ?_
  have hk := (List.getElem?_eq_some_iff.mp hx).1
  have hl : s.heap.IsList a vs.toArray := PySem.IsL.isList (n := n) ho
  exact tail_any hl.typeIs slot_list_getitem.lookup (wpAny_getItem_list hl h0 (by lia) (by simpa using hy) (Pst.here st ry h)) (subscripted_plain hi _ _)
theorem G_listN {a : Addr} {l : List MV} {k : Int} {x : MV} {v i : Expr} (e : H a = some (.list l)) (h0 : k < 0) (h1 : -(l.length : Int) ≤ k) (hx : l[(k + l.length).toNat]? = some x) (h : Q x H lv) (hsz : l.length ≤ 100000) (hi : plainSlice i = true := by rfl) : O2 C A L VRep (subscriptTail v i) (.ref a) (.int k) H lv Q := by
  intro F s u w hu hw st; cases hu; cases hw
  refine ea2_3 (st.list e) fun vs n ho r hlen => ?_
  refine ea1_2 (r.get hx) fun y hy ry => ?_
  have hl : s.heap.IsList a vs.toArray := PySem.IsL.isList (n := n) ho
  refine tail_any hl.typeIs slot_list_getitem.lookup ?_ (subscripted_plain hi _ _)
  refine wpAny_getItem_list_neg hl h0 ?_ ?_ ?_ (Pst.here st ry h)
  all_goals first | lia | (simp only [List.size_toArray]; lia) | (simpa [hlen] using hy)
theorem G_tup {l : List MV} {k : Int} {x : MV} {v i : Expr} (h0 : 0 ≤ k) (hx : l[k.toNat]? = some x) (h : Q x H lv) (hsz : l.length ≤ 100000) (hi : plainSlice i = true := by rfl) : O2 C A L VRep (subscriptTail v i) (.tup l) (.int k) H lv Q := by
  intro F s u w hu hw st
  cases hw
  cases hu with
  | tup e r =>
    refine ea1_2 (r.get hx) fun y hy ry => ?_
    have hk := (List.getElem?_eq_some_iff.mp hx).1
    have ht : IsTup s.heap _ _ := ⟨_, st.fz _ _ e, rfl, _, rfl⟩
    have hlen := r.length
    exact tail_any ht.typeIs slot_tuple_getitem.lookup (getItem_tuple ht (by lia) (by lia) (seqIndex_of h0 (by simp only [List.size_toArray]; lia)) (by simpa using hy) (Pst.here st ry h)) (subscripted_plain hi _ _)
theorem G_str {x : Str} {k : Int} {c : Nat} {v i : Expr} (h0 : 0 ≤ k) (hx : x.cps[k.toNat]? = some c) (h : Q (.str ⟨#[c]⟩) H lv) (hsz : x.length ≤ 100000) (hi : plainSlice i = true := by rfl) : O2 C A L VRep (subscriptTail v i) (.str x) (.int k) H lv Q := by
  intro F s u w hu hw st; cases hu; cases hw
  have hk : k.toNat < x.cps.size := (Array.getElem?_eq_some_iff.mp hx).1
  have hk' : k < x.length := by show k < (x.cps.size : Int); lia
  exact tail_any (typeIs_str s x _) slot_str_getitem.lookup (PyProof.Rows.getItem_str (c := c) (by rw [decide_eq_false (by lia), decide_eq_false (by lia)]; rfl) (by rw [seqIndex_of h0 hk']; exact hx) (Pst.here (st.tok _) (.str _ _) h)) (subscripted_plain hi _ _)
theorem B_addS {x y : Str} (h : Q (.str (x ++ y)) H lv) (hsz : x.length + y.length ≤ 100000) : O2 C A L VRep (binaryOp .Add) (.str x) (.str y) H lv Q := by
  intro F s u v hu hv st; cases hu; cases hv; exact PyProof.Rows.add_str (fun _ _ => Pst.here (st.tok _) (.str _ _) h) (Nat.le_trans hsz (by decide))
theorem I_addS {x y : Str} (h : Q (.str (x ++ y)) H lv) (hsz : x.length + y.length ≤ 100000) : O2 C A L VRep (inplaceOp .Add) (.str x) (.str y) H lv Q := by
  intro F s u v hu hv st; cases hu; cases hv; exact PyProof.Rows.iadd_str (fun _ _ => Pst.here (st.tok _) (.str _ _) h) (Nat.le_trans hsz (by decide))
theorem B_addL {a b : Addr} {l l' : List MV} (e : H a = some (.list l)) (e' : H b = some (.list l')) (h : ∀ c, H c = Option.none → Q (.ref c) (H.put c (.list (l ++ l'))) lv) (hsz : l.length + l'.length ≤ 100000) : O2 C A L VRep (binaryOp .Add) (.ref a) (.ref b) H lv Q := by
  intro F s u v hu hv st; cases hu; cases hv
  refine ea2_3 (st.list e) fun vs n ho r hlen => ?_
  refine ea2_3 (st.list e') fun vs' n' ho' r' hlen' => ?_
  refine PySem.P.add_list (n := n) (n2 := n') ho ho' ?_ (by simp only [List.size_toArray]; exact Nat.le_trans (by lia) (show 100000 ≤ sizeLine by decide))
  refine Pst.here (put_own (x := .list (l ++ l')) st rfl ⟨vs ++ vs', 0, by simp, VRepL.append r' r⟩) (.ref _) (h _ (st.freshH (size_fresh _)))
end
end Mine
end
section
open PySem PySem.W PyProof.Rows PySem.Calls PySem.Spec
set_option Elab.async false
set_option maxRecDepth 100000
set_option linter.unusedVariables false
namespace Mine
/-! ### calls -/
structure Room (n : Nat) (A : Around) : Prop where
  handled : A.handled = none
  depth : A.depth + n < recursionLimit
  units : A.units + 8 * n + 100 < cLine
  frames : ∃ l, A.frames = some l
theorem Room.deeper {n : Nat} {A : Around} (h : Room (n + 1) A) (env : Env) : Room n (A.deeper env) := by
  obtain ⟨a, b, c, l, d⟩ := h
  refine ⟨a, ?_, ?_, env :: l, by show A.frames.map _ = _; rw [d]; rfl⟩
  · show A.depth + 1 + n < _; lia
  · show A.units + 3 + 8 * n + 100 < _; lia
theorem Room.less {n m : Nat} {A : Around} (h : Room n A) (k : m ≤ n) : Room m A := by
  obtain ⟨a, b, c, d⟩ := h
  exact ⟨a, by lia, by lia, d⟩

section
variable {C : Cx} {A : Around} {H : Hp} {lv : Lv} {L : Addr} {Q : MV → Hp → Lv → Prop}
/-- call a value on values -/
noncomputable def OC (C : Cx) (A : Around) (L : Addr) (f : MV) (args : List MV) (H : Hp) (lv : Lv) (Q : MV → Hp → Lv → Prop) : Prop :=
  ∀ F s g vs, VRep F f g → VRepL F args vs → St C F H L lv s → wpAny C.M A (call g vs) (Pst C L VRep F Q) NoE s
theorem OC.mono {f : MV} {args : List MV} {Q' : MV → Hp → Lv → Prop} (h : OC C A L f args H lv Q) (k : ∀ x H lv, Q x H lv → Q' x H lv) : OC C A L f args H lv Q' :=
  fun F s g vs hg hv st => Pst.seq (h F s g vs hg hv st) fun v s' F' H' lv' x a b c d => ⟨F', H', lv', x, a, b, c, k _ _ _ d⟩
/-- who keeps the arguments of a call of it -/
noncomputable def Callee (C : Cx) (f : MV) : Prop := ∀ F v (s : Shared) (H : Hp) (L : Addr) (lv : Lv), VRep F f v → St C F H L lv s → ∃ k, (k = Keeper.frame ∨ k = Keeper.machine ∨ k = Keeper.boundFrame) ∧ Looks C.M s.heap (keeperOf v) k
theorem callee_bi (id : String) : Callee C (.bi id) := fun F v s H L lv hv st => by cases hv; exact ⟨.machine, .inr (.inl rfl), Looks.of_pure rfl⟩
theorem callee_ty (n : String) : Callee C (.ty n) := fun F v s H L lv hv st => by cases hv; exact ⟨.machine, .inr (.inl rfl), Looks.of_pure rfl⟩
theorem callee_K (O : C.Ok) {a : Addr} (h : keepIn C.K (.ref a) = true) : Callee C (.ref a) := fun F v s H L lv hv st => by
  cases hv
  exact keeps_K h s.heap (O.X.keeps st.keepsB)
theorem callWith_0 {env : Env} {pos : Pos} {F : Fz} {s : Shared} {f : MV} {g : Value} {first : List MV} {vs : List Value} (hf : VRep F f g) (hv : VRepL F first vs) (hc : Callee C f) (st : St C F H env.locals lv s) (h : OC C A env.locals f first H lv Q) :
    wpAny C.M A (callWith pos g vs (backTo pos (starEach [] env)) []) (Pst C env.locals VRep F Q) NoE s := by
  refine callWith_of (P := fun hp => hp = s.heap) rfl (fun hp e => e ▸ hc F g s H _ lv hf st) (evalArgs_nil3 ⟨rfl, ?_⟩)
  exact h F s g (vs ++ []) hf (by simpa using hv) st
theorem callWith_S {env : Env} {pos : Pos} {F : Fz} {s : Shared} {f : MV} {g : Value} {first : List MV} {vs : List Value} {e : Expr} {es : List Expr} (hf : VRep F f g) (hv : VRepL F first vs) (hc : Callee C f) (st : St C F H env.locals lv s)
    (h : WL C A env pos (e :: es) H lv fun l H lv => OC C A env.locals f (first ++ l) H lv Q)
    (he : starEach (e :: es) env = (false, eval e env) :: starEach es env) (hplain : (backTo pos (starEach es env)).any (·.1) = false) :
    wpAny C.M A (callWith pos g vs (backTo pos (starEach (e :: es) env)) []) (Pst C env.locals VRep F Q) NoE s := by
  have h' := h F s st
  rw [he] at h' ⊢
  refine callWith_of (P := fun hp => ∃ k, (k = Keeper.frame ∨ k = Keeper.machine ∨ k = Keeper.boundFrame) ∧ Looks C.M hp (keeperOf g) k) (by show ((false || (backTo pos (starEach es env)).any (·.1)) || false) = false; rw [hplain]; rfl) (fun hp e => e) (evalArgs_plain (Pst.seq h' fun ws s1 F1 H1 lv1 l k1 st1 r1 q1 => ?_))
  refine ⟨hc F1 g s1 H1 _ lv1 (hf.mono k1) st1, Pst.up k1 (q1 F1 s1 g (vs ++ ws) (hf.mono k1) (VRepL.append r1 (hv.mono k1)) st1)⟩
noncomputable abbrev kOC (C : Cx) (A : Around) (L : Addr) (f : MV) (first : List MV) (Q : MV → Hp → Lv → Prop) (l : List MV) (H : Hp) (lv : Lv) : Prop := OC C A L f (first ++ l) H lv Q
noncomputable abbrev kOC0 (C : Cx) (A : Around) (L : Addr) (f : MV) (Q : MV → Hp → Lv → Prop) (l : List MV) (H : Hp) (lv : Lv) : Prop := OC C A L f l H lv Q
noncomputable abbrev kCall (C : Cx) (A : Around) (env : Env) (pos : Pos) (es : List Expr) (Q : MV → Hp → Lv → Prop) (f : MV) (H : Hp) (lv : Lv) : Prop := Callee C f ∧ WL C A env pos es H lv (kOC0 C A env.locals f Q)
theorem W_Call {env : Env} {id : Str} {p pos : Pos} {e : Expr} {es : List Expr} (h : WE C A env (.Name id p) H lv (kCall C A env pos (e :: es) Q))
    (he : starEach (e :: es) env = (false, eval e env) :: starEach es env := by rfl) (hplain : (backTo pos (starEach es env)).any (·.1) = false := by rfl) : WE C A env (.Call (.Name id p) (e :: es) [] pos) H lv Q := fun F s st =>
  wpAny_Call_Name_kw (Pst.seq (h F s st) fun g s1 F1 H1 lv1 f k1 st1 r1 q1 => Pst.up k1 (callWith_S (first := []) r1 .nil q1.1 st1 q1.2 he hplain))
/-- look a method up -/
noncomputable def RM (F : Fz) (x : MV × List MV) (v : Value × List Value) : Prop := VRep F x.1 v.1 ∧ VRepL F x.2 v.2
noncomputable def OM (C : Cx) (A : Around) (L : Addr) (name : Str) (x : MV) (H : Hp) (lv : Lv) (Q : MV × List MV → Hp → Lv → Prop) : Prop :=
  ∀ F s v pl, VRep F x v → St C F H L lv s → wpAny C.M A (getMethod v name pl) (Pst C L RM F Q) NoE s
noncomputable abbrev kOM0 (C : Cx) (A : Around) (L : Addr) (Q : MV → Hp → Lv → Prop) (f : MV × List MV) (H : Hp) (lv : Lv) : Prop := Callee C f.1 ∧ OC C A L f.1 f.2 H lv Q
noncomputable abbrev kOM1 (C : Cx) (A : Around) (env : Env) (pos : Pos) (es : List Expr) (Q : MV → Hp → Lv → Prop) (f : MV × List MV) (H : Hp) (lv : Lv) : Prop := Callee C f.1 ∧ WL C A env pos es H lv (kOC C A env.locals f.1 f.2 Q)
noncomputable abbrev kOM (C : Cx) (A : Around) (L : Addr) (name : Str) (Q : MV × List MV → Hp → Lv → Prop) (x : MV) (H : Hp) (lv : Lv) : Prop := OM C A L name x H lv Q
theorem W_Meth0 {env : Env} {o : Expr} {name : Str} {apos pos : Pos} {pl : Sem Bool} (h : WE C A env o H lv (kOM C A env.locals name (kOM0 C A env.locals Q)))
    (he : eval (.Call (.Attribute o name apos) [] [] pos) env = (do
      let ov ← eval o env
      standAt apos.atName
      let (f, first) ← holding [ov] (getMethod ov name pl)
      callWith pos f first (backTo pos (starEach [] env)) []) := by rfl) : WE C A env (.Call (.Attribute o name apos) [] [] pos) H lv Q := fun F s st =>
  MethodCall_ (Pst.seq (h F s st) fun v s1 F1 H1 lv1 x k1 st1 r1 q1 => Pst.seq (q1 F1 s1 v pl r1 st1) fun g s2 F2 H2 lv2 f k2 st2 r2 q2 =>
    Pst.up (k1.trans k2) (callWith_0 r2.1 r2.2 q2.1 st2 q2.2)) he
theorem W_Meth {env : Env} {o : Expr} {name : Str} {apos pos : Pos} {pl : Sem Bool} {e : Expr} {es : List Expr} (h : WE C A env o H lv (kOM C A env.locals name (kOM1 C A env pos (e :: es) Q)))
    (he : eval (.Call (.Attribute o name apos) (e :: es) [] pos) env = (do
      let ov ← eval o env
      standAt apos.atName
      let (f, first) ← holding [ov] (getMethod ov name pl)
      callWith pos f first (backTo pos (starEach (e :: es) env)) []) := by rfl)
    (hs : starEach (e :: es) env = (false, eval e env) :: starEach es env := by rfl) (hplain : (backTo pos (starEach es env)).any (·.1) = false := by rfl) : WE C A env (.Call (.Attribute o name apos) (e :: es) [] pos) H lv Q := fun F s st =>
  MethodCall_ (Pst.seq (h F s st) fun v s1 F1 H1 lv1 x k1 st1 r1 q1 => Pst.seq (q1 F1 s1 v pl r1 st1) fun g s2 F2 H2 lv2 f k2 st2 r2 q2 =>
    Pst.up (k1.trans k2) (callWith_S r2.1 r2.2 q2.1 st2 q2.2 hs hplain)) he

/-! ### defs -/
noncomputable def lvOf : List Str → List MV → Lv
  | n :: ns, x :: xs => (lvOf ns xs).put n x
  | _, _ => fun _ => Option.none
/-- a contract of a def -/
noncomputable def Fn (C : Cx) (f : Addr) (n : Nat) (args : List MV) (H : Hp) (Q : MV → Hp → Prop) : Prop :=
  ∀ A L lv, Room n A → OC C A L (.ref f) args H lv fun v H' lv' => lv' = lv ∧ Q v H'
noncomputable def MFl.out : MFl → MV
  | .ret v => v
  | _ => .none
theorem lookup_binds {F : Fz} (ns : List Str) (xs : List MV) (vs : List Value) (r : VRepL F xs vs) : ns.length = xs.length → ns.Nodup → ∀ y, OW F (lvOf ns xs y) ((ns.zip vs).reverse.lookup y) :=
  VRepL.ind (P := fun xs vs => ∀ ns : List Str, ns.length = xs.length → ns.Nodup → ∀ y, OW F (lvOf ns xs y) ((ns.zip vs).reverse.lookup y)) (fun ns e _ y => by
    cases ns with
    | nil => exact .none
    | cons n ns => cases e) (fun {x v xs vs} hx hl ih ns e nd y => by
    rcases ns with _ | ⟨n, ns⟩
    · cases e
    have ih := ih ns (Nat.succ.inj e) (List.nodup_cons.mp nd).2 y
    have nn := (List.nodup_cons.mp nd).1
    simp only [List.zip_cons_cons, List.reverse_cons, List.lookup_append, lvOf, Lv.put]
    by_cases q : y = n
    · subst q
      have : (ns.zip vs).reverse.lookup y = Option.none := by
        rw [List.lookup_eq_none_iff]
        intro p hp
        have := List.of_mem_zip (List.mem_reverse.mp hp)
        rw [bne_iff_ne]
        intro z; exact nn (z ▸ this.1)
      simp only [this, if_true, Option.none_or, List.lookup_cons, beq_self_eq_true]
      exact .some hx
    · have : (y == n) = false := beq_eq_false_iff_ne.mpr q
      simp only [if_neg q, List.lookup_cons, this, List.lookup_nil, Option.or_none]
      exact ih) r ns
/-- what a callee's own frame is to the caller -/
theorem enter_St {F : Fz} {s : Shared} {h₁ : Heap} {L' : Addr} {m : Str → Option Value} {lv' : Lv} (st : St C F H L lv s) (hk : ∀ b o, s.heap.get? b = some o → h₁.get? b = some o) (hL' : s.heap.objs.size ≤ L') (hns : h₁.Ns L' m) (t : Nat) (hr : ∀ y, OW F (lv' y) (m y)) :
    ∃ oL, F.le (F.put L oL) ∧ (¬ Imm oL) ∧ s.heap.get? L = some oL ∧ St C (F.put L oL) H L' lv' { s with heap := h₁, toks := t } := by
  obtain ⟨m₀, ⟨oL, es, ep, hoL, hdL, r1, r2⟩, rv⟩ := st.ns
  have le := Fz.le_put oL st.fL
  have nL : ∀ {a o}, s.heap.get? a = some o → a ≠ L' := fun e => Nat.ne_of_lt (Nat.lt_of_lt_of_le (Heap.lt_size e) hL')
  refine ⟨oL, le, imm_dict hdL, hoL, ⟨fun a o e => ?_, fun a x e => ?_, ?_, ⟨m, hns, fun y => (hr y).mono le⟩, fun a o e => le _ _ (st.base a o e), ?_, st.gens, st.os, st.nosys, st.big⟩⟩
  · unfold Fz.put at e
    by_cases q : a = L
    · subst q; rw [if_pos rfl] at e; cases e; exact hk _ _ hoL
    · rw [if_neg q] at e; exact hk _ _ (st.fz a o e)
  · obtain ⟨p, q, o, ho, r⟩ := st.own a x e
    exact ⟨by unfold Fz.put; rw [if_neg q]; exact p, nL ho, o, hk _ _ ho, r.mono le⟩
  · unfold Fz.put
    have : L' ≠ L := Ne.symm (nL hoL)
    rw [if_neg this]
    exact st.freshF (Heap.get?_none_of_le hL')
  · exact Nat.le_trans st.above (Nat.le_trans (Nat.le_of_lt (Heap.lt_size hoL)) hL')
theorem leave_St {F F' : Fz} {s s' : Shared} {H' : Hp} {L' : Addr} {lv' : Lv} {oL : Obj} (st : St C F H L lv s) (hoL : s.heap.get? L = some oL) (hn : ¬ Imm oL) (k : (F.put L oL).le F') (st' : St C F' H' L' lv' s') :
    F.le (F'.del L) ∧ St C (F'.del L) H' L lv s' := by
  have hL : F' L = some oL := k _ _ (Fz.put_self ..)
  have le : F.le (F'.del L) := fun a o e => by
    unfold Fz.del
    by_cases q : a = L
    · subst q; rw [st.fL] at e; cases e
    · rw [if_neg q]; exact k _ _ (by rw [Fz.put_ne _ _ q]; exact e)
  refine ⟨le, ⟨fun a o e => ?_, fun a x e => ?_, if_pos rfl, ?_, fun a o e => le _ _ (st.base a o e), st.above, st'.gens, st'.os, st'.nosys, st'.big⟩⟩
  · unfold Fz.del at e
    by_cases q : a = L
    · rw [if_pos q] at e; cases e
    · rw [if_neg q] at e; exact st'.fz a o e
  · obtain ⟨p, q, o, ho, r⟩ := st'.own a x e
    have ne : a ≠ L := fun z => by rw [z, hL] at p; cases p
    exact ⟨by unfold Fz.del; rw [if_neg ne]; exact p, ne, o, ho, r.del hL hn⟩
  · obtain ⟨m₀, ⟨o, es, ep, ho, r1⟩, rv⟩ := st.ns
    have : o = oL := Option.some.inj (ho.symm.trans hoL)
    subst this
    exact ⟨m₀, ⟨o, es, ep, st'.fz _ _ hL, r1⟩, fun y => (rv y).mono le⟩

theorem vsc {vs : List Value} {n : Nat} (h : vs.length = n + 1) : ∃ x t, vs = x :: t ∧ t.length = n := by
  cases vs with
  | nil => cases h
  | cons x t => exact ⟨x, t, rfl, Nat.succ.inj h⟩
theorem vs1 {vs : List Value} (h : vs.length = 1) : ∃ x, vs = [x] := List.length_eq_one_iff.mp h
theorem vs2 {vs : List Value} (h : vs.length = 2) : ∃ x y, vs = [x, y] := ea2_2 (vsc h) fun x t e h => ea1_1 (vs1 h) fun y q => ⟨x, y, e.trans (congrArg _ q)⟩
theorem vs3 {vs : List Value} (h : vs.length = 3) : ∃ x y z, vs = [x, y, z] := ea2_2 (vsc h) fun x t e h => ea2_1 (vs2 h) fun y z q => ⟨x, y, z, e.trans (congrArg _ q)⟩
theorem vs4 {vs : List Value} (h : vs.length = 4) : ∃ x y z u, vs = [x, y, z, u] := ea2_2 (vsc h) fun x t e h => ea3_1 (vs3 h) fun y z u q => ⟨x, y, z, u, e.trans (congrArg _ q)⟩
theorem vs5 {vs : List Value} (h : vs.length = 5) : ∃ x y z u w, vs = [x, y, z, u, w] := ea2_2 (vsc h) fun x t e h => ea4_1 (vs4 h) fun y z u w q => ⟨x, y, z, u, w, e.trans (congrArg _ q)⟩
theorem Fn_def (O : C.Ok) {f : Addr} {n : Nat} {args : List MV} {Q : MV → Hp → Prop} {name qual : Str} {params : Arguments} {body : List Stmt} {scope : Scope} {dV kV doc pm cdv ct oc : Value} {an od : Option Addr} {osl : Array (Option Value)} (ns : List Str)
    (ho : C.K.lookup f = some ⟨oc, od, .func (fnOf name qual params body scope dV kV doc pm an cdv ct), osl⟩) (hcd : codeIn C.K cdv qual = true)
    (hbind : ∀ vs : List Value, vs.length = args.length → bindArgs (fnOf name qual params body scope dV kV doc pm an cdv ct) ⟨vs, []⟩ = pure (ns.zip vs))
    (hlen : ns.length = args.length) (hnd : ns.Nodup) (hloc : ∀ x ∈ ns, scope.names.lookup x = some .local) (hcell : ∀ x ∈ scope.names, x.2 ≠ .cell)
    (h : ∀ A L, Room n A → WX C A (envX qual scope L f cdv []) body H (lvOf ns args) fun fl H' _ => Q fl.out H')
    (hco : scope.isCoroutine = false) (hgen : scope.isGenerator = false) (hk : scope.kind = .function) : Fn C f (n + 1) args H Q := by
  intro A L lv R F s g vs hg hv st
  cases hg
  refine ea5_1 (O.T) fun p loose mean mg mb T => ?_
  have X := O.X.keeps st.keepsB
  refine wpAny_call (codeAny_call_def (fd := fnOf name qual params body scope dV kV doc pm an cdv ct) (body := body) (binds := ns.zip vs) (by have := R.depth; lia) (X _ _ ho) rfl (T.nolimit.keeps st.keepsB) (codeRec_of X hcd) rfl
    (BindsTo.of_eq (hbind vs hv.length)) hcell (fun x hx => hloc _ (List.of_mem_zip hx).1) (fun h₁ hns hk₁ => ?_) hco hgen hk)
  refine ea1_4 (enter_St (lv' := lvOf ns args) st hk₁ (Nat.le_refl _) hns (s.toks + (ns.zip vs).length) (lookup_binds ns args vs hv hlen hnd)) fun oL le hn hoL st1 => ?_
  refine Pst.seq (h _ s.heap.objs.size (R.deeper _) _ _ st1) fun fl s' F' H' lv' mf k' st' r' q' => ?_
  refine ea0_2 (leave_St st hoL hn k' st') fun le' st2 => ?_
  have hL : F' L = some oL := k' _ _ (Fz.put_self ..)
  refine ⟨_, H', lv, mf.out, le', st2, ?_, rfl, q'⟩
  cases r' with
  | ret r => exact r.del hL hn
  | _ => exact .none
theorem OC_Fn {f : Addr} {n : Nat} {args : List MV} {Q' : MV → Hp → Prop} (h : Fn C f n args H Q') (R : Room n A) (k : ∀ v H', Q' v H' → Q v H' lv) : OC C A L (.ref f) args H lv Q :=
  (h A L lv R).mono fun v H' lv' q => q.1 ▸ k v H' q.2
end
end Mine
end
section
open PySem PySem.W PyProof.Rows PySem.Calls PySem.Spec
set_option Elab.async false
set_option maxRecDepth 100000
set_option linter.unusedVariables false
namespace Mine
section
variable {C : Cx} {A : Around} {H : Hp} {lv : Lv} {L : Addr} {env : Env}
noncomputable abbrev UR : Fz → Unit → Unit → Prop := fun _ _ _ => True
/-- assign to a target -/
noncomputable def OA (C : Cx) (A : Around) (env : Env) (t : Expr) (x : MV) (H : Hp) (lv : Lv) (Q : Hp → Lv → Prop) : Prop :=
  ∀ F s v, VRep F x v → St C F H env.locals lv s → wpAny C.M A (assign t env v) (Pst C env.locals UR F fun _ => Q) NoE s
theorem A_Name {x : Str} {pos : Pos} {v : MV} {Q : Hp → Lv → Prop} (h : Q H (lv.put x v)) (hk : env.scope.kind = .function := by rfl) (hl : env.kindOf x = some .local := by rfl) : OA C A env (.Name x pos) v H lv Q := fun F s u r st =>
  wpAny_assign_Name (store_local st r hl hk fun s' st' => Pst.here (x := ()) st' trivial h)
theorem A_Cell {x : Str} {pos : Pos} {v : MV} {c : Addr} {v₀ : Option MV} {Q : Hp → Lv → Prop} (hc : env.cells.lookup x = some c) (e : H c = some (.cell v₀)) (h : Q (H.put c (.cell (some v))) lv) (hk : env.scope.kind = .function := by rfl) (hl : env.kindOf x = some .cell := by rfl) : OA C A env (.Name x pos) v H lv Q := fun F s u r st => by
  obtain ⟨_, _, o, ho, v', hd', r'⟩ := st.own _ _ e
  refine wpAny_assign_Name (wpAny_storeName_cell hk hl hc ⟨o, ho, hd'⟩ fun h' hv hs => ?_)
  refine ea1_2 hv fun o' ho' hd'' => ?_
  (try clear hv)
  exact Pst.here (x := ()) (st.turn (x' := .cell (some v)) e hs ho' ⟨_, hd'', .some r⟩ _) trivial h
noncomputable def OAs (C : Cx) (A : Around) (env : Env) : List Expr → List MV → Hp → Lv → (Hp → Lv → Prop) → Prop
  | [], [], H, lv, Q => Q H lv
  | t :: ts, x :: xs, H, lv, Q => OA C A env t x H lv fun H lv => OAs C A env ts xs H lv Q
  | _, _, _, _, _ => False
theorem assigns_sound {Q : Hp → Lv → Prop} : ∀ (ts : List Expr) (xs : List MV) (H : Hp) (lv : Lv) (F : Fz) (s : Shared) (vs : List Value), VRepL F xs vs → St C F H env.locals lv s → OAs C A env ts xs H lv Q →
    wpAny C.M A (assignInOrder (ts.map fun t => assign t env) vs) (Pst C env.locals UR F fun _ => Q) NoE s
  | [], [], H, lv, F, s, _, .nil, st, h => wpAny_pure (Pst.here (x := ()) st trivial h)
  | t :: ts, x :: xs, H, lv, F, s, v :: vs, .cons hx hl, st, h => by
    rw [List.map_cons, assignInOrder]
    refine wpAny_bind (wpAny_holding (Pst.seq (h F s v hx st) fun u s1 F1 H1 lv1 _ k1 st1 _ q1 => ?_))
    exact Pst.up k1 (assigns_sound ts xs H1 lv1 F1 s1 vs (hl.mono k1) st1 q1)
  | [], _ :: _, _, _, _, _, _, _, _, h => h.elim
  | _ :: _, [], _, _, _, _, _, _, _, h => h.elim
theorem A_Tuple {ts : List Expr} {k : Nat} {pos : Pos} {xs : List MV} {Q : Hp → Lv → Prop} (hh : A.handled = none) (h : OAs C A env ts xs H lv Q) (hlen : ts.length = xs.length) (he : (assignEach ts env).map (·.2) = ts.map (fun t => assign t env) := by rfl) (hstar : (assignEach ts env).findIdx? (·.1) = none := by rfl) :
    OA C A env (.Tuple ts k pos) (.tup xs) H lv Q := fun F s u r st => by
  cases r with
  | tup e r =>
    have ht : IsTup s.heap _ _ := ⟨_, st.fz _ _ e, rfl, _, rfl⟩
    have hn : (assignEach ts env).length = ts.length := by have := congrArg List.length he; simpa using this
    refine assign_Tuple_tuple hh ht (by rw [hn, hlen, List.size_toArray, r.length]) hstar fun h' hx => ?_
    rw [he]
    have st' := st.keeps (h' := h') (fun b o e => hx b o (Nat.ne_of_lt (Heap.lt_size e)) e) s.toks
    exact assigns_sound ts xs H lv F _ _ r st' h
noncomputable abbrev kAT (C : Cx) (A : Around) (env : Env) (t : Expr) (Q : MFl → Hp → Lv → Prop) (v : MV) (H : Hp) (lv : Lv) : Prop := OA C A env t v H lv (kNext Q)
theorem S_AssignT {ts : List Expr} {k : Nat} {tpos pos : Pos} {e : Expr} {Q : MFl → Hp → Lv → Prop} (h : WE C A env e H lv (kAT C A env (.Tuple ts k tpos) Q))
    (hs : swapsWithSole [.Tuple ts k tpos] e pos.line env = pure false := by rfl) (hw : swappedStores [.Tuple ts k tpos] e env = pure none := by rfl) : WS C A env (.Assign [.Tuple ts k tpos] e pos) H lv Q := fun F s st =>
  Assign_Tuple (Pst.seq (h F s st) fun v s1 F1 H1 lv1 x k1 st1 r1 q1 => Pst.seq (q1 F1 s1 v r1 st1) fun u s2 F2 H2 lv2 _ k2 st2 _ q2 => ⟨F2, H2, lv2, .next, k1.trans k2, st2, .next, q2⟩) hs hw

/-! ### while -/
noncomputable def loopQ (I : Hp → Lv → Prop) (Q : MFl → Hp → Lv → Prop) : MFl → Hp → Lv → Prop
  | .next, H, lv => I H lv
  | .cont, H, lv => I H lv
  | .brk, H, lv => Q .next H lv
  | .ret v, H, lv => Q (.ret v) H lv
theorem loop_next {I : Hp → Lv → Prop} {Q : MFl → Hp → Lv → Prop} (h : I H lv) : loopQ I Q .next H lv := h
theorem loop_cont {I : Hp → Lv → Prop} {Q : MFl → Hp → Lv → Prop} (h : I H lv) : loopQ I Q .cont H lv := h
theorem loop_brk {I : Hp → Lv → Prop} {Q : MFl → Hp → Lv → Prop} (h : Q .next H lv) : loopQ I Q .brk H lv := h
theorem loop_ret {I : Hp → Lv → Prop} {Q : MFl → Hp → Lv → Prop} {v : MV} (h : Q (.ret v) H lv) : loopQ I Q (.ret v) H lv := h
theorem S_While {t : Expr} {b o : List Stmt} {pos : Pos} {Q : MFl → Hp → Lv → Prop} (I : Nat → Hp → Lv → Prop)
    (turn : ∀ n H lv, I n H lv → WT C A env t H lv fun c H lv => (c = true → WX C A env b H lv (loopQ (fun H lv => ∃ m, m < n ∧ I m H lv) Q)) ∧ (c = false → WX C A env o H lv Q))
    (n : Nat) (hI : I n H lv) : WS C A env (.While t b o pos) H lv Q := fun F s st => by
  refine wpAny_While (codeAny_whileLoop (fun n s' => ∃ F' H' lv', F.le F' ∧ St C F' H' env.locals lv' s' ∧ I n H' lv') (fun n s' zz => ea3_3 zz fun F' H' lv' k st' hI' => ?_) n ⟨F, H, lv, Fz.le.refl _, st, hI⟩)
  refine Pst.seq (turn n H' lv' hI' F' s' st') fun c s1 F1 H1 lv1 _ k1 st1 r1 q1 => ?_
  cases r1
  cases c with
  | false =>
    rw [if_neg Bool.false_ne_true]
    refine wpAny_mono (q1.2 rfl F1 s1 st1) (fun f s2 p => ?_) fun _ _ e => e.elim
    exact p.le (k.trans k1)
  | true =>
    rw [if_pos rfl]
    refine Pst.seq (q1.1 rfl F1 s1 st1) fun f s2 F2 H2 lv2 mf k2 st2 r2 q2 => ?_
    have kk := k.trans (k1.trans k2)
    cases r2 with
    | next => obtain ⟨m, hm, hI2⟩ := q2; exact ⟨m, hm, F2, H2, lv2, kk, st2, hI2⟩
    | cont => obtain ⟨m, hm, hI2⟩ := q2; exact ⟨m, hm, F2, H2, lv2, kk, st2, hI2⟩
    | brk => exact ⟨F2, H2, lv2, .next, kk, st2, .next, q2⟩
    | ret r => exact ⟨F2, H2, lv2, _, kk, st2, .ret r, q2⟩

/-! ### for: over what an iterator of the library's kind gives -/
noncomputable def ForW (C : Cx) (A : Around) (env : Env) (t : Expr) (b : List Stmt) (P : Hp → Prop) (Qe : Hp → Lv → Prop) (Q : MFl → Hp → Lv → Prop) : List MV → Hp → Lv → Prop
  | [], H, lv => Qe H lv
  | x :: xs, H, lv => OA C A env t x H lv fun H lv => WX C A env b H lv (loopQ (fun H lv => P H → ForW C A env t b P Qe Q xs H lv) fun f H lv => P H → Q f H lv)
theorem le_del {F F' : Fz} {a : Addr} {o : Obj} (h : F a = Option.none) (k : (F.put a o).le F') : F.le (F'.del a) := fun b x e => by
  unfold Fz.del
  have q : b ≠ a := fun q => by subst q; rw [h] at e; cases e
  rw [if_neg q]
  exact k _ _ (by rw [Fz.put_ne _ _ q]; exact e)
noncomputable def okIter (n : String) : Bool := !(["enumerate", "zip", "dict_itemiterator", "dict_reverseitemiterator", "odict_iterator", "itertools.zip_longest", "itertools.pairwise"].contains n) && n != "tuple" && n != "range"
theorem okIter_imm {o : Obj} {n : String} (h : o.cls = .type n) (k : okIter n = true) : ¬ Imm o := fun q => by
  unfold okIter at k
  simp only [Bool.and_eq_true, bne_iff_ne] at k
  rcases imm_cls q with e | e <;> rw [h] at e <;> injection e with e
  · exact k.1.2 e
  · exact k.2 e
theorem letgo_plain {t : Expr} {I : Addr} {o : Obj} {n : String} {v : Value} {s : Shared} {M : Model} {E : Value → Shared → Prop} {Q : Unit → Shared → Prop} (ho : s.heap.get? I = some o) (hc : o.cls = .type n) (k : okIter n = true) (h : Q () s) : wpAny M A (letOwnedTupleGo t (.ref I) v) Q E s := by
  have hn : (["enumerate", "zip", "dict_itemiterator", "dict_reverseitemiterator", "odict_iterator", "itertools.zip_longest", "itertools.pairwise"].contains n) = false := by
    unfold okIter at k
    simp only [Bool.and_eq_true, Bool.not_eq_true'] at k
    exact k.1.1
  have main : wpAny M A (do
      let (.ref r, .ref a) := (Value.ref I, v) | (pure () : Sem Unit)
      let o ← load r
      match o.cls, o.data with
      | .type n, .fields vs =>
        if ["enumerate", "zip", "dict_itemiterator", "dict_reverseitemiterator", "odict_iterator", "itertools.zip_longest", "itertools.pairwise"].contains n && vs[0]? == some (rawInt a) then
          rule "for.unpacks-the-owned-tuple"
          updateField r 0 .none
      | _, _ => pure ()) Q E s := by
    cases v with
    | ref a =>
      refine wpAny_bind (wpAny_load ho ?_)
      rw [hc]
      cases o.data with
      | fields vs =>
        show wpAny M A (if (_ && _) = true then _ else _) Q E s
        rw [hn, Bool.false_and, if_neg Bool.false_ne_true]
        exact wpAny_pure h
      | _ => exact wpAny_pure h
    | _ => exact wpAny_pure h
  unfold letOwnedTupleGo
  cases t <;> first | exact main | exact wpAny_pure h
/-- the loop, from an iterator that stands at I; `X` are addresses that stay frozen -/
theorem for_sound {t : Expr} {b o : List Stmt} {I : Addr} {fp : List Addr} {n : Nat} {P : Nat → Value → Prop} {Sti : Nat → Heap → Prop} {items : List MV} {Q : MFl → Hp → Lv → Prop} {F₀ : Fz} {s : Shared} {Pr : Hp → Prop}
    (Wk : Walks Pg C.w A I fp [I] n P Sti) (hn : items.length = n) (hP : ∀ i v F, F₀.le F → P i v → ∀ x, items[i]? = some x → VRep F x v)
    (hfp : ∀ a ∈ fp, a ≠ I → ∃ ob, F₀ a = some ob) (hI : ∀ i h, Sti i h → ∃ ob nm, h.get? I = some ob ∧ ob.cls = .type nm ∧ okIter nm = true) (hb : C.h₀.get? I = Option.none) (hpr : ∀ H' F' s' lv', F₀.le F' → St C F' H' env.locals lv' s' → Pr H')
    (hF : F₀ I = Option.none) (hH : H I = Option.none) (hL : I ≠ env.locals) (st : St C F₀ H env.locals lv s) (h0 : Sti 0 s.heap)
    (h : ForW C A env t b Pr (fun H lv => WX C A env o H lv Q) Q items H lv) :
    codeAny C.M A (.forLoop t (.ref I) b o env) (fun r s' => match r with | .ok f => Pst C env.locals FRep F₀ Q f s' | .error e => cameBackBy C.M A env NoE e s') s := by
  refine codeAny_forLoop_any (fun k s' => ∃ i F' H' lv', k + i = n + 1 ∧ i ≤ n ∧ F₀.le F' ∧ F' I = Option.none ∧ H' I = Option.none ∧ St C F' H' env.locals lv' s' ∧ Sti i s'.heap ∧ ForW C A env t b Pr (fun H lv => WX C A env o H lv Q) Q (items.drop i) H' lv')
    (fun k s' zz => ea4_8 zz fun i F' H' lv' hk hi k' hF' hH' st' hS hW => ?_) (n + 1) ⟨0, F₀, H, lv, rfl, Nat.zero_le _, Fz.le.refl _, hF, hH, st, h0, h⟩
  rcases Nat.lt_or_ge i n with hlt | hge
  · refine Wk.item i s' _ _ hlt hS fun v h' tk hPv hS' hkeep => ?_
    have hi' : i < items.length := by lia
    have hx : items[i]? = some items[i] := by simp [hi']
    rw [List.drop_eq_getElem_cons hi'] at hW
    have st1 := st'.other (h' := h') (fun b o hb e => hkeep b o (by simpa using hb) e) hF' hH' hL tk
    refine ea2_3 (hI _ _ hS') fun oI nmI hoI hcI hok => ?_
    have hnI := okIter_imm hcI hok
    refine letgo_plain (s := { s' with heap := h', toks := tk }) hoI hcI hok ?_
    have st2 := st1.freeze hoI hF' hH' hL
    have le2 := Fz.le_put oI hF'
    refine Pst.seq (hW (F'.put I oI) _ v (hP i v _ (k'.trans le2) hPv _ hx) st2) fun u s2 F2 H2 lv2 _ k2 st2' _ q2 => ?_
    refine Pst.seq (q2 F2 s2 st2') fun f s3 F3 H3 lv3 mf k3 st3 r3 q3 => ?_
    have kk : (F'.put I oI).le F3 := k2.trans k3
    have hI3 : F3 I = some oI := kk _ _ (Fz.put_self ..)
    have le3 : F'.le (F3.del I) := le_del hF' kk
    have st4 := st3.melt hI3 hnI hb
    have hH3 : H3 I = Option.none := by
      cases q : H3 I with
      | none => rfl
      | some x => have := (st3.own I x q).1; rw [hI3] at this; cases this
    have hS3 : Sti (i + 1) s3.heap := Wk.frame _ _ _ hS' fun a ha ob e => by
      by_cases q : a = I
      · subst q
        have : ob = oI := Option.some.inj (e.symm.trans hoI)
        subst this
        exact st3.fz _ _ hI3
      · refine ea1_1 (hfp a ha q) fun ob' e' => ?_
        have e2 := st1.fz a ob' (k' _ _ e')
        have : ob = ob' := Option.some.inj (e.symm.trans e2)
        subst this
        exact st3.fz _ _ (kk _ _ (le2 _ _ (k' _ _ e')))
    have pr := hpr H3 _ s3 lv3 (k'.trans le3) st4
    have nxt : ∀ H', H' = H3 → (Pr H3 → ForW C A env t b Pr (fun H lv => WX C A env o H lv Q) Q (items.drop (i + 1)) H3 lv3) → ∃ m, m < k ∧ ∃ i F' H' lv', m + i = n + 1 ∧ i ≤ n ∧ F₀.le F' ∧ F' I = Option.none ∧ H' I = Option.none ∧ St C F' H' env.locals lv' s3 ∧ Sti i s3.heap ∧ ForW C A env t b Pr (fun H lv => WX C A env o H lv Q) Q (items.drop i) H' lv' := fun _ _ hw =>
      ⟨k - 1, by lia, i + 1, F3.del I, H3, lv3, by lia, hlt, k'.trans le3, if_pos rfl, hH3, st4, hS3, hw pr⟩
    cases r3 with
    | next => exact nxt _ rfl q3
    | cont => exact nxt _ rfl q3
    | brk => exact ⟨_, H3, lv3, .next, k'.trans le3, st4, .next, q3 pr⟩
    | ret r => exact ⟨_, H3, lv3, _, k'.trans le3, st4, .ret (r.del hI3 hnI), q3 pr⟩
  · have : i = n := by lia
    subst this
    refine Wk.done s' _ _ hS fun h' tk hkeep => ?_
    have st1 := st'.other (h' := h') (fun b o hb e => hkeep b o (by simpa using hb) e) hF' hH' hL tk
    rw [List.drop_eq_nil_of_le (by lia)] at hW
    exact Pst.up k' (hW F' _ st1)
end
end Mine
end
section
open PySem PySem.W PyProof.Rows PySem.Calls PySem.Spec
set_option Elab.async false
set_option maxRecDepth 100000
set_option linter.unusedVariables false
namespace Mine
section
variable {C : Cx} {A : Around} {H : Hp} {lv : Lv} {L : Addr} {env : Env}
/-! ### for over the kinds -/
noncomputable def OF (C : Cx) (A : Around) (env : Env) (t : Expr) (b o : List Stmt) (x : MV) (H : Hp) (lv : Lv) (Q : MFl → Hp → Lv → Prop) : Prop :=
  ∀ F s v, VRep F x v → St C F H env.locals lv s → wpAny C.M A (pyIter v) (fun it s2 => codeAny C.M A (.forLoop t it b o env) (fun r s' => match r with | .ok f => Pst C env.locals FRep F Q f s' | .error e => cameBackBy C.M A env NoE e s') s2) NoE s
noncomputable abbrev kFor (C : Cx) (A : Around) (env : Env) (t : Expr) (b o : List Stmt) (Q : MFl → Hp → Lv → Prop) (x : MV) (H : Hp) (lv : Lv) : Prop := OF C A env t b o x H lv Q
theorem S_For {t i : Expr} {b o : List Stmt} {pos : Pos} {Q : MFl → Hp → Lv → Prop} (h : WE C A env i H lv (kFor C A env t b o Q)) (hs : ∀ x, foldedSetIterable i env x = pure x := by intro _; rfl) : WS C A env (.For t i b o pos) H lv Q := fun F s st =>
  wpAny_For (Pst.seq (h F s st) fun v s1 F1 H1 lv1 x k1 st1 r1 q1 => wpAny_mono (q1 F1 s1 v r1 st1) (fun it s2 hc => codeAny_mono hc fun r s' hr => (by
    cases r with
    | ok f => exact hr.le k1
    | error e => exact hr)) fun _ _ e => e) hs
theorem newIter_base {F : Fz} {s : Shared} (st : St C F H L lv s) : C.h₀.get? s.heap.objs.size = Option.none := by
  cases q : C.h₀.get? s.heap.objs.size with
  | none => rfl
  | some o => have := st.keepsB _ _ q; rw [size_fresh] at this; cases this
theorem F_tup {t : Expr} {b o : List Stmt} {l : List MV} {Q : MFl → Hp → Lv → Prop} (hh : A.handled = none) (h : ForW C A env t b (fun _ => True) (fun H lv => WX C A env o H lv Q) Q l H lv) : OF C A env t b o (.tup l) H lv Q := by
  intro F s v r st
  cases r with
  | @tup a _ vs n e r =>
    have ho := st.fz _ _ e
    have hne : a ≠ s.heap.objs.size := Nat.ne_of_lt (Heap.lt_size ho)
    have ht : s.heap.IsTuple a vs.toArray := ⟨_, ho, rfl, _, rfl⟩
    refine wpAny_pyIter_tuple ht ?_
    have st1 := st.keeps (h' := s.heap.push { cls := .type "tuple_iterator", data := .fields #[.ref a, .int 0 0] }) (fun b o' e => Heap.get?_push_of_some _ e) s.toks
    refine for_sound (Pr := fun _ => True) (items := l) (Walks.tuple hh s.heap.objs.size a hne vs.toArray) (by rw [List.size_toArray, r.length]) (fun i v F' k hi x hx => ?_) (fun b hb hne' => ?_) (fun i hp hs => ?_) (newIter_base st) (fun _ _ _ _ _ _ => trivial)
      (st.freshF (size_fresh _)) (st.freshH (size_fresh _)) (st.freshL (size_fresh _)) st1 ⟨⟨_, Heap.get?_push_size _ rfl, rfl, rfl⟩, ⟨_, Heap.get?_push_of_some _ ho, rfl, _, rfl⟩⟩ h
    · refine ea1_2 (r.get hx) fun v' hv' rv => ?_
      have : v = v' := by simpa [hv'] using hi.symm
      subst this; exact rv.mono k
    · simp only [List.mem_cons, List.not_mem_nil, or_false] at hb
      rcases hb with hb | hb
      · exact absurd hb hne'
      · subst hb; exact ⟨_, e⟩
    · obtain ⟨⟨ob, h1, h2, _⟩, _⟩ := hs
      exact ⟨ob, _, h1, h2, by decide⟩
noncomputable def rngL (a b : Int) : List MV := (List.range (b - a).toNat).map fun i => .int (a + (i : Nat))
theorem F_rng {t : Expr} {b o : List Stmt} {x y : Int} {Q : MFl → Hp → Lv → Prop} (hh : A.handled = none) (h1 : -(2 ^ 62) ≤ x) (h2 : x < 2 ^ 62) (h3 : -(2 ^ 62) ≤ y) (h4 : y < 2 ^ 62)
    (h : ForW C A env t b (fun _ => True) (fun H lv => WX C A env o H lv Q) Q (rngL x y) H lv) : OF C A env t b o (.rng x y) H lv Q := by
  intro F s v r st
  cases r with
  | @rng a _ _ t' u' v' e =>
    have ho := st.fz _ _ e
    refine wpAny_pyIter_range ho (small_one h1 h2 h3 h4) ?_
    have hsz : Builtin.Range.rangeSize x y 1 = ((y - x).toNat : Int) := by
      unfold Builtin.Range.rangeSize
      rw [if_pos (by decide)]
      split <;> lia
    rw [hsz]
    have st1 := st.keeps (h' := s.heap.push { cls := .type "range_iterator", data := .fields #[rawInt x, rawInt ((y - x).toNat : Int), rawInt 1] }) (fun b o' e => Heap.get?_push_of_some _ e) s.toks
    refine for_sound (Pr := fun _ => True) (items := rngL x y) (Walks.range hh s.heap.objs.size x 1 (y - x).toNat) (by simp [rngL]) (fun i v F' k hi z hz => ?_) (fun b hb hne' => ?_) (fun i hp hs => ?_) (newIter_base st) (fun _ _ _ _ _ _ => trivial)
      (st.freshF (size_fresh _)) (st.freshH (size_fresh _)) (st.freshL (size_fresh _)) st1 ?_ h
    · refine ea1_1 hi fun tk qq1 => ?_
      subst qq1
      (try clear hi)
      unfold rngL at hz
      rw [List.getElem?_map] at hz
      refine ea1_2 (Option.map_eq_some_iff.mp hz) fun j hj qq2 => ?_
      subst qq2
      have : j = i := by have := List.getElem?_eq_some_iff.mp hj; obtain ⟨h1, h2⟩ := this; simpa using h2.symm
      subst this
      rw [Int.mul_one]; exact .int _ _
    · simp only [List.mem_cons, List.not_mem_nil, or_false] at hb
      exact absurd hb hne'
    · exact ⟨_, _, hs, rfl, by decide⟩
    · show IsRangeIter _ _ (x + ((0 : Nat) : Int) * 1) (((y - x).toNat : Int) - ((0 : Nat) : Int)) 1
      have e1 : x + ((0 : Nat) : Int) * 1 = x := by lia
      have e2 : ((y - x).toNat : Int) - ((0 : Nat) : Int) = ((y - x).toNat : Int) := by lia
      rw [e1, e2]
      exact Heap.get?_push_size _ rfl
theorem St.freezeOwn {F : Fz} {s : Shared} (st : St C F H L lv s) {a : Addr} {x : MObj} {o : Obj} (e : H a = some x) (ho : s.heap.get? a = some o) : F a = Option.none ∧ a ≠ L ∧ C.h₀.get? a = Option.none ∧ a ≠ sysModules ∧ St C (F.put a o) (H.del a) L lv s := by
  obtain ⟨p, q, _, _, _⟩ := st.own a x e
  have hb : C.h₀.get? a = Option.none := by
    cases z : C.h₀.get? a with
    | none => rfl
    | some o' => rw [st.base _ _ z] at p; cases p
  have hS : a ≠ sysModules := fun z => by rw [z, st.nosys] at e; cases e
  refine ⟨p, q, hb, hS, (st.less (H' := H.del a) fun b y z => ?_).freeze ho p (if_pos rfl) q⟩
  unfold Hp.del at z
  split at z
  · cases z
  · exact z
theorem F_list {t : Expr} {b : List Stmt} {a : Addr} {l : List MV} {Q : MFl → Hp → Lv → Prop} (hh : A.handled = none) (e : H a = some (.list l))
    (h : ForW C A env t b (fun H => H a = Option.none) (fun H lv => Q .next (H.put a (.list l)) lv) (fun f H lv => Q f (H.put a (.list l)) lv) l (H.del a) lv) : OF C A env t b [] (.ref a) H lv Q := by
  intro F s v r st
  cases r
  refine ea2_3 (st.list e) fun vs n ho r hlen => ?_
  refine ea0_5 (st.freezeOwn e ho) fun hFa hLa hba hSa stF => ?_
  have leF := Fz.le_put (listOf vs.toArray n) hFa
  have nI : ¬ Imm (listOf vs.toArray n) := okIter_imm (n := "list") rfl (by decide)
  have hne : a ≠ s.heap.objs.size := Nat.ne_of_lt (Heap.lt_size ho)
  have hl : s.heap.IsList a vs.toArray := ⟨_, ho, rfl, _, rfl⟩
  refine wpAny_pyIter_list hl ?_
  have st1 := stF.keeps (h' := s.heap.push { cls := .type "list_iterator", data := .fields #[.ref a, .int 0 0] }) (fun b o' e => Heap.get?_push_of_some _ e) s.toks
  refine codeAny_mono (for_sound (Pr := fun H => H a = Option.none) (items := l) (o := []) (Q := fun f H lv => Q f (H.put a (.list l)) lv) (Walks.list hh s.heap.objs.size a hne vs.toArray) (by rw [List.size_toArray, r.length])
    (fun i v F' k hi x hx => ?_) (fun b hb hne' => ?_) (fun i hp hs => ?_) (newIter_base st) (fun H' F' s' lv' k st' => ?_)
    (stF.freshF (size_fresh _)) (stF.freshH (size_fresh _)) (stF.freshL (size_fresh _)) st1 ⟨⟨_, Heap.get?_push_size _ rfl, rfl, rfl⟩, ⟨_, Heap.get?_push_of_some _ ho, rfl, _, rfl⟩⟩ ?_) (fun r' s' hr => ?_)
  · refine ea1_2 (r.get hx) fun v' hv' rv => ?_
    have : v = v' := by simpa [hv'] using hi.symm
    subst this; exact (rv.mono leF).mono k
  · simp only [List.mem_cons, List.not_mem_nil, or_false] at hb
    rcases hb with hb | hb
    · exact absurd hb hne'
    · subst hb; exact ⟨_, Fz.put_self ..⟩
  · obtain ⟨⟨ob, h1, h2, _⟩, _⟩ := hs
    exact ⟨ob, _, h1, h2, by decide⟩
  · cases q : H' a with
    | none => rfl
    | some x => have := (st'.own a x q).1; rw [k _ _ (Fz.put_self ..)] at this; cases this
  · have : ∀ (l' : List MV) H lv, ForW C A env t b (fun H => H a = Option.none) (fun H lv => Q .next (H.put a (.list l)) lv) (fun f H lv => Q f (H.put a (.list l)) lv) l' H lv → ForW C A env t b (fun H => H a = Option.none) (fun H lv => WX C A env [] H lv fun f H lv => Q f (H.put a (.list l)) lv) (fun f H lv => Q f (H.put a (.list l)) lv) l' H lv := by
      intro l'
      induction l' with
      | nil => intro H lv h; exact X_nil h
      | cons x xs ih =>
        intro H lv h F s v r st
        refine Pst.seq (h F s v r st) fun u s1 F1 H1 lv1 y k1 st1 r1 q1 => ⟨F1, H1, lv1, y, k1, st1, r1, q1.mono fun f H lv q => ?_⟩
        cases f with
        | next => exact fun p => ih _ _ (q p)
        | cont => exact fun p => ih _ _ (q p)
        | brk => exact q
        | ret v => exact q
    exact this l _ _ h
  · cases r' with
    | error e => exact hr
    | ok f =>
      refine ea4_4 hr fun F2 H2 lv2 mf k2 st2 r2 q2 => ?_
      (try clear hr)
      have h2 : F2 a = some (listOf vs.toArray n) := k2 _ _ (Fz.put_self ..)
      have le2 := le_del hFa k2
      have st3 := (st2.melt h2 nI hba).take (x := .list l) (st2.fz _ _ h2) (if_pos rfl) hLa hSa ⟨vs, n, rfl, r.mono le2⟩
      refine ⟨_, _, lv2, mf, le2, st3, ?_, q2⟩
      cases r2 with
      | ret r => exact .ret (r.del h2 nI)
      | next => exact .next
      | brk => exact .brk
      | cont => exact .cont

/-! ### ranges -/
theorem K_range1 {n : Int} {Q : MV → Hp → Lv → Prop} (h : Q (.rng 0 n) H lv) : OC C A L (.ty "range") [.int n] H lv Q := by
  intro F s g vs hg hv st
  cases hg
  cases hv with
  | cons h1 hl => cases hl; cases h1; exact call_range_1 ⟨_, H, lv, .rng 0 n, Fz.le_put _ (st.freshF (size_fresh _)), (put_fz st rfl).tok _, .rng (Fz.put_self ..), h⟩
theorem K_range2 {a b : Int} {Q : MV → Hp → Lv → Prop} (h : Q (.rng a b) H lv) : OC C A L (.ty "range") [.int a, .int b] H lv Q := by
  intro F s g vs hg hv st
  cases hg
  cases hv with
  | cons h1 hl => cases hl with
    | cons h2 hl => cases hl; cases h1; cases h2; exact call_range_2 ⟨_, H, lv, .rng a b, Fz.le_put _ (st.freshF (size_fresh _)), (put_fz st rfl).tok _, .rng (Fz.put_self ..), h⟩
end
end Mine
end
section
open PySem PySem.W PyProof.Rows PySem.Calls PySem.Spec
set_option Elab.async false
set_option maxRecDepth 100000
set_option linter.unusedVariables false
namespace Mine
section
variable {C : Cx} {A : Around} {H : Hp} {lv : Lv} {L : Addr} {env : Env}
/-! ### lists: methods, stores -/
theorem M_list {name : Str} {id : String} {a : Addr} {l : List MV} {Q : MV × List MV → Hp → Lv → Prop} (slot : Slot "list" name id) (hty : typeOf (.builtin id) = pure (.type "method_descriptor")) (e : H a = some (.list l)) (h : Q (.bi id, [.ref a]) H lv) : OM C A L name (.ref a) H lv Q := by
  intro F s v pl r st
  cases r
  refine ea2_3 (st.list e) fun vs n ho r hlen => ?_
  exact getMethod_builtin ⟨_, ho, rfl⟩ PySem.F.plainAttrs_list slot hty (fun b e => by cases e; exact ⟨_, ho, rfl⟩) (Pst.here st ⟨.bi _, .cons (.ref _) .nil⟩ h)
theorem M_append {a : Addr} {l : List MV} {Q : MV × List MV → Hp → Lv → Prop} (e : H a = some (.list l)) (h : Q (.bi "list.append", [.ref a]) H lv) : OM C A L (Str.ofString "append") (.ref a) H lv Q := M_list PySem.F.slot_list_append PySem.F.type_list_append e h
theorem M_pop {a : Addr} {l : List MV} {Q : MV × List MV → Hp → Lv → Prop} (e : H a = some (.list l)) (h : Q (.bi "list.pop", [.ref a]) H lv) : OM C A L (Str.ofString "pop") (.ref a) H lv Q := M_list PySem.F.slot_list_pop PySem.F.type_list_pop e h
theorem K_append {a : Addr} {l : List MV} {x : MV} {Q : MV → Hp → Lv → Prop} (e : H a = some (.list l)) (hsz : l.length ≤ 100000) (h : Q .none (H.put a (.list (l ++ [x]))) lv) : OC C A L (.bi "list.append") [.ref a, x] H lv Q := by
  intro F s g vs hg hv st
  cases hg
  cases hv with
  | cons h1 hl => cases hl with
    | cons h2 hl =>
      cases hl; cases h1
      refine ea2_3 (st.list e) fun vs n ho r hlen => ?_
      refine append_at ho (fun h' hs ho' => ?_) (by rw [List.size_toArray, hlen]; exact Nat.le_trans hsz (by decide))
      exact Pst.here (st.turn (x' := .list (l ++ [x])) e hs ho' ⟨vs ++ [_], n + 1, by simp, VRepL.append (.cons h2 .nil) r⟩ _) .none h
theorem K_pop {a : Addr} {l : List MV} {x : MV} {Q : MV → Hp → Lv → Prop} (e : H a = some (.list (l ++ [x]))) (hsz : l.length ≤ 100000) (h : Q x (H.put a (.list l)) lv) : OC C A L (.bi "list.pop") [.ref a] H lv Q := by
  intro F s g vs hg hv st
  cases hg
  cases hv with
  | cons h1 hl =>
    cases hl; cases h1
    refine ea2_3 (st.list e) fun vs n ho r hlen => ?_
    refine ea1_2 (r.get (i := l.length) (x := x) (by simp)) fun y hy ry => ?_
    have rl : VRepL F l (vs.take l.length) := by have := r.take l.length; simpa using this
    have hv : vs = vs.take l.length ++ [y] := by
      have h1 : l.length < vs.length := by rw [hlen]; simp
      have h2 := List.getElem?_eq_some_iff.mp hy
      refine ea1_1 h2 fun _ h3 => ?_
      (try clear h2)
      have : vs.drop l.length = [y] := by
        rw [List.drop_eq_getElem_cons h1, h3, List.drop_eq_nil_of_le (by rw [hlen]; simp)]
      rw [← this, List.take_append_drop]
    generalize vs.take l.length = ws at hv rl
    subst hv
    have hz : (ws ++ [y]).toArray.size ≤ sizeLine := by rw [List.size_toArray, hlen]; simp; exact Nat.le_trans (Nat.succ_le_succ hsz) (by decide)
    have hk : (ws ++ [y]).toArray.size - 1 = ws.length := by rw [List.size_toArray, List.length_append]; rfl
    have hy' : (ws ++ [y]).toArray[(ws ++ [y]).toArray.size - 1]? = some y := by rw [hk]; simp
    refine call_meets PySem.F.slot_list_pop ⟨_, ho, rfl⟩ PySem.F.entry_list_pop (PySem.F.args_list_pop_1 _) (PySem.MeetsSeq.list_pop_last a _ n y hy' hz) ⟨ho, ?_⟩
    have q := PySem.IsL.update ho (fun x => x.eraseIdxIfInBounds ((ws ++ [y]).toArray.size - 1))
    have e3 : (ws ++ [y]).toArray.eraseIdxIfInBounds ((ws ++ [y]).toArray.size - 1) = ws.toArray := by rw [hk, kl_erase, List.append_nil]
    exact Pst.here (st.turn (x' := .list l) e (Heap.SameBut.update ..) q ⟨ws, _, by rw [e3], rl⟩ s.toks) ry h
theorem K_pop0 {a : Addr} {l : List MV} {x : MV} {Q : MV → Hp → Lv → Prop} (e : H a = some (.list (x :: l))) (hsz : l.length ≤ 100000) (h : Q x (H.put a (.list l)) lv) : OC C A L (.bi "list.pop") [.ref a, .int 0] H lv Q := by
  intro F s g vs hg hv st
  cases hg
  cases hv with
  | cons h1 hl => cases hl with
    | cons h2 hl =>
      cases hl; cases h1; cases h2
      refine ea2_3 (st.list e) fun vs n ho r hlen => ?_
      cases r with
      | @cons _ y _ ws ry rl =>
        have hz : (y :: ws).toArray.size ≤ sizeLine := by rw [List.size_toArray, hlen]; simp; exact Nat.le_trans (Nat.succ_le_succ hsz) (by decide)
        refine call_meets PySem.F.slot_list_pop ⟨_, ho, rfl⟩ PySem.F.entry_list_pop (PySem.F.args_list_pop_2 _ _) (PySem.MeetsSeq.list_pop_at a _ n 0 _ 0 y (by decide) (by simp [seqIndex?]) (by simp) hz) ⟨ho, ?_⟩
        have q := PySem.IsL.update ho (fun x => x.eraseIdxIfInBounds 0)
        have e3 : (y :: ws).toArray.eraseIdxIfInBounds 0 = ws.toArray := kl_erase [] ws y
        exact Pst.here (st.turn (x' := .list l) e (Heap.SameBut.update ..) q ⟨ws, _, by rw [e3], rl⟩ s.toks) ry h
theorem K_len {a : Addr} {l : List MV} {Q : MV → Hp → Lv → Prop} (e : H a = some (.list l)) (hsz : l.length ≤ 100000) (h : Q (.int l.length) H lv) : OC C A L (.bi "len") [.ref a] H lv Q := by
  intro F s g vs hg hv st
  cases hg
  cases hv with
  | cons h1 hl =>
    cases hl; cases h1
    refine ea2_3 (st.list e) fun vs n ho r hlen => ?_
    refine call_len_list (PySem.IsL.isList (n := n) ho) (by simp only [List.size_toArray]; lia) ?_
    have : ((vs.toArray.size : Nat) : Int) = l.length := by simp [hlen]
    rw [this]
    exact Pst.here (st.tok _) (.int _ _) h
theorem K_lenS {x : Str} {Q : MV → Hp → Lv → Prop} (hsz : x.length ≤ 100000) (h : Q (.int x.length) H lv) : OC C A L (.bi "len") [.str x] H lv Q := by
  intro F s g vs hg hv st
  cases hg
  cases hv with
  | cons h1 hl =>
    cases hl; cases h1
    exact PyProof.Rows.len_str (by lia) (Pst.here (st.tok _) (.int _ _) h)
/-- store into an item -/
noncomputable abbrev kU (Q : MFl → Hp → Lv → Prop) (_ : Unit) (H : Hp) (lv : Lv) : Prop := Q .next H lv
noncomputable abbrev kSI3 (C : Cx) (A : Around) (L : Addr) (Q : MFl → Hp → Lv → Prop) (v x y : MV) (H : Hp) (lv : Lv) : Prop := O3 C A L UR (fun a b c => setItem a b c) x y v H lv (kU Q)
noncomputable abbrev kSI (C : Cx) (A : Around) (env : Env) (o i : Expr) (Q : MFl → Hp → Lv → Prop) (v : MV) (H : Hp) (lv : Lv) : Prop := WE C A env o H lv (kE C A env i (kSI3 C A env.locals Q v))
noncomputable abbrev kX (Q : MFl → Hp → Lv → Prop) (v : MV) (H : Hp) (lv : Lv) : Prop := v = .none ∧ Q .next H lv
theorem kX_go {Q : MFl → Hp → Lv → Prop} {H : Hp} {lv : Lv} (h : Q .next H lv) : kX Q .none H lv := ⟨rfl, h⟩
theorem S_SetItem {o i e : Expr} {tpos pos : Pos} {Q : MFl → Hp → Lv → Prop} (h : WE C A env e H lv (kSI C A env o i Q))
    (hs : swapsWithSole [.Subscript o i tpos] e pos.line env = pure false := by rfl) (hw : swappedStores [.Subscript o i tpos] e env = pure none := by rfl) (hi : plainSlice i = true := by rfl) : WS C A env (.Assign [.Subscript o i tpos] e pos) H lv Q := fun F s st => by
  rw [arm_exec_Assign]
  refine wpAny_bind (wpAny_standAt ?_)
  rw [hs]
  refine wpAny_bind (wpAny_pure ?_)
  show wpAny _ _ (if false = true then _ else _) _ _ _
  rw [if_neg Bool.false_ne_true]
  refine wpAny_bind (Pst.seq (h F s st) fun v s1 F1 H1 lv1 x k1 st1 r1 q1 => ?_)
  rw [hw]
  refine wpAny_bind (wpAny_pure ?_)
  show wpAny _ _ (assignAll v [assign (.Subscript o i tpos) env] >>= fun _ => pure Flow.next) _ _ _
  refine wpAny_bind ?_
  show wpAny _ _ (assign (.Subscript o i tpos) env v) _ _ _
  rw [arm_assign_Subscript]
  refine wpAny_bind (wpAny_holding (Pst.seq (q1 F1 s1 st1) fun a s2 F2 H2 lv2 y k2 st2 r2 q2 => ?_))
  refine wpAny_bind (wpAny_holding (Pst.seq (q2 F2 s2 st2) fun b s3 F3 H3 lv3 z k3 st3 r3 q3 => ?_))
  refine wpAny_bind (wpAny_standAt (wpAny_bind (wpAny_holding (Pst.seq (q3 F3 s3 a b v (r2.mono k3) r3 (r1.mono (k2.trans k3)) st3) fun u s4 F4 H4 lv4 _ k4 st4 _ q4 => ?_))))
  intro Γ p hΓ
  rw [Sem.wp_release]
  exact wpAny_pure ⟨F4, H4, lv4, .next, k1.trans (k2.trans (k3.trans k4)), st4, .next, q4⟩
theorem I_list {a : Addr} {l : List MV} {k : Int} {x : MV} {Q : Unit → Hp → Lv → Prop} (e : H a = some (.list l)) (h0 : 0 ≤ k) (h1 : k < l.length) (hsz : l.length ≤ 100000) (h : Q () (H.put a (.list (l.set k.toNat x))) lv) : O3 C A L UR (fun a b c => setItem a b c) (.ref a) (.int k) x H lv Q := by
  intro F s u v w hu hv hw st
  cases hu; cases hv
  refine ea2_3 (st.list e) fun vs n ho r hlen => ?_
  refine ki_setAt ho h0 (by lia) (by rw [List.size_toArray]; lia) ?_
  have q := PySem.IsL.update ho (fun x => x.setIfInBounds k.toNat w)
  have e3 : vs.toArray.setIfInBounds k.toNat w = (vs.set k.toNat w).toArray := by apply Array.toList_inj.mp; simp
  exact Pst.here (x := ()) (st.turn (x' := .list (l.set k.toNat x)) e (Heap.SameBut.update ..) q ⟨vs.set k.toNat w, _, by rw [e3], r.set hw _⟩ s.toks) trivial h
theorem S_Expr {e : Expr} {pos : Pos} {Q : MFl → Hp → Lv → Prop} (h : WE C A env e H lv (kX Q)) (hi : interactive env = false := by rfl) (hs : swapsWith e none pos.line env = pure false := by rfl) : WS C A env (.Expr e pos) H lv Q := fun F s st =>
  wpAny_Expr (Pst.seq (h F s st) fun v s1 F1 H1 lv1 x k1 st1 r1 q1 => (by
    refine ea0_2 q1 fun qq0 q => ?_
    subst qq0
    (try clear q1)
    cases r1
    exact ⟨F1, H1, lv1, .next, k1, st1, .next, q⟩)) hi hs
end
end Mine
end
section
open PySem PySem.W PyProof.Rows PySem.Calls PySem.Spec
set_option Elab.async false
set_option maxRecDepth 100000
set_option linter.unusedVariables false
namespace Mine
noncomputable abbrev MV.pr (p : Int × Str) : MV := .tup [.int p.1, .str p.2]
noncomputable def ltP (p q : Int × Str) : Bool := if p.1 = q.1 then (if p.2 = q.2 then false else decide (p.2.cps.toList < q.2.cps.toList)) else decide (p.1 < q.1)
section
variable {C : Cx} {A : Around} {H : Hp} {lv : Lv} {L : Addr} {env : Env}
theorem tup_lt_tree {prog : Program} {w : World} {s : Shared} {E : Value → Shared → Prop} {a b : Addr} {i j : Int} {x y : Str} {t u t' u' : Tok} {n n' : Nat} {P : PySem.Fin → Shared → Prop} (ha : s.heap.get? a = some (tupObj [.int i t, .str x u] n)) (hb : s.heap.get? b = some (tupObj [.int j t', .str y u'] n'))
    (h : P (.done (.ret (.bool (ltP (i, x) (j, y))))) s) : wpAny (model prog w) A (Builtin.«tuple.__lt__» ⟨[.ref a, .ref b], []⟩) P E s := by
  have hTb : s.TypeIs (.ref b) "tuple" := ⟨_, hb, rfl⟩
  show wpAny _ _ (isInstance (.ref b) (.type "tuple") >>= _) _ _ s
  refine wpAny_bind (wpAny_isInstance hTb isSubtype_tuple_tuple ?_)
  simp only [Bool.not_true, Bool.false_eq_true, if_false]
  refine wpAny_bind (wpAny_tupleItemsOf ha rfl ?_)
  refine wpAny_bind (wpAny_tupleItemsOf hb rfl ?_)
  refine wpAny_bind ?_
  simp only [List.zip_cons_cons, List.zip_nil_right, List.forIn_cons, List.forIn_nil]
  refine wpAny_bind (wpAny_bind (wpAny_eqBool_int ?_))
  by_cases hij : i = j
  · subst hij
    simp only [beq_self_eq_true, Bool.not_true, Bool.false_eq_true, if_false]
    refine wpAny_pure ?_
    refine wpAny_bind (wpAny_bind (wpAny_eqBool_str ?_))
    by_cases hxy : x = y
    · subst hxy
      simp only [decide_true, Bool.not_true, Bool.false_eq_true, if_false]
      have e : ltP (i, x) (i, x) = false := by simp [ltP]
      rw [e] at h
      exact wpAny_pure (wpAny_pure (wpAny_pure h))
    · simp only [decide_eq_false hxy, Bool.not_false, if_true]
      have e : ltP (i, x) (i, y) = decide (x.cps.toList < y.cps.toList) := by simp [ltP, hxy]
      rw [e] at h
      refine wpAny_bind (wpAny_rule (wpAny_bind ?_))
      refine wpAny_mono (show wpAny (model prog w) A (compareOp .Lt (.str x u) (.str y u')) _ _ _ from PyProof.Rows.lt_str (Q := fun v s' => v = .bool (decide (x.cps.toList < y.cps.toList)) ∧ s' = s) ⟨rfl, rfl⟩) (fun v s' hv => ?_) fun _ _ e => e
      refine ea0_2 hv fun qq0 qq1 => ?_
      subst qq0 qq1
      (try clear hv)
      exact wpAny_bind (wpAny_pure (wpAny_pure (wpAny_pure (wpAny_pure h))))
  · have hb' : (i == j) = false := by simpa using hij
    simp only [hb', Bool.not_false, if_true]
    have e : ltP (i, x) (j, y) = decide (i < j) := by simp [ltP, hij]
    rw [e] at h
    refine wpAny_bind (wpAny_rule (wpAny_bind ?_))
    refine wpAny_mono (show wpAny (model prog w) A (compareOp .Lt (.int i t) (.int j t')) _ _ _ from lt_int (Q := fun v s' => v = .bool (decide (i < j)) ∧ s' = s) ⟨rfl, rfl⟩) (fun v s' hv => ?_) fun _ _ e => e
    refine ea0_2 hv fun qq0 qq1 => ?_
    subst qq0 qq1
    (try clear hv)
    exact wpAny_bind (wpAny_pure (wpAny_pure (wpAny_pure (wpAny_pure h))))
theorem C_ltP {p q : Int × Str} {Q : MV → Hp → Lv → Prop} (hu : A.units < cLine) (h : Q (.bool (ltP p q)) H lv) : O2 C A L VRep (compareOp .Lt) (.pr p) (.pr q) H lv Q := by
  intro F s u v hu' hv st
  obtain ⟨i, x⟩ := p
  obtain ⟨j, y⟩ := q
  cases hu' with
  | tup e r => cases r with
    | cons r1 r => cases r with
      | cons r2 r => cases r; cases r1; cases r2; cases hv with
        | tup e' r' => cases r' with
          | cons r1 r => cases r with
            | cons r2 r =>
              cases r; cases r1; cases r2
              have ha := st.fz _ _ e
              have hb := st.fz _ _ e'
              show wpAny C.M A (richCompare .Lt _ _) _ _ s
              exact wpAny_richCompare_same_room (op := .Lt) (T := "tuple") ⟨_, ha, rfl⟩ ⟨_, hb, rfl⟩ PySem.F.slot_tuple_lt
                (wpAny_call_entry PySem.F.slot_tuple_lt ⟨_, ha, rfl⟩ PySem.F.entry_tuple_lt (tup_lt_tree ha hb ⟨_, rfl, (fun e => nomatch e), Pst.here st (.bool _) h⟩) (PySem.F.args_tuple_lt_2 _ _)) hu
end
end Mine
end
section
open PySem PySem.W PyProof.Rows PySem.Calls PySem.Spec
set_option Elab.async false
set_option maxRecDepth 100000
set_option linter.unusedVariables false
namespace Mine
noncomputable def AllAt (lv : Lv) : List Str → List MV → Prop
  | n :: ns, x :: xs => lv n = some x ∧ AllAt lv ns xs
  | _, _ => True
theorem lvOf_sub {lv : Lv} : ∀ (ns : List Str) (xs : List MV), AllAt lv ns xs → ∀ x y, lvOf ns xs x = some y → lv x = some y
  | [], _, _, x, y, h => by simp [lvOf] at h
  | _ :: _, [], _, x, y, h => by simp [lvOf] at h
  | n :: ns, z :: zs, a, x, y, h => by
    simp only [lvOf, Lv.put] at h
    by_cases q : x = n
    · rw [if_pos q] at h; cases h; rw [q]; exact a.1
    · rw [if_neg q] at h; exact lvOf_sub ns zs a.2 x y h
section
variable {C : Cx} {A : Around} {H : Hp} {lv : Lv} {env : Env}
theorem S_WhileN {t : Expr} {b o : List Stmt} {pos : Pos} {Q : MFl → Hp → Lv → Prop} (ns : List Str) (I : Nat → Hp → List MV → Prop)
    (turn : ∀ n H vs, I n H vs → WT C A env t H (lvOf ns vs) fun c H lv => (c = true → WX C A env b H lv (loopQ (fun H lv => ∃ m vs', m < n ∧ AllAt lv ns vs' ∧ I m H vs') Q)) ∧ (c = false → WX C A env o H lv Q))
    (n : Nat) (vs : List MV) (h0 : AllAt lv ns vs) (hI : I n H vs) : WS C A env (.While t b o pos) H lv Q := by
  refine S_While (fun n H lv => ∃ vs, AllAt lv ns vs ∧ I n H vs) (fun n H lv zz => ea1_2 zz fun vs ha hi => ?_) n ⟨vs, h0, hI⟩
  refine ((turn n H vs hi).mono fun c H lv q => ⟨fun hc => (q.1 hc).mono fun f H lv q => ?_, q.2⟩).lessL (lvOf_sub ns vs ha)
  cases f with
  | next => obtain ⟨m, vs', a, b, c⟩ := q; exact ⟨m, a, vs', b, c⟩
  | cont => obtain ⟨m, vs', a, b, c⟩ := q; exact ⟨m, a, vs', b, c⟩
  | brk => exact q
  | ret v => exact q
end
end Mine
end
section
open PySem PySem.W PyProof.Rows PySem.Calls PySem.Spec
set_option Elab.async false
set_option maxRecDepth 100000
set_option linter.unusedVariables false
set_option linter.unusedSectionVars false
namespace Mine
/-! ### dicts -/
section
variable {K : Type} [DecidableEq K]
noncomputable def dget (l : List (K × MV)) (k : K) : Option MV := (l.find? fun kv => kv.1 = k).map (·.2)
noncomputable def dput (l : List (K × MV)) (k : K) (v : MV) : List (K × MV) := if l.any (fun kv => kv.1 = k) then l.map (fun kv => if kv.1 = k then (kv.1, v) else kv) else l ++ [(k, v)]
theorem KV.get {F : Fz} (k : K) : ∀ {l : List (K × MV)} {kvs : List (K × Value)}, KV F l kvs → OV F (dget l k) (valueAt kvs k)
  | _, _, .nil => .none
  | _, _, .cons (k := k') hv hl => by
    have ih := KV.get k hl
    unfold dget valueAt at *
    by_cases q : k' = k
    · simp only [List.find?_cons, decide_eq_true q, Option.map_some]; exact .some hv
    · simp only [List.find?_cons, decide_eq_false q]; exact ih
theorem KV.length {F : Fz} : ∀ {l : List (K × MV)} {kvs : List (K × Value)}, KV F l kvs → kvs.length = l.length
  | _, _, .nil => rfl
  | _, _, .cons _ h => by simp [KV.length h]
theorem KV.any {F : Fz} (k : K) : ∀ {l : List (K × MV)} {kvs : List (K × Value)}, KV F l kvs → kvs.any (fun kv => decide (kv.1 = k)) = l.any (fun kv => decide (kv.1 = k))
  | _, _, .nil => rfl
  | _, _, .cons _ h => by simp [KV.any k h]
theorem KV.map {F : Fz} {x : MV} {v : Value} (hx : VRep F x v) (k : K) : ∀ {l : List (K × MV)} {kvs : List (K × Value)}, KV F l kvs → KV F (l.map fun kv => if kv.1 = k then (kv.1, x) else kv) (kvs.map fun kv => if kv.1 = k then (kv.1, v) else kv)
  | _, _, .nil => .nil
  | _, _, .cons (k := k') hv hl => by
    simp only [List.map_cons]
    by_cases q : k' = k
    · simp only [if_pos q]; exact .cons hx (hl.map hx k)
    · simp only [if_neg q]; exact .cons hv (hl.map hx k)
theorem KV.append {F : Fz} {l' : List (K × MV)} {kvs' : List (K × Value)} (h' : KV F l' kvs') : ∀ {l : List (K × MV)} {kvs : List (K × Value)}, KV F l kvs → KV F (l ++ l') (kvs ++ kvs')
  | _, _, .nil => h'
  | _, _, .cons a h => .cons a (KV.append h' h)
theorem KV.put {F : Fz} {x : MV} {v : Value} (hx : VRep F x v) (k : K) {l : List (K × MV)} {kvs : List (K × Value)} (h : KV F l kvs) : KV F (dput l k x) (stored kvs k v) := by
  unfold dput stored
  rw [h.any k]
  split
  · exact h.map hx k
  · exact KV.append (.cons hx .nil) h
end
/-- a kind of dict -/
structure DK (C : Cx) (K : Type) [DecidableEq K] where
  knd : KeyKind Pg C.w K
  obj : List (K × MV) → MObj
  key : K → MV
  rep : ∀ F o l, ORep C F o (obj l) = ∃ kvs, o.IsDictOf knd kvs ∧ KV F l kvs
  is : ∀ F k v, VRep F (key k) v → knd.is k v = true
  of : ∀ F k v, knd.is k v = true → VRep F (key k) v
noncomputable def sK (C : Cx) : DK C Str where
  knd := PySem.strKind Pg C.w
  obj := .sd
  key := .str
  rep := fun _ _ _ => rfl
  is := fun F k v h => by cases h; simp [PySem.strKind, Value.isStrOf]
  of := fun F k v h => by obtain ⟨t, rfl⟩ := Value.isStrOf_shape h; exact .str _ _
noncomputable def iK (C : Cx) : DK C Int where
  knd := PySem.intKind Pg C.w
  obj := .idd
  key := .int
  rep := fun _ _ _ => rfl
  is := fun F k v h => by cases h; simp [PySem.intKind, Value.isInt]
  of := fun F k v h => by obtain ⟨t, rfl⟩ := Value.isInt_shape h; exact .int _ _
section
variable {C : Cx} {A : Around} {H : Hp} {lv : Lv} {L : Addr} {env : Env} {K : Type} [DecidableEq K] (D : DK C K)
theorem St.dict {F : Fz} {s : Shared} {a : Addr} {l : List (K × MV)} (st : St C F H L lv s) (e : H a = some (D.obj l)) : ∃ kvs, s.heap.DictOf D.knd a kvs ∧ KV F l kvs ∧ (a == sysModules) = false := by
  obtain ⟨_, _, o, ho, r⟩ := st.own _ _ e
  rw [D.rep] at r
  refine ea1_2 r fun kvs hd r => ?_
  refine ⟨kvs, Heap.dictOf_iff.mpr ⟨o, ho, hd⟩, r, ?_⟩
  rw [beq_eq_false_iff_ne]
  intro q; rw [q, st.nosys] at e; cases e
theorem G_dict {a : Addr} {l : List (K × MV)} {k : K} {x : MV} {v i : Expr} {Q : MV → Hp → Lv → Prop} (e : H a = some (D.obj l)) (hx : dget l k = some x) (h : Q x H lv) (hi : plainSlice i = true := by rfl) : O2 C A L VRep (subscriptTail v i) (.ref a) (D.key k) H lv Q := by
  intro F s u w hu hw st
  cases hu
  refine ea1_3 (st.dict D e) fun kvs hd r hs => ?_
  have := r.get k
  rw [hx] at this
  generalize hv : valueAt kvs k = q at this
  cases this with
  | some y => exact tail_any hd.typeIs slot_dict_getitem.lookup (wpAny_getItem_of (D.is F k w hw) hd.mapOf hv (Pst.here (st.tok _) y h)) (subscripted_plain hi _ _)
theorem M_get {a : Addr} {l : List (K × MV)} {Q : MV × List MV → Hp → Lv → Prop} (e : H a = some (D.obj l)) (h : Q (.bi "dict.get", [.ref a]) H lv) : OM C A L (Str.ofString "get") (.ref a) H lv Q := by
  intro F s v pl r st
  cases r
  refine ea1_3 (st.dict D e) fun kvs hd r hs => ?_
  exact getMethod_builtin hd.typeIs PySem.F.plainAttrs_dict PySem.F.slot_dict_get PySem.F.type_dict_get hd.mapOf.noDict (Pst.here st ⟨.bi _, .cons (.ref _) .nil⟩ h)
theorem K_get1 {a : Addr} {l : List (K × MV)} {k : K} {Q : MV → Hp → Lv → Prop} (e : H a = some (D.obj l)) (h : Q ((dget l k).getD .none) H lv) : OC C A L (.bi "dict.get") [.ref a, D.key k] H lv Q := by
  intro F s g vs hg hv st
  cases hg
  cases hv with
  | cons h1 hl => cases hl with
    | cons h2 hl =>
      cases hl; cases h1
      refine ea1_3 (st.dict D e) fun kvs hd r hs => ?_
      refine call_meetsIn PySem.F.slot_dict_get hd.typeIs PySem.F.entry_dict_get (PySem.F.args_dict_get_2 _ _) (meets_dict_get D.knd a (D.is F k _ h2) hs) ⟨_, hd.mapOf, ?_⟩
      have q := r.get k
      generalize valueAt kvs k = z at q
      generalize dget l k = z' at q h
      cases q with
      | none => exact Pst.here (st.tok _) .none h
      | some y => exact Pst.here (st.tok _) y h
theorem K_get2 {a : Addr} {l : List (K × MV)} {k : K} {d : MV} {Q : MV → Hp → Lv → Prop} (e : H a = some (D.obj l)) (h : Q ((dget l k).getD d) H lv) : OC C A L (.bi "dict.get") [.ref a, D.key k, d] H lv Q := by
  intro F s g vs hg hv st
  cases hg
  cases hv with
  | cons h1 hl => cases hl with
    | cons h2 hl => cases hl with
      | cons h3 hl =>
        cases hl; cases h1
        refine ea1_3 (st.dict D e) fun kvs hd r hs => ?_
        refine call_meetsIn PySem.F.slot_dict_get hd.typeIs PySem.F.entry_dict_get (PySem.F.args_dict_get_3 _ _ _) (meets_dict_get_default D.knd a (D.is F k _ h2) hs _) ⟨_, hd.mapOf, ?_⟩
        have q := r.get k
        generalize valueAt kvs k = z at q
        generalize dget l k = z' at q h
        cases q with
        | none => exact Pst.here (st.tok _) h3 h
        | some y => exact Pst.here (st.tok _) y h
theorem I_dict {a : Addr} {l : List (K × MV)} {k : K} {x : MV} {Q : Unit → Hp → Lv → Prop} (e : H a = some (D.obj l)) (hsz : l.length ≤ 100000) (h : Q () (H.put a (D.obj (dput l k x))) lv) : O3 C A L UR (fun a b c => setItem a b c) (.ref a) (D.key k) x H lv Q := by
  intro F s u v w hu hv hw st
  cases hu
  refine ea1_3 (st.dict D e) fun kvs hd r hs => ?_
  refine wpAny_setItem_pairs (D.is F k v hv) hd (fun h' hd' hs' => ?_) (by rw [r.length]; exact Nat.le_trans hsz (by decide))
  refine ea1_2 (Heap.dictOf_iff.mp hd') fun o' ho' hd'' => ?_
  exact Pst.here (x := ()) (st.turn (x' := D.obj (dput l k x)) e hs' ho' (by rw [D.rep]; exact ⟨_, hd'', r.put hw k⟩) _) trivial h
theorem C_notIn {a : Addr} {l : List (K × MV)} {k : K} {Q : MV → Hp → Lv → Prop} (e : H a = some (D.obj l)) (h : Q (.bool (!(dget l k).isSome)) H lv) : O2 C A L VRep (compareOp .NotIn) (D.key k) (.ref a) H lv Q := by
  intro F s u v hu hv st
  cases hv
  refine ea1_3 (st.dict D e) fun kvs hd r hs => ?_
  refine wpAny_notIn_of (D.is F k u hu) hs hd.mapOf ?_
  have q := r.get k
  generalize valueAt kvs k = z at q
  generalize dget l k = z' at q h
  cases q with
  | none => exact Pst.here (st.tok _) (.bool _) h
  | some y => exact Pst.here (st.tok _) (.bool _) h
end
section
variable {C : Cx} {A : Around} {H : Hp} {lv : Lv} {L : Addr} {env : Env}
end
end Mine
end
section
open PySem PySem.W PyProof.Rows PySem.Calls PySem.Spec
set_option Elab.async false
set_option maxRecDepth 100000
set_option linter.unusedVariables false
set_option linter.unusedSectionVars false
namespace Mine
theorem bb_range : bootBuiltins (Str.ofString "range") = some (.type "range") := by decide +kernel
theorem bb_len : bootBuiltins (Str.ofString "len") = some (.builtin "len") := by decide +kernel
theorem bb_min : bootBuiltins (Str.ofString "min") = some (.builtin "min") := by decide +kernel
theorem bb_sorted : bootBuiltins (Str.ofString "sorted") = some (.builtin "sorted") := by decide +kernel
theorem bb_dict : bootBuiltins (Str.ofString "dict") = some (.type "dict") := by decide +kernel
theorem bb_enumerate : bootBuiltins (Str.ofString "enumerate") = some (.type "enumerate") := by decide +kernel
theorem bb_iter : bootBuiltins (Str.ofString "iter") = some (.builtin "iter") := by decide +kernel
/-- a text by the numbers of its signs -/
noncomputable def mkS (l : List Nat) : Str := ⟨l.toArray⟩
theorem mkS_len (l : List Nat) : (mkS l).length = l.length := by simp [mkS, Str.length]
theorem mkS_append (l l' : List Nat) : mkS l ++ mkS l' = mkS (l ++ l') := by
  apply Str.ext'
  simp [mkS, Str.cps_append]
theorem mkS_inj {l l' : List Nat} (h : mkS l = mkS l') : l = l' := by
  have := congrArg (fun s : Str => s.cps.toList) h
  simpa [mkS] using this
section
variable {C : Cx} {A : Around} {H : Hp} {lv : Lv} {L : Addr} {env : Env}
theorem B_addT {x y : List Nat} {Q : MV → Hp → Lv → Prop} (h : Q (.str (mkS (x ++ y))) H lv) (hsz : x.length + y.length ≤ 100000) : O2 C A L VRep (binaryOp .Add) (.str (mkS x)) (.str (mkS y)) H lv Q :=
  B_addS (mkS_append x y ▸ h) (by rw [mkS_len, mkS_len]; exact hsz)
theorem I_addT {x y : List Nat} {Q : MV → Hp → Lv → Prop} (h : Q (.str (mkS (x ++ y))) H lv) (hsz : x.length + y.length ≤ 100000) : O2 C A L VRep (inplaceOp .Add) (.str (mkS x)) (.str (mkS y)) H lv Q :=
  I_addS (mkS_append x y ▸ h) (by rw [mkS_len, mkS_len]; exact hsz)
theorem W_strT {x : Str} {k : Nat} {pos : Pos} (l : List Nat) {Q : MV → Hp → Lv → Prop} (e : x = mkS l) (h : Q (.str (mkS l)) H lv) : WE C A env (.Constant (.str x) k pos) H lv Q := by subst e; exact W_str h
theorem mul2 (b : Int) : IntMulOk 2 b := IntMulOk.of_left (intBits_le_64 (by decide) (by decide))
theorem B_divE {a b : Int} {Q : MV → Hp → Lv → Prop} (hb : 0 < b ∧ b < 1073741824) (h : Q (.int (a / b)) H lv) : O2 C A L VRep (binaryOp .FloorDiv) (.int a) (.int b) H lv Q :=
  B_div (by omega) (PyProof.noPylong_small (by omega)) (by rw [Int.fdiv_eq_ediv_of_nonneg _ (by omega)]; exact h)
theorem B_modE {a b : Int} {Q : MV → Hp → Lv → Prop} (hb : 0 < b) (h : Q (.int (a % b)) H lv) : O2 C A L VRep (binaryOp .Mod) (.int a) (.int b) H lv Q :=
  B_mod (by omega) (by rw [Int.fmod_eq_emod_of_nonneg _ (by omega)]; exact h)
/-- one sign or another -/
theorem W_IfCh {t : Expr} {x y : Str} {k k' : Nat} {p p' pos : Pos} (a b : Nat) {Q : MV → Hp → Lv → Prop} (ha : x = mkS [a]) (hb : y = mkS [b]) (h : WT C A env t H lv fun c H lv => Q (.str (mkS [if c then a else b])) H lv) : WE C A env (.IfExp t (.Constant (.str x) k p) (.Constant (.str y) k' p') pos) H lv Q :=
  W_IfExp (h.mono fun c H lv q => ⟨fun hc => W_strT [a] ha (by subst hc; exact q), fun hc => W_strT [b] hb (by subst hc; exact q)⟩)
theorem G_strT {x : List Nat} {k : Int} {v i : Expr} {Q : MV → Hp → Lv → Prop} (h0 : 0 ≤ k) (h1 : k < x.length) (h : Q (.str (mkS [x.getD k.toNat 0])) H lv) (hsz : x.length ≤ 100000) (hi : plainSlice i = true := by rfl) : O2 C A L VRep (subscriptTail v i) (.str (mkS x)) (.int k) H lv Q :=
  G_str (c := x.getD k.toNat 0) h0 (by
    have : k.toNat < x.length := by omega
    simp [mkS, List.getD, this]) (by simpa [mkS] using h) (by rw [mkS_len]; exact hsz) hi
theorem ForW_nil {t : Expr} {b : List Stmt} {P : Hp → Prop} {Qe : Hp → Lv → Prop} {Q : MFl → Hp → Lv → Prop} (h : Qe H lv) : ForW C A env t b P Qe Q [] H lv := h
theorem ForW_cons {t : Expr} {b : List Stmt} {P : Hp → Prop} {Qe : Hp → Lv → Prop} {Q : MFl → Hp → Lv → Prop} {x : MV} {xs : List MV} (h : OA C A env t x H lv fun H lv => WX C A env b H lv (loopQ (fun H lv => P H → ForW C A env t b P Qe Q xs H lv) fun f H lv => P H → Q f H lv)) : ForW C A env t b P Qe Q (x :: xs) H lv := h
/-- a constant of the top -/
theorem W_top (O : C.Ok) {x : Str} {pos : Pos} {v : Value} {y : MV} {Q : MV → Hp → Lv → Prop} (e : nsIn C.K mainGlobals x = some (some v)) (r : ∀ F : Fz, (∀ a o, C.K.lookup a = some o → F a = some o) → VRep F y v) (h : Q y H lv) (hk : env.scope.kind = .function := by rfl) (hx : env.kindOf x = some .globalImplicit := by rfl)
    (hge : env.globals = mainGlobals := by rfl) (hd : (x == ("__debug__" : Str)) = false := by decide) : WE C A env (.Name x pos) H lv Q := fun F s st => by
  refine ea5_1 (O.T) fun p loose mean mg mb T => ?_
  have hg : s.heap.Ns env.globals mg := hge ▸ T.g.keeps st.keepsB
  exact Name_function_global hk hx (loadGlobal_global hg (mg_of O.X T.g e) (Pst.here st (r F fun a o q => st.base _ _ (O.X _ _ q)) h)) hd
/-- join -/
theorem M_join {x : Str} {Q : MV × List MV → Hp → Lv → Prop} (h : Q (.bi "str.join", [.str x]) H lv) : OM C A L (Str.ofString "join") (.str x) H lv Q := by
  intro F s v pl r st
  cases r
  exact getMethod_builtin (typeIs_str s x _) PySem.F.plainAttrs_str PySem.F.slot_str_join PySem.F.type_str_join (fun b e => by cases e) (Pst.here st ⟨.bi _, .cons (.str _ _) .nil⟩ h)
theorem strsAre_of {F : Fz} : ∀ {l : List (List Nat)} {vs : List Value}, VRepL F (l.map fun x => .str (mkS x)) vs → StrsAre vs (l.map mkS)
  | [], _, .nil => .nil
  | x :: l, _, .cons h hl => by cases h; exact .cons _ _ (strsAre_of hl)
theorem join_mkS : ∀ l : List (List Nat), Str.join ⟨#[]⟩ (l.map mkS) = mkS l.flatten
  | [] => rfl
  | x :: l => by rw [List.map_cons, PyProof.Rows.join_nil_cons, join_mkS l, mkS_append]; rfl
theorem K_join {a : Addr} {l : List (List Nat)} {Q : MV → Hp → Lv → Prop} (e : H a = some (.list (l.map fun x => .str (mkS x)))) (hsz : (l.map (·.length)).sum ≤ 100000) (h : Q (.str (mkS l.flatten)) H lv) : OC C A L (.bi "str.join") [.str (Str.ofString ""), .ref a] H lv Q := by
  intro F s g vs hg hv st
  cases hg
  cases hv with
  | cons h1 hl => cases hl with
    | cons h2 hl =>
      cases hl; cases h1; cases h2
      refine ea2_3 (st.list e) fun vs n ho r hlen => ?_
      refine join_list (items := vs.toArray) (ys := l.map mkS) (PySem.IsL.isList (n := n) ho) (by simpa using strsAre_of r) ?_ (fun t' k => ?_)
      · have e0 : (Str.ofString "").length = 0 := by decide
        rw [e0, Nat.mul_zero, Nat.add_zero, List.map_map]
        have : (List.map ((fun x => x.length) ∘ mkS) l) = l.map (·.length) := by apply List.map_congr_left; intro x _; exact mkS_len x
        rw [this]; omega
      · have e1 : Txt.join (Str.ofString "") (l.map mkS) = mkS l.flatten := by
          have e0 : Str.ofString "" = ⟨#[]⟩ := by decide
          rw [e0, ← join_mkS]
          exact eq_of_beq (PyProof.Rows.join_plain_closes _ _)
        rw [e1]
        exact Pst.here (st.tok _) (.str _ _) h
end
end Mine
end
section
open PySem PySem.W PyProof.Rows PySem.Calls PySem.Spec
open PySem.AutoSeq1 (wpAny_loadPart')
set_option Elab.async false
set_option maxRecDepth 100000
set_option linter.unusedVariables false
set_option linter.unusedSectionVars false
namespace Mine
/-! ### enumerate over a tuple -/
section
variable {prog : Program} {w : World} {A : Around} {E : Value → Shared → Prop} {s : Shared}
theorem nextOf_tup_item {it t : Addr} {i : Nat} {items : Array Value} {x : Value} {Q : Value → Shared → Prop} (hit : s.heap.IsTupleIter it t i) (ht : s.heap.IsTuple t items) (hx : items[i]? = some x)
    (hQ : ∀ h', h'.IsTupleIter it t (i + 1) → Heap.SameBut it s.heap h' → Q x { s with heap := h' }) : wpAny (model prog w) A (Builtin.SmallTypes.nextOf (.ref it)) Q E s := by
  refine ea1_3 (id hit) fun o ho hc hd => ?_
  obtain ⟨ol, hol, _, nl, hdl⟩ := ht
  unfold Builtin.SmallTypes.nextOf
  refine wpAny_bind (wpAny_callSpecial?_slot (name := Str.ofString "__next__") hit.typeIs PySem.F.slot_tuple_iterator_next (wpAny_call_entry PySem.F.slot_tuple_iterator_next hit.typeIs PySem.F.entry_tuple_iterator_next ?_ (PySem.F.args_tuple_iterator_next_1 _)))
  show wpAny _ _ (field (.ref it) 0 >>= _) _ _ s
  refine wpAny_bind (wpAny_field ho hd (x := .ref t) rfl ?_)
  show wpAny _ _ (if (Value.ref t == Value.none) = true then _ else _) _ _ s
  rw [if_neg (show ¬ ((Value.ref t == Value.none) = true) from Bool.false_ne_true)]
  show wpAny _ _ (field (.ref it) 1 >>= _) _ _ s
  refine wpAny_bind (wpAny_field ho hd (x := .int i 0) rfl ?_)
  show wpAny _ _ (seqItems? (.ref t) >>= _) _ _ s
  refine wpAny_bind (wpAny_seqItems hol hdl ?_)
  simp only [Int.toNat_natCast, hx]
  refine wpAny_bind (wpAny_setField ho hd (by simp) (wpAny_pure ⟨x, rfl, wpAny_pure (hQ _ ?_ (Heap.SameBut.update ..))⟩))
  exact ⟨_, Heap.get?_update_self _ ho (Obj.isFreed_of_fields (Obj.data_mapFields hd _)), (Obj.cls_mapFields ..).trans hc, by rw [Obj.data_mapFields hd]; simp [rawInt]⟩
theorem nextOf_tup_end {it t : Addr} {i : Nat} {items : Array Value} {Q : Value → Shared → Prop} (hh : A.handled = none) (hit : s.heap.IsTupleIter it t i) (ht : s.heap.IsTuple t items) (hx : items[i]? = none)
    (hE : ∀ h' e, Heap.ExtBut it s.heap h' → (∃ o, h'.get? e = some o ∧ o.cls = .type "StopIteration") → E (.ref e) { s with heap := h' }) : wpAny (model prog w) A (Builtin.SmallTypes.nextOf (.ref it)) Q E s := by
  refine ea1_3 (id hit) fun o ho hc hd => ?_
  obtain ⟨ol, hol, _, nl, hdl⟩ := ht
  unfold Builtin.SmallTypes.nextOf
  refine wpAny_bind (wpAny_callSpecial?_slot (name := Str.ofString "__next__") hit.typeIs PySem.F.slot_tuple_iterator_next (wpAny_call_entry PySem.F.slot_tuple_iterator_next hit.typeIs PySem.F.entry_tuple_iterator_next ?_ (PySem.F.args_tuple_iterator_next_1 _)))
  show wpAny _ _ (field (.ref it) 0 >>= _) _ _ s
  refine wpAny_bind (wpAny_field ho hd (x := .ref t) rfl ?_)
  show wpAny _ _ (if (Value.ref t == Value.none) = true then _ else _) _ _ s
  rw [if_neg (show ¬ ((Value.ref t == Value.none) = true) from Bool.false_ne_true)]
  show wpAny _ _ (field (.ref it) 1 >>= _) _ _ s
  refine wpAny_bind (wpAny_field ho hd (x := .int i 0) rfl ?_)
  show wpAny _ _ (seqItems? (.ref t) >>= _) _ _ s
  refine wpAny_bind (wpAny_seqItems hol hdl ?_)
  simp only [Int.toNat_natCast, hx]
  refine wpAny_bind (wpAny_rule (wpAny_bind (wpAny_setField ho hd (by simp) ?_)))
  show wpAny _ _ (newExc (.type "StopIteration") [] >>= _) _ _ _
  refine wpAny_bind ?_
  simp only [newExc, newTuple]
  refine wpAny_bind (wpAny_newObj_type ?_ (by size_fits))
  refine wpAny_bind (m := firstArgMember _ _) (wpAny_of_eq (a := Value.none) (by first | rfl | (simp only [firstArgMember]; rfl)) ?_)
  refine wpAny_newObj_type ?_ (by size_fits)
  simp only [raiseNew]
  refine wpAny_bind (wpAny_handled ?_)
  first | rw [show A.in1.handled = none from hh] | rw [hh]
  refine wpAny_bind (wpAny_pure (wpAny_throw ?_))
  exact hE _ _ (((Heap.SameBut.update ..).extBut.push _).push _) ⟨_, Heap.get?_push_size _ rfl, rfl⟩
theorem draws_tup (hh : A.handled = none) (it t : Addr) (hne : t ≠ it) (items : Array Value) :
    Draws prog w A it [it, t] items.size (fun i v => items[i]? = some v) (fun i h => h.IsTupleIter it t i ∧ h.IsTuple t items) where
  live := fun _ _ st => let ⟨o, ho, _⟩ := st.1; ⟨o, ho⟩
  frame := fun _ _ _ st hk => ⟨let ⟨o, ho, r⟩ := st.1; ⟨o, hk it (by simp) _ ho, r⟩, let ⟨o, ho, r⟩ := st.2; ⟨o, hk t (by simp) _ ho, r⟩⟩
  item := fun i s Q E hi st hQ => by
    refine nextOf_tup_item st.1 st.2 (x := items[i]) (by simp [hi]) fun h' hit' hs' => ?_
    exact hQ _ h' s.toks (by simp [hi]) ⟨hit', st.2.extBut hs'.extBut hne⟩ hs'
  done := fun s Q E st hE => nextOf_tup_end hh st.1 st.2 (by simp) hE
theorem meets_enum_tup (l : Addr) (items : Array Value) (n : Nat) :
    Meets (Builtin.«enumerate.__new__» ⟨[.type "enumerate", .ref l], []⟩) (fun _ R s => s.heap.get? l = some { cls := .type "tuple", dict := none, data := .seq items n, slots := #[] } ∧
      R (.ok (.ret (.ref (s.heap.push { cls := .type "tuple_iterator", data := .fields #[.ref l, .int 0 0] }).objs.size)))
        { s with heap := (s.heap.push { cls := .type "tuple_iterator", data := .fields #[.ref l, .int 0 0] }).push { cls := .type "enumerate", data := .fields #[.none, .bool false, .ref s.heap.objs.size, rawInt 0, .none, .none] } }) :=
  .of_wp fun prog w A R s h => by
    obtain ⟨hp, g, d, tk, os⟩ := s
    refine ea0_2 h fun hl h => ?_
    have hsub := sub_enumerate
    have hL : Heap.IsTuple (Shared.heap ⟨hp, g, d, tk, os⟩) l items := ⟨_, hl, rfl, n, rfl⟩
    wp_walk using wpAny_loadPart' hl
    refine wpAny_stack_any fun st => wpAny_pure ?_
    split
    · rename_i c _ _ _ _ _
      cases (c == Value.type "enumerate")
      · wp_walk using wpAny_loadPart' hl, wpAny_pyIter_tuple hL
        exact ⟨_, rfl, h⟩
      · wp_walk using wpAny_loadPart' hl, wpAny_pyIter_tuple hL
        exact ⟨_, rfl, h⟩
    · wp_walk using wpAny_loadPart' hl, wpAny_pyIter_tuple hL
      exact ⟨_, rfl, h⟩
theorem call_enum_tup {l : Addr} {items : Array Value} {n : Nat} {Q : Value → Shared → Prop} (hl : s.heap.get? l = some { cls := .type "tuple", dict := none, data := .seq items n, slots := #[] })
    (h : ∀ h', IsEnum h' (s.heap.objs.size + 1) s.heap.objs.size 0 .none → h'.IsTupleIter s.heap.objs.size l 0 → h'.objs.size = s.heap.objs.size + 2 →
      (∀ b o, s.heap.get? b = some o → h'.get? b = some o) → Q (.ref (s.heap.objs.size + 1)) { s with heap := h' }) :
    wpAny (model prog w) A (call (.type "enumerate") [.ref l]) Q E s := by
  refine callType_new PySem.F.called_enumerate (by decide) (PySem.F.typeCall_enumerate_1 _) (PySem.F.newCall_enumerate_1 _) (fun obj => PySem.F.args_object_init_2 obj _) PySem.F.entry_enumerate_new (meets_enum_tup l items n) ⟨hl, ?_⟩
  have hz : (s.heap.push { cls := .type "tuple_iterator", data := .fields #[.ref l, .int 0 0] }).objs.size = s.heap.objs.size + 1 := Heap.size_push ..
  show _ ∧ _
  rw [hz]
  have he : IsEnum ((s.heap.push { cls := .type "tuple_iterator", data := .fields #[.ref l, .int 0 0] }).push
      { cls := .type "enumerate", data := .fields #[.none, .bool false, .ref s.heap.objs.size, rawInt 0, .none, .none] }) (s.heap.objs.size + 1) s.heap.objs.size 0 .none := by
    have := Heap.get?_push_size (s.heap.push { cls := .type "tuple_iterator", data := .fields #[.ref l, .int 0 0] })
      (o := { cls := .type "enumerate", data := .fields #[.none, .bool false, .ref s.heap.objs.size, rawInt 0, .none, .none] }) rfl
    rw [hz] at this; exact this
  refine ⟨⟨_, he, rfl⟩, h _ he ⟨_, Heap.get?_push_of_some _ (Heap.get?_push_size _ rfl), rfl, rfl⟩ (by rw [Heap.size_push, hz]) fun b o x => Heap.get?_push_of_some _ (Heap.get?_push_of_some _ x)⟩
end
end Mine
end
section
open PySem PySem.W PyProof.Rows PySem.Calls PySem.Spec
set_option Elab.async false
set_option maxRecDepth 100000
set_option linter.unusedVariables false
set_option linter.unusedSectionVars false
namespace Mine
section
variable {C : Cx} {A : Around} {H : Hp} {lv : Lv} {L : Addr} {env : Env}
/-! ### dict displays, copies -/
theorem W_Dict0 {K : Type} [DecidableEq K] (D : DK C K) {pos : Pos} {Q : MV → Hp → Lv → Prop} (h : ∀ a, H a = Option.none → Q (.ref a) (H.put a (D.obj [])) lv) : WE C A env (.Dict [] [] pos) H lv Q := fun F s st =>
  wpAny_Dict_empty (by
    have hd : (s.heap.push { cls := .type "dict", data := .dict #[] }).DictOf D.knd s.heap.objs.size [] := Heap.DictOf.new s.heap
    refine ea1_2 (Heap.dictOf_iff.mp hd) fun o ho hd => ?_
    have st' := st.keeps (h' := s.heap.push { cls := .type "dict", data := .dict #[] }) (fun b o' e => Heap.get?_push_of_some _ e) s.toks
    exact Pst.here (st'.take (x := D.obj []) ho (st.freshF (size_fresh _)) (st.freshL (size_fresh _)) st.newSys (by rw [D.rep]; exact ⟨_, hd, .nil⟩)) (.ref _) (h _ (st.freshH (size_fresh _))))
theorem K_dict {K : Type} [DecidableEq K] (D : DK C K) {a : Addr} {l : List (K × MV)} {Q : MV → Hp → Lv → Prop} (e : H a = some (D.obj l)) (hsz : l.length ≤ 100000) (h : ∀ b, H b = Option.none → Q (.ref b) (H.put b (D.obj l)) lv) : OC C A L (.ty "dict") [.ref a] H lv Q := by
  intro F s g vs hg hv st
  cases hg
  cases hv with
  | cons h1 hl =>
    cases hl; cases h1
    refine ea1_3 (st.dict D e) fun kvs hd r hs => ?_
    refine kt_call_dict hs hd (by rw [r.length]; exact Nat.le_trans hsz (by decide)) fun h' hd' hs' => ?_
    refine ea1_2 (Heap.dictOf_iff.mp hd') fun o ho hd' => ?_
    have st' := st.keeps (h' := h') (fun b o' e => (hs'.2 b (fun q => by rw [q, size_fresh] at e; cases e)).trans (Heap.get?_push_of_some _ e)) s.toks
    exact Pst.here (st'.take (x := D.obj l) ho (st.freshF (size_fresh _)) (st.freshL (size_fresh _)) st.newSys (by rw [D.rep]; exact ⟨_, hd', r⟩)) (.ref _) (h _ (st.freshH (size_fresh _)))
theorem empty_dict {K : Type} [DecidableEq K] (D : DK C K) : Obj.IsDictOf D.knd { cls := .type "dict", data := .dict #[] } [] := by
  have hd : ((default : Heap).push { cls := .type "dict", data := .dict #[] }).DictOf D.knd (default : Heap).objs.size [] := Heap.DictOf.new _
  refine ea1_2 (Heap.dictOf_iff.mp hd) fun o ho hd => ?_
  rw [Heap.get?_push_size _ rfl] at ho
  cases ho; exact hd
/-- a display of one pair -/
theorem W_Dict1 {K : Type} [DecidableEq K] (D : DK C K) {k : K} {x : MV} {ke ve : Expr} {pos : Pos} {Q : MV → Hp → Lv → Prop} (h : WE C A env ke H lv fun y H lv => WE C A env ve H lv fun x' H lv => y = D.key k ∧ x' = x ∧ ∀ a, H a = Option.none → Q (.ref a) (H.put a (D.obj [(k, x)])) lv) : WE C A env (.Dict [some ke] [ve] pos) H lv Q := fun F s st => by
  refine wpAny_Dict_pairs (knd := D.knd) (pairs := [(eval ke env, do let x ← eval ve env; standAt pos; pure x)]) rfl (by simp) (by simp) ?_
  have hF := st.freshF (size_fresh s.heap)
  have hH := st.freshH (size_fresh s.heap)
  have hL := st.freshL (size_fresh s.heap)
  have hb := newIter_base st
  have nI : ¬ Imm { cls := .type "dict", data := .dict #[] } := okIter_imm (n := "dict") rfl (by decide)
  have st1 := put_fz st (o := { cls := .type "dict", data := .dict #[] }) rfl
  have le0 := Fz.le_put (F := F) { cls := .type "dict", data := .dict #[] } hF
  generalize hN : s.heap.objs.size = N at *
  refine evalPairs_cons (Pst.seq (h _ _ st1) fun kv s1 F1 H1 lv1 y k1 st2 r1 q1 => wpAny_bind (Pst.seq (q1 F1 s1 st2) fun vv s2 F2 H2 lv2 x' k2 st3 r2 q2 => wpAny_bind (wpAny_standAt (wpAny_pure (evalPairs_nil ?_)))))
  refine ea0_3 q2 fun qq0 qq1 q => ?_
  subst qq0 qq1
  (try clear q2)
  have r1 := r1.mono k2
  have k3 := k1.trans k2
  have hN2 := k3 _ _ (Fz.put_self ..)
  have le := le_del hF k3
  refine ⟨[(k, vv)], ⟨D.is _ k kv r1, rfl, trivial⟩, ?_, fun h' hd hs => ?_⟩
  · exact Heap.dictOf_iff.mpr ⟨_, st3.fz _ _ hN2, empty_dict D⟩
  · refine ea1_2 (Heap.dictOf_iff.mp hd) fun o ho hd => ?_
    have hH2 : H2 N = Option.none := by
      cases z : H2 N with
      | none => rfl
      | some x => have := (st3.own N x z).1; rw [hN2] at this; cases this
    have st4 := ((st3.melt hN2 nI hb).other (h' := h') (a := N) (fun b o' hb e => (hs.2 b hb).trans e) (if_pos rfl) hH2 hL (s2.toks + 1)).take (x := D.obj [(k, x')]) ho (if_pos rfl) hL (by rw [← hN]; exact st.newSys) (by rw [D.rep]; exact ⟨_, hd, .cons (r2.del hN2 nI) .nil⟩)
    exact ⟨_, _, lv2, .ref N, le, st4, .ref _, q N hH2⟩
/-- the lesser of two ints -/
theorem K_min {a b : Int} {Q : MV → Hp → Lv → Prop} (hh : A.handled = none) (h : Q (.int (min a b)) H lv) : OC C A L (.bi "min") [.int a, .int b] H lv Q := by
  intro F s g vs hg hv st
  cases hg
  cases hv with
  | cons h1 hl => cases hl with
    | cons h2 hl =>
      cases hl; cases h1; cases h2
      refine min_two_ints hh fun h' tk hk => Pst.here (st.keeps hk tk) ?_ h
      by_cases q : b < a
      · rw [if_pos q, Int.min_eq_right (by lia)]; exact .int _ _
      · rw [if_neg q, Int.min_eq_left (by lia)]; exact .int _ _
/-! ### slices -/
theorem W_SliceFrom {v lo : Expr} {p pos : Pos} {Q : MV → Hp → Lv → Prop} {a : Addr} {l : List MV} {k : Nat} (h : WE C A env v H lv fun x H lv => WE C A env lo H lv fun y H lv => x = .ref a ∧ y = .int k ∧ H a = some (.list l) ∧ k ≤ l.length ∧ l.length ≤ 100000 ∧ ∀ b, H b = Option.none → Q (.ref b) (H.put b (.list (l.drop k))) lv)
    (ht : ∀ o r, letTemporaryGo v o r = pure () := by intro _ _; rfl) : WE C A env (.Subscript v (.Slice (some lo) none none p) pos) H lv Q := fun F s st => by
  refine wpAny_Subscript_list_slice (Pst.seq (h F s st) fun u s1 F1 H1 lv1 x k1 st1 r1 q1 => Pst.seq (q1 F1 s1 st1) fun w s2 F2 H2 lv2 y k2 st2 r2 q2 => ?_) ht
  refine wpAny_pure ?_
  refine ea0_6 q2 fun qq0 qq1 e hk hsz q => ?_
  subst qq0 qq1
  (try clear q2)
  cases r1
  obtain ⟨tk, rfl⟩ : ∃ tk, w = .int (k : Int) tk := by cases r2; exact ⟨_, rfl⟩
  refine ea2_3 (st2.list e) fun vs n ho r hlen => ?_
  refine ⟨a, vs.toArray, some (k : Int), none, rfl, PySem.IsL.isList (n := n) ho, by rw [List.size_toArray, hlen]; exact Nat.le_trans hsz (by decide), .int _ _, .none, ?_⟩
  rw [slicePick_from vs.toArray k (by rw [List.size_toArray]; lia)]
  have st3 := st2.keeps (h' := s2.heap.push { cls := .type "slice", data := .fields #[.int (k : Int) tk, .none, .none] }) (fun b o' e => Heap.get?_push_of_some _ e) s2.toks
  have st4 := put_own (x := .list (l.drop k)) (o := { cls := .type "list", data := .seq (vs.drop k).toArray }) st3 rfl ⟨vs.drop k, 0, rfl, r.drop k⟩
  have hz : (s2.heap.push { cls := .type "slice", data := .fields #[.int (k : Int) tk, .none, .none] }).objs.size = s2.heap.objs.size + 1 := Heap.size_push ..
  simp only [hz] at st4
  refine ⟨F2, _, lv2, .ref (s2.heap.objs.size + 1), k1.trans k2, st4, .ref _, q _ ?_⟩
  have := st3.freshH (size_fresh _)
  simp only [hz] at this
  exact this
theorem slice_mkS (x : List Nat) (i j : Nat) : Txt.slice (mkS x) (some (i : Int)) (some (j : Int)) = mkS ((x.drop i).take (min j x.length - i)) := by
  unfold Txt.slice
  have e : Builtin.Str.strSliceIndices (some (i : Int)) (some (j : Int)) 1 (mkS x).length = sliceRange ((min i x.length : Nat) : Int) ((min j x.length : Nat) : Int) 1 := by
    unfold Builtin.Str.strSliceIndices
    rw [mkS_len]
    dsimp only
    congr 1
    · rw [if_neg (show ¬ ((i : Int) < 0) by lia), if_pos (show (1 : Int) > 0 by decide)]; lia
    · rw [if_neg (show ¬ ((j : Int) < 0) by lia), if_pos (show (1 : Int) > 0 by decide)]; lia
  rw [e, sliceRange_one, pick_run, mkS_len]
  have e2 : (List.drop (min i x.length) (mkS x).cps.toList).take (min j x.length - min i x.length) = (x.drop i).take (min j x.length - i) := by
    show (List.drop (min i x.length) x).take _ = _
    rcases Nat.le_total i x.length with h | h
    · rw [Nat.min_eq_left h]
    · rw [Nat.min_eq_right h, List.drop_eq_nil_of_le h, List.drop_eq_nil_of_le (Nat.le_refl _)]; simp
  rw [e2]
  split
  · rename_i hc
    simp only [beq_self_eq_true, Bool.true_and, List.length_map, List.length_range, beq_iff_eq] at hc
    congr 1
    rcases Nat.eq_zero_or_pos x.length with h | h
    · rw [List.eq_nil_of_length_eq_zero h]; simp
    · have h1 : min i x.length = 0 := by lia
      have h2 : i = 0 := by lia
      have h3 : min j x.length = x.length := by lia
      rw [h2, h3]; simp
  · rfl
theorem W_SliceS {v lo hi : Expr} {p pos : Pos} {Q : MV → Hp → Lv → Prop} {x : List Nat} {i j : Nat} (h : WE C A env v H lv fun x' H lv => WE C A env lo H lv fun y H lv => WE C A env hi H lv fun z H lv => x' = .str (mkS x) ∧ y = .int i ∧ z = .int j ∧ x.length ≤ 100000 ∧ Q (.str (mkS ((x.drop i).take (min j x.length - i)))) H lv)
    (ht : ∀ o r, letTemporaryGo v o r = pure () := by intro _ _; rfl) : WE C A env (.Subscript v (.Slice (some lo) (some hi) none p) pos) H lv Q := fun F s st => by
  refine wpAny_Subscript_Slice (T := "str") PySem.F.slot_str_getitem.lookup (Pst.seq (h F s st) fun u s1 F1 H1 lv1 x' k1 st1 r1 q1 => wpAny_Slice (Pst.seq (q1 F1 s1 st1) fun w s2 F2 H2 lv2 y k2 st2 r2 q2 => Pst.seq (q2 F2 s2 st2) fun w' s3 F3 H3 lv3 z k3 st3 r3 q3 => ?_)) ht
  refine ea0_5 q3 fun qq0 qq1 qq2 hsz q => ?_
  subst qq0 qq1 qq2
  (try clear q3)
  obtain ⟨t0, rfl⟩ : ∃ tk, u = .str (mkS x) tk := by cases r1; exact ⟨_, rfl⟩
  obtain ⟨t1, rfl⟩ : ∃ tk, w = .int (i : Int) tk := by cases r2; exact ⟨_, rfl⟩
  obtain ⟨t2, rfl⟩ : ∃ tk, w' = .int (j : Int) tk := by cases r3; exact ⟨_, rfl⟩
  refine wpAny_pure ⟨typeIs_str _ _ _, ?_⟩
  have := SBH.sliceItem_ss (prog := Pg) (w := C.w) (A := A) (E := NoE) (s := s3) (x := mkS x) (Q := Pst C env.locals VRep F Q) (P := fun h => ∀ b o, s3.heap.get? b = some o → h.get? b = some o) (i := (i : Int)) (j := (j : Int)) (t := t0) (ui := t1) (uj := t2) (fun h ob k b o e => Heap.get?_push_of_some _ (k b o e)) (fun b o e => e)
    (fun h' t' tk hk => by
      rw [slice_mkS]
      exact ⟨F3, H3, lv3, _, k1.trans (k2.trans k3), st3.keeps hk tk, .str _ _, q⟩) (by rw [mkS_len]; exact Nat.le_trans hsz (by decide))
  refine ea2_3 this fun T id hl hT hg => ?_
  (try clear this)
  exact hg
end
end Mine
end
section
open PySem PySem.W PyProof.Rows PySem.Calls PySem.Spec
open PySem.AutoSeq1 (wpAny_loadPart')
open PySem.MeetsSeq PySem.MeetsSeq2 PySem.MeetsSeq3
set_option Elab.async false
set_option maxRecDepth 100000
set_option linter.unusedVariables false
set_option linter.unusedSectionVars false
namespace Mine
/-! ### the comparing of lists, in one model -/
noncomputable def EqT (prog : Program) (w : World) (A : Around) (s : Shared) (y x : Value) : Prop :=
  ∀ (E : Value → Shared → Prop) (Q : Bool → Shared → Prop), Q true s → wpAny (model prog w) A (eqBool y x) Q E s
section
variable {prog : Program} {w : World}
theorem ne_loopT (l b : Addr) (items items2 : Array Value) (n n2 : Nat) (dd dd2 : Option Addr) (sl sl2 : Array (Option Value)) (hsz : items.size = items2.size) (k : Nat) :
    ∀ i : Nat, items.size - i = k → MeetsIn prog w (Builtin.«list.__eq__.loop» ⟨[.ref l, .ref b, rawInt i, rawInt 3], []⟩)
      (fun A R s => s.heap.get? l = some { cls := .type "list", dict := dd, data := .seq items n, slots := sl } ∧ s.heap.get? b = some { cls := .type "list", dict := dd2, data := .seq items2 n2, slots := sl2 } ∧
        (∀ j (h1 : j < items.size) (h2 : j < items2.size), EqT prog w A.in1 s items[j] items2[j]) ∧ R (.ok (.ret (.bool false))) s) := by
  induction k with
  | zero =>
    intro i hk A R s h
    obtain ⟨hp, g, d, tk, os⟩ := s; obtain ⟨hl, hb, he, h⟩ := h
    wp_walk using wpAny_loadPart' hl, wpAny_loadPart' hb
    have hi1 : items[((i : Nat) : Int).toNat]? = none := by simp; lia
    have hi2 : items2[((i : Nat) : Int).toNat]? = none := by simp; lia
    rw [hi1, hi2]
    wp_walk using wpAny_loadPart' hl, wpAny_loadPart' hb
    show R (.ok (.ret (.bool (items.size != items2.size)))) _
    rw [hsz]
    simpa using h
  | succ k ih =>
    intro i hk A R s h
    obtain ⟨hp, g, d, tk, os⟩ := s; obtain ⟨hl, hb, he, h⟩ := h
    wp_walk using wpAny_loadPart' hl, wpAny_loadPart' hb
    have hlt : i < items.size := by lia
    have hlt2 : i < items2.size := by lia
    have hi1 : items[((i : Nat) : Int).toNat]? = some items[i] := by simp [hlt]
    have hi2 : items2[((i : Nat) : Int).toNat]? = some items2[i] := by simp [hlt2]
    have hc : ((i : Int) + 1) = ((i + 1 : Nat) : Int) := by push_cast; rfl
    rw [hi1, hi2]
    refine wpAny_bind (he i hlt hlt2 _ _ ?_)
    wp_walk
    rw [hc]
    exact ⟨plainId_quiet plain_eq_loop _, codeAny_builtin entry_eq_loop (by
        rw [Around.under_plainId plain_eq_loop _]
        exact ih (i + 1) (by lia) A R _ ⟨hl, hb, he, h⟩)⟩
theorem list_neT (l b : Addr) (items items2 : Array Value) (n n2 : Nat) (dd dd2 : Option Addr) (sl sl2 : Array (Option Value)) (hsz : items.size = items2.size) :
    MeetsIn prog w (Builtin.«list.__ne__» ⟨[.ref l, .ref b], []⟩)
      (fun A R s => s.heap.get? l = some { cls := .type "list", dict := dd, data := .seq items n, slots := sl } ∧ s.heap.get? b = some { cls := .type "list", dict := dd2, data := .seq items2 n2, slots := sl2 } ∧
        (∀ j (h1 : j < items.size) (h2 : j < items2.size), EqT prog w A.in1 s items[j] items2[j]) ∧ R (.ok (.ret (.bool false))) s) := by
  intro A R s h
  obtain ⟨hp, g, d, tk, os⟩ := s; obtain ⟨hl, hb, he, h⟩ := h
  have f3 := AutoSeq1.sub_list_list
  have hne : ¬ (items.size != items2.size) = true := by simp [hsz]
  wp_walk using wpAny_loadPart' hl, wpAny_loadPart' hb
  exact ⟨plainId_quiet plain_eq_loop _, codeAny_builtin entry_eq_loop (by
    rw [Around.under_plainId plain_eq_loop _]
    exact ne_loopT l b items items2 n n2 dd dd2 sl sl2 hsz _ 0 rfl A R _ ⟨hl, hb, he, h⟩)⟩
end
section
variable {C : Cx} {A : Around} {H : Hp} {lv : Lv} {L : Addr} {env : Env} {Q : MV → Hp → Lv → Prop}
theorem C_eqNil {a b : Addr} {l : List MV} (hu : A.units < cLine) (e : H a = some (.list l)) (e' : H b = some (.list [])) (h : Q (.bool l.isEmpty) H lv) : O2 C A L VRep (compareOp .Eq) (.ref a) (.ref b) H lv Q := by
  intro F s u v hu' hv st
  cases hv; cases hu'
  refine ea2_3 (st.list e) fun vs n ho r hlen => ?_
  refine ea2_3 (st.list e') fun vs' n' ho' r' hlen' => ?_
  cases r'
  cases r with
  | nil => exact SeqAt.eq_listAt (e := fun _ => true) (PySem.IsL.isList (n := n) ho) (PySem.IsL.isList (n := n') ho') rfl hu (fun j h1 => (nomatch h1)) (Pst.here st (.bool _) h)
  | cons h1 hl => exact SeqAt.eq_list_lengthsAt (PySem.IsL.isList (n := n) ho) (PySem.IsL.isList (n := n') ho') (by simp) hu (Pst.here st (.bool _) h)
theorem C_neNil {a b : Addr} {l : List MV} (hu : A.units < cLine) (e : H a = some (.list l)) (e' : H b = some (.list [])) (h : Q (.bool (!l.isEmpty)) H lv) : O2 C A L VRep (compareOp .NotEq) (.ref a) (.ref b) H lv Q := by
  intro F s u v hu' hv st
  cases hv; cases hu'
  refine ea2_3 (st.list e) fun vs n ho r hlen => ?_
  refine ea2_3 (st.list e') fun vs' n' ho' r' hlen' => ?_
  cases r'
  cases r with
  | nil => exact SeqAt.RcNeAt.lists (e := fun _ => true) (PySem.IsL.isList (n := n) ho) (PySem.IsL.isList (n := n') ho') rfl hu (fun j h1 => (nomatch h1)) _ _ _ _ (Pst.here st (.bool _) h)
  | cons h1 hl => exact SeqAt.RcNeAt.lists_lengths (PySem.IsL.isList (n := n) ho) (PySem.IsL.isList (n := n') ho') (by simp) hu _ _ _ _ (Pst.here st (.bool _) h)
/-- dicts of ints -/
noncomputable def iVals {K : Type} (l : List (K × Int)) : List (K × MV) := l.map fun p => (p.1, .int p.2)
noncomputable def dEq {K : Type} [DecidableEq K] (a b : List (K × Int)) : Bool := a.length == b.length && a.all fun p => decide ((b.find? fun q => q.1 = p.1).map (·.2) = some p.2)
theorem dget_iVals {K : Type} [DecidableEq K] (l : List (K × Int)) (k : K) : dget (iVals l) k = ((l.find? fun q => q.1 = k).map (·.2)).map MV.int := by
  unfold dget iVals
  induction l with
  | nil => rfl
  | cons p l ih =>
    simp only [List.map_cons, List.find?_cons]
    by_cases q : p.1 = k
    · simp [q]
    · simp only [q, decide_false]; exact ih
theorem some_dec (i j : Int) : decide (some j = some i) = (i == j) := by
  rw [Bool.eq_iff_iff, decide_eq_true_iff, beq_iff_eq]
  exact ⟨fun e => (Option.some.inj e).symm, fun e => e ▸ rfl⟩
theorem hits_of {K : Type} [DecidableEq K] {A : Around} {s : Shared} {F : Fz} {b : List (K × Int)} {kb : List (K × Value)} (rb : KV F (iVals b) kb) (a : List (K × Int)) : ∀ (ka : List (K × Value)), KV F (iVals a) ka →
    KeqHits A s kb ka (a.all fun p => decide ((b.find? fun q => q.1 = p.1).map (·.2) = some p.2)) := by
  induction a with
  | nil => intro ka h; cases h; exact .nil
  | cons p a ih =>
    obtain ⟨k, i⟩ := p
    intro ka h
    cases h with
    | cons hv hl =>
      cases hv with
      | int _ t =>
      have q := rb.get k
      rw [dget_iVals] at q
      rw [List.all_cons]
      generalize hk : valueAt kb k = y at q
      generalize hz : (b.find? fun q => decide (q.1 = k)).map (·.2) = z at q
      dsimp only
      cases z with
      | none =>
        cases q
        exact .miss hk
      | some j =>
        cases q with
        | some hy =>
          cases hy with
          | int _ u =>
          refine .hit hk ?_ (ih _ hl)
          rw [some_dec]
          exact SeqAt.EqAt.int_int i t j u
theorem C_eqD {K : Type} [DecidableEq K] (D : DK C K) {a b : Addr} {l l' : List (K × Int)} (hu : A.units < cLine) (e : H a = some (D.obj (iVals l))) (e' : H b = some (D.obj (iVals l'))) (h : Q (.bool (dEq l l')) H lv) : O2 C A L VRep (compareOp .Eq) (.ref a) (.ref b) H lv Q := by
  intro F s u v hu' hv st
  cases hv; cases hu'
  refine ea1_3 (st.dict D e) fun ka hd r hs => ?_
  refine ea1_3 (st.dict D e') fun kb hd' r' hs' => ?_
  refine keq_eq hs hs' hd hd' hu (fun _ => hits_of r' _ _ r) ?_
  rw [r.length, r'.length]
  simp only [iVals, List.length_map]
  exact Pst.here st (.bool _) h
/-- lists of dicts, all alike -/
theorem C_neLD {K : Type} [DecidableEq K] (D : DK C K) {a b : Addr} {as bs : List Addr} {L1 L2 : List (List (K × Int))} (hu : A.units + 3 < cLine) (e : H a = some (.list (as.map .ref))) (e' : H b = some (.list (bs.map .ref))) (ha : as.length = L1.length) (hb : bs.length = L2.length) (hab : L1.length = L2.length)
    (da : ∀ i x, as[i]? = some x → H x = some (D.obj (iVals (L1.getD i [])))) (db : ∀ i x, bs[i]? = some x → H x = some (D.obj (iVals (L2.getD i []))))
    (hd : ∀ i, i < L1.length → dEq (L1.getD i []) (L2.getD i []) = true) (h : Q (.bool false) H lv) : O2 C A L VRep (compareOp .NotEq) (.ref a) (.ref b) H lv Q := by
  intro F s u v hu' hv st
  cases hv; cases hu'
  refine ea2_3 (st.list e) fun vs n ho r hlen => ?_
  refine ea2_3 (st.list e') fun vs' n' ho' r' hlen' => ?_
  rw [List.length_map] at hlen hlen'
  refine wpAny_richCompare_same_room (op := .NotEq) ⟨_, ho, rfl⟩ ⟨_, ho', rfl⟩ PySem.F.slot_list_ne (call_meetsIn PySem.F.slot_list_ne ⟨_, ho, rfl⟩ PySem.F.entry_list_ne (PySem.F.args_list_ne_2 _ _) (list_neT a b vs.toArray vs'.toArray n n' none none #[] #[] (by simp only [List.size_toArray]; lia)) ⟨ho, ho', fun j h1 h2 => ?_, ?_⟩) (by lia)
  · simp only [List.size_toArray] at h1 h2
    have hj : j < as.length := by lia
    have hj' : j < bs.length := by lia
    refine ea1_2 (r.get (i := j) (x := .ref as[j]) (by simp [hj])) fun x hx rx => ?_
    refine ea1_2 (r'.get (i := j) (x := .ref bs[j]) (by simp [hj'])) fun y hy ry => ?_
    cases rx; cases ry
    have h3 : vs.toArray[j] = .ref as[j] := by simp only [List.getElem_toArray]; exact (List.getElem?_eq_some_iff.mp hx).2
    have h4 : vs'.toArray[j] = .ref bs[j] := by simp only [List.getElem_toArray]; exact (List.getElem?_eq_some_iff.mp hy).2
    rw [h3, h4]
    intro E Q' hq
    by_cases hs : as[j] = bs[j]
    · rw [hs]; exact SeqAt.EqAt.same _ _ _ _ _ hq
    · refine ea1_3 (st.dict D (da j as[j] (by simp [hj]))) fun ka hda ra sa => ?_
      refine ea1_3 (st.dict D (db j bs[j] (by simp [hj']))) fun kb hdb rb sb => ?_
      unfold eqBool
      refine wpAny_holding ?_
      refine wpAny_ite_split (fun hab => absurd (by have := eq_of_beq hab; injection this) hs) (fun _ => ?_)
      refine wpAny_bind (keq_eq sa sb hda hdb (by show A.units + 1 < cLine; lia) (fun _ => hits_of rb _ _ ra) ?_)
      have := hd j (by lia)
      unfold dEq at this
      rw [ra.length, rb.length]
      simp only [iVals, List.length_map]
      rw [this]
      exact wpAny_truthy_bool hq
  · exact ⟨(fun x => nomatch x), Pst.here st (.bool _) h⟩
end
end Mine
end
section
open PySem PySem.W PyProof.Rows PySem.Calls PySem.Spec
open Builtin Builtin.ObjectAttr
set_option Elab.async false
set_option maxRecDepth 100000
set_option linter.unusedVariables false
set_option linter.unusedSectionVars false
namespace Mine
/-! ### instances of the lexer's class -/
noncomputable abbrev nsObj (es : Array DictEntry) (n : Nat) : Obj := { cls := .type "dict", data := .dict es n }
theorem strKeys_noRef {es : Array DictEntry} (hk : StrKeys es) : es.any (·.refKey) = false := by
  rw [Array.any_eq_false']; intro e he; obtain ⟨n, t, h⟩ := hk e he; simp [DictEntry.refKey, h]
theorem lookIn_ns {es : Array DictEntry} {n : Nat} (hk : StrKeys es) (name : Str) : lookIn name (nsObj es n) = some (nsFind es name) := by
  unfold lookIn nsFind findBy
  dsimp only
  rw [← Array.find?_toList]
  cases h : List.find? (fun x => x.key.isStr name) es.toList with
  | some e => rfl
  | none =>
    have := strKeys_noRef hk
    rw [← Array.any_toList] at this
    rw [this]; rfl
theorem putName_ns {es : Array DictEntry} {n : Nat} (hk : StrKeys es) (name : Str) (hsh : Int) (t : Tok) (v : Value) : ∃ es' n', Obj.putName name hsh (.str name t) v (nsObj es n) = nsObj es' n' ∧ StrKeys es' ∧ (es'.size ≤ es.size + 1 ∧ (nsFind es name ≠ none → es'.size ≤ es.size)) ∧ ∀ x, nsFind es' x = if x = name then some v else nsFind es x := by
  cases hi : es.findIdx? (·.key.isStr name) with
  | some i =>
    refine ⟨_, n, by simp only [Obj.putName_eq, Obj.putNameByArray, hi], hk.modify i v, ⟨by simp, fun _ => by simp⟩, fun x => ?_⟩
    exact findBy_modify (fun n v => v.isStr n) Value.isStr_inj es name x v i hi
  | none =>
    refine ⟨_, n + 1, by simp only [Obj.putName_eq, Obj.putNameByArray, hi]; rfl, hk.push _ _ _ _, ⟨by simp, fun h => absurd ?_ h⟩, fun x => ?_⟩
    · unfold nsFind findBy
      have : es.find? (fun e => e.key.isStr name) = none := by
        rw [Array.find?_eq_none]; intro e he
        rw [Array.findIdx?_eq_none_iff] at hi
        simp [hi e he]
      rw [this]; rfl
    · exact findBy_push (fun n v => v.isStr n) es name x _ _ v (fun y => by
        show (name == y) = decide (y = name)
        by_cases h : y = name
        · subst h; simp
        · have : ¬ name = y := fun e => h e.symm
          simp [h, this]) hi
section
variable {prog : Program} {w : World} {A : Around} {s : Shared} {K : Frag} {x D dx : Addr} {R : Result → Shared → Prop}
theorem osa_ns {es : Array DictEntry} {n : Nat} {ox : Obj} {name : Str} {tk : Tok} {v : Value} (X : K.In s.heap) (I : InstAt s.heap x ox D (some (nsObj es n))) (hd : ox.dict = some dx) (hp : plainOver K D = true) (ht : takerIn K D name = some none) (hh : hasDictIn K D = true)
    (hk : StrKeys es) (hz : es.size ≤ 1000)
    (h : ∀ h' es' n', Heap.SameBut dx s.heap h' → h'.get? dx = some (nsObj es' n') → StrKeys es' → (es'.size ≤ es.size + 1 ∧ (nsFind es name ≠ none → es'.size ≤ es.size)) → (∀ x, nsFind es' x = if x = name then some v else nsFind es x) → R (.ok (.ret .none)) { s with heap := h', toks := s.toks + 1 }) :
    codeAny (model prog w) A (.call (.builtin "object.__setattr__") ⟨[.ref x, .str name tk, v], []⟩) R s := by
  refine osa_open X I hp ht fun b => ?_
  refine ea1_2 (any_some hh) fun cd hc hd' => ?_
  refine ea2_4 (putName_ns (n := n) hk name (PyData.keyHash w.params name) s.toks v) fun es' n' e k1 k2 k3 => ?_
  obtain ⟨hx, hcl, hn, Dd⟩ := I
  obtain ⟨oc, odi, oda, osl⟩ := ox
  dsimp only at hcl hd Dd
  subst hcl hd
  dsimp only at Dd
  have Dn := Heap.get?_update_self (Obj.putName name (PyData.keyHash w.params name) (.str name s.toks) v) Dd (by rw [e]; rfl)
  rw [e] at Dn
  refine wpAny_bind (wpAny_pure (wpAny_bind (wpAny_bind (wpAny_loadPart hx (wpAny_bind ((looks_clsIn X hc).here ?_))))))
  rw [hd']
  refine wpAny_pure (a := some dx) (wpAny_bind (wpAny_pure (wpAny_bind ?_)))
  unfold nsSet
  refine wpAny_bind (wpAny_bind (wpAny_askSetting (wpAny_pure (wpAny_bind (wpAny_mkText (wpAny_bind (wpAny_loadPart Dd ?_)))))))
  dsimp only
  rw [aRefKeyMayBeTheName_at, strKeys_noRef hk, Bool.and_false]
  refine wpAny_updatePart Dd ?_
  refine wpAny_bind (wpAny_lookBehind Dn (by exact pastItsLine_dict (by rw [sizeLine_eq]; lia)) ?_)
  exact wpAny_pure (h _ es' n' (Heap.SameBut.update ..) Dn k1 k2 k3)
end
section
variable {C : Cx} {A : Around} {H : Hp} {lv : Lv} {L : Addr} {env : Env}
/-- x is an instance with the names m -/
structure Ins (H : Hp) (x dx : Addr) (k : Nat) (m : Str → Option MV) : Prop where
  obj : H x = some (.raw (instObj 52 dx))
  dict : H dx = some (.ns k m)
theorem St.ins (O : C.Ok) {F : Fz} {s : Shared} {x dx : Addr} {k : Nat} {m : Str → Option MV} (st : St C F H L lv s) (I : Ins H x dx k m) :
    ∃ (es : Array DictEntry) (n : Nat) (m' : Str → Option Value), InstAt s.heap x (instObj 52 dx) 52 (some (nsObj es n)) ∧ (StrKeys es ∧ es.size ≤ k) ∧ (∀ y, nsFind es y = m' y) ∧ (∀ y, OV F (m y) (m' y)) := by
  obtain ⟨_, _, o, ho, rfl⟩ := st.own _ _ I.obj
  obtain ⟨_, _, o', ho', es, n, rfl, hk, m', hf, hr⟩ := st.own _ _ I.dict
  exact ⟨es, n, m', ⟨ho, rfl, rfl, ho'⟩, hk, hf, hr⟩
noncomputable def flatV : MV → Bool
  | .int _ | .str _ | .none | .bool _ | .ref _ => true
  | _ => false
theorem flat_handed {F : Fz} {x : MV} {v : Value} (h : VRep F x v) (hf : flatV x = true) : handedIn v = true := by cases h <;> first | rfl | cases hf
noncomputable def OG (C : Cx) (A : Around) (L : Addr) (name : Str) (x : MV) (H : Hp) (lv : Lv) (Q : MV → Hp → Lv → Prop) : Prop := ∀ b, O1 C A L VRep (fun v => getAttr v name b) x H lv Q
noncomputable abbrev kOG (C : Cx) (A : Around) (L : Addr) (name : Str) (Q : MV → Hp → Lv → Prop) (x : MV) (H : Hp) (lv : Lv) : Prop := OG C A L name x H lv Q
theorem W_Attr {v : Expr} {name : Str} {pos : Pos} {Q : MV → Hp → Lv → Prop} (h : WE C A env v H lv (kOG C A env.locals name Q))
    (he : eval (.Attribute v name pos) env = (do
      let o ← eval v env
      standAt pos.atName
      let r ← holding [o] (getAttr o name true)
      letTemporaryGo v o r
      pure r) := by with_unfolding_all rfl) (ht : ∀ o r, letTemporaryGo v o r = pure () := by intro _ _; rfl) : WE C A env (.Attribute v name pos) H lv Q := fun F s st => by
  show wpAny _ _ (eval _ _) _ _ _
  rw [he]
  refine wpAny_bind (Pst.seq (h F s st) fun a s1 F1 H1 lv1 x k1 st1 r1 q1 => wpAny_bind (wpAny_standAt (wpAny_bind (wpAny_holding (wpAny_mono (q1 true F1 s1 a r1 st1) (fun r s2 p => ?_) fun _ _ e => e)))))
  rw [ht]
  exact wpAny_bind (wpAny_pure (wpAny_pure (p.le k1)))
theorem OG_own (O : C.Ok) {x dx : Addr} {k : Nat} {m : Str → Option MV} {name : Str} {y : MV} {Q : MV → Hp → Lv → Prop} (I : Ins H x dx k m) (hy : m name = some y) (hf : flatV y = true) (ha : findIn C.K (.ref 52) name = some none) (h : Q y H lv) : OG C A L name (.ref x) H lv Q := by
  intro b F s v hv st
  cases hv
  refine ea3_4 (st.ins O I) fun es n m' Ia hk hm hr => ?_
  have hn := hr name
  rw [hy] at hn
  generalize hz : m' name = z at hn
  cases hn with
  | some r =>
    refine get_value (O.X.keeps st.keepsB) Ia rfl (findObj_own rfl ha rfl (by rw [lookIn_ns hk.1, hm, hz])) (flat_handed r hf) ?_
    exact Pst.here (st.tok _) r h
theorem OM_cls (O : C.Ok) {x dx f : Addr} {k : Nat} {m : Str → Option MV} {name : Str} {Q : MV × List MV → Hp → Lv → Prop} (I : Ins H x dx k m) (hy : m name = none) (ha : findIn C.K (.ref 52) name = some (some (.ref f))) (hf : typeIn C.K (.ref f) = some (.type "function")) (h : Q (.ref f, [.ref x]) H lv) : OM C A L name (.ref x) H lv Q := by
  intro F s v pl hv st
  cases hv
  refine ea3_4 (st.ins O I) fun es n m' Ia hk hm hr => ?_
  have hn := hr name
  rw [hy] at hn
  generalize hz : m' name = z at hn
  cases hn
  refine method_fn (O.X.keeps st.keepsB) Ia rfl rfl ha hf (by show (lookIn name (nsObj es n)).map _ = _; rw [lookIn_ns hk.1, hm, hz]; rfl) ?_
  exact Pst.here st ⟨.ref _, .cons (.ref _) .nil⟩ h
theorem OM_own (O : C.Ok) {x dx : Addr} {k : Nat} {m : Str → Option MV} {name : Str} {y : MV} {Q : MV × List MV → Hp → Lv → Prop} (I : Ins H x dx k m) (hy : m name = some y) (hf : flatV y = true) (ha : findIn C.K (.ref 52) name = some none) (h : Q (y, []) H lv) : OM C A L name (.ref x) H lv Q := by
  intro F s v pl hv st
  have hg := OG_own (Q := fun y H lv => Q (y, []) H lv) O I hy hf ha h (A := A) (L := L) (lv := lv) false F s v hv st
  cases hv
  refine ea3_4 (st.ins O I) fun es n m' Ia hk hm hr => ?_
  refine method_usual (O.X.keeps st.keepsB) Ia rfl rfl ha rfl (Pst.seq hg fun u s1 F1 H1 lv1 z k1 st1 r1 q1 => ⟨F1, H1, lv1, (z, []), k1, st1, ⟨r1, .nil⟩, q1⟩)
theorem OG_bound (O : C.Ok) {x dx f : Addr} {k : Nat} {m : Str → Option MV} {name : Str} {Q : MV → Hp → Lv → Prop} (I : Ins H x dx k m) (hy : m name = none) (ha : findIn C.K (.ref 52) name = some (some (.ref f))) (hf : isFn C.K (.ref f) = true)
    (hgf : specialIn C.K (.ref f) "__get__" = some (some (.builtin "function.__get__"))) (ht : takesIn C.K (.ref f) = some false) (hc : copiedNames.contains name = false) (h : ∀ q, H q = none → Q (.ref q) (H.put q (.raw (methodObj (.ref f) (.ref x)))) lv) : OG C A L name (.ref x) H lv Q := by
  intro b F s v hv st
  cases hv
  refine ea3_4 (st.ins O I) fun es n m' Ia hk hm hr => ?_
  have hn := hr name
  rw [hy] at hn
  generalize hz : m' name = z at hn
  cases hn
  have X := O.X.keeps st.keepsB
  refine get_bind X Ia rfl (findObj_fn rfl ha hgf ht hc (by rw [lookIn_ns hk.1, hm, hz])) rfl (wpAny_call (fn_get (s := { s with toks := s.toks + 1 }) X (beq_iff_eq.mp hf) (handed_on rfl ?_)))
  exact Pst.here ((put_own (x := .raw (methodObj (.ref f) (.ref x))) st rfl rfl).tok _) (.ref _) (h _ (st.freshH (size_fresh _)))
/-- store an attribute -/
noncomputable def nsPut (m : Str → Option MV) (name : Str) (y : MV) : Str → Option MV := fun z => if z = name then some y else m z
noncomputable def nsK (m : Str → Option MV) (name : Str) (k : Nat) : Nat := if (m name).isSome then k else k + 1
theorem set_attr (O : C.Ok) {x dx : Addr} {k : Nat} {m : Str → Option MV} {name : Str} {y : MV} {Q : Unit → Hp → Lv → Prop} {F : Fz} {s : Shared} {v : Value} (I : Ins H x dx k m) (hk : k ≤ 900) (ht : takerIn C.K 52 name = some none) (r : VRep F y v) (st : St C F H L lv s) (h : Q () (H.put dx (.ns (nsK m name k) (nsPut m name y))) lv) :
    wpAny C.M A (setAttr (.ref x) name v) (Pst C L UR F Q) NoE s := by
  refine ea3_4 (st.ins O I) fun es n m' Ia hs hm hr => ?_
  have X := O.X.keeps st.keepsB
  refine set_plain X Ia rfl (osa_ns (s := { s with toks := s.toks + 1 }) X Ia rfl rfl ht rfl hs.1 (by lia) fun h' es' n' sb hg k1 k2 k3 => ?_)
  refine Pst.here (x := ()) (st.turn (x' := .ns (nsK m name k) (nsPut m name y)) I.dict sb hg ⟨es', n', rfl, ⟨k1, ?_⟩, _, k3, fun z => ?_⟩ _) trivial h
  · unfold nsK
    have := hr name
    have h5 := hs.2
    split
    · rename_i hz
      rw [← hm] at this
      have : nsFind es name ≠ none := by
        intro q; rw [q] at this
        generalize m name = zz at this hz
        cases this; cases hz
      exact Nat.le_trans (k2.2 this) hs.2
    · lia
  · unfold nsPut
    by_cases q : z = name
    · simp only [q, if_true]; exact .some r
    · simp only [if_neg q]; rw [hm]; exact hr z
theorem S_SetAttr (O : C.Ok) {o e : Expr} {name : Str} {tpos pos : Pos} {Q : MFl → Hp → Lv → Prop} (h : WE C A env e H lv fun y H lv => WE C A env o H lv fun z H lv => ∃ x dx k m, z = .ref x ∧ Ins H x dx k m ∧ k ≤ 900 ∧ takerIn C.K 52 name = some none ∧ Q .next (H.put dx (.ns (nsK m name k) (nsPut m name y))) lv)
    (hs : swapsWith e (some (.Attribute o name tpos)) pos.line env = pure false := by rfl) : WS C A env (.Assign [.Attribute o name tpos] e pos) H lv Q := fun F s st =>
  plainObj_wpAny_Assign_Attribute (Pst.seq (h F s st) fun v s1 F1 H1 lv1 y k1 st1 r1 q1 => Pst.seq (q1 F1 s1 st1) fun w s2 F2 H2 lv2 z k2 st2 r2 q2 => by
    refine ea4_5 q2 fun x dx k m qq4 I hk ht q => ?_
    subst qq4
    (try clear q2)
    cases r2
    exact Pst.seq (set_attr (Q := fun _ H lv => Q .next H lv) O I hk ht (r1.mono k2) st2 q) fun u s3 F3 H3 lv3 _ k3 st3 _ q3 => ⟨F3, H3, lv3, .next, k1.trans (k2.trans k3), st3, .next, q3⟩) hs
theorem S_AugAttr (O : C.Ok) {o e : Expr} {name : Str} {tpos pos : Pos} {op : Operator} {Q : MFl → Hp → Lv → Prop} (h : WE C A env o H lv fun z H lv => OG C A env.locals name z H lv fun u H lv => WE C A env e H lv fun v H lv => O2 C A env.locals VRep (inplaceOp op) u v H lv fun y H lv => ∃ x dx k m, z = .ref x ∧ Ins H x dx k m ∧ k ≤ 900 ∧ takerIn C.K 52 name = some none ∧ Q .next (H.put dx (.ns (nsK m name k) (nsPut m name y))) lv) :
    WS C A env (.AugAssign (.Attribute o name tpos) op e pos) H lv Q := fun F s st =>
  wpAny_AugAssign_AttributeAny (Pst.seq (h F s st) fun a s1 F1 H1 lv1 z k1 st1 r1 q1 => Pst.seq (q1 true F1 s1 a r1 st1) fun b s2 F2 H2 lv2 u k2 st2 r2 q2 => Pst.seq (q2 F2 s2 st2) fun c s3 F3 H3 lv3 v k3 st3 r3 q3 =>
    Pst.seq (q3 F3 s3 b c (r2.mono k3) r3 st3) fun d s4 F4 H4 lv4 y k4 st4 r4 q4 => by
      refine ea4_5 q4 fun x dx k m qq4 I hk ht q => ?_
      subst qq4
      (try clear q4)
      cases r1
      exact Pst.seq (set_attr (Q := fun _ H lv => Q .next H lv) O I hk ht r4 st4 q) fun u s5 F5 H5 lv5 _ k5 st5 _ q5 => ⟨F5, H5, lv5, .next, k1.trans (k2.trans (k3.trans (k4.trans k5))), st5, .next, q5⟩)
end
end Mine
end
section
open PySem PySem.W PyProof.Rows PySem.Calls PySem.Spec
set_option Elab.async false
set_option maxRecDepth 100000
set_option linter.unusedVariables false
set_option linter.unusedSectionVars false
namespace Mine
section
variable {C : Cx} {A : Around} {H : Hp} {lv : Lv} {L : Addr} {env : Env}
/-- a contract, of the call as code -/
noncomputable def FnC (C : Cx) (f : Addr) (n : Nat) (args : List MV) (H : Hp) (Q : MV → Hp → Prop) : Prop :=
  ∀ A L lv, Room n A → ∀ F s vs, VRepL F args vs → St C F H L lv s → codeAny C.M A (.call (.ref f) ⟨vs, []⟩) (wants (Pst C L VRep F fun v H' lv' => lv' = lv ∧ Q v H') NoE) s
theorem FnC.fn {f : Addr} {n : Nat} {args : List MV} {Q : MV → Hp → Prop} (h : FnC C f n args H Q) : Fn C f n args H Q := by
  intro A L lv R F s g vs hg hv st
  cases hg
  exact wpAny_call (h A L lv R F s vs hv st)
theorem FnC_def (O : C.Ok) {f : Addr} {n : Nat} {args : List MV} {Q : MV → Hp → Prop} {name qual : Str} {params : Arguments} {body : List Stmt} {scope : Scope} {dV kV doc pm cdv ct oc : Value} {an od : Option Addr} {osl : Array (Option Value)} (ns : List Str)
    (ho : C.K.lookup f = some ⟨oc, od, .func (fnOf name qual params body scope dV kV doc pm an cdv ct), osl⟩) (hcd : codeIn C.K cdv qual = true)
    (hbind : ∀ vs : List Value, vs.length = args.length → bindArgs (fnOf name qual params body scope dV kV doc pm an cdv ct) ⟨vs, []⟩ = pure (ns.zip vs))
    (hlen : ns.length = args.length) (hnd : ns.Nodup) (hloc : ∀ x ∈ ns, scope.names.lookup x = some .local) (hcell : ∀ x ∈ scope.names, x.2 ≠ .cell)
    (h : ∀ A L, Room n A → WX C A (envX qual scope L f cdv []) body H (lvOf ns args) fun fl H' _ => Q fl.out H')
    (hco : scope.isCoroutine = false) (hgen : scope.isGenerator = false) (hk : scope.kind = .function) : FnC C f (n + 1) args H Q := by
  intro A L lv R F s vs hv st
  refine ea5_1 (O.T) fun p loose mean mg mb T => ?_
  have X := O.X.keeps st.keepsB
  refine codeAny_call_def (fd := fnOf name qual params body scope dV kV doc pm an cdv ct) (body := body) (binds := ns.zip vs) (by have := R.depth; lia) (X _ _ ho) rfl (T.nolimit.keeps st.keepsB) (codeRec_of X hcd) rfl
    (BindsTo.of_eq (hbind vs hv.length)) hcell (fun x hx => hloc _ (List.of_mem_zip hx).1) (fun h₁ hns hk₁ => ?_) hco hgen hk
  refine ea1_4 (enter_St (lv' := lvOf ns args) st hk₁ (Nat.le_refl _) hns (s.toks + (ns.zip vs).length) (lookup_binds ns args vs hv hlen hnd)) fun oL le hn hoL st1 => ?_
  refine Pst.seq (h _ s.heap.objs.size (R.deeper _) _ _ st1) fun fl s' F' H' lv' mf k' st' r' q' => ?_
  refine ea0_2 (leave_St st hoL hn k' st') fun le' st2 => ?_
  have hL : F' L = some oL := k' _ _ (Fz.put_self ..)
  refine ⟨_, H', lv, mf.out, le', st2, ?_, rfl, q'⟩
  cases r' with
  | ret r => exact r.del hL hn
  | _ => exact .none
theorem Room.in1 {n : Nat} (R : Room (n + 1) A) : Room n A.in1 := by
  obtain ⟨a, b, c, d⟩ := R
  exact ⟨a, by show A.depth + n < _; lia, by show A.units + 1 + 8 * n + 100 < _; lia, d⟩
theorem Room.cls {n : Nat} (R : Room (n + 1) A) (D : Addr) (vs : List Value) : Room n (A.under (.builtin "type.__call__" ⟨.ref D :: vs, []⟩)) := by
  obtain ⟨a, b, c, l, d⟩ := R
  have hu : (Code.builtin "type.__call__" ⟨.ref D :: vs, []⟩).cUnits ≤ 8 := by
    first | exact Nat.le_of_ble_eq_true rfl | (unfold Code.cUnits; split <;> lia) | (simp [Code.cUnits]; done)
  refine ⟨a, by show A.depth + 1 + n < _; lia, by show A.units + (Code.builtin "type.__call__" ⟨.ref D :: vs, []⟩).cUnits + 8 * n + 100 < _; lia, l, ?_⟩
  show pushEnvs [] A.frames = some l
  rw [d]; rfl
/-- make an instance of the lexer's class -/
theorem K_new (O : C.Ok) {n : Nat} {fp : MV} {Q : MV → Hp → Lv → Prop} {Q' : Addr → Hp → Prop} (R : Room (n + 1) A)
    (h : ∀ x dx, H x = none → H dx = none → x ≠ dx → FnC C 28 n [.ref x, fp] ((H.put dx (.ns 0 fun _ => none)).put x (.raw (instObj 52 dx))) fun v H' => v = .none ∧ Q (.ref x) H' lv) : OC C A L (.ref 52) [fp] H lv Q := by
  intro F s g vs hg hv st
  cases hg
  have X := O.X.keeps st.keepsB
  have st1 := put_own (x := .ns 0 fun _ => none) (o := emptyDict) st rfl ⟨#[], 0, rfl, ⟨fun _ he => by simp at he, Nat.le_refl _⟩, fun _ => none, fun _ => rfl, fun _ => .none⟩
  have st2 := put_own (x := .raw (instObj 52 s.heap.objs.size)) (o := instObj 52 s.heap.objs.size) st1 rfl rfl
  have hz : (s.heap.push emptyDict).objs.size = s.heap.objs.size + 1 := Heap.size_push ..
  have hx := st1.freshH (size_fresh _)
  simp only [hz] at st2 hx
  have hx' : H (s.heap.objs.size + 1) = none := by rw [Hp.put_ne _ _ (Nat.succ_ne_self _)] at hx; exact hx
  refine wpAny_call ?_
  obtain ⟨hh, gg, d, t, os⟩ := s
  refine make_core (makes_of X rfl) (looks_findIn X rfl) (fun self => bind_fn X self rfl) (.inl rfl) ?_
  have := h (hh.objs.size + 1) hh.objs.size hx' (st.freshH (size_fresh _)) (Nat.succ_ne_self _) _ L lv (R.cls 52 vs) F _ (.ref (hh.objs.size + 1) :: vs) (.cons (.ref _) hv) st2
  refine codeAny_mono this fun r s' z => ?_
  match r, z with
  | .ok (.ret v), z =>
    refine ea4_6 z fun F' H' lv' x k st' r' qq7 qq8 q => ?_
    subst qq7 qq8
    (try clear z)
    cases r'
    exact ⟨rfl, F', H', _, .ref (hh.objs.size + 1), k, st', .ref _, q⟩
  | .ok .next, z => exact z.elim
  | .ok .brk, z => exact z.elim
  | .ok .cont, z => exact z.elim
  | .error _, z => exact z.elim
end
end Mine
end
section
open PySem PySem.W PyProof.Rows PySem.Calls PySem.Spec Builtin
set_option Elab.async false
set_option maxRecDepth 100000
set_option linter.unusedVariables false
set_option linter.unusedSectionVars false
namespace Mine
theorem kind_iter : builtinKind "iter" = none := by decide +kernel
theorem plain_iter : plainId "iter" = true := by decide +kernel
theorem entry_iter : entryFor table "iter" = some Builtin.«iter» := entryFor_of_tree (by kernel_rfl)
theorem args_iter_2 (a b : Value) : argsOk "iter" ⟨[a, b], []⟩ := by unfold argsOk; kernel_rfl
theorem lookup_method_call : typeLookup (.type "method") "__call__" = pure (some (.builtin "method.__call__")) := by rw [typeLookup_type, builtinLookup_eq_fast]; kernel_rfl
theorem slot_cit_next : Slot "callable_iterator" "__next__" "callable_iterator.__next__" :=
  .of (owner := "callable_iterator") (n := "__next__") (by rw [typeLookup_type, builtinLookup_eq_fast]; kernel_rfl) (by decide +kernel) (by decide +kernel) (by decide +kernel)
    (by first | exact .inl (by decide +kernel) | exact .inr (by decide +kernel)) (by rw [isSubtype_type]; kernel_rfl)
theorem entry_cit_next : entryFor table "callable_iterator.__next__" = some Builtin.«callable_iterator.__next__» := entryFor_of_tree (by kernel_rfl)
theorem args_cit_next_1 (a : Value) : argsOk "callable_iterator.__next__" ⟨[a], []⟩ := by unfold argsOk; kernel_rfl
noncomputable abbrev citObj (q : Addr) (t : Tok) : Obj := { cls := .type "callable_iterator", data := .fields #[.ref q, .str (mkS []) t, .bool false] }
noncomputable abbrev citEnd : Obj := { cls := .type "callable_iterator", data := .fields #[.none, .none, .bool true] }
section
variable {prog : Program} {w : World} {A : Around} {E : Value → Shared → Prop} {s : Shared}
theorem call_iter2 {q : Addr} {f self v : Value} {Q : Value → Shared → Prop} (hq : s.heap.get? q = some (methodObj f self))
    (h : Q (.ref s.heap.objs.size) { s with heap := s.heap.push { cls := .type "callable_iterator", data := .fields #[.ref q, v, .bool false] } }) : wpAny (model prog w) A (call (.builtin "iter") [.ref q, v]) Q E s := by
  refine Calls.call_function_entry kind_iter plain_iter entry_iter (args_iter_2 _ _) ?_
  unfold Builtin.«iter»
  refine wpAny_bind (wpAny_of_eq (a := [.ref q, v]) (by first | rfl | kernel_rfl) ?_)
  dsimp only
  refine wpAny_bind (wpAny_specialOf (T := "method") ⟨_, hq, rfl⟩ lookup_method_call ?_)
  simp only [Option.isNone_some, Bool.false_eq_true, if_false]
  refine wpAny_bind (wpAny_rule ?_)
  exact wpAny_bind (wpAny_newObj_type (wpAny_pure ⟨_, rfl, h⟩) (by size_fits))
theorem wpAny_callBorrowed {M : Model} {f : Value} {pos : List Value} {Q : Value → Shared → Prop}
    (hc : codeAny M A (.call f ⟨pos, []⟩) (fun r s' => match r with | .ok (.ret v) => Q v s' | .ok _ => False | .error e => E e s') s) :
    wpAny M A (callBorrowed f pos) Q E s := fun Γ p hΓ => by
  have h := hc _ p rfl (hΓ.enter (.call f ⟨pos, []⟩) none p (by intro x; cases x))
  unfold callBorrowed Sem.wp
  refine wpCode_mono (fun r s' h => ?_) h
  match r, h with
  | .ok (.ret v), h => exact h
  | .ok .next, h => exact h.elim
  | .ok .brk, h => exact h.elim
  | .ok .cont, h => exact h.elim
  | .error e, h => exact h
theorem borrows_fn {q f : Addr} {x : Value} {of : Obj} {fd : FuncData} {Q : Bool → Shared → Prop} (hq : s.heap.get? q = some (methodObj (.ref f) x)) (hf : s.heap.get? f = some of) (hd : of.data = .func fd) (h : Q true s) : wpAny (model prog w) A (borrowsExactly (.ref q)) Q E s := by
  unfold borrowsExactly
  refine wpAny_bind (wpAny_load hq ?_)
  dsimp only
  simp only [beq_self_eq_true, if_true]
  show wpAny _ _ (do match (← load f).data with | .func _ => pure true | _ => pure false) _ _ _
  refine wpAny_bind (wpAny_load hf ?_)
  rw [hd]
  exact wpAny_pure h
theorem setF {I : Addr} {c : Value} {vs vs' : Array Value} {k : Nat} {v : Value} {Q : Unit → Shared → Prop} (h : s.heap.get? I = some { cls := c, data := .fields vs }) (hk : k < vs.size) (e : vs.setIfInBounds k v = vs')
    (hQ : ∀ h', h'.get? I = some { cls := c, data := .fields vs' } → Heap.SameBut I s.heap h' → Q () { s with heap := h' }) : wpAny (model prog w) A (setField (.ref I) k v) Q E s := by
  subst e
  exact wpAny_setField h rfl hk (hQ _ (Heap.get?_update_self _ h (by first | rfl | exact Obj.isFreed_of_fields (Obj.data_mapFields rfl _))) (Heap.SameBut.update ..))
theorem cit_next {I q f : Addr} {x : Value} {t : Tok} {of : Obj} {fd : FuncData} {Q : Value → Shared → Prop} (hh : A.handled = none) (hI : s.heap.get? I = some (citObj q t)) (hq : s.heap.get? q = some (methodObj (.ref f) x)) (hf : s.heap.get? f = some of) (hd : of.data = .func fd)
    (h : codeAny (model prog w) A.in1 (.call (.ref f) ⟨[x], []⟩) (wants (fun v s' => ∃ c u, v = .str (mkS c) u ∧ s'.heap.get? I = some (citObj q t) ∧ s'.heap.get? q = some (methodObj (.ref f) x) ∧ s'.heap.get? f = some of ∧
      (c ≠ [] → Q v s') ∧ (c = [] → ∀ h' e, h'.get? I = some citEnd → (∀ b o, b ≠ I → s'.heap.get? b = some o → h'.get? b = some o) → (∃ o, h'.get? e = some o ∧ o.cls = .type "StopIteration") → E (.ref e) { s' with heap := h' })) fun _ _ => False) s) :
    wpAny (model prog w) A (call (.builtin "callable_iterator.__next__") [.ref I]) Q E s := by
  have hT : s.TypeIs (.ref I) "callable_iterator" := ⟨_, hI, rfl⟩
  refine wpAny_call_entry slot_cit_next hT entry_cit_next ?_ (args_cit_next_1 _)
  show wpAny _ _ (field (.ref I) 2 >>= _) _ _ s
  refine wpAny_bind (wpAny_field hI rfl (x := .bool false) rfl ?_)
  show wpAny _ _ (if (Value.bool false == Value.bool true) = true then _ else _) _ _ s
  rw [if_neg (show ¬ ((Value.bool false == Value.bool true) = true) from Bool.false_ne_true)]
  show wpAny _ _ (field (.ref I) 0 >>= _) _ _ s
  refine wpAny_bind (wpAny_field hI rfl (x := .ref q) rfl ?_)
  refine wpAny_bind (wpAny_attempt ?_)
  unfold callOutOfASlot
  refine wpAny_bind (borrows_fn hq hf hd ?_)
  simp only [if_true]
  refine wpAny_callBorrowed (method_call hq (codeAny_mono h fun r s' z => ?_))
  match r, z with
  | .ok .next, z => exact z.elim
  | .ok .brk, z => exact z.elim
  | .ok .cont, z => exact z.elim
  | .error e, z => exact z.elim
  | .ok (.ret v), z =>
    refine ea2_6 z fun c u qq2 hI' hq' hf' z1 z2 => ?_
    subst qq2
    (try clear z)
    show wpAny _ _ (field (.ref I) 2 >>= _) _ _ s'
    refine wpAny_bind (wpAny_field hI' rfl (x := .bool false) rfl ?_)
    show wpAny _ _ (if (Value.bool false == Value.bool true) = true then _ else _) _ _ s'
    rw [if_neg (show ¬ ((Value.bool false == Value.bool true) = true) from Bool.false_ne_true)]
    show wpAny _ _ (field (.ref I) 1 >>= _) _ _ s'
    refine wpAny_bind (wpAny_field hI' rfl (x := .str (mkS []) t) rfl ?_)
    refine wpAny_bind (wpAny_holding (eqBool_str ?_))
    by_cases hc : c = []
    · subst hc
      rw [beq_self_eq_true]
      simp only [Bool.not_true, Bool.false_eq_true, if_false]
      refine wpAny_bind (wpAny_rule ?_)
      refine wpAny_bind ?_
      show wpAny _ _ (field (.ref I) 0 >>= _) _ _ s'
      refine wpAny_bind (wpAny_field hI' rfl (x := .ref q) rfl ?_)
      refine wpAny_bind ?_
      unfold slotLetsGo
      refine wpAny_bind (borrows_fn hq' hf' hd ?_)
      simp only [if_true]
      refine wpAny_pure ?_
      refine wpAny_bind (setF hI' (by simp) rfl fun h1 g1 b1 => ?_)
      refine wpAny_bind (setF (s := { s' with heap := h1 }) g1 (by simp) rfl fun h2 g2 b2 => ?_)
      refine setF (s := { s' with heap := h2 }) g2 (by simp) rfl fun h3 g3 b3 => ?_
      show wpAny _ _ (newExc (.type "StopIteration") [] >>= _) _ _ _
      refine wpAny_bind ?_
      simp only [newExc, newTuple]
      refine wpAny_bind (wpAny_newObj_type ?_ (by size_fits))
      refine wpAny_bind (m := firstArgMember _ _) (wpAny_of_eq (a := Value.none) (by first | rfl | (simp only [firstArgMember]; rfl)) ?_)
      refine wpAny_newObj_type ?_ (by size_fits)
      simp only [raiseNew]
      refine wpAny_bind (wpAny_handled ?_)
      first | rw [show A.in1.handled = none from hh] | rw [hh]
      refine wpAny_bind (wpAny_pure (wpAny_throw ?_))
      exact z2 rfl _ _ (Heap.get?_push_of_some _ (Heap.get?_push_of_some _ g3)) (fun b o hb e => Heap.get?_push_of_some _ (Heap.get?_push_of_some _ ((b3.2 b hb).trans ((b2.2 b hb).trans ((b1.2 b hb).trans e))))) ⟨_, Heap.get?_push_size _ rfl, rfl⟩
    · have : (mkS [] == mkS c) = false := by
        rw [beq_eq_false_iff_ne]; intro e; exact hc (mkS_inj e).symm
      rw [this]
      simp only [Bool.not_false, if_true]
      exact wpAny_pure ⟨_, rfl, z1 hc⟩
end
section
variable {C : Cx} {A : Around} {H : Hp} {lv : Lv} {L : Addr} {env : Env}
/-- the next of an iterator -/
noncomputable def NX (C : Cx) (A : Around) (L : Addr) (I : Addr) (H : Hp) (lv : Lv) (Q : Option MV → Hp → Lv → Prop) : Prop := ∀ F s, St C F H L lv s → wpAny C.M A (pyNext (.ref I)) (Pst C L OV F Q) NoE s
theorem N_cit (O : C.Ok) {I q x f : Addr} {t : Tok} {n : Nat} {Q : Option MV → Hp → Lv → Prop} (hfn : fnIn C.K f = true) (R : Room (n + 1) A) (e : H I = some (.raw (citObj q t))) (eq : H q = some (.raw (methodObj (.ref f) (.ref x))))
    (h : FnC C f n [.ref x] H fun v H' => ∃ c, v = .str (mkS c) ∧ H' I = some (.raw (citObj q t)) ∧ H' q = some (.raw (methodObj (.ref f) (.ref x))) ∧ (c ≠ [] → Q (some (.str (mkS c))) H' lv) ∧ (c = [] → Q none (H'.put I (.raw citEnd)) lv)) : NX C A L I H lv Q := by
  intro F s st
  obtain ⟨_, _, _, hI, rfl⟩ := st.own _ _ e
  obtain ⟨_, _, _, hq, rfl⟩ := st.own _ _ eq
  have X := O.X.keeps st.keepsB
  have hT : s.TypeIs (.ref I) "callable_iterator" := ⟨_, hI, rfl⟩
  unfold fnIn at hfn
  split at hfn
  · rename_i oc od fd sl ho
    have hf := X _ _ ho
    unfold pyNext
    refine wpAny_bind (wpAny_attempt (wpAny_callSpecial?_slot (name := Str.ofString "__next__") hT slot_cit_next (cit_next R.handled hI hq hf rfl ?_)))
    refine codeAny_mono (h A.in1 L lv R.in1 F s [.ref x] (.cons (.ref _) .nil) st) fun r s' z => ?_
    match r, z with
    | .ok .next, z => exact z.elim
    | .ok .brk, z => exact z.elim
    | .ok .cont, z => exact z.elim
    | .error e, z => exact z.elim
    | .ok (.ret v), z =>
      obtain ⟨F', H', lv', y, k', st', r', rfl, c, rfl, hI', hq', z1, z2⟩ := z
      obtain ⟨u, rfl⟩ : ∃ u, v = .str (mkS c) u := by cases r'; exact ⟨_, rfl⟩
      obtain ⟨p1, p2, _, hI2, rfl⟩ := st'.own _ _ hI'
      obtain ⟨_, _, _, hq2, rfl⟩ := st'.own _ _ hq'
      refine ⟨c, u, rfl, hI2, hq2, (O.X.keeps st'.keepsB) _ _ ho, fun hc => ?_, fun hc h' e he hk hx => ?_⟩
      · exact wpAny_pure ⟨F', H', _, some (.str (mkS c)), k', st', .some r', z1 hc⟩
      · refine ea1_2 hx fun oe hoe hce => ?_
        (try clear hx)
        refine wpAny_bind (wpAny_isInstance (b := true) (T := "StopIteration") ⟨_, hoe, hce⟩ (by rw [isSubtype_type]; kernel_rfl) ?_)
        refine wpAny_pure ?_
        have st2 := st'.less (H' := H'.del I) (fun b y z => by unfold Hp.del at z; split at z; cases z; exact z)
        have st3 := st2.other (h' := h') (a := I) hk p1 (if_pos rfl) p2 s'.toks
        have hS : I ≠ sysModules := fun z => by rw [z, st'.nosys] at hI'; cases hI'
        have st4 := st3.take (x := .raw citEnd) he p1 p2 hS rfl
        have e2 : (H'.del I).put I (.raw citEnd) = H'.put I (.raw citEnd) := by
          funext b; unfold Hp.put Hp.del; by_cases q : b = I <;> simp [q]
        rw [e2] at st4
        exact ⟨F', _, _, none, k', st4, .none, z2 hc⟩
  · cases hfn
end
end Mine
end
section
open PySem PySem.W PyProof.Rows PySem.Calls PySem.Spec Builtin
set_option Elab.async false
set_option maxRecDepth 100000
set_option linter.unusedVariables false
set_option linter.unusedSectionVars false
namespace Mine
theorem slot_cit_iter : ∃ id, Slot "callable_iterator" "__iter__" id ∧ (∃ B, entryFor table id = some B ∧ ∀ v, argsOk id ⟨[v], []⟩ ∧ B ⟨[v], []⟩ = ret v) := by
  refine ⟨"callable_iterator.__iter__", ?_, ?_⟩
  · exact .of (owner := "callable_iterator") (n := "__iter__") (by rw [typeLookup_type, builtinLookup_eq_fast]; kernel_rfl) (by decide +kernel) (by decide +kernel) (by decide +kernel)
      (by first | exact .inl (by decide +kernel) | exact .inr (by decide +kernel)) (by rw [isSubtype_type]; kernel_rfl)
  · exact ⟨Builtin.«dict_keyiterator.__iter__», entryFor_alias (id' := "dict_keyiterator.__iter__") (by kernel_rfl) rfl (by decide +kernel) (by kernel_rfl), fun v => ⟨by unfold argsOk; kernel_rfl, by rfl⟩⟩
section
variable {C : Cx} {A : Around} {H : Hp} {lv : Lv} {L : Addr} {env : Env}
/-- the loop over an iterator that is owned -/
theorem for_own {t : Expr} {b o : List Stmt} {I : Addr} {Q : MFl → Hp → Lv → Prop} {F₀ : Fz} {s : Shared} (Inv : Nat → Hp → Lv → Prop)
    (turn : ∀ k H lv, Inv k H lv → NX C A env.locals I H lv fun r H lv => match r with
      | none => WX C A env o H lv Q
      | some x => (∃ ob nm, H I = some (.raw ob) ∧ ob.cls = .type nm ∧ okIter nm = true) ∧ OA C A env t x H lv fun H lv => WX C A env b H lv (loopQ (fun H lv => ∃ m, m < k ∧ Inv m H lv) Q))
    (k : Nat) (hI : Inv k H lv) (st : St C F₀ H env.locals lv s) :
    codeAny C.M A (.forLoop t (.ref I) b o env) (fun r s' => match r with | .ok f => Pst C env.locals FRep F₀ Q f s' | .error e => cameBackBy C.M A env NoE e s') s := by
  refine codeAny_forLoop_any (fun k s' => ∃ F' H' lv', F₀.le F' ∧ St C F' H' env.locals lv' s' ∧ Inv k H' lv') (fun k s' zz => ea3_3 zz fun F' H' lv' le st' hI' => ?_) k ⟨F₀, H, lv, Fz.le.refl _, st, hI⟩
  refine Pst.seq (turn k H' lv' hI' F' s' st') fun r s1 F1 H1 lv1 x k1 st1 r1 q1 => ?_
  cases r1 with
  | none => exact Pst.up (le.trans k1) (q1 F1 s1 st1)
  | some r1 =>
    obtain ⟨⟨ob, nm, e1, e2, e3⟩, q⟩ := q1
    obtain ⟨_, _, _, ho, rfl⟩ := st1.own _ _ e1
    refine letgo_plain ho e2 e3 ?_
    refine Pst.seq (q F1 s1 _ r1 st1) fun u s2 F2 H2 lv2 _ k2 st2 _ q2 => ?_
    refine Pst.seq (q2 F2 s2 st2) fun f s3 F3 H3 lv3 mf k3 st3 r3 q3 => ?_
    have kk := le.trans (k1.trans (k2.trans k3))
    cases r3 with
    | next => obtain ⟨m, hm, q⟩ := q3; exact ⟨m, hm, F3, H3, lv3, kk, st3, q⟩
    | cont => obtain ⟨m, hm, q⟩ := q3; exact ⟨m, hm, F3, H3, lv3, kk, st3, q⟩
    | brk => exact ⟨F3, H3, lv3, .next, kk, st3, .next, q3⟩
    | ret r => exact ⟨F3, H3, lv3, _, kk, st3, .ret r, q3⟩
theorem F_cit {t : Expr} {b o : List Stmt} {I q : Addr} {tk : Tok} {Q : MFl → Hp → Lv → Prop} (e : H I = some (.raw (citObj q tk))) (Inv : Nat → Hp → Lv → Prop)
    (turn : ∀ k H lv, Inv k H lv → NX C A env.locals I H lv fun r H lv => match r with
      | none => WX C A env o H lv Q
      | some x => (∃ ob nm, H I = some (.raw ob) ∧ ob.cls = .type nm ∧ okIter nm = true) ∧ OA C A env t x H lv fun H lv => WX C A env b H lv (loopQ (fun H lv => ∃ m, m < k ∧ Inv m H lv) Q))
    (k : Nat) (hI : Inv k H lv) : OF C A env t b o (.ref I) H lv Q := by
  intro F s v r st
  cases r
  obtain ⟨id, hs, B, he, hB⟩ := slot_cit_iter
  obtain ⟨_, _, _, ho, rfl⟩ := st.own _ _ e
  have hT : s.TypeIs (.ref I) "callable_iterator" := ⟨_, ho, rfl⟩
  refine wpAny_pyIter_slot hT hs (wpAny_call_entry hs hT he ?_ (hB _).1)
  rw [(hB _).2]
  exact wpAny_pure ⟨_, rfl, "callable_iterator", _, hT, slot_cit_next.lookup, for_own Inv turn k hI st⟩
/-- iter(f, '') -/
theorem K_iter2 {q : Addr} {f x : Addr} {Q : MV → Hp → Lv → Prop} (e : H q = some (.raw (methodObj (.ref f) (.ref x)))) (h : ∀ I t, H I = none → Q (.ref I) (H.put I (.raw (citObj q t))) lv) : OC C A L (.bi "iter") [.ref q, .str (mkS [])] H lv Q := by
  intro F s g vs hg hv st
  cases hg
  cases hv with
  | cons h1 hl => cases hl with
    | cons h2 hl =>
      cases hl; cases h1
      obtain ⟨_, _, _, ho, rfl⟩ := st.own _ _ e
      cases h2 with
      | str _ t =>
      refine call_iter2 ho ?_
      exact Pst.here (put_own (x := .raw (citObj q t)) st rfl rfl) (.ref _) (h _ t (st.freshH (size_fresh _)))
end
end Mine
end
section
open PySem PySem.W PyProof.Rows PySem.Calls PySem.Spec Builtin
set_option Elab.async false
set_option maxRecDepth 100000
set_option linter.unusedVariables false
set_option linter.unusedSectionVars false
namespace Mine
/-! ### list comprehensions -/
section
variable {prog : Program} {w : World} {A : Around} {R : Result → Shared → Prop} {s : Shared}
theorem compLoop_any {elt target iter : Expr} {scope : Scope} {pos : Pos} {it acc : Value} {env : Env} (I : Nat → Shared → Prop)
    (turn : ∀ n s, I n s → wpAny (model prog w) A (pyNext it) (fun r s₁ => match r with
      | none => R (.ok .next) s₁
      | some v => wpAny (model prog w) A (letOwnedTupleGo target it v) (fun _ s₁' => wpAny (model prog w) A (assign target env v) (fun _ s₂ => wpAny (model prog w) A (eval elt env) (fun x s₃ =>
          wpAny (model prog w) A (call (.builtin "list.append") [acc, x]) (fun _ s₄ => ∃ m, m < n ∧ I m s₄) (fun _ _ => False) s₃)
          (fun _ _ => False) s₂) (fun _ _ => False) s₁') (fun _ _ => False) s₁) (fun _ _ => False) s)
    (n : Nat) (h : I n s) :
    codeAny (model prog w) A (.compLoop (.ListComp elt [⟨target, iter, [], 0⟩] scope pos) 0 it acc env) R s := by
  refine codeAny_loop rfl I (fun n s hI => ?_) n h
  show wpAny _ _ ((compTurn (.ListComp elt [⟨target, iter, [], 0⟩] scope pos) 0 it acc env).onRaise (fun x => do noteFrame x env; theTreesLotGoes x)) _ _ s
  refine wpAny_noted ?_
  rw [compTurn_list1]
  refine wpAny_bind (wpAny_standAt (wpAny_bind (wpAny_mono (turn n s hI) (fun r s₁ h₁ => ?_) fun _ _ h' => h'.elim)))
  cases r with
  | none => exact wpAny_pure h₁
  | some v =>
    exact wpAny_bind (wpAny_mono h₁ (fun _ s₁' h₁ => wpAny_bind (wpAny_mono h₁ (fun _ s₂ h₂ => wpAny_bind (wpAny_bind (wpAny_mono h₂ (fun x s₃ h₃ => wpAny_bind (wpAny_mono h₃
      (fun _ s₄ h₄ => wpAny_pure (wpAny_pure ⟨rfl, h₄⟩)) fun _ _ h' => h'.elim)) fun _ _ h' => h'.elim))) fun _ _ h' => h'.elim)) fun _ _ h' => h'.elim)
end
section
variable {C : Cx} {A : Around} {H : Hp} {lv : Lv} {L : Addr} {env : Env}
noncomputable def CompW (C : Cx) (A : Around) (cenv : Env) (t elt : Expr) (D : Addr) (Pr : Hp → Prop) (Qe : Hp → Prop) : List MV → Hp → Lv → Prop
  | [], H, _ => Qe H
  | x :: xs, H, lv => OA C A cenv t x H lv fun H lv => WE C A cenv elt H lv fun y H lv => ∃ l, H D = some (.list l) ∧ l.length ≤ 90000 ∧ (Pr H → CompW C A cenv t elt D Pr Qe xs (H.put D (.list (l ++ [y]))) lv)
/-- the loop of a comprehension -/
theorem comp_loop {t elt iter : Expr} {scope : Scope} {pos : Pos} {I D : Addr} {fp : List Addr} {n : Nat} {P : Nat → Value → Prop} {Sti : Nat → Heap → Prop} {items : List MV} {Qe : Hp → Prop} {F₀ : Fz} {s : Shared} {Pr : Hp → Prop} {cenv : Env}
    (Wk : Walks Pg C.w A I fp [I] n P Sti) (hn : items.length = n) (hP : ∀ i v F, F₀.le F → P i v → ∀ x, items[i]? = some x → VRep F x v)
    (hfp : ∀ a ∈ fp, a ≠ I → ∃ ob, F₀ a = some ob) (hI : ∀ i h, Sti i h → ∃ ob nm, h.get? I = some ob ∧ ob.cls = .type nm ∧ okIter nm = true) (hb : C.h₀.get? I = Option.none) (hpr : ∀ H' F' s' lv', F₀.le F' → St C F' H' cenv.locals lv' s' → Pr H')
    (hF : F₀ I = Option.none) (hH : H I = Option.none) (hL : I ≠ cenv.locals) (hDI : D ≠ I) (st : St C F₀ H cenv.locals lv s) (h0 : Sti 0 s.heap)
    (h : CompW C A cenv t elt D Pr Qe items H lv) :
    codeAny C.M A (.compLoop (.ListComp elt [⟨t, iter, [], 0⟩] scope pos) 0 (.ref I) (.ref D) cenv) (fun r s' => match r with | .ok _ => ∃ F' H' lv', F₀.le F' ∧ St C F' H' cenv.locals lv' s' ∧ Qe H' | .error _ => False) s := by
  refine compLoop_any (fun k s' => ∃ i F' H' lv', k + i = n + 1 ∧ i ≤ n ∧ F₀.le F' ∧ F' I = Option.none ∧ H' I = Option.none ∧ St C F' H' cenv.locals lv' s' ∧ Sti i s'.heap ∧ CompW C A cenv t elt D Pr Qe (items.drop i) H' lv')
    (fun k s' zz => ea4_8 zz fun i F' H' lv' hk hi k' hF' hH' st' hS hW => ?_) (n + 1) ⟨0, F₀, H, lv, rfl, Nat.zero_le _, Fz.le.refl _, hF, hH, st, h0, h⟩
  rcases Nat.lt_or_ge i n with hlt | hge
  · refine Wk.item i s' _ _ hlt hS fun v h' tk hPv hS' hkeep => ?_
    have hi' : i < items.length := by lia
    have hx : items[i]? = some items[i] := by simp [hi']
    rw [List.drop_eq_getElem_cons hi'] at hW
    have st1 := st'.other (h' := h') (fun b o hb e => hkeep b o (by simpa using hb) e) hF' hH' hL tk
    refine ea2_3 (hI _ _ hS') fun oI nmI hoI hcI hok => ?_
    have hnI := okIter_imm hcI hok
    refine letgo_plain (s := { s' with heap := h', toks := tk }) hoI hcI hok ?_
    have st2 := st1.freeze hoI hF' hH' hL
    have le2 := Fz.le_put oI hF'
    refine Pst.seq (hW (F'.put I oI) _ v (hP i v _ (k'.trans le2) hPv _ hx) st2) fun u s2 F2 H2 lv2 _ k2 st2' _ q2 => ?_
    refine Pst.seq (q2 F2 s2 st2') fun y s3 F3 H3 lv3 my k3 st3 r3 q3 => ?_
    refine ea1_3 q3 fun l eD hsz q3 => ?_
    have happ : OC C A cenv.locals (.bi "list.append") [.ref D, my] H3 lv3 fun v H' lv' => H' = H3.put D (.list (l ++ [my])) ∧ lv' = lv3 := K_append eD (by lia) ⟨rfl, rfl⟩
    refine Pst.seq (happ F3 s3 _ _ (.bi _) (.cons (.ref _) (.cons r3 .nil)) st3) fun _ s4 F4 H4 lv4 _ k4 st4' _ q4 => ea0_2 q4 fun e4 e5 => ?_
    subst e4 e5
    have kk : (F'.put I oI).le F4 := k2.trans (k3.trans k4)
    have hI3 : F4 I = some oI := kk _ _ (Fz.put_self ..)
    have le3 : F'.le (F4.del I) := le_del hF' kk
    have st4 := st4'.melt hI3 hnI hb
    have hI33 : F3 I = some oI := (k2.trans k3) _ _ (Fz.put_self ..)
    have hH3 : H3 I = Option.none := by
      cases q : H3 I with
      | none => rfl
      | some x => have := (st3.own I x q).1; rw [hI33] at this; cases this
    have hH4 : (H3.put D (.list (l ++ [my]))) I = Option.none := by rw [Hp.put_ne _ _ (Ne.symm hDI)]; exact hH3
    have hS3 : Sti (i + 1) s4.heap := Wk.frame _ _ _ hS' fun a ha ob e => by
      by_cases q : a = I
      · subst q
        have : ob = oI := Option.some.inj (e.symm.trans hoI)
        subst this
        exact st4'.fz _ _ hI3
      · refine ea1_1 (hfp a ha q) fun ob' e' => ?_
        have e2 := st1.fz a ob' (k' _ _ e')
        have : ob = ob' := Option.some.inj (e.symm.trans e2)
        subst this
        exact st4'.fz _ _ (kk _ _ (le2 _ _ (k' _ _ e')))
    have pr := hpr H3 F3 s3 lv4 (k'.trans (le2.trans (k2.trans k3))) st3
    exact ⟨k - 1, by lia, i + 1, F4.del I, _, lv4, by lia, hlt, k'.trans le3, if_pos rfl, hH4, st4, hS3, q3 pr⟩
  · have : i = n := by lia
    subst this
    refine Wk.done s' _ _ hS fun h' tk hkeep => ?_
    have st1 := st'.other (h' := h') (fun b o hb e => hkeep b o (by simpa using hb) e) hF' hH' hL tk
    rw [List.drop_eq_nil_of_le (by lia)] at hW
    exact ⟨F', H', lv', k', st1, hW⟩
theorem comp_sound {t elt iter : Expr} {scope : Scope} {cl : List (Str × Addr)} {pos : Pos} {I : Addr} {fp : List Addr} {n : Nat} {P : Nat → Value → Prop} {Sti : Nat → Heap → Prop} {items : List MV} {Qe : Addr → Hp → Prop} {F₀ : Fz} {s : Shared} {Pr : Hp → Prop} {RR : Value → Addr → Result → Shared → Prop}
    (Wk : Walks Pg C.w A I fp [I] n P Sti) (hn : items.length = n) (hP : ∀ i v F, F₀.le F → P i v → ∀ x, items[i]? = some x → VRep F x v)
    (hfp : ∀ a ∈ fp, a ≠ I → ∃ ob, F₀ a = some ob) (hI : ∀ i h, Sti i h → ∃ ob nm, h.get? I = some ob ∧ ob.cls = .type nm ∧ okIter nm = true) (hb : C.h₀.get? I = Option.none) (hpr : ∀ H' F' s' L' lv', F₀.le F' → St C F' H' L' lv' s' → Pr H')
    (hF : F₀ I = Option.none) (hH : H I = Option.none) (hL : I ≠ env.locals) (hIs : I < s.heap.objs.size) (st : St C F₀ H env.locals lv s) (h0 : Sti 0 s.heap)
    (hcell : ∀ y ∈ scope.names, y.2 ≠ .cell) (hkind : scope.kind = .function)
    (h : ∀ D L', H D = none → F₀ D = none → CompW C A (compEnvC scope cl L' env) t elt D Pr (Qe D) items (H.put D (.list [])) fun _ => none)
    (hRR : ∀ D L' F' H' s' f, F₀.le F' → St C F' H' env.locals lv s' → (∃ m, s'.heap.Ns L' m) → F' L' = none → H' L' = none → L' ≠ env.locals → C.h₀.get? L' = none → Qe D H' → RR (.ref D) L' (.ok f) s') :
    wpAny C.M A (newList []) (fun acc s₃ => wpAny C.M A (newFunctionEnv scope env.globals cl [] env.qual none .none (some env)) (fun cenv s₄ =>
      codeAny C.M A (.compStart (.ListComp elt [⟨t, iter, [], 0⟩] scope pos) 0 (.ref I) acc { cenv with scope := relabel scope env }) (RR acc cenv.locals) s₄) NoE s₃) NoE s := by
  refine wpAny_newObj_type (wpAny_newFunctionEnv hcell (by intro y hy; simp at hy) (fun h₁ hns₁ hsb₁ => ?_) hkind)
  have hDn := st.freshH (size_fresh s.heap)
  have stD := put_own (x := .list []) (o := { cls := .type "list", data := .seq ([] : List Value).toArray }) st rfl ⟨[], 0, rfl, .nil⟩
  dsimp only at hns₁ hsb₁ ⊢
  generalize hH2 : s.heap.push { cls := .type "list", dict := none, data := .seq ([] : List Value).toArray } = H2 at hns₁ hsb₁ stD ⊢
  have hC : H2.objs.size = s.heap.objs.size + 1 := by rw [← hH2, Heap.size_push]
  have keep : ∀ b o, H2.get? b = some o → h₁.get? b = some o := fun b o e => hsb₁.extBut b o (Nat.ne_of_lt (Heap.lt_size e)) (Heap.get?_push_of_some _ e)
  refine ea1_4 (enter_St (lv' := fun _ => none) stD keep (Nat.le_refl _) hns₁ (s.toks + ([] : List (Str × Value)).length) (fun _ => .none)) fun oL le hni hoL st1 => ?_
  have hIne : I ≠ H2.objs.size := by rw [hC]; exact Nat.ne_of_lt (Nat.lt_succ_of_lt hIs)
  have hID : s.heap.objs.size ≠ I := Ne.symm (Nat.ne_of_lt hIs)
  have hb' : C.h₀.get? H2.objs.size = none := by
    cases q : C.h₀.get? H2.objs.size with
    | none => rfl
    | some o => have := stD.keepsB _ _ q; rw [size_fresh] at this; cases this
  have hLne : H2.objs.size ≠ env.locals := Ne.symm (Nat.ne_of_lt (Heap.lt_size hoL))
  have h0' : Sti 0 h₁ := Wk.frame _ _ _ h0 fun b _ o e => keep b o (hH2 ▸ Heap.get?_push_of_some _ e)
  have loop : codeAny C.M A (.compLoop (.ListComp elt [⟨t, iter, [], 0⟩] scope pos) 0 (.ref I) (.ref s.heap.objs.size) (compEnvC scope cl H2.objs.size env)) (RR (.ref s.heap.objs.size) H2.objs.size) { s with heap := h₁, toks := s.toks + ([] : List (Str × Value)).length } := by
    refine codeAny_mono (comp_loop (cenv := compEnvC scope cl H2.objs.size env) (Pr := Pr) Wk hn (fun i v F k => hP i v F (le.trans k)) (fun a ha hne => let ⟨ob, e⟩ := hfp a ha hne; ⟨ob, le _ _ e⟩) hI hb (fun H' F' s' lv' k st' => hpr H' F' s' _ lv' (le.trans k) st')
      (by rw [Fz.put_ne _ _ hL]; exact hF) (by rw [Hp.put_ne _ _ (Ne.symm hID)]; exact hH) hIne hID st1 h0' (h _ _ hDn (st.freshF (size_fresh _)))) (fun r s' hr => ?_)
    cases r with
    | error e => exact hr.elim
    | ok f =>
      refine ea3_3 hr fun F' H' lv' k' st' q => ?_
      (try clear hr)
      refine ea0_2 (leave_St stD hoL hni k' st') fun le' st2 => ?_
      refine ea1_2 (st'.ns) fun m hm _ => ?_
      refine hRR _ _ _ H' s' f le' st2 ⟨m, hm⟩ ?_ ?_ hLne hb' q
      · unfold Fz.del; rw [if_neg hLne]; exact st'.fL
      · cases z : H' H2.objs.size with
        | none => rfl
        | some x => exact absurd rfl (st'.own _ _ z).2.1
  exact codeAny_compStart_list loop (Wk.self 0 _ _ _ h0' loop)
end
end Mine
end
section
open PySem PySem.W PyProof.Rows PySem.Calls PySem.Spec Builtin
set_option Elab.async false
set_option maxRecDepth 100000
set_option linter.unusedVariables false
set_option linter.unusedSectionVars false
namespace Mine
section
variable {C : Cx} {A : Around} {H : Hp} {lv : Lv} {L : Addr} {env : Env}
/-- what can be walked: its items, what is owned meanwhile, and how it comes back -/
noncomputable def OI (C : Cx) (A : Around) (L : Addr) (x : MV) (H : Hp) (lv : Lv) (items : List MV) (H1 : Hp) (Pr : Hp → Prop) (back : Hp → Hp) : Prop :=
  ∀ F s v, VRep F x v → St C F H L lv s → wpAny C.M A (pyIter v) (fun it s2 => ∃ I fp n P Sti F₀, it = .ref I ∧ Walks Pg C.w A I fp [I] n P Sti ∧ items.length = n ∧ (∀ i v F, F₀.le F → P i v → ∀ x, items[i]? = some x → VRep F x v) ∧
    (∀ a ∈ fp, a ≠ I → ∃ ob, F₀ a = some ob) ∧ (∀ i h, Sti i h → ∃ ob nm, h.get? I = some ob ∧ ob.cls = .type nm ∧ okIter nm = true) ∧ C.h₀.get? I = none ∧ F₀ I = none ∧ H1 I = none ∧ I ≠ L ∧ I < s2.heap.objs.size ∧ St C F₀ H1 L lv s2 ∧ Sti 0 s2.heap ∧
    (∀ D, H1 D = none → F₀ D = none → H D = none ∧ Pr (H1.put D (.list []))) ∧
    (∀ H' F' s' L' lv', F₀.le F' → St C F' H' L' lv' s' → Pr H') ∧
    (∀ F' H' lv' s', F₀.le F' → St C F' H' L lv' s' → ∃ F'', F.le F'' ∧ St C F'' (back H') L lv' s' ∧ ∀ x v, VRep F' x v → VRep F'' x v)) NoE s
theorem OI_list {a : Addr} {l : List MV} (hh : A.handled = none) (e : H a = some (.list l)) : OI C A L (.ref a) H lv l (H.del a) (fun H => H a = none) fun H => H.put a (.list l) := by
  intro F s v r st
  cases r
  refine ea2_3 (st.list e) fun vs n ho r hlen => ?_
  refine ea0_5 (st.freezeOwn e ho) fun hFa hLa hba hSa stF => ?_
  have leF := Fz.le_put (listOf vs.toArray n) hFa
  have nI : ¬ Imm (listOf vs.toArray n) := okIter_imm (n := "list") rfl (by decide)
  have hne : a ≠ s.heap.objs.size := Nat.ne_of_lt (Heap.lt_size ho)
  have hl : s.heap.IsList a vs.toArray := ⟨_, ho, rfl, _, rfl⟩
  refine wpAny_pyIter_list hl ?_
  have st2 := stF.keeps (h' := s.heap.push { cls := .type "list_iterator", data := .fields #[.ref a, .int 0 0] }) (fun b o' e => Heap.get?_push_of_some _ e) s.toks
  refine ⟨s.heap.objs.size, _, _, _, _, _, rfl, Walks.list hh s.heap.objs.size a hne vs.toArray, (by rw [List.size_toArray, r.length]), fun i v F' k hi x hx => ?_, fun b hb hne' => ?_, fun i hp hs => ?_, newIter_base st,
    stF.freshF (size_fresh _), stF.freshH (size_fresh _), stF.freshL (size_fresh _), (by rw [Heap.size_push]; exact Nat.lt_succ_self _), st2, ⟨⟨_, Heap.get?_push_size _ rfl, rfl, rfl⟩, ⟨_, Heap.get?_push_of_some _ ho, rfl, _, rfl⟩⟩, fun D hD hDF => ?_, fun H' F' s' L' lv' k st' => ?_, fun F' H' lv' s' k' st' => ?_⟩
  · refine ea1_2 (r.get hx) fun v' hv' rv => ?_
    have : v = v' := by simpa [hv'] using hi.symm
    subst this; exact (rv.mono leF).mono k
  · simp only [List.mem_cons, List.not_mem_nil, or_false] at hb
    rcases hb with hb | hb
    · exact absurd hb hne'
    · subst hb; exact ⟨_, Fz.put_self ..⟩
  · obtain ⟨⟨ob, h1, h2, _⟩, _⟩ := hs
    exact ⟨ob, _, h1, h2, by decide⟩
  · have hDa : D ≠ a := fun z => by subst z; rw [Fz.put_self] at hDF; cases hDF
    refine ⟨by unfold Hp.del at hD; rw [if_neg hDa] at hD; exact hD, ?_⟩
    show (Hp.put _ _ _) a = none
    rw [Hp.put_ne _ _ (Ne.symm hDa)]; exact if_pos rfl
  · show H' a = none
    cases q : H' a with
    | none => rfl
    | some x => have := (st'.own a x q).1; rw [k _ _ (Fz.put_self ..)] at this; cases this
  · have h2 : F' a = some (listOf vs.toArray n) := k' _ _ (Fz.put_self ..)
    have le2 := le_del hFa k'
    exact ⟨_, le2, (st'.melt h2 nI hba).take (x := .list l) (st'.fz _ _ h2) (if_pos rfl) hLa hSa ⟨vs, n, rfl, r.mono le2⟩, fun x v h => h.del h2 nI⟩
theorem W_LC {t elt iter : Expr} {scope : Scope} {cl : List (Str × Addr)} {pos : Pos} {Q : MV → Hp → Lv → Prop} (hclos : closureFor scope env = pure cl) (hcell : ∀ y ∈ scope.names, y.2 ≠ .cell) (hkind : scope.kind = .function) (hnames : ∀ x ∈ scope.names, x.2 = .local → scope.names.lookup x.1 = some .local)
    (h : WE C A env iter H lv fun x H lv => ∃ items H1 Pr back, OI C A env.locals x H lv items H1 Pr back ∧ ∀ D L', H D = none → Pr (H1.put D (.list [])) → CompW C A (compEnvC scope cl L' env) t elt D Pr (fun H' => Q (.ref D) (back H') lv) items (H1.put D (.list [])) fun _ => none)
    (hs : ∀ x, foldedSetIterable iter env x = pure x := by intro _; rfl) : WE C A env (.ListComp elt [⟨t, iter, [], 0⟩] scope pos) H lv Q := by
  intro F s st
  show wpAny _ _ (eval _ _) _ _ _
  rw [eval_ListComp]
  refine wpAny_comprehension_free (use := none) rfl hs hclos hkind hnames (Pst.seq (h F s st) fun xv s1 F1 H1 lv1 x k1 st1 r1 q1 => ?_)
  refine ea4_2 q1 fun items Hi Pr back hO hc => ?_
  (try clear q1)
  refine wpAny_mono (hO F1 s1 xv r1 st1) (fun it s2 z => ?_) fun _ _ e => e
  obtain ⟨I, fp, n, P, Sti, F₀, rfl, Wk, a1, a2, a3, a4, a5, a6, a7, a8, a9, st2, a10, a11, a12, a13⟩ := z
  refine comp_sound (Qe := fun D H' => Q (.ref D) (back H') lv1) Wk a1 a2 a3 a4 a5 a12 a6 a7 a8 a9 st2 a10 hcell hkind (fun D L' hD hDF => hc D L' (a11 D hD hDF).1 (a11 D hD hDF).2) (fun D L' F' H' s' f k' st' hm hFL hHL hLL hbL q => ?_)
  refine ea1_1 hm fun m hm => ?_
  refine ⟨m, hm, fun h' hsb => ?_⟩
  have st3 := st'.other (h' := h') (a := L') (fun b o hb e => (hsb.2 b hb).trans e) hFL hHL hLL s'.toks
  refine ea1_3 (a13 F' H' lv1 _ k' st3) fun F2 k2 st4 _ => ?_
  exact ⟨F2, _, lv1, .ref D, k1.trans k2, st4, .ref _, q⟩
theorem S_AssignLC {t elt iter : Expr} {scope : Scope} {cl : List (Str × Addr)} {pos spos py : Pos} {y : Str} {Q : MFl → Hp → Lv → Prop} (hclos : closureFor scope env = pure cl) (hcell : ∀ y ∈ scope.names, y.2 ≠ .cell) (hkind : scope.kind = .function) (hnames : ∀ x ∈ scope.names, x.2 = .local → scope.names.lookup x.1 = some .local)
    (hsw : swapsWith (.ListComp elt [⟨t, iter, [], 0⟩] scope pos) (some (.Name y py)) spos.line env = pure true) (hk : env.scope.kind = .function) (hl : env.kindOf y = some .local)
    (h : WE C A env iter H lv fun x H lv => ∃ items H1 Pr back, OI C A env.locals x H lv items H1 Pr back ∧ ∀ D L', H D = none → Pr (H1.put D (.list [])) → CompW C A (compEnvC scope cl L' env) t elt D Pr (fun H' => Q .next (back H') (lv.put y (.ref D))) items (H1.put D (.list [])) fun _ => none)
    (hs : ∀ x, foldedSetIterable iter env x = pure x := by intro _; rfl) : WS C A env (.Assign [.Name y py] (.ListComp elt [⟨t, iter, [], 0⟩] scope pos) spos) H lv Q := by
  intro F s st
  show wpAny _ _ (exec _ _) _ _ _
  rw [exec_Assign_Name_used _ _ _ _ hsw]
  refine wpAny_bind (wpAny_standAt (wpAny_bind ?_))
  show wpAny _ A (do let _ ← comprehension (.ListComp elt [⟨t, iter, [], 0⟩] scope pos) scope env _ (newList []) false (eval iter env) (some (assign (.Name y py) env))) _ _ s
  refine wpAny_bind (wpAny_mono (wpAny_comprehension_free (use := some (assign (.Name y py) env)) (Q := fun _ s' => Pst C env.locals FRep F Q .next s') rfl hs hclos hkind hnames
    (Pst.seq (h F s st) fun xv s1 F1 H1 lv1 x k1 st1 r1 q1 => ?_)) (fun _ s' hq => wpAny_pure (wpAny_pure hq)) fun _ _ e => e)
  refine ea4_2 q1 fun items Hi Pr back hO hc => ?_
  (try clear q1)
  refine wpAny_mono (hO F1 s1 xv r1 st1) (fun it s2 z => ?_) fun _ _ e => e
  obtain ⟨I, fp, n, P, Sti, F₀, rfl, Wk, a1, a2, a3, a4, a5, a6, a7, a8, a9, st2, a10, a11, a12, a13⟩ := z
  refine comp_sound (Qe := fun D H' => Q .next (back H') (lv1.put y (.ref D))) Wk a1 a2 a3 a4 a5 a12 a6 a7 a8 a9 st2 a10 hcell hkind (fun D L' hD hDF => hc D L' (a11 D hD hDF).1 (a11 D hD hDF).2) (fun D L' F' H' s' f k' st' hm hFL hHL hLL hbL q => ?_)
  obtain ⟨m, ⟨oC, es, ep, hoC, hdC, r2⟩⟩ := hm
  have st3 := st'.freeze hoC hFL hHL hLL
  have leC := Fz.le_put oC hFL
  show wpAny _ A (assign (.Name y py) env (.ref D)) _ _ _
  refine wpAny_assign_Name (store_local st3 (y := .ref D) (.ref _) hl hk fun s'' st'' => ?_)
  refine ⟨m, ⟨oC, es, ep, st''.fz _ _ (Fz.put_self ..), hdC, r2⟩, fun h' hsb => ?_⟩
  have st4 := st''.melt (Fz.put_self ..) (imm_dict hdC) hbL
  have st5 := st4.other (h' := h') (a := L') (fun b o hb e => (hsb.2 b hb).trans e) (if_pos rfl) hHL hLL s''.toks
  refine ea1_3 (a13 _ H' (lv1.put y (.ref D)) _ (k'.trans (le_del hFL (Fz.le.refl _))) st5) fun F2 k2 st6 _ => ?_
  exact ⟨F2, _, _, .next, k1.trans k2, st6, .next, q⟩
end
end Mine
end
section
open PySem PySem.W PyProof.Rows PySem.Calls PySem.Spec Builtin
set_option Elab.async false
set_option maxRecDepth 100000
set_option linter.unusedVariables false
set_option linter.unusedSectionVars false
namespace Mine
section
variable {C : Cx} {A : Around} {H : Hp} {lv : Lv} {L : Addr} {env : Env}
theorem OI_str {l : List Nat} (hh : A.handled = none) (ha : (mkS l).cps.all (· < 128) = true) : OI C A L (.str (mkS l)) H lv (l.map fun c => .str (mkS [c])) H (fun _ => True) fun H => H := by
  intro F s v r st
  obtain ⟨t, rfl⟩ : ∃ t, v = .str (mkS l) t := by cases r; exact ⟨_, rfl⟩
  refine wpAny_pyIter_ascii ha ?_
  have st2 := st.keeps (h' := s.heap.push { cls := .type "str_ascii_iterator", data := .fields #[.str (mkS l) t, .int 0 0] }) (fun b o' e => Heap.get?_push_of_some _ e) s.toks
  refine ⟨s.heap.objs.size, _, _, _, _, F, rfl, Walks.strAscii hh s.heap.objs.size (mkS l) t, (by rw [List.length_map]; simp [mkS]), fun i v F' k hi x hx => ?_, fun b hb hne' => ?_, fun i hp hs => ?_, newIter_base st,
    st.freshF (size_fresh _), st.freshH (size_fresh _), st.freshL (size_fresh _), (by rw [Heap.size_push]; exact Nat.lt_succ_self _), st2, ⟨_, Heap.get?_push_size _ rfl, rfl, rfl⟩, fun D hD hDF => ⟨hD, trivial⟩, fun H' F' s' L' lv' k st' => trivial, fun F' H' lv' s' k' st' => ⟨F', k', st', fun _ _ h => h⟩⟩
  · refine ea2_2 hi fun c tk hc qq3 => ?_
    subst qq3
    (try clear hi)
    rw [List.getElem?_map] at hx
    refine ea1_2 (Option.map_eq_some_iff.mp hx) fun c' hc' qq2 => ?_
    subst qq2
    have : c = c' := by simp [mkS, hc'] at hc; exact hc.symm
    subst this
    exact .str _ _
  · simp only [List.mem_cons, List.not_mem_nil, or_false] at hb
    exact absurd hb hne'
  · refine ea1_3 hs fun ob h1 h2 _ => ?_
    (try clear hs)
    exact ⟨ob, _, h1, h2, by decide⟩
end
end Mine
end
section
open PySem PySem.W PyProof.Rows PySem.Calls PySem.Spec Builtin
set_option Elab.async false
set_option maxRecDepth 100000
set_option linter.unusedVariables false
set_option linter.unusedSectionVars false
namespace Mine
section
variable {C : Cx} {A : Around} {H : Hp} {lv : Lv} {L : Addr} {env : Env}
noncomputable def Sub (H' H : Hp) : Prop := ∀ a x, H' a = some x → H a = some x
theorem Sub.refl (H : Hp) : Sub H H := fun _ _ e => e
theorem FnC.sub {f : Addr} {n : Nat} {args : List MV} {Q : MV → Hp → Prop} (h : FnC C f n args H fun v H' => ∃ H'', Sub H'' H' ∧ Q v H'') : FnC C f n args H Q := by
  intro A L lv R F s vs hv st
  refine codeAny_mono (h A L lv R F s vs hv st) fun r s' z => ?_
  match r, z with
  | .ok .next, z => exact z.elim
  | .ok .brk, z => exact z.elim
  | .ok .cont, z => exact z.elim
  | .error e, z => exact z.elim
  | .ok (.ret v), z =>
    obtain ⟨F', H', lv', y, k', st', r', e, H'', hs, q⟩ := z
    exact ⟨F', H'', lv', y, k', st'.less hs, r', e, q⟩
theorem FnC.mono {f : Addr} {n : Nat} {args : List MV} {Q Q' : MV → Hp → Prop} (h : FnC C f n args H Q) (k : ∀ v H', Q v H' → Q' v H') : FnC C f n args H Q' := by
  intro A L lv R F s vs hv st
  refine codeAny_mono (h A L lv R F s vs hv st) fun r s' z => ?_
  match r, z with
  | .ok .next, z => exact z.elim
  | .ok .brk, z => exact z.elim
  | .ok .cont, z => exact z.elim
  | .error e, z => exact z.elim
  | .ok (.ret v), z =>
    refine ea4_5 z fun F' H' lv' y k' st' r' e q => ?_
    (try clear z)
    exact ⟨F', H', lv', y, k', st', r', e, k _ _ q⟩
theorem bindC_local {kindOf : Str → Option NameKind} : ∀ (b : List (Str × Value)) (m : Str → Option Value), (∀ x ∈ b, kindOf x.1 = some .local) → bindC kindOf b m = m
  | [], m, _ => rfl
  | (n, v) :: r, m, h => by
    unfold bindC
    rw [if_pos (h (n, v) List.mem_cons_self)]
    exact bindC_local r m fun x hx => h x (List.mem_cons_of_mem _ hx)
theorem bindL_other {kindOf : Str → Option NameKind} : ∀ (b : List (Str × Value)) (m : Str → Option Value) (y : Str), y ∉ b.map (·.1) → bindL kindOf b m y = m y
  | [], m, y, _ => rfl
  | (n, v) :: r, m, y, h => by
    unfold bindL
    simp only [List.map_cons, List.mem_cons, not_or] at h
    rw [bindL_other r _ y h.2]
    split
    · exact if_neg h.1
    · rfl
theorem bindL_zip {F : Fz} {kindOf : Str → Option NameKind} (ns : List Str) (xs : List MV) (vs : List Value) (m : Str → Option Value) (r : VRepL F xs vs) : ns.length = xs.length → ns.Nodup → (∀ x ∈ ns, kindOf x = some .local) → ∀ y, OW F (lvOf ns xs y) (bindL kindOf (ns.zip vs) m y) :=
  VRepL.ind (P := fun xs vs => ∀ (ns : List Str) (m : Str → Option Value), ns.length = xs.length → ns.Nodup → (∀ x ∈ ns, kindOf x = some .local) → ∀ y, OW F (lvOf ns xs y) (bindL kindOf (ns.zip vs) m y)) (fun ns m e _ _ y => by
    cases ns with
    | nil => exact .none
    | cons n ns => cases e) (fun {x v xs vs} hx hl ih ns m e nd hk y => by
    rcases ns with _ | ⟨n, ns⟩
    · cases e
    have nn := (List.nodup_cons.mp nd).1
    simp only [List.zip_cons_cons, lvOf, Lv.put]
    unfold bindL
    rw [if_pos (hk n List.mem_cons_self)]
    by_cases q : y = n
    · subst q
      simp only [if_true]
      rw [bindL_other _ _ _ (fun h => by
        refine ea1_2 (List.mem_map.mp h) fun p hp e => ?_
        exact nn (e ▸ (List.of_mem_zip hp).1)), if_pos rfl]
      exact .some hx
    · simp only [if_neg q]
      exact ih ns _ (Nat.succ.inj e) (List.nodup_cons.mp nd).2 (fun x hx => hk x (List.mem_cons_of_mem _ hx)) y) r ns m
noncomputable def Hp.cells : List (Str × Addr) → Hp → Hp
  | [], H => H
  | p :: r, H => (Hp.cells r H).put p.2 (.cell none)
theorem take_cells {F : Fz} {s : Shared} : ∀ (cs : List (Str × Addr)), St C F H L lv s → (∀ p ∈ cs, s.heap.IsCell p.2 none ∧ F p.2 = none ∧ p.2 ≠ L ∧ p.2 ≠ sysModules) → St C F (Hp.cells cs H) L lv s
  | [], st, _ => st
  | p :: r, st, h => by
    obtain ⟨⟨o, ho, hd⟩, h2, h3, h4⟩ := h p List.mem_cons_self
    exact (take_cells r st fun q hq => h q (List.mem_cons_of_mem _ hq)).take (x := .cell none) ho h2 h3 h4 ⟨none, hd, .none⟩
theorem FnC_cells (O : C.Ok) {f : Addr} {n : Nat} {args : List MV} {Q : MV → Hp → Prop} {name qual : Str} {params : Arguments} {body : List Stmt} {scope : Scope} {dV kV doc pm cdv ct oc : Value} {an od : Option Addr} {osl : Array (Option Value)} (ns : List Str) (cs : Addr → List (Str × Addr))
    (ho : C.K.lookup f = some ⟨oc, od, .func (fnOf name qual params body scope dV kV doc pm an cdv ct), osl⟩) (hcd : codeIn C.K cdv qual = true)
    (hbind : ∀ vs : List Value, vs.length = args.length → bindArgs (fnOf name qual params body scope dV kV doc pm an cdv ct) ⟨vs, []⟩ = pure (ns.zip vs))
    (hlen : ns.length = args.length) (hnd : ns.Nodup) (hloc : ∀ x ∈ ns, scope.names.lookup x = some .local) (hcs : ∀ L, cellsFrom (L + 1) scope.names [] = cs L) (hlk : ∀ L, ∀ p ∈ cs L, (cs L).lookup p.1 = some p.2)
    (h : ∀ A L, Room n A → (∀ p ∈ cs L, H p.2 = none) → WX C A (envX qual scope L f cdv (cs L)) body (Hp.cells (cs L) H) (lvOf ns args) fun fl H' _ => Q fl.out H')
    (hco : scope.isCoroutine = false) (hgen : scope.isGenerator = false) (hk : scope.kind = .function) : FnC C f (n + 1) args H Q := by
  intro A L lv R F s vs hv st
  refine ea5_1 (O.T) fun p loose mean mg mb T => ?_
  have X := O.X.keeps st.keepsB
  refine codeAny_call_cells (fd := fnOf name qual params body scope dV kV doc pm an cdv ct) (body := body) (binds := ns.zip vs) (by have := R.depth; lia) (X _ _ ho) rfl (T.nolimit.keeps st.keepsB) (codeRec_of X hcd) rfl
    (hbind vs hv.length) rfl (fun x hx => .inl (hloc _ (List.of_mem_zip hx).1)) (fun s₁ x => ?_) hco hgen hk
  have hkind : ∀ y ∈ ns, (callEnvC (fnOf name qual params body scope dV kV doc pm an cdv ct) s.heap.objs.size f).kindOf y = some .local := fun y hy => hloc y hy
  rw [bindC_local _ _ (fun y hy => hkind _ (List.of_mem_zip hy).1)] at x
  obtain ⟨x1, x2, x3, x4⟩ := x
  obtain ⟨⟨h₁, tk, rfl⟩, hns, hkeep, hfr⟩ := x1
  refine ea1_4 (enter_St (lv' := lvOf ns args) st hkeep hfr hns tk (bindL_zip ns args vs _ hv hlen hnd hkind)) fun oL le hn hoL st1 => ?_
  have ecs : (callEnvC (fnOf name qual params body scope dV kV doc pm an cdv ct) s.heap.objs.size f).cells = cs s.heap.objs.size := hcs _
  rw [ecs] at x2 x4
  have hb0 : ∀ p ∈ cs s.heap.objs.size, s.heap.objs.size < p.2 := fun p hp => x4 p.1 p.2 hp
  have hfree : ∀ p ∈ cs s.heap.objs.size, s.heap.get? p.2 = none := fun p hp => Heap.get?_none_of_le (Nat.le_of_lt (hb0 p hp))
  have st2 := take_cells (cs s.heap.objs.size) st1 fun p hp => ⟨x2 p.1 p.2 (hlk _ p hp), by
      rw [Fz.put_ne _ _ (st.freshL (hfree p hp))]; exact st.freshF (hfree p hp), Ne.symm (Nat.ne_of_lt (hb0 p hp)), by
      have h1 := hb0 p hp
      have h2 := st.big
      have h3 := st.above
      have h4 := Heap.lt_size hoL
      exact Nat.ne_of_gt (Nat.lt_trans (Nat.lt_of_lt_of_le h2 h3) (Nat.lt_trans h4 h1))⟩
  have eenv : callEnvC (fnOf name qual params body scope dV kV doc pm an cdv ct) s.heap.objs.size f = envX qual scope s.heap.objs.size f cdv (cs s.heap.objs.size) := by rw [← hcs]; rfl
  rw [eenv] at st2 ⊢
  refine Pst.seq (h (A.deeper (envX qual scope s.heap.objs.size f cdv (cs s.heap.objs.size))) s.heap.objs.size (R.deeper _) (fun p hp => st.freshH (hfree p hp)) _ _ st2) fun fl s' F' H' lv' mf k' st' r' q' => ?_
  refine ea0_2 (leave_St st hoL hn k' st') fun le' st3 => ?_
  have hL : F' L = some oL := k' _ _ (Fz.put_self ..)
  refine ⟨_, H', lv, mf.out, le', st3, ?_, rfl, q'⟩
  cases r' with
  | ret r => exact r.del hL hn
  | _ => exact .none
end
end Mine
end
section
open PySem PySem.W PyProof.Rows PySem.Calls PySem.Spec Builtin
set_option Elab.async false
set_option maxRecDepth 100000
set_option linter.unusedVariables false
set_option linter.unusedSectionVars false
namespace Mine
section
variable {C : Cx} {A : Around} {H : Hp} {lv : Lv} {L : Addr} {env : Env}
/-- a def within _law_rounds, made for the first time -/
theorem S_Def (O : C.Ok) {cn : Str} {cs : Scope} {a : Addr} {cl clos : List (Str × Addr)} {name : Str} {params : Arguments} {body : List Stmt} {scope : Scope} {pos : Pos} {Q : MFl → Hp → Lv → Prop}
    (ht : H 190 = some (.raw (tabObj #[]))) (hd0 : params.defaults = []) (hk0 : params.kw_defaults = []) (ha : annTrees params none (envX cn cs L a (.ref 194) cl) = []) (hcl : closureFor scope (envX cn cs L a (.ref 194) cl) = pure clos)
    (hk : cs.kind = .function) (hl : (envX cn cs L a (.ref 194) cl).kindOf name = some .local)
    (h : ∀ f c' oc vs t ctv doc pm, H f = none → H c' = none → f ≠ c' → f ≠ 190 → c' ≠ 190 → oc.data = .fields vs → vs[1]? = some (.str (qualnameIn (envX cn cs L a (.ref 194) cl) name name) t) →
      Q .next (((H.put 190 (.raw (tabObj #[rawInt pos.line, rawInt pos.col, .ref c']))).put c' (.raw oc)).put f (.raw (fnMade name (qualnameIn (envX cn cs L a (.ref 194) cl) name name) params body scope clos doc pm c' ctv))) (lv.put name (.ref f))) :
    WS C A (envX cn cs L a (.ref 194) cl) (.FunctionDef name params body [] none [] scope none name pos) H lv Q := by
  intro F s st
  refine ea5_1 (O.T) fun p loose mean mg mb T => ?_
  obtain ⟨p1, p2, _, hP, rfl⟩ := st.own _ _ ht
  refine nestDef_K hd0 hk0 ha ?_
  refine ea2_6 (T.bmain) fun bm ob b1 b2 b3 b4 b5 b6 => ?_
  have hgs := T.g.keeps st.keepsB
  have hgP : mainGlobals ≠ 190 := by decide
  have hbP : bm ≠ 190 := fun q => by
    have e := st.keepsB _ _ b3
    rw [q, hP] at e; cases e; cases b4
  have hbG : bm ≠ mainGlobals := fun q => by
    refine ea3_3 (T.g) fun o es ep e hd _ => ?_
    rw [q, e] at b3; cases b3; rw [hd] at b6; cases b6
  refine makeFunction_K (mg := mg) (ps := #[]) hcl rfl hgs rfl (O.hd.keeps st.keepsB) hP (by first | exact trivial | exact .nil | (intro _ h; cases h) | constructor | simp [TriplesOk]) rfl hgP ⟨bm, ob, b1, b2, hbG, hbP, st.keepsB _ _ b3, b4, b5, b6⟩ fun c' ctv doc h' tk hx hge hlt hrec htb => ?_
  refine ea4_4 hrec fun c₂ oc vs t e2 hoc hd hv => ?_
  (try clear hrec)
  cases e2
  have hLs : L < s.heap.objs.size := by obtain ⟨m, hm, _⟩ := st.ns; exact hm.lt
  have h190 : (190 : Nat) < s.heap.objs.size := Heap.lt_size hP
  have hS : (190 : Addr) ≠ sysModules := fun z => by rw [z, st.nosys] at ht; cases ht
  have big : sysModules < s.heap.objs.size := Nat.lt_of_lt_of_le st.big (Nat.le_trans st.above (Nat.le_of_lt hLs))
  have st0 := st.less (H' := H.del 190) (fun b y z => by unfold Hp.del at z; split at z; cases z; exact z)
  have st1 := (st0.other (h' := h') (a := 190) hx p1 (if_pos rfl) p2 tk).take (x := .raw (tabObj #[rawInt pos.line, rawInt pos.col, .ref c'])) htb p1 p2 hS rfl
  have e1 : (H.del 190).put 190 (.raw (tabObj #[rawInt pos.line, rawInt pos.col, .ref c'])) = H.put 190 (.raw (tabObj #[rawInt pos.line, rawInt pos.col, .ref c'])) := by
    funext b; unfold Hp.put Hp.del; by_cases q : b = 190 <;> simp [q]
  rw [e1] at st1
  have hc' : s.heap.get? c' = none := Heap.get?_none_of_le hge
  have hf' : s.heap.get? h'.objs.size = none := Heap.get?_none_of_le (Nat.le_of_lt (Nat.lt_of_le_of_lt hge hlt))
  have st2 := st1.take (x := .raw oc) hoc (st.freshF hc') (st.freshL hc') (Nat.ne_of_gt (Nat.lt_of_lt_of_le big hge)) rfl
  have st3 := put_own (x := .raw (fnMade name (qualnameIn (envX cn cs L a (.ref 194) cl) name name) params body scope clos doc ((mg "__name__").getD .none) c' ctv)) (o := fnMade name (qualnameIn (envX cn cs L a (.ref 194) cl) name name) params body scope clos doc ((mg "__name__").getD .none) c' ctv) st2 rfl rfl
  refine store_local (y := .ref h'.objs.size) (env := envX cn cs L a (.ref 194) cl) st3 (.ref _) hl hk fun s' st' => ?_
  exact ⟨F, _, _, .next, Fz.le.refl _, st', .next, h _ _ oc vs t ctv doc _ (st.freshH hf') (st.freshH hc') (Nat.ne_of_gt hlt) (Nat.ne_of_gt (Nat.lt_trans (Nat.lt_of_lt_of_le h190 hge) hlt)) (Nat.ne_of_gt (Nat.lt_of_lt_of_le h190 hge)) hd hv⟩
/-- the call of such a def -/
theorem FnC_nest (O : C.Ok) {f c' : Addr} {n : Nat} {args : List MV} {Q : MV → Hp → Prop} {name qual : Str} {params : Arguments} {body : List Stmt} {scope : Scope} {doc pm ctv : Value} {clos : List (Str × Addr)} {oc : Obj} {vs₀ : Array Value} {t : Tok} (ns : List Str)
    (ho : H f = some (.raw (fnMade name qual params body scope clos doc pm c' ctv))) (hc : H c' = some (.raw oc)) (hcd : oc.data = .fields vs₀) (hcv : vs₀[1]? = some (.str qual t))
    (hbind : ∀ vs : List Value, vs.length = args.length → bindArgs (fnX name qual params body scope clos .none .none doc pm none (.ref c') ctv) ⟨vs, []⟩ = pure (ns.zip vs))
    (hlen : ns.length = args.length) (hnd : ns.Nodup) (hloc : ∀ x ∈ ns, scope.names.lookup x = some .local) (hcell : ∀ x ∈ scope.names, x.2 ≠ .cell)
    (h : ∀ A L, Room n A → WX C A (envX qual scope L f (.ref c') clos) body H (lvOf ns args) fun fl H' _ => Q fl.out H')
    (hco : scope.isCoroutine = false) (hgen : scope.isGenerator = false) (hk : scope.kind = .function) : FnC C f (n + 1) args H Q := by
  intro A L lv R F s vs hv st
  refine ea5_1 (O.T) fun p loose mean mg mb T => ?_
  obtain ⟨_, _, _, hfo, rfl⟩ := st.own _ _ ho
  obtain ⟨_, _, _, hco', rfl⟩ := st.own _ _ hc
  refine codeAny_call_def (fd := fnX name qual params body scope clos .none .none doc pm none (.ref c') ctv) (body := body) (binds := ns.zip vs) (by have := R.depth; lia) hfo rfl (T.nolimit.keeps st.keepsB) ⟨c', _, vs₀, t, rfl, hco', hcd, hcv⟩ rfl
    (BindsTo.of_eq (hbind vs hv.length)) hcell (fun x hx => hloc _ (List.of_mem_zip hx).1) (fun h₁ hns hk₁ => ?_) hco hgen hk
  refine ea1_4 (enter_St (lv' := lvOf ns args) st hk₁ (Nat.le_refl _) hns (s.toks + (ns.zip vs).length) (lookup_binds ns args vs hv hlen hnd)) fun oL le hn hoL st1 => ?_
  refine Pst.seq (h _ s.heap.objs.size (R.deeper _) _ _ st1) fun fl s' F' H' lv' mf k' st' r' q' => ?_
  refine ea0_2 (leave_St st hoL hn k' st') fun le' st2 => ?_
  have hL : F' L = some oL := k' _ _ (Fz.put_self ..)
  refine ⟨_, H', lv, mf.out, le', st2, ?_, rfl, q'⟩
  cases r' with
  | ret r => exact r.del hL hn
  | _ => exact .none
end
end Mine
end
section
open PySem PySem.W PyProof.Rows PySem.Calls PySem.Spec Builtin
set_option Elab.async false
set_option maxRecDepth 100000
set_option linter.unusedVariables false
set_option linter.unusedSectionVars false
namespace Mine
section
variable {C : Cx} {A : Around} {H : Hp} {lv : Lv} {L : Addr} {env : Env}
/-! ### small helps on what is owned -/
theorem Hp.get_ne {H : Hp} {a b : Addr} {x y : MObj} (h : b ≠ a) (e : H b = some y) : (H.put a x) b = some y := by rw [Hp.put_ne _ _ h]; exact e
theorem Hp.none_ne {H : Hp} {a b : Addr} {x : MObj} (h : b ≠ a) (e : H b = none) : (H.put a x) b = none := by rw [Hp.put_ne _ _ h]; exact e
theorem Hp.put_none {H : Hp} {a b : Addr} {x : MObj} (h : (H.put b x) a = none) : a ≠ b ∧ H a = none := by
  have : a ≠ b := fun e => by subst e; rw [Hp.put_self] at h; cases h
  exact ⟨this, by rw [Hp.put_ne _ _ this] at h; exact h⟩
theorem ne_of_own {H : Hp} {a b : Addr} {x : MObj} (h : H a = some x) (h' : H b = none) : a ≠ b := fun e => by subst e; rw [h] at h'; cases h'
theorem Sub.put {H : Hp} {a : Addr} {x : MObj} (h : H a = none) : Sub H (H.put a x) := fun b y e => Hp.get_ne (ne_of_own e h) e
theorem Sub.trans {H H' H'' : Hp} (h : Sub H H') (h' : Sub H' H'') : Sub H H'' := fun a x e => h' a x (h a x e)
theorem Sub.none {H H' : Hp} (h : Sub H H') {a : Addr} (e : H' a = none) : H a = none := by
  cases q : H a with
  | none => rfl
  | some x => rw [h a x q] at e; cases e
/-- all but some stays -/
noncomputable def Keep (ex : List Addr) (H H' : Hp) : Prop := ∀ a x, H a = some x → a ∉ ex → H' a = some x
theorem Keep.trans {ex : List Addr} {H H' H'' : Hp} (h : Keep ex H H') (h' : Keep ex H' H'') : Keep ex H H'' := fun a x e n => h' a x (h a x e n) n
theorem Keep.put {ex : List Addr} {H : Hp} {a : Addr} {x : MObj} (h : a ∈ ex) : Keep ex H (H.put a x) := fun b y e n => Hp.get_ne (fun q => n (q ▸ h)) e
theorem Keep.new {ex : List Addr} {H : Hp} {a : Addr} {x : MObj} (h : H a = none) : Keep ex H (H.put a x) := fun b y e n => Hp.get_ne (ne_of_own e h) e
theorem Keep.of_sub {ex : List Addr} {H H' : Hp} (h : Sub H H') : Keep ex H H' := fun a x e _ => h a x e
theorem Hp.del_ne {H : Hp} {a b : Addr} (h : b ≠ a) : (H.del a) b = H b := if_neg h
theorem Fn.mono {f : Addr} {n : Nat} {args : List MV} {Q Q' : MV → Hp → Prop} (h : Fn C f n args H Q) (k : ∀ v H', Q v H' → Q' v H') : Fn C f n args H Q' :=
  fun A L lv R => (h A L lv R).mono fun v H' lv' q => ⟨q.1, k _ _ q.2⟩
theorem Fn.sub {f : Addr} {n : Nat} {args : List MV} {Q : MV → Hp → Prop} (h : Fn C f n args H fun v H' => ∃ H'', Sub H'' H' ∧ Q v H'') : Fn C f n args H Q := by
  intro A L lv R F s g vs hg hv st
  refine Pst.seq (h A L lv R F s g vs hg hv st) fun v s' F' H' lv' y k' st' r' q0 => ea0_2 q0 fun e q1 => ea1_2 q1 fun H'' hs q => ?_
  exact ⟨F', H'', lv', y, k', st'.less hs, r', e, q⟩
theorem OC_FnC {f : Addr} {n : Nat} {args : List MV} {Q : MV → Hp → Lv → Prop} {Q' : MV → Hp → Prop} (h : FnC C f n args H Q') (R : Room n A) (k : ∀ v H', Q' v H' → Q v H' lv) : OC C A L (.ref f) args H lv Q :=
  OC_Fn h.fn R k
/-! ### loops by a fold -/
/-- by the turn's number -/
theorem ForW_idx {X : Type} (f : X → MV) {t : Expr} {b : List Stmt} {P : Hp → Prop} {Qe : Hp → Lv → Prop} {Q : MFl → Hp → Lv → Prop} (Inv : Nat → Hp → Lv → Prop) (l : List X) 
    (turn : ∀ i H lv (hi : i < l.length), Inv i H lv → OA C A env t (f l[i]) H lv fun H lv => WX C A env b H lv (loopQ (fun H lv => P H → Inv (i + 1) H lv) fun f H lv => P H → Q f H lv))
    (k : ∀ H lv, Inv l.length H lv → Qe H lv) : ∀ (m i : Nat), m + i = l.length → ∀ (H : Hp) (lv : Lv), Inv i H lv → ForW C A env t b P Qe Q ((l.drop i).map f) H lv
  | 0, i, e, H, lv, h => by
    rw [List.drop_eq_nil_of_le (by lia)]
    have : i = l.length := by lia
    exact k H lv (this ▸ h)
  | m + 1, i, e, H, lv, h => by
    have hi : i < l.length := by lia
    rw [List.drop_eq_getElem_cons hi, List.map_cons]
    refine ForW_cons fun F s' v r st => ?_
    refine Pst.seq (turn i H lv hi h F s' v r st) fun u s1 F1 H1 lv1 y k1 st1 r1 q1 => ⟨F1, H1, lv1, y, k1, st1, r1, q1.mono fun f H lv q => ?_⟩
    cases f with
    | next => exact fun p => ForW_idx _ Inv l turn k m (i + 1) (by lia) H lv (q p)
    | cont => exact fun p => ForW_idx _ Inv l turn k m (i + 1) (by lia) H lv (q p)
    | brk => exact q
    | ret v => exact q
/-! ### enumerate over a tuple -/
noncomputable def ForE (C : Cx) (A : Around) (env : Env) (ts : List Expr) (b : List Stmt) (Qe : Hp → Lv → Prop) (Q : MFl → Hp → Lv → Prop) : Nat → List MV → Hp → Lv → Prop
  | _, [], H, lv => Qe H lv
  | i, x :: xs, H, lv => OAs C A env ts [.int i, x] H lv fun H lv => WX C A env b H lv (loopQ (fun H lv => ForE C A env ts b Qe Q (i + 1) xs H lv) Q)
theorem for_enum {ts : List Expr} {k : Nat} {p : Pos} {b o : List Stmt} {e it t : Addr} {vs : List Value} {l : List MV} {n : Nat} {Q : MFl → Hp → Lv → Prop} {F₀ : Fz} {s : Shared} (hh : A.handled = none)
    (ht : F₀ t = some (tupObj vs n)) (r : VRepL F₀ l vs) (hFe : F₀ e = none) (hFi : F₀ it = none) (hHe : H e = none) (hHi : H it = none) (hLe : e ≠ env.locals) (hLi : it ≠ env.locals) (hbe : C.h₀.get? e = none) (hbi : C.h₀.get? it = none) (hei : e ≠ it)
    (st : St C F₀ H env.locals lv s) (he : IsEnum s.heap e it 0 .none) (hit : s.heap.IsTupleIter it t 0) (hlen : ts.length = 2) (hem : (assignEach ts env).map (·.2) = ts.map (fun t => assign t env)) (hstar : (assignEach ts env).findIdx? (·.1) = none)
    (h : ForE C A env ts b (fun H lv => WX C A env o H lv Q) Q 0 l H lv) :
    codeAny C.M A (.forLoop (.Tuple ts k p) (.ref e) b o env) (fun r s' => match r with | .ok f => Pst C env.locals FRep F₀ Q f s' | .error e => cameBackBy C.M A env NoE e s') s := by
  have hti : t ≠ it := fun q => by subst q; rw [ht] at hFi; cases hFi
  have hte : t ≠ e := fun q => by subst q; rw [ht] at hFe; cases hFe
  have hen : (assignEach ts env).length = ts.length := by have := congrArg List.length hem; simpa using this
  have D := draws_tup (prog := Pg) (w := C.w) (A := A.in1) hh it t hti vs.toArray
  have hvl := r.length
  refine codeAny_forLoop_any (fun m s' => ∃ i F' H' lv', m + i = l.length + 1 ∧ i ≤ l.length ∧ F₀.le F' ∧ F' e = none ∧ F' it = none ∧ H' e = none ∧ H' it = none ∧ St C F' H' env.locals lv' s' ∧ (∃ old, IsEnum s'.heap e it ((i : Nat) : Int) old) ∧ s'.heap.IsTupleIter it t i ∧ ForE C A env ts b (fun H lv => WX C A env o H lv Q) Q i (l.drop i) H' lv')
    (fun m s' zz => ea4_11 zz fun i F' H' lv' hm hi k' hFe' hFi' hHe' hHi' st' hold hit' hW => ea1_1 hold fun old he' => ?_) (l.length + 1) ⟨0, F₀, H, lv, rfl, Nat.zero_le _, Fz.le.refl _, hFe, hFi, hHe, hHi, st, ⟨_, he⟩, hit, h⟩
  have htt : s'.heap.IsTuple t vs.toArray := ⟨_, st'.fz _ _ (k' _ _ ht), rfl, _, rfl⟩
  rcases Nat.lt_or_ge i l.length with hlt | hge
  · refine wpAny_pyNext_enum_itemD D he' ⟨hit', htt⟩ (by rw [List.size_toArray, hvl]; exact hlt) hei (by simp [hei, Ne.symm hte]) fun x h' tk hx hout hst' hT hsz hkeep => ?_
    refine ea0_2 hst' fun hit2 htt2 => ?_
    (try clear hst')
    rw [List.drop_eq_getElem_cons hlt] at hW
    have st0 : St C F' H' env.locals lv' { s' with heap := h', toks := tk + 1 } := by
      refine ⟨fun b o eb => hkeep b o (fun q => by subst q; rw [hFe'] at eb; cases eb) (fun q => by subst q; rw [hFi'] at eb; cases eb) (st'.fz b o eb), fun b x eb => let ⟨p1, p2, o, p3, p4⟩ := st'.own b x eb; ⟨p1, p2, o, hkeep b o (fun q => by subst q; rw [hHe'] at eb; cases eb) (fun q => by subst q; rw [hHi'] at eb; cases eb) p3, p4⟩, st'.fL, ?_, st'.base, st'.above, st'.gens, st'.os, st'.nosys, st'.big⟩
      obtain ⟨mm, ⟨o, es, ep, q1, q2⟩, q3⟩ := st'.ns
      exact ⟨mm, ⟨o, es, ep, hkeep _ o (Ne.symm hLe) (Ne.symm hLi) q1, q2⟩, q3⟩
    refine wpAny_letOwnedTupleGo_enum (s := { s' with heap := h', toks := tk + 1 }) hout fun h2 he2 hs2 => ?_
    have st1 := st0.other (h' := h2) (a := e) (fun b o hb eb => (hs2.2 b hb).trans eb) hFe' hHe' hLe (tk + 1)
    have hT2 : h2.get? s'.heap.objs.size = some { cls := .type "tuple", data := .seq #[.int i tk, x] } := (hs2.2 _ (fun q => by
      have := Heap.lt_size he'; rw [← q] at this; exact Nat.lt_irrefl _ this)).trans hT
    have hit3 : h2.IsTupleIter it t (i + 1) := let ⟨oo, q1, q2⟩ := hit2; ⟨oo, (hs2.2 _ (Ne.symm hei)).trans q1, q2⟩
    refine ea1_3 (id hit3) fun oI hoI hcI hdI => ?_
    have nI : ¬ Imm oI := okIter_imm (n := "tuple_iterator") hcI (by decide)
    have nE : ¬ Imm { cls := .type "enumerate", dict := none, data := .fields #[.none, .bool false, .ref it, rawInt ((i : Int) + 1), .none, x], slots := #[] } := by
      rintro (⟨_, _, q⟩ | ⟨_, _, _, _, _, q⟩)
      · have := congrArg Obj.cls q; simp [tupObj] at this
      · have := congrArg Obj.cls q; simp [rngObj] at this
    have st2 := st1.freeze hoI hFi' hHi' hLi
    have le2 := Fz.le_put oI hFi'
    have hFe2 : (F'.put it oI) e = none := by rw [Fz.put_ne _ _ hei]; exact hFe'
    have st3 := st2.freeze he2 hFe2 hHe' hLe
    have le3 := le2.trans (Fz.le_put { cls := .type "enumerate", dict := none, data := .fields #[.none, .bool false, .ref it, rawInt ((i : Int) + 1), .none, x], slots := #[] } hFe2)
    have ht2 : IsTup h2 s'.heap.objs.size #[.int i tk, x] := ⟨_, hT2, rfl, _, rfl⟩
    refine wpAny_mono (E := NoE) (Q := fun _ s2 => Pst C env.locals UR ((F'.put it oI).put e { cls := .type "enumerate", dict := none, data := .fields #[.none, .bool false, .ref it, rawInt ((i : Int) + 1), .none, x], slots := #[] }) (fun _ H lv => WX C A env b H lv (loopQ (fun H lv => ForE C A env ts b (fun H lv => WX C A env o H lv Q) Q (i + 1) (l.drop (i + 1)) H lv) Q)) () s2)
      (assign_Tuple_tuple (s := { s' with heap := h2, toks := tk + 1 }) hh ht2 (by rw [hen, hlen]; rfl) hstar fun h3 hx3 => ?_) (fun u s2 zz => ea4_4 zz fun F2 H2 lv2 _ k2 st2' _ q2 => ?_) fun _ _ e => e.elim
    · rw [hem]
      have st4 := st3.keeps (h' := h3) (fun b o eb => hx3 b o (Nat.ne_of_lt (Heap.lt_size eb)) eb) (tk + 1)
      refine ea1_2 (r.get (i := i) (x := l[i]) (by simp [hlt])) fun v' hv' rv => ?_
      have : x = v' := by simpa [hv'] using hx.symm
      subst this
      exact assigns_sound ts [.int i, l[i]] H' lv' _ _ [.int i tk, x] (.cons (.int _ _) (.cons ((rv.mono k').mono le3) .nil)) st4 hW
    refine Pst.seq (q2 F2 s2 st2') fun f s3 F3 H3 lv3 mf k3 st5 r3 q3 => ?_
    have kk := k2.trans k3
    have hE3 : F3 e = some _ := kk _ _ (Fz.put_self ..)
    have hI3 : F3 it = some oI := kk _ _ (by rw [Fz.put_ne _ _ (Ne.symm hei)]; exact Fz.put_self ..)
    have hHe3 : H3 e = none := by
      cases q : H3 e with
      | none => rfl
      | some x => have := (st5.own e x q).1; rw [hE3] at this; cases this
    have hHi3 : H3 it = none := by
      cases q : H3 it with
      | none => rfl
      | some x => have := (st5.own it x q).1; rw [hI3] at this; cases this
    have st6 := st5.melt hE3 nE hbe
    have hI4 : (F3.del e) it = some oI := by unfold Fz.del; rw [if_neg (Ne.symm hei)]; exact hI3
    have st7 := st6.melt hI4 nI hbi
    have le7 : F'.le ((F3.del e).del it) := le_del hFi' (le_del hFe2 kk)
    have hFe7 : ((F3.del e).del it) e = none := by unfold Fz.del; rw [if_neg hei, if_pos rfl]
    have nxt : ForE C A env ts b (fun H lv => WX C A env o H lv Q) Q (i + 1) (l.drop (i + 1)) H3 lv3 → ∃ m', m' < m ∧ ∃ i F' H' lv', m' + i = l.length + 1 ∧ i ≤ l.length ∧ F₀.le F' ∧ F' e = none ∧ F' it = none ∧ H' e = none ∧ H' it = none ∧ St C F' H' env.locals lv' s3 ∧ (∃ old, IsEnum s3.heap e it ((i : Nat) : Int) old) ∧ s3.heap.IsTupleIter it t i ∧ ForE C A env ts b (fun H lv => WX C A env o H lv Q) Q i (l.drop i) H' lv' := fun hw =>
      ⟨m - 1, by lia, i + 1, _, H3, lv3, by lia, hlt, k'.trans le7, hFe7, if_pos rfl, hHe3, hHi3, st7, ⟨x, by simpa using st5.fz _ _ hE3⟩, ⟨oI, st5.fz _ _ hI3, hcI, hdI⟩, hw⟩
    cases r3 with
    | next => exact nxt q3
    | cont => exact nxt q3
    | brk => exact ⟨_, H3, lv3, .next, k'.trans le7, st7, .next, q3⟩
    | ret rr => exact ⟨_, H3, lv3, _, k'.trans le7, st7, .ret ((rr.del hE3 nE).del hI4 nI), q3⟩
  · have : i = l.length := by lia
    subst this
    refine wpAny_pyNext_enum_endD D he' (by rw [List.size_toArray, hvl]; exact ⟨hit', htt⟩) fun h' hx => ?_
    have st1 := st'.other (h' := h') (a := it) (fun b o hb eb => hx b o hb eb) hFi' hHi' hLi s'.toks
    rw [List.drop_eq_nil_of_le (Nat.le_refl _)] at hW
    exact Pst.up k' (hW F' _ st1)
theorem S_ForEnum (O : C.Ok) {ts : List Expr} {k : Nat} {p p1 pos pos2 : Pos} {b o : List Stmt} {e : Expr} {id : Str} {Q : MFl → Hp → Lv → Prop} (hh : A.handled = none)
    (hn : WE C A env (.Name id p1) H lv fun g H' lv' => g = .ty "enumerate" ∧ WL C A env pos [e] H' lv' fun l H lv => ∃ items, l = [.tup items] ∧ ForE C A env ts b (fun H lv => WX C A env o H lv Q) Q 0 items H lv)
    (hlen : ts.length = 2 := by rfl) (hem : (assignEach ts env).map (·.2) = ts.map (fun t => assign t env) := by rfl) (hstar : (assignEach ts env).findIdx? (·.1) = none := by rfl)
    (he : starEach [e] env = (false, eval e env) :: starEach [] env := by rfl) (hplain : (backTo pos (starEach [] env)).any (·.1) = false := by rfl) (hs : ∀ x, foldedSetIterable (.Call (.Name id p1) [e] [] pos) env x = pure x := by intro _; rfl) :
    WS C A env (.For (.Tuple ts k p) (.Call (.Name id p1) [e] [] pos) b o pos2) H lv Q := fun F s st => by
  refine wpAny_For (wpAny_Call_Name_kw (Pst.seq (hn F s st) fun g s1 F1 H1 lv1 f k1 st1 r1 q1 => ?_)) hs
  refine ea0_2 q1 fun qq0 hl => ?_
  subst qq0
  (try clear q1)
  cases r1
  have h' := hl F1 s1 st1
  rw [he] at h' ⊢
  refine callWith_of (P := fun hp => ∃ k, (k = Keeper.frame ∨ k = Keeper.machine ∨ k = Keeper.boundFrame) ∧ Looks C.M hp (keeperOf (.type "enumerate")) k) (by show ((false || (backTo pos (starEach [] env)).any (·.1)) || false) = false; rw [hplain]; rfl) (fun hp e => e) (evalArgs_plain (Pst.seq h' fun ws s2 F2 H2 lv2 l k2 st2 r2 q2 => ?_))
  refine ⟨⟨.machine, .inr (.inl rfl), Looks.of_pure rfl⟩, ?_⟩
  refine ea1_2 q2 fun items qq1 hw => ?_
  subst qq1
  (try clear q2)
  cases r2 with
  | cons ra rb =>
    cases rb
    cases ra with
    | @tup a _ vs n et rt =>
      have ho := st2.fz _ _ et
      refine call_enum_tup ho fun h3 he3 hi3 hsz hk3 => ?_
      refine wpAny_pyIter_enum he3 ?_
      have st3 := st2.keeps (h' := h3) hk3 s2.toks
      have z1 : s2.heap.get? (s2.heap.objs.size + 1) = none := Heap.get?_none_of_le (Nat.le_succ _)
      have z0 := size_fresh s2.heap
      have hb : ∀ x, s2.heap.get? x = none → C.h₀.get? x = none := fun x hx => by
        cases q : C.h₀.get? x with
        | none => rfl
        | some o => have := st2.keepsB _ _ q; rw [hx] at this; cases this
      refine codeAny_mono (for_enum hh et rt (st2.freshF z1) (st2.freshF z0) (st2.freshH z1) (st2.freshH z0) (st2.freshL z1) (st2.freshL z0) (hb _ z1) (hb _ z0) (Nat.succ_ne_self _) st3 he3 hi3 hlen hem hstar hw) fun r s' hr => ?_
      cases r with
      | ok f => exact hr.le (k1.trans k2)
      | error e => exact hr
end
end Mine
end
section
open PySem PySem.W PyProof.Rows PySem.Calls PySem.Spec Builtin
set_option Elab.async false
set_option maxRecDepth 100000
set_option linter.unusedVariables false
set_option linter.unusedSectionVars false
namespace Mine
section
variable {C : Cx} {A : Around} {H : Hp} {lv : Lv} {L : Addr} {env : Env}
theorem OA.lessL {t : Expr} {x : MV} {lv' : Lv} {Q : Hp → Lv → Prop} (h : OA C A env t x H lv' Q) (k : ∀ x y, lv' x = some y → lv x = some y) : OA C A env t x H lv Q :=
  fun F s v r st => h F s v r (st.lessL k)
theorem OA.mono {t : Expr} {x : MV} {Q Q' : Hp → Lv → Prop} (h : OA C A env t x H lv Q) (k : ∀ H lv, Q H lv → Q' H lv) : OA C A env t x H lv Q' :=
  fun F s v r st => Pst.seq (h F s v r st) fun u s1 F1 H1 lv1 y k1 st1 r1 q1 => ⟨F1, H1, lv1, y, k1, st1, r1, k _ _ q1⟩
/-- the loop by the turn's number, over the frame's names -/
theorem ForW_N {X : Type} (ns : List Str) (f : X → MV) {t : Expr} {b : List Stmt} {P : Hp → Prop} {Qe : Hp → Lv → Prop} {Q : MFl → Hp → Lv → Prop} (Inv : Nat → Hp → List MV → Prop) (l : List X)
    (turn : ∀ i H vs (hi : i < l.length), Inv i H vs → OA C A env t (f l[i]) H (lvOf ns vs) fun H lv => WX C A env b H lv (loopQ (fun H lv => P H → ∃ vs', AllAt lv ns vs' ∧ Inv (i + 1) H vs') fun f H lv => P H → Q f H lv))
    (vs : List MV) (ha : AllAt lv ns vs) (h0 : Inv 0 H vs) (k : ∀ H vs lv, AllAt lv ns vs → Inv l.length H vs → Qe H lv) : ForW C A env t b P Qe Q (l.map f) H lv := by
  have := ForW_idx (C := C) (A := A) (env := env) f (t := t) (b := b) (P := P) (Qe := Qe) (Q := Q) (fun i H lv => ∃ vs, AllAt lv ns vs ∧ Inv i H vs) l (fun i H lv hi zz => ea1_2 zz fun vs ha hv => (turn i H vs hi hv).lessL (lvOf_sub ns vs ha)) (fun H lv zz => ea1_2 zz fun vs ha hv => k H vs lv ha hv) l.length 0 (by lia) H lv ⟨vs, ha, h0⟩
  simpa using this
theorem ForE_N {X : Type} (ns : List Str) (f : X → MV) {t1 t2 : Expr} {b : List Stmt} {Qe : Hp → Lv → Prop} {Q : MFl → Hp → Lv → Prop} (Inv : Nat → Hp → List MV → Prop) (l : List X)
    (turn : ∀ i H vs (hi : i < l.length), Inv i H vs → OAs C A env [t1, t2] [.int i, f l[i]] H (lvOf ns vs) fun H lv => WX C A env b H lv (loopQ (fun H lv => ∃ vs', AllAt lv ns vs' ∧ Inv (i + 1) H vs') Q))
    (k : ∀ H vs lv, AllAt lv ns vs → Inv l.length H vs → Qe H lv) : ∀ (m i : Nat), m + i = l.length → ∀ (H : Hp) (lv : Lv) (vs : List MV), AllAt lv ns vs → Inv i H vs → ForE C A env [t1, t2] b Qe Q i ((l.drop i).map f) H lv
  | 0, i, e, H, lv, vs, ha, h => by
    rw [List.drop_eq_nil_of_le (by lia)]
    have : i = l.length := by lia
    exact k H vs lv ha (this ▸ h)
  | m + 1, i, e, H, lv, vs, ha, h => by
    have hi : i < l.length := by lia
    rw [List.drop_eq_getElem_cons hi, List.map_cons]
    have tn := turn i H vs hi h
    unfold OAs at tn
    show OAs C A env [t1, t2] [.int i, f l[i]] H lv _
    unfold OAs
    refine OA.mono (OA.lessL tn (lvOf_sub ns vs ha)) fun H lv q => ?_
    unfold OAs at q ⊢
    refine OA.mono q fun H lv q => ?_
    unfold OAs at q ⊢
    refine W.mono q fun f H lv q => ?_
    cases f with
    | next => obtain ⟨vs', a, b⟩ := q; exact ForE_N ns _ Inv l turn k m (i + 1) (by lia) H lv vs' a b
    | cont => obtain ⟨vs', a, b⟩ := q; exact ForE_N ns _ Inv l turn k m (i + 1) (by lia) H lv vs' a b
    | brk => exact q
    | ret v => exact q
end
end Mine
end
section
open PySem PySem.W PyProof.Rows PySem.Calls PySem.Spec Builtin
set_option Elab.async false
set_option maxRecDepth 100000
set_option linter.unusedVariables false
set_option linter.unusedSectionVars false
namespace Mine
section
variable {C : Cx} {A : Around} {H : Hp} {lv : Lv} {L : Addr} {env : Env}
/-- a comprehension that maps -/
theorem CompW_map {X : Type} (f g : X → MV) {cenv : Env} {t elt : Expr} {D : Addr} {Pr Qe : Hp → Prop} {H0 : Hp} : ∀ (xs : List X) (l : List MV) (lv : Lv),
    (∀ x l lv, x ∈ xs → OA C A cenv t (f x) (H0.put D (.list l)) lv fun H lv => WE C A cenv elt H lv fun y H' lv' => H' = H0.put D (.list l) ∧ y = g x) →
    l.length + xs.length ≤ 90000 → Qe (H0.put D (.list (l ++ xs.map g))) → CompW C A cenv t elt D Pr Qe (xs.map f) (H0.put D (.list l)) lv
  | [], l, lv, _, _, k => by
    rw [List.map_nil, List.append_nil] at k
    exact k
  | x :: xs, l, lv, turn, hsz, k => by
    rw [List.map_cons]
    show OA C A cenv t (f x) (H0.put D (.list l)) lv _
    refine OA.mono (turn x l lv List.mem_cons_self) fun H lv q => W.mono q fun y H lv q => ?_
    refine ea0_2 q fun qq0 qq1 => ?_
    subst qq0 qq1
    (try clear q)
    simp only [List.length_cons] at hsz
    refine ⟨l, Hp.put_self .., by lia, fun _ => ?_⟩
    rw [Hp.put_put]
    exact CompW_map f g xs (l ++ [g x]) lv (fun x l lv hx => turn x l lv (List.mem_cons_of_mem _ hx)) (by simp; lia) (by simpa using k)
/-- a deed, a choice, a pair -/
noncomputable abbrev dP (p : Int × Int) : MV := .tup [.int p.1, .int p.2]
noncomputable abbrev cP (p : Int × Int × Int) : MV := .tup [.int p.1, .int p.2.1, .int p.2.2]
/-- a range from a on, by the turn's number -/
theorem F_rngN (ns : List Str) {t : Expr} {b o : List Stmt} {x y : Int} (n : Nat) {Q : MFl → Hp → Lv → Prop} (hh : A.handled = none) (hx : -1000000 ≤ x ∧ x ≤ 1000000) (hn : y = x + n) (hs : n ≤ 1000000) (Inv : Nat → Hp → List MV → Prop)
    (turn : ∀ (i : Nat) H vs, i < n → Inv i H vs → OA C A env t (.int (x + i)) H (lvOf ns vs) fun H lv => WX C A env b H lv (loopQ (fun H lv => ∃ vs', AllAt lv ns vs' ∧ Inv (i + 1) H vs') Q))
    (vs : List MV) (ha : AllAt lv ns vs) (h0 : Inv 0 H vs) (k : ∀ H vs, Inv n H vs → WX C A env o H (lvOf ns vs) Q) : OF C A env t b o (.rng x y) H lv Q := by
  refine F_rng hh (by lia) (by lia) (by lia) (by lia) ?_
  have e : (y - x).toNat = n := by lia
  unfold rngL
  rw [e]
  refine ForW_N ns (fun i : Nat => MV.int (x + (i : Nat))) Inv (List.range n) (fun i H vs hi hv => ?_) vs ha h0 fun H vs lv ha hv => ?_
  · simp only [List.getElem_range]
    simp only [List.length_range] at hi
    refine OA.mono (turn i H vs hi hv) fun H lv q => W.mono q fun f H lv q => ?_
    cases f with
    | next => exact fun _ => q
    | cont => exact fun _ => q
    | brk => exact fun _ => q
    | ret v => exact fun _ => q
  · rw [List.length_range] at hv
    exact W.lessL (k H vs hv) (lvOf_sub ns vs ha)
theorem Hp.get_del {H : Hp} {a b : Addr} {y : MObj} (h : b ≠ a) (e : H b = some y) : (H.del a) b = some y := by rw [Hp.del_ne h]; exact e
theorem Hp.del_none {H : Hp} {a b : Addr} (h : b ≠ a) (e : (H.del a) b = none) : H b = none := by rw [Hp.del_ne h] at e; exact e
theorem W_DictS {pos : Pos} {Q : MV → Hp → Lv → Prop} (h : ∀ a, H a = none → Q (.ref a) (H.put a (.sd [])) lv) : WE C A env (.Dict [] [] pos) H lv Q := W_Dict0 (sK C) h
theorem W_DictI {pos : Pos} {Q : MV → Hp → Lv → Prop} (h : ∀ a, H a = none → Q (.ref a) (H.put a (.idd [])) lv) : WE C A env (.Dict [] [] pos) H lv Q := W_Dict0 (iK C) h
theorem G_dictS {a : Addr} {l : List (Str × MV)} {k : Str} {x : MV} {v i : Expr} {Q : MV → Hp → Lv → Prop} (e : H a = some (.sd l)) (hx : dget l k = some x) (h : Q x H lv) (hi : plainSlice i = true := by rfl) : O2 C A L VRep (subscriptTail v i) (.ref a) (.str k) H lv Q := G_dict (sK C) e hx h hi
theorem G_dictI {a : Addr} {l : List (Int × MV)} {k : Int} {x : MV} {v i : Expr} {Q : MV → Hp → Lv → Prop} (e : H a = some (.idd l)) (hx : dget l k = some x) (h : Q x H lv) (hi : plainSlice i = true := by rfl) : O2 C A L VRep (subscriptTail v i) (.ref a) (.int k) H lv Q := G_dict (iK C) e hx h hi
theorem I_dictS {a : Addr} {l : List (Str × MV)} {k : Str} {x : MV} {Q : Unit → Hp → Lv → Prop} (e : H a = some (.sd l)) (hsz : l.length ≤ 100000) (h : Q () (H.put a (.sd (dput l k x))) lv) : O3 C A L UR (fun a b c => setItem a b c) (.ref a) (.str k) x H lv Q := I_dict (sK C) e hsz h
theorem I_dictI {a : Addr} {l : List (Int × MV)} {k : Int} {x : MV} {Q : Unit → Hp → Lv → Prop} (e : H a = some (.idd l)) (hsz : l.length ≤ 100000) (h : Q () (H.put a (.idd (dput l k x))) lv) : O3 C A L UR (fun a b c => setItem a b c) (.ref a) (.int k) x H lv Q := I_dict (iK C) e hsz h
theorem M_getS {a : Addr} {l : List (Str × MV)} {Q : MV × List MV → Hp → Lv → Prop} (e : H a = some (.sd l)) (h : Q (.bi "dict.get", [.ref a]) H lv) : OM C A L (Str.ofString "get") (.ref a) H lv Q := M_get (sK C) e h
theorem K_getS {a : Addr} {l : List (Str × MV)} {k : Str} {d : MV} {Q : MV → Hp → Lv → Prop} (e : H a = some (.sd l)) (h : Q ((dget l k).getD d) H lv) : OC C A L (.bi "dict.get") [.ref a, .str k, d] H lv Q := K_get2 (sK C) e h
theorem C_notInI {a : Addr} {l : List (Int × MV)} {k : Int} {Q : MV → Hp → Lv → Prop} (e : H a = some (.idd l)) (h : Q (.bool (!(dget l k).isSome)) H lv) : O2 C A L VRep (compareOp .NotIn) (.int k) (.ref a) H lv Q := C_notIn (iK C) e h
theorem K_dictS {a : Addr} {l : List (Str × MV)} {Q : MV → Hp → Lv → Prop} (e : H a = some (.sd l)) (hsz : l.length ≤ 100000) (h : ∀ b, H b = Option.none → Q (.ref b) (H.put b (.sd l)) lv) : OC C A L (.ty "dict") [.ref a] H lv Q := K_dict (sK C) e hsz h
theorem C_eqDS {a b : Addr} {l l' : List (Str × Int)} {Q : MV → Hp → Lv → Prop} (hu : A.units < cLine) (e : H a = some (.sd (iVals l))) (e' : H b = some (.sd (iVals l'))) (h : Q (.bool (dEq l l')) H lv) : O2 C A L VRep (compareOp .Eq) (.ref a) (.ref b) H lv Q := C_eqD (sK C) hu e e' h
theorem B_addTT {s s' : Str} (x y : List Nat) {Q : MV → Hp → Lv → Prop} (ex : s = mkS x) (ey : s' = mkS y) (h : Q (.str (mkS (x ++ y))) H lv) (hsz : x.length + y.length ≤ 100000) : O2 C A L VRep (binaryOp .Add) (.str s) (.str s') H lv Q := by
  subst ex ey; exact B_addT h hsz
end
end Mine
end
section
open PySem PySem.W PyProof.Rows PySem.Calls PySem.Spec Builtin
set_option Elab.async false
set_option maxRecDepth 100000
set_option linter.unusedVariables false
set_option linter.unusedSectionVars false
namespace Mine
section
variable {C : Cx} {A : Around} {H : Hp} {lv : Lv} {L : Addr} {env : Env}
/-- who keeps the arguments, as things stand -/
noncomputable def CalleeH (C : Cx) (H : Hp) (f : MV) : Prop := ∀ F v (s : Shared) (L : Addr) (lv : Lv), VRep F f v → St C F H L lv s → ∃ k, (k = Keeper.frame ∨ k = Keeper.machine ∨ k = Keeper.boundFrame) ∧ Looks C.M s.heap (keeperOf v) k
theorem callee_own {f : Addr} {o : Obj} {fd : FuncData} (e : H f = some (.raw o)) (hd : o.data = .func fd) : CalleeH C H (.ref f) := fun F v s L lv hv st => by
  cases hv
  obtain ⟨_, _, _, ho, rfl⟩ := st.own _ _ e
  refine ⟨.frame, .inl rfl, fun A Q E s' k q => ?_⟩
  show wpAny _ _ (load f >>= _) _ _ _
  refine wpAny_bind (wpAny_load (k _ _ ho) ?_)
  rw [hd]
  exact wpAny_pure q
theorem callWith_SH {env : Env} {pos : Pos} {F : Fz} {s : Shared} {f : MV} {g : Value} {first : List MV} {vs : List Value} {e : Expr} {es : List Expr} {Q : MV → Hp → Lv → Prop} (hf : VRep F f g) (hv : VRepL F first vs) (st : St C F H env.locals lv s)
    (h : WL C A env pos (e :: es) H lv fun l H lv => CalleeH C H f ∧ OC C A env.locals f (first ++ l) H lv Q)
    (he : starEach (e :: es) env = (false, eval e env) :: starEach es env) (hplain : (backTo pos (starEach es env)).any (·.1) = false) :
    wpAny C.M A (callWith pos g vs (backTo pos (starEach (e :: es) env)) []) (Pst C env.locals VRep F Q) NoE s := by
  have h' := h F s st
  rw [he] at h' ⊢
  refine callWith_of (P := fun hp => ∃ k, (k = Keeper.frame ∨ k = Keeper.machine ∨ k = Keeper.boundFrame) ∧ Looks C.M hp (keeperOf g) k) (by show ((false || (backTo pos (starEach es env)).any (·.1)) || false) = false; rw [hplain]; rfl) (fun hp e => e) (evalArgs_plain (Pst.seq h' fun ws s1 F1 H1 lv1 l k1 st1 r1 q1 => ?_))
  refine ⟨q1.1 F1 g s1 _ lv1 (hf.mono k1) st1, Pst.up k1 (q1.2 F1 s1 g (vs ++ ws) (hf.mono k1) (VRepL.append r1 (hv.mono k1)) st1)⟩
theorem W_MethH {env : Env} {o : Expr} {name : Str} {apos pos : Pos} {pl : Sem Bool} {e : Expr} {es : List Expr} {Q : MV → Hp → Lv → Prop} (h : WE C A env o H lv fun x H lv => OM C A env.locals name x H lv fun f H lv => WL C A env pos (e :: es) H lv fun l H lv => CalleeH C H f.1 ∧ OC C A env.locals f.1 (f.2 ++ l) H lv Q)
    (he : eval (.Call (.Attribute o name apos) (e :: es) [] pos) env = (do
      let ov ← eval o env
      standAt apos.atName
      let (f, first) ← holding [ov] (getMethod ov name pl)
      callWith pos f first (backTo pos (starEach (e :: es) env)) []) := by rfl)
    (hs : starEach (e :: es) env = (false, eval e env) :: starEach es env := by rfl) (hplain : (backTo pos (starEach es env)).any (·.1) = false := by rfl) : WE C A env (.Call (.Attribute o name apos) (e :: es) [] pos) H lv Q := fun F s st =>
  MethodCall_ (Pst.seq (h F s st) fun v s1 F1 H1 lv1 x k1 st1 r1 q1 => Pst.seq (q1 F1 s1 v pl r1 st1) fun g s2 F2 H2 lv2 f k2 st2 r2 q2 =>
    Pst.up (k1.trans k2) (callWith_SH r2.1 r2.2 st2 q2 hs hplain)) he
end
end Mine
end
section
open PySem PySem.W PyProof.Rows PySem.Calls PySem.Spec Builtin
set_option Elab.async false
set_option maxRecDepth 100000
set_option linter.unusedVariables false
set_option linter.unusedSectionVars false
namespace Mine
section
variable {C : Cx} {A : Around} {H : Hp} {lv : Lv} {L : Addr} {env : Env}
theorem strsAre_ofS {F : Fz} : ∀ {l : List Str} {vs : List Value}, VRepL F (l.map MV.str) vs → StrsAre vs l
  | [], _, .nil => .nil
  | x :: l, _, .cons h hl => by cases h; exact .cons _ _ (strsAre_ofS hl)
theorem C_notInStr {a : Addr} {l : List Str} {x : Str} {Q : MV → Hp → Lv → Prop} (e : H a = some (.list (l.map .str))) (h : Q (.bool (decide (x ∉ l))) H lv) : O2 C A L VRep (compareOp .NotIn) (.str x) (.ref a) H lv Q := by
  intro F s u v hu hv st
  cases hv
  obtain ⟨t, rfl⟩ : ∃ tk, u = .str x tk := by cases hu; exact ⟨_, rfl⟩
  refine ea2_3 (st.list e) fun vs n ho r hlen => ?_
  refine notin_list_strs (PySem.IsL.isList (n := n) ho) (strsAre_ofS r) ?_
  have : (!(l.any (· == x))) = decide (x ∉ l) := by
    rw [Bool.eq_iff_iff, decide_eq_true_iff, Bool.not_eq_true', List.any_eq_false]
    constructor
    · intro h hx; exact absurd (beq_self_eq_true x) (by simpa using h x hx)
    · intro h y hy
      have : y ≠ x := fun e => h (e ▸ hy)
      simpa using this
  rw [this]
  exact Pst.here st (.bool _) h
end
end Mine
end
section
open PySem PySem.W PyProof.Rows PySem.Calls PySem.Spec Builtin
set_option Elab.async false
set_option maxRecDepth 100000
set_option linter.unusedVariables false
set_option linter.unusedSectionVars false
namespace Mine
section
variable {C : Cx} {A : Around} {H : Hp} {lv : Lv} {L : Addr} {env : Env}
theorem W_DictS1 {k : Str} {x : MV} {ke ve : Expr} {pos : Pos} {Q : MV → Hp → Lv → Prop} (h : WE C A env ke H lv fun y H lv => WE C A env ve H lv fun x' H lv => y = .str k ∧ x' = x ∧ ∀ a, H a = Option.none → Q (.ref a) (H.put a (.sd [(k, x)])) lv) : WE C A env (.Dict [some ke] [ve] pos) H lv Q := W_Dict1 (sK C) h
noncomputable abbrev kCell (c : Addr) (Q : MFl → Hp → Lv → Prop) (v : MV) (H : Hp) (lv : Lv) : Prop := (∃ v₀, H c = some (.cell v₀)) ∧ Q .next (H.put c (.cell (some v))) lv
theorem S_AssignC' {x : Str} {c : Addr} {p' pos : Pos} {e : Expr} {Q : MFl → Hp → Lv → Prop} (hc : env.cells.lookup x = some c) (h : WE C A env e H lv (kCell c Q)) (hk : env.scope.kind = .function := by rfl) (hl : env.kindOf x = some .cell := by rfl)
    (hs : swapsWith e (some (.Name x p')) pos.line env = pure false := by rfl) : WS C A env (.Assign [.Name x p'] e pos) H lv Q := fun F s st =>
  wpAny_Assign_Name (Pst.seq (h F s st) fun v s1 F1 H1 lv1 y k1 st1 r1 q1 => by
    obtain ⟨⟨v₀, q0⟩, q1⟩ := q1
    obtain ⟨_, _, o, ho, v', hd', r⟩ := st1.own _ _ q0
    refine wpAny_storeName_cell hk hl hc ⟨o, ho, hd'⟩ fun h' hv hs => ?_
    refine ea1_2 hv fun o' ho' hd'' => ?_
    (try clear hv)
    exact ⟨F1, _, lv1, .next, k1, st1.turn (x' := .cell (some y)) q0 hs ho' ⟨_, hd'', .some r1⟩ _, .next, q1⟩) hs
/-- a def within _law_rounds, with its contract's rule -/
theorem S_DefA (O : C.Ok) {cn : Str} {cs : Scope} {a : Addr} {cl clos : List (Str × Addr)} {name : Str} {params : Arguments} {body : List Stmt} {scope : Scope} {pos : Pos} {Q : MFl → Hp → Lv → Prop}
    (ht : H 190 = some (.raw (tabObj #[]))) (hd0 : params.defaults = []) (hk0 : params.kw_defaults = []) (ha : annTrees params none (envX cn cs L a (.ref 194) cl) = []) (hcl : closureFor scope (envX cn cs L a (.ref 194) cl) = pure clos)
    (hk : cs.kind = .function) (hl : (envX cn cs L a (.ref 194) cl).kindOf name = some .local)
    (h : ∀ (f c' : Addr) (fo oc : Obj) ps, H f = none → H c' = none → f ≠ c' → f ≠ 190 → c' ≠ 190 → (∃ fd, fo.data = .func fd) →
      (∀ (n : Nat) (args : List MV) (Hx : Hp) (Qx : MV → Hp → Prop) (ns : List Str), Hx f = some (.raw fo) → Hx c' = some (.raw oc) →
        (∀ doc pm ctv (vs : List Value), vs.length = args.length → bindArgs (fnX name (qualnameIn (envX cn cs L a (.ref 194) cl) name name) params body scope clos .none .none doc pm none (.ref c') ctv) ⟨vs, []⟩ = pure (ns.zip vs)) →
        ns.length = args.length → ns.Nodup → (∀ x ∈ ns, scope.names.lookup x = some .local) → (∀ x ∈ scope.names, x.2 ≠ .cell) →
        (∀ A L', Room n A → WX C A (envX (qualnameIn (envX cn cs L a (.ref 194) cl) name name) scope L' f (.ref c') clos) body Hx (lvOf ns args) fun fl H' _ => Qx fl.out H') →
        scope.isCoroutine = false → scope.isGenerator = false → scope.kind = .function → FnC C f (n + 1) args Hx Qx) →
      Q .next (((H.put 190 (.raw (tabObj ps))).put c' (.raw oc)).put f (.raw fo)) (lv.put name (.ref f))) :
    WS C A (envX cn cs L a (.ref 194) cl) (.FunctionDef name params body [] none [] scope none name pos) H lv Q :=
  S_Def O ht hd0 hk0 ha hcl hk hl fun f c' oc vs t ctv doc pm x1 x2 x3 x4 x5 x6 x7 =>
    h f c' _ oc _ x1 x2 x3 x4 x5 ⟨_, rfl⟩ fun n args Hx Qx ns y1 y2 y3 y4 y5 y6 y7 y8 y9 y10 y11 => FnC_nest O ns y1 y2 x6 x7 (y3 doc pm ctv) y4 y5 y6 y7 y8 y9 y10 y11
theorem T_Or_nil' {Q : Bool → Hp → Lv → Prop} (h : Q false H lv) (hL : env.locals = L := by rfl) : W C A L EqR (allTrue .Or [] env) H lv Q := by subst hL; exact T_Or_nil h
theorem T_Or_cons' {x : Expr} {r : List Expr} {Q : Bool → Hp → Lv → Prop} (h : WT C A env x H lv (kOr C A L env r Q)) (hL : env.locals = L := by rfl) : W C A L EqR (allTrue .Or (x :: r) env) H lv Q := by subst hL; exact T_Or_cons h
end
end Mine
end
section
open PySem PySem.W PyProof.Rows PySem.Calls PySem.Spec Builtin
set_option Elab.async false
set_option maxRecDepth 100000
set_option linter.unusedVariables false
set_option linter.unusedSectionVars false
namespace Mine
/-! ### the sort, of unlike things -/
section
noncomputable def KSat (lt : Nat → Nat → Bool) (N : Nat) {α : Type} : KasT α → (α → Prop) → Prop
  | .ret a, Q => Q a
  | .ask i j k, Q => i < N ∧ j < N ∧ KSat lt N (k (lt i j)) Q
variable {lt : Nat → Nat → Bool} {N : Nat}
theorem KSat.mono {α : Type} : ∀ {t : KasT α} {Q Q' : α → Prop}, KSat lt N t Q → (∀ a, Q a → Q' a) → KSat lt N t Q'
  | .ret a, _, _, h, k => k a h
  | .ask i j f, _, _, h, k => ⟨h.1, h.2.1, KSat.mono h.2.2 k⟩
theorem KSat.bind {α β : Type} {f : α → KasT β} {Q : β → Prop} : ∀ {t : KasT α}, KSat lt N t (fun a => KSat lt N (f a) Q) → KSat lt N (t.bind f) Q
  | .ret a, h => h
  | .ask i j k, h => ⟨h.1, h.2.1, KSat.bind (t := k (lt i j)) h.2.2⟩
theorem KSat.wp {α : Type} {cmp : Nat → Nat → (Bool → Shared → Prop) → Shared → Prop} {s : Shared} (hc : ∀ i j C, i < N → j < N → C (lt i j) s → cmp i j C s) {Q : α → Shared → Prop} : ∀ {t : KasT α}, KSat lt N t (fun a => Q a s) → t.kasWp cmp Q s
  | .ret a, h => h
  | .ask i j k, h => hc i j _ h.1 h.2.1 (KSat.wp hc (t := k (lt i j)) h.2.2)
noncomputable abbrev KK' (p : Array Nat) (i : Nat) : Nat := p.getD i 0
theorem KK'_of {p q : Array Nat} {i j : Nat} (h : p[i]? = q[j]?) : KK' p i = KK' q j := by
  unfold KK'; rw [Array.getD_eq_getD_getElem?, Array.getD_eq_getD_getElem?, h]
/-- an order of all that is asked of -/
structure Ord (lt : Nat → Nat → Bool) (N : Nat) : Prop where
  trans : ∀ a b c, a < N → b < N → c < N → lt a b = true → lt b c = true → lt a c = true
  tot : ∀ a b, a < N → b < N → a ≠ b → lt a b = false → lt b a = true
noncomputable def PI (N : Nat) (p : Array Nat) : Prop := p.Perm (List.range N).toArray
theorem PI.size {p : Array Nat} (h : PI N p) : p.size = N := by
  have := h.size_eq; simpa using this
theorem PI.mem {p : Array Nat} (h : PI N p) {i : Nat} (hi : i < N) : KK' p i < N := by
  have hz := h.size
  have h2 : p.toList.Perm (List.range N) := by simpa [PI, Array.perm_iff_toList_perm] using h
  have : KK' p i ∈ p.toList := by
    have hi' : i < p.size := by lia
    have : KK' p i = p[i] := by simp [KK', Array.getD, hi']
    rw [this]; simp
  simpa using h2.mem_iff.mp this
theorem PI.inj {p : Array Nat} (h : PI N p) {i j : Nat} (hi : i < N) (hj : j < N) (e : KK' p i = KK' p j) : i = j := by
  have hz := h.size
  have h2 : p.toList.Perm (List.range N) := by simpa [PI, Array.perm_iff_toList_perm] using h
  have nd : p.toList.Nodup := h2.nodup_iff.mpr List.nodup_range
  have hi' : i < p.size := by lia
  have hj' : j < p.size := by lia
  have e1 : KK' p i = p.toList[i]'(by simpa using hi') := by simp [KK', Array.getD, hi']
  have e2 : KK' p j = p.toList[j]'(by simpa using hj') := by simp [KK', Array.getD, hj']
  rw [e1, e2] at e
  exact (List.getElem_inj nd).mp e
noncomputable def SP (lt : Nat → Nat → Bool) (p : Array Nat) (m : Nat) : Prop := ∀ i j, i < j → j < m → lt (KK' p i) (KK' p j) = true
noncomputable def DP (lt : Nat → Nat → Bool) (p : Array Nat) (m : Nat) : Prop := ∀ i j, i < j → j < m → lt (KK' p j) (KK' p i) = true
theorem sat_asc (O : Ord lt N) {p : Array Nat} (hp : PI N p) : ∀ (f n : Nat), 1 ≤ n → n + f ≤ N → SP lt p n → KSat lt N (kas_asc p f n) fun m => n ≤ m ∧ m ≤ n + f ∧ SP lt p m ∧ (m < n + f → lt (KK' p m) (KK' p (m - 1)) = true)
  | 0, n, h1, h2, hs => ⟨Nat.le_refl _, by lia, hs, fun h => by lia⟩
  | f + 1, n, h1, h2, hs => by
    unfold kas_asc
    refine ⟨hp.mem (by lia), hp.mem (by lia), ?_⟩
    dsimp only
    by_cases q : lt (KK' p n) (KK' p (n - 1)) = true
    · rw [if_pos q]
      exact ⟨Nat.le_refl _, by lia, hs, fun _ => q⟩
    · rw [if_neg q]
      have hne : KK' p n ≠ KK' p (n - 1) := fun e => by have := hp.inj (by lia) (by lia) e; lia
      have hl := O.tot _ _ (hp.mem (by lia)) (hp.mem (by lia)) hne (by simpa using q)
      refine (sat_asc O hp f (n + 1) (by lia) (by lia) fun i j hij hj => ?_).mono fun m zz => ea0_4 zz fun a b c d => ⟨by lia, by lia, c, fun h => d (by lia)⟩
      rcases Nat.lt_or_ge j n with z | z
      · exact hs i j hij z
      · have : j = n := by lia
        subst this
        rcases Nat.lt_or_ge i (j - 1) with z2 | z2
        · exact O.trans _ _ _ (hp.mem (by lia)) (hp.mem (by lia)) (hp.mem (by lia)) (hs i (j - 1) z2 (by lia)) hl
        · have : i = j - 1 := by lia
          rw [this]; exact hl
theorem sat_desc (O : Ord lt N) {p : Array Nat} (hp : PI N p) : ∀ (f n : Nat), 1 ≤ n → n + f ≤ N → DP lt p n → KSat lt N (kas_desc f p n 0) fun r => r.1 = p ∧ r.2.2 = 0 ∧ n ≤ r.2.1 ∧ r.2.1 ≤ N ∧ DP lt p r.2.1
  | 0, n, h1, h2, hs => ⟨rfl, rfl, Nat.le_refl _, by show n ≤ N; lia, hs⟩
  | f + 1, n, h1, h2, hs => by
    unfold kas_desc
    refine ⟨hp.mem (by lia), hp.mem (by lia), ?_⟩
    dsimp only
    by_cases q : lt (KK' p n) (KK' p (n - 1)) = true
    · rw [if_pos q, if_neg (by lia)]
      refine (sat_desc O hp f (n + 1) (by lia) (by lia) fun i j hij hj => ?_).mono fun m zz => ea0_5 zz fun a b c d e => ⟨a, b, by lia, d, e⟩
      rcases Nat.lt_or_ge j n with z | z
      · exact hs i j hij z
      · have : j = n := by lia
        subst this
        rcases Nat.lt_or_ge i (j - 1) with z2 | z2
        · exact O.trans _ _ _ (hp.mem (by lia)) (hp.mem (by lia)) (hp.mem (by lia)) q (hs i (j - 1) z2 (by lia))
        · have : i = j - 1 := by lia
          rw [this]; exact q
    · rw [if_neg q]
      have hne : KK' p n ≠ KK' p (n - 1) := fun e => by have := hp.inj (by lia) (by lia) e; lia
      have hl := O.tot _ _ (hp.mem (by lia)) (hp.mem (by lia)) hne (by simpa using q)
      refine ⟨hp.mem (by lia), hp.mem (by lia), ?_⟩
      dsimp only
      rw [if_pos hl]
      exact ⟨rfl, rfl, Nat.le_refl _, by show n ≤ N; lia, hs⟩
theorem rev_K {p : Array Nat} {n : Nat} (hn : n ≤ p.size) (k : Nat) : KK' (kas_rev p 0 n) k = if k < n then KK' p (n - 1 - k) else KK' p k := by
  have := getElem?_mirror_all (xs := p) (i := 0) (j := n) hn k
  by_cases q : k < n
  · rw [if_pos q]; rw [if_pos ⟨by lia, q⟩] at this
    exact KK'_of (by unfold kas_rev; rw [this]; congr 1; lia)
  · rw [if_neg q]; rw [if_neg (by lia)] at this
    exact KK'_of this
theorem rev_PI {p : Array Nat} {i j : Nat} (h : PI N p) : PI N (kas_rev p i j) := (mirror_perm _ _ _ _).trans h
theorem sat_tail3 (O : Ord lt N) {p : Array Nat} (hp : PI N p) {n : Nat} (h1 : 1 ≤ n) (h2 : n ≤ N) (hd : DP lt p n) : KSat lt N (kas_tail3 n N p) fun r => 1 ≤ r.1 ∧ r.1 ≤ N ∧ PI N r.2 ∧ SP lt r.2 r.1 := by
  unfold kas_tail3
  have hz := hp.size
  have hs : SP lt (kas_rev p 0 n) n := fun i j hij hj => by
    rw [rev_K (by lia), rev_K (by lia), if_pos (by lia), if_pos hj]
    exact hd _ _ (by lia) (by lia)
  exact KSat.bind ((sat_asc O (rev_PI hp) (N - n) n h1 (by lia) hs).mono fun m zz => ea0_4 zz fun a b c d => ⟨by show 1 ≤ m; lia, by show m ≤ N; lia, rev_PI hp, c⟩)
theorem sat_count (O : Ord lt N) {p : Array Nat} (hp : PI N p) (hN : 1 ≤ N) : KSat lt N (kas_count N p) fun r => 1 ≤ r.1 ∧ r.1 ≤ N ∧ PI N r.2 ∧ SP lt r.2 r.1 := by
  unfold kas_count
  refine KSat.bind ((sat_asc O hp (N - 1) 1 (Nat.le_refl _) (by lia) (fun i j hij hj => by lia)).mono fun m zz => ea0_4 zz fun a b c d => ?_)
  by_cases q : (m == N) = true
  · rw [if_pos q]
    exact ⟨a, by show m ≤ N; lia, hp, c⟩
  · rw [if_neg q]
    have hmN : m ≠ N := by simpa using q
    by_cases q2 : m > 1
    · rw [if_pos q2]
      refine ⟨hp.mem (by lia), hp.mem (by lia), ?_⟩
      dsimp only
      have : lt (KK' p 0) (KK' p (m - 1)) = true := c 0 (m - 1) (by lia) (by lia)
      rw [if_pos this]
      exact ⟨a, by show m ≤ N; lia, hp, c⟩
    · rw [if_neg q2]
      have hm1 : m = 1 := by lia
      subst hm1
      have hd1 := d (by lia)
      unfold kas_descPart
      refine KSat.bind ((sat_desc O hp (N - (1 + 1)) (1 + 1) (by lia) (by lia) (fun i j hij hj => ?_)).mono fun r zz => ea0_5 zz fun e1 e2 e3 e4 e5 => ?_)
      · have h0 : i = 0 := by lia
        have h1 : j = 1 := by lia
        subst h0 h1; exact hd1
      · rw [if_neg (by lia), e1]
        exact sat_tail3 O hp (by lia) e4 e5
theorem sat_place (O : Ord lt N) {p : Array Nat} (hp : PI N p) {k : Nat} (hk : k < N) (hs : SP lt p k) : ∀ (f l r : Nat), l ≤ r → r ≤ k → r - l ≤ f → (∀ i, i < l → lt (KK' p i) (KK' p k) = true) → (∀ i, r ≤ i → i < k → lt (KK' p k) (KK' p i) = true) →
    KSat lt N (kas_place p k f l r) fun l => l ≤ k ∧ (∀ i, i < l → lt (KK' p i) (KK' p k) = true) ∧ (∀ i, l ≤ i → i < k → lt (KK' p k) (KK' p i) = true)
  | 0, l, r, h1, h2, h3, hl, hr => by
    have : l = r := by lia
    subst this
    exact ⟨h2, hl, hr⟩
  | f + 1, l, r, h1, h2, h3, hl, hr => by
    unfold kas_place
    by_cases q : l ≥ r
    · rw [if_pos q]
      have : l = r := by lia
      subst this
      exact ⟨h2, hl, hr⟩
    · rw [if_neg q]
      have hm : (l + r) / 2 < k := by lia
      refine ⟨hp.mem (by lia), hp.mem (by lia), ?_⟩
      dsimp only
      by_cases c : lt (KK' p k) (KK' p ((l + r) / 2)) = true
      · rw [if_pos c]
        refine sat_place O hp hk hs f l ((l + r) / 2) (by lia) (by lia) (by lia) hl fun i hi hik => ?_
        rcases Nat.lt_or_ge ((l + r) / 2) i with z | z
        · exact O.trans _ _ _ (hp.mem (by lia)) (hp.mem (by lia)) (hp.mem (by lia)) c (hs _ _ z hik)
        · have : i = (l + r) / 2 := by lia
          rw [this]; exact c
      · rw [if_neg c]
        have hne : KK' p k ≠ KK' p ((l + r) / 2) := fun e => by have := hp.inj (by lia) (by lia) e; lia
        have hlt := O.tot _ _ (hp.mem (by lia)) (hp.mem (by lia)) hne (by simpa using c)
        refine sat_place O hp hk hs f ((l + r) / 2 + 1) r (by lia) (by lia) (by lia) (fun i hi => ?_) hr
        rcases Nat.lt_or_ge i ((l + r) / 2) with z | z
        · exact O.trans _ _ _ (hp.mem (by lia)) (hp.mem (by lia)) (hp.mem (by lia)) (hs _ _ z hm) hlt
        · have : i = (l + r) / 2 := by lia
          rw [this]; exact hlt
theorem bub_K {p : Array Nat} {k l : Nat} (hk : k < p.size) (hl : l ≤ k) (j : Nat) : KK' (bubble p k (k - l)) j = if j = l then KK' p k else if l < j ∧ j ≤ k then KK' p (j - 1) else KK' p j := by
  have := getElem?_bubble (xs := p) hk (k - l) (by lia) j
  have e : k - (k - l) = l := by lia
  rw [e] at this
  by_cases q : j = l
  · rw [if_pos q] at this ⊢; exact KK'_of this
  · rw [if_neg q] at this ⊢
    by_cases q2 : l < j ∧ j ≤ k
    · rw [if_pos q2] at this ⊢; exact KK'_of this
    · rw [if_neg q2] at this ⊢; exact KK'_of this
theorem sat_bin (O : Ord lt N) : ∀ (f k : Nat) (p : Array Nat), PI N p → k + f = N → 1 ≤ k → SP lt p k → KSat lt N (kas_bin f p k) fun p => PI N p ∧ SP lt p N
  | 0, k, p, hp, h1, h2, hs => by
    have : k = N := by lia
    subst this
    exact ⟨hp, hs⟩
  | f + 1, k, p, hp, h1, h2, hs => by
    unfold kas_bin
    have hz := hp.size
    refine KSat.bind ((sat_place O hp (by lia) hs k 0 k (by lia) (Nat.le_refl _) (by lia) (fun i hi => by lia) (fun i hi hik => by lia)).mono fun l zz => ea0_3 zz fun a b c => ?_)
    refine sat_bin O f (k + 1) _ ((bubble_perm _ _ _).trans hp) (by lia) (by lia) fun i j hij hj => ?_
    rw [bub_K (by lia) a, bub_K (by lia) a]
    by_cases qi : i = l
    · rw [if_pos qi, if_neg (by lia), if_pos (by lia)]
      exact c (j - 1) (by lia) (by lia)
    · rw [if_neg qi]
      by_cases qi2 : l < i ∧ i ≤ k
      · rw [if_pos qi2, if_neg (by lia), if_pos (by lia)]
        exact hs _ _ (by lia) (by lia)
      · rw [if_neg qi2]
        have hil : i < l := by lia
        by_cases qj : j = l
        · rw [if_pos qj]; exact b i hil
        · rw [if_neg qj]
          by_cases qj2 : l < j ∧ j ≤ k
          · rw [if_pos qj2]
            exact hs _ _ (by lia) (by lia)
          · rw [if_neg qj2]
            exact hs _ _ hij (by lia)
theorem sat_sort (O : Ord lt N) (hN : 1 ≤ N) : KSat lt N (kas_sort N) fun p => PI N p ∧ SP lt p N := by
  unfold kas_sort
  have hp : PI N (List.toArray (List.range N)) := Array.Perm.refl _
  refine KSat.bind ((sat_count O hp hN).mono fun r zz => ea0_4 zz fun a b c d => ?_)
  by_cases q : r.1 < N
  · rw [if_pos q]
    have e : max r.1 1 = r.1 := by lia
    rw [e]
    exact sat_bin O (N - r.1) r.1 r.2 c (by lia) a d
  · rw [if_neg q]
    have : r.1 = N := by lia
    rw [this] at d
    exact ⟨c, d⟩
end
end Mine
end
section
open PySem PySem.W PyProof.Rows PySem.Calls PySem.Spec Builtin
set_option Elab.async false
set_option maxRecDepth 100000
set_option linter.unusedVariables false
set_option linter.unusedSectionVars false
namespace Mine
/-! ### the order of pairs -/
theorem ltP_trans {a b c : Int × Str} (h : ltP a b = true) (h' : ltP b c = true) : ltP a c = true := by
  obtain ⟨i, x⟩ := a; obtain ⟨j, y⟩ := b; obtain ⟨k, z⟩ := c
  unfold ltP at *
  dsimp only at *
  by_cases q1 : i = j
  · subst q1
    rw [if_pos rfl] at h
    by_cases q2 : i = k
    · subst q2
      rw [if_pos rfl] at h' ⊢
      by_cases q3 : x = y
      · rw [if_pos q3] at h; cases h
      · rw [if_neg q3] at h
        by_cases q4 : y = z
        · rw [if_pos q4] at h'; cases h'
        · rw [if_neg q4] at h'
          have l1 := of_decide_eq_true h
          have l2 := of_decide_eq_true h'
          have l3 := List.lt_trans l1 l2
          have : ¬ x = z := fun e => by subst e; exact List.lt_irrefl _ l3
          rw [if_neg this]; exact decide_eq_true l3
    · rw [if_neg q2] at h' ⊢; exact h'
  · rw [if_neg q1] at h
    have l1 := of_decide_eq_true h
    by_cases q2 : j = k
    · subst q2; rw [if_neg q1]; exact h
    · rw [if_neg q2] at h'
      have l2 := of_decide_eq_true h'
      rw [if_neg (by lia)]
      exact decide_eq_true (by lia)
theorem ltP_irrefl (a : Int × Str) : ltP a a = false := by
  unfold ltP; simp
theorem ltP_tot {a b : Int × Str} (hn : a ≠ b) (h : ltP a b = false) : ltP b a = true := by
  obtain ⟨i, x⟩ := a; obtain ⟨j, y⟩ := b
  unfold ltP at *
  dsimp only at *
  by_cases q1 : i = j
  · subst q1
    rw [if_pos rfl] at h ⊢
    have q3 : ¬ x = y := fun e => hn (by rw [e])
    rw [if_neg q3] at h
    rw [if_neg (fun e => q3 e.symm)]
    have l1 := of_decide_eq_false h
    refine decide_eq_true ?_
    rcases Classical.em (y.cps.toList < x.cps.toList) with z | z
    · exact z
    · exact absurd (Str.ext' (Array.toList_inj.mp (List.le_antisymm (List.not_lt.mp z) (List.not_lt.mp l1)))) q3
  · rw [if_neg q1] at h
    have l1 := of_decide_eq_false h
    rw [if_neg (fun e => q1 e.symm)]
    exact decide_eq_true (by lia)
theorem ltP_asymm {a b : Int × Str} (h : ltP a b = true) : ltP b a = false := by
  cases q : ltP b a with
  | false => rfl
  | true => have := ltP_trans h q; rw [ltP_irrefl] at this; cases this
theorem ltP_fst {a b : Int × Str} (h : ltP a b = true) : a.1 ≤ b.1 := by
  unfold ltP at h
  split at h
  · lia
  · have := of_decide_eq_true h; lia
theorem ltP_of_lt {a b : Int × Str} (h : a.1 < b.1) : ltP a b = true := by
  unfold ltP
  rw [if_neg (by lia)]; exact decide_eq_true h
section
variable {C : Cx} {A : Around} {H : Hp} {lv : Lv} {L : Addr} {env : Env}
theorem pr_rep {F : Fz} {p : Int × Str} {v : Value} (h : VRep F (.pr p) v) : ∃ a n t u, v = .ref a ∧ F a = some (tupObj [.int p.1 t, .str p.2 u] n) := by
  cases h with
  | tup e r =>
    cases r with
    | cons r1 r => cases r with
      | cons r2 r => cases r; cases r1; cases r2; exact ⟨_, _, _, _, rfl, e⟩
theorem firsts_of {F : Fz} {h : Heap} (hf : ∀ a o, F a = some o → h.get? a = some o) : ∀ (l : List (Int × Str)) (vs : List Value), VRepL F (l.map MV.pr) vs → ∃ fs : List Value, KatTups h vs fs ∧ fs.length = l.length ∧ ∀ v ∈ fs, ∃ i t, v = .int i t
  | [], _, .nil => ⟨[], KatTups.nil, rfl, fun _ h => nomatch h⟩
  | p :: l, _, .cons hp hl => by
    refine ea1_3 (firsts_of hf l _ hl) fun fs t1 t2 t3 => ?_
    refine ea4_2 (pr_rep hp) fun a n t u qq4 e => ?_
    subst qq4
    refine ⟨.int p.1 t :: fs, KatTups.cons (hf _ _ e) rfl rfl rfl t1, by simp [t2], fun v hv => ?_⟩
    rcases List.mem_cons.mp hv with rfl | hv
    · exact ⟨_, _, rfl⟩
    · exact t3 v hv
theorem ask_pair {prog : Program} {w : World} {A : Around} {s : Shared} {a b : Addr} {p q : Int × Str} {t u t' u' : Tok} {n n' : Nat} {Cc : Bool → Shared → Prop} (ha : s.heap.get? a = some (tupObj [.int p.1 t, .str p.2 u] n)) (hb : s.heap.get? b = some (tupObj [.int q.1 t', .str q.2 u'] n'))
    (h : Cc (ltP p q) s) : wpAny (model prog w) A (keyLt' (tuples' true) (.ref a) (.ref b)) Cc (fun _ _ => False) s := by
  refine kat_lt ha rfl hb rfl ?_
  show KatLex prog w A true false Cc [(.int p.1 t, .int q.1 t'), (.str p.2 u, .str q.2 u')] 0 s
  refine kat_cons (wpAny_eqBool_int ?_)
  by_cases h1 : p.1 = q.1
  · have e1 : (p.1 == q.1) = true := by simpa using h1
    rw [e1]
    refine kat_yes (kat_cons (wpAny_eqBool_str ?_))
    by_cases h2 : p.2 = q.2
    · rw [decide_eq_true h2]
      refine kat_yes (kat_nil ?_)
      have : ltP p q = false := by unfold ltP; rw [if_pos h1, if_pos h2]
      rw [← this]; exact h
    · rw [decide_eq_false h2]
      refine kat_no (kat_one _ _ (PyProof.Rows.lt_str ?_))
      have : ltP p q = decide (p.2.cps.toList < q.2.cps.toList) := by unfold ltP; rw [if_pos h1, if_neg h2]
      rw [this] at h
      exact h
  · have e1 : (p.1 == q.1) = false := by simpa using h1
    rw [e1]
    refine kat_no (oneLt_int ?_)
    have : ltP p q = decide (p.1 < q.1) := by unfold ltP; rw [if_neg h1]
    rw [this] at h
    exact h
/-- the sorting of a list that has just been made, D the last address -/
theorem sort_at {D : Addr} {l : List (Int × Str)} {vs : List Value} {F : Fz} {s0 s : Shared} {m : Str → Option Value} {Q : MV → Hp → Lv → Prop} (st0 : St C F H L lv s0) (st : St C F H L lv s) (hFr : Fr C.h₀ L s.heap m) (hr : ∀ x, OW F (lv x) (m x)) (r : VRepL F (l.map MV.pr) vs) (hlen : vs.length = l.length)
    (hD : s.heap.get? D = some (seqObj "list" vs.toArray 0)) (hsz : s.heap.objs.size = D + 1) (hLD : L < D) (hDn : s0.heap.get? D = none) (hkeep : ∀ b o, s0.heap.get? b = some o → s.heap.get? b = some o) (hgens : s.gens = s0.gens) (hos : s.os = s0.os) (h64 : l.length < 64) (nd : l.Nodup)
    (h : ∀ (l' : List (Int × Str)), l'.Perm l → l'.Pairwise (fun p q => ltP p q = true) → Q (.ref D) (H.put D (.list (l'.map MV.pr))) lv) :
    wpAny C.M A (Builtin.«list.sort» ⟨[.ref D], []⟩) (fun fin s' => ∃ v, fin = .done (.ret v) ∧ Pst C L VRep F Q (.ref D) s') NoE s := by
  have hDL : D ≠ L := Ne.symm (Nat.ne_of_lt hLD)
  have hFD := st0.freshF hDn
  have hHD := st0.freshH hDn
  have hD0 : C.h₀.get? D = none := by
    cases q : C.h₀.get? D with
    | none => rfl
    | some o => have := st0.keepsB _ _ q; rw [hDn] at this; cases this
  have hDS : D ≠ sysModules := Nat.ne_of_gt (Nat.lt_of_lt_of_le st.big (Nat.le_trans st.above (Nat.le_of_lt hLD)))
  have gd : ∀ i (hi : i < l.length), l.getD i (0, ⟨#[]⟩) = l[i] := fun i hi => by simp [List.getD, hi]
  rcases Nat.lt_or_ge l.length 2 with h1 | h2
  · rw [list_sort_plain]
    have hv2 : vs.toArray.size < 2 := by rw [List.size_toArray]; lia
    refine wpAny_bind (listItems_at hD rfl ?_)
    refine wpAny_bind (listUpdate_at hD rfl ?_ (by rw [List.size_toArray, sizeLine_eq]; lia) (Nat.zero_le _))
    obtain ⟨e1, ho1⟩ : ∃ e1, (s.heap.update D (Obj.mapSeq fun _ => #[])).get? D = some (seqObj "list" #[] e1) := ⟨_, get?_update_seq hD (fun _ => #[])⟩
    refine wpAny_bind (seqEpoch_at ho1 rfl ?_)
    refine wpAny_bind (wpAny_newTuple ?_ (by show vs.length ≤ _; rw [sizeLine_eq]; lia))
    refine wpAny_bind (wpAny_newList ?_ (Nat.zero_le _))
    refine wpAny_holding ?_
    show wpAny _ A _ _ NoE { s with heap := ((s.heap.update D (Obj.mapSeq fun _ => #[])).push (seqObj "tuple" vs.toArray 0)).push (seqObj "list" #[] 0) }
    dsimp only
    have ho6 : (((s.heap.update D (Obj.mapSeq fun _ => #[])).push (seqObj "tuple" vs.toArray 0)).push (seqObj "list" #[] 0)).get? D = some (seqObj "list" #[] e1) := Heap.get?_push_of_some _ (Heap.get?_push_of_some _ ho1)
    have keep6 : ∀ b o, b ≠ D → s.heap.get? b = some o → (((s.heap.update D (Obj.mapSeq fun _ => #[])).push (seqObj "tuple" vs.toArray 0)).push (seqObj "list" #[] 0)).get? b = some o := fun b o hb e =>
      Heap.get?_push_of_some _ (Heap.get?_push_of_some _ (((Heap.SameBut.update s.heap D (Obj.mapSeq fun _ => #[])).2 b hb).trans e))
    rw [if_pos hv2, if_pos hv2]
    refine wpAny_bind (wpAny_pure ?_)
    rw [StateT.run_pure]
    refine wpAny_bind (wpAny_pure ?_)
    dsimp only
    refine wpAny_bind (seqEpoch_at ho6 rfl ?_)
    have hout : Array.map (fun x => x.2) (arrOf (SortSt.mk' general' (vs.toArray.zip vs.toArray) #[] 7 none)) = vs.toArray := by
      show Array.map (fun x => x.2) (vs.toArray.zip vs.toArray) = vs.toArray
      apply Array.ext
      · simp
      · intro i h1 h2; simp
    rw [hout]
    refine wpAny_bind (listUpdate_at ho6 rfl ?_ (Nat.zero_le _) (by rw [List.size_toArray, sizeLine_eq]; lia))
    simp only [bne_self_eq_false, Bool.false_eq_true, if_false]
    refine wpAny_pure ⟨_, rfl, ?_⟩
    generalize hH6 : ((s.heap.update D (Obj.mapSeq fun _ => #[])).push (seqObj "tuple" vs.toArray 0)).push (seqObj "list" #[] 0) = H6 at *
    have s6 := Heap.SameBut.update H6 D (Obj.mapSeq fun _ => vs.toArray)
    obtain ⟨c, hc⟩ : ∃ c, (H6.update D (Obj.mapSeq fun _ => vs.toArray)).get? D = some (seqObj "list" vs.toArray c) := ⟨_, get?_update_seq ho6 fun _ => vs.toArray⟩
    have st7 := st.other (h' := H6.update D (Obj.mapSeq fun _ => vs.toArray)) (a := D) (fun b o hb e => (s6.2 b hb).trans (keep6 b o hb e)) hFD hHD hDL s.toks
    have st8 := st7.take (a := D) (x := .list (l.map MV.pr)) hc hFD hDL hDS ⟨vs, c, rfl, r⟩
    refine Pst.here st8 (.ref _) (h l (List.Perm.refl _) ?_)
    match l, h1 with
    | [], _ => exact List.Pairwise.nil
    | [x], _ => simp
  · let news : List (Addr × Obj) := (List.range s.heap.objs.size).filterMap fun b => if b = L ∨ b = D ∨ (C.h₀.get? b).isSome = true then none else (s.heap.get? b).map fun o => (b, o)
    have hnews : ∀ b o, s.heap.get? b = some o → b ≠ L → b ≠ D → C.h₀.get? b = none → (b, o) ∈ news := fun b o eb hb hbD h0 => by
      refine List.mem_filterMap.mpr ⟨b, List.mem_range.mpr (Heap.lt_size eb), ?_⟩
      rw [if_neg (by rw [h0]; simp [hb, hbD]), eb]; rfl
    have hN : ∀ p ∈ news, s.heap.get? p.1 = some p.2 ∧ p.1 ≠ L ∧ p.1 ≠ D ∧ C.h₀.get? p.1 = none := fun p hp => by
      refine ea1_2 (List.mem_filterMap.mp hp) fun b hb eb => ?_
      split at eb
      · cases eb
      · rename_i hn
        refine ea1_2 (Option.map_eq_some_iff.mp eb) fun o ho qq2 => ?_
        subst qq2
        refine ⟨ho, fun z => hn (.inl z), fun z => hn (.inr (.inl z)), ?_⟩
        cases q : C.h₀.get? b with
        | none => rfl
        | some o' => exact absurd (.inr (.inr (by rw [q]; rfl))) hn
    have N : News C.h₀ L s.heap news := fun p hp => ⟨(hN p hp).1, (hN p hp).2.1, (hN p hp).2.2.2⟩
    have hk : ∀ (h' : Heap) nw, Fr C.h₀ L h' m → News C.h₀ L h' nw → (∀ p ∈ news, p ∈ nw) → ∀ b o, b ≠ D → b ≠ L → s.heap.get? b = some o → h'.get? b = some o := fun h' nw F' N' hin b o hbD hb eb => by
      cases q : C.h₀.get? b with
      | none => exact (N' _ (hin _ (hnews b o eb hb hbD q))).1
      | some o' =>
        have := st.keepsB _ _ q
        rw [eb] at this
        cases this
        exact F'.keep _ _ q
    have mv : ∀ (h' : Heap) nw, Fr C.h₀ L h' m → News C.h₀ L h' nw → (∀ p ∈ news, p ∈ nw) → St C F H L lv { s with heap := h', toks := s.toks } := fun h' nw F' N' hin =>
      ⟨fun b o e => hk h' nw F' N' hin b o (fun z => by rw [z, hFD] at e; cases e) (fun z => by rw [z, st.fL] at e; cases e) (st.fz b o e), fun b x e => let ⟨p, q, o, r, z⟩ := st.own b x e; ⟨p, q, o, hk h' nw F' N' hin b o (fun z => by rw [z, hHD] at e; cases e) q r, z⟩, st.fL, ⟨m, F'.ns, hr⟩, st.base, st.above, st.gens, st.os, st.nosys, st.big⟩
    refine kat_list_sort (vs := vs) hFr N hD hDL hD0 (fun p hp => (hN p hp).2.2.1) (by lia) (by lia) fun e1 h' F' N' => ?_
    have st' := mv h' _ F' N' fun p hp => List.mem_cons_of_mem _ hp
    refine ea1_3 (firsts_of (h := h') st'.fz l vs r) fun fs t1 t2 t3 => ?_
    refine kat_kind (fs := fs) (T := .type "int") t1 (by lia) (fun v hv => ?_) (by simp) ?_
    · refine ea2_1 (t3 v hv) fun i t qq2 => ?_
      subst qq2
      exact Looks.of_pure rfl
    have htt : (Value.type "int" != Value.type "tuple") = true := by decide
    rw [htt]
    have Or : Ord (fun i j => ltP (l.getD i (0, ⟨#[]⟩)) (l.getD j (0, ⟨#[]⟩))) l.length := {
      trans := fun a b c _ _ _ x y => ltP_trans x y
      tot := fun a b ha hb hab x => by
        refine ltP_tot (fun z => hab ?_) x
        rw [gd a ha, gd b hb] at z
        exact (List.getElem_inj nd).mp z }
    rw [hlen]
    refine KSat.wp (lt := fun i j => ltP (l.getD i (0, ⟨#[]⟩)) (l.getD j (0, ⟨#[]⟩))) (N := l.length) (fun i j Cc hi hj hc => ?_) ((sat_sort Or (by lia)).mono fun p zz => ea0_2 zz fun hp hs => ?_)
    · unfold kas_ask
      refine ea1_2 (r.get (i := i) (x := .pr l[i]) (by simp [hi])) fun v ev rv => ?_
      refine ea1_2 (r.get (i := j) (x := .pr l[j]) (by simp [hj])) fun u eu ru => ?_
      refine ea4_2 (pr_rep rv) fun a1 n1 t1 u1 qq4 f1 => ?_
      subst qq4
      refine ea4_2 (pr_rep ru) fun a2 n2 t2 u2 qq4 f2 => ?_
      subst qq4
      have g1 : vs.getD i .none = .ref a1 := by rw [List.getD_eq_getElem?_getD, ev]; rfl
      have g2 : vs.getD j .none = .ref a2 := by rw [List.getD_eq_getElem?_getD, eu]; rfl
      rw [g1, g2]
      rw [gd i hi, gd j hj] at hc
      exact ask_pair (st'.fz _ _ f1) (st'.fz _ _ f2) hc
    · refine KasFin.intro F' N' (.head fun q hq => (hN q hq).2.2.1) fun h2 c F2 N2 => ⟨_, rfl, ?_⟩
      have st2 := mv h2 _ F2 N2 fun p hp => List.mem_cons_of_mem _ hp
      refine ea0_3 (N2 (D, listOf (List.toArray (p.toList.map fun i => vs.getD i .none)) c) (List.mem_cons_self ..)) fun eD _ _ => ?_
      have hpl : p.toList.Perm (List.range l.length) := by simpa [PI, Array.perm_iff_toList_perm] using hp
      have rl : ∀ (q : List Nat), (∀ i ∈ q, i < l.length) → VRepL F ((q.map fun i => l.getD i (0, ⟨#[]⟩)).map MV.pr) (q.map fun i => vs.getD i .none) := by
        intro q
        induction q with
        | nil => intro _; exact .nil
        | cons i q ih =>
          intro hq
          have hi := hq i (List.mem_cons_self ..)
          refine ea1_2 (r.get (i := i) (x := .pr l[i]) (by simp [hi])) fun v ev rv => ?_
          refine .cons ?_ (ih fun j hj => hq j (List.mem_cons_of_mem _ hj))
          show VRep F (MV.pr (l.getD i (0, ⟨#[]⟩))) (vs.getD i .none)
          rw [gd i hi, List.getD_eq_getElem?_getD, ev]
          exact rv
      have hmem : ∀ i ∈ p.toList, i < l.length := fun i hi => by simpa using hpl.mem_iff.mp hi
      have st3 := st2.take (a := D) (x := .list ((p.toList.map fun i => l.getD i (0, ⟨#[]⟩)).map MV.pr)) eD hFD hDL hDS ⟨_, c, rfl, rl _ hmem⟩
      refine Pst.here st3 (.ref _) (h _ ?_ ?_)
      · have h1 := hpl.map (fun i => l.getD i (0, ⟨#[]⟩))
        refine h1.trans ?_
        have : (List.range l.length).map (fun i => l.getD i (0, ⟨#[]⟩)) = l := by
          apply List.ext_getElem
          · simp
          · intro i h1 h2; simp [List.getD, h2]
        rw [this]
      · rw [List.pairwise_map, List.pairwise_iff_getElem]
        intro i j hi hj hij
        have hz := hp.size
        simp only [Array.length_toList] at hi hj
        have := hs i j hij (by lia)
        have e1 : KK' p i = p.toList[i]'(by simpa using hi) := by simp [KK', Array.getD, hi]
        have e2 : KK' p j = p.toList[j]'(by simpa using hj) := by simp [KK', Array.getD, hj]
        rw [e1, e2] at this
        exact this
theorem K_sortedP {a : Addr} {l : List (Int × Str)} {Q : MV → Hp → Lv → Prop} (e : H a = some (.list (l.map MV.pr))) (h64 : l.length < 64) (nd : l.Nodup)
    (h : ∀ (b : Addr) (l' : List (Int × Str)), H b = none → l'.Perm l → l'.Pairwise (fun p q => ltP p q = true) → Q (.ref b) (H.put b (.list (l'.map MV.pr))) lv) : OC C A L (.bi "sorted") [.ref a] H lv Q := by
  intro F s g vs0 hg hv st
  cases hg
  cases hv with
  | cons h1 hl =>
  cases hl; cases h1
  refine ea2_3 (st.list e) fun vs n ho r hlen => ?_
  rw [List.length_map] at hlen
  refine ea1_2 (st.fr) fun m hFr hr => ?_
  have hLs : L < s.heap.objs.size := hFr.ns.lt
  refine Calls.call_function_entry kind_sorted plain_sorted entry_sorted (args_sorted1 _) ?_
  unfold Builtin.«sorted»
  refine wpAny_bind (m := checkCount "sorted" 1 1 _) (wpAny_pure ?_)
  refine wpAny_bind (collect_list (PySem.IsL.isList (n := n) ho) ?_ (by rw [sizeLine_eq]; lia))
  refine wpAny_bind (wpAny_newList ?_ (by rw [sizeLine_eq]; lia))
  have hsz : ((s.heap.push (seqObj "list" #[] 0)).update s.heap.objs.size (Obj.mapSeq (· ++ vs.toArray))).objs.size = s.heap.objs.size + 1 := by
    rw [Heap.size_update, size_push']
  have keep1 : ∀ b o, s.heap.get? b = some o → ((s.heap.push (seqObj "list" #[] 0)).update s.heap.objs.size (Obj.mapSeq (· ++ vs.toArray))).get? b = some o := fun b o q =>
    ((Heap.SameBut.update _ _ _).2 b (Nat.ne_of_lt (Heap.lt_size q))).trans (Heap.get?_push_of_some _ q)
  show wpAny _ _ _ _ _ { s with heap := ((s.heap.push (seqObj "list" #[] 0)).update s.heap.objs.size (Obj.mapSeq (· ++ vs.toArray))).push (seqObj "list" vs.toArray 0) }
  rw [hsz]
  generalize (s.heap.push (seqObj "list" #[] 0)).update s.heap.objs.size (Obj.mapSeq (· ++ vs.toArray)) = H1 at *
  have hoD : (H1.push (seqObj "list" vs.toArray 0)).get? (s.heap.objs.size + 1) = some (seqObj "list" vs.toArray 0) := by
    rw [← hsz]; exact Heap.get?_push_size _ rfl
  have keep2 : ∀ b o, s.heap.get? b = some o → (H1.push (seqObj "list" vs.toArray 0)).get? b = some o := fun b o q => Heap.get?_push_of_some _ (keep1 b o q)
  have st2 := st.keeps keep2 s.toks
  have hDn : s.heap.get? (s.heap.objs.size + 1) = none := Heap.get?_none_of_le (Nat.le_succ _)
  refine wpAny_bind (wpAny_holding (wpAny_call_entry slot_list_sort ⟨_, hoD, rfl⟩ entry_list_sort ?body (args_list_sort _)))
  case body =>
    refine wpAny_mono (sort_at (s := { s with heap := H1.push (seqObj "list" vs.toArray 0) }) (Q := Q) st st2 (hFr.kept keep2) hr r hlen hoD (by show (H1.push _).objs.size = _; rw [Heap.size_push, hsz]) (Nat.lt_succ_of_lt hLs) hDn keep2 rfl rfl h64 nd fun l' p1 p2 => h _ l' (st.freshH hDn) p1 p2) (fun fin s' zz => ea1_2 zz fun v ev hp => ?_) fun _ _ e => e.elim
    subst ev
    exact ⟨v, rfl, wpAny_pure ⟨_, rfl, hp⟩⟩
/-- two like lists of pairs -/
theorem C_eqLP {a b : Addr} {l : List (Int × Str)} {Q : MV → Hp → Lv → Prop} (hu : A.units + 3 < cLine) (e : H a = some (.list (l.map MV.pr))) (e' : H b = some (.list (l.map MV.pr))) (h : Q (.bool true) H lv) : O2 C A L VRep (compareOp .Eq) (.ref a) (.ref b) H lv Q := by
  intro F s u v hu' hv st
  cases hv; cases hu'
  refine ea2_3 (st.list e) fun vs n ho r hlen => ?_
  refine ea2_3 (st.list e') fun vs' n' ho' r' hlen' => ?_
  rw [List.length_map] at hlen hlen'
  refine SeqAt.eq_listAt (e := fun _ => true) (PySem.IsL.isList (n := n) ho) (PySem.IsL.isList (n := n') ho') (by simp only [List.size_toArray]; lia) (by lia) (fun j h1 h2 => ?_) ?_
  · have hj : j < l.length := by have := h1; simp only [List.size_toArray] at this; lia
    refine ea1_2 (r.get (i := j) (x := .pr l[j]) (by simp [hj])) fun x hx rx => ?_
    refine ea1_2 (r'.get (i := j) (x := .pr l[j]) (by simp [hj])) fun y hy ry => ?_
    have h3 : vs.toArray[j] = x := by simp only [List.getElem_toArray]; exact (List.getElem?_eq_some_iff.mp hx).2
    have h4 : vs'.toArray[j] = y := by simp only [List.getElem_toArray]; exact (List.getElem?_eq_some_iff.mp hy).2
    rw [h3, h4]
    refine ea4_2 (pr_rep rx) fun a1 n1 t1 u1 qq4 f1 => ?_
    subst qq4
    refine ea4_2 (pr_rep ry) fun a2 n2 t2 u2 qq4 f2 => ?_
    subst qq4
    by_cases hs : a1 = a2
    · subst hs; exact SeqAt.EqAt.same _
    · refine SeqAt.EqAt.of_refs hs ?_
      have := SeqAt.RcAt.tuples (A := A.in1) (s := s) (l := a1) (b := a2) (items := #[.int (l[j]'hj).1 t1, .str (l[j]'hj).2 u1]) (items2 := #[.int (l[j]'hj).1 t2, .str (l[j]'hj).2 u2]) (e := fun _ => true) ⟨_, st.fz _ _ f1, rfl, _, rfl⟩ ⟨_, st.fz _ _ f2, rfl, _, rfl⟩ (by show A.units + 1 < cLine; lia) (fun i z1 z2 => ?_)
      · exact this
      · match i, z1 with
        | 0, _ => have := SeqAt.EqAt.int_int (A := A.in1.in1) (s := s) (l[j]'hj).1 t1 (l[j]'hj).1 t2; rw [beq_self_eq_true] at this; exact this
        | 1, _ => have := SeqAt.EqAt.str_str (A := A.in1.in1) (s := s) (l[j]'hj).2 u1 (l[j]'hj).2 u2; rw [beq_self_eq_true] at this; exact this
  · have : (List.range vs.toArray.size).all (fun _ => true) = true := by simp
    rw [this]
    exact Pst.here st (.bool _) h
end
end Mine
end
section
open PySem PySem.W PyProof.Rows PySem.Calls PySem.Spec Builtin
set_option Elab.async false
set_option maxRecDepth 100000
set_option linter.unusedVariables false
set_option linter.unusedSectionVars false
namespace Mine
section
variable {C : Cx} {A : Around} {H : Hp} {lv : Lv} {L : Addr} {env : Env}
noncomputable def CompO (C : Cx) (A : Around) (cenv : Env) (t elt : Expr) (D : Addr) (Pr : Hp → Prop) (Qe : Hp → Prop) : List MV → Hp → Lv → Prop
  | [], H, _ => Qe H
  | x :: xs, H, lv => OA C A cenv t x H lv fun H lv => WE C A cenv elt H lv fun y H lv => ∃ l, H D = some (.list l) ∧ l.length ≤ 90000 ∧ Pr H ∧ CompO C A cenv t elt D Pr Qe xs (H.put D (.list (l ++ [y]))) lv
/-- the loop of a comprehension, what is walked over being owned -/
theorem comp_loopO {t elt iter : Expr} {scope : Scope} {pos : Pos} {I D : Addr} {fp : List Addr} {n : Nat} {P : Nat → Value → Prop} {Sti : Nat → Heap → Prop} {items : List MV} {Qe : Hp → Prop} {F₀ : Fz} {s : Shared} {Pr : Hp → Prop} {cenv : Env}
    (Wk : Walks Pg C.w A I fp [I] n P Sti) (hn : items.length = n) (hP : ∀ i v F, F₀.le F → P i v → ∀ x, items[i]? = some x → VRep F x v)
    (hfp : ∀ a ∈ fp, a ≠ I → ∃ ob, ∀ F' H' s' lv', F₀.le F' → St C F' H' cenv.locals lv' s' → Pr H' → s'.heap.get? a = some ob) (hI : ∀ i h, Sti i h → ∃ ob nm, h.get? I = some ob ∧ ob.cls = .type nm ∧ okIter nm = true) (hb : C.h₀.get? I = Option.none) (hpr : ∀ H' l, Pr H' → Pr (H'.put D (.list l))) (hPr : Pr H)
    (hF : F₀ I = Option.none) (hH : H I = Option.none) (hL : I ≠ cenv.locals) (hDI : D ≠ I) (st : St C F₀ H cenv.locals lv s) (h0 : Sti 0 s.heap)
    (h : CompO C A cenv t elt D Pr Qe items H lv) :
    codeAny C.M A (.compLoop (.ListComp elt [⟨t, iter, [], 0⟩] scope pos) 0 (.ref I) (.ref D) cenv) (fun r s' => match r with | .ok _ => ∃ F' H' lv', F₀.le F' ∧ St C F' H' cenv.locals lv' s' ∧ Qe H' | .error _ => False) s := by
  refine compLoop_any (fun k s' => ∃ i F' H' lv', k + i = n + 1 ∧ i ≤ n ∧ F₀.le F' ∧ F' I = Option.none ∧ H' I = Option.none ∧ St C F' H' cenv.locals lv' s' ∧ Sti i s'.heap ∧ Pr H' ∧ CompO C A cenv t elt D Pr Qe (items.drop i) H' lv')
    (fun k s' zz => ea4_9 zz fun i F' H' lv' hk hi k' hF' hH' st' hS hPr' hW => ?_) (n + 1) ⟨0, F₀, H, lv, rfl, Nat.zero_le _, Fz.le.refl _, hF, hH, st, h0, hPr, h⟩
  rcases Nat.lt_or_ge i n with hlt | hge
  · refine Wk.item i s' _ _ hlt hS fun v h' tk hPv hS' hkeep => ?_
    have hi' : i < items.length := by lia
    have hx : items[i]? = some items[i] := by simp [hi']
    rw [List.drop_eq_getElem_cons hi'] at hW
    have st1 := st'.other (h' := h') (fun b o hb e => hkeep b o (by simpa using hb) e) hF' hH' hL tk
    refine ea2_3 (hI _ _ hS') fun oI nmI hoI hcI hok => ?_
    have hnI := okIter_imm hcI hok
    refine letgo_plain (s := { s' with heap := h', toks := tk }) hoI hcI hok ?_
    have st2 := st1.freeze hoI hF' hH' hL
    have le2 := Fz.le_put oI hF'
    refine Pst.seq (hW (F'.put I oI) _ v (hP i v _ (k'.trans le2) hPv _ hx) st2) fun u s2 F2 H2 lv2 _ k2 st2' _ q2 => ?_
    refine Pst.seq (q2 F2 s2 st2') fun y s3 F3 H3 lv3 my k3 st3 r3 q3 => ?_
    refine ea1_4 q3 fun l eD hsz pr3 q3 => ?_
    have happ : OC C A cenv.locals (.bi "list.append") [.ref D, my] H3 lv3 fun v H' lv' => H' = H3.put D (.list (l ++ [my])) ∧ lv' = lv3 := K_append eD (by lia) ⟨rfl, rfl⟩
    refine Pst.seq (happ F3 s3 _ _ (.bi _) (.cons (.ref _) (.cons r3 .nil)) st3) fun _ s4 F4 H4 lv4 _ k4 st4' _ q4 => ea0_2 q4 fun e4 e5 => ?_
    subst e4 e5
    have kk : (F'.put I oI).le F4 := k2.trans (k3.trans k4)
    have hI3 : F4 I = some oI := kk _ _ (Fz.put_self ..)
    have le3 : F'.le (F4.del I) := le_del hF' kk
    have st4 := st4'.melt hI3 hnI hb
    have hI33 : F3 I = some oI := (k2.trans k3) _ _ (Fz.put_self ..)
    have hH3 : H3 I = Option.none := by
      cases q : H3 I with
      | none => rfl
      | some x => have := (st3.own I x q).1; rw [hI33] at this; cases this
    have hH4 : (H3.put D (.list (l ++ [my]))) I = Option.none := by rw [Hp.put_ne _ _ (Ne.symm hDI)]; exact hH3
    have hS3 : Sti (i + 1) s4.heap := Wk.frame _ _ _ hS' fun a ha ob e => by
      by_cases q : a = I
      · subst q
        have : ob = oI := Option.some.inj (e.symm.trans hoI)
        subst this
        exact st4'.fz _ _ hI3
      · refine ea1_1 (hfp a ha q) fun ob' e' => ?_
        have e2 := e' _ _ _ _ k' st1 hPr'
        have : ob = ob' := Option.some.inj (e.symm.trans e2)
        subst this
        exact e' _ _ _ _ (k'.trans (le2.trans kk)) st4' (hpr _ _ pr3)
    exact ⟨k - 1, by lia, i + 1, F4.del I, _, lv4, by lia, hlt, k'.trans le3, if_pos rfl, hH4, st4, hS3, hpr _ _ pr3, q3⟩
  · have : i = n := by lia
    subst this
    refine Wk.done s' _ _ hS fun h' tk hkeep => ?_
    have st1 := st'.other (h' := h') (fun b o hb e => hkeep b o (by simpa using hb) e) hF' hH' hL tk
    rw [List.drop_eq_nil_of_le (by lia)] at hW
    exact ⟨F', H', lv', k', st1, hW⟩
theorem comp_soundO {t elt iter : Expr} {scope : Scope} {cl : List (Str × Addr)} {pos : Pos} {I : Addr} {fp : List Addr} {n : Nat} {P : Nat → Value → Prop} {Sti : Nat → Heap → Prop} {items : List MV} {Qe : Addr → Hp → Prop} {F₀ : Fz} {s : Shared} {Pr : Hp → Prop} {RR : Value → Addr → Result → Shared → Prop}
    (Wk : Walks Pg C.w A I fp [I] n P Sti) (hn : items.length = n) (hP : ∀ i v F, F₀.le F → P i v → ∀ x, items[i]? = some x → VRep F x v)
    (hfp : ∀ a ∈ fp, a ≠ I → ∃ ob, ∀ F' H' s' L' lv', F₀.le F' → St C F' H' L' lv' s' → Pr H' → s'.heap.get? a = some ob) (hI : ∀ i h, Sti i h → ∃ ob nm, h.get? I = some ob ∧ ob.cls = .type nm ∧ okIter nm = true) (hb : C.h₀.get? I = Option.none) (hpr : ∀ D H' l, H D = none → Pr H' → Pr (H'.put D (.list l))) (hPr : Pr H)
    (hF : F₀ I = Option.none) (hH : H I = Option.none) (hL : I ≠ env.locals) (hIs : I < s.heap.objs.size) (st : St C F₀ H env.locals lv s) (h0 : Sti 0 s.heap)
    (hcell : ∀ y ∈ scope.names, y.2 ≠ .cell) (hkind : scope.kind = .function)
    (h : ∀ D L', H D = none → F₀ D = none → CompO C A (compEnvC scope cl L' env) t elt D Pr (Qe D) items (H.put D (.list [])) fun _ => none)
    (hRR : ∀ D L' F' H' s' f, F₀.le F' → St C F' H' env.locals lv s' → (∃ m, s'.heap.Ns L' m) → F' L' = none → H' L' = none → L' ≠ env.locals → C.h₀.get? L' = none → Qe D H' → RR (.ref D) L' (.ok f) s') :
    wpAny C.M A (newList []) (fun acc s₃ => wpAny C.M A (newFunctionEnv scope env.globals cl [] env.qual none .none (some env)) (fun cenv s₄ =>
      codeAny C.M A (.compStart (.ListComp elt [⟨t, iter, [], 0⟩] scope pos) 0 (.ref I) acc { cenv with scope := relabel scope env }) (RR acc cenv.locals) s₄) NoE s₃) NoE s := by
  refine wpAny_newObj_type (wpAny_newFunctionEnv hcell (by intro y hy; simp at hy) (fun h₁ hns₁ hsb₁ => ?_) hkind)
  have hDn := st.freshH (size_fresh s.heap)
  have stD := put_own (x := .list []) (o := { cls := .type "list", data := .seq ([] : List Value).toArray }) st rfl ⟨[], 0, rfl, .nil⟩
  dsimp only at hns₁ hsb₁ ⊢
  generalize hH2 : s.heap.push { cls := .type "list", dict := none, data := .seq ([] : List Value).toArray } = H2 at hns₁ hsb₁ stD ⊢
  have hC : H2.objs.size = s.heap.objs.size + 1 := by rw [← hH2, Heap.size_push]
  have keep : ∀ b o, H2.get? b = some o → h₁.get? b = some o := fun b o e => hsb₁.extBut b o (Nat.ne_of_lt (Heap.lt_size e)) (Heap.get?_push_of_some _ e)
  refine ea1_4 (enter_St (lv' := fun _ => none) stD keep (Nat.le_refl _) hns₁ (s.toks + ([] : List (Str × Value)).length) (fun _ => .none)) fun oL le hni hoL st1 => ?_
  have hIne : I ≠ H2.objs.size := by rw [hC]; exact Nat.ne_of_lt (Nat.lt_succ_of_lt hIs)
  have hID : s.heap.objs.size ≠ I := Ne.symm (Nat.ne_of_lt hIs)
  have hb' : C.h₀.get? H2.objs.size = none := by
    cases q : C.h₀.get? H2.objs.size with
    | none => rfl
    | some o => have := stD.keepsB _ _ q; rw [size_fresh] at this; cases this
  have hLne : H2.objs.size ≠ env.locals := Ne.symm (Nat.ne_of_lt (Heap.lt_size hoL))
  have h0' : Sti 0 h₁ := Wk.frame _ _ _ h0 fun b _ o e => keep b o (hH2 ▸ Heap.get?_push_of_some _ e)
  have loop : codeAny C.M A (.compLoop (.ListComp elt [⟨t, iter, [], 0⟩] scope pos) 0 (.ref I) (.ref s.heap.objs.size) (compEnvC scope cl H2.objs.size env)) (RR (.ref s.heap.objs.size) H2.objs.size) { s with heap := h₁, toks := s.toks + ([] : List (Str × Value)).length } := by
    refine codeAny_mono (comp_loopO (cenv := compEnvC scope cl H2.objs.size env) (Pr := Pr) Wk hn (fun i v F k => hP i v F (le.trans k)) (fun a ha hne => let ⟨ob, e⟩ := hfp a ha hne; ⟨ob, fun F' H' s' lv' k st' p => e F' H' s' _ lv' (le.trans k) st' p⟩) hI hb (fun H' l p => hpr _ H' l hDn p) (hpr _ _ _ hDn hPr)
      (by rw [Fz.put_ne _ _ hL]; exact hF) (by rw [Hp.put_ne _ _ (Ne.symm hID)]; exact hH) hIne hID st1 h0' (h _ _ hDn (st.freshF (size_fresh _)))) (fun r s' hr => ?_)
    cases r with
    | error e => exact hr.elim
    | ok f =>
      refine ea3_3 hr fun F' H' lv' k' st' q => ?_
      (try clear hr)
      refine ea0_2 (leave_St stD hoL hni k' st') fun le' st2 => ?_
      refine ea1_2 (st'.ns) fun m hm _ => ?_
      refine hRR _ _ _ H' s' f le' st2 ⟨m, hm⟩ ?_ ?_ hLne hb' q
      · unfold Fz.del; rw [if_neg hLne]; exact st'.fL
      · cases z : H' H2.objs.size with
        | none => rfl
        | some x => exact absurd rfl (st'.own _ _ z).2.1
  exact codeAny_compStart_list loop (Wk.self 0 _ _ _ h0' loop)
end
end Mine
end
section
open PySem PySem.W PyProof.Rows PySem.Calls PySem.Spec Builtin
set_option Elab.async false
set_option maxRecDepth 100000
set_option linter.unusedVariables false
set_option linter.unusedSectionVars false
namespace Mine
section
variable {C : Cx} {A : Around} {H : Hp} {lv : Lv} {L : Addr} {env : Env}
noncomputable def RawInts (C : Cx) (o : Obj) (l : List (Str × Int)) : Prop := ∃ kvs, o.IsDictOf (PySem.strKind Pg C.w) kvs ∧ KV (fun _ => none) (iVals l) kvs
theorem kv_ints {F F' : Fz} : ∀ {l : List (Str × Int)} {kvs : List (Str × Value)}, KV F (iVals l) kvs → KV F' (iVals l) kvs
  | [], _, .nil => .nil
  | p :: l, _, .cons hv hl => by
    cases hv with
    | int _ t => exact .cons (.int _ _) (kv_ints hl)
theorem W.expose {α β : Type} {R : Fz → β → α → Prop} {t : Sem α} {Q : β → Hp → Lv → Prop} {a : Addr} {l : List (Str × Int)} (e : H a = some (.sd (iVals l))) (h : ∀ o, RawInts C o l → W C A L R t (H.put a (.raw o)) lv Q) : W C A L R t H lv Q := fun F s st => by
  obtain ⟨p1, p2, o, ho, kvs, hd, r⟩ := st.own _ _ e
  have hS : a ≠ sysModules := fun z => by rw [z, st.nosys] at e; cases e
  exact h o ⟨kvs, hd, kv_ints r⟩ F s (st.take (x := .raw o) ho p1 p2 hS rfl)
theorem St.rawDict {F : Fz} {s : Shared} {a : Addr} {o : Obj} {l : List (Str × Int)} (st : St C F H L lv s) (e : H a = some (.raw o)) (R : RawInts C o l) : ∃ kvs, s.heap.get? a = some o ∧ o.IsDictOf (PySem.strKind Pg C.w) kvs ∧ s.heap.DictOf (PySem.strKind Pg C.w) a kvs ∧ KV F (iVals l) kvs ∧ (a == sysModules) = false := by
  obtain ⟨_, _, o', ho, rfl⟩ := st.own _ _ e
  refine ea1_2 R fun kvs hd r => ?_
  (try clear R)
  refine ⟨kvs, ho, hd, Heap.dictOf_iff.mpr ⟨_, ho, hd⟩, kv_ints r, ?_⟩
  rw [beq_eq_false_iff_ne]
  intro q; rw [q, st.nosys] at e; cases e
theorem G_dictRaw {a : Addr} {o : Obj} {l : List (Str × Int)} {k : Str} {i : Int} {v ie : Expr} {Q : MV → Hp → Lv → Prop} (e : H a = some (.raw o)) (R : RawInts C o l) (hx : dget (iVals l) k = some (.int i)) (h : Q (.int i) H lv) (hi : plainSlice ie = true := by rfl) : O2 C A L VRep (subscriptTail v ie) (.ref a) (.str k) H lv Q := by
  intro F s u w hu hw st
  cases hu
  refine ea1_5 (st.rawDict e R) fun kvs ho hd0 hd r hs => ?_
  have := r.get k
  rw [hx] at this
  generalize hv : valueAt kvs k = q at this
  cases this with
  | some y => exact tail_any hd.typeIs slot_dict_getitem.lookup (wpAny_getItem_of ((sK C).is F k w hw) hd.mapOf hv (Pst.here (st.tok _) y h)) (subscripted_plain hi _ _)
theorem CompO_map {X : Type} (f g : X → MV) {cenv : Env} {t elt : Expr} {D : Addr} {Pr Qe : Hp → Prop} {H0 : Hp} : ∀ (xs : List X) (l : List MV) (lv : Lv),
    (∀ x l lv, x ∈ xs → OA C A cenv t (f x) (H0.put D (.list l)) lv fun H lv => WE C A cenv elt H lv fun y H' lv' => H' = H0.put D (.list l) ∧ y = g x) →
    l.length + xs.length ≤ 90000 → (∀ l, Pr (H0.put D (.list l))) → Qe (H0.put D (.list (l ++ xs.map g))) → CompO C A cenv t elt D Pr Qe (xs.map f) (H0.put D (.list l)) lv
  | [], l, lv, _, _, _, k => by
    rw [List.map_nil, List.append_nil] at k
    exact k
  | x :: xs, l, lv, turn, hsz, hp, k => by
    rw [List.map_cons]
    show OA C A cenv t (f x) (H0.put D (.list l)) lv _
    refine OA.mono (turn x l lv List.mem_cons_self) fun H lv q => W.mono q fun y H lv q => ?_
    refine ea0_2 q fun qq0 qq1 => ?_
    subst qq0 qq1
    (try clear q)
    simp only [List.length_cons] at hsz
    refine ⟨l, Hp.put_self .., by lia, hp l, ?_⟩
    rw [Hp.put_put]
    exact CompO_map f g xs (l ++ [g x]) lv (fun x l lv hx => turn x l lv (List.mem_cons_of_mem _ hx)) (by simp; lia) hp (by simpa using k)
theorem W_LC_raw {t elt iter : Expr} {scope : Scope} {cl : List (Str × Addr)} {pos : Pos} {Q : MV → Hp → Lv → Prop} (hh : A.handled = none) (hclos : closureFor scope env = pure cl) (hcell : ∀ y ∈ scope.names, y.2 ≠ .cell) (hkind : scope.kind = .function) (hnames : ∀ x ∈ scope.names, x.2 = .local → scope.names.lookup x.1 = some .local)
    (h : WE C A env iter H lv fun x H lv => ∃ a o l, x = .ref a ∧ H a = some (.raw o) ∧ RawInts C o l ∧ ∀ D L', H D = none → CompO C A (compEnvC scope cl L' env) t elt D (fun H => H a = some (.raw o)) (fun H' => Q (.ref D) H' lv) (l.map fun p => .str p.1) (H.put D (.list [])) fun _ => none)
    (hs : ∀ x, foldedSetIterable iter env x = pure x := by intro _; rfl) : WE C A env (.ListComp elt [⟨t, iter, [], 0⟩] scope pos) H lv Q := by
  intro F s st
  show wpAny _ _ (eval _ _) _ _ _
  rw [eval_ListComp]
  refine wpAny_comprehension_free (use := none) rfl hs hclos hkind hnames (Pst.seq (h F s st) fun xv s1 F1 H1 lv1 x k1 st1 r1 q1 => ?_)
  refine ea3_4 q1 fun a o l qq3 e R hc => ?_
  subst qq3
  (try clear q1)
  cases r1
  refine ea1_5 (st1.rawDict e R) fun kvs hod hdo hd r hsys => ?_
  obtain ⟨ep, hda⟩ : ∃ ep, s1.heap.DictAt (PySem.strKind Pg C.w) a kvs ep := by
    refine ea3_3 hd fun o es ep h1 h2 h3 => ?_
    (try clear hd)
    exact ⟨ep, o, es, h1, h2, h3⟩
  have hne : a ≠ s1.heap.objs.size := Nat.ne_of_lt (Heap.lt_size hod)
  refine wpAny_pyIter_dict hsys hda ?_
  have st2 := st1.keeps (h' := s1.heap.push { cls := .type "dict_keyiterator", data := .fields #[.ref a, .int 0 0, .int kvs.length 0, .int ep 0] }) (fun b o' e => Heap.get?_push_of_some _ e) s1.toks
  refine comp_soundO (Pr := fun H => H a = some (.raw o)) (items := l.map fun p => .str p.1) (Qe := fun D H' => Q (.ref D) H' lv1) (Walks.dictKeys (knd := PySem.strKind Pg C.w) hh s1.heap.objs.size a hne kvs ep) (by rw [List.length_map, r.length]; simp [iVals])
    (fun i v F' k hi x hx => ?_) (fun b hb hne' => ?_) (fun i hp hs => ?_) (newIter_base st1) (fun D H' l hD p => ?_) e
    (st1.freshF (size_fresh _)) (st1.freshH (size_fresh _)) (st1.freshL (size_fresh _)) (by rw [Heap.size_push]; exact Nat.lt_succ_self _) st2 ⟨⟨_, Heap.get?_push_size _ rfl, rfl, rfl⟩, hda.at' fun o e => Heap.get?_push_of_some _ e⟩ hcell hkind (fun D L' hD hDF => hc D L' hD) (fun D L' F' H' s' f k' st' hm hFL hHL hLL hbL q => ?_)
  · refine ea2_2 hi fun k1 x1 hk1 his => ?_
    (try clear hi)
    rw [List.getElem?_map] at hx
    refine ea1_2 (Option.map_eq_some_iff.mp hx) fun p hp qq2 => ?_
    subst qq2
    have key : ∀ {l : List (Str × MV)} {kvs : List (Str × Value)} {F : Fz}, KV F l kvs → ∀ (i : Nat) (p : Str × MV) (k : Str) (x : Value), l[i]? = some p → kvs[i]? = some (k, x) → p.1 = k := by
      intro l kvs F h
      induction h with
      | nil => intro i p k x h; simp at h
      | cons hv hl ih =>
        intro i p k x h1 h2
        cases i with
        | zero => simp at h1 h2; rw [← h1]; exact h2.1
        | succ i => simp at h1 h2; exact ih i p k x h1 h2
    have hpi : (iVals l)[i]? = some (p.1, .int p.2) := by unfold iVals; rw [List.getElem?_map, hp]; rfl
    have := key r i (p.1, .int p.2) k1 x1 hpi hk1
    dsimp only at this
    rw [this]
    exact (sK C).of _ _ _ his
  · simp only [List.mem_cons, List.not_mem_nil, or_false] at hb
    rcases hb with hb | hb
    · exact absurd hb hne'
    · subst hb
      exact ⟨o, fun F' H' s' L' lv' k st' p => by obtain ⟨_, _, o', ho', rfl⟩ := st'.own _ _ p; exact ho'⟩
  · obtain ⟨⟨ob, h1, h2, _⟩, _⟩ := hs
    exact ⟨ob, _, h1, h2, by decide⟩
  · exact Hp.get_ne (ne_of_own e hD) p
  · refine ea1_1 hm fun m hm => ?_
    refine ⟨m, hm, fun h' hsb => ?_⟩
    have st3 := st'.other (h' := h') (a := L') (fun b o hb e => (hsb.2 b hb).trans e) hFL hHL hLL s'.toks
    exact ⟨_, _, lv1, .ref D, k1.trans k', st3, .ref _, q⟩
end
end Mine
end
section
open PySem PySem.W PyProof.Rows PySem.Calls PySem.Spec
set_option Elab.async false
set_option maxRecDepth 100000
set_option linter.unusedVariables false
set_option linter.unusedSectionVars false

namespace Mine
local macro_rules | `(tactic| walk_at "ne") => `(tactic| first | assumption | exact Ne.symm (by assumption) | lia)
local macro_rules | `(tactic| walk_at "hp") => `(tactic| first | assumption | exact Hp.put_self _ _ _ | (refine Hp.get_ne (by walk_at "ne") ?_; walk_at "hp") | (refine Hp.get_del (by walk_at "ne") ?_; walk_at "hp"))
/-! one step of the logic -/
set_option compiler.extract_closed false
local macro_rules | `(tactic| walk_at "me") => `(tactic| first
  | with_reducible refine W_int ?_
  | with_reducible refine W_str ?_
  | with_reducible refine W_none ?_
  | ((with_reducible refine (?_ : WE _ _ _ (.Name (Str.ofString "range") ..) ..)); refine W_builtin (by assumption) rfl bb_range (fun _ => VRep.ty _) ?_)
  | ((with_reducible refine (?_ : WE _ _ _ (.Name (Str.ofString "len") ..) ..)); refine W_builtin (by assumption) rfl bb_len (fun _ => VRep.bi _) ?_)
  | ((with_reducible refine (?_ : WE _ _ _ (.Name (Str.ofString "min") ..) ..)); refine W_builtin (by assumption) rfl bb_min (fun _ => VRep.bi _) ?_)
  | ((with_reducible refine (?_ : WE _ _ _ (.Name (Str.ofString "sorted") ..) ..)); refine W_builtin (by assumption) rfl bb_sorted (fun _ => VRep.bi _) ?_)
  | ((with_reducible refine (?_ : WE _ _ _ (.Name (Str.ofString "dict") ..) ..)); refine W_builtin (by assumption) rfl bb_dict (fun _ => VRep.ty _) ?_)
  | ((with_reducible refine (?_ : WE _ _ _ (.Name (Str.ofString "enumerate") ..) ..)); refine W_builtin (by assumption) rfl bb_enumerate (fun _ => VRep.ty _) ?_)
  | ((with_reducible refine (?_ : WE _ _ _ (.Name (Str.ofString "iter") ..) ..)); refine W_builtin (by assumption) rfl bb_iter (fun _ => VRep.bi _) ?_)
  | ((with_reducible refine (?_ : WE _ _ _ (.Name ..) ..)); first | refine W_local rfl ?_ | refine W_global (by assumption) rfl (fun _ => VRep.ref _) ?_ | refine W_cell rfl (by walk_at "hp") ?_ | refine W_free rfl (by walk_at "hp") ?_)
  | with_reducible refine W_BinOp ?_
  | with_reducible refine W_UnaryOp ?_
  | ((with_reducible refine (?_ : WE _ _ _ (.Subscript _ (.Slice (some _) none none _) ..) ..)); refine W_SliceFrom ?_)
  | ((with_reducible refine (?_ : WE _ _ _ (.Subscript _ (.Slice (some _) (some _) none _) ..) ..)); refine W_SliceS ?_)
  | with_reducible refine W_Sub ?_
  | ((with_reducible refine (?_ : WE _ _ _ (.Attribute ..) ..)); refine W_Attr ?_)
  | with_reducible refine W_Compare ?_
  | with_reducible refine W_Tuple ?_
  | with_reducible refine W_List ?_
  | ((with_reducible refine (?_ : WE _ _ _ (.Call (.Name ..) (_ :: _) ..) ..)); refine W_Call ?_)
  | ((with_reducible refine (?_ : WE _ _ _ (.Call (.Attribute ..) (_ :: _) ..) ..)); refine W_Meth ?_)
  | ((with_reducible refine (?_ : WE _ _ _ (.Call (.Attribute ..) [] ..) ..)); refine W_Meth0 ?_)
  )
local macro_rules | `(tactic| walk_at "ms") => `(tactic| first
  | with_reducible refine X_nil ?_
  | ((with_reducible refine (?_ : WS _ _ _ (.Assign [.Name ..] ..) ..)); first | refine S_Assign ?_ | refine S_AssignC' rfl ?_)
  | ((with_reducible refine (?_ : WS _ _ _ (.Assign [.Tuple ..] ..) ..)); refine S_AssignT ?_)
  | ((with_reducible refine (?_ : WS _ _ _ (.Assign [.Subscript ..] ..) ..)); refine S_SetItem ?_)
  | ((with_reducible refine (?_ : WS _ _ _ (.Assign [.Attribute ..] ..) ..)); refine S_SetAttr (by assumption) ?_)
  | ((with_reducible refine (?_ : WS _ _ _ (.AugAssign (.Attribute ..) ..) ..)); refine S_AugAttr (by assumption) ?_)
  | ((with_reducible refine (?_ : WS _ _ _ (.Expr ..) ..)); refine S_Expr ?_)
  | with_reducible refine S_If ?_
  | with_reducible refine S_Return ?_
  | with_reducible refine S_Break ?_
  | with_reducible refine S_Continue ?_
  | ((with_reducible refine (?_ : WS _ _ _ (.For (.Tuple ..) (.Call (.Name (Str.ofString "enumerate") _) _ _ _) ..) ..)); refine S_ForEnum (by assumption) (by assumption) ?_)
  | ((with_reducible refine (?_ : WS _ _ _ (.For ..) ..)); refine S_For ?_)
  | ((with_reducible refine (?_ : WS _ _ _ (.AugAssign (.Name ..) ..) ..)); refine S_Aug rfl ?_)
  )
local macro_rules | `(tactic| walk_at "mt") => `(tactic| first
  | with_reducible refine T_Compare ?_
  | with_reducible refine T_Not ?_
  | with_reducible refine T_BoolOp ?_
  | ((with_reducible refine (?_ : W _ _ _ _ (isTrue (.Name ..) ..) ..)); refine T_value ?_ (fun _ => rfl))
  | ((with_reducible refine (?_ : W _ _ _ _ (isTrue (.Attribute ..) ..) ..)); refine T_value ?_ (fun _ => rfl))
  | with_reducible refine T_And_cons ?_
  | with_reducible refine T_And_nil ?_
  | ((with_reducible refine (?_ : W _ _ _ _ (allTrue .Or (_ :: _) ..) ..)); first | refine T_Or_cons ?_ | refine T_Or_cons' ?_)
  | ((with_reducible refine (?_ : W _ _ _ _ (allTrue .Or [] ..) ..)); first | refine T_Or_nil ?_ | refine T_Or_nil' ?_)
  )
local macro_rules | `(tactic| walk_at "ml") => `(tactic| first
  | with_reducible refine L_nil ?_
  | ((with_reducible refine (?_ : WL _ _ _ _ (_ :: _) ..)); refine L_cons ?_)
  )
local macro_rules | `(tactic| walk_at "mo") => `(tactic| first
  | with_reducible refine O_truth ?_
  | with_reducible refine U_neg ?_
  | with_reducible refine B_add ?_
  | with_reducible refine I_add ?_
  | ((with_reducible refine (?_ : O2 _ _ _ _ (binaryOp .Mod) (.int ..) (.int (OfNat.ofNat _)) ..)); refine B_modE (by decide) ?_)
  | ((with_reducible refine (?_ : O2 _ _ _ _ (binaryOp .FloorDiv) (.int ..) (.int (OfNat.ofNat _)) ..)); refine B_divE (by decide) ?_)
  | with_reducible refine B_sub ?_
  | with_reducible refine B_and ?_
  | with_reducible refine B_xor ?_
  | with_reducible refine C_lt ?_
  | with_reducible refine C_le ?_
  | with_reducible refine C_gt ?_
  | with_reducible refine C_eq ?_
  | with_reducible refine C_ne ?_
  | with_reducible refine C_eqS ?_
  | with_reducible refine C_neS ?_
  | with_reducible refine C_is ?_
  | with_reducible refine C_isnt ?_
  | ((with_reducible refine (?_ : O2 _ _ _ _ (subscriptTail _ _) (.tup ..) (.int (OfNat.ofNat _)) ..)); refine G_tup (by decide) rfl ?_ (Nat.le_of_ble_eq_true rfl))
  )
local macro_rules | `(tactic| walk_at "mz") => `(tactic| first
  | ((with_reducible refine (?_ : OA _ _ _ (.Name ..) ..)); first | refine A_Name ?_ | refine A_Cell rfl (by walk_at "hp") ?_)
  | ((with_reducible refine (?_ : OA _ _ _ (.Tuple ..) (.tup (_ :: _)) ..)); refine A_Tuple (by assumption) ?_ rfl)
  | ((with_reducible refine (?_ : OAs _ _ _ (_ :: _) (_ :: _) ..)); (unfold OAs))
  | ((with_reducible refine (?_ : OAs _ _ _ [] [] ..)); (unfold OAs))
  | ((with_reducible refine (?_ : Callee _ (MV.ref _) ∧ _)); refine ⟨callee_K (by assumption) rfl, ?_⟩)
  | with_reducible refine ⟨callee_bi _, ?_⟩
  | with_reducible refine ⟨callee_ty _, ?_⟩
  | ((with_reducible refine (?_ : Callee _ (Prod.fst _) ∧ _)); dsimp only)
  | ((with_reducible refine (?_ : OC _ _ _ (Prod.fst _) ..)); dsimp only [List.nil_append, List.cons_append])
  | ((with_reducible refine (?_ : MV.none = MV.none ∧ _)); refine ⟨rfl, ?_⟩)
  | ((with_reducible refine (?_ : (∃ _, _ = some (MObj.cell _)) ∧ _)); refine ⟨⟨_, by walk_at "hp"⟩, ?_⟩)
  | with_reducible refine ForW_cons ?_
  | with_reducible refine ForW_nil ?_
  | ((with_reducible refine (?_ : True → _)); intro _)
  | ((with_reducible refine (?_ : OF _ _ _ _ _ _ (.tup ..) ..)); refine F_tup (by assumption) ?_)
  | ((with_reducible refine (?_ : List.length (List.cons _ _) ≤ 100000 ∧ _)); refine ⟨Nat.le_of_ble_eq_true rfl, ?_⟩)
  | ((with_reducible refine (?_ : List.length List.nil ≤ 100000 ∧ _)); refine ⟨Nat.le_of_ble_eq_true rfl, ?_⟩)
  | with_reducible refine brA ?_
  | with_reducible refine brB ?_
  | with_reducible refine brC ?_
  | with_reducible refine loop_next ?_
  | with_reducible refine loop_cont ?_
  | with_reducible refine loop_brk ?_
  | with_reducible refine loop_ret ?_
  )
local macro_rules | `(tactic| walk_at "m") => `(tactic| first
  | with_reducible refine kSeq_next ?_
  | with_reducible refine kX_go ?_
  | with_reducible refine kSeq_ret ?_
  | with_reducible refine kSeq_brk ?_
  | with_reducible refine kSeq_cont ?_
  | ((with_reducible refine (?_ : WE ..)); walk_at "me")
  | ((with_reducible refine (?_ : O2 ..)); walk_at "mo")
  | ((with_reducible refine (?_ : WL ..)); walk_at "ml")
  | ((with_reducible refine (?_ : _ ∧ _)); walk_at "mz")
  | ((with_reducible refine (?_ : W _ _ _ FRep ..)); walk_at "ms")
  | ((with_reducible refine (?_ : O1 ..)); walk_at "mo")
  | ((with_reducible refine (?_ : W ..)); walk_at "mt")
  | walk_at "mz")
/-- the same, and on to the next statement -/
local macro_rules | `(tactic| walk_at "M") => `(tactic| first | walk_at "m" | with_reducible refine X_cons ?_)
section
noncomputable abbrev PS := Int × Str
/-- what _siftdown does -/
noncomputable def sdF (x : PS) : Nat → List PS → List PS
  | 0, l => l.set 0 x
  | n + 1, l => if ltP x (l.getD (n / 2) x) then sdF x (n / 2) (l.set (n + 1) (l.getD (n / 2) x)) else l.set (n + 1) x
  termination_by n => n
  decreasing_by lia
theorem pr_get {l : List PS} {i : Nat} (h : i < l.length) : (l.map MV.pr)[i]? = some (.pr l[i]) := by simp [h]
theorem pr_set (l : List PS) (i : Nat) (x : PS) : (l.map MV.pr).set i (.pr x) = (l.set i x).map MV.pr := by simp [List.map_set]
variable {C : Cx}
set_option maxHeartbeats 1000000 in
theorem fn_siftdown (O : C.Ok) {H : Hp} {a : Addr} {l : List PS} {pos : Nat} (e : H a = some (.list (l.map .pr))) (hp : pos < l.length) (hl : l.length ≤ 1000) :
    Fn C 77 1 [.ref a, .int 0, .int pos] H fun v H' => v = .none ∧ H' = H.put a (.list ((sdF l[pos] pos l).map .pr)) := by
  refine Fn_def O [Str.ofString "heap", Str.ofString "startpos", Str.ofString "pos"] rfl (by rfl) (fun vs hv => ?_) rfl (by decide) (by decide) (by decide) (fun A L R => ?_) rfl rfl rfl
  · obtain ⟨x, y, z, rfl⟩ := vs3 hv; rfl
  have hu : A.units < cLine := by have := R.units; lia
  repeat (walk_at "M")
  refine G_list (x := .pr l[pos]) e (by lia) (pr_get hp) ?_ (by simp; lia)
  repeat (walk_at "M")
  generalize hx : l[pos] = x
  refine S_WhileN [Str.ofString "heap", Str.ofString "startpos", Str.ofString "pos", Str.ofString "newitem"]
    (fun n H' vs => ∃ l' : List PS, vs = [.ref a, .int 0, .int n, .pr x] ∧ H' = H.put a (.list (l'.map .pr)) ∧ sdF x n l' = sdF x pos l ∧ l'.length = l.length ∧ n < l.length) (fun n H' vs zz => ea1_5 zz fun l' hvs hH hs hlen hn => ?_)
    pos [.ref a, .int 0, .int pos, .pr x] ⟨rfl, rfl, rfl, rfl, trivial⟩ ⟨l, rfl, (Hp.put_same _ e).symm, rfl, rfl, hp⟩
  subst hvs hH
  repeat (walk_at "M")
  refine ⟨fun hc => ?_, fun hc => ?_⟩
  · obtain ⟨m, rfl⟩ : ∃ m, n = m + 1 := ⟨n - 1, by have := of_decide_eq_true hc; lia⟩
    have hpp : ((m : Int) + 1 - 1) / 2 = ((m / 2 : Nat) : Int) := by lia
    repeat (walk_at "M")
    refine B_shr1 ?_ ?_
    · lia
    have e1 : (((m + 1 : Nat) : Int) - 1) / 2 = ((m / 2 : Nat) : Int) := by lia
    rw [e1]
    repeat (walk_at "M")
    have hm : m / 2 < l'.length := by lia
    refine G_list (x := .pr l'[m / 2]) (Hp.put_self ..) (by lia) (pr_get hm) ?_ (by simp; lia)
    repeat (walk_at "M")
    refine C_ltP hu ?_
    repeat (walk_at "M")
    have hg : l'.getD (m / 2) x = l'[m / 2] := by simp [List.getD, hm]
    refine ⟨fun hc2 => ?_, fun hc2 => ?_⟩
    · repeat (walk_at "M")
      refine I_list (Hp.put_self ..) (by lia) (by simp; lia) (by simp; lia) ?_
      rw [Hp.put_put, Int.toNat_natCast, pr_set]
      repeat (walk_at "M")
      refine ⟨m / 2, [.ref a, .int 0, .int (m / 2 : Nat), .pr x], by lia, ⟨rfl, rfl, rfl, rfl, trivial⟩, l'.set (m + 1) l'[m / 2], rfl, rfl, ?_, by simp [hlen], by lia⟩
      rw [← hs]
      conv => rhs; unfold sdF
      rw [hg, if_pos hc2]
    · repeat (walk_at "M")
      refine I_list (Hp.put_self ..) (by lia) (by simp; lia) (by simp; lia) ?_
      rw [Hp.put_put, Int.toNat_natCast, pr_set]
      repeat (walk_at "M")
      refine ⟨rfl, ?_⟩
      rw [← hs]
      conv => rhs; unfold sdF
      rw [hg, if_neg (by rw [hc2]; exact Bool.false_ne_true)]
  · have h0 : n = 0 := by have := of_decide_eq_false hc; lia
    subst h0
    repeat (walk_at "M")
    refine I_list (Hp.put_self ..) (by lia) (by simp; lia) (by simp; lia) ?_
    rw [Hp.put_put, Int.toNat_natCast, pr_set]
    repeat (walk_at "M")
    refine ⟨rfl, ?_⟩
    rw [← hs]
    conv => rhs; unfold sdF

noncomputable def suC (x : PS) (n pos : Nat) (l : List PS) : Nat := if 2 * pos + 2 < n ∧ ltP (l.getD (2 * pos + 1) x) (l.getD (2 * pos + 2) x) = false then 2 * pos + 2 else 2 * pos + 1
/-- what _siftup does -/
noncomputable def suF (x : PS) (n pos : Nat) (l : List PS) : List PS :=
  if 2 * pos + 1 < n then suF x n (suC x n pos l) (l.set pos (l.getD (suC x n pos l) x)) else sdF x pos (l.set pos x)
  termination_by n - pos
  decreasing_by unfold suC; split <;> lia
set_option maxHeartbeats 1000000 in
theorem fn_heappush (O : C.Ok) {H : Hp} {a : Addr} {l : List PS} {x : PS} (e : H a = some (.list (l.map .pr))) (hl : l.length ≤ 900) :
    Fn C 63 2 [.ref a, .pr x] H fun v H' => v = .none ∧ H' = H.put a (.list ((sdF x l.length (l ++ [x])).map .pr)) := by
  refine Fn_def O [Str.ofString "heap", Str.ofString "item"] rfl (by rfl) (fun vs hv => ?_) rfl (by decide) (by decide) (by decide) (fun A L R => ?_) rfl rfl rfl
  · obtain ⟨x, y, rfl⟩ := vs2 hv; rfl
  repeat (walk_at "M")
  refine M_append e ?_
  repeat (walk_at "M")
  refine K_append e (by simp; lia) ?_
  repeat (walk_at "M")
  have e2 : (l.map MV.pr ++ [MV.pr x]) = (l ++ [x]).map MV.pr := by simp
  rw [e2]
  refine K_len (Hp.put_self ..) (by simp; lia) ?_
  repeat (walk_at "M")
  have e3 : (((List.map MV.pr (l ++ [x])).length : Nat) : Int) - 1 = (l.length : Nat) := by simp
  rw [e3]
  refine OC_Fn (fn_siftdown O (Hp.put_self ..) (by simp) (by simp; lia)) R fun v H' h => ?_
  refine ea0_2 h fun qq0 qq1 => ?_
  subst qq0 qq1
  (try clear h)
  repeat (walk_at "M")
  refine ⟨rfl, ?_⟩
  rw [Hp.put_put]
  simp
set_option maxHeartbeats 1000000 in
theorem fn_siftup (O : C.Ok) {H : Hp} {a : Addr} {l : List PS} (e : H a = some (.list (l.map .pr))) (hp : 0 < l.length) (hl : l.length ≤ 900) :
    Fn C 84 2 [.ref a, .int 0] H fun v H' => v = .none ∧ H' = H.put a (.list ((suF l[0] l.length 0 l).map .pr)) := by
  refine Fn_def O [Str.ofString "heap", Str.ofString "pos"] rfl (by rfl) (fun vs hv => ?_) rfl (by decide) (by decide) (by decide) (fun A L R => ?_) rfl rfl rfl
  · obtain ⟨x, y, rfl⟩ := vs2 hv; rfl
  have hu : A.units < cLine := by have := R.units; lia
  repeat (walk_at "M")
  refine K_len e (by simp; lia) ?_
  repeat (walk_at "M")
  refine G_list (x := .pr l[0]) e (by lia) (pr_get hp) ?_ (by simp; lia)
  repeat (walk_at "M")
  refine B_mul (by mul_fits) ?_
  repeat (walk_at "M")
  generalize hx : l[0] = x
  refine S_WhileN [Str.ofString "heap", Str.ofString "pos", Str.ofString "endpos", Str.ofString "startpos", Str.ofString "newitem", Str.ofString "childpos"]
    (fun n H' vs => ∃ (l' : List PS) (pos : Nat), n = l.length - pos ∧ vs = [.ref a, .int pos, .int l.length, .int 0, .pr x, .int (2 * pos + 1 : Nat)] ∧ H' = H.put a (.list (l'.map .pr)) ∧ suF x l.length pos l' = suF x l.length 0 l ∧ l'.length = l.length ∧ pos < l.length) (fun n H' vs zz => ea2_6 zz fun l' pos hn hvs hH hs hlen hpos => ?_)
    l.length [.ref a, .int 0, .int l.length, .int 0, .pr x, .int 1] ⟨rfl, rfl, by simp; rfl, rfl, rfl, rfl, trivial⟩ ⟨l, 0, rfl, rfl, (Hp.put_same _ e).symm, rfl, rfl, hp⟩
  subst hvs hH
  repeat (walk_at "M")
  refine ⟨fun hc => ?_, fun hc => ?_⟩
  · have hch : 2 * pos + 1 < l.length := by have := of_decide_eq_true hc; lia
    have hcl : 2 * pos + 1 < l'.length := by lia
    refine X_cons ?_
    repeat (walk_at "m")
    have e4 : ((2 * pos + 1 : Nat) : Int) + 1 = (2 * pos + 2 : Nat) := by lia
    rw [e4]
    refine X_cons (W.mono (Q := fun f H' lv' => f = .next ∧ H' = H.put a (.list (l'.map .pr)) ∧ AllAt lv' [Str.ofString "heap", Str.ofString "pos", Str.ofString "endpos", Str.ofString "startpos", Str.ofString "newitem", Str.ofString "childpos"] [.ref a, .int pos, .int l.length, .int 0, .pr x, .int (suC x l.length pos l' : Nat)]) ?_ ?_)
    · have g1 : l'.getD (2 * pos + 1) x = l'[2 * pos + 1] := by simp [List.getD, hcl]
      repeat (walk_at "M")
      refine ⟨fun hr => ?_, fun hr => ?_⟩
      · have hrr : 2 * pos + 2 < l.length := by have := of_decide_eq_true hr; lia
        have hrl : 2 * pos + 2 < l'.length := by lia
        have g2 : l'.getD (2 * pos + 2) x = l'[2 * pos + 2] := by simp [List.getD, hrl]
        repeat (walk_at "M")
        refine G_list (x := .pr l'[2 * pos + 1]) (Hp.put_self ..) (by lia) (pr_get hcl) ?_ (by simp; lia)
        repeat (walk_at "M")
        refine G_list (x := .pr l'[2 * pos + 2]) (Hp.put_self ..) (by lia) (pr_get hrl) ?_ (by simp; lia)
        refine C_ltP hu ?_
        repeat (walk_at "M")
        refine ⟨fun hb => ?_, fun hb => ?_⟩
        · repeat (walk_at "M")
          have : suC x l.length pos l' = 2 * pos + 2 := by
            unfold suC; rw [g1, g2, if_pos ⟨hrr, by simpa using hb⟩]
          rw [this]
          exact ⟨rfl, rfl, rfl, rfl, rfl, rfl, rfl, rfl, trivial⟩
        · refine ⟨fun h => (nomatch h), fun _ => ?_⟩
          repeat (walk_at "M")
          have : suC x l.length pos l' = 2 * pos + 1 := by
            unfold suC; rw [g1, g2, if_neg (fun h => by have := h.2; simp [this] at hb)]
          rw [this]
          exact ⟨rfl, rfl, rfl, rfl, rfl, rfl, rfl, rfl, trivial⟩
      · refine ⟨fun h => (nomatch h), fun _ => ?_⟩
        repeat (walk_at "M")
        have : suC x l.length pos l' = 2 * pos + 1 := by
          unfold suC; rw [if_neg (fun h => by have := of_decide_eq_false hr; lia)]
        rw [this]
        exact ⟨rfl, rfl, rfl, rfl, rfl, rfl, rfl, rfl, trivial⟩
    · intro f H' lv' zz
      refine ea0_3 zz fun qq0 qq1 hat => ?_
      subst qq0 qq1
      (try clear zz)
      have hcc : suC x l.length pos l' < l.length ∧ pos < suC x l.length pos l' := by unfold suC; split <;> lia
      have hccl : suC x l.length pos l' < l'.length := by lia
      have gc : l'.getD (suC x l.length pos l') x = l'[suC x l.length pos l'] := by simp [List.getD, hccl]
      refine ⟨fun _ => W.lessL ?_ (lvOf_sub _ _ hat), fun h => absurd rfl h⟩
      repeat (walk_at "M")
      refine G_list (x := .pr l'[suC x l.length pos l']) (Hp.put_self ..) (by lia) (pr_get hccl) ?_ (by simp; lia)
      repeat (walk_at "M")
      refine I_list (Hp.put_self ..) (by lia) (by simp; lia) (by simp; lia) ?_
      rw [Hp.put_put, Int.toNat_natCast, pr_set]
      repeat (walk_at "M")
      refine B_mul (by mul_fits) ?_
      repeat (walk_at "M")
      have e5 : 2 * ((suC x l.length pos l' : Nat) : Int) + 1 = (2 * suC x l.length pos l' + 1 : Nat) := by lia
      rw [e5]
      refine ⟨l.length - suC x l.length pos l', [.ref a, .int (suC x l.length pos l' : Nat), .int l.length, .int 0, .pr x, .int (2 * suC x l.length pos l' + 1 : Nat)], by lia, ⟨rfl, rfl, rfl, rfl, rfl, rfl, trivial⟩, l'.set pos l'[suC x l.length pos l'], suC x l.length pos l', rfl, rfl, rfl, ?_, by simp [hlen], by lia⟩
      rw [← hs]
      conv => rhs; unfold suF
      rw [if_pos hch, gc]
  · have hch : ¬ 2 * pos + 1 < l.length := by have := of_decide_eq_false hc; lia
    have hpl : pos < l'.length := by lia
    repeat (walk_at "M")
    refine I_list (Hp.put_self ..) (by lia) (by simp; lia) (by simp; lia) ?_
    rw [Hp.put_put, Int.toNat_natCast, pr_set]
    repeat (walk_at "M")
    refine OC_Fn (fn_siftdown O (Hp.put_self ..) (by simpa using hpl) (by simp; lia)) R fun v H' h => ?_
    refine ea0_2 h fun qq0 qq1 => ?_
    subst qq0 qq1
    (try clear h)
    repeat (walk_at "M")
    refine ⟨rfl, ?_⟩
    rw [Hp.put_put, ← hs]
    conv => rhs; unfold suF
    rw [if_neg hch]
    simp
set_option maxHeartbeats 1000000 in
theorem fn_heappop (O : C.Ok) {H : Hp} {a : Addr} {l : List PS} {x : PS} (e : H a = some (.list ((l ++ [x]).map .pr))) (hl : l.length ≤ 800) :
    Fn C 70 3 [.ref a] H fun v H' => (l = [] ∧ v = .pr x ∧ H' = H.put a (.list [])) ∨ (∃ h : 0 < l.length, v = .pr l[0] ∧ H' = H.put a (.list ((suF x l.length 0 (l.set 0 x)).map .pr))) := by
  refine Fn_def O [Str.ofString "heap"] rfl (by rfl) (fun vs hv => ?_) rfl (by decide) (by decide) (by decide) (fun A L R => ?_) rfl rfl rfl
  · obtain ⟨x, rfl⟩ := vs1 hv; rfl
  repeat (walk_at "M")
  refine M_pop e ?_
  repeat (walk_at "M")
  refine K_pop (l := l.map .pr) (x := .pr x) (by rw [e]; simp) (by simp; lia) ?_
  repeat (walk_at "M")
  refine O_truthL (l := l.map .pr) (Hp.put_self ..) ?_ (by simp; lia)
  refine ⟨fun hc => ?_, fun hc => ?_⟩
  · have hp : 0 < l.length := by cases l with
      | nil => cases hc
      | cons _ _ => simp
    repeat (walk_at "M")
    refine G_list (x := .pr l[0]) (Hp.put_self ..) (by lia) (pr_get hp) ?_ (by simp; lia)
    repeat (walk_at "M")
    refine I_list (l := l.map .pr) (Hp.put_self ..) (by lia) (by simp; lia) (by simp; lia) ?_
    rw [Hp.put_put]
    have e6 : (List.map MV.pr l).set (Int.toNat 0) (MV.pr x) = (l.set 0 x).map MV.pr := pr_set l 0 x
    rw [e6]
    repeat (walk_at "M")
    refine OC_Fn (fn_siftup O (Hp.put_self ..) (by simpa using hp) (by simp; lia)) R fun v H' h => ?_
    refine ea0_2 h fun qq0 qq1 => ?_
    subst qq0 qq1
    (try clear h)
    repeat (walk_at "M")
    refine .inr ⟨hp, rfl, ?_⟩
    rw [Hp.put_put]
    simp
  · have hl0 : l = [] := by cases l with
      | nil => rfl
      | cons _ _ => cases hc
    subst hl0
    repeat (walk_at "M")
    exact .inl ⟨rfl, rfl, rfl⟩
end
section
variable {C : Cx}
set_option maxHeartbeats 1000000 in
theorem fn_imode (O : C.Ok) {H : Hp} {m : Int} : Fn C 91 1 [.int m] H fun v H' => v = .int (Builtin.bitAnd m 4095) ∧ H' = H := by
  refine Fn_def O [Str.ofString "mode"] rfl (by rfl) (fun vs hv => ?_) rfl (by decide) (by decide) (by decide) (fun A L R => ?_) rfl rfl rfl
  · obtain ⟨x, rfl⟩ := vs1 hv; rfl
  repeat (walk_at "M")
  exact ⟨rfl, rfl⟩
set_option maxHeartbeats 1000000 in
theorem fn_ifmt (O : C.Ok) {H : Hp} {m : Int} : Fn C 98 1 [.int m] H fun v H' => v = .int (Builtin.bitAnd m 61440) ∧ H' = H := by
  refine Fn_def O [Str.ofString "mode"] rfl (by rfl) (fun vs hv => ?_) rfl (by decide) (by decide) (by decide) (fun A L R => ?_) rfl rfl rfl
  · obtain ⟨x, rfl⟩ := vs1 hv; rfl
  repeat (walk_at "M")
  exact ⟨rfl, rfl⟩
/-- where a deed leads, as the law's own helper reckons it -/
noncomputable def ledM (m mask : Int) : Int := Builtin.bitAnd m 61440 + Builtin.bitXor (Builtin.bitAnd m 4095) mask
set_option maxHeartbeats 1000000 in
theorem fn_led (O : C.Ok) {H : Hp} {row : Str} {mask m : Int} {na ma : Addr} {nl : List (Int × MV)} {ml : List (Str × MV)} (hn : H na = some (.idd nl)) (hm : H ma = some (.sd ml)) (hg : dget ml row = some (.int m)) :
    Fn C 181 2 [.str row, .int mask, .ref na, .ref ma] H fun v H' => v = (dget nl (ledM m mask)).getD .none ∧ H' = H := by
  refine Fn_def O [Str.ofString "row", Str.ofString "mask", Str.ofString "names", Str.ofString "modes"] rfl (by rfl) (fun vs hv => ?_) rfl (by decide) (by decide) (by decide) (fun A L R => ?_) rfl rfl rfl
  · obtain ⟨x, y, z, w, rfl⟩ := vs4 hv; rfl
  repeat (walk_at "M")
  refine G_dict (sK C) hm hg ?_
  repeat (walk_at "M")
  refine M_get (iK C) hn ?_
  repeat (walk_at "M")
  refine OC_Fn (fn_ifmt O) R fun v H' h => ?_
  refine ea0_2 h fun qq0 qq1 => ?_
  subst qq0 qq1
  (try clear h)
  repeat (walk_at "M")
  refine OC_Fn (fn_imode O) R fun v H' h => ?_
  refine ea0_2 h fun qq0 qq1 => ?_
  subst qq0 qq1
  (try clear h)
  repeat (walk_at "M")
  refine K_get1 (iK C) hn ?_
  repeat (walk_at "M")
  exact ⟨rfl, rfl⟩
end
section
variable {C : Cx}
noncomputable def rowCh (m a b : Int) : List Nat := [if decide (3 < m / a % 8) then 114 else 45, if (m / a % 8 / 2 % 2 == 1) then 119 else 45]
/-- the row of a mode, sign by sign, as the law reckons it -/
noncomputable def rowL (m : Int) : List Nat :=
  [[63, 112, 99, 63, 100, 63, 98, 63, 45, 63, 108, 63, 115, 63, 63, 63].getD (m / 4096).toNat 0] ++
  (rowCh m 64 2048 ++ [[45, 120, 83, 115].getD (m / 64 % 8 % 2 + 2 * (m / 2048 % 2)).toNat 0]) ++
  (rowCh m 8 1024 ++ [[45, 120, 83, 115].getD (m / 8 % 8 % 2 + 2 * (m / 1024 % 2)).toNat 0]) ++
  (rowCh m 1 512 ++ [[45, 120, 84, 116].getD (m / 1 % 8 % 2 + 2 * (m / 512 % 2)).toNat 0])
theorem G_strO {A : Around} {H : Hp} {lv : Lv} {L : Addr} {x : Str} (l : List Nat) {k : Int} {v i : Expr} {Q : MV → Hp → Lv → Prop} (e : x = mkS l) (h0 : 0 ≤ k) (h1 : k < l.length) (h : Q (.str (mkS [l.getD k.toNat 0])) H lv) (hsz : l.length ≤ 100000) (hi : plainSlice i = true := by rfl) : O2 C A L VRep (subscriptTail v i) (.str x) (.int k) H lv Q := by
  subst e; exact G_strT h0 h1 h hsz hi
set_option maxHeartbeats 1000000 in
theorem fn_row (O : C.Ok) {H : Hp} {m : Int} (h0 : 0 ≤ m) (h1 : m < 65536) : Fn C 150 1 [.int m] H fun v H' => v = .str (mkS (rowL m)) ∧ H' = H := by
  refine Fn_def O [Str.ofString "mode"] rfl (by rfl) (fun vs hv => ?_) rfl (by decide) (by decide) (by decide) (fun A L R => ?_) rfl rfl rfl
  · obtain ⟨x, rfl⟩ := vs1 hv; rfl
  have hh := R.handled
  refine X_cons ?_
  refine S_Assign ?_
  refine W_Sub ?_
  refine W_strT [63, 112, 99, 63, 100, 63, 98, 63, 45, 63, 108, 63, 115, 63, 63, 63] (by decide) ?_
  repeat (walk_at "M")
  refine G_strT (by lia) ?_ ?_ (by decide)
  · show m / 4096 < 16; lia
  repeat (walk_at "M")
  refine K_range1 ?_
  refine F_rng hh (by decide) (by decide) (by decide) (by decide) ?_
  rw [show rngL 0 3 = [.int 0, .int 1, .int 2] from rfl]
  iterate 3 (
    repeat (walk_at "M")
    refine B_mul (mul2 _) ?_
    repeat (walk_at "M")
    refine W_IfCh 114 45 (by decide) (by decide) ?_
    repeat (walk_at "M")
    refine B_addT ?_ (by simp)
    repeat (walk_at "M")
    refine W_IfCh 119 45 (by decide) (by decide) ?_
    repeat (walk_at "M")
    refine B_addT ?_ (by simp)
    repeat (walk_at "M")
    first | refine G_strO [45, 120, 83, 115] (by decide) (by lia) (by show _ < (4 : Int); lia) ?_ (by decide) | refine G_strO [45, 120, 84, 116] (by decide) (by lia) (by show _ < (4 : Int); lia) ?_ (by decide)
    refine B_addT ?_ (by simp))
  repeat (walk_at "M")
  exact ⟨rfl, rfl⟩
end
section
variable {C : Cx}
noncomputable def fmT : List (List (Int × Nat)) := [[(40960,108),(49152,115),(32768,45),(24576,98),(16384,100),(8192,99),(4096,112)],[(256,114)],[(128,119)],[(2112,115),(2048,83),(64,120)],[(32,114)],[(16,119)],[(1032,115),(1024,83),(8,120)],[(4,114)],[(2,119)],[(513,116),(512,84),(1,120)]]
noncomputable abbrev fmP (p : Int × Nat) : MV := .tup [.int p.1, .str (mkS [p.2])]
noncomputable abbrev fmE (t : List (Int × Nat)) : MV := .tup (t.map fmP)
set_option maxHeartbeats 1000000 in
theorem fm_rep (F : Fz) (hF : ∀ a o, C.K.lookup a = some o → F a = some o) : VRep F (.tup (fmT.map fmE)) (.ref 131) := by
  unfold fmT
  simp only [List.map_cons, List.map_nil, fmE, fmP]
  repeat (first | exact VRepL.nil | refine VRepL.cons ?_ ?_ | exact VRep.int _ _ | exact VRep.str _ _ | refine VRep.tup (hF _ _ rfl) ?_)
/-- does an entry of the table fit -/
noncomputable def fmHit (m : Int) (i : Nat) (p : Int × Nat) : Bool := if i = 0 then Builtin.bitAnd m 61440 == p.1 else Builtin.bitAnd m p.1 == p.1
noncomputable def fmCh (m : Int) (i : Nat) (t : List (Int × Nat)) : Nat := ((t.find? (fmHit m i)).map (·.2)).getD (if i = 0 then 63 else 45)
noncomputable def fmL (m : Int) : List Nat := (List.range 10).map fun i => fmCh m i (fmT.getD i [])
theorem find_at {α : Type} (p : α → Bool) (t : List α) (j : Nat) (hj : j < t.length) (hn : ∀ k (hk : k < t.length), k < j → p t[k] = false) (hp : p t[j] = true) : t.find? p = some t[j] := by
  rw [List.find?_eq_some_iff_getElem]
  exact ⟨hp, j, hj, rfl, fun k hk => by simp [hn k (by lia) hk]⟩
set_option maxHeartbeats 1000000 in
theorem fn_filemode (O : C.Ok) {H : Hp} {m : Int} : Fn C 138 2 [.int m] H fun v H' => v = .str (mkS (fmL m)) ∧ H' = H := by
  refine Fn.sub (Fn_def O [Str.ofString "mode"] rfl (by rfl) (fun vs hv => ?_) rfl (by decide) (by decide) (by decide) (fun A L R => ?_) rfl rfl rfl)
  · obtain ⟨x, rfl⟩ := vs1 hv; rfl
  have hh := R.handled
  repeat (walk_at "M")
  intro p hp
  repeat (walk_at "M")
  refine ⟨rfl, ?_⟩
  refine L_cons ?_
  refine W_top O rfl (fun F hF => fm_rep F hF) ?_
  repeat (walk_at "M")
  refine ⟨_, rfl, ?_⟩
  refine ForE_N [Str.ofString "mode", Str.ofString "perm"] fmE (fun i H' vs => vs = [.int m, .ref p] ∧ H' = H.put p (.list (((List.range i).map fun i => [fmCh m i (fmT.getD i [])]).map fun x => .str (mkS x)))) fmT ?_ ?_ 10 0 rfl _ _ [.int m, .ref p] ⟨rfl, rfl, trivial⟩ ⟨rfl, rfl⟩
  · intro i H' vs hi zz
    refine ea0_2 zz fun qq0 qq1 => ?_
    subst qq0 qq1
    (try clear zz)
    have hi10 : i < 10 := hi
    generalize ht : fmT[i] = t
    have htd : fmT.getD i [] = t := by simp only [List.getD, List.getElem?_eq_getElem hi, Option.getD_some]; exact ht
    repeat (walk_at "M")
    generalize hl : (List.range i).map (fun i => [fmCh m i (fmT.getD i [])]) = l
    have hll : l.length = i := by rw [← hl]; simp
    have done : ∀ (lv : Lv), AllAt lv [Str.ofString "mode", Str.ofString "perm"] [.int m, .ref p] → ∃ vs', AllAt lv [Str.ofString "mode", Str.ofString "perm"] vs' ∧ vs' = [.int m, .ref p] ∧ H.put p (.list ((l ++ [[fmCh m i t]]).map fun x => .str (mkS x))) = H.put p (.list (((List.range (i + 1)).map fun i => [fmCh m i (fmT.getD i [])]).map fun x => .str (mkS x))) := by
      intro lv ha
      refine ⟨_, ha, rfl, ?_⟩
      rw [List.range_succ]
      simp only [List.map_append, List.map_cons, List.map_nil, htd, hl]
    have happ : ∀ (l : List (List Nat)) (c : Nat), (l.map fun x => MV.str (mkS x)) ++ [MV.str (mkS [c])] = (l ++ [[c]]).map fun x => .str (mkS x) := by intro l c; simp
    refine ForW_N [Str.ofString "mode", Str.ofString "perm", Str.ofString "index"] fmP (fun j H' vs => vs = [.int m, .ref p, .int i] ∧ H' = H.put p (.list (l.map fun x => .str (mkS x))) ∧ ∀ k (hk : k < t.length), k < j → fmHit m i t[k] = false) t ?_ [.int m, .ref p, .int i] ⟨rfl, rfl, rfl, trivial⟩ ⟨rfl, rfl, fun k hk h => absurd h (Nat.not_lt_zero _)⟩ ?_
    · intro j H' vs hj zz
      refine ea0_3 zz fun qq0 qq1 hno => ?_
      subst qq0 qq1
      (try clear zz)
      have hit : fmHit m i t[j] = true → fmCh m i t = (t[j]).2 := fun h => by
        unfold fmCh; rw [find_at _ t j hj hno h]; rfl
      have step : fmHit m i t[j] = false → ∀ k (hk : k < t.length), k < j + 1 → fmHit m i t[k] = false := fun h k hk hk1 => by
        rcases Nat.lt_or_ge k j with h1 | h1
        · exact hno k hk h1
        · have : k = j := by lia
          subst this; exact h
      generalize t[j] = q at *
      refine A_Tuple hh ?_ rfl
      repeat (walk_at "M")
      refine ⟨fun h0 => ?_, fun h0 => ?_⟩
      · have i0 : i = 0 := by simpa using h0
        subst i0
        repeat (walk_at "M")
        refine OC_Fn (fn_ifmt O) R fun v H' h => ?_
        refine ea0_2 h fun qq0 qq1 => ?_
        subst qq0 qq1
        (try clear h)
        repeat (walk_at "M")
        refine ⟨fun hc => ?_, fun hc => ?_⟩
        · repeat (walk_at "M")
          refine M_append (Hp.put_self ..) ?_
          repeat (walk_at "M")
          refine K_append (Hp.put_self ..) (by simp; lia) ?_
          repeat (walk_at "M")
          rw [Hp.put_put, happ, ← hit (by unfold fmHit; simpa using hc)]
          exact done _ ⟨rfl, rfl, trivial⟩
        · repeat (walk_at "M")
          exact ⟨[.int m, .ref p, .int _], ⟨rfl, rfl, rfl, trivial⟩, rfl, rfl, step (by unfold fmHit; simpa using hc)⟩
      · have i0 : i ≠ 0 := by simpa using h0
        repeat (walk_at "M")
        refine ⟨fun hc => ?_, fun hc => ?_⟩
        · repeat (walk_at "M")
          refine M_append (Hp.put_self ..) ?_
          repeat (walk_at "M")
          refine K_append (Hp.put_self ..) (by simp; lia) ?_
          repeat (walk_at "M")
          rw [Hp.put_put, happ, ← hit (by unfold fmHit; rw [if_neg i0]; simpa using hc)]
          exact done _ ⟨rfl, rfl, trivial⟩
        · repeat (walk_at "M")
          exact ⟨[.int m, .ref p, .int _], ⟨rfl, rfl, rfl, trivial⟩, rfl, rfl, step (by unfold fmHit; rw [if_neg i0]; simpa using hc)⟩
    · intro H' vs lv ha zz
      refine ea0_3 zz fun qq0 qq1 hno => ?_
      subst qq0 qq1
      (try clear zz)
      have hnone : fmCh m i t = if i = 0 then 63 else 45 := by
        unfold fmCh
        rw [show t.find? (fmHit m i) = none from by
          rw [List.find?_eq_none]
          intro x hx
          obtain ⟨k, hk, rfl⟩ := List.getElem_of_mem hx
          simp [hno k hk hk]]
        rfl
      refine W.lessL ?_ (lvOf_sub _ _ ha)
      repeat (walk_at "M")
      refine ⟨fun h0 => ?_, fun h0 => ?_⟩
      · have i0 : i = 0 := by simpa using h0
        subst i0
        rw [if_pos rfl] at hnone
        repeat (walk_at "M")
        refine M_append (Hp.put_self ..) ?_
        refine ⟨callee_bi _, L_cons (W_strT [63] (by decide) (L_nil ?_))⟩
        refine K_append (Hp.put_self ..) (by simp; lia) ?_
        repeat (walk_at "M")
        rw [Hp.put_put, happ, ← hnone]
        exact done _ ⟨rfl, rfl, trivial⟩
      · have i0 : i ≠ 0 := by simpa using h0
        rw [if_neg i0] at hnone
        repeat (walk_at "M")
        refine M_append (Hp.put_self ..) ?_
        refine ⟨callee_bi _, L_cons (W_strT [45] (by decide) (L_nil ?_))⟩
        refine K_append (Hp.put_self ..) (by simp; lia) ?_
        repeat (walk_at "M")
        rw [Hp.put_put, happ, ← hnone]
        exact done _ ⟨rfl, rfl, trivial⟩
  · intro H' vs lv ha zz
    refine ea0_2 zz fun qq0 qq1 => ?_
    subst qq0 qq1
    (try clear zz)
    refine W.lessL ?_ (lvOf_sub _ _ ha)
    repeat (walk_at "M")
    refine M_join ?_
    repeat (walk_at "M")
    refine K_join (Hp.put_self ..) (by rw [List.map_map]; show (List.map (fun _ => 1) (List.range 10)).sum ≤ _; decide) ?_
    repeat (walk_at "M")
    refine ⟨H, Sub.put hp, ?_, rfl⟩
    unfold fmL
    congr 2
end
section
variable {C : Cx}
/-! the script: a list of the base's -/
theorem ints_rep {F : Fz} {vs : List Value} {ns : List Int} (h : IntsAre vs ns) : VRepL F (ns.map .int) vs := by
  induction h with
  | nil => exact .nil
  | cons n t h ih => exact .cons (.int _ _) ih
theorem isList_keeps {h h' : Heap} {a : Addr} {xs : Array Value} (k : ∀ b o, h.get? b = some o → h'.get? b = some o) (l : h.IsList a xs) : h'.IsList a xs := by
  refine ea1_2 l fun o h1 h2 => ?_
  (try clear l)
  exact ⟨o, k _ _ h1, h2⟩
theorem K_lenB {A : Around} {L : Addr} {H : Hp} {lv : Lv} {a : Addr} {vs : List Value} {ns : List Int} {Q : MV → Hp → Lv → Prop} (hb : C.h₀.IsList a vs.toArray) (hI : IntsAre vs ns) (hn : ns.length ≤ 100000) (h : Q (.int ns.length) H lv) : OC C A L (.bi "len") [.ref a] H lv Q := by
  intro F s g ws hg hv st
  cases hg
  cases hv with
  | cons h1 hl =>
    cases hl; cases h1
    have hlen : vs.length = ns.length := by have := (ints_rep (F := F) hI).length; simpa using this
    refine call_len_list (isList_keeps st.keepsB hb) (by simp only [List.size_toArray]; lia) ?_
    have : ((vs.toArray.size : Nat) : Int) = ns.length := by simp [hlen]
    rw [this]
    exact Pst.here (st.tok _) (.int _ _) h
theorem G_listB {A : Around} {L : Addr} {H : Hp} {lv : Lv} {a : Addr} {vs : List Value} {ns : List Int} {k : Int} {x : MV} {v i : Expr} {Q : MV → Hp → Lv → Prop} (hb : C.h₀.IsList a vs.toArray) (hI : IntsAre vs ns) (hn : ns.length ≤ 100000) (h0 : 0 ≤ k) (hx : (ns.map MV.int)[k.toNat]? = some x) (h : Q x H lv) (hi : plainSlice i = true := by rfl) : O2 C A L VRep (subscriptTail v i) (.ref a) (.int k) H lv Q := by
  intro F s u w hu hw st; cases hu; cases hw
  have r := ints_rep (F := F) hI
  have hlen : vs.length = ns.length := by have := r.length; simpa using this
  refine ea1_2 (r.get hx) fun y hy ry => ?_
  have hk := (List.getElem?_eq_some_iff.mp hx).1
  rw [List.length_map] at hk
  have hl := isList_keeps st.keepsB hb
  exact tail_any hl.typeIs slot_list_getitem.lookup (wpAny_getItem_list hl h0 (by lia) (by simpa using hy) (Pst.here st ry h)) (subscripted_plain hi _ _)
set_option maxHeartbeats 1000000 in
theorem fn_drawn (O : C.Ok) {H : Hp} {a : Addr} {vs : List Value} {ns : List Int} (hb : C.h₀.IsList a vs.toArray) (hI : IntsAre vs ns) (hn : ns.length ≤ 63) :
    Fn C 143 1 [.ref a] H fun v H' => ∃ start manner deeds d, v = .tup [.int start, .int manner, .ref d] ∧ H d = none ∧ H' = H.put d (.list (List.map dP deeds)) ∧ 0 ≤ start ∧ start < 65536 ∧ 0 ≤ manner ∧ manner < 3 ∧ deeds.length = 4 ∧ ∀ p ∈ deeds, 0 ≤ p.1 ∧ p.1 < 4096 ∧ 1 ≤ p.2 := by
  refine Fn.sub (Fn_def O [Str.ofString "script"] rfl (by rfl) (fun vs hv => ?_) rfl (by decide) (by decide) (by decide) (fun A L R => ?_) rfl rfl rfl)
  · obtain ⟨x, rfl⟩ := vs1 hv; rfl
  have hh := R.handled
  repeat (walk_at "M")
  intro p hp
  repeat (walk_at "M")
  refine K_lenB hb hI (by lia) ?_
  repeat (walk_at "M")
  refine K_range1 ?_
  refine F_rngN [Str.ofString "script", Str.ofString "vals"] ns.length hh (by lia) (by lia) (by lia) (fun i H' vs => vs = [.ref a, .ref p] ∧ ∃ l : List Int, H' = H.put p (.list (l.map .int)) ∧ l.length = 5) ?_ [.ref a, .ref p] ⟨rfl, rfl, trivial⟩ ⟨rfl, [98724, 8265, 14400, 4114, 34825], rfl, rfl⟩ ?_
  · rintro i H' vs hi ⟨rfl, l, rfl, hl⟩
    rw [Int.zero_add]
    have h5 : (i : Int) % 5 = ((i % 5 : Nat) : Int) := by lia
    have hi5 : i % 5 < l.length := by lia
    have hg : (l.map MV.int)[i % 5]? = some (.int (l[i % 5])) := by simp [hi5]
    have hgs : (ns.map MV.int)[i]? = some (.int (ns[i])) := by simp [hi]
    repeat (walk_at "M")
    rw [h5]
    refine G_list (Hp.put_self ..) (by lia) hg ?_ (by simp; lia)
    repeat (walk_at "M")
    refine G_listB hb hI (by lia) (by lia) hgs ?_
    repeat (walk_at "M")
    rw [h5]
    refine I_list (Hp.put_self ..) (by lia) (by simp; lia) (by simp; lia) ?_
    rw [Hp.put_put]
    repeat (walk_at "M")
    exact ⟨[.ref a, .ref p], ⟨rfl, rfl, trivial⟩, rfl, l.set (i % 5) (l[i % 5] + ns[i]), by rw [List.map_set]; rfl, by simpa using hl⟩
  · rintro H' vs ⟨rfl, l, rfl, hl⟩
    repeat (walk_at "M")
    refine S_AssignLC rfl (by decide) rfl (by decide) (by rfl) rfl rfl ?_
    refine W_SliceFrom (a := p) (l := l.map MV.int) (k := 1) ?_
    repeat (walk_at "M")
    refine ⟨rfl, rfl, Hp.put_self .., by simp; lia, by simp; lia, fun b hb => ?_⟩
    refine ⟨_, _, _, _, OI_list hh (Hp.put_self ..), fun D L' hD _ => ?_⟩
    refine ea0_2 (Hp.put_none hD) fun hDb hD => ?_
    refine ea0_2 (Hp.put_none hD) fun hDp hD => ?_
    refine ea0_2 (Hp.put_none hb) fun hbp hb => ?_
    rw [show List.drop 1 (l.map MV.int) = (l.drop 1).map MV.int by simp]
    refine CompW_map MV.int (fun v => dP (v % 4096, 1 + v / 4096 % 20)) (l.drop 1) [] _ (fun x l' lv' hx => ?_) (by simp; lia) ?_
    · repeat (walk_at "M")
      exact ⟨rfl, rfl⟩
    · repeat (walk_at "M")
      have h0l : 0 < l.length := by lia
      have hg : (l.map MV.int)[(0 : Int).toNat]? = some (.int l[0]) := by simp [h0l]
      have hpp : ((((((H.put p (MObj.list (List.map MV.int l))).put b (MObj.list (List.map MV.int (List.drop 1 l)))).del b).put D (MObj.list ([] ++ List.map (fun v => dP (v % 4096, 1 + v / 4096 % 20)) (List.drop 1 l))))).put b (MObj.list (List.map MV.int (List.drop 1 l)))) p = some (.list (l.map MV.int)) := by
        refine Hp.get_ne (Ne.symm hbp) (Hp.get_ne (Ne.symm hDp) ?_)
        rw [Hp.del_ne (Ne.symm hbp)]
        exact Hp.get_ne (Ne.symm hbp) (Hp.put_self ..)
      refine G_list hpp (by decide) hg ?_ (by simp; lia)
      repeat (walk_at "M")
      refine G_list hpp (by decide) hg ?_ (by simp; lia)
      repeat (walk_at "M")
      refine ⟨H.put D (.list (((l.drop 1).map fun v => (v % 4096, 1 + v / 4096 % 20)).map dP)), ?_, l[0] % 65536, l[0] / 65536 % 3, (l.drop 1).map (fun v => (v % 4096, 1 + v / 4096 % 20)), D, rfl, hD, rfl, by lia, by lia, by lia, by lia, by simp; lia, ?_⟩
      · have hbD : b ≠ D := Ne.symm hDb
        intro x y ex
        by_cases q : x = D
        · subst q
          rw [Hp.put_self] at ex
          refine Hp.get_ne hDb ?_
          rw [Hp.put_self, ← ex, List.map_map, List.nil_append]
          rfl
        · rw [Hp.put_ne _ _ q] at ex
          have q2 := ne_of_own ex hp
          have q3 := ne_of_own ex hb
          refine Hp.get_ne q3 (Hp.get_ne q ?_)
          rw [Hp.del_ne q3]
          exact Hp.get_ne q3 (Hp.get_ne q2 ex)
      · intro q hq
        refine ea1_2 (List.mem_map.mp hq) fun v hv qq2 => ?_
        subst qq2
        refine ⟨?_, ?_, ?_⟩ <;> dsimp only <;> lia

/-- the choices of deeds, as the law lists them -/
noncomputable def chStep (cs : List (Int × Int × Int)) (d : Int × Int) : List (Int × Int × Int) := cs ++ cs.map fun c => (c.1 + 1, Builtin.bitXor c.2.1 d.1, c.2.2 + d.2)
noncomputable def chL (ds : List (Int × Int)) : List (Int × Int × Int) := ds.foldl chStep [(0, 0, 0)]
set_option maxHeartbeats 1000000 in
theorem fn_choices (O : C.Ok) {H : Hp} {d : Addr} {ds : List (Int × Int)} (e : H d = some (.list (ds.map dP))) (hn : ds.length ≤ 4) :
    FnC C 155 1 [.ref d] H fun v H' => ∃ c, v = .ref c ∧ H c = none ∧ H' = H.put c (.list ((chL ds).map cP)) := by
  refine FnC.sub (FnC_cells O [Str.ofString "deeds"] (fun L => [(Str.ofString "price", L + 2), (Str.ofString "mask", L + 1)]) rfl (by rfl) (fun vs hv => ?_) rfl (by decide) (by decide) (fun L => rfl) (fun L p hp => ?_) (fun A L R hc => ?_) rfl rfl rfl)
  · obtain ⟨x, rfl⟩ := vs1 hv; rfl
  · simp only [List.mem_cons, List.not_mem_nil, or_false] at hp
    rcases hp with rfl | rfl <;> rfl
  have hh := R.handled
  have hc2 : H (L + 2) = none := hc (Str.ofString "price", L + 2) (by simp)
  have hc1 : H (L + 1) = none := hc (Str.ofString "mask", L + 1) (by simp)
  have n12 : L + 1 ≠ L + 2 := Nat.ne_of_lt (Nat.lt_succ_self _)
  have nd1 : d ≠ L + 1 := ne_of_own e hc1
  have nd2 : d ≠ L + 2 := ne_of_own e hc2
  show WX C A _ _ ((H.put (L + 1) (.cell none)).put (L + 2) (.cell none)) _ _
  repeat (walk_at "M")
  intro c₀ hc₀
  refine ea0_2 (Hp.put_none hc₀) fun m02 hc₀ => ?_
  refine ea0_2 (Hp.put_none hc₀) fun m01 hc₀ => ?_
  have nd0 : d ≠ c₀ := ne_of_own e hc₀
  repeat (walk_at "M")
  refine F_list hh (l := ds.map dP) (by walk_at "hp") ?_
  refine ForW_N [Str.ofString "deeds", Str.ofString "choices"] dP (fun i H' vs => ∃ c, vs = [.ref d, .ref c] ∧ H' c = some (.list ((chL (ds.take i)).map cP)) ∧ H c = none ∧ c ≠ L + 1 ∧ c ≠ L + 2 ∧ (∃ v1, H' (L + 1) = some (.cell v1)) ∧ (∃ v2, H' (L + 2) = some (.cell v2)) ∧ (∀ a x, H a = some x → a ≠ d → H' a = some x)) ds ?_
    [.ref d, .ref c₀] ⟨rfl, rfl, trivial⟩ ⟨c₀, rfl, ?_, hc₀, m01, m02, ⟨none, ?_⟩, ⟨none, ?_⟩, ?_⟩ ?_
  · rintro i H' vs hi ⟨c, rfl, ec, hcn, m1, m2, ⟨v1, e1⟩, ⟨v2, e2⟩, hk⟩
    have htk : chL (ds.take (i + 1)) = chStep (chL (ds.take i)) ds[i] := by
      unfold chL
      rw [List.take_succ_eq_append_getElem hi, List.foldl_append]; rfl
    have hlen : (chL (ds.take i)).length = 2 ^ i := by
      clear htk ec
      induction i with
      | zero => simp [chL]
      | succ j ih =>
        have ih := ih (by lia)
        unfold chL at ih ⊢
        rw [List.take_succ_eq_append_getElem (by lia), List.foldl_append]
        simp only [List.foldl_cons, List.foldl_nil]
        generalize List.foldl chStep [(0, 0, 0)] (List.take j ds) = z at *
        unfold chStep
        rw [List.length_append, List.length_map, ih]; lia
    have hpow : 2 ^ i ≤ 16 := show 2 ^ i ≤ 2 ^ 4 from Nat.pow_le_pow_right (by lia) (by lia)
    generalize hcs : chL (ds.take i) = cs at *
    generalize ds[i] = q at *
    repeat (walk_at "M")
    refine W_LC rfl (by decide) rfl (by decide) ?_
    repeat (walk_at "M")
    refine ⟨_, _, _, _, OI_list hh (l := cs.map cP) (by walk_at "hp"), fun D L' hD _ => ?_⟩
    refine ea0_2 (Hp.put_none hD) fun hD2 hD => ?_
    refine ea0_2 (Hp.put_none hD) fun hD1 hD => ?_
    have hDc : D ≠ c := fun q => by rw [q, ec] at hD; cases hD
    refine CompW_map cP (fun x => cP (x.1 + 1, Builtin.bitXor x.2.1 q.1, x.2.2 + q.2)) cs [] _ (fun x l' lv' hx => ?_) (by simp; lia) ?_
    · repeat (walk_at "M")
      exact ⟨rfl, rfl⟩
    · refine B_addL (l := cs.map cP) (l' := cs.map fun x => cP (x.1 + 1, Builtin.bitXor x.2.1 q.1, x.2.2 + q.2)) (Hp.put_self ..) (Hp.get_ne hDc (Hp.put_self ..)) (fun c' hc' => ?_) (by simp; lia)
      repeat (walk_at "M")
      intro hd
      refine ea0_2 (Hp.put_none hc') fun x1 hc' => ?_
      refine ea0_2 (Hp.put_none hc') fun x2 hc' => ?_
      refine ea0_2 (Hp.put_none (Hp.del_none x1 hc')) fun x3 hc' => ?_
      refine ea0_2 (Hp.put_none hc') fun x4 hc' => ?_
      have hcH : H c' = none := by
        cases z : H c' with
        | none => rfl
        | some y =>
          by_cases q : c' = d
          · subst q; exact absurd rfl (Hp.put_none hd).1
          · rw [hk _ _ z q] at hc'; cases hc'
      refine ⟨[.ref d, .ref c'], ⟨rfl, rfl, trivial⟩, c', rfl, ?_, hcH, x4, x3, ⟨some (.int q.1), by walk_at "hp"⟩, ⟨some (.int q.2), by walk_at "hp"⟩, fun a y ea nda => ?_⟩
      · rw [Hp.put_self, htk]
        unfold chStep
        rw [List.map_append, List.map_map]
        rfl
      · have k1 := hk a y ea nda
        have k2 := ne_of_own ea hc1
        have k3 := ne_of_own ea hc2
        have k4 := ne_of_own ea hcH
        have k5 := ne_of_own k1 hD
        have k6 := ne_of_own ea hcn
        walk_at "hp"
  · exact Hp.get_del (Ne.symm nd0) (Hp.put_self ..)
  · walk_at "hp"
  · walk_at "hp"
  · intro a x ea nda
    have k2 := ne_of_own ea hc1
    have k3 := ne_of_own ea hc2
    have k4 := ne_of_own ea hc₀
    walk_at "hp"
  · rintro H' vs lv ha ⟨c, rfl, ec, hcn, m1, m2, ⟨v1, e1⟩, ⟨v2, e2⟩, hk⟩
    refine ⟨fun _ => ?_, fun h => absurd rfl h⟩
    refine W.lessL ?_ (lvOf_sub _ _ ha)
    repeat (walk_at "M")
    refine ⟨H.put c (.list ((chL ds).map cP)), fun x y ex => ?_, c, rfl, hcn, rfl⟩
    rw [List.take_length] at ec
    have hcd : c ≠ d := Ne.symm (ne_of_own e hcn)
    by_cases q : x = c
    · subst q
      rw [Hp.put_self] at ex
      rw [← ex]
      walk_at "hp"
    · rw [Hp.put_ne _ _ q] at ex
      by_cases q2 : x = d
      · subst q2
        rw [e] at ex
        rw [Hp.put_self, ← ex]
      · exact Hp.get_ne q2 (hk _ _ ex q2)
end
section
/-! ### dicts of ints, plain -/
section
variable {K : Type} [DecidableEq K]
noncomputable def ilook (l : List (K × Int)) (k : K) : Option Int := (l.find? fun q => q.1 = k).map (·.2)
noncomputable def iput (l : List (K × Int)) (k : K) (v : Int) : List (K × Int) := if l.any (fun kv => kv.1 = k) then l.map (fun kv => if kv.1 = k then (kv.1, v) else kv) else l ++ [(k, v)]
theorem dget_look (l : List (K × Int)) (k : K) : dget (iVals l) k = (ilook l k).map MV.int := dget_iVals l k
theorem dput_put (l : List (K × Int)) (k : K) (v : Int) : dput (iVals l) k (.int v) = iVals (iput l k v) := by
  unfold dput iput
  have : (iVals l).any (fun kv => decide (kv.1 = k)) = l.any (fun kv => decide (kv.1 = k)) := by
    unfold iVals; rw [List.any_map]; rfl
  rw [this]
  split
  · unfold iVals
    rw [List.map_map, List.map_map]
    apply List.map_congr_left
    intro p _
    simp only [Function.comp]
    by_cases q : p.1 = k <;> simp [q]
  · simp [iVals]
theorem iput_length (l : List (K × Int)) (k : K) (v : Int) : (iput l k v).length ≤ l.length + 1 := by
  unfold iput; split <;> simp
theorem ilook_put (l : List (K × Int)) (k : K) (v : Int) (k' : K) : ilook (iput l k v) k' = if k' = k then some v else ilook l k' := by
  unfold iput ilook
  split
  · rename_i h
    induction l with
    | nil => simp at h
    | cons p l ih =>
      simp only [List.map_cons, List.find?_cons]
      by_cases q : p.1 = k
      · simp only [q, if_true]
        by_cases q' : k = k'
        · subst q'; simp
        · have q2 : ¬ k' = k := fun e => q' e.symm
          simp only [q', decide_false, q2, if_false]
          by_cases hl : l.any (fun kv => decide (kv.1 = k)) = true
          · have := ih hl; rw [if_neg q2] at this; exact this
          · have : l.map (fun kv => if kv.1 = k then (kv.1, v) else kv) = l := by
              rw [List.map_congr_left (g := id)]
              · simp
              · intro x hx
                have : ¬ x.1 = k := fun e => hl (List.any_eq_true.mpr ⟨x, hx, by simpa using e⟩)
                simp [this]
            rw [this]
      · simp only [q, if_false]
        have hl : l.any (fun kv => decide (kv.1 = k)) = true := by simpa [q] using h
        have := ih hl
        by_cases q' : p.1 = k'
        · have q2 : ¬ k' = k := fun e => q (q'.trans e)
          simp only [q', decide_true, if_neg q2]
        · simp only [q', decide_false]; exact this
  · rename_i h
    rw [List.find?_append]
    by_cases q : k' = k
    · subst q
      have : l.find? (fun q => decide (q.1 = k')) = none := by
        rw [List.find?_eq_none]
        intro x hx e
        exact h (List.any_eq_true.mpr ⟨x, hx, e⟩)
      rw [this]
      simp
    · have q2 : ¬ k = k' := fun e => q e.symm
      simp [q2, q]
theorem iput_keys (l : List (K × Int)) (k : K) (v : Int) (h : (l.map (·.1)).Nodup) : ((iput l k v).map (·.1)).Nodup := by
  unfold iput
  split
  · rw [List.map_map]
    have : (l.map ((fun x => x.1) ∘ fun kv => if kv.1 = k then (kv.1, v) else kv)) = l.map (·.1) := by
      apply List.map_congr_left
      intro p _
      simp only [Function.comp]
      split <;> rfl
    rw [this]; exact h
  · rename_i hn
    rw [List.map_append, List.nodup_append]
    refine ⟨h, by simp, ?_⟩
    intro a ha b hb e
    simp only [List.map_cons, List.map_nil, List.mem_cons, List.not_mem_nil, or_false] at hb
    refine ea1_2 (List.mem_map.mp ha) fun x hx qq2 => ?_
    subst qq2
    exact hn (List.any_eq_true.mpr ⟨x, hx, by simp [e, hb]⟩)
end
variable {C : Cx}
/-- the cheapest choices, as the law finds them -/
noncomputable def chpStep (R : Int → Str) (most : Int) (cs : List (Str × Int)) (c : Int × Int × Int) : List (Str × Int) :=
  if c.1 ≤ most then iput cs (R c.2.1) (min c.2.2 ((ilook cs (R c.2.1)).getD c.2.2)) else cs
noncomputable def chpL (R : Int → Str) (cs : List (Int × Int × Int)) (most : Int) : List (Str × Int) := cs.foldl (chpStep R most) []
theorem chp_len (R : Int → Str) (most : Int) : ∀ (cs : List (Int × Int × Int)) (l : List (Str × Int)), (cs.foldl (chpStep R most) l).length ≤ l.length + cs.length
  | [], l => by simp
  | c :: cs, l => by
    rw [List.foldl_cons]
    have := chp_len R most cs (chpStep R most l c)
    have h2 : (chpStep R most l c).length ≤ l.length + 1 := by
      unfold chpStep; split
      · exact iput_length ..
      · lia
    simp only [List.length_cons]; lia
set_option maxHeartbeats 1000000 in
theorem fn_cheapest (O : C.Ok) {H : Hp} {ra ca : Addr} {rl : List (Int × MV)} {cs : List (Int × Int × Int)} {most : Int} (R : Int → Str) (er : H ra = some (.idd rl)) (ec : H ca = some (.list (cs.map cP))) (hn : cs.length ≤ 1000) (hR : ∀ c ∈ cs, dget rl c.2.1 = some (.str (R c.2.1))) :
    Fn C 162 1 [.ref ra, .ref ca, .int most] H fun v H' => ∃ d, v = .ref d ∧ H d = none ∧ H' = H.put d (.sd (iVals (chpL R cs most))) := by
  refine Fn_def O [Str.ofString "rows", Str.ofString "choices", Str.ofString "most"] rfl (by rfl) (fun vs hv => ?_) rfl (by decide) (by decide) (by decide) (fun A L RR => ?_) rfl rfl rfl
  · obtain ⟨x, y, z, rfl⟩ := vs3 hv; rfl
  have hh := RR.handled
  refine X_cons (S_Assign (W_DictS fun d hd => ?_))
  repeat (walk_at "M")
  have nrd : ra ≠ d := ne_of_own er hd
  have ncd : ca ≠ d := ne_of_own ec hd
  have nrc : ra ≠ ca := fun q => by rw [q, ec] at er; cases er
  repeat (walk_at "M")
  refine F_list hh (l := cs.map cP) (by walk_at "hp") ?_
  refine ForW_N [Str.ofString "rows", Str.ofString "choices", Str.ofString "most", Str.ofString "costs"] cP (fun i H' vs => vs = [.ref ra, .ref ca, .int most, .ref d] ∧ H' = (H.del ca).put d (.sd (iVals ((cs.take i).foldl (chpStep R most) [])))) cs ?_
    [.ref ra, .ref ca, .int most, .ref d] ⟨rfl, rfl, rfl, rfl, trivial⟩ ⟨rfl, ?_⟩ ?_
  · intro i H' vs hi zz
    refine ea0_2 zz fun qq0 qq1 => ?_
    subst qq0 qq1
    (try clear zz)
    have htk : (cs.take (i + 1)).foldl (chpStep R most) [] = chpStep R most ((cs.take i).foldl (chpStep R most) []) cs[i] := by
      rw [List.take_succ_eq_append_getElem hi, List.foldl_append]; rfl
    have hlen := chp_len R most (cs.take i) []
    rw [List.length_take] at hlen
    simp only [List.length_nil] at hlen
    have hRi := hR cs[i] (List.getElem_mem hi)
    rw [htk]
    generalize (cs.take i).foldl (chpStep R most) [] = l at *
    generalize cs[i] = c at *
    repeat (walk_at "M")
    refine ⟨fun hc => ?_, fun hc => ?_⟩
    · have hle := of_decide_eq_true hc
      repeat (walk_at "M")
      refine M_getS (by walk_at "hp") ?_
      repeat (walk_at "M")
      refine G_dictI (by walk_at "hp") hRi ?_
      repeat (walk_at "M")
      refine K_getS (by walk_at "hp") ?_
      have e1 : (dget (iVals l) (R c.2.1)).getD (.int c.2.2) = .int ((ilook l (R c.2.1)).getD c.2.2) := by
        rw [dget_look]; cases ilook l (R c.2.1) <;> rfl
      rw [e1]
      repeat (walk_at "M")
      refine K_min hh ?_
      repeat (walk_at "M")
      refine G_dictI (by walk_at "hp") hRi ?_
      refine I_dictS (by walk_at "hp") (by simp only [iVals, List.length_map]; lia) ?_
      rw [dput_put, Hp.put_put]
      repeat (walk_at "M")
      intro _
      refine ⟨[.ref ra, .ref ca, .int most, .ref d], ⟨rfl, rfl, rfl, rfl, trivial⟩, rfl, ?_⟩
      unfold chpStep
      rw [if_pos hle]
    · have hle := of_decide_eq_false hc
      repeat (walk_at "M")
      intro _
      refine ⟨[.ref ra, .ref ca, .int most, .ref d], ⟨rfl, rfl, rfl, rfl, trivial⟩, rfl, ?_⟩
      unfold chpStep
      rw [if_neg hle]
  · funext x
    unfold Hp.put Hp.del
    by_cases q : x = d
    · subst q; simp [Ne.symm ncd]; rfl
    · simp [q]
  · intro H' vs lv ha zz
    refine ea0_2 zz fun qq0 qq1 => ?_
    subst qq0 qq1
    (try clear zz)
    refine ⟨fun _ => ?_, fun h => absurd rfl h⟩
    refine W.lessL ?_ (lvOf_sub _ _ ha)
    repeat (walk_at "M")
    refine ⟨d, rfl, hd, ?_⟩
    rw [List.take_length]
    funext x
    unfold Hp.put Hp.del chpL
    by_cases q : x = ca
    · subst q; simp [ncd, ec]
    · simp [q]

set_option maxHeartbeats 1000000 in
theorem fn_told (O : C.Ok) {H : Hp} {ra ca : Addr} {rl : List (Int × MV)} {cs : List (Int × Int × Int)} (R : Int → Str) (er : H ra = some (.idd rl)) (ec : H ca = some (.list (cs.map cP))) (hn : cs.length ≤ 1000) (hR : ∀ c ∈ cs, dget rl c.2.1 = some (.str (R c.2.1))) :
    Fn C 169 2 [.ref ra, .ref ca] H fun v H' => ∃ (tl : Addr) (as : List Addr), v = .ref tl ∧ H tl = none ∧ H' tl = some (.list (as.map .ref)) ∧ (∀ j (h : j < as.length), H' as[j] = some (.sd (iVals (chpL R cs (j + 1 : Nat))))) ∧ Sub H H' ∧ (∀ j (h : j < as.length), H as[j] = none) ∧ 1 ≤ as.length ∧ as.length ≤ 5 ∧
      (∀ j : Nat, 1 ≤ j → j < as.length → dEq (chpL R cs j) (chpL R cs (j - 1 : Nat)) = false) ∧ (as.length = 5 ∨ dEq (chpL R cs as.length) (chpL R cs (as.length - 1 : Nat)) = true) := by
  refine Fn_def O [Str.ofString "rows", Str.ofString "choices"] rfl (by rfl) (fun vs hv => ?_) rfl (by decide) (by decide) (by decide) (fun A L RR => ?_) rfl rfl rfl
  · obtain ⟨x, y, rfl⟩ := vs2 hv; rfl
  have hh := RR.handled
  have hu : A.units < cLine := by have := RR.units; lia
  repeat (walk_at "M")
  refine OC_Fn (fn_cheapest O R er ec hn hR) RR fun v H' h => ?_
  refine ea1_3 h fun d0 qq1 hd0 qq3 => ?_
  subst qq1 qq3
  (try clear h)
  repeat (walk_at "M")
  intro t ht
  refine ea0_2 (Hp.put_none ht) fun ntd ht => ?_
  repeat (walk_at "m")
  refine X_cons (W.mono (Q := fun (f : MFl) H' lv' => f = MFl.next ∧ AllAt lv' [Str.ofString "told"] [.ref t] ∧ ∃ as : List Addr, H' t = some (.list (as.map .ref)) ∧ (∀ j (h : j < as.length), H' as[j] = some (.sd (iVals (chpL R cs j)))) ∧ Sub H H' ∧ (∀ j (h : j < as.length), H as[j] = none) ∧ 2 ≤ as.length ∧ as.length ≤ 6 ∧
      (∀ j : Nat, 1 ≤ j → j < as.length - 1 → dEq (chpL R cs j) (chpL R cs (j - 1 : Nat)) = false) ∧ (as.length = 6 ∨ dEq (chpL R cs (as.length - 1 : Nat)) (chpL R cs (as.length - 2 : Nat)) = true)) ?_ ?_)
  · repeat (walk_at "M")
    refine K_range2 ?_
    refine F_rngN [Str.ofString "rows", Str.ofString "choices", Str.ofString "told"] 5 hh (by decide) (by decide) (by decide)
      (fun i H' vs => vs = [.ref ra, .ref ca, .ref t] ∧ ∃ as : List Addr, H' t = some (.list (as.map .ref)) ∧ (∀ j (h : j < as.length), H' as[j] = some (.sd (iVals (chpL R cs j)))) ∧ Sub H H' ∧ (∀ j (h : j < as.length), H as[j] = none) ∧ as.length = i + 1 ∧
      (∀ j : Nat, 1 ≤ j → j < as.length → dEq (chpL R cs j) (chpL R cs (j - 1 : Nat)) = false)) ?_ [.ref ra, .ref ca, .ref t] ⟨rfl, rfl, rfl, trivial⟩ ⟨rfl, [d0], Hp.put_self .., ?_, Sub.trans (Sub.put hd0) (Sub.put (Hp.none_ne ntd ht)), ?_, rfl, ?_⟩ ?_
    · rintro i H' vs hi ⟨rfl, as, et, ha, hs, hfr, hlen, hne⟩
      rw [show (1 : Int) + (i : Int) = ((i + 1 : Nat) : Int) by lia]
      repeat (walk_at "M")
      refine M_append et ?_
      repeat (walk_at "M")
      refine OC_Fn (fn_cheapest O R (hs _ _ er) (hs _ _ ec) hn hR) RR fun v H2 h => ?_
      refine ea1_3 h fun d qq1 hd qq3 => ?_
      subst qq1 qq3
      (try clear h)
      have ntd : t ≠ d := ne_of_own et hd
      repeat (walk_at "M")
      refine K_append (l := as.map .ref) (by walk_at "hp") (by simp; lia) ?_
      have eas : as.map MV.ref ++ [.ref d] = (as ++ [d]).map .ref := by simp
      rw [eas]
      have hat : ∀ j (h : j < (as ++ [d]).length), ((H'.put d (.sd (iVals (chpL R cs ((i + 1 : Nat) : Int))))).put t (.list ((as ++ [d]).map .ref))) (as ++ [d])[j] = some (.sd (iVals (chpL R cs j))) := by
        intro j h
        simp only [List.length_append, List.length_cons, List.length_nil] at h
        by_cases q : j < as.length
        · rw [List.getElem_append_left q]
          have e1 := ha j q
          have n1 : as[j] ≠ t := fun z => by rw [z, et] at e1; cases e1
          have n2 : as[j] ≠ d := ne_of_own e1 hd
          exact Hp.get_ne n1 (Hp.get_ne n2 e1)
        · have : j = as.length := by lia
          subst this
          have e2 : (as ++ [d])[as.length] = d := by simp
          rw [e2, hlen]
          exact Hp.get_ne (Ne.symm ntd) (Hp.put_self ..)
      have hfr2 : ∀ j (h : j < (as ++ [d]).length), H (as ++ [d])[j] = none := by
        intro j h
        simp only [List.length_append, List.length_cons, List.length_nil] at h
        by_cases q : j < as.length
        · rw [List.getElem_append_left q]; exact hfr j q
        · have : j = as.length := by lia
          subst this
          have e2 : (as ++ [d])[as.length] = d := by simp
          rw [e2]; exact hs.none hd
      have hs2 : Sub H ((H'.put d (.sd (iVals (chpL R cs ((i + 1 : Nat) : Int))))).put t (.list ((as ++ [d]).map .ref))) := fun a x e => by
        have e1 := hs a x e
        have n1 : a ≠ t := ne_of_own e ht
        have n2 : a ≠ d := ne_of_own e1 hd
        walk_at "hp"
      have et3 : ((H'.put d (.sd (iVals (chpL R cs ((i + 1 : Nat) : Int))))).put t (.list ((as ++ [d]).map .ref))) t = some (.list ((as ++ [d]).map .ref)) := Hp.put_self ..
      generalize (H'.put d (.sd (iVals (chpL R cs ((i + 1 : Nat) : Int))))).put t (.list ((as ++ [d]).map .ref)) = H3 at *
      have hll : (as ++ [d]).length = i + 2 := by simp [hlen]
      generalize as ++ [d] = bs at *
      repeat (walk_at "M")
      have g1 : (bs.map MV.ref)[((i + 1 : Nat) : Int).toNat]? = some (.ref (bs[i + 1]'(by lia))) := by rw [Int.toNat_natCast]; simp [hll]
      refine G_list et3 (by lia) g1 ?_ (by simp; lia)
      repeat (walk_at "M")
      have e5 : ((i + 1 : Nat) : Int) - 1 = (i : Nat) := by lia
      rw [e5]
      have g2 : (bs.map MV.ref)[((i : Nat) : Int).toNat]? = some (.ref (bs[i]'(by lia))) := by rw [Int.toNat_natCast]; simp [hll]
      refine G_list et3 (by lia) g2 ?_ (by simp; lia)
      refine C_eqDS hu (hat (i + 1) (by lia)) (hat i (by lia)) ?_
      repeat (walk_at "M")
      refine ⟨fun hc => ?_, fun hc => ?_⟩
      · repeat (walk_at "M")
        refine ⟨rfl, ⟨rfl, trivial⟩, bs, et3, hat, hs2, hfr2, by lia, by lia, fun j h1 h2 => ?_, .inr ?_⟩
        · exact hne j h1 (by lia)
        · rw [hll]; exact hc
      · repeat (walk_at "M")
        refine ⟨[.ref ra, .ref ca, .ref t], ⟨rfl, rfl, rfl, trivial⟩, rfl, bs, et3, hat, hs2, hfr2, by lia, fun j h1 h2 => ?_⟩
        rcases Nat.lt_or_ge j as.length with q | q
        · exact hne j h1 q
        · have : j = i + 1 := by lia
          subst this
          exact hc
    · intro j h
      simp only [List.length_cons, List.length_nil] at h
      have : j = 0 := by lia
      subst this
      exact Hp.get_ne (Ne.symm ntd) (Hp.put_self ..)
    · intro j h
      simp only [List.length_cons, List.length_nil] at h
      have : j = 0 := by lia
      subst this
      exact hd0
    · intro j h1 h2
      simp only [List.length_cons, List.length_nil] at h2
      lia
    · rintro H' vs ⟨rfl, as, et, ha, hs, hfr, hlen, hne⟩
      repeat (walk_at "M")
      exact ⟨rfl, ⟨rfl, trivial⟩, as, et, ha, hs, hfr, by lia, by lia, fun j h1 h2 => hne j h1 (by lia), .inl (by lia)⟩
  · rintro f H' lv' ⟨rfl, hat, as, et, ha, hs, hfr, h2, h6, hne, hor⟩
    refine ⟨fun _ => ?_, fun h => absurd rfl h⟩
    refine W.lessL ?_ (lvOf_sub _ _ hat)
    refine X_cons (S_Return ?_)
    refine W_SliceFrom (a := t) (l := as.map .ref) (k := 1) ?_
    repeat (walk_at "M")
    refine ⟨rfl, rfl, et, by simp; lia, by simp; lia, fun b hb => ?_⟩
    repeat (walk_at "M")
    have hlb : (as.drop 1).length = as.length - 1 := by simp
    refine ⟨b, as.drop 1, rfl, hs.none hb, ?_, fun j h => ?_, fun a x e => Hp.get_ne (ne_of_own (hs a x e) hb) (hs a x e), fun j h => (by rw [List.getElem_drop]; exact hfr _ _), by lia, by lia, fun j h1 h2 => hne j h1 (by lia), ?_⟩
    · rw [Hp.put_self]; simp
    · have hj : 1 + j < as.length := by lia
      have e1 := ha (1 + j) hj
      have e3 : (as.drop 1)[j] = as[1 + j] := by rw [List.getElem_drop]
      rw [e3, Nat.add_comm j 1]
      exact Hp.get_ne (ne_of_own e1 hb) e1
    · rw [hlb]
      rcases hor with q | q
      · exact .inl (by lia)
      · exact .inr q
end
section
variable {C : Cx}
/-- the file's text -/
noncomputable def wrtL (w : List Nat) (m : Int) : List Nat := if m = 2 then (w.map fun c => [92, c]).flatten ++ [10] else if m = 0 then w ++ [32] else [34] ++ w ++ [34]
set_option maxHeartbeats 1000000 in
theorem fn_written (O : C.Ok) {H : Hp} {w : List Nat} {m : Int} (hw : w.length ≤ 1000) (ha : ∀ c ∈ w, c < 128) (h0 : 0 ≤ m) (h1 : m < 3) :
    Fn C 174 1 [.str (mkS w), .int m] H fun v H' => v = .str (mkS (wrtL w m)) ∧ H' = H := by
  refine Fn.sub (Fn_def O [Str.ofString "word", Str.ofString "manner"] rfl (by rfl) (fun vs hv => ?_) rfl (by decide) (by decide) (by decide) (fun A L RR => ?_) rfl rfl rfl)
  · obtain ⟨x, y, rfl⟩ := vs2 hv; rfl
  have hh := RR.handled
  repeat (walk_at "M")
  refine ⟨fun hc => ?_, fun hc => ?_⟩
  · have h2 : m = 2 := by simpa using hc
    subst h2
    repeat (walk_at "M")
    refine M_join ?_
    refine ⟨callee_bi _, L_cons (W_LC rfl (by decide) rfl (by decide) ?_)⟩
    repeat (walk_at "M")
    refine ⟨_, _, _, _, OI_str hh (by simpa [mkS] using ha), fun D L' hD _ => ?_⟩
    refine CompW_map (fun c => .str (mkS [c])) (fun c => .str (mkS [92, c])) w [] _ (fun x l' lv' hx => ?_) (by simp; lia) ?_
    · repeat (walk_at "m")
      refine B_addTT [92] [_] (by decide) rfl ?_ (by simp)
      exact ⟨rfl, rfl⟩
    · repeat (walk_at "m")
      refine K_join (l := w.map fun c => [92, c]) (by rw [Hp.put_self, List.map_map]; rfl) ?_ ?_
      · rw [List.map_map]
        show (List.map (fun _ => 2) w).sum ≤ _
        rw [List.map_const', List.sum_replicate_nat]; lia
      repeat (walk_at "m")
      have hfl : (w.map fun c => [92, c]).flatten.length = 2 * w.length := by
        rw [List.length_flatten, List.map_map]
        show (List.map (fun _ => 2) w).sum = _
        rw [List.map_const', List.sum_replicate_nat]; lia
      refine B_addTT _ [10] rfl (by decide) ?_ (by simp only [hfl, List.length_cons, List.length_nil]; lia)
      repeat (walk_at "m")
      refine ⟨H, Sub.put hD, ?_, rfl⟩
      unfold wrtL
      rw [if_pos rfl]
      rfl
  · have h2 : m ≠ 2 := by simpa using hc
    repeat (walk_at "M")
    refine B_addTT w [32] rfl (by decide) ?_ (by simp only [List.length_cons, List.length_nil]; lia)
    repeat (walk_at "M")
    refine B_addTT [34] w (by decide) rfl ?_ (by simp only [List.length_cons, List.length_nil]; lia)
    repeat (walk_at "M")
    refine B_addTT ([34] ++ w) [34] rfl (by decide) ?_ (by simp; lia)
    repeat (walk_at "M")
    rcases (show m = 0 ∨ m = 1 by lia) with rfl | rfl
    · refine G_tup (by decide) rfl ?_ (Nat.le_of_ble_eq_true rfl)
      repeat (walk_at "m")
      exact ⟨H, Sub.refl _, rfl, rfl⟩
    · refine G_tup (by decide) rfl ?_ (Nat.le_of_ble_eq_true rfl)
      repeat (walk_at "m")
      exact ⟨H, Sub.refl _, rfl, rfl⟩
end
section
variable {C : Cx}
/-- where the lexer's objects lie -/
structure LA where
  (x dx sx dsx f cf cAt cTx atL p : Addr)
  (fo co : Obj)
noncomputable abbrev wsL : List Nat := [10, 9, 13, 32]
structure LexH (a : LA) (text : List Nat) (H : Hp) (pos : Nat) (ln : Int) (pb : List Str) : Prop where
  ins : ∃ k m, Ins H a.x a.dx k m ∧ k ≤ 100 ∧ m (Str.ofString "lineno") = some (.int ln) ∧ m (Str.ofString "instream") = some (.ref a.sx) ∧ m (Str.ofString "whitespace") = some (.str (mkS wsL)) ∧ m (Str.ofString "pushback") = some (.ref a.p) ∧
    m (Str.ofString "push_token") = none ∧ m (Str.ofString "get_token") = none ∧ m (Str.ofString "_read_char") = none
  src : ∃ k m, Ins H a.sx a.dsx k m ∧ m (Str.ofString "read") = some (.ref a.f)
  pb : H a.p = some (.list (pb.map .str))
  at_ : H a.atL = some (.list [.int pos])
  ftx : H a.f = some (.raw a.fo) ∧ H a.cf = some (.raw a.co) ∧ H a.cAt = some (.cell (some (.ref a.atL))) ∧ H a.cTx = some (.cell (some (.str (mkS text))))
  le : pos ≤ text.length
  n1 : a.dx ≠ a.dsx
  n2 : a.p ≠ a.atL
structure LexC (C : Cx) (a : LA) (text : List Nat) : Prop where
  fn : ∃ fd, a.fo.data = .func fd
  give : ∀ H (pos : Nat), H a.f = some (.raw a.fo) ∧ H a.cf = some (.raw a.co) ∧ H a.cAt = some (.cell (some (.ref a.atL))) ∧ H a.cTx = some (.cell (some (.str (mkS text)))) → H a.atL = some (.list [.int pos]) → pos ≤ text.length →
    FnC C a.f 1 [.int 1] H fun v H' => v = .str (mkS ((text.drop pos).take 1)) ∧ H' = H.put a.atL (.list [.int ((min (pos + 1) text.length : Nat) : Int)])
  sz : text.length ≤ 10000
section
variable {a : LA} {text : List Nat} {H H' : Hp} {pos : Nat} {ln : Int} {pb : List Str}
theorem LexH.sub (h : LexH a text H pos ln pb) (s : Sub H H') : LexH a text H' pos ln pb := by
  obtain ⟨⟨k, m, ⟨i1, i2⟩, i3⟩, ⟨k2, m2, ⟨j1, j2⟩, j3⟩, p1, p2, ⟨f1, f2, f3, f4⟩, le, n1, n2⟩ := h
  exact ⟨⟨k, m, ⟨s _ _ i1, s _ _ i2⟩, i3⟩, ⟨k2, m2, ⟨s _ _ j1, s _ _ j2⟩, j3⟩, s _ _ p1, s _ _ p2, ⟨s _ _ f1, s _ _ f2, s _ _ f3, s _ _ f4⟩, le, n1, n2⟩
theorem ne_kind {H : Hp} {a b : Addr} {u v : MObj} (h : H a = some u) (h' : H b = some v) (hn : u ≠ v) : a ≠ b := fun e => by subst e; rw [h] at h'; cases h'; exact hn rfl
theorem LexH.setAt (h : LexH a text H pos ln pb) {pos' : Nat} (le' : pos' ≤ text.length) : LexH a text (H.put a.atL (.list [.int pos'])) pos' ln pb := by
  obtain ⟨⟨k, m, ⟨i1, i2⟩, i3⟩, ⟨k2, m2, ⟨j1, j2⟩, j3⟩, p1, p2, ⟨f1, f2, f3, f4⟩, le, n1, n2⟩ := h
  refine ⟨⟨k, m, ⟨Hp.get_ne (ne_kind i1 p2 (by simp)) i1, Hp.get_ne (ne_kind i2 p2 (by simp)) i2⟩, i3⟩, ⟨k2, m2, ⟨Hp.get_ne (ne_kind j1 p2 (by simp)) j1, Hp.get_ne (ne_kind j2 p2 (by simp)) j2⟩, j3⟩, Hp.get_ne n2 p1, Hp.put_self .., ⟨Hp.get_ne (ne_kind f1 p2 (by simp)) f1, Hp.get_ne (ne_kind f2 p2 (by simp)) f2, Hp.get_ne (ne_kind f3 p2 (by simp)) f3, Hp.get_ne (ne_kind f4 p2 (by simp)) f4⟩, le', n1, n2⟩
theorem LexH.setPb (h : LexH a text H pos ln pb) (pb' : List Str) : LexH a text (H.put a.p (.list (pb'.map .str))) pos ln pb' := by
  obtain ⟨⟨k, m, ⟨i1, i2⟩, i3⟩, ⟨k2, m2, ⟨j1, j2⟩, j3⟩, p1, p2, ⟨f1, f2, f3, f4⟩, le, n1, n2⟩ := h
  refine ⟨⟨k, m, ⟨Hp.get_ne (ne_kind i1 p1 (by simp)) i1, Hp.get_ne (ne_kind i2 p1 (by simp)) i2⟩, i3⟩, ⟨k2, m2, ⟨Hp.get_ne (ne_kind j1 p1 (by simp)) j1, Hp.get_ne (ne_kind j2 p1 (by simp)) j2⟩, j3⟩, Hp.put_self .., Hp.get_ne (Ne.symm n2) p2, ⟨Hp.get_ne (ne_kind f1 p1 (by simp)) f1, Hp.get_ne (ne_kind f2 p1 (by simp)) f2, Hp.get_ne (ne_kind f3 p1 (by simp)) f3, Hp.get_ne (ne_kind f4 p1 (by simp)) f4⟩, le, n1, n2⟩
theorem LexH.setLn (h : LexH a text H pos ln pb) {k : Nat} {m : Str → Option MV} (I : Ins H a.x a.dx k m) (ln' : Int) : LexH a text (H.put a.dx (.ns (nsK m (Str.ofString "lineno") k) (nsPut m (Str.ofString "lineno") (.int ln')))) pos ln' pb := by
  obtain ⟨⟨k0, m0, ⟨i1, i2⟩, i3⟩, ⟨k2, m2, ⟨j1, j2⟩, j3⟩, p1, p2, ⟨f1, f2, f3, f4⟩, le, n1, n2⟩ := h
  have e := I.dict
  rw [i2] at e
  injection e with e
  injection e with e1 e2
  subst e1 e2
  refine ea0_8 i3 fun r1 r2 r3 r4 r5 r6 r7 r8 => ?_
  (try clear i3)
  refine ⟨⟨_, _, ⟨Hp.get_ne (ne_kind i1 i2 (by simp)) i1, Hp.put_self ..⟩, ?_, ?_, ?_, ?_, ?_, ?_, ?_, ?_⟩, ⟨k2, m2, ⟨Hp.get_ne (ne_kind j1 i2 (by simp)) j1, Hp.get_ne (Ne.symm n1) j2⟩, j3⟩, Hp.get_ne (ne_kind p1 i2 (by simp)) p1, Hp.get_ne (ne_kind p2 i2 (by simp)) p2, ⟨Hp.get_ne (ne_kind f1 i2 (by simp)) f1, Hp.get_ne (ne_kind f2 i2 (by simp)) f2, Hp.get_ne (ne_kind f3 i2 (by simp)) f3, Hp.get_ne (ne_kind f4 i2 (by simp)) f4⟩, le, n1, n2⟩
  · unfold nsK; rw [r2]; exact r1
  · rfl
  · exact r3
  · exact r4
  · exact r5
  · exact r6
  · exact r7
  · exact r8
end
theorem Ins.set {H : Hp} {x dx : Addr} {k k' : Nat} {m m' : Str → Option MV} (I : Ins H x dx k m) : Ins (H.put dx (.ns k' m')) x dx k' m' := ⟨Hp.get_ne (ne_kind I.obj I.dict (by simp)) I.obj, Hp.put_self ..⟩
theorem Ins.new {H : Hp} {x dx b : Addr} {k : Nat} {m : Str → Option MV} {y : MObj} (I : Ins H x dx k m) (hb : H b = none) : Ins (H.put b y) x dx k m := ⟨Hp.get_ne (ne_of_own I.obj hb) I.obj, Hp.get_ne (ne_of_own I.dict hb) I.dict⟩
set_option maxHeartbeats 1000000 in
theorem fn_init (O : C.Ok) {H : Hp} {x dx : Addr} {fp : MV} (I : Ins H x dx 0 fun _ => none) : FnC C 28 1 [.ref x, fp] H fun v H' => v = .none ∧ ∃ p m, H p = none ∧ H' = (H.put p (.list [])).put dx (.ns 4 m) ∧
    m (Str.ofString "lineno") = some (.int 1) ∧ m (Str.ofString "instream") = some fp ∧ m (Str.ofString "whitespace") = some (.str (mkS wsL)) ∧ m (Str.ofString "pushback") = some (.ref p) ∧
    m (Str.ofString "push_token") = none ∧ m (Str.ofString "get_token") = none ∧ m (Str.ofString "_read_char") = none ∧ m (Str.ofString "read") = none := by
  refine FnC_def O [Str.ofString "self", Str.ofString "fp"] rfl (by rfl) (fun vs hv => ?_) rfl (by decide) (by decide) (by decide) (fun A L RR => ?_) rfl rfl rfl
  · obtain ⟨x, y, rfl⟩ := vs2 hv; rfl
  repeat (walk_at "M")
  refine ⟨x, dx, _, _, rfl, I, by decide, rfl, ?_⟩
  repeat (walk_at "M")
  refine ⟨x, dx, _, _, rfl, I.set, Nat.le_of_ble_eq_true rfl, rfl, ?_⟩
  repeat (walk_at "m")
  refine X_cons (S_SetAttr O (W_strT wsL (by decide) (W_local rfl ?_)))
  refine ⟨x, dx, _, _, rfl, I.set.set, Nat.le_of_ble_eq_true rfl, rfl, ?_⟩
  repeat (walk_at "M")
  intro p hp
  refine ea0_2 (Hp.put_none hp) fun x1 hp => ?_
  refine ea0_2 (Hp.put_none hp) fun _ hp => ?_
  refine ea0_2 (Hp.put_none hp) fun _ hp => ?_
  repeat (walk_at "M")
  refine ⟨x, dx, _, _, rfl, I.set.set.set.new (Hp.none_ne x1 (Hp.none_ne x1 (Hp.none_ne x1 hp))), Nat.le_of_ble_eq_true rfl, rfl, ?_⟩
  repeat (walk_at "M")
  refine ⟨rfl, p, nsPut (nsPut (nsPut (nsPut (fun _ => none) (Str.ofString "lineno") (.int 1)) (Str.ofString "instream") fp) (Str.ofString "whitespace") (.str (mkS wsL))) (Str.ofString "pushback") (.ref p), hp, ?_, rfl, rfl, rfl, rfl, rfl, rfl, rfl, rfl⟩
  funext y
  unfold Hp.put
  by_cases q : y = dx
  · subst q; simp only [if_true]; rfl
  · simp [q]
set_option maxHeartbeats 1000000 in
theorem fn_read_char (O : C.Ok) {a : LA} {text : List Nat} (lc : LexC C a text) {H : Hp} {pos : Nat} {ln : Int} {pb : List Str} (h : LexH a text H pos ln pb) :
    FnC C 35 2 [.ref a.x] H fun v H' => v = .str (mkS ((text.drop pos).take 1)) ∧ LexH a text H' (min (pos + 1) text.length) (ln + if (text.drop pos).take 1 = [10] then 1 else 0) pb ∧ Keep [a.dx, a.atL] H H' := by
  refine FnC_def O [Str.ofString "self"] rfl (by rfl) (fun vs hv => ?_) rfl (by decide) (by decide) (by decide) (fun A L RR => ?_) rfl rfl rfl
  · obtain ⟨x, rfl⟩ := vs1 hv; rfl
  refine ea2_9 (h.ins) fun k m I hk r1 r2 r3 r4 r5 r6 r7 => ?_
  refine ea2_2 (h.src) fun k2 m2 J s1 => ?_
  refine ea1_1 (lc.fn) fun fd hfd => ?_
  refine X_cons (S_Assign (W_MethH (W_Attr (W_local rfl ?_))))
  refine OG_own O I r2 rfl rfl ?_
  refine OM_own O J s1 rfl rfl ?_
  repeat (walk_at "M")
  refine ⟨callee_own h.ftx.1 hfd, ?_⟩
  refine OC_FnC (lc.give H pos h.ftx h.at_ h.le) RR fun v H' q => ?_
  refine ea0_2 q fun qq0 qq1 => ?_
  subst qq0 qq1
  (try clear q)
  have h2 := h.setAt (pos' := min (pos + 1) text.length) (by lia)
  have I2 : Ins (H.put a.atL (.list [.int ((min (pos + 1) text.length : Nat) : Int)])) a.x a.dx k m := ⟨Hp.get_ne (ne_kind I.obj h.at_ (by simp)) I.obj, Hp.get_ne (ne_kind I.dict h.at_ (by simp)) I.dict⟩
  have K2 : Keep [a.dx, a.atL] H (H.put a.atL (.list [.int ((min (pos + 1) text.length : Nat) : Int)])) := Keep.put (by simp)
  generalize H.put a.atL (.list [.int ((min (pos + 1) text.length : Nat) : Int)]) = H2 at *
  generalize (text.drop pos).take 1 = ch at *
  repeat (walk_at "m")
  refine X_cons (S_If (T_Compare (W_local rfl (W_strT [10] (by decide) (C_eqS (O_truth ?_))))))
  have hq : (mkS ch == mkS [10]) = decide (ch = [10]) := by
    rw [Bool.eq_iff_iff, beq_iff_eq, decide_eq_true_iff]; exact ⟨mkS_inj, fun e => e ▸ rfl⟩
  rw [hq]
  refine ⟨fun hc => ?_, fun hc => ?_⟩
  · have hc := of_decide_eq_true hc
    repeat (walk_at "M")
    refine OG_own O I2 r1 rfl rfl ?_
    repeat (walk_at "M")
    refine ⟨a.x, a.dx, _, _, rfl, I2, by lia, rfl, ?_⟩
    repeat (walk_at "M")
    refine ⟨rfl, ?_, K2.trans (Keep.put (by simp))⟩
    rw [if_pos hc]
    exact h2.setLn I2 _
  · have hc := of_decide_eq_false hc
    repeat (walk_at "M")
    refine ⟨rfl, ?_, K2⟩
    rw [if_neg hc, Int.add_zero]
    exact h2
set_option maxHeartbeats 1000000 in
theorem fn_push (O : C.Ok) {a : LA} {text : List Nat} {H : Hp} {pos : Nat} {ln : Int} {pb : List Str} {t : Str} (h : LexH a text H pos ln pb) (hsz : pb.length ≤ 1000) :
    Fn C 49 1 [.ref a.x, .str t] H fun v H' => v = .none ∧ H' = H.put a.p (.list ((pb ++ [t]).map .str)) := by
  refine Fn_def O [Str.ofString "self", Str.ofString "token"] rfl (by rfl) (fun vs hv => ?_) rfl (by decide) (by decide) (by decide) (fun A L RR => ?_) rfl rfl rfl
  · obtain ⟨x, y, rfl⟩ := vs2 hv; rfl
  refine ea2_9 (h.ins) fun k m I hk r1 r2 r3 r4 r5 r6 r7 => ?_
  repeat (walk_at "M")
  refine OG_own O I r4 rfl rfl ?_
  refine M_append h.pb ?_
  repeat (walk_at "M")
  refine K_append h.pb (by simp; lia) ?_
  repeat (walk_at "M")
  refine ⟨rfl, ?_⟩
  simp
set_option maxHeartbeats 1000000 in
/-- a word that waits -/
theorem fn_token_pop (O : C.Ok) {a : LA} {text : List Nat} {H : Hp} {pos : Nat} {ln : Int} {pb : List Str} {t : Str} (h : LexH a text H pos ln (t :: pb)) (hsz : pb.length ≤ 1000) :
    Fn C 42 1 [.ref a.x] H fun v H' => v = .str t ∧ H' = H.put a.p (.list (pb.map .str)) := by
  refine Fn_def O [Str.ofString "self"] rfl (by rfl) (fun vs hv => ?_) rfl (by decide) (by decide) (by decide) (fun A L RR => ?_) rfl rfl rfl
  · obtain ⟨x, rfl⟩ := vs1 hv; rfl
  refine ea2_9 (h.ins) fun k m I hk r1 r2 r3 r4 r5 r6 r7 => ?_
  repeat (walk_at "M")
  refine OG_own O I r4 rfl rfl ?_
  refine O_truthL h.pb ?_ (by simp; lia)
  refine ⟨fun _ => ?_, fun hc => by cases hc⟩
  repeat (walk_at "M")
  refine OG_own O I r4 rfl rfl ?_
  refine M_pop h.pb ?_
  repeat (walk_at "M")
  refine K_pop0 h.pb (by simp; lia) ?_
  repeat (walk_at "M")
  exact ⟨rfl, rfl⟩
end
section
section
variable {C : Cx} {A : Around} {H : Hp} {lv : Lv} {L : Addr} {env : Env}
theorem C_inT {c : Nat} {l : List Nat} {Q : MV → Hp → Lv → Prop} (h : Q (.bool (decide (c ∈ l))) H lv) : O2 C A L VRep (compareOp .In) (.str (mkS [c])) (.str (mkS l)) H lv Q :=
  C_inS (by
    have e : (!(Builtin.Str.occurrences (mkS l) (mkS [c]) 0 (mkS l).length 1).isEmpty) = decide (c ∈ l) := by
      rw [show mkS [c] = ⟨#[c]⟩ from rfl, StrLaws.found_one, Bool.eq_iff_iff, decide_eq_true_iff, decide_eq_true_iff]
      exact Iff.rfl
    rw [e]; exact h)
theorem NX.lessL {I : Addr} {lv' : Lv} {Q : Option MV → Hp → Lv → Prop} (h : NX C A L I H lv' Q) (k : ∀ x y, lv' x = some y → lv x = some y) : NX C A L I H lv Q := fun F s st => h F s (st.lessL k)
theorem F_citN (ns : List Str) {t : Expr} {b o : List Stmt} {I q : Addr} {tk : Tok} {Q : MFl → Hp → Lv → Prop} (e : H I = some (.raw (citObj q tk))) (Inv : Nat → Hp → List MV → Prop)
    (turn : ∀ k H vs, Inv k H vs → NX C A env.locals I H (lvOf ns vs) fun r H lv => match r with
      | none => WX C A env o H lv Q
      | some x => (∃ ob nm, H I = some (.raw ob) ∧ ob.cls = .type nm ∧ okIter nm = true) ∧ OA C A env t x H lv fun H lv => WX C A env b H lv (loopQ (fun H lv => ∃ m vs', m < k ∧ AllAt lv ns vs' ∧ Inv m H vs') Q))
    (k : Nat) (vs : List MV) (ha : AllAt lv ns vs) (hI : Inv k H vs) : OF C A env t b o (.ref I) H lv Q := by
  refine F_cit e (fun k H lv => ∃ vs, AllAt lv ns vs ∧ Inv k H vs) (fun k H lv zz => ea1_2 zz fun vs ha hi => ?_) k ⟨vs, ha, hI⟩
  refine NX.lessL (fun F s st => Pst.seq (turn k H vs hi F s st) fun r s1 F1 H1 lv1 y k1 st1 r1 q1 => ⟨F1, H1, lv1, y, k1, st1, r1, ?_⟩) (lvOf_sub ns vs ha)
  cases y with
  | none => exact q1
  | some x =>
    refine ⟨q1.1, OA.mono q1.2 fun H lv q => W.mono q fun f H lv q => ?_⟩
    cases f with
    | next => obtain ⟨m, vs', a, b, c⟩ := q; exact ⟨m, a, vs', b, c⟩
    | cont => obtain ⟨m, vs', a, b, c⟩ := q; exact ⟨m, a, vs', b, c⟩
    | brk => exact q
    | ret v => exact q
end
variable {C : Cx}
/-- the line's number after pos signs -/
noncomputable def lnAt (text : List Nat) (pos : Nat) : Int := 1 + ((text.take pos).count 10 : Nat)
theorem lnAt_succ {text : List Nat} {pos c : Nat} (h : text[pos]? = some c) : lnAt text (pos + 1) = lnAt text pos + if [c] = [10] then 1 else 0 := by
  refine ea1_1 (List.getElem?_eq_some_iff.mp h) fun hp qq1 => ?_
  subst qq1
  unfold lnAt
  rw [List.take_succ_eq_append_getElem hp, List.count_append, List.count_singleton]
  by_cases q : text[pos] = 10
  · simp [q]; lia
  · simp [q]
theorem LexH.away {a : LA} {text : List Nat} {H0 H : Hp} {pos pos0 : Nat} {ln ln0 : Int} {pb pb0 : List Str} {I : Addr} {y : MObj} (h0 : LexH a text H0 pos0 ln0 pb0) (hI : H0 I = none) (h : LexH a text H pos ln pb) : LexH a text (H.put I y) pos ln pb := by
  obtain ⟨⟨k, m, ⟨i1, i2⟩, i3⟩, ⟨k2, m2, ⟨j1, j2⟩, j3⟩, p1, p2, ⟨f1, f2, f3, f4⟩, le, n1, n2⟩ := h
  obtain ⟨⟨_, _, ⟨i1', i2'⟩, _⟩, ⟨_, _, ⟨j1', j2'⟩, _⟩, p1', p2', ⟨f1', f2', f3', f4'⟩, _, _, _⟩ := h0
  exact ⟨⟨k, m, ⟨Hp.get_ne (ne_of_own i1' hI) i1, Hp.get_ne (ne_of_own i2' hI) i2⟩, i3⟩, ⟨k2, m2, ⟨Hp.get_ne (ne_of_own j1' hI) j1, Hp.get_ne (ne_of_own j2' hI) j2⟩, j3⟩, Hp.get_ne (ne_of_own p1' hI) p1, Hp.get_ne (ne_of_own p2' hI) p2,
    ⟨Hp.get_ne (ne_of_own f1' hI) f1, Hp.get_ne (ne_of_own f2' hI) f2, Hp.get_ne (ne_of_own f3' hI) f3, Hp.get_ne (ne_of_own f4' hI) f4⟩, le, n1, n2⟩
/-- the lexer at work: a loop's iterator stands -/
structure LexI (a : LA) (text : List Nat) (I q : Addr) (tk : Tok) (H0 H : Hp) (pos : Nat) : Prop where
  lex : LexH a text H pos (lnAt text pos) []
  it : H I = some (.raw (citObj q tk))
  me : H q = some (.raw (methodObj (.ref 35) (.ref a.x)))
  keep : Keep [a.dx, a.atL] H0 H
theorem NX_lex (O : C.Ok) {a : LA} {text : List Nat} (lc : LexC C a text) {A : Around} {L : Addr} {lv : Lv} (R : Room 3 A) {I q : Addr} {tk : Tok} {H0 H : Hp} {pos : Nat} {pos0 : Nat} {ln0 : Int} {pb0 : List Str} (hL0 : LexH a text H0 pos0 ln0 pb0) (h0 : H0 I = none) (h : LexI a text I q tk H0 H pos) {Q : Option MV → Hp → Lv → Prop}
    (hs : ∀ c H', text[pos]? = some c → LexI a text I q tk H0 H' (pos + 1) → Q (some (.str (mkS [c]))) H' lv)
    (he : ∀ H', pos = text.length → LexH a text H' pos (lnAt text pos) [] → Keep [a.dx, a.atL] H0 H' → Q none H' lv) : NX C A L I H lv Q := by
  refine N_cit O rfl R h.it h.me ((fn_read_char O lc h.lex).mono fun v H' z => ?_)
  refine ea0_3 z fun qq0 hl hk => ?_
  subst qq0
  (try clear z)
  have i1 : I ∉ [a.dx, a.atL] := by
    refine ea2_2 (h.lex.ins) fun k m J _ => ?_
    simp only [List.mem_cons, List.not_mem_nil, or_false, not_or]
    exact ⟨ne_kind h.it J.dict (by simp), ne_kind h.it h.lex.at_ (by simp)⟩
  have i2 : q ∉ [a.dx, a.atL] := by
    refine ea2_2 (h.lex.ins) fun k m J _ => ?_
    simp only [List.mem_cons, List.not_mem_nil, or_false, not_or]
    exact ⟨ne_kind h.me J.dict (by simp), ne_kind h.me h.lex.at_ (by simp)⟩
  have e1 := hk _ _ h.it i1
  have e2 := hk _ _ h.me i2
  have kk := h.keep.trans hk
  have hle := h.lex.le
  refine ⟨_, rfl, e1, e2, fun hc => ?_, fun hc => ?_⟩
  · rcases Nat.lt_or_ge pos text.length with hp | hp
    · have hg : text[pos]? = some text[pos] := by simp [hp]
      have hd : (text.drop pos).take 1 = [text[pos]] := by rw [List.drop_eq_getElem_cons hp]; rfl
      rw [hd] at hl ⊢
      rw [← lnAt_succ hg, Nat.min_eq_left (by lia)] at hl
      exact hs _ _ hg ⟨hl, e1, e2, kk⟩
    · rw [List.drop_eq_nil_of_le hp] at hc; exact absurd rfl hc
  · have hp : pos = text.length := by
      rcases Nat.lt_or_ge pos text.length with hp | hp
      · rw [List.drop_eq_getElem_cons hp] at hc; exact absurd hc (List.cons_ne_nil _ _)
      · lia
    subst hp
    rw [hc, if_neg (by simp), Int.add_zero, Nat.min_eq_right (by lia)] at hl
    exact he _ rfl (hL0.away h0 hl) fun b y e n => Hp.get_ne (ne_of_own e h0) (kk b y e n)

noncomputable def quoF : List Nat → List Nat → Option (List Nat × List Nat)
  | [], _ => none
  | [c], t => if c = 34 then some (t, []) else none
  | c :: d :: r, t => if c = 34 then some (t, d :: r) else if c = 92 then quoF r (t ++ [d]) else quoF (d :: r) (t ++ [c])
noncomputable def plnF : List Nat → List Nat → Option (List Nat × List Nat)
  | [], _ => none
  | [c], t => if c ∈ wsL then some (t, []) else none
  | c :: d :: r, t => if c ∈ wsL then some (t, d :: r) else if c = 92 then plnF r (t ++ [d]) else plnF (d :: r) (t ++ [c])
noncomputable def wrdF : List Nat → Option (List Nat × List Nat)
  | [] => none
  | [c] => none
  | c :: d :: r => if c ∈ wsL then none else if c = 34 then quoF (d :: r) [] else if c = 92 then plnF r [d] else plnF (d :: r) [c]
set_option maxHeartbeats 2000000 in
/-- nothing is left -/
theorem fn_token_end (O : C.Ok) {a : LA} {text : List Nat} (lc : LexC C a text) {H : Hp} (h : LexH a text H text.length (lnAt text text.length) []) :
    Fn C 42 4 [.ref a.x] H fun v H' => v = .str (mkS []) ∧ LexH a text H' text.length (lnAt text text.length) [] ∧ Keep [a.dx, a.atL] H H' := by
  refine Fn_def O [Str.ofString "self"] rfl (by rfl) (fun vs hv => ?_) rfl (by decide) (by decide) (by decide) (fun A L RR => ?_) rfl rfl rfl
  · obtain ⟨x, rfl⟩ := vs1 hv; rfl
  refine ea2_9 (h.ins) fun k m I hk r1 r2 r3 r4 r5 r6 r7 => ?_
  repeat (walk_at "M")
  refine OG_own O I r4 rfl rfl ?_
  refine O_truthL h.pb ?_ (by simp)
  refine ⟨fun hc => absurd hc Bool.false_ne_true, fun _ => ?_⟩
  repeat (walk_at "m")
  refine X_cons (S_Assign (W_strT [] (by decide) ?_))
  repeat (walk_at "M")
  refine OG_bound O I r7 rfl rfl rfl rfl rfl fun q hq => ?_
  refine L_cons (W_strT [] (by decide) (L_nil ?_))
  refine K_iter2 (f := 35) (x := a.x) (Hp.put_self ..) fun J t hJ => ?_
  refine ea0_2 (Hp.put_none hJ) fun nJq hJ => ?_
  repeat (walk_at "M")
  have h2 : LexI a text J q t H ((H.put q (.raw (methodObj (.ref 35) (.ref a.x)))).put J (.raw (citObj q t))) text.length := ⟨(h.sub (Sub.put hq)).sub (Sub.put (Hp.none_ne nJq hJ)), Hp.put_self .., Hp.get_ne (Ne.symm nJq) (Hp.put_self ..), fun b y e n => Hp.get_ne (ne_of_own e hJ) (Hp.get_ne (ne_of_own e hq) e)⟩
  generalize (H.put q (.raw (methodObj (.ref 35) (.ref a.x)))).put J (.raw (citObj q t)) = H2 at *
  refine F_citN [Str.ofString "self", Str.ofString "token", Str.ofString "fiter"] h2.it (fun k H' vs => vs = [.ref a.x, .str (mkS []), .ref J] ∧ LexI a text J q t H H' text.length) ?_ 0 [.ref a.x, .str (mkS []), .ref J] ⟨rfl, rfl, rfl, trivial⟩ ⟨rfl, h2⟩
  intro k H' vs zz
  refine ea0_2 zz fun qq0 hi => ?_
  subst qq0
  (try clear zz)
  refine NX_lex O lc RR h hJ hi (fun c H' e => ?_) fun H' _ hl hk => ?_
  · rw [List.getElem?_eq_none (Nat.le_refl _)] at e; cases e
  · repeat (walk_at "M")
    exact ⟨rfl, hl, hk⟩
theorem read_I (O : C.Ok) {a : LA} {text : List Nat} (lc : LexC C a text) {J q : Addr} {t : Tok} {H0 H : Hp} {pos d : Nat} {pos0 : Nat} {ln0 : Int} {pb0 : List Str} (hL0 : LexH a text H0 pos0 ln0 pb0) (hi : LexI a text J q t H0 H pos) (hd : text[pos]? = some d) :
    FnC C 35 2 [.ref a.x] H fun v H' => v = .str (mkS [d]) ∧ LexI a text J q t H0 H' (pos + 1) := by
  refine (fn_read_char O lc hi.lex).mono fun v H' z => ?_
  refine ea0_3 z fun qq0 hl hk => ?_
  subst qq0
  (try clear z)
  refine ea2_2 (hi.lex.ins) fun k m I _ => ?_
  have n1 : J ∉ [a.dx, a.atL] := by
    simp only [List.mem_cons, List.not_mem_nil, or_false, not_or]
    exact ⟨ne_kind hi.it I.dict (by simp), ne_kind hi.it hi.lex.at_ (by simp)⟩
  have n2 : q ∉ [a.dx, a.atL] := by
    simp only [List.mem_cons, List.not_mem_nil, or_false, not_or]
    exact ⟨ne_kind hi.me I.dict (by simp), ne_kind hi.me hi.lex.at_ (by simp)⟩
  refine ea1_1 (List.getElem?_eq_some_iff.mp hd) fun hp qq1 => ?_
  subst qq1
  have hd1 : (text.drop pos).take 1 = [text[pos]] := by rw [List.drop_eq_getElem_cons hp]; rfl
  rw [hd1] at hl ⊢
  rw [← lnAt_succ hd, Nat.min_eq_left (by lia)] at hl
  exact ⟨rfl, hl, hk _ _ hi.it n1, hk _ _ hi.me n2, hi.keep.trans hk⟩
theorem drop_some {text : List Nat} {pos c : Nat} (h : text[pos]? = some c) : text.drop pos = c :: text.drop (pos + 1) := by
  refine ea1_1 (List.getElem?_eq_some_iff.mp h) fun hp qq1 => ?_
  subst qq1
  exact List.drop_eq_getElem_cons hp
theorem some_drop {text : List Nat} {pos c : Nat} {r : List Nat} (h : text.drop pos = c :: r) : text[pos]? = some c ∧ r = text.drop (pos + 1) := by
  have hp : pos < text.length := by
    rcases Nat.lt_or_ge pos text.length with q | q
    · exact q
    · rw [List.drop_eq_nil_of_le q] at h; cases h
  rw [List.drop_eq_getElem_cons hp] at h
  injection h with h1 h2
  exact ⟨by rw [← h1]; simp [hp], h2.symm⟩
theorem quo_step {c : Nat} {r t : List Nat} {w : List Nat × List Nat} (h : quoF (c :: r) t = some w) : (c = 34 ∧ w = (t, r)) ∨ (c ≠ 34 ∧ c = 92 ∧ ∃ d r', r = d :: r' ∧ quoF r' (t ++ [d]) = some w) ∨ (c ≠ 34 ∧ c ≠ 92 ∧ quoF r (t ++ [c]) = some w) := by
  cases r with
  | nil =>
    unfold quoF at h
    by_cases q : c = 34
    · rw [if_pos q] at h; exact .inl ⟨q, (Option.some.inj h).symm⟩
    · rw [if_neg q] at h; cases h
  | cons d r =>
    unfold quoF at h
    by_cases q : c = 34
    · rw [if_pos q] at h; exact .inl ⟨q, (Option.some.inj h).symm⟩
    · rw [if_neg q] at h
      by_cases q2 : c = 92
      · rw [if_pos q2] at h; exact .inr (.inl ⟨q, q2, d, r, rfl, h⟩)
      · rw [if_neg q2] at h; exact .inr (.inr ⟨q, q2, h⟩)
theorem pln_step {c : Nat} {r t : List Nat} {w : List Nat × List Nat} (h : plnF (c :: r) t = some w) : (c ∈ wsL ∧ w = (t, r)) ∨ (c ∉ wsL ∧ c = 92 ∧ ∃ d r', r = d :: r' ∧ plnF r' (t ++ [d]) = some w) ∨ (c ∉ wsL ∧ c ≠ 92 ∧ plnF r (t ++ [c]) = some w) := by
  cases r with
  | nil =>
    unfold plnF at h
    by_cases q : c ∈ wsL
    · rw [if_pos q] at h; exact .inl ⟨q, (Option.some.inj h).symm⟩
    · rw [if_neg q] at h; cases h
  | cons d r =>
    unfold plnF at h
    by_cases q : c ∈ wsL
    · rw [if_pos q] at h; exact .inl ⟨q, (Option.some.inj h).symm⟩
    · rw [if_neg q] at h
      by_cases q2 : c = 92
      · rw [if_pos q2] at h; exact .inr (.inl ⟨q, q2, d, r, rfl, h⟩)
      · rw [if_neg q2] at h; exact .inr (.inr ⟨q, q2, h⟩)
theorem wrd_step {text : List Nat} {w : List Nat × List Nat} (h : wrdF text = some w) : ∃ c, text[0]? = some c ∧ c ∉ wsL ∧ ((c = 34 ∧ quoF (text.drop 1) [] = some w) ∨ (c ≠ 34 ∧ c = 92 ∧ ∃ d, text[1]? = some d ∧ plnF (text.drop 2) [d] = some w) ∨ (c ≠ 34 ∧ c ≠ 92 ∧ plnF (text.drop 1) [c] = some w)) := by
  match text, h with
  | c :: d :: r, h =>
    replace h : (if c ∈ wsL then none else if c = 34 then quoF (d :: r) [] else if c = 92 then plnF r [d] else plnF (d :: r) [c]) = some w := h
    refine ⟨c, rfl, ?_⟩
    by_cases q : c ∈ wsL
    · rw [if_pos q] at h; cases h
    · rw [if_neg q] at h
      refine ⟨q, ?_⟩
      by_cases q1 : c = 34
      · rw [if_pos q1] at h; exact .inl ⟨q1, h⟩
      · rw [if_neg q1] at h
        by_cases q2 : c = 92
        · rw [if_pos q2] at h; exact .inr (.inl ⟨q1, q2, d, rfl, h⟩)
        · rw [if_neg q2] at h; exact .inr (.inr ⟨q1, q2, h⟩)
theorem eq34 (c : Nat) : (mkS [c] == Str.ofString "\"") = decide (c = 34) := by
  rw [show Str.ofString "\"" = mkS [34] by decide, Bool.eq_iff_iff, beq_iff_eq, decide_eq_true_iff]
  exact ⟨fun e => by have := mkS_inj e; simpa using this, fun e => e ▸ rfl⟩
theorem eq92 (c : Nat) : (mkS [c] == Str.ofString "\\") = decide (c = 92) := by
  rw [show Str.ofString "\\" = mkS [92] by decide, Bool.eq_iff_iff, beq_iff_eq, decide_eq_true_iff]
  exact ⟨fun e => by have := mkS_inj e; simpa using this, fun e => e ▸ rfl⟩
set_option maxHeartbeats 4000000 in
/-- the first word -/
theorem fn_token_word (O : C.Ok) {a : LA} {text : List Nat} (lc : LexC C a text) {H : Hp} (h : LexH a text H 0 (lnAt text 0) []) {w : List Nat} (hw : wrdF text = some (w, [])) :
    Fn C 42 4 [.ref a.x] H fun v H' => v = .str (mkS w) ∧ LexH a text H' text.length (lnAt text text.length) [] ∧ Keep [a.dx, a.atL] H H' := by
  refine Fn_def O [Str.ofString "self"] rfl (by rfl) (fun vs hv => ?_) rfl (by decide) (by decide) (by decide) (fun A L RR => ?_) rfl rfl rfl
  · obtain ⟨x, rfl⟩ := vs1 hv; rfl
  have hsz := lc.sz
  refine ea2_9 (h.ins) fun k m I hk r1 r2 r3 r4 r5 r6 r7 => ?_
  repeat (walk_at "M")
  refine OG_own O I r4 rfl rfl ?_
  refine O_truthL h.pb ?_ (by simp)
  refine ⟨fun hc => absurd hc Bool.false_ne_true, fun _ => ?_⟩
  repeat (walk_at "m")
  refine X_cons (S_Assign (W_strT [] (by decide) ?_))
  repeat (walk_at "M")
  refine OG_bound O I r7 rfl rfl rfl rfl rfl fun q hq => ?_
  refine L_cons (W_strT [] (by decide) (L_nil ?_))
  refine K_iter2 (f := 35) (x := a.x) (Hp.put_self ..) fun J t hJ => ?_
  refine ea0_2 (Hp.put_none hJ) fun nJq hJ => ?_
  repeat (walk_at "M")
  have h2 : LexI a text J q t H ((H.put q (.raw (methodObj (.ref 35) (.ref a.x)))).put J (.raw (citObj q t))) 0 := ⟨(h.sub (Sub.put hq)).sub (Sub.put (Hp.none_ne nJq hJ)), Hp.put_self .., Hp.get_ne (Ne.symm nJq) (Hp.put_self ..), fun b y e n => Hp.get_ne (ne_of_own e hJ) (Hp.get_ne (ne_of_own e hq) e)⟩
  generalize (H.put q (.raw (methodObj (.ref 35) (.ref a.x)))).put J (.raw (citObj q t)) = H2 at *
  have okI : ∀ {H' : Hp} {pos : Nat}, LexI a text J q t H H' pos → (∃ ob nm, H' J = some (.raw ob) ∧ ob.cls = .type nm ∧ okIter nm = true) := fun hi => ⟨_, _, hi.it, rfl, by decide⟩
  refine ea1_3 (wrd_step hw) fun c₀ hc0 hcw hcase => ?_
  have hlen0 : 0 < text.length := (List.getElem?_eq_some_iff.mp hc0).1
  refine F_citN [Str.ofString "self", Str.ofString "token", Str.ofString "fiter"] h2.it (fun k H' vs => vs = [.ref a.x, .str (mkS []), .ref J] ∧ LexI a text J q t H H' 0) ?_ 0 [.ref a.x, .str (mkS []), .ref J] ⟨rfl, rfl, rfl, trivial⟩ ⟨rfl, h2⟩
  intro k H' vs zz
  refine ea0_2 zz fun qq0 hi => ?_
  subst qq0
  (try clear zz)
  refine NX_lex O lc RR h hJ hi (fun c H3 e hi3 => ?_) fun H3 e _ _ => by lia
  have : c = c₀ := by rw [hc0] at e; exact (Option.some.inj e).symm
  subst this
  clear e
  refine ea2_9 (hi3.lex.ins) fun k3 m3 I3 _ _ _ s3 s4 _ _ s7 => ?_
  refine ⟨okI hi3, ?_⟩
  repeat (walk_at "M")
  refine OG_own O I3 s3 rfl rfl (C_inT ?_)
  rw [decide_eq_false hcw]
  repeat (walk_at "M")
  rw [eq34]
  refine ⟨fun hc => ?_, fun hc => ?_⟩
  · have hc := of_decide_eq_true hc
    have hq1 : quoF (text.drop 1) [] = some (w, []) := by
      rcases hcase with ⟨_, z⟩ | ⟨z, _⟩ | ⟨z, _⟩
      · exact z
      · exact absurd hc z
      · exact absurd hc z
    repeat (walk_at "M")
    refine F_citN [Str.ofString "self", Str.ofString "token", Str.ofString "fiter"] hi3.it (fun k H' vs => ∃ pos tok, k = text.length - pos ∧ vs = [.ref a.x, .str (mkS tok), .ref J] ∧ LexI a text J q t H H' pos ∧ quoF (text.drop pos) tok = some (w, []) ∧ tok.length ≤ pos) ?_ (text.length - 1) [.ref a.x, .str (mkS []), .ref J] ⟨rfl, rfl, rfl, trivial⟩ ⟨1, [], rfl, rfl, hi3, hq1, by simp⟩
    intro k H' vs zz
    refine ea2_5 zz fun pos tok qq2 qq3 hi hq htl => ?_
    subst qq2 qq3
    (try clear zz)
    refine NX_lex O lc RR h hJ hi (fun c H4 e hi4 => ?_) fun H4 e _ _ => (by rw [e, List.drop_length] at hq; cases hq)
    have hps : pos < text.length := (List.getElem?_eq_some_iff.mp e).1
    rw [drop_some e] at hq
    refine ea2_9 (hi4.lex.ins) fun k4 m4 I4 _ _ _ t3 t4 _ _ t7 => ?_
    refine ⟨okI hi4, ?_⟩
    repeat (walk_at "M")
    rw [eq34]
    rcases quo_step hq with ⟨q1, q2⟩ | ⟨q1, q2, d, r', q3, q4⟩ | ⟨q1, q2, q3⟩
    · rw [decide_eq_true q1]
      repeat (walk_at "M")
      injection q2 with q2 q3
      subst q2
      have hpl : pos + 1 = text.length := by
        have := congrArg List.length q3
        simp only [List.length_nil, List.length_drop] at this
        lia
      rw [hpl] at hi4
      exact ⟨rfl, hi4.lex, hi4.keep⟩
    · rw [decide_eq_false q1]
      repeat (walk_at "M")
      rw [eq92, decide_eq_true q2]
      repeat (walk_at "M")
      refine ea0_2 (some_drop q3) fun e2 qq1 => ?_
      subst qq1
      refine OM_cls O I4 t7 rfl rfl ?_
      repeat (walk_at "M")
      refine OC_FnC (read_I O lc h hi4 e2) (RR.less (by decide)) fun v H5 z => ?_
      refine ea0_2 z fun qq0 hi5 => ?_
      subst qq0
      (try clear z)
      have hps2 : pos + 1 < text.length := (List.getElem?_eq_some_iff.mp e2).1
      repeat (walk_at "M")
      refine I_addT ?_ (by simp; lia)
      repeat (walk_at "M")
      exact ⟨text.length - (pos + 2), [.ref a.x, .str (mkS (tok ++ [d])), .ref J], by lia, ⟨rfl, rfl, rfl, trivial⟩, pos + 2, tok ++ [d], rfl, rfl, hi5, q4, by simp; lia⟩
    · rw [decide_eq_false q1]
      repeat (walk_at "M")
      rw [eq92, decide_eq_false q2]
      repeat (walk_at "M")
      refine I_addT ?_ (by simp; lia)
      repeat (walk_at "M")
      exact ⟨text.length - (pos + 1), [.ref a.x, .str (mkS (tok ++ [c])), .ref J], by lia, ⟨rfl, rfl, rfl, trivial⟩, pos + 1, tok ++ [c], rfl, rfl, hi4, q3, by simp; lia⟩
  · have hc := of_decide_eq_false hc
    repeat (walk_at "m")
    refine X_cons (W.mono (Q := fun (f : MFl) H5 lv5 => f = MFl.next ∧ ∃ pos d, AllAt lv5 [Str.ofString "self", Str.ofString "token", Str.ofString "fiter", Str.ofString "ch"] [.ref a.x, .str (mkS []), .ref J, .str (mkS [d])] ∧ LexI a text J q t H H5 pos ∧ plnF (text.drop pos) [d] = some (w, []) ∧ 1 ≤ pos) ?_ ?_)
    · repeat (walk_at "M")
      rw [eq92]
      rcases hcase with ⟨z, _⟩ | ⟨_, z, d, e2, hp⟩ | ⟨_, z, hp⟩
      · exact absurd z hc
      · rw [decide_eq_true z]
        repeat (walk_at "M")
        refine OM_cls O I3 s7 rfl rfl ?_
        repeat (walk_at "M")
        refine OC_FnC (read_I O lc h hi3 e2) (RR.less (by decide)) fun v H5 z => ?_
        refine ea0_2 z fun qq0 hi5 => ?_
        subst qq0
        (try clear z)
        repeat (walk_at "M")
        exact ⟨rfl, 2, d, ⟨rfl, rfl, rfl, rfl, trivial⟩, hi5, hp, by decide⟩
      · rw [decide_eq_false z]
        repeat (walk_at "M")
        exact ⟨rfl, 1, c, ⟨rfl, rfl, rfl, rfl, trivial⟩, hi3, hp, by decide⟩
    · rintro f H5 lv5 ⟨rfl, pos5, d5, ha5, hi5, hp5, hle5⟩
      refine ⟨fun _ => W.lessL ?_ (lvOf_sub _ _ ha5), fun z => absurd rfl z⟩
      repeat (walk_at "M")
      refine I_addT ?_ (by simp)
      repeat (walk_at "M")
      refine F_citN [Str.ofString "self", Str.ofString "token", Str.ofString "fiter"] hi5.it (fun k H' vs => ∃ pos tok, k = text.length - pos ∧ vs = [.ref a.x, .str (mkS tok), .ref J] ∧ LexI a text J q t H H' pos ∧ plnF (text.drop pos) tok = some (w, []) ∧ tok.length ≤ pos) ?_ (text.length - pos5) [.ref a.x, .str (mkS [d5]), .ref J] ⟨rfl, rfl, rfl, trivial⟩ ⟨pos5, [d5], rfl, rfl, hi5, hp5, by simpa using hle5⟩
      intro k H' vs zz
      refine ea2_5 zz fun pos tok qq2 qq3 hi hq htl => ?_
      subst qq2 qq3
      (try clear zz)
      refine NX_lex O lc RR h hJ hi (fun c H4 e hi4 => ?_) fun H4 e _ _ => (by rw [e, List.drop_length] at hq; cases hq)
      have hps : pos < text.length := (List.getElem?_eq_some_iff.mp e).1
      rw [drop_some e] at hq
      refine ea2_9 (hi4.lex.ins) fun k4 m4 I4 _ _ _ t3 t4 _ _ t7 => ?_
      refine ⟨okI hi4, ?_⟩
      repeat (walk_at "M")
      refine OG_own O I4 t3 rfl rfl (C_inT ?_)
      repeat (walk_at "M")
      rcases pln_step hq with ⟨q1, q2⟩ | ⟨q1, q2, d, r', q3, q4⟩ | ⟨q1, q2, q3⟩
      · rw [decide_eq_true q1]
        repeat (walk_at "M")
        injection q2 with q2 q3
        subst q2
        have hpl : pos + 1 = text.length := by
          have := congrArg List.length q3
          simp only [List.length_nil, List.length_drop] at this
          lia
        rw [hpl] at hi4
        exact ⟨rfl, hi4.lex, hi4.keep⟩
      · rw [decide_eq_false q1]
        repeat (walk_at "M")
        rw [eq92, decide_eq_true q2]
        repeat (walk_at "M")
        refine ea0_2 (some_drop q3) fun e2 qq1 => ?_
        subst qq1
        refine OM_cls O I4 t7 rfl rfl ?_
        repeat (walk_at "M")
        refine OC_FnC (read_I O lc h hi4 e2) (RR.less (by decide)) fun v H5 z => ?_
        refine ea0_2 z fun qq0 hi5 => ?_
        subst qq0
        (try clear z)
        have hps2 : pos + 1 < text.length := (List.getElem?_eq_some_iff.mp e2).1
        repeat (walk_at "M")
        refine I_addT ?_ (by simp; lia)
        repeat (walk_at "M")
        exact ⟨text.length - (pos + 2), [.ref a.x, .str (mkS (tok ++ [d])), .ref J], by lia, ⟨rfl, rfl, rfl, trivial⟩, pos + 2, tok ++ [d], rfl, rfl, hi5, q4, by simp; lia⟩
      · rw [decide_eq_false q1]
        repeat (walk_at "M")
        rw [eq92, decide_eq_false q2]
        repeat (walk_at "M")
        refine I_addT ?_ (by simp; lia)
        repeat (walk_at "M")
        exact ⟨text.length - (pos + 1), [.ref a.x, .str (mkS (tok ++ [c])), .ref J], by lia, ⟨rfl, rfl, rfl, trivial⟩, pos + 1, tok ++ [c], rfl, rfl, hi4, q3, by simp; lia⟩
  
end
section
variable {C : Cx}
/-! ### one round -/
noncomputable abbrev RS := List (Str × Int) × List Str
noncomputable def rlx (G : Str → Int → Str) (row : Str) (b : Int) (s : RS) (d : Int × Int) : RS :=
  if b + d.2 < (ilook s.1 (G row d.1)).getD (b + d.2 + 1) then (iput s.1 (G row d.1) (b + d.2), if G row d.1 ∉ s.2 then s.2 ++ [G row d.1] else s.2) else s
noncomputable def rowS (G : Str → Int → Str) (ds : List (Int × Int)) (c0 : List (Str × Int)) (s : RS) (row : Str) : RS := ds.foldl (rlx G row ((ilook c0 row).getD 0)) s
noncomputable def rndS (G : Str → Int → Str) (ds : List (Int × Int)) (c0 : List (Str × Int)) (q : List Str) : RS := q.foldl (rowS G ds c0) (c0, [])
/-- the rows, and where deeds lead, by the law's tables -/
structure Led (nl : List (Int × MV)) (ml : List (Str × MV)) (ds : List (Int × Int)) (G : Str → Int → Str) (V : Str → Prop) : Prop where
  ne : ∀ r, V r → r ≠ Str.ofString ""
  to : ∀ r, V r → ∀ d ∈ ds, ∃ m, dget ml r = some (.int m) ∧ dget nl (ledM m d.1) = some (.str (G r d.1)) ∧ V (G r d.1)
theorem rlx_len {G : Str → Int → Str} {row : Str} {b : Int} {s : RS} {d : Int × Int} : (rlx G row b s d).1.length ≤ s.1.length + 1 ∧ (rlx G row b s d).2.length ≤ s.2.length + 1 := by
  unfold rlx
  split
  · refine ⟨iput_length .., ?_⟩
    dsimp only
    split <;> simp
  · exact ⟨by lia, by lia⟩
theorem rlx_len' {G : Str → Int → Str} {row : Str} {b : Int} : ∀ (ds : List (Int × Int)) (s : RS), (ds.foldl (rlx G row b) s).1.length ≤ s.1.length + ds.length ∧ (ds.foldl (rlx G row b) s).2.length ≤ s.2.length + ds.length
  | [], s => by simp
  | d :: ds, s => by
    have h1 := rlx_len (G := G) (row := row) (b := b) (s := s) (d := d)
    have h2 := rlx_len' (G := G) (row := row) (b := b) ds (rlx G row b s d)
    simp only [List.foldl_cons, List.length_cons]
    lia
theorem rowS_len {G : Str → Int → Str} {ds : List (Int × Int)} {c0 : List (Str × Int)} : ∀ (q : List Str) (s : RS), (q.foldl (rowS G ds c0) s).1.length ≤ s.1.length + q.length * ds.length ∧ (q.foldl (rowS G ds c0) s).2.length ≤ s.2.length + q.length * ds.length
  | [], s => by simp
  | r :: q, s => by
    have h1 := rlx_len' (G := G) (row := r) (b := (ilook c0 r).getD 0) ds s
    have h2 := rowS_len (G := G) (ds := ds) (c0 := c0) q (rowS G ds c0 s r)
    simp only [List.foldl_cons, List.length_cons, Nat.add_mul, Nat.one_mul]
    unfold rowS at h2 ⊢
    lia
theorem LexH.del {a : LA} {text : List Nat} {H : Hp} {pos : Nat} {ln : Int} {pb : List Str} {d : Addr} {l : List MV} (h : LexH a text H pos ln pb) (e : H d = some (.list l)) (n1' : a.p ≠ d) (n2' : a.atL ≠ d) : LexH a text (H.del d) pos ln pb := by
  obtain ⟨⟨k, m, ⟨i1, i2⟩, i3⟩, ⟨k2, m2, ⟨j1, j2⟩, j3⟩, p1, p2, ⟨f1, f2, f3, f4⟩, le, n1, n2⟩ := h
  exact ⟨⟨k, m, ⟨Hp.get_del (ne_kind i1 e (by simp)) i1, Hp.get_del (ne_kind i2 e (by simp)) i2⟩, i3⟩, ⟨k2, m2, ⟨Hp.get_del (ne_kind j1 e (by simp)) j1, Hp.get_del (ne_kind j2 e (by simp)) j2⟩, j3⟩, Hp.get_del n1' p1, Hp.get_del n2' p2,
    ⟨Hp.get_del (ne_kind f1 e (by simp)) f1, Hp.get_del (ne_kind f2 e (by simp)) f2, Hp.get_del (ne_kind f3 e (by simp)) f3, Hp.get_del (ne_kind f4 e (by simp)) f4⟩, le, n1, n2⟩
theorem LexH.setSd {a : LA} {text : List Nat} {H : Hp} {pos : Nat} {ln : Int} {pb : List Str} {d : Addr} {l l' : List (Str × MV)} (h : LexH a text H pos ln pb) (e : H d = some (.sd l)) : LexH a text (H.put d (.sd l')) pos ln pb := by
  obtain ⟨⟨k, m, ⟨i1, i2⟩, i3⟩, ⟨k2, m2, ⟨j1, j2⟩, j3⟩, p1, p2, ⟨f1, f2, f3, f4⟩, le, n1, n2⟩ := h
  exact ⟨⟨k, m, ⟨Hp.get_ne (ne_kind i1 e (by simp)) i1, Hp.get_ne (ne_kind i2 e (by simp)) i2⟩, i3⟩, ⟨k2, m2, ⟨Hp.get_ne (ne_kind j1 e (by simp)) j1, Hp.get_ne (ne_kind j2 e (by simp)) j2⟩, j3⟩, Hp.get_ne (ne_kind p1 e (by simp)) p1, Hp.get_ne (ne_kind p2 e (by simp)) p2,
    ⟨Hp.get_ne (ne_kind f1 e (by simp)) f1, Hp.get_ne (ne_kind f2 e (by simp)) f2, Hp.get_ne (ne_kind f3 e (by simp)) f3, Hp.get_ne (ne_kind f4 e (by simp)) f4⟩, le, n1, n2⟩
theorem LexH.setList {a : LA} {text : List Nat} {H : Hp} {pos : Nat} {ln : Int} {pb : List Str} {d : Addr} {l l' : List MV} (h : LexH a text H pos ln pb) (e : H d = some (.list l)) (n1' : a.p ≠ d) (n2' : a.atL ≠ d) : LexH a text (H.put d (.list l')) pos ln pb := by
  obtain ⟨⟨k, m, ⟨i1, i2⟩, i3⟩, ⟨k2, m2, ⟨j1, j2⟩, j3⟩, p1, p2, ⟨f1, f2, f3, f4⟩, le, n1, n2⟩ := h
  exact ⟨⟨k, m, ⟨Hp.get_ne (ne_kind i1 e (by simp)) i1, Hp.get_ne (ne_kind i2 e (by simp)) i2⟩, i3⟩, ⟨k2, m2, ⟨Hp.get_ne (ne_kind j1 e (by simp)) j1, Hp.get_ne (ne_kind j2 e (by simp)) j2⟩, j3⟩, Hp.get_ne n1' p1, Hp.get_ne n2' p2,
    ⟨Hp.get_ne (ne_kind f1 e (by simp)) f1, Hp.get_ne (ne_kind f2 e (by simp)) f2, Hp.get_ne (ne_kind f3 e (by simp)) f3, Hp.get_ne (ne_kind f4 e (by simp)) f4⟩, le, n1, n2⟩
theorem LexH.putBack {a : LA} {text : List Nat} {H0 H : Hp} {pos pos0 : Nat} {ln ln0 : Int} {pb pb0 : List Str} {d : Addr} {l : List MV} {y : MObj} (h0 : LexH a text H0 pos0 ln0 pb0) (e : H0 d = some (.list l)) (n1' : a.p ≠ d) (n2' : a.atL ≠ d) (h : LexH a text H pos ln pb) : LexH a text (H.put d y) pos ln pb := by
  obtain ⟨⟨k, m, ⟨i1, i2⟩, i3⟩, ⟨k2, m2, ⟨j1, j2⟩, j3⟩, p1, p2, ⟨f1, f2, f3, f4⟩, le, n1, n2⟩ := h
  obtain ⟨⟨_, _, ⟨i1', i2'⟩, _⟩, ⟨_, _, ⟨j1', j2'⟩, _⟩, p1', p2', ⟨f1', f2', f3', f4'⟩, _, _, _⟩ := h0
  exact ⟨⟨k, m, ⟨Hp.get_ne (ne_kind i1' e (by simp)) i1, Hp.get_ne (ne_kind i2' e (by simp)) i2⟩, i3⟩, ⟨k2, m2, ⟨Hp.get_ne (ne_kind j1' e (by simp)) j1, Hp.get_ne (ne_kind j2' e (by simp)) j2⟩, j3⟩, Hp.get_ne n1' p1, Hp.get_ne n2' p2,
    ⟨Hp.get_ne (ne_kind f1' e (by simp)) f1, Hp.get_ne (ne_kind f2' e (by simp)) f2, Hp.get_ne (ne_kind f3' e (by simp)) f3, Hp.get_ne (ne_kind f4' e (by simp)) f4⟩, le, n1, n2⟩
set_option maxHeartbeats 4000000 in
theorem fn_round (O : C.Ok) {a : LA} {text : List Nat} {H : Hp} {pos : Nat} {ln : Int} {q : List Str} {ca da na ma : Addr} {c0 : List (Str × Int)} {ds : List (Int × Int)} {nl : List (Int × MV)} {ml : List (Str × MV)} {G : Str → Int → Str} {V : Str → Prop}
    (h : LexH a text H pos ln (q ++ [Str.ofString ""])) (hc : H ca = some (.sd (iVals c0))) (hd : H da = some (.list (ds.map dP))) (hn : H na = some (.idd nl)) (hm : H ma = some (.sd ml)) (hmc : ma ≠ ca) (hdp : a.p ≠ da) (hda : a.atL ≠ da)
    (Ld : Led nl ml ds G V) (hq : ∀ r ∈ q, V r ∧ ∃ i, ilook c0 r = some i) (hql : q.length < 40) (hcl : c0.length ≤ 1000) (hdl : ds.length ≤ 4) :
    Fn C 188 3 [.ref a.x, .ref ca, .ref da, .ref na, .ref ma] H fun v H' => ∃ fa, v = .ref fa ∧ H fa = none ∧ H' fa = some (.list ((rndS G ds c0 q).2.map .str)) ∧ H' ca = some (.sd (iVals (rndS G ds c0 q).1)) ∧ LexH a text H' pos ln (rndS G ds c0 q).2 ∧ Keep [ca, a.p] H H' := by
  refine Fn_def O [Str.ofString "queue", Str.ofString "costs", Str.ofString "deeds", Str.ofString "names", Str.ofString "modes"] rfl (by rfl) (fun vs hv => ?_) rfl (by decide) (by decide) (by decide) (fun A L RR => ?_) rfl rfl rfl
  · obtain ⟨x, y, z, u, w, rfl⟩ := vs5 hv; rfl
  have hh := RR.handled
  repeat (walk_at "M")
  refine K_dictS hc (by simp [iVals]; lia) fun ba hb => ?_
  repeat (walk_at "M")
  intro fa hfa
  refine ea0_2 (Hp.put_none hfa) fun nfb hfa => ?_
  repeat (walk_at "M")
  refine K_range1 ?_
  refine F_rngN [Str.ofString "queue", Str.ofString "costs", Str.ofString "deeds", Str.ofString "names", Str.ofString "modes", Str.ofString "before", Str.ofString "fresh"] 40 hh (by decide) (by decide) (by decide)
    (fun i H' vs => vs = [.ref a.x, .ref ca, .ref da, .ref na, .ref ma, .ref ba, .ref fa] ∧ i ≤ q.length ∧ ∃ s : RS, s = (q.take i).foldl (rowS G ds c0) (c0, []) ∧ H' ba = some (.sd (iVals c0)) ∧ H' fa = some (.list (s.2.map .str)) ∧ H' ca = some (.sd (iVals s.1)) ∧ LexH a text H' pos ln (q.drop i ++ Str.ofString "" :: s.2) ∧ Keep [ca, a.p] H H') ?_ [.ref a.x, .ref ca, .ref da, .ref na, .ref ma, .ref ba, .ref fa] ⟨rfl, rfl, rfl, rfl, rfl, rfl, rfl, trivial⟩ ⟨rfl, Nat.zero_le _, (c0, []), rfl, ?_, ?_, ?_, ?_, ?_⟩ ?_
  · rintro i H' vs hi ⟨rfl, hiq, s, hs, eb, ef, ec, hl, hk⟩
    have hlen := rowS_len (G := G) (ds := ds) (c0 := c0) (q.take i) (c0, [])
    rw [← hs, List.length_take] at hlen
    have hmul : min i q.length * ds.length ≤ 40 * 4 := Nat.mul_le_mul (by lia) hdl
    have hs1 : s.1.length ≤ 1160 := by have := hlen.1; dsimp only at this; lia
    have hs2 : s.2.length ≤ 160 := by have := hlen.2; simp only [List.length_nil] at this; lia
    have ed : H' da = some (.list (ds.map dP)) := hk _ _ hd (by
      simp only [List.mem_cons, List.not_mem_nil, or_false, not_or]
      exact ⟨ne_kind hd hc (by simp), Ne.symm hdp⟩)
    have en : H' na = some (.idd nl) := hk _ _ hn (by
      simp only [List.mem_cons, List.not_mem_nil, or_false, not_or]
      exact ⟨ne_kind hn hc (by simp), ne_kind hn h.pb (by simp)⟩)
    have em : H' ma = some (.sd ml) := hk _ _ hm (by
      simp only [List.mem_cons, List.not_mem_nil, or_false, not_or]
      exact ⟨hmc, ne_kind hm h.pb (by simp)⟩)
    have nfp : fa ≠ a.p := Ne.symm (ne_of_own h.pb hfa)
    have nbp : ba ≠ a.p := Ne.symm (ne_of_own h.pb hb)
    have nfc : fa ≠ ca := Ne.symm (ne_of_own hc hfa)
    have nbc : ba ≠ ca := Ne.symm (ne_of_own hc hb)
    have nfd : fa ≠ da := Ne.symm (ne_of_own hd hfa)
    have nbd : ba ≠ da := Ne.symm (ne_of_own hd hb)
    have ncd : ca ≠ da := ne_kind hc hd (by simp)
    have ncp : ca ≠ a.p := ne_kind hc h.pb (by simp)
    have nfL : a.atL ≠ fa := ne_of_own h.at_ hfa
    refine ea2_9 (hl.ins) fun k m I _ r1 r2 r3 r4 r5 r6 r7 => ?_
    rcases Nat.lt_or_ge i q.length with hlt | hge
    · have hqi := hq q[i] (List.getElem_mem hlt)
      rw [List.drop_eq_getElem_cons hlt] at hl
      have htk : (q.take (i + 1)).foldl (rowS G ds c0) (c0, []) = rowS G ds c0 s q[i] := by
        rw [hs, List.take_succ_eq_append_getElem hlt, List.foldl_append]; rfl
      generalize q[i] = row at *
      obtain ⟨hV, b, hb0⟩ := hqi
      have hrow := Ld.ne row hV
      have hb1 : (ilook c0 row).getD 0 = b := by rw [hb0]; rfl
      repeat (walk_at "M")
      refine OM_cls O I r6 rfl rfl ?_
      repeat (walk_at "M")
      refine OC_Fn (fn_token_pop O hl (by simp; lia)) (RR.less (by decide)) fun v H2 z => ?_
      refine ea0_2 z fun qq0 qq1 => ?_
      subst qq0 qq1
      (try clear z)
      have hl2 := hl.setPb (q.drop (i + 1) ++ Str.ofString "" :: s.2)
      have eb2 : (H'.put a.p (.list ((q.drop (i + 1) ++ Str.ofString "" :: s.2).map .str))) ba = some (.sd (iVals c0)) := by walk_at "hp"
      have ef2 : (H'.put a.p (.list ((q.drop (i + 1) ++ Str.ofString "" :: s.2).map .str))) fa = some (.list (s.2.map .str)) := by walk_at "hp"
      have ec2 : (H'.put a.p (.list ((q.drop (i + 1) ++ Str.ofString "" :: s.2).map .str))) ca = some (.sd (iVals s.1)) := by walk_at "hp"
      have ed2 : (H'.put a.p (.list ((q.drop (i + 1) ++ Str.ofString "" :: s.2).map .str))) da = some (.list (ds.map dP)) := by walk_at "hp"
      have hk2 : Keep [ca, a.p] H (H'.put a.p (.list ((q.drop (i + 1) ++ Str.ofString "" :: s.2).map .str))) := hk.trans (Keep.put (by simp))
      generalize H'.put a.p (.list ((q.drop (i + 1) ++ Str.ofString "" :: s.2).map .str)) = H2 at *
      clear hl hk eb ef ec ed en em I r1 r2 r3 r4 r5 r6 r7
      repeat (walk_at "M")
      refine ⟨fun hcc => absurd (eq_of_beq hcc) hrow, fun _ => ?_⟩
      repeat (walk_at "M")
      refine F_list hh (l := ds.map dP) ed2 ?_
      refine ForW_N [Str.ofString "queue", Str.ofString "costs", Str.ofString "deeds", Str.ofString "names", Str.ofString "modes", Str.ofString "before", Str.ofString "fresh", Str.ofString "row"] dP
        (fun j H' vs => vs = [.ref a.x, .ref ca, .ref da, .ref na, .ref ma, .ref ba, .ref fa, .str row] ∧ ∃ s' : RS, s' = (ds.take j).foldl (rlx G row b) s ∧ H' ba = some (.sd (iVals c0)) ∧ H' fa = some (.list (s'.2.map .str)) ∧ H' ca = some (.sd (iVals s'.1)) ∧ LexH a text H' pos ln (q.drop (i + 1) ++ Str.ofString "" :: s'.2) ∧ Keep [ca, a.p, da] H H') ds ?_
        [.ref a.x, .ref ca, .ref da, .ref na, .ref ma, .ref ba, .ref fa, .str row] ⟨rfl, rfl, rfl, rfl, rfl, rfl, rfl, rfl, trivial⟩ ⟨rfl, s, rfl, Hp.get_del nbd eb2, Hp.get_del nfd ef2, Hp.get_del ncd ec2, hl2.del ed2 hdp hda, ?_⟩ ?_
      · rintro j H' vs hj ⟨rfl, s', hs', eb, ef, ec, hl, hk⟩
        have hlen' := rlx_len' (G := G) (row := row) (b := b) (ds.take j) s
        rw [← hs', List.length_take] at hlen'
        have en : H' na = some (.idd nl) := hk _ _ hn (by
          simp only [List.mem_cons, List.not_mem_nil, or_false, not_or]
          exact ⟨ne_kind hn hc (by simp), ne_kind hn h.pb (by simp), ne_kind hn hd (by simp)⟩)
        have em : H' ma = some (.sd ml) := hk _ _ hm (by
          simp only [List.mem_cons, List.not_mem_nil, or_false, not_or]
          exact ⟨hmc, ne_kind hm h.pb (by simp), ne_kind hm hd (by simp)⟩)
        have hst : (ds.take (j + 1)).foldl (rlx G row b) s = rlx G row b s' ds[j] := by
          rw [hs', List.take_succ_eq_append_getElem hj, List.foldl_append]; rfl
        refine ea1_3 (Ld.to row hV ds[j] (List.getElem_mem hj)) fun mm e1 e2 e3 => ?_
        generalize ds[j] = d at *
        refine ea2_9 (hl.ins) fun k m I _ r1 r2 r3 r4 r5 r6 r7 => ?_
        repeat (walk_at "M")
        refine OC_Fn (fn_led O en em e1) (RR.less (by decide)) fun v H9 z => ?_
        refine ea0_2 z fun qq0 qq1 => ?_
        subst qq0 qq1
        (try clear z)
        rw [e2, Option.getD_some]
        repeat (walk_at "M")
        refine ⟨fun hcc => absurd hcc Bool.false_ne_true, fun _ => ?_⟩
        repeat (walk_at "M")
        refine G_dictS eb (by rw [dget_look, hb0]; rfl) ?_
        repeat (walk_at "M")
        refine M_getS ec ?_
        repeat (walk_at "M")
        refine K_getS ec ?_
        have eg : (dget (iVals s'.1) (G row d.1)).getD (.int (b + d.2 + 1)) = .int ((ilook s'.1 (G row d.1)).getD (b + d.2 + 1)) := by
          rw [dget_look]; cases ilook s'.1 (G row d.1) <;> rfl
        rw [eg]
        repeat (walk_at "M")
        refine ⟨fun hcc => ?_, fun hcc => ?_⟩
        · have hcc := of_decide_eq_true hcc
          repeat (walk_at "M")
          refine I_dictS ec (by simp only [iVals, List.length_map]; lia) ?_
          rw [dput_put]
          have hl3 := hl.setSd (l' := iVals (iput s'.1 (G row d.1) (b + d.2))) ec
          have eb3 : (H9.put ca (.sd (iVals (iput s'.1 (G row d.1) (b + d.2))))) ba = some (.sd (iVals c0)) := Hp.get_ne nbc eb
          have ef3 : (H9.put ca (.sd (iVals (iput s'.1 (G row d.1) (b + d.2))))) fa = some (.list (s'.2.map .str)) := Hp.get_ne nfc ef
          have ec3 : (H9.put ca (.sd (iVals (iput s'.1 (G row d.1) (b + d.2))))) ca = some (.sd (iVals (iput s'.1 (G row d.1) (b + d.2)))) := Hp.put_self ..
          have hk3 : Keep [ca, a.p, da] H (H9.put ca (.sd (iVals (iput s'.1 (G row d.1) (b + d.2))))) := hk.trans (Keep.put List.mem_cons_self)
          generalize H9.put ca (.sd (iVals (iput s'.1 (G row d.1) (b + d.2)))) = H3 at *
          have hr1 : (rlx G row b s' d).1 = iput s'.1 (G row d.1) (b + d.2) := by unfold rlx; rw [if_pos hcc]
          repeat (walk_at "M")
          refine C_notInStr ef3 ?_
          repeat (walk_at "M")
          refine ⟨fun hf => ?_, fun hf => ?_⟩
          · have hf := of_decide_eq_true hf
            have hr2 : (rlx G row b s' d).2 = s'.2 ++ [G row d.1] := by unfold rlx; rw [if_pos hcc]; dsimp only; rw [if_pos hf]
            repeat (walk_at "M")
            refine M_append ef3 ?_
            repeat (walk_at "M")
            refine K_append ef3 (by simp; lia) ?_
            have efl : s'.2.map MV.str ++ [.str (G row d.1)] = (s'.2 ++ [G row d.1]).map .str := by simp
            rw [efl]
            have hl4 := hl3.setList (l' := (s'.2 ++ [G row d.1]).map .str) ef3 (Ne.symm nfp) nfL
            have eb4 : (H3.put fa (.list ((s'.2 ++ [G row d.1]).map .str))) ba = some (.sd (iVals c0)) := by walk_at "hp"
            have ef4 : (H3.put fa (.list ((s'.2 ++ [G row d.1]).map .str))) fa = some (.list ((s'.2 ++ [G row d.1]).map .str)) := Hp.put_self ..
            have ec4 : (H3.put fa (.list ((s'.2 ++ [G row d.1]).map .str))) ca = some (.sd (iVals (iput s'.1 (G row d.1) (b + d.2)))) := by walk_at "hp"
            have hk4 : Keep [ca, a.p, da] H (H3.put fa (.list ((s'.2 ++ [G row d.1]).map .str))) := fun x y e n => Hp.get_ne (ne_of_own e hfa) (hk3 x y e n)
            generalize H3.put fa (.list ((s'.2 ++ [G row d.1]).map .str)) = H4 at *
            refine ea2_9 (hl4.ins) fun k m I _ _ _ _ _ r5 _ _ => ?_
            repeat (walk_at "M")
            refine OM_cls O I r5 rfl rfl ?_
            repeat (walk_at "M")
            refine OC_Fn (fn_push O hl4 (by simp; lia)) (RR.less (by decide)) fun v H5 z => ?_
            refine ea0_2 z fun qq0 qq1 => ?_
            subst qq0 qq1
            (try clear z)
            repeat (walk_at "M")
            intro hdn
            refine ⟨[.ref a.x, .ref ca, .ref da, .ref na, .ref ma, .ref ba, .ref fa, .str row], ⟨rfl, rfl, rfl, rfl, rfl, rfl, rfl, rfl, trivial⟩, rfl, rlx G row b s' d, hst.symm, ?_, ?_, ?_, ?_, hk4.trans (Keep.put (by simp))⟩
            · walk_at "hp"
            · rw [hr2]; walk_at "hp"
            · rw [hr1]; walk_at "hp"
            · rw [hr2]
              have := hl4.setPb (q.drop (i + 1) ++ Str.ofString "" :: s'.2 ++ [G row d.1])
              simpa using this
          · have hf := of_decide_eq_false hf
            have hr2 : (rlx G row b s' d).2 = s'.2 := by unfold rlx; rw [if_pos hcc]; dsimp only; rw [if_neg hf]
            repeat (walk_at "M")
            intro hdn
            refine ⟨[.ref a.x, .ref ca, .ref da, .ref na, .ref ma, .ref ba, .ref fa, .str row], ⟨rfl, rfl, rfl, rfl, rfl, rfl, rfl, rfl, trivial⟩, rfl, rlx G row b s' d, hst.symm, eb3, ?_, ?_, ?_, hk3⟩
            · rw [hr2]; exact ef3
            · rw [hr1]; exact ec3
            · rw [hr2]; exact hl3
        · have hcc := of_decide_eq_false hcc
          have hr : rlx G row b s' d = s' := by unfold rlx; rw [if_neg hcc]
          repeat (walk_at "M")
          intro hdn
          exact ⟨[.ref a.x, .ref ca, .ref da, .ref na, .ref ma, .ref ba, .ref fa, .str row], ⟨rfl, rfl, rfl, rfl, rfl, rfl, rfl, rfl, trivial⟩, rfl, rlx G row b s' d, hst.symm, eb, by rw [hr]; exact ef, by rw [hr]; exact ec, by rw [hr]; exact hl, hk⟩
      · exact fun x y e n => Hp.get_del (fun z => n (by simp [z])) (hk2 x y e (fun z => n (by simp only [List.mem_cons, List.not_mem_nil, or_false] at z ⊢; rcases z with z | z <;> simp [z])))
      · rintro H3 vs lv ha ⟨rfl, s', hs', eb, ef, ec, hl, hk⟩
        rw [List.take_length] at hs'
        have hr : rowS G ds c0 s row = s' := by unfold rowS; rw [hb1]; exact hs'.symm
        refine ⟨fun _ => W.lessL ?_ (lvOf_sub _ _ ha), fun z => absurd rfl z⟩
        repeat (walk_at "M")
        refine ⟨[.ref a.x, .ref ca, .ref da, .ref na, .ref ma, .ref ba, .ref fa], ⟨rfl, rfl, rfl, rfl, rfl, rfl, rfl, trivial⟩, rfl, hlt, s', by rw [htk, hr], Hp.get_ne nbd eb, Hp.get_ne nfd ef, Hp.get_ne ncd ec, ?_, ?_⟩
        · exact h.putBack hd hdp hda hl
        · intro x y e n
          by_cases zd : x = da
          · subst zd; rw [hd] at e; rw [Hp.put_self, ← e]
          · exact Hp.get_ne zd (hk x y e (by simp only [List.mem_cons, List.not_mem_nil, or_false, not_or] at n ⊢; exact ⟨n.1, n.2, zd⟩))
    · have hie : i = q.length := by lia
      subst hie
      rw [List.drop_length, List.nil_append] at hl
      rw [List.take_length] at hs
      repeat (walk_at "M")
      refine OM_cls O I r6 rfl rfl ?_
      repeat (walk_at "M")
      refine OC_Fn (fn_token_pop O hl (by lia)) (RR.less (by decide)) fun v H2 z => ?_
      refine ea0_2 z fun qq0 qq1 => ?_
      subst qq0 qq1
      (try clear z)
      repeat (walk_at "M")
      refine ⟨fun _ => ?_, fun hcc => absurd hcc (by simp)⟩
      repeat (walk_at "M")
      have hr : rndS G ds c0 q = s := hs.symm
      rw [hr]
      exact ⟨fa, rfl, hfa, by walk_at "hp", by walk_at "hp", hl.setPb s.2, hk.trans (Keep.put (by simp))⟩
  · exact Hp.get_ne (Ne.symm nfb) (Hp.put_self ..)
  · exact Hp.put_self ..
  · exact Hp.get_ne (ne_of_own hc hfa) (Hp.get_ne (ne_of_own hc hb) hc)
  · exact (h.sub (Sub.put hb)).sub (Sub.put (Hp.none_ne nfb hfa))
  · exact (Keep.new hb).trans (Keep.new (Hp.none_ne nfb hfa))
  · intro H' vs zz
    refine ea0_3 zz fun qq0 hi _ => ?_
    subst qq0
    (try clear zz)
    lia
end
section
variable {C : Cx}
/-- the rounds -/
noncomputable def itS (G : Str → Int → Str) (ds : List (Int × Int)) (first : Str) : Nat → RS
  | 0 => ([(first, 0)], [first])
  | k + 1 => rndS G ds (itS G ds first k).1 (itS G ds first k).2
set_option maxHeartbeats 4000000 in
theorem fn_rounds (O : C.Ok) {H : Hp} {w : List Nat} {m : Int} {da na ma : Addr} {ds : List (Int × Int)} {nl : List (Int × MV)} {ml : List (Str × MV)} {G : Str → Int → Str} {V : Str → Prop}
    (ht : H 190 = some (.raw (tabObj #[]))) (hd : H da = some (.list (ds.map dP))) (hn : H na = some (.idd nl)) (hm : H ma = some (.sd ml))
    (Ld : Led nl ml ds G V) (hdl : ds.length ≤ 4) (hw : w.length ≤ 1000) (ha : ∀ c ∈ w, c < 128) (h0 : 0 ≤ m) (h1 : m < 3) (hwrd : wrdF (wrtL w m) = some (w, [])) (hlen : (wrtL w m).length ≤ 10000) (hln : lnAt (wrtL w m) (wrtL w m).length = 1 + m / 2)
    {K : Nat} (hK1 : 1 ≤ K) (hK6 : K ≤ 6) (hKe : (itS G ds (mkS w) K).2 = []) (hKn : ∀ j, 1 ≤ j → j < K → (itS G ds (mkS w) j).2 ≠ [])
    (hinv : ∀ k, k < K → (∀ r ∈ (itS G ds (mkS w) k).2, V r ∧ ∃ i, ilook (itS G ds (mkS w) k).1 r = some i) ∧ (itS G ds (mkS w) k).2.length < 40 ∧ (itS G ds (mkS w) k).1.length ≤ 1000) :
    FnC C 195 5 [.str (mkS w), .int m, .ref da, .ref na, .ref ma] H fun v H' => ∃ (tl : Addr) (as : List Addr), v = .ref tl ∧ H' tl = some (.list (as.map .ref)) ∧ as.length = K ∧ (∀ j (h : j < as.length), H' as[j] = some (.sd (iVals (itS G ds (mkS w) (j + 1)).1))) ∧ Keep [190] H H' ∧ ∃ ps, H' 190 = some (.raw (tabObj ps)) := by
  refine FnC_cells O [Str.ofString "first", Str.ofString "manner", Str.ofString "deeds", Str.ofString "names", Str.ofString "modes"] (fun L => [(Str.ofString "text", L + 2), (Str.ofString "at", L + 1)]) rfl (by rfl) (fun vs hv => ?_) rfl (by decide) (by decide) (fun L => rfl) (fun L p hp => ?_) (fun A L R hc => ?_) rfl rfl rfl
  · obtain ⟨x, y, z, u, w, rfl⟩ := vs5 hv; rfl
  · simp only [List.mem_cons, List.not_mem_nil, or_false] at hp
    rcases hp with rfl | rfl <;> rfl
  have hh := R.handled
  have hu : A.units < cLine := by have := R.units; lia
  have hc2 : H (L + 2) = none := hc (Str.ofString "text", L + 2) (by simp)
  have hc1 : H (L + 1) = none := hc (Str.ofString "at", L + 1) (by simp)
  show WX C A _ _ ((H.put (L + 1) (.cell none)).put (L + 2) (.cell none)) _ _
  have n12 : L + 1 ≠ L + 2 := Nat.ne_of_lt (Nat.lt_succ_self _)
  repeat (walk_at "M")
  refine OC_Fn (fn_written O hw ha h0 h1) (R.less (by decide)) fun v H1 z => ?_
  refine ea0_2 z fun qq0 qq1 => ?_
  subst qq0 qq1
  (try clear z)
  have hlt : ∀ {P : Prop}, P → P := id
  generalize htx : wrtL w m = text at *
  repeat (walk_at "m")
  refine X_cons ?_
  repeat (walk_at "m")
  intro aL haL
  refine ea0_2 (Hp.put_none haL) fun y1 haL => ?_
  refine ea0_2 (Hp.put_none haL) fun _ haL => ?_
  refine ea0_2 (Hp.put_none haL) fun y2 haL0 => ?_
  repeat (walk_at "m")
  have eAt : ((((((H.put (L + 1) (.cell none)).put (L + 2) (.cell none)).put (L + 2) (.cell (some (.str (mkS text))))).put aL (.list [.int 0])).put (L + 1) (.cell (some (.ref aL))))) (L + 1) = some (.cell (some (.ref aL))) := Hp.put_self ..
  have eTx : ((((((H.put (L + 1) (.cell none)).put (L + 2) (.cell none)).put (L + 2) (.cell (some (.str (mkS text))))).put aL (.list [.int 0])).put (L + 1) (.cell (some (.ref aL))))) (L + 2) = some (.cell (some (.str (mkS text)))) := by walk_at "hp"
  have eL : ((((((H.put (L + 1) (.cell none)).put (L + 2) (.cell none)).put (L + 2) (.cell (some (.str (mkS text))))).put aL (.list [.int 0])).put (L + 1) (.cell (some (.ref aL))))) aL = some (.list [.int 0]) := by walk_at "hp"
  have kA : Sub H ((((((H.put (L + 1) (.cell none)).put (L + 2) (.cell none)).put (L + 2) (.cell (some (.str (mkS text))))).put aL (.list [.int 0])).put (L + 1) (.cell (some (.ref aL))))) := fun b y e => by
    have q1 := ne_of_own e hc1
    have q2 := ne_of_own e hc2
    have q3 := ne_of_own e haL0
    walk_at "hp"
  generalize ((((((H.put (L + 1) (.cell none)).put (L + 2) (.cell none)).put (L + 2) (.cell (some (.str (mkS text))))).put aL (.list [.int 0])).put (L + 1) (.cell (some (.ref aL))))) = HA at *
  have etA := kA _ _ ht
  refine X_cons (S_DefA O etA rfl rfl rfl rfl rfl rfl ?_)
  intro f c' fo oc ps hf hc' nfc nf nc hfd hcall
  have hgive : ∀ (Hx : Hp) (pos : Nat), Hx f = some (.raw fo) ∧ Hx c' = some (.raw oc) ∧ Hx (L + 1) = some (.cell (some (.ref aL))) ∧ Hx (L + 2) = some (.cell (some (.str (mkS text)))) → Hx aL = some (.list [.int pos]) → pos ≤ text.length →
      FnC C f 1 [.int 1] Hx fun v H' => v = .str (mkS ((text.drop pos).take 1)) ∧ H' = Hx.put aL (.list [.int ((min (pos + 1) text.length : Nat) : Int)]) := by
    rintro Hx pos ⟨g1, g2, g3, g4⟩ g5 g6
    refine hcall 0 _ Hx _ [Str.ofString "size"] g1 g2 (fun doc pm ctv vs hv => ?_) rfl (by decide) (by decide) (by decide) (fun A L' RR => ?_) rfl rfl rfl
    · obtain ⟨x, rfl⟩ := vs1 hv; rfl
    refine X_cons (S_Assign (W_SliceS (x := text) (i := pos) (j := pos + 1) ?_))
    repeat (walk_at "M")
    refine G_list g5 (by decide) rfl ?_ (by simp)
    repeat (walk_at "M")
    refine G_list g5 (by decide) rfl ?_ (by simp)
    repeat (walk_at "M")
    refine ⟨rfl, rfl, rfl, by lia, ?_⟩
    have hmin : min (pos + 1) text.length - pos = min 1 (text.length - pos) := by lia
    have htake : (text.drop pos).take (min (pos + 1) text.length - pos) = (text.drop pos).take 1 := by
      rw [hmin, ← List.length_drop]
      rcases Nat.lt_or_ge (text.drop pos).length 1 with z | z
      · rw [Nat.min_eq_right (by lia), List.take_length, List.take_of_length_le (by lia)]
      · rw [Nat.min_eq_left z]
    rw [htake]
    repeat (walk_at "M")
    refine G_list g5 (by decide) rfl ?_ (by simp)
    repeat (walk_at "M")
    refine K_lenS (by rw [mkS_len, List.length_take]; lia) ?_
    repeat (walk_at "M")
    refine I_list g5 (by decide) (by simp) (by simp) ?_
    repeat (walk_at "M")
    refine ⟨rfl, ?_⟩
    have hsum : (pos : Int) + ((mkS ((text.drop pos).take 1)).length : Int) = ((min (pos + 1) text.length : Nat) : Int) := by
      rw [mkS_len, List.length_take, List.length_drop]; lia
    rw [hsum]
    rfl
  clear hcall
  have eAt2 : (((HA.put 190 (.raw (tabObj ps))).put c' (.raw oc)).put f (.raw fo)) (L + 1) = some (.cell (some (.ref aL))) := Hp.get_ne (ne_of_own eAt hf) (Hp.get_ne (ne_of_own eAt hc') (Hp.get_ne (ne_kind eAt etA (by simp)) eAt))
  have eTx2 : (((HA.put 190 (.raw (tabObj ps))).put c' (.raw oc)).put f (.raw fo)) (L + 2) = some (.cell (some (.str (mkS text)))) := Hp.get_ne (ne_of_own eTx hf) (Hp.get_ne (ne_of_own eTx hc') (Hp.get_ne (ne_kind eTx etA (by simp)) eTx))
  have eL2 : (((HA.put 190 (.raw (tabObj ps))).put c' (.raw oc)).put f (.raw fo)) aL = some (.list [.int (0 : Nat)]) := Hp.get_ne (ne_of_own eL hf) (Hp.get_ne (ne_of_own eL hc') (Hp.get_ne (ne_kind eL etA (by simp)) eL))
  have ef2 : (((HA.put 190 (.raw (tabObj ps))).put c' (.raw oc)).put f (.raw fo)) f = some (.raw fo) := Hp.put_self ..
  have ec2 : (((HA.put 190 (.raw (tabObj ps))).put c' (.raw oc)).put f (.raw fo)) c' = some (.raw oc) := Hp.get_ne (Ne.symm nfc) (Hp.put_self ..)
  have et2 : (((HA.put 190 (.raw (tabObj ps))).put c' (.raw oc)).put f (.raw fo)) 190 = some (.raw (tabObj ps)) := Hp.get_ne (Ne.symm nf) (Hp.get_ne (Ne.symm nc) (Hp.put_self ..))
  have kB : Keep [190] H (((HA.put 190 (.raw (tabObj ps))).put c' (.raw oc)).put f (.raw fo)) := fun b y e n => by
    have e := kA _ _ e
    exact Hp.get_ne (ne_of_own e hf) (Hp.get_ne (ne_of_own e hc') (Hp.get_ne (fun z => n (by simp [z])) e))
  generalize ((HA.put 190 (.raw (tabObj ps))).put c' (.raw oc)).put f (.raw fo) = HB at *
  clear kA eAt eTx eL etA hf hc' nfc nf nc
  repeat (walk_at "M")
  refine K_new O (n := 1) (Q' := fun _ _ => True) (R.less (by decide)) fun sx dsx hsx hdsx nsx => ?_
  refine (fn_init O (fp := .none) ⟨Hp.put_self .., Hp.get_ne (Ne.symm nsx) (Hp.put_self ..)⟩).mono fun v H' z => ?_
  obtain ⟨rfl, p1, m1, hp1, rfl, q1, q2, q3, q4, q5, q6, q7, q8⟩ := z
  refine ⟨rfl, ?_⟩
  refine ea0_2 (Hp.put_none hp1) fun np1 hp1 => ?_
  refine ea0_2 (Hp.put_none hp1) fun np2 hp1 => ?_
  have kC : Sub HB (((((HB.put dsx (.ns 0 fun _ => none)).put sx (.raw (instObj 52 dsx))).put p1 (.list [])).put dsx (.ns 4 m1))) := fun b y e => Hp.get_ne (ne_of_own e hdsx) (Hp.get_ne (ne_of_own e hp1) (Hp.get_ne (ne_of_own e hsx) (Hp.get_ne (ne_of_own e hdsx) e)))
  have IC : Ins (((((HB.put dsx (.ns 0 fun _ => none)).put sx (.raw (instObj 52 dsx))).put p1 (.list [])).put dsx (.ns 4 m1))) sx dsx 4 m1 := ⟨Hp.get_ne nsx (Hp.get_ne (Ne.symm np1) (Hp.put_self ..)), Hp.put_self ..⟩
  generalize ((((HB.put dsx (.ns 0 fun _ => none)).put sx (.raw (instObj 52 dsx))).put p1 (.list [])).put dsx (.ns 4 m1)) = HC at *
  repeat (walk_at "M")
  refine ⟨sx, dsx, _, _, rfl, IC, by decide, rfl, ?_⟩
  repeat (walk_at "M")
  have kD : Sub HB (HC.put dsx (.ns (nsK m1 (Str.ofString "read") 4) (nsPut m1 (Str.ofString "read") (.ref f)))) := fun b y e => Hp.get_ne (ne_of_own e hdsx) (kC b y e)
  have ID : Ins (HC.put dsx (.ns (nsK m1 (Str.ofString "read") 4) (nsPut m1 (Str.ofString "read") (.ref f)))) sx dsx (nsK m1 (Str.ofString "read") 4) (nsPut m1 (Str.ofString "read") (.ref f)) := IC.set
  generalize HC.put dsx (.ns (nsK m1 (Str.ofString "read") 4) (nsPut m1 (Str.ofString "read") (.ref f))) = HD at *
  clear kC IC
  refine K_new O (n := 1) (Q' := fun _ _ => True) (R.less (by decide)) fun x dx hx hdx nx => ?_
  refine (fn_init O (fp := .ref sx) ⟨Hp.put_self .., Hp.get_ne (Ne.symm nx) (Hp.put_self ..)⟩).mono fun v H' z => ?_
  obtain ⟨rfl, p2, m2, hp2, rfl, r1, r2, r3, r4, r5, r6, r7, r8⟩ := z
  refine ⟨rfl, ?_⟩
  refine ea0_2 (Hp.put_none hp2) fun np3 hp2 => ?_
  refine ea0_2 (Hp.put_none hp2) fun np4 hp2 => ?_
  have kE : Sub HD (((((HD.put dx (.ns 0 fun _ => none)).put x (.raw (instObj 52 dx))).put p2 (.list [])).put dx (.ns 4 m2))) := fun b y e => Hp.get_ne (ne_of_own e hdx) (Hp.get_ne (ne_of_own e hp2) (Hp.get_ne (ne_of_own e hx) (Hp.get_ne (ne_of_own e hdx) e)))
  have IE : Ins (((((HD.put dx (.ns 0 fun _ => none)).put x (.raw (instObj 52 dx))).put p2 (.list [])).put dx (.ns 4 m2))) x dx 4 m2 := ⟨Hp.get_ne nx (Hp.get_ne (Ne.symm np3) (Hp.put_self ..)), Hp.put_self ..⟩
  have ep2 : (((((HD.put dx (.ns 0 fun _ => none)).put x (.raw (instObj 52 dx))).put p2 (.list [])).put dx (.ns 4 m2))) p2 = some (.list []) := Hp.get_ne np4 (Hp.put_self ..)
  generalize ((((HD.put dx (.ns 0 fun _ => none)).put x (.raw (instObj 52 dx))).put p2 (.list [])).put dx (.ns 4 m2)) = HE at *
  have kBE : Sub HB HE := kD.trans kE
  have hL : LexH ⟨x, dx, sx, dsx, f, c', L + 1, L + 2, aL, p2, fo, oc⟩ text HE 0 (lnAt text 0) [] :=
    ⟨⟨4, m2, IE, by decide, r1, r2, r3, r4, r5, r6, r7⟩, ⟨_, _, ⟨kE _ _ ID.obj, kE _ _ ID.dict⟩, rfl⟩, ep2, kBE _ _ eL2, ⟨kBE _ _ ef2, kBE _ _ ec2, kBE _ _ eAt2, kBE _ _ eTx2⟩, Nat.zero_le _, Ne.symm (ne_of_own ID.dict hdx), Ne.symm (ne_of_own (kD _ _ eL2) hp2)⟩
  have lc : LexC C ⟨x, dx, sx, dsx, f, c', L + 1, L + 2, aL, p2, fo, oc⟩ text := ⟨hfd, hgive, hlen⟩
  have kHE : Keep [190] H HE := kB.trans (Keep.of_sub kBE)
  have et3 := kBE _ _ et2
  have nHE : ∀ b y, H b = some y → b ∉ [dx, aL, p2] := fun b y e => by
    have eD : ∃ z, HD b = some z := by
      by_cases z : b = 190
      · subst z; exact ⟨_, kD _ _ et2⟩
      · exact ⟨y, kD _ _ (kB b y e (by simpa using z))⟩
    refine ea1_1 eD fun z eD => ?_
    simp only [List.mem_cons, List.not_mem_nil, or_false, not_or]
    exact ⟨ne_of_own eD hdx, ne_of_own e haL0, ne_of_own eD hp2⟩
  generalize hla : LA.mk x dx sx dsx f c' (L + 1) (L + 2) aL p2 fo oc = la at *
  have hlx : la.x = x := by rw [← hla]
  have hld : la.dx = dx := by rw [← hla]
  have hlL : la.atL = aL := by rw [← hla]
  have hlp : la.p = p2 := by rw [← hla]
  have hcA : la.cAt = L + 1 := by rw [← hla]
  have hcT : la.cTx = L + 2 := by rw [← hla]
  subst hlx hld hlL hlp
  clear hla IE ep2 kBE kE kD ID eAt2 eTx2 eL2 ef2 ec2 et2 kB hgive hfd q1 q2 q3 q4 q5 q6 q7 q8 r1 r2 r3 r4 r5 r6 r7 r8
  refine ea2_9 (hL.ins) fun _ _ I1 _ _ _ _ _ _ s6 _ => ?_
  repeat (walk_at "M")
  refine OM_cls O I1 s6 rfl rfl ?_
  repeat (walk_at "M")
  refine OC_Fn (fn_token_word O lc hL hwrd) (R.less (by decide)) fun v HF z => ?_
  refine ea0_3 z fun qq0 hLF kF => ?_
  subst qq0
  (try clear z)
  refine ea0_4 (hLF.ftx) fun g1 g2 g3 g4 => ?_
  rw [hcA] at g3
  rw [hcT] at g4
  refine ea2_9 (hLF.ins) fun k5 m5 I5 _ t1 _ _ _ t5 _ _ => ?_
  repeat (walk_at "M")
  rw [bne_self_eq_false]
  repeat (walk_at "M")
  refine G_list hLF.at_ (by decide) rfl ?_ (by simp)
  repeat (walk_at "M")
  refine K_lenS (by rw [mkS_len]; lia) ?_
  rw [mkS_len]
  repeat (walk_at "M")
  rw [bne_self_eq_false]
  repeat (walk_at "M")
  refine OG_own O I5 t1 rfl rfl ?_
  rw [hln]
  repeat (walk_at "M")
  rw [bne_self_eq_false]
  repeat (walk_at "M")
  refine OM_cls O I5 t5 rfl rfl ?_
  repeat (walk_at "M")
  refine OC_Fn (fn_push O hLF (by simp)) (R.less (by decide)) fun v HG z => ?_
  refine ea0_2 z fun qq0 qq1 => ?_
  subst qq0 qq1
  (try clear z)
  have hLG := hLF.setPb ([] ++ [mkS w])
  have kG : Keep [190] H (HF.put la.p (.list (([] ++ [mkS w]).map .str))) := fun b y e n => by
    have n1 := nHE b y e
    simp only [List.mem_cons, List.not_mem_nil, or_false, not_or] at n1
    exact Hp.get_ne n1.2.2 (kF b y (kHE b y e n) (by simp only [List.mem_cons, List.not_mem_nil, or_false, not_or]; exact ⟨n1.1, n1.2.1⟩))
  have eG : (HF.put la.p (.list (([] ++ [mkS w]).map .str))) 190 = some (.raw (tabObj ps)) := by
    have n1 := nHE _ _ ht
    simp only [List.mem_cons, List.not_mem_nil, or_false, not_or] at n1
    exact Hp.get_ne n1.2.2 (kF _ _ et3 (by simp only [List.mem_cons, List.not_mem_nil, or_false, not_or]; exact ⟨n1.1, n1.2.1⟩))
  generalize HF.put la.p (.list (([] ++ [mkS w]).map .str)) = HG at *
  clear hLF kF g1 g2 g3 g4 t1 t5 I5 hL kHE et3
  repeat (walk_at "m")
  refine X_cons (S_Assign (W_DictS1 (k := mkS w) (x := .int 0) ?_))
  repeat (walk_at "m")
  refine ⟨rfl, rfl, fun ca hca => ?_⟩
  repeat (walk_at "m")
  refine X_cons ?_
  repeat (walk_at "m")
  intro tl htl
  refine ea0_2 (Hp.put_none htl) fun ntc htl => ?_
  repeat (walk_at "m")
  have hown : ∀ b y, H b = some y → ∃ z, HG b = some z := fun b y e => by
    by_cases z : b = 190
    · subst z; exact ⟨_, eG⟩
    · exact ⟨y, kG b y e (by simpa using z)⟩
  have nca : ∀ b y, H b = some y → b ≠ ca := fun b y e => by obtain ⟨z, ez⟩ := hown b y e; exact ne_of_own ez hca
  have ntl : ∀ b y, H b = some y → b ≠ tl := fun b y e => by obtain ⟨z, ez⟩ := hown b y e; exact ne_of_own ez htl
  have hLH := (hLG.sub (Sub.put (x := .sd [(mkS w, .int 0)]) hca)).sub (Sub.put (x := .list []) (Hp.none_ne ntc htl))
  have kH : Keep [190] H ((HG.put ca (.sd [(mkS w, .int 0)])).put tl (.list [])) := fun b y e n => Hp.get_ne (ntl b y e) (Hp.get_ne (nca b y e) (kG b y e n))
  have eH : ((HG.put ca (.sd [(mkS w, .int 0)])).put tl (.list [])) 190 = some (.raw (tabObj ps)) := Hp.get_ne (ntl _ _ ht) (Hp.get_ne (nca _ _ ht) eG)
  have ecH : ((HG.put ca (.sd [(mkS w, .int 0)])).put tl (.list [])) ca = some (.sd (iVals (itS G ds (mkS w) 0).1)) := Hp.get_ne (Ne.symm ntc) (Hp.put_self ..)
  have elH : ((HG.put ca (.sd [(mkS w, .int 0)])).put tl (.list [])) tl = some (.list (([] : List Addr).map .ref)) := Hp.put_self ..
  have ntp : tl ≠ la.p := Ne.symm (ne_of_own hLG.pb htl)
  have ncp : ca ≠ la.p := Ne.symm (ne_of_own hLG.pb hca)
  have n190p : (190 : Addr) ≠ la.p := by
    have n1 := nHE _ _ ht
    simp only [List.mem_cons, List.not_mem_nil, or_false, not_or] at n1
    exact n1.2.2
  have n190c := nca _ _ ht
  have n190t := ntl _ _ ht
  have nap : ∀ b y, H b = some y → b ≠ la.p := fun b y e => by
    have n1 := nHE b y e
    simp only [List.mem_cons, List.not_mem_nil, or_false, not_or] at n1
    exact n1.2.2
  have naL : ∀ b y, H b = some y → b ≠ la.atL := fun b y e => ne_of_own e haL0
  have nLt : la.atL ≠ tl := ne_of_own hLG.at_ htl
  generalize (HG.put ca (.sd [(mkS w, .int 0)])).put tl (.list []) = HH at *
  clear hLG kG eG hown hca htl
  refine X_cons (W.mono (Q := fun (f : MFl) H' lv' => f = MFl.next ∧ AllAt lv' [Str.ofString "queue", Str.ofString "told"] [.ref la.x, .ref tl] ∧ ∃ as : List Addr, H' tl = some (.list (as.map .ref)) ∧ as.length = K ∧ (∀ j (h : j < as.length), H' as[j] = some (.sd (iVals (itS G ds (mkS w) (j + 1)).1))) ∧
    LexH la text H' text.length (lnAt text text.length) [] ∧ Keep [190] H H' ∧ H' 190 = some (.raw (tabObj ps))) ?_ ?_)
  · repeat (walk_at "M")
    refine K_range1 ?_
    refine F_rngN [Str.ofString "queue", Str.ofString "costs", Str.ofString "deeds", Str.ofString "names", Str.ofString "modes", Str.ofString "told"] 6 hh (by decide) (by decide) (by decide)
      (fun i H' vs => vs = [.ref la.x, .ref ca, .ref da, .ref na, .ref ma, .ref tl] ∧ i < K ∧ ∃ as : List Addr, H' tl = some (.list (as.map .ref)) ∧ as.length = i ∧ (∀ j (h : j < as.length), as[j] ≠ ca ∧ H' as[j] = some (.sd (iVals (itS G ds (mkS w) (j + 1)).1))) ∧
        H' ca = some (.sd (iVals (itS G ds (mkS w) i).1)) ∧ LexH la text H' text.length (lnAt text text.length) (itS G ds (mkS w) i).2 ∧ Keep [190] H H' ∧ H' 190 = some (.raw (tabObj ps))) ?_
      [.ref la.x, .ref ca, .ref da, .ref na, .ref ma, .ref tl] ⟨rfl, rfl, rfl, rfl, rfl, rfl, trivial⟩ ⟨rfl, by lia, [], elH, rfl, fun j h => absurd h (Nat.not_lt_zero _), ecH, hLH, kH, eH⟩ ?_
    · rintro i H' vs hi ⟨rfl, hiK, as, et, hal, has, ec, hl, hk, e190⟩
      refine ea0_3 (hinv i hiK) fun hi1 hi2 hi3 => ?_
      refine ea2_9 (hl.ins) fun k7 m7 I7 _ _ _ _ _ u5 _ _ => ?_
      repeat (walk_at "M")
      refine OM_cls O I7 u5 rfl rfl ?_
      repeat (walk_at "M")
      refine OC_Fn (fn_push O hl (by lia)) (R.less (by decide)) fun v H2 z => ?_
      refine ea0_2 z fun qq0 qq1 => ?_
      subst qq0 qq1
      (try clear z)
      have hl2 := hl.setPb ((itS G ds (mkS w) i).2 ++ [Str.ofString ""])
      have hk2 : Keep [190] H (H'.put la.p (.list (((itS G ds (mkS w) i).2 ++ [Str.ofString ""]).map .str))) := fun b y e n => Hp.get_ne (nap b y e) (hk b y e n)
      have et2 : (H'.put la.p (.list (((itS G ds (mkS w) i).2 ++ [Str.ofString ""]).map .str))) tl = some (.list (as.map .ref)) := Hp.get_ne ntp et
      have ec2 : (H'.put la.p (.list (((itS G ds (mkS w) i).2 ++ [Str.ofString ""]).map .str))) ca = some (.sd (iVals (itS G ds (mkS w) i).1)) := Hp.get_ne ncp ec
      have e2 : (H'.put la.p (.list (((itS G ds (mkS w) i).2 ++ [Str.ofString ""]).map .str))) 190 = some (.raw (tabObj ps)) := Hp.get_ne n190p e190
      have has2 : ∀ j (h : j < as.length), as[j] ≠ ca ∧ (H'.put la.p (.list (((itS G ds (mkS w) i).2 ++ [Str.ofString ""]).map .str))) as[j] = some (.sd (iVals (itS G ds (mkS w) (j + 1)).1)) := fun j h => ⟨(has j h).1, Hp.get_ne (ne_kind (has j h).2 hl.pb (by simp)) (has j h).2⟩
      generalize H'.put la.p (.list (((itS G ds (mkS w) i).2 ++ [Str.ofString ""]).map .str)) = H2 at *
      clear hl hk et ec e190 has I7 u5
      have nk : ∀ b y, H b = some y → b ≠ 190 → H2 b = some y := fun b y e n => hk2 b y e (by simpa using n)
      repeat (walk_at "M")
      refine OC_Fn (fn_round O hl2 ec2 (nk _ _ hd (ne_kind hd ht (by simp))) (nk _ _ hn (ne_kind hn ht (by simp))) (nk _ _ hm (ne_kind hm ht (by simp))) (nca _ _ hm) (Ne.symm (nap _ _ hd)) (Ne.symm (naL _ _ hd)) Ld hi1 hi2 hi3 hdl) (R.less (by decide)) fun v H3 z => ?_
      refine ea1_6 z fun fa qq1 hfa ef ec3 hl3 hk3 => ?_
      subst qq1
      (try clear z)
      have hst : itS G ds (mkS w) (i + 1) = rndS G ds (itS G ds (mkS w) i).1 (itS G ds (mkS w) i).2 := rfl
      rw [← hst] at ef ec3 hl3
      have hsz3 : (itS G ds (mkS w) (i + 1)).1.length ≤ 2000 := by
        have := (rowS_len (G := G) (ds := ds) (c0 := (itS G ds (mkS w) i).1) (itS G ds (mkS w) i).2 ((itS G ds (mkS w) i).1, [])).1
        have h4 : (itS G ds (mkS w) i).2.length * ds.length ≤ 40 * 4 := Nat.mul_le_mul (by lia) hdl
        rw [hst]
        unfold rndS
        dsimp only at this
        lia
      have et5 := et2
      have et3 := hk3 _ _ et2 (by simp only [List.mem_cons, List.not_mem_nil, or_false, not_or]; exact ⟨ntc, ntp⟩)
      have e3 := hk3 _ _ e2 (by simp only [List.mem_cons, List.not_mem_nil, or_false, not_or]; exact ⟨n190c, n190p⟩)
      have has3 : ∀ j (h : j < as.length), as[j] ≠ ca ∧ H3 as[j] = some (.sd (iVals (itS G ds (mkS w) (j + 1)).1)) := fun j h => ⟨(has2 j h).1, hk3 _ _ (has2 j h).2 (by simp only [List.mem_cons, List.not_mem_nil, or_false, not_or]; exact ⟨(has2 j h).1, ne_kind (has2 j h).2 hl2.pb (by simp)⟩)⟩
      have kk3 : Keep [190] H H3 := fun b y e n => hk3 _ _ (hk2 b y e n) (by simp only [List.mem_cons, List.not_mem_nil, or_false, not_or]; exact ⟨nca b y e, nap b y e⟩)
      clear hk2 et2 ec2 e2 has2 nk hk3 hl2
      repeat (walk_at "M")
      refine ⟨fun z => absurd z Bool.false_ne_true, fun _ => ?_⟩
      repeat (walk_at "M")
      refine M_append et3 ?_
      repeat (walk_at "M")
      refine K_dictS ec3 (by simp only [iVals, List.length_map]; lia) fun b hb => ?_
      repeat (walk_at "M")
      have ntb : tl ≠ b := ne_of_own et3 hb
      have eas : as.map MV.ref ++ [.ref b] = (as ++ [b]).map .ref := by simp
      refine K_append (l := as.map .ref) (by walk_at "hp") (by simp; lia) ?_
      rw [eas]
      have nfb : fa ≠ b := ne_of_own ef hb
      have ncb : ca ≠ b := ne_of_own ec3 hb
      have n190b : (190 : Addr) ≠ b := ne_of_own e3 hb
      have has4 : ∀ j (h : j < (as ++ [b]).length), (as ++ [b])[j] ≠ ca ∧ ((H3.put b (.sd (iVals (itS G ds (mkS w) (i + 1)).1))).put tl (.list ((as ++ [b]).map .ref))) (as ++ [b])[j] = some (.sd (iVals (itS G ds (mkS w) (j + 1)).1)) := by
        intro j h
        simp only [List.length_append, List.length_cons, List.length_nil] at h
        by_cases q : j < as.length
        · rw [List.getElem_append_left q]
          refine ea0_2 (has3 j q) fun z1 z2 => ?_
          exact ⟨z1, Hp.get_ne (ne_kind z2 et3 (by simp)) (Hp.get_ne (ne_of_own z2 hb) z2)⟩
        · have : j = as.length := by lia
          subst this
          have e2 : (as ++ [b])[as.length] = b := by simp
          rw [e2]
          refine ⟨Ne.symm ncb, Hp.get_ne (Ne.symm ntb) ?_⟩
          rw [Hp.put_self, hal]
      have hll : (as ++ [b]).length = i + 1 := by simp [hal]
      have et4 : ((H3.put b (.sd (iVals (itS G ds (mkS w) (i + 1)).1))).put tl (.list ((as ++ [b]).map .ref))) tl = some (.list ((as ++ [b]).map .ref)) := Hp.put_self ..
      have ef4 : ((H3.put b (.sd (iVals (itS G ds (mkS w) (i + 1)).1))).put tl (.list ((as ++ [b]).map .ref))) fa = some (.list ((itS G ds (mkS w) (i + 1)).2.map .str)) := by
        have : fa ≠ tl := Ne.symm (ne_of_own et5 hfa)
        exact Hp.get_ne this (Hp.get_ne nfb ef)
      have ec4 : ((H3.put b (.sd (iVals (itS G ds (mkS w) (i + 1)).1))).put tl (.list ((as ++ [b]).map .ref))) ca = some (.sd (iVals (itS G ds (mkS w) (i + 1)).1)) := Hp.get_ne (Ne.symm ntc) (Hp.get_ne ncb ec3)
      have e4 : ((H3.put b (.sd (iVals (itS G ds (mkS w) (i + 1)).1))).put tl (.list ((as ++ [b]).map .ref))) 190 = some (.raw (tabObj ps)) := Hp.get_ne n190t (Hp.get_ne n190b e3)
      have kk4 : Keep [190] H ((H3.put b (.sd (iVals (itS G ds (mkS w) (i + 1)).1))).put tl (.list ((as ++ [b]).map .ref))) := fun x y e n => Hp.get_ne (ntl x y e) (Hp.get_ne (ne_of_own (kk3 x y e n) hb) (kk3 x y e n))
      have hl4 : LexH la text ((H3.put b (.sd (iVals (itS G ds (mkS w) (i + 1)).1))).put tl (.list ((as ++ [b]).map .ref))) text.length (lnAt text text.length) (itS G ds (mkS w) (i + 1)).2 :=
        (hl3.sub (Sub.put hb)).setList (l := as.map .ref) (Hp.get_ne ntb et3) (Ne.symm ntp) nLt
      generalize (H3.put b (.sd (iVals (itS G ds (mkS w) (i + 1)).1))).put tl (.list ((as ++ [b]).map .ref)) = H4 at *
      generalize as ++ [b] = bs at *
      repeat (walk_at "M")
      intro ee hee
      refine C_eqNil hu (l := (itS G ds (mkS w) (i + 1)).2.map .str) (Hp.get_ne (ne_of_own ef4 hee) ef4) (Hp.put_self ..) ?_
      repeat (walk_at "M")
      have hl5 := hl4.sub (Sub.put (x := .list []) hee)
      have kk5 : Keep [190] H (H4.put ee (.list [])) := kk4.trans (Keep.new hee)
      refine ⟨fun hcc => ?_, fun hcc => ?_⟩
      · repeat (walk_at "M")
        have hem : (itS G ds (mkS w) (i + 1)).2 = [] := by
          cases hz : (itS G ds (mkS w) (i + 1)).2 with
          | nil => rfl
          | cons a l => rw [hz] at hcc; cases hcc
        have hiK1 : i + 1 = K := by
          rcases Nat.lt_or_ge (i + 1) K with z | z
          · exact absurd hem (hKn (i + 1) (by lia) z)
          · lia
        rw [hem] at hl5
        exact ⟨rfl, ⟨rfl, rfl, trivial⟩, bs, Hp.get_ne (ne_of_own et4 hee) et4, by lia, fun j h => Hp.get_ne (ne_of_own (has4 j h).2 hee) (has4 j h).2, hl5, kk5, Hp.get_ne (ne_of_own e4 hee) e4⟩
      · repeat (walk_at "M")
        have hiK1 : i + 1 < K := by
          rcases Nat.lt_or_ge (i + 1) K with z | z
          · exact z
          · have : i + 1 = K := by lia
            rw [this, hKe] at hcc; cases hcc
        exact ⟨[.ref la.x, .ref ca, .ref da, .ref na, .ref ma, .ref tl], ⟨rfl, rfl, rfl, rfl, rfl, rfl, trivial⟩, rfl, hiK1, bs, Hp.get_ne (ne_of_own et4 hee) et4, hll, fun j h => ⟨(has4 j h).1, Hp.get_ne (ne_of_own (has4 j h).2 hee) (has4 j h).2⟩, Hp.get_ne (ne_of_own ec4 hee) ec4, hl5, kk5, Hp.get_ne (ne_of_own e4 hee) e4⟩
    · intro H' vs zz
      refine ea0_3 zz fun qq0 hiK _ => ?_
      subst qq0
      (try clear zz)
      lia
  · rintro f5 H' lv' ⟨rfl, hat, as, et, hal, has, hl, hk, e190⟩
    refine ⟨fun _ => W.lessL ?_ (lvOf_sub _ _ hat), fun z => absurd rfl z⟩
    refine ea2_9 (hl.ins) fun k7 m7 I7 _ _ _ _ u4 _ u6 _ => ?_
    repeat (walk_at "M")
    refine OG_own O I7 u4 rfl rfl ?_
    repeat (walk_at "M")
    intro ee hee
    refine C_neNil hu (l := ([] : List Str).map .str) (Hp.get_ne (ne_of_own hl.pb hee) hl.pb) (Hp.put_self ..) ?_
    have hl5 := hl.sub (Sub.put (x := .list []) hee)
    have kk5 : Keep [190] H (H'.put ee (.list [])) := hk.trans (Keep.new hee)
    have et5 := Hp.get_ne (x := .list []) (ne_of_own et hee) et
    have e5 := Hp.get_ne (x := .list []) (ne_of_own e190 hee) e190
    have has5 : ∀ j (h : j < as.length), (H'.put ee (.list [])) as[j] = some (.sd (iVals (itS G ds (mkS w) (j + 1)).1)) := fun j h => Hp.get_ne (ne_of_own (has j h) hee) (has j h)
    generalize H'.put ee (.list []) = H5 at *
    repeat (walk_at "M")
    refine ⟨fun _ => ?_, fun z => absurd z Bool.false_ne_true⟩
    refine ea2_9 (hl5.ins) fun k7 m7 I7 _ _ _ _ u4 _ u6 _ => ?_
    repeat (walk_at "M")
    refine OM_cls O I7 u6 rfl rfl ?_
    repeat (walk_at "M")
    refine OC_Fn (fn_token_end O lc hl5) (R.less (by decide)) fun v H6 z => ?_
    refine ea0_3 z fun qq0 hl6 hk6 => ?_
    subst qq0
    (try clear z)
    repeat (walk_at "M")
    rw [show (mkS [] != Str.ofString "") = false by decide]
    repeat (walk_at "M")
    have ndx : ∀ b y, H b = some y → b ∉ [la.dx, la.atL] := fun b y e => by
      have n1 := nHE b y e
      simp only [List.mem_cons, List.not_mem_nil, or_false, not_or] at n1 ⊢
      exact ⟨n1.1, n1.2.1⟩
    refine ea2_2 (hl5.ins) fun k8 m8 I8 _ => ?_
    refine ⟨tl, as, rfl, hk6 _ _ et5 ?_, hal, fun j h => hk6 _ _ (has5 j h) ?_, fun b y e n => hk6 _ _ (kk5 b y e n) (ndx b y e), ps, hk6 _ _ e5 (ndx _ _ ht)⟩
    · simp only [List.mem_cons, List.not_mem_nil, or_false, not_or]
      exact ⟨ne_kind et5 I8.dict (by simp), Ne.symm nLt⟩
    · simp only [List.mem_cons, List.not_mem_nil, or_false, not_or]
      exact ⟨ne_kind (has5 j h) I8.dict (by simp), ne_kind (has5 j h) hl5.at_ (by simp)⟩
end
section
variable {C : Cx}
/-! ### by the heap -/
noncomputable abbrev HS := List PS × List (Str × Int)
noncomputable def hrx (G : Str → Int → Str) (p : PS) (s : HS) (d : Int × Int) : HS :=
  if p.1 + d.2 < (ilook s.2 (G p.2 d.1)).getD (p.1 + d.2 + 1) then (sdF (p.1 + d.2, G p.2 d.1) s.1.length (s.1 ++ [(p.1 + d.2, G p.2 d.1)]), iput s.2 (G p.2 d.1) (p.1 + d.2)) else s
noncomputable def popT (h : List PS) : PS := if h.dropLast = [] then h.getLastD (0, ⟨#[]⟩) else h.headD (0, ⟨#[]⟩)
noncomputable def popR (h : List PS) : List PS := if h.dropLast = [] then [] else suF (h.getLastD (0, ⟨#[]⟩)) h.dropLast.length 0 (h.dropLast.set 0 (h.getLastD (0, ⟨#[]⟩)))
structure BS where
  heap : List PS
  best : List (Str × Int)
  out : List PS
noncomputable def bhT (G : Str → Int → Str) (ds : List (Int × Int)) (s : BS) : BS :=
  if ilook s.best (popT s.heap).2 = some (popT s.heap).1 then ⟨(ds.foldl (hrx G (popT s.heap)) (popR s.heap, s.best)).1, (ds.foldl (hrx G (popT s.heap)) (popR s.heap, s.best)).2, s.out ++ [popT s.heap]⟩
  else ⟨popR s.heap, s.best, s.out⟩
noncomputable def bhS (G : Str → Int → Str) (ds : List (Int × Int)) (first : Str) : Nat → BS
  | 0 => ⟨[(0, first)], [(first, 0)], []⟩
  | n + 1 => bhT G ds (bhS G ds first n)
theorem sdF_len (x : PS) : ∀ (n : Nat) (l : List PS), (sdF x n l).length = l.length := by
  intro n
  induction n using Nat.strongRecOn with
  | ind n ih =>
    intro l
    cases n with
    | zero => unfold sdF; simp
    | succ m =>
      unfold sdF
      split
      · rw [ih (m / 2) (by lia)]; simp
      · simp
theorem suF_len (x : PS) (n : Nat) : ∀ (k pos : Nat) (l : List PS), n - pos = k → (suF x n pos l).length = l.length := by
  intro k
  induction k using Nat.strongRecOn with
  | ind k ih =>
    intro pos l hk
    unfold suF
    split
    · rename_i h
      have hc : pos < suC x n pos l := by unfold suC; split <;> lia
      rw [ih (n - suC x n pos l) (by lia) _ _ rfl]; simp
    · rw [sdF_len]; simp
theorem hrx_len {G : Str → Int → Str} {p : PS} {s : HS} {d : Int × Int} : (hrx G p s d).1.length ≤ s.1.length + 1 ∧ (hrx G p s d).2.length ≤ s.2.length + 1 := by
  unfold hrx
  split
  · refine ⟨?_, iput_length ..⟩
    dsimp only
    rw [sdF_len]; simp
  · exact ⟨by lia, by lia⟩
theorem hrx_len' {G : Str → Int → Str} {p : PS} : ∀ (ds : List (Int × Int)) (s : HS), (ds.foldl (hrx G p) s).1.length ≤ s.1.length + ds.length ∧ (ds.foldl (hrx G p) s).2.length ≤ s.2.length + ds.length
  | [], s => by simp
  | d :: ds, s => by
    have h1 := hrx_len (G := G) (p := p) (s := s) (d := d)
    have h2 := hrx_len' (G := G) (p := p) ds (hrx G p s d)
    simp only [List.foldl_cons, List.length_cons]
    lia
theorem popR_len (h : List PS) : (popR h).length = h.length - 1 := by
  unfold popR
  split
  · rename_i e
    have := congrArg List.length e
    simp at this
    simp; lia
  · rw [suF_len _ _ _ _ _ rfl]; simp
set_option maxHeartbeats 4000000 in
theorem fn_by_heap (O : C.Ok) {H : Hp} {first : Str} {da na ma : Addr} {ds : List (Int × Int)} {nl : List (Int × MV)} {ml : List (Str × MV)} {G : Str → Int → Str} {V : Str → Prop}
    (hd : H da = some (.list (ds.map dP))) (hn : H na = some (.idd nl)) (hm : H ma = some (.sd ml)) (Ld : Led nl ml ds G V) (hdl : ds.length ≤ 4) {N : Nat} (hN : N < 70) (hNe : (bhS G ds first N).heap = [])
    (hinv : ∀ k, k < N → (bhS G ds first k).heap ≠ [] ∧ (bhS G ds first k).heap.length ≤ 500 ∧ (bhS G ds first k).best.length ≤ 500 ∧ (bhS G ds first k).out.length ≤ 500 ∧ V (popT (bhS G ds first k).heap).2 ∧ ∃ i, ilook (bhS G ds first k).best (popT (bhS G ds first k).heap).2 = some i) :
    Fn C 202 4 [.str first, .ref da, .ref na, .ref ma] H fun v H' => ∃ oa, v = .ref oa ∧ H' oa = some (.list ((bhS G ds first N).out.map .pr)) ∧ H oa = none ∧ Sub H H' := by
  refine Fn_def O [Str.ofString "first", Str.ofString "deeds", Str.ofString "names", Str.ofString "modes"] rfl (by rfl) (fun vs hv => ?_) rfl (by decide) (by decide) (by decide) (fun A L RR => ?_) rfl rfl rfl
  · obtain ⟨x, y, z, u, rfl⟩ := vs4 hv; rfl
  have hh := RR.handled
  repeat (walk_at "M")
  intro ha hha
  repeat (walk_at "m")
  refine X_cons (S_Assign (W_DictS1 (k := first) (x := .int 0) ?_))
  repeat (walk_at "M")
  refine ⟨rfl, rfl, fun ba hba => ?_⟩
  refine ea0_2 (Hp.put_none hba) fun nbh hba => ?_
  repeat (walk_at "M")
  intro oa hoa
  refine ea0_2 (Hp.put_none hoa) fun nob hoa => ?_
  refine ea0_2 (Hp.put_none hoa) fun noh hoa => ?_
  repeat (walk_at "M")
  refine OC_Fn (fn_heappush O (a := ha) (l := []) (x := (0, first)) (by walk_at "hp") (by simp)) (RR.less (by decide)) fun v H2 z => ?_
  refine ea0_2 z fun qq0 qq1 => ?_
  subst qq0 qq1
  (try clear z)
  have es0 : sdF (0, first) ([] : List PS).length ([] ++ [(0, first)]) = [(0, first)] := by unfold sdF; rfl
  rw [es0]
  have eh0 : ((((H.put ha (.list [])).put ba (.sd [(first, .int 0)])).put oa (.list [])).put ha (.list ([(0, first)].map MV.pr))) ha = some (.list ((bhS G ds first 0).heap.map .pr)) := Hp.put_self ..
  have eb0 : ((((H.put ha (.list [])).put ba (.sd [(first, .int 0)])).put oa (.list [])).put ha (.list ([(0, first)].map MV.pr))) ba = some (.sd (iVals (bhS G ds first 0).best)) := by
    refine Hp.get_ne nbh (Hp.get_ne (Ne.symm nob) (Hp.put_self ..))
  have eo0 : ((((H.put ha (.list [])).put ba (.sd [(first, .int 0)])).put oa (.list [])).put ha (.list ([(0, first)].map MV.pr))) oa = some (.list ((bhS G ds first 0).out.map .pr)) := Hp.get_ne noh (Hp.put_self ..)
  have hk0 : Sub H ((((H.put ha (.list [])).put ba (.sd [(first, .int 0)])).put oa (.list [])).put ha (.list ([(0, first)].map MV.pr))) := fun b y e => Hp.get_ne (ne_of_own e hha) (Hp.get_ne (ne_of_own e hoa) (Hp.get_ne (ne_of_own e hba) (Hp.get_ne (ne_of_own e hha) e)))
  generalize (((H.put ha (.list [])).put ba (.sd [(first, .int 0)])).put oa (.list [])).put ha (.list ([(0, first)].map MV.pr)) = H0 at *
  repeat (walk_at "M")
  refine ⟨fun z => absurd z Bool.false_ne_true, fun _ => ?_⟩
  repeat (walk_at "M")
  refine K_range1 ?_
  refine F_rngN [Str.ofString "deeds", Str.ofString "names", Str.ofString "modes", Str.ofString "heap", Str.ofString "best", Str.ofString "out"] 70 hh (by decide) (by decide) (by decide)
    (fun i H' vs => vs = [.ref da, .ref na, .ref ma, .ref ha, .ref ba, .ref oa] ∧ i ≤ N ∧ H' ha = some (.list ((bhS G ds first i).heap.map .pr)) ∧ H' ba = some (.sd (iVals (bhS G ds first i).best)) ∧ H' oa = some (.list ((bhS G ds first i).out.map .pr)) ∧ Sub H H') ?_
    [.ref da, .ref na, .ref ma, .ref ha, .ref ba, .ref oa] ⟨rfl, rfl, rfl, rfl, rfl, rfl, trivial⟩ ⟨rfl, Nat.zero_le _, eh0, eb0, eo0, hk0⟩ ?_
  · intro i H' vs hi zz
    refine ea0_6 zz fun qq0 hiN eh eb eo hk => ?_
    subst qq0
    (try clear zz)
    repeat (walk_at "M")
    have hlen : (bhS G ds first i).heap.length ≤ 500 := by
      rcases Nat.lt_or_ge i N with z | z
      · exact (hinv i z).2.1
      · have : i = N := by lia
        rw [this, hNe]; simp
    refine O_truthL eh ?_ (by simp; lia)
    rcases Nat.lt_or_ge i N with hlt | hge
    · obtain ⟨hne, hl1, hl2, hl3, hV, b, hb⟩ := hinv i hlt
      have hnx : bhS G ds first (i + 1) = bhT G ds (bhS G ds first i) := rfl
      rw [hnx]
      generalize bhS G ds first i = s at *
      obtain ⟨l, x, hlx⟩ : ∃ l x, s.heap = l ++ [x] := ⟨s.heap.dropLast, s.heap.getLast hne, (List.dropLast_concat_getLast hne).symm⟩
      have htest : (!(!(s.heap.map MV.pr).isEmpty)) = false := by
        rw [hlx]; simp
      unfold kNot; rw [htest]
      repeat (walk_at "M")
      rw [hlx] at eh
      have hpT : ∀ v H2, ((l = [] ∧ v = MV.pr x ∧ H2 = H'.put ha (.list [])) ∨ (∃ h : 0 < l.length, v = .pr l[0] ∧ H2 = H'.put ha (.list ((suF x l.length 0 (l.set 0 x)).map .pr)))) → v = .pr (popT s.heap) ∧ H2 = H'.put ha (.list ((popR s.heap).map .pr)) := by
        rintro v H2 (⟨rfl, rfl, rfl⟩ | ⟨h, rfl, rfl⟩)
        · unfold popT popR; rw [hlx]; simp
        · have hdl' : (l ++ [x]).dropLast = l := by simp
          have hl0 : l ≠ [] := by intro z; rw [z] at h; simp at h
          unfold popT popR
          rw [hlx, hdl', if_neg hl0, if_neg hl0]
          have e1 : (l ++ [x]).getLastD (0, ⟨#[]⟩) = x := by simp
          have e2 : (l ++ [x]).headD (0, ⟨#[]⟩) = l[0] := by
            cases l with
            | nil => exact absurd rfl hl0
            | cons a l => rfl
          rw [e1, e2]
          exact ⟨rfl, rfl⟩
      refine OC_Fn ((fn_heappop O eh (by rw [hlx] at hl1; simp at hl1; lia)).mono hpT) (RR.less (by decide)) fun v H2 z => ?_
      refine ea0_2 z fun qq0 qq1 => ?_
      subst qq0 qq1
      (try clear z)
      have hrl := popR_len s.heap
      have eh2 : (H'.put ha (.list ((popR s.heap).map .pr))) ha = some (.list ((popR s.heap).map .pr)) := Hp.put_self ..
      have eb2 : (H'.put ha (.list ((popR s.heap).map .pr))) ba = some (.sd (iVals s.best)) := Hp.get_ne nbh eb
      have eo2 : (H'.put ha (.list ((popR s.heap).map .pr))) oa = some (.list (s.out.map .pr)) := Hp.get_ne noh eo
      have hk2 : Sub H (H'.put ha (.list ((popR s.heap).map .pr))) := fun b y e => Hp.get_ne (ne_of_own e hha) (hk b y e)
      generalize H'.put ha (.list ((popR s.heap).map .pr)) = H2 at *
      clear eh eb eo hk hpT htest
      unfold bhT
      generalize popT s.heap = p at *
      generalize popR s.heap = hr at *
      refine A_Tuple hh ?_ rfl
      repeat (walk_at "M")
      refine G_dictS eb2 (by rw [dget_look, hb]; rfl) ?_
      repeat (walk_at "M")
      refine ⟨fun hc => ?_, fun hc => ?_⟩
      · have hc : p.1 = b := by simpa using hc
        have hif : ilook s.best p.2 = some p.1 := by rw [hb, hc]
        rw [if_pos hif]
        repeat (walk_at "M")
        refine M_append eo2 ?_
        repeat (walk_at "M")
        refine K_append eo2 (by simp; lia) ?_
        have eol : s.out.map MV.pr ++ [.tup [.int p.1, .str p.2]] = (s.out ++ [p]).map .pr := by simp
        rw [eol]
        have eh3 : (H2.put oa (.list ((s.out ++ [p]).map .pr))) ha = some (.list (hr.map .pr)) := Hp.get_ne (Ne.symm noh) eh2
        have eb3 : (H2.put oa (.list ((s.out ++ [p]).map .pr))) ba = some (.sd (iVals s.best)) := Hp.get_ne (Ne.symm nob) eb2
        have eo3 : (H2.put oa (.list ((s.out ++ [p]).map .pr))) oa = some (.list ((s.out ++ [p]).map .pr)) := Hp.put_self ..
        have hk3 : Sub H (H2.put oa (.list ((s.out ++ [p]).map .pr))) := fun b y e => Hp.get_ne (ne_of_own e hoa) (hk2 b y e)
        generalize H2.put oa (.list ((s.out ++ [p]).map .pr)) = H3 at *
        clear eh2 eb2 eo2 hk2
        have ndh : ha ≠ da := Ne.symm (ne_of_own hd hha)
        have ndb : ba ≠ da := Ne.symm (ne_of_own hd hba)
        have ndo : oa ≠ da := Ne.symm (ne_of_own hd hoa)
        repeat (walk_at "M")
        refine F_list hh (l := ds.map dP) (hk3 _ _ hd) ?_
        refine ForW_N [Str.ofString "deeds", Str.ofString "names", Str.ofString "modes", Str.ofString "heap", Str.ofString "best", Str.ofString "out", Str.ofString "cost", Str.ofString "row"] dP
          (fun j H' vs => vs = [.ref da, .ref na, .ref ma, .ref ha, .ref ba, .ref oa, .int p.1, .str p.2] ∧ ∃ s' : HS, s' = (ds.take j).foldl (hrx G p) (hr, s.best) ∧ H' ha = some (.list (s'.1.map .pr)) ∧ H' ba = some (.sd (iVals s'.2)) ∧ H' oa = some (.list ((s.out ++ [p]).map .pr)) ∧ Keep [da] H H') ds ?_
          [.ref da, .ref na, .ref ma, .ref ha, .ref ba, .ref oa, .int p.1, .str p.2] ⟨rfl, rfl, rfl, rfl, rfl, rfl, rfl, rfl, trivial⟩ ⟨rfl, (hr, s.best), rfl, Hp.get_del ndh eh3, Hp.get_del ndb eb3, Hp.get_del ndo eo3, ?_⟩ ?_
        · rintro j H' vs hj ⟨rfl, s', hs', eh, eb, eo, hk⟩
          have hlen' := hrx_len' (G := G) (p := p) (ds.take j) (hr, s.best)
          rw [← hs', List.length_take] at hlen'
          dsimp only at hlen'
          have en : H' na = some (.idd nl) := hk _ _ hn (by simp only [List.mem_cons, List.not_mem_nil, or_false]; exact ne_kind hn hd (by simp))
          have em : H' ma = some (.sd ml) := hk _ _ hm (by simp only [List.mem_cons, List.not_mem_nil, or_false]; exact ne_kind hm hd (by simp))
          have hst : (ds.take (j + 1)).foldl (hrx G p) (hr, s.best) = hrx G p s' ds[j] := by
            rw [hs', List.take_succ_eq_append_getElem hj, List.foldl_append]; rfl
          refine ea1_3 (Ld.to p.2 hV ds[j] (List.getElem_mem hj)) fun mm e1 e2 e3 => ?_
          generalize ds[j] = d at *
          repeat (walk_at "M")
          refine OC_Fn (fn_led O en em e1) (RR.less (by decide)) fun v H9 z => ?_
          refine ea0_2 z fun qq0 qq1 => ?_
          subst qq0 qq1
          (try clear z)
          rw [e2, Option.getD_some]
          repeat (walk_at "M")
          refine ⟨fun hcc => absurd hcc Bool.false_ne_true, fun _ => ?_⟩
          repeat (walk_at "M")
          refine M_getS eb ?_
          repeat (walk_at "M")
          refine K_getS eb ?_
          have eg : (dget (iVals s'.2) (G p.2 d.1)).getD (.int (p.1 + d.2 + 1)) = .int ((ilook s'.2 (G p.2 d.1)).getD (p.1 + d.2 + 1)) := by
            rw [dget_look]; cases ilook s'.2 (G p.2 d.1) <;> rfl
          rw [eg]
          repeat (walk_at "M")
          refine ⟨fun hcc => ?_, fun hcc => ?_⟩
          · have hcc := of_decide_eq_true hcc
            repeat (walk_at "M")
            refine I_dictS eb (by simp only [iVals, List.length_map]; lia) ?_
            rw [dput_put]
            have hr1 : hrx G p s' d = (sdF (p.1 + d.2, G p.2 d.1) s'.1.length (s'.1 ++ [(p.1 + d.2, G p.2 d.1)]), iput s'.2 (G p.2 d.1) (p.1 + d.2)) := by unfold hrx; rw [if_pos hcc]
            repeat (walk_at "M")
            refine OC_Fn (fn_heappush O (a := ha) (l := s'.1) (x := (p.1 + d.2, G p.2 d.1)) (Hp.get_ne (Ne.symm nbh) eh) (by lia)) (RR.less (by decide)) fun v H8 z => ?_
            refine ea0_2 z fun qq0 qq1 => ?_
            subst qq0 qq1
            (try clear z)
            repeat (walk_at "M")
            refine ⟨fun z => absurd z Bool.false_ne_true, fun _ => ?_⟩
            repeat (walk_at "M")
            intro hdn
            refine ⟨[.ref da, .ref na, .ref ma, .ref ha, .ref ba, .ref oa, .int p.1, .str p.2], ⟨rfl, rfl, rfl, rfl, rfl, rfl, rfl, rfl, trivial⟩, rfl, hrx G p s' d, hst.symm, ?_, ?_, ?_, ?_⟩
            · rw [hr1]; exact Hp.put_self ..
            · rw [hr1]; exact Hp.get_ne nbh (Hp.put_self ..)
            · exact Hp.get_ne noh (Hp.get_ne nob eo)
            · exact fun b y e n => Hp.get_ne (ne_of_own e hha) (Hp.get_ne (ne_of_own e hba) (hk b y e n))
          · have hcc := of_decide_eq_false hcc
            have hr1 : hrx G p s' d = s' := by unfold hrx; rw [if_neg hcc]
            repeat (walk_at "M")
            intro hdn
            exact ⟨[.ref da, .ref na, .ref ma, .ref ha, .ref ba, .ref oa, .int p.1, .str p.2], ⟨rfl, rfl, rfl, rfl, rfl, rfl, rfl, rfl, trivial⟩, rfl, hrx G p s' d, hst.symm, by rw [hr1]; exact eh, by rw [hr1]; exact eb, eo, hk⟩
        · exact fun x y e n => Hp.get_del (fun z => n (by simp [z])) (hk3 x y e)
        · rintro H5 vs lv hat ⟨rfl, s', hs', eh, eb, eo, hk⟩
          rw [List.take_length] at hs'
          refine ⟨fun _ => W.lessL ?_ (lvOf_sub _ _ hat), fun z => absurd rfl z⟩
          repeat (walk_at "M")
          refine ⟨[.ref da, .ref na, .ref ma, .ref ha, .ref ba, .ref oa], ⟨rfl, rfl, rfl, rfl, rfl, rfl, trivial⟩, rfl, hlt, ?_, ?_, ?_, ?_⟩
          · rw [← hs']; exact Hp.get_ne ndh eh
          · rw [← hs']; exact Hp.get_ne ndb eb
          · exact Hp.get_ne ndo eo
          · intro x y e
            by_cases zd : x = da
            · subst zd; rw [hd] at e; rw [Hp.put_self, ← e]
            · exact Hp.get_ne zd (hk x y e (by simpa using zd))
      · have hc : p.1 ≠ b := by simpa using hc
        have hif : ¬ ilook s.best p.2 = some p.1 := by rw [hb]; intro z; exact hc (Option.some.inj z).symm
        rw [if_neg hif]
        repeat (walk_at "M")
        exact ⟨[.ref da, .ref na, .ref ma, .ref ha, .ref ba, .ref oa], ⟨rfl, rfl, rfl, rfl, rfl, rfl, trivial⟩, rfl, hlt, eh2, eb2, eo2, hk2⟩
    · have hiN2 : i = N := by lia
      subst hiN2
      rw [hNe]
      repeat (walk_at "M")
      refine ⟨fun _ => ?_, fun z => absurd z (by simp)⟩
      repeat (walk_at "M")
      exact ⟨oa, rfl, eo, hoa, hk⟩
  · intro H' vs zz
    refine ea0_3 zz fun qq0 hi _ => ?_
    subst qq0
    (try clear zz)
    lia
end
section
variable {C : Cx}
theorem dget_dput {K : Type} [DecidableEq K] (l : List (K × MV)) (k : K) (v : MV) (k' : K) : dget (dput l k v) k' = if k' = k then some v else dget l k' := by
  unfold dput dget
  split
  · rename_i h
    induction l with
    | nil => simp at h
    | cons p l ih =>
      simp only [List.map_cons, List.find?_cons]
      by_cases q : p.1 = k
      · simp only [q, if_true]
        by_cases q' : k = k'
        · subst q'; simp
        · have q2 : ¬ k' = k := fun e => q' e.symm
          simp only [q', decide_false, q2, if_false]
          by_cases hl : l.any (fun kv => decide (kv.1 = k)) = true
          · have := ih hl; rw [if_neg q2] at this; exact this
          · have : l.map (fun kv => if kv.1 = k then (kv.1, v) else kv) = l := by
              rw [List.map_congr_left (g := id)]
              · simp
              · intro x hx
                have : ¬ x.1 = k := fun e => hl (List.any_eq_true.mpr ⟨x, hx, by simpa using e⟩)
                simp [this]
            rw [this]
      · simp only [q, if_false]
        have hl : l.any (fun kv => decide (kv.1 = k)) = true := by simpa [q] using h
        have := ih hl
        by_cases q' : p.1 = k'
        · have q2 : ¬ k' = k := fun e => q (q'.trans e)
          simp only [q', decide_true, if_neg q2]
        · simp only [q', decide_false]; exact this
  · rename_i h
    rw [List.find?_append]
    by_cases q : k' = k
    · subst q
      have : l.find? (fun q => decide (q.1 = k')) = none := by
        rw [List.find?_eq_none]
        intro x hx e
        exact h (List.any_eq_true.mpr ⟨x, hx, e⟩)
      rw [this]
      simp
    · have q2 : ¬ k = k' := fun e => q e.symm
      simp [q2, q]
theorem dput_length {K : Type} [DecidableEq K] (l : List (K × MV)) (k : K) (v : MV) : (dput l k v).length ≤ l.length + 1 := by
  unfold dput; split <;> simp
noncomputable def Rw (start t : Int) : Str := mkS (rowL (Builtin.bitXor start t))
noncomputable def GOk (start : Int) (ds : List (Int × Int)) (G : Str → Int → Str) : Prop := ∀ c ∈ chL ds, ∀ d ∈ ds, G (Rw start c.2.1) d.1 = Rw start (Builtin.bitXor c.2.1 d.1)
/-- the plain facts that the law comes to -/
structure Plain (start manner : Int) (ds : List (Int × Int)) : Prop where
  len : (chL ds).length ≤ 16
  rng : ∀ c ∈ chL ds, 0 ≤ Builtin.bitXor start c.2.1 ∧ Builtin.bitXor start c.2.1 < 65536
  inj : ∀ c ∈ chL ds, ∀ c' ∈ chL ds, Rw start c.2.1 = Rw start c'.2.1 → Builtin.bitXor start c.2.1 = Builtin.bitXor start c'.2.1
  fm : ∀ m : Int, 0 ≤ m → m < 65536 → fmL m = rowL m
  x0 : Builtin.bitXor start 0 = start
  c0 : ∃ c ∈ chL ds, c.2.1 = 0
  clo : ∀ c ∈ chL ds, ∀ d ∈ ds, ledM (Builtin.bitXor start c.2.1) d.1 = Builtin.bitXor start (Builtin.bitXor c.2.1 d.1) ∧ ∃ c' ∈ chL ds, c'.2.1 = Builtin.bitXor c.2.1 d.1
  rne : ∀ t, Rw start t ≠ Str.ofString ""
  wlen : (rowL start).length ≤ 1000
  wasc : ∀ c ∈ rowL start, c < 128
  wrd : wrdF (wrtL (rowL start) manner) = some (rowL start, [])
  wtl : (wrtL (rowL start) manner).length ≤ 10000
  wln : lnAt (wrtL (rowL start) manner) (wrtL (rowL start) manner).length = 1 + manner / 2
  bf1 : ∀ G, GOk start ds G → ∀ j : Nat, 1 ≤ j → ((itS G ds (Rw start 0) j).2 = [] ↔ dEq (chpL (Rw start) (chL ds) j) (chpL (Rw start) (chL ds) (j - 1 : Nat)) = true)
  bf2 : ∀ G, GOk start ds G → ∀ j : Nat, dEq (itS G ds (Rw start 0) j).1 (chpL (Rw start) (chL ds) j) = true
  bf3 : dEq (chpL (Rw start) (chL ds) (5 : Nat)) (chpL (Rw start) (chL ds) (4 : Nat)) = true
  bf4 : ∀ G, GOk start ds G → ∀ k, (∀ r ∈ (itS G ds (Rw start 0) k).2, (∃ c ∈ chL ds, r = Rw start c.2.1) ∧ ∃ i, ilook (itS G ds (Rw start 0) k).1 r = some i) ∧ (itS G ds (Rw start 0) k).2.length < 40 ∧ (itS G ds (Rw start 0) k).1.length ≤ 1000
  nd : ∀ K : Nat, (∀ p ∈ chpL (Rw start) (chL ds) K, ilook (chpL (Rw start) (chL ds) K) p.1 = some p.2) ∧ ((chpL (Rw start) (chL ds) K).map fun p => (p.2, p.1)).Nodup ∧ (chpL (Rw start) (chL ds) K).length < 64
  hp : ∀ G, GOk start ds G → ∃ N, N < 70 ∧ (bhS G ds (Rw start 0) N).heap = [] ∧
    (∀ k, k < N → (bhS G ds (Rw start 0) k).heap ≠ [] ∧ (bhS G ds (Rw start 0) k).heap.length ≤ 500 ∧ (bhS G ds (Rw start 0) k).best.length ≤ 500 ∧ (bhS G ds (Rw start 0) k).out.length ≤ 500 ∧ (∃ c ∈ chL ds, (popT (bhS G ds (Rw start 0) k).heap).2 = Rw start c.2.1) ∧ ∃ i, ilook (bhS G ds (Rw start 0) k).best (popT (bhS G ds (Rw start 0) k).heap).2 = some i) ∧
    ∀ K : Nat, 1 ≤ K → dEq (chpL (Rw start) (chL ds) K) (chpL (Rw start) (chL ds) (K - 1 : Nat)) = true → ∀ l' : List PS, l'.Perm ((chpL (Rw start) (chL ds) K).map fun p => (p.2, p.1)) → l'.Pairwise (fun p q => ltP p q = true) → (bhS G ds (Rw start 0) N).out = l'
set_option maxHeartbeats 4000000 in
theorem fn_holds (O : C.Ok) {H : Hp} {start manner : Int} {da : Addr} {ds : List (Int × Int)} (P : Plain start manner ds) (ht : H 190 = some (.raw (tabObj #[]))) (hd : H da = some (.list (ds.map dP))) (hdl : ds.length ≤ 4) (hs0 : 0 ≤ start) (hs1 : start < 65536) (hm0 : 0 ≤ manner) (hm1 : manner < 3) :
    FnC C 207 6 [.int start, .int manner, .ref da] H fun v H' => v = .bool true ∧ ∃ ps, H' 190 = some (.raw (tabObj ps)) := by
  refine FnC_cells O [Str.ofString "start", Str.ofString "manner", Str.ofString "deeds"] (fun L => [(Str.ofString "told", L + 1)]) rfl (by rfl) (fun vs hv => ?_) rfl (by decide) (by decide) (fun L => rfl) (fun L p hp => ?_) (fun A L R hc => ?_) rfl rfl rfl
  · obtain ⟨x, y, z, rfl⟩ := vs3 hv; rfl
  · simp only [List.mem_cons, List.not_mem_nil, or_false] at hp
    subst hp; rfl
  have hh := R.handled
  have hu : A.units + 3 < cLine := by have := R.units; lia
  have hc1 : H (L + 1) = none := hc (Str.ofString "told", L + 1) (by simp)
  show WX C A _ _ (H.put (L + 1) (.cell none)) _ _
  have ht1 : (H.put (L + 1) (.cell none)) 190 = some (.raw (tabObj #[])) := Hp.get_ne (ne_of_own ht hc1) ht
  have hd1 : (H.put (L + 1) (.cell none)) da = some (.list (ds.map dP)) := Hp.get_ne (ne_of_own hd hc1) hd
  have hcl1 : (H.put (L + 1) (.cell none)) (L + 1) = some (.cell none) := Hp.put_self ..
  generalize H.put (L + 1) (.cell none) = H1 at *
  clear hc1 hc ht hd
  repeat (walk_at "M")
  refine OC_FnC (fn_choices O hd1 hdl) (R.less (by decide)) fun v H2 z => ?_
  refine ea1_3 z fun ca qq1 hca qq3 => ?_
  subst qq1 qq3
  (try clear z)
  have ht2 : (H1.put ca (.list ((chL ds).map cP))) 190 = some (.raw (tabObj #[])) := Hp.get_ne (ne_of_own ht1 hca) ht1
  have hd2 : (H1.put ca (.list ((chL ds).map cP))) da = some (.list (ds.map dP)) := Hp.get_ne (ne_of_own hd1 hca) hd1
  have hcl2 : (H1.put ca (.list ((chL ds).map cP))) (L + 1) = some (.cell none) := Hp.get_ne (ne_of_own hcl1 hca) hcl1
  have ec2 : (H1.put ca (.list ((chL ds).map cP))) ca = some (.list ((chL ds).map cP)) := Hp.put_self ..
  generalize H1.put ca (.list ((chL ds).map cP)) = H2 at *
  have ndc : da ≠ ca := ne_of_own hd1 hca
  clear ht1 hd1 hcl1 hca
  repeat (walk_at "m")
  refine X_cons (S_Assign (W_DictI fun ra hra => ?_))
  repeat (walk_at "m")
  refine X_cons (S_Assign (W_DictI fun na hna => ?_))
  refine ea0_2 (Hp.put_none hna) fun nnr hna => ?_
  repeat (walk_at "m")
  refine X_cons (S_Assign (W_DictS fun ma hma => ?_))
  refine ea0_2 (Hp.put_none hma) fun nmn hma => ?_
  refine ea0_2 (Hp.put_none hma) fun nmr hma => ?_
  have ht3 : (((H2.put ra (.idd [])).put na (.idd [])).put ma (.sd [])) 190 = some (.raw (tabObj #[])) := Hp.get_ne (ne_of_own ht2 hma) (Hp.get_ne (ne_of_own ht2 hna) (Hp.get_ne (ne_of_own ht2 hra) ht2))
  have hd3 : (((H2.put ra (.idd [])).put na (.idd [])).put ma (.sd [])) da = some (.list (ds.map dP)) := Hp.get_ne (ne_of_own hd2 hma) (Hp.get_ne (ne_of_own hd2 hna) (Hp.get_ne (ne_of_own hd2 hra) hd2))
  have hcl3 : (((H2.put ra (.idd [])).put na (.idd [])).put ma (.sd [])) (L + 1) = some (.cell none) := Hp.get_ne (ne_of_own hcl2 hma) (Hp.get_ne (ne_of_own hcl2 hna) (Hp.get_ne (ne_of_own hcl2 hra) hcl2))
  have ec3 : (((H2.put ra (.idd [])).put na (.idd [])).put ma (.sd [])) ca = some (.list ((chL ds).map cP)) := Hp.get_ne (ne_of_own ec2 hma) (Hp.get_ne (ne_of_own ec2 hna) (Hp.get_ne (ne_of_own ec2 hra) ec2))
  have er3 : (((H2.put ra (.idd [])).put na (.idd [])).put ma (.sd [])) ra = some (.idd []) := Hp.get_ne (Ne.symm nmr) (Hp.get_ne (Ne.symm nnr) (Hp.put_self ..))
  have en3 : (((H2.put ra (.idd [])).put na (.idd [])).put ma (.sd [])) na = some (.idd []) := Hp.get_ne (Ne.symm nmn) (Hp.put_self ..)
  have em3 : (((H2.put ra (.idd [])).put na (.idd [])).put ma (.sd [])) ma = some (.sd []) := Hp.put_self ..
  generalize ((H2.put ra (.idd [])).put na (.idd [])).put ma (.sd []) = H3 at *
  clear ht2 hd2 hcl2 ec2 hra hna hma
  repeat (walk_at "m")
  refine X_cons (W.mono (Q := fun (f : MFl) H' lv' => f = MFl.next ∧ AllAt lv' [Str.ofString "start", Str.ofString "manner", Str.ofString "deeds", Str.ofString "choices", Str.ofString "rows", Str.ofString "names", Str.ofString "modes"] [.int start, .int manner, .ref da, .ref ca, .ref ra, .ref na, .ref ma] ∧
    ∃ rl nl ml, H' ra = some (.idd rl) ∧ H' na = some (.idd nl) ∧ H' ma = some (.sd ml) ∧ H' ca = some (.list ((chL ds).map cP)) ∧ H' da = some (.list (ds.map dP)) ∧ H' 190 = some (.raw (tabObj #[])) ∧ H' (L + 1) = some (.cell none) ∧
      ∀ c ∈ chL ds, dget rl c.2.1 = some (.str (Rw start c.2.1)) ∧ dget nl (Builtin.bitXor start c.2.1) = some (.str (Rw start c.2.1)) ∧ dget ml (Rw start c.2.1) = some (.int (Builtin.bitXor start c.2.1))) ?_ ?_)
  · repeat (walk_at "M")
    refine F_list hh (l := (chL ds).map cP) ec3 ?_
    have nrc : ra ≠ ca := ne_kind er3 ec3 (by simp)
    have nnc : na ≠ ca := ne_kind en3 ec3 (by simp)
    have nmc : ma ≠ ca := ne_kind em3 ec3 (by simp)
    have ntc : (190 : Addr) ≠ ca := ne_kind ht3 ec3 (by simp)
    have nlc : L + 1 ≠ ca := ne_kind hcl3 ec3 (by simp)
    have nrn : ra ≠ na := Ne.symm nnr
    have nrm : ra ≠ ma := Ne.symm nmr
    have nnm : na ≠ ma := Ne.symm nmn
    refine ForW_N [Str.ofString "start", Str.ofString "manner", Str.ofString "deeds", Str.ofString "choices", Str.ofString "rows", Str.ofString "names", Str.ofString "modes"] cP
      (fun i H' vs => vs = [.int start, .int manner, .ref da, .ref ca, .ref ra, .ref na, .ref ma] ∧ ∃ rl nl ml, H' ra = some (.idd rl) ∧ H' na = some (.idd nl) ∧ H' ma = some (.sd ml) ∧ H' da = some (.list (ds.map dP)) ∧ H' 190 = some (.raw (tabObj #[])) ∧ H' (L + 1) = some (.cell none) ∧
        rl.length ≤ i ∧ nl.length ≤ i ∧ ml.length ≤ i ∧
        (∀ t, (dget rl t).isSome = true → ∃ c ∈ chL ds, c.2.1 = t ∧ dget rl t = some (.str (Rw start t)) ∧ dget nl (Builtin.bitXor start t) = some (.str (Rw start t)) ∧ dget ml (Rw start t) = some (.int (Builtin.bitXor start t))) ∧
        ∀ j (hj : j < (chL ds).length), j < i → (dget rl ((chL ds)[j]).2.1).isSome = true) (chL ds) ?_
      [.int start, .int manner, .ref da, .ref ca, .ref ra, .ref na, .ref ma] ⟨rfl, rfl, rfl, rfl, rfl, rfl, rfl, trivial⟩ ⟨rfl, [], [], [], Hp.get_del nrc er3, Hp.get_del nnc en3, Hp.get_del nmc em3, Hp.get_del ndc hd3, Hp.get_del ntc ht3, Hp.get_del nlc hcl3, Nat.le_refl _, Nat.le_refl _, Nat.le_refl _, (fun t h => by cases h), (fun j _ h => absurd h (Nat.not_lt_zero _))⟩ ?_
    · rintro i H' vs hi ⟨rfl, rl, nl, ml, er, en, em, ed, et, el, l1, l2, l3, hP, hS⟩
      have hlen16 := P.len
      have hcm := List.getElem_mem hi
      refine ea0_2 (P.rng _ hcm) fun x0 x1 => ?_
      have hX := P.fm _ x0 x1
      have hSi : ∀ rl' : List (Int × MV), (∀ t, (dget rl t).isSome = true → (dget rl' t).isSome = true) → (dget rl' ((chL ds)[i]).2.1).isSome = true → ∀ j (hj : j < (chL ds).length), j < i + 1 → (dget rl' ((chL ds)[j]).2.1).isSome = true := fun rl' h1 h2 j hj hji => by
        rcases Nat.lt_or_ge j i with z | z
        · exact h1 _ (hS j hj z)
        · have : j = i := by lia
          subst this; exact h2
      generalize (chL ds)[i] = c at *
      repeat (walk_at "M")
      refine C_notInI er ?_
      repeat (walk_at "M")
      refine ⟨fun hc => ?_, fun hc => ?_⟩
      · have hni : ¬ (dget rl c.2.1).isSome = true := by simpa using hc
        repeat (walk_at "M")
        refine OC_Fn (fn_row O x0 x1) (R.less (by decide)) fun v H9 z => ?_
        refine ea0_2 z fun qq0 qq1 => ?_
        subst qq0 qq1
        (try clear z)
        repeat (walk_at "M")
        refine I_dictI er (by lia) ?_
        have er4 : (H9.put ra (.idd (dput rl c.2.1 (.str (mkS (rowL (Builtin.bitXor start c.2.1))))))) ra = some (.idd (dput rl c.2.1 (.str (mkS (rowL (Builtin.bitXor start c.2.1)))))) := Hp.put_self ..
        have en4 : (H9.put ra (.idd (dput rl c.2.1 (.str (mkS (rowL (Builtin.bitXor start c.2.1))))))) na = some (.idd nl) := Hp.get_ne nnr en
        have em4 : (H9.put ra (.idd (dput rl c.2.1 (.str (mkS (rowL (Builtin.bitXor start c.2.1))))))) ma = some (.sd ml) := Hp.get_ne nmr em
        have ed4 : (H9.put ra (.idd (dput rl c.2.1 (.str (mkS (rowL (Builtin.bitXor start c.2.1))))))) da = some (.list (ds.map dP)) := Hp.get_ne (ne_kind ed er (by simp)) ed
        have et4 : (H9.put ra (.idd (dput rl c.2.1 (.str (mkS (rowL (Builtin.bitXor start c.2.1))))))) 190 = some (.raw (tabObj #[])) := Hp.get_ne (ne_kind et er (by simp)) et
        have el4 : (H9.put ra (.idd (dput rl c.2.1 (.str (mkS (rowL (Builtin.bitXor start c.2.1))))))) (L + 1) = some (.cell none) := Hp.get_ne (ne_kind el er (by simp)) el
        generalize H9.put ra (.idd (dput rl c.2.1 (.str (mkS (rowL (Builtin.bitXor start c.2.1)))))) = H4 at *
        clear er en em ed et el
        repeat (walk_at "M")
        refine OC_Fn (fn_filemode O) (R.less (by decide)) fun v H9 z => ?_
        refine ea0_2 z fun qq0 qq1 => ?_
        subst qq0 qq1
        (try clear z)
        rw [hX]
        repeat (walk_at "M")
        refine I_dictI en4 (by lia) ?_
        have er5 : (H9.put na (.idd (dput nl (Builtin.bitXor start c.2.1) (.str (mkS (rowL (Builtin.bitXor start c.2.1))))))) ra = some (.idd (dput rl c.2.1 (.str (mkS (rowL (Builtin.bitXor start c.2.1)))))) := Hp.get_ne nrn er4
        have en5 : (H9.put na (.idd (dput nl (Builtin.bitXor start c.2.1) (.str (mkS (rowL (Builtin.bitXor start c.2.1))))))) na = some (.idd (dput nl (Builtin.bitXor start c.2.1) (.str (mkS (rowL (Builtin.bitXor start c.2.1)))))) := Hp.put_self ..
        have em5 : (H9.put na (.idd (dput nl (Builtin.bitXor start c.2.1) (.str (mkS (rowL (Builtin.bitXor start c.2.1))))))) ma = some (.sd ml) := Hp.get_ne nmn em4
        have ed5 : (H9.put na (.idd (dput nl (Builtin.bitXor start c.2.1) (.str (mkS (rowL (Builtin.bitXor start c.2.1))))))) da = some (.list (ds.map dP)) := Hp.get_ne (ne_kind ed4 en4 (by simp)) ed4
        have et5 : (H9.put na (.idd (dput nl (Builtin.bitXor start c.2.1) (.str (mkS (rowL (Builtin.bitXor start c.2.1))))))) 190 = some (.raw (tabObj #[])) := Hp.get_ne (ne_kind et4 en4 (by simp)) et4
        have el5 : (H9.put na (.idd (dput nl (Builtin.bitXor start c.2.1) (.str (mkS (rowL (Builtin.bitXor start c.2.1))))))) (L + 1) = some (.cell none) := Hp.get_ne (ne_kind el4 en4 (by simp)) el4
        generalize H9.put na (.idd (dput nl (Builtin.bitXor start c.2.1) (.str (mkS (rowL (Builtin.bitXor start c.2.1)))))) = H5 at *
        clear er4 en4 em4 ed4 et4 el4
        repeat (walk_at "M")
        refine G_dictI en5 (by rw [dget_dput, if_pos rfl]) ?_
        repeat (walk_at "M")
        refine G_dictI er5 (by rw [dget_dput, if_pos rfl]) ?_
        repeat (walk_at "M")
        rw [bne_self_eq_false]
        repeat (walk_at "M")
        refine G_dictI er5 (by rw [dget_dput, if_pos rfl]) ?_
        refine I_dictS em5 (by lia) ?_
        repeat (walk_at "M")
        intro hcn
        refine ⟨[.int start, .int manner, .ref da, .ref ca, .ref ra, .ref na, .ref ma], ⟨rfl, rfl, rfl, rfl, rfl, rfl, rfl, trivial⟩, rfl, _, _, _, Hp.get_ne nrm er5, Hp.get_ne nnm en5, Hp.put_self .., Hp.get_ne (ne_kind ed5 em5 (by simp)) ed5, Hp.get_ne (ne_kind et5 em5 (by simp)) et5, Hp.get_ne (ne_kind el5 em5 (by simp)) el5, ?_, ?_, ?_, ?_, ?_⟩
        · have := dput_length rl c.2.1 (.str (mkS (rowL (Builtin.bitXor start c.2.1)))); lia
        · have := dput_length nl (Builtin.bitXor start c.2.1) (.str (mkS (rowL (Builtin.bitXor start c.2.1)))); lia
        · have := dput_length ml (mkS (rowL (Builtin.bitXor start c.2.1))) (.int (Builtin.bitXor start c.2.1)); lia
        · intro t htS
          by_cases q : t = c.2.1
          · refine ⟨c, hcm, q.symm, ?_, ?_, ?_⟩
            · rw [q, dget_dput, if_pos rfl]; rfl
            · rw [q, dget_dput, if_pos rfl]; rfl
            · rw [q, dget_dput, if_pos (by rfl)]
          · rw [dget_dput, if_neg q] at htS
            refine ea1_5 (hP t htS) fun c' hc' e' g1 g2 g3 => ?_
            refine ⟨c', hc', e', ?_, ?_, ?_⟩
            · rw [dget_dput, if_neg q]; exact g1
            · rw [dget_dput]
              by_cases q2 : Builtin.bitXor start t = Builtin.bitXor start c.2.1
              · rw [if_pos q2]; unfold Rw; rw [q2]
              · rw [if_neg q2]; exact g2
            · rw [dget_dput]
              by_cases q2 : Rw start t = mkS (rowL (Builtin.bitXor start c.2.1))
              · rw [if_pos q2]
                have := P.inj c' hc' c hcm (by rw [e']; exact q2)
                rw [e'] at this
                rw [this]
              · rw [if_neg q2]; exact g3
        · refine hSi _ (fun t h => ?_) (by rw [dget_dput, if_pos rfl]; rfl)
          rw [dget_dput]
          by_cases q : t = c.2.1
          · rw [if_pos q]; rfl
          · rw [if_neg q]; exact h
      · have hyi : (dget rl c.2.1).isSome = true := by simpa using hc
        repeat (walk_at "M")
        intro hcn
        exact ⟨[.int start, .int manner, .ref da, .ref ca, .ref ra, .ref na, .ref ma], ⟨rfl, rfl, rfl, rfl, rfl, rfl, rfl, trivial⟩, rfl, rl, nl, ml, er, en, em, ed, et, el, by lia, by lia, by lia, hP, hSi rl (fun t h => h) hyi⟩
    · rintro H' vs lv hat ⟨rfl, rl, nl, ml, er, en, em, ed, et, el, l1, l2, l3, hP, hS⟩
      refine ⟨rfl, hat, rl, nl, ml, Hp.get_ne nrc er, Hp.get_ne nnc en, Hp.get_ne nmc em, Hp.put_self .., Hp.get_ne ndc ed, Hp.get_ne ntc et, Hp.get_ne nlc el, fun c hc => ?_⟩
      obtain ⟨j, hj, rfl⟩ := List.getElem_of_mem hc
      refine ea1_5 (hP _ (hS j hj hj)) fun _ _ _ g1 g2 g3 => ?_
      exact ⟨g1, g2, g3⟩
  · rintro f H4 lv4 ⟨rfl, hat, rl, nl, ml, er, en, em, ec, ed, et, el, hT⟩
    refine ⟨fun _ => W.lessL ?_ (lvOf_sub _ _ hat), fun z => absurd rfl z⟩
    clear ht3 hd3 hcl3 ec3 er3 en3 em3 hat
    have hlen16 := P.len
    repeat (walk_at "M")
    refine OC_Fn (fn_told O (Rw start) er ec (by lia) fun c hc => (hT c hc).1) (R.less (by decide)) fun v H5 z => ?_
    refine ea2_10 z fun tl as qq2 htl etl has hsub hfr hK1 hK5 hKn hKe => ?_
    subst qq2
    (try clear z)
    have nma : ∀ j (h : j < as.length), ma ≠ as[j] := fun j h => ne_of_own em (hfr j h)
    clear hfr
    have ntl : L + 1 ≠ tl := fun z => by rw [z] at el; rw [el] at htl; cases htl
    repeat (walk_at "m")
    refine ⟨⟨_, hsub _ _ el⟩, ?_⟩
    have nk : ∀ b y, H4 b = some y → b ≠ L + 1 → (H5.put (L + 1) (.cell (some (.ref tl)))) b = some y := fun b y e n => Hp.get_ne n (hsub b y e)
    have en6 := nk _ _ en (ne_kind en el (by simp))
    have em6 := nk _ _ em (ne_kind em el (by simp))
    have ed6 := nk _ _ ed (ne_kind ed el (by simp))
    have et6 := nk _ _ et (ne_kind et el (by simp))
    have etl6 : (H5.put (L + 1) (.cell (some (.ref tl)))) tl = some (.list (as.map .ref)) := Hp.get_ne (Ne.symm ntl) etl
    have has6 : ∀ j (h : j < as.length), (H5.put (L + 1) (.cell (some (.ref tl)))) as[j] = some (.sd (iVals (chpL (Rw start) (chL ds) (j + 1 : Nat)))) := fun j h => Hp.get_ne (ne_kind (has j h) (hsub _ _ el) (by simp)) (has j h)
    have el6 : (H5.put (L + 1) (.cell (some (.ref tl)))) (L + 1) = some (.cell (some (.ref tl))) := Hp.put_self ..
    generalize H5.put (L + 1) (.cell (some (.ref tl))) = H6 at *
    clear nk en em ed et etl has el hsub htl er ec
    obtain ⟨G, hGdef⟩ : ∃ G : Str → Int → Str, G = fun r d => match dget ml r with | some (.int m) => (match dget nl (ledM m d) with | some (.str s) => s | _ => r) | _ => r := ⟨_, rfl⟩
    have hGto : ∀ c ∈ chL ds, ∀ d ∈ ds, dget ml (Rw start c.2.1) = some (.int (Builtin.bitXor start c.2.1)) ∧ dget nl (ledM (Builtin.bitXor start c.2.1) d.1) = some (.str (G (Rw start c.2.1) d.1)) ∧ G (Rw start c.2.1) d.1 = Rw start (Builtin.bitXor c.2.1 d.1) ∧ ∃ c' ∈ chL ds, G (Rw start c.2.1) d.1 = Rw start c'.2.1 := fun c hc d hd => by
      refine ea0_3 (hT c hc) fun _ _ g3 => ?_
      obtain ⟨k1, c', hc', k2⟩ := P.clo c hc d hd
      refine ea0_3 (hT c' hc') fun _ g2' _ => ?_
      rw [k2] at g2'
      have e1 : dget nl (ledM (Builtin.bitXor start c.2.1) d.1) = some (.str (Rw start (Builtin.bitXor c.2.1 d.1))) := by rw [k1]; exact g2'
      have e2 : G (Rw start c.2.1) d.1 = Rw start (Builtin.bitXor c.2.1 d.1) := by
        rw [hGdef]; dsimp only; rw [g3]; dsimp only; rw [e1]
      exact ⟨g3, by rw [e2]; exact e1, e2, c', hc', by rw [e2, k2]⟩
    have hG : GOk start ds G := fun c hc d hd => (hGto c hc d hd).2.2.1
    have Ld : Led nl ml ds G (fun r => ∃ c ∈ chL ds, r = Rw start c.2.1) := {
      ne := fun r ⟨c, _, e⟩ => e ▸ P.rne _
      to := fun r ⟨c, hc, e⟩ d hd => by
        subst e
        refine ea0_4 (hGto c hc d hd) fun a1 a2 _ a4 => ?_
        exact ⟨_, a1, a2, a4⟩ }
    clear hGdef
    have hR0 : Rw start 0 = mkS (rowL start) := by unfold Rw; rw [P.x0]
    refine ea1_2 (P.c0) fun c0 hc0 hc00 => ?_
    have hns : dget nl start = some (.str (mkS (rowL start))) := by
      have := (hT c0 hc0).2.1
      rw [hc00, P.x0, hR0] at this; exact this
    have b1 := P.bf1 G hG
    have b2 := P.bf2 G hG
    have b4 := P.bf4 G hG
    refine ea1_4 (P.hp G hG) fun N hN hNe hNi hNo => ?_
    rw [hR0] at b1 b2 b4 hNe hNi hNo
    have hKd : dEq (chpL (Rw start) (chL ds) as.length) (chpL (Rw start) (chL ds) (as.length - 1 : Nat)) = true := by
      rcases hKe with z | z
      · rw [z]; exact P.bf3
      · exact z
    repeat (walk_at "M")
    refine G_dictI en6 hns ?_
    repeat (walk_at "M")
    refine OC_FnC (fn_rounds O et6 ed6 en6 em6 Ld hdl P.wlen P.wasc hm0 hm1 P.wrd P.wtl P.wln hK1 (by lia) ((b1 _ hK1).mpr hKd) (fun j h1 h2 z => by have := hKn j h1 h2; rw [(b1 j h1).mp z] at this; cases this) (fun k _ => b4 k)) (R.less (by decide)) fun v H7 z => ?_
    obtain ⟨t2, bs, rfl, et2, hbl, hbs, hk7, ps, e190⟩ := z
    have n190 : ∀ {b : Addr} {y : MObj}, H6 b = some y → y ≠ .raw (tabObj #[]) → H7 b = some y := fun e n => hk7 _ _ e (by simp only [List.mem_cons, List.not_mem_nil, or_false]; exact ne_kind e et6 n)
    have en7 := n190 en6 (by simp)
    have em7 := n190 em6 (by simp)
    have ed7 := n190 ed6 (by simp)
    have etl7 := n190 etl6 (by simp)
    have el7 := n190 el6 (by simp)
    have has7 : ∀ j (h : j < as.length), H7 as[j] = some (.sd (iVals (chpL (Rw start) (chL ds) (j + 1 : Nat)))) := fun j h => n190 (has6 j h) (by simp)
    clear n190 hk7 en6 em6 ed6 etl6 el6 has6 et6
    repeat (walk_at "M")
    refine C_neLD (sK C) (L1 := (List.range as.length).map fun j => (itS G ds (mkS (rowL start)) (j + 1)).1) (L2 := (List.range as.length).map fun j => chpL (Rw start) (chL ds) ((j + 1 : Nat) : Int)) (by lia) et2 etl7 (by simp [hbl]) (by simp) (by simp) (fun i x hx => ?_) (fun i x hx => ?_) (fun i hi => ?_) ?_
    · refine ea1_1 (List.getElem?_eq_some_iff.mp hx) fun hi qq1 => ?_
      subst qq1
      rw [hbs i hi]
      have : i < as.length := by lia
      simp [List.getD, this, sK]
    · refine ea1_1 (List.getElem?_eq_some_iff.mp hx) fun hi qq1 => ?_
      subst qq1
      rw [has7 i hi]
      simp [List.getD, hi, sK]
    · simp only [List.length_map, List.length_range] at hi
      have := b2 (i + 1)
      simpa [List.getD, hi] using this
    repeat (walk_at "m")
    have hout := hNo as.length hK1 hKd
    refine ea0_3 (P.nd as.length) fun hnd1 hnd2 hnd3 => ?_
    clear hNo b1 hKd hKn hKe
    have hlast := has7 (as.length - 1) (by lia)
    have hla : as.length - 1 + 1 = as.length := by lia
    rw [hla] at hlast
    have hgl : (as.map MV.ref)[(-1 + ((as.map MV.ref).length : Int)).toNat]? = some (.ref (as[as.length - 1]'(by lia))) := by
      have e1 : (-1 + ((as.map MV.ref).length : Int)).toNat = as.length - 1 := by rw [List.length_map]; lia
      rw [e1, List.getElem?_map, List.getElem?_eq_getElem (by lia)]; rfl
    have nml := nma (as.length - 1) (by lia)
    clear nma
    generalize as[as.length - 1]'(by lia) = al at *
    generalize chpL (Rw start) (chL ds) (as.length : Nat) = lst at *
    refine W.expose hlast fun o hRaw => ?_
    have ne : ∀ {b : Addr} {y : MObj}, H7 b = some y → y ≠ .sd (iVals lst) → (H7.put al (.raw o)) b = some y := fun e n => Hp.get_ne (ne_kind e hlast n) e
    have en8 := ne en7 (by simp)
    have em8 : (H7.put al (.raw o)) ma = some (.sd ml) := Hp.get_ne nml em7
    have ed8 := ne ed7 (by simp)
    have etl8 := ne etl7 (by simp)
    have el8 := ne el7 (by simp)
    have e8 := ne e190 (by simp)
    have eal8 : (H7.put al (.raw o)) al = some (.raw o) := Hp.put_self ..
    generalize H7.put al (.raw o) = H8 at *
    clear ne en7 em7 ed7 etl7 el7 e190 hlast has7 et2 hbs
    repeat (walk_at "M")
    refine W_LC_raw hh rfl (by decide) rfl (by decide) ?_
    repeat (walk_at "M")
    refine G_listN (l := as.map .ref) etl8 (by decide) (by rw [List.length_map]; lia) hgl ?_ (by rw [List.length_map]; lia)
    refine ⟨al, o, lst, rfl, eal8, hRaw, fun D L' hD => ?_⟩
    refine CompO_map (X := Str × Int) (fun p => .str p.1) (fun p => MV.pr (p.2, p.1)) lst [] _ (fun x l' lv' hx => ?_) (by simp; lia) (fun l => Hp.get_ne (ne_of_own eal8 hD) eal8) ?_
    · have ntD : tl ≠ D := ne_of_own etl8 hD
      have nlD : L + 1 ≠ D := ne_of_own el8 hD
      have naD : al ≠ D := ne_of_own eal8 hD
      repeat (walk_at "M")
      refine G_listN (l := as.map .ref) (Hp.get_ne ntD etl8) (by decide) (by rw [List.length_map]; lia) hgl ?_ (by rw [List.length_map]; lia)
      repeat (walk_at "M")
      refine G_dictRaw (i := x.2) (Hp.get_ne naD eal8) hRaw (by rw [dget_look, hnd1 x hx]; rfl) ?_
      repeat (walk_at "M")
      exact ⟨rfl, rfl⟩
    · repeat (walk_at "M")
      have eD : (H8.put D (.list ([] ++ lst.map fun p => MV.pr (p.2, p.1)))) D = some (.list ((lst.map fun p => (p.2, p.1)).map MV.pr)) := by rw [Hp.put_self, List.nil_append, List.map_map]; rfl
      refine K_sortedP eD (by simpa using hnd3) hnd2 fun b l' hb hperm hpw => ?_
      have ho := hout l' hperm hpw
      have ne : ∀ {b' : Addr} {y : MObj}, H8 b' = some y → ((H8.put D (.list ([] ++ lst.map fun p => MV.pr (p.2, p.1)))).put b (.list (l'.map MV.pr))) b' = some y := fun e => by
        have z1 := Hp.get_ne (x := .list ([] ++ lst.map fun p => MV.pr (p.2, p.1))) (ne_of_own e hD) e
        exact Hp.get_ne (ne_of_own z1 hb) z1
      have en9 := ne en8
      have em9 := ne em8
      have ed9 := ne ed8
      have e9 := ne e8
      have eb9 : ((H8.put D (.list ([] ++ lst.map fun p => MV.pr (p.2, p.1)))).put b (.list (l'.map MV.pr))) b = some (.list (l'.map MV.pr)) := Hp.put_self ..
      generalize (H8.put D (.list ([] ++ lst.map fun p => MV.pr (p.2, p.1)))).put b (.list (l'.map MV.pr)) = H9 at *
      clear ne en8 em8 ed8 e8 hb eD
      repeat (walk_at "M")
      refine G_dictI en9 hns ?_
      repeat (walk_at "M")
      refine OC_Fn (fn_by_heap O ed9 en9 em9 Ld hdl hN hNe hNi) (R.less (by decide)) fun v HA z => ?_
      refine ea1_4 z fun oa qq1 eoa hoa hsA => ?_
      subst qq1
      (try clear z)
      rw [ho] at eoa
      repeat (walk_at "M")
      refine C_eqLP (l := l') hu eoa (hsA _ _ eb9) ?_
      repeat (walk_at "M")
      exact ⟨rfl, ps, hsA _ _ e9⟩
end
section
/-- what an end that is True comes to -/
theorem law_end (C : Cx) {L : Addr} {F : Fz} {f : Flow} {s' : Shared} {cl : Str → Option Addr} {mean : ExcName → Option Value} {args : List WData} {s0 : Shared} {res : Result} (hres : ∀ v, f = .ret v → res = .ok (.ret v))
    (hg0 : s0.heap = C.h₀) (hos : s0.os = C.os) (hr : ∀ cls, PySem.Challenge.rw_oy0143_01.row.claim.raises args cls = false) (hp : PySem.Challenge.rw_oy0143_01.row.claim.post args (.bool true) args = true)
    (h : Pst C L FRep F (fun fl H' _ => fl = MFl.ret (.bool true) ∧ ∃ ps, H' 190 = some (.raw (tabObj ps))) f s') :
    GoodW PySem.Challenge.rw_oy0143_01.row.claim cl mean args s0 res s' ∧ GrownAll [(194, 190)] s'.heap := by
  obtain ⟨F', H', lv', x, k, st, r, rfl, ps, e⟩ := h
  cases r with
  | ret r =>
    cases r
    rw [hres _ rfl]
    obtain ⟨_, _, o, ho, rfl⟩ := st.own _ _ e
    exact ⟨⟨.inl ⟨_, .bool true, [], rfl, hr, .bool _, hp, fun _ => ⟨List.nodup_nil, fun a ha => (nomatch ha)⟩⟩, fun b o eb => st.keepsB b o (hg0 ▸ eb), st.os.trans hos.symm, st.gens⟩, ⟨ps, ho⟩, trivial⟩
theorem W_applyX {C : Cx} {A : Around} {env : Env} {b : List Stmt} {H : Hp} {lv : Lv} {Q : MFl → Hp → Lv → Prop} {F : Fz} {s : Shared} (h : WX C A env b H lv Q) (st : St C F H env.locals lv s) : wpAny C.M A (execs b env) (Pst C env.locals FRep F Q) NoE s := h F s st
/-- the state at the law's own call -/
theorem law_start {w : World} {g h₁ : Heap} {L a : Addr} {s : Shared} {os : OsState} {m : Str → Option Value} (hs : s.heap = h₁) (hos : s.os = os) (hg : s.gens = #[]) (F' : Fr g L h₁ m) (N' : News g L h₁ [(190, tabObj #[])]) (hm : m (Str.ofString "script") = some (.ref a)) (hsz : 190 < g.objs.size) :
    St ⟨w, g, os⟩ (fun b => g.get? b) (Hp.put (fun _ => none) 190 (.raw (tabObj #[]))) L (Lv.put (fun _ => none) (Str.ofString "script") (.ref a)) s := by
  subst hs
  refine ea0_3 (N' (190, tabObj #[]) (List.mem_cons_self ..)) fun e1 e2 e3 => ?_
  refine ⟨F'.keep, fun b x e => ?_, Heap.get?_none_of_le F'.above, ⟨m, F'.ns, fun x => ?_⟩, fun b o e => e, F'.above, hg, hos, ?_, ?_⟩
  · unfold Hp.put at e
    split at e
    · rename_i q; subst q
      cases e
      exact ⟨e3, e2, _, e1, rfl⟩
    · cases e
  · unfold Lv.put
    split
    · rename_i q; subst q; rw [hm]; exact .some (.ref _)
    · exact .none
  · show (Hp.put (fun _ => none) 190 (.raw (tabObj #[]))) sysModules = none
    exact Hp.none_ne (a := 190) (b := sysModules) (by decide) rfl
  · exact Nat.lt_trans (by decide) hsz
set_option maxHeartbeats 4000000 in
theorem law_holds (hPlain : ∀ (start manner : Int) (ds : List (Int × Int)), 0 ≤ start → start < 65536 → 0 ≤ manner → manner < 3 → ds.length = 4 → (∀ p ∈ ds, 0 ≤ p.1 ∧ p.1 < 4096 ∧ 1 ≤ p.2) → Plain start manner ds) : PySem.Challenge.rw_oy0143_01.Holds := by
  refine Mine.hd (by (conv => rhs; whnf)) ?_
  intro w s₀ s₁ mg mb G Y fa o pm cd doc dV kV ho hd hcd hD hmg hg args vals as hpre hlay hrd hwl hlo
  have KX := km_in_of Y
  have hT8 := km_tabs_of Y
  have X := (Ground.X G).1
  have V := (Ground.X G).2
  refine Ground.open G ?_
  intro T B D TE TW
  try (refine guard_noD D (by decide +kernel) ?_; clear D)
  have hT9 : TabsAt ([(194, 190)] : List (Addr × Addr)) _ := List.forall_mem_cons.mpr ⟨⟨codeHd_of_K (c := 194) (P := 190) KX (by kernel_rfl), hT8 190 (List.mem_singleton.mpr rfl)⟩, fun _ h => nomatch h⟩
  clear hmg
  wrow_args hpre hlay hrd hwl hlo
  all_goals (
    first | refine callC_kw (enter_call ?_) | refine enter_call ?_
    w_top on
    kn_posts
    w_call any ho hd hcd hD T F
    clear hd
    kn_ghosts F T
    k_drop
    skip)
  rename Shared.gens _ = _ => hg
  rename Frag.In _ (ghostOf _ _) => X'
  rename Top _ _ _ _ _ (ghostOf _ _) => T'
  rename Fr _ _ _ _ => F'
  rename News _ _ _ _ => N'
  rename IntsAre _ _ => hI
  rename ¬ _ => hcond
  rename World => w
  generalize hgh : ghostOf _ [(194, 190)] = g at *
  have O : ∀ os, Cx.Ok ⟨w, g, os⟩ := fun os => ⟨X', ⟨_, _, _, _, _, T'⟩, codeHd⟩
  have hsz : 207 < g.objs.size := Heap.lt_size (X' 207 _ rfl)
  refine wpAny_mono (W_applyX (Q := fun (fl : MFl) H' _ => fl = MFl.ret (.bool true) ∧ ∃ ps, H' 190 = some (.raw (tabObj ps))) (C := ⟨w, g, _⟩) ?_ (law_start rfl rfl hg F' N' rfl (by omega))) (fun f s' hp => ?_) fun _ _ e => e.elim
  · have R0 : Room 9 callerA := ⟨rfl, by decide +kernel, by decide +kernel, ⟨_, rfl⟩⟩
    have RR : ∀ env, Room 8 (callerA.deeper env) := fun env => R0.deeper env
    have hh : ∀ env, (callerA.deeper env).handled = none := fun env => R0.handled
    rename List Int => ns
    have hn : ns.length ≤ 63 := by omega
    rename Shared => s1
    have Ok := O s1.os
    dsimp only
    repeat (walk_at "M")
    refine OC_Fn (fn_drawn Ok lifted hI hn) ((RR _).less (by decide)) fun v H' z => ?_
    refine ea4_9 z fun start manner ds d qq4 hd qq6 b1 b2 b3 b4 b5 b6 => ?_
    subst qq4 qq6
    (try clear z)
    refine A_Tuple (hh _) ?_ rfl
    repeat (walk_at "M")
    have nd : (190 : Addr) ≠ d := Ne.symm (Hp.put_none hd).1
    refine OC_FnC (fn_holds Ok (hPlain start manner ds b1 b2 b3 b4 b5 b6) (Hp.get_ne nd (Hp.put_self ..)) (Hp.put_self ..) (by omega) b1 b2 b3 b4) ((RR _).less (by decide)) fun v H' z => ?_
    obtain ⟨rfl, ps, e⟩ := z
    repeat (walk_at "M")
    exact ⟨rfl, ps, e⟩
  · refine law_end (C := ⟨w, g, _⟩) (fun v e => ?_) ?_ ?_ (fun _ => ?_) ?_ hp
    · subst e; rfl
    · rfl
    · rfl
    · rfl
    · exact postW_of (X := true == true) rfl (w_eq_bool rfl rfl) rfl
end
end Mine
end
section
open PySem PySem.W PyProof.Rows PySem.Calls PySem.Spec Builtin
set_option Elab.async false
set_option maxRecDepth 100000
set_option linter.unusedVariables false
set_option linter.unusedSectionVars false
namespace Mine
/-! ### bits -/
theorem nat_xor_and : ∀ (n a b : Nat), a + b = n → (a ^^^ b) + (a &&& b) = a ||| b := by
  intro n
  induction n using Nat.strongRecOn with
  | ind n ih =>
    intro a b hn
    by_cases h0 : a = 0 ∧ b = 0
    · obtain ⟨rfl, rfl⟩ := h0; rfl
    · have ih' := ih (a / 2 + b / 2) (by lia) (a / 2) (b / 2) rfl
      have e1 : ∀ x : Nat, x = 2 * (x / 2) + x % 2 := fun x => by lia
      have hx := e1 (a ^^^ b)
      have ha := e1 (a &&& b)
      have ho := e1 (a ||| b)
      rw [Nat.xor_div_two] at hx
      rw [Nat.and_div_two] at ha
      rw [Nat.or_div_two] at ho
      have m1 : (a ^^^ b) % 2 = (a % 2) ^^^ (b % 2) := Nat.xor_mod_two_pow (n := 1)
      have m2 : (a &&& b) % 2 = (a % 2) &&& (b % 2) := Nat.and_mod_two_pow (n := 1)
      have m3 : (a ||| b) % 2 = (a % 2) ||| (b % 2) := Nat.or_mod_two_pow (n := 1)
      rw [hx, ha, ho, m1, m2, m3]
      rcases (show a % 2 = 0 ∨ a % 2 = 1 by lia) with q | q <;> rcases (show b % 2 = 0 ∨ b % 2 = 1 by lia) with q' | q' <;> rw [q, q'] <;> simp <;> lia
theorem bAnd (a b : Nat) : Builtin.bitAnd (a : Int) b = ((a &&& b : Nat) : Int) := by
  unfold Builtin.bitAnd
  have h1 : decide ((0 : Int) ≤ a) = true := by simp
  have h2 : decide ((0 : Int) ≤ b) = true := by simp
  rw [h1, h2]; rfl
theorem bXor (a b : Nat) : Builtin.bitXor (a : Int) b = ((a ^^^ b : Nat) : Int) := by
  unfold Builtin.bitXor Builtin.bitOr
  rw [bAnd]
  have h1 : decide ((0 : Int) ≤ Builtin.bitNot a) = false := by simp [Builtin.bitNot]; lia
  have h2 : decide ((0 : Int) ≤ Builtin.bitNot b) = false := by simp [Builtin.bitNot]; lia
  have e1 : Builtin.bitNot (Builtin.bitNot (a : Int)) = a := by simp [Builtin.bitNot]; lia
  have e2 : Builtin.bitNot (Builtin.bitNot (b : Int)) = b := by simp [Builtin.bitNot]; lia
  have : Builtin.bitNot (Builtin.bitAnd (Builtin.bitNot a) (Builtin.bitNot b)) = ((a ||| b : Nat) : Int) := by
    unfold Builtin.bitAnd
    rw [h1, h2]
    show Builtin.bitNot (Builtin.bitNot _) = _
    rw [e1, e2]
    simp only [Int.toNat_natCast]
    simp [Builtin.bitNot]; lia
  rw [this]
  have := nat_xor_and _ a b rfl
  lia
theorem nat_and_two_pow (n k : Nat) : n &&& 2 ^ k = (n / 2 ^ k % 2) * 2 ^ k := by
  have ht : n.testBit k = decide (n / 2 ^ k % 2 = 1) := Nat.testBit_eq_decide_div_mod_eq
  apply Nat.eq_of_testBit_eq
  intro j
  rw [Nat.testBit_and, Nat.testBit_two_pow]
  rcases (show n / 2 ^ k % 2 = 0 ∨ n / 2 ^ k % 2 = 1 by lia) with q | q
  · rw [q, Nat.zero_mul, Nat.zero_testBit]
    by_cases e : k = j
    · subst e; rw [ht, q]; simp
    · simp [e]
  · rw [q, Nat.one_mul, Nat.testBit_two_pow]
    by_cases e : k = j
    · subst e; rw [ht, q]; simp
    · simp [e]
theorem nat_and_61440 {n : Nat} (h : n < 65536) : n &&& 61440 = 4096 * (n / 4096) := by
  have e1 : (61440 : Nat) = (2 ^ 4 - 1) <<< 12 := by decide
  have e2 : 4096 * (n / 4096) = (n / 2 ^ 12) <<< 12 := by rw [Nat.shiftLeft_eq]; lia
  rw [e1, e2]
  apply Nat.eq_of_testBit_eq
  intro j
  rw [Nat.testBit_and, Nat.testBit_shiftLeft, Nat.testBit_shiftLeft, Nat.testBit_two_pow_sub_one, Nat.testBit_div_two_pow]
  by_cases q : j ≥ 12
  · have e3 : j - 12 + 12 = j := by lia
    rw [e3, decide_eq_true q, Bool.true_and, Bool.true_and]
    by_cases q2 : j - 12 < 4
    · rw [decide_eq_true q2, Bool.and_true]
    · rw [decide_eq_false q2, Bool.and_false]
      have : n < 2 ^ j := Nat.lt_of_lt_of_le h (show 2 ^ 16 ≤ 2 ^ j from Nat.pow_le_pow_right (by lia) (by lia))
      rw [Nat.testBit_lt_two_pow this]
  · rw [decide_eq_false q, Bool.false_and, Bool.false_and, Bool.and_false]
/-- a mode turned by a mask -/
theorem nat_led {x d : Nat} (hx : x < 65536) (hd : d < 4096) : (x &&& 61440) + ((x &&& 4095) ^^^ d) = x ^^^ d := by
  rw [nat_and_61440 hx]
  have e1 : x &&& 4095 = x % 4096 := Nat.and_two_pow_sub_one_eq_mod x 12
  rw [e1]
  have hr : x % 4096 < 2 ^ 12 := Nat.mod_lt _ (by decide)
  have hxr : (x % 4096) ^^^ d < 2 ^ 12 := Nat.xor_lt_two_pow hr hd
  have ex : x = 2 ^ 12 * (x / 4096) + x % 4096 := by lia
  apply Nat.eq_of_testBit_eq
  intro j
  rw [show 4096 * (x / 4096) = 2 ^ 12 * (x / 4096) from rfl, Nat.testBit_two_pow_mul_add _ hxr]
  conv => rhs; rw [Nat.testBit_xor, ex, Nat.testBit_two_pow_mul_add _ hr]
  by_cases q : j < 12
  · rw [if_pos q, if_pos q, Nat.testBit_xor]
  · rw [if_neg q, if_neg q]
    have : d < 2 ^ j := Nat.lt_of_lt_of_le hd (show 2 ^ 12 ≤ 2 ^ j from Nat.pow_le_pow_right (by lia) (by lia))
    rw [Nat.testBit_lt_two_pow this, Bool.xor_false]
theorem bit_iff (n k c : Nat) (C : Int) (hc : c = 2 ^ k) (hC : C = c) : (Builtin.bitAnd (n : Int) C = C) ↔ n / c % 2 = 1 := by
  subst hC hc
  rw [bAnd, nat_and_two_pow]
  have hp : 0 < 2 ^ k := Nat.pow_pos (by decide)
  generalize 2 ^ k = c at *
  rcases (show n / c % 2 = 0 ∨ n / c % 2 = 1 by lia) with q | q
  · rw [q]; lia
  · rw [q]; lia
theorem bit_iff2 (n k l c d : Nat) (C : Int) (hc : c = 2 ^ k) (hd : d = 2 ^ l) (hcd : c ||| d = c + d) (hC : C = (c + d : Nat)) : (Builtin.bitAnd (n : Int) C = C) ↔ (n / c % 2 = 1 ∧ n / d % 2 = 1) := by
  subst hC
  rw [bAnd, ← hcd, Nat.and_or_distrib_left, hcd]
  subst hc hd
  rw [nat_and_two_pow, nat_and_two_pow]
  have hp : 0 < 2 ^ k := Nat.pow_pos (by decide)
  have hp' : 0 < 2 ^ l := Nat.pow_pos (by decide)
  generalize 2 ^ k = c at *
  generalize 2 ^ l = d at *
  rcases (show n / c % 2 = 0 ∨ n / c % 2 = 1 by lia) with q | q <;> rcases (show n / d % 2 = 0 ∨ n / d % 2 = 1 by lia) with q' | q' <;> rw [q, q']
  · simp; lia
  · simp; lia
  · simp; lia
  · rw [Nat.one_mul, Nat.one_mul, hcd]; simp
/-! ### rows -/
theorem fm_one (m : Int) (i : Nat) (hi : i ≠ 0) (c : Int) (ch : Nat) : fmCh m i [(c, ch)] = if Builtin.bitAnd m c = c then ch else 45 := by
  unfold fmCh fmHit
  simp only [List.find?_cons, if_neg hi, List.find?_nil]
  by_cases q : Builtin.bitAnd m c = c
  · simp [q]
  · have : (Builtin.bitAnd m c == c) = false := by simpa using q
    rw [this]; simp [q]
theorem fm_three (m : Int) (i : Nat) (hi : i ≠ 0) (c1 c2 c3 : Int) (h1 h2 h3 : Nat) : fmCh m i [(c1, h1), (c2, h2), (c3, h3)] = if Builtin.bitAnd m c1 = c1 then h1 else if Builtin.bitAnd m c2 = c2 then h2 else if Builtin.bitAnd m c3 = c3 then h3 else 45 := by
  unfold fmCh fmHit
  simp only [List.find?_cons, if_neg hi, List.find?_nil]
  by_cases q1 : Builtin.bitAnd m c1 = c1
  · simp [q1]
  · have e1 : (Builtin.bitAnd m c1 == c1) = false := by simpa using q1
    rw [e1, if_neg q1]
    by_cases q2 : Builtin.bitAnd m c2 = c2
    · simp [q2]
    · have e2 : (Builtin.bitAnd m c2 == c2) = false := by simpa using q2
      rw [e2, if_neg q2]
      by_cases q3 : Builtin.bitAnd m c3 = c3
      · simp [q3]
      · have e3 : (Builtin.bitAnd m c3 == c3) = false := by simpa using q3
        rw [e3]; simp [q3]
theorem fm_first : ∀ t : Nat, t < 16 → ((([(40960,108),(49152,115),(32768,45),(24576,98),(16384,100),(8192,99),(4096,112)] : List (Int × Nat)).find? fun p => ((4096 * t : Nat) : Int) == p.1).map (·.2)).getD 63 = ([63, 112, 99, 63, 100, 63, 98, 63, 45, 63, 108, 63, 115, 63, 63, 63] : List Nat).getD t 0 := by decide
theorem fm_eq (m : Int) (h0 : 0 ≤ m) (h1 : m < 65536) : fmL m = rowL m := by
  obtain ⟨n, rfl⟩ : ∃ n : Nat, m = n := ⟨m.toNat, by lia⟩
  have hn : n < 65536 := by lia
  have e0 : fmL (n : Int) = [fmCh n 0 [(40960,108),(49152,115),(32768,45),(24576,98),(16384,100),(8192,99),(4096,112)], fmCh n 1 [(256,114)], fmCh n 2 [(128,119)], fmCh n 3 [(2112,115),(2048,83),(64,120)], fmCh n 4 [(32,114)], fmCh n 5 [(16,119)], fmCh n 6 [(1032,115),(1024,83),(8,120)], fmCh n 7 [(4,114)], fmCh n 8 [(2,119)], fmCh n 9 [(513,116),(512,84),(1,120)]] := rfl
  rw [e0, fm_one _ 1 (by decide), fm_one _ 2 (by decide), fm_one _ 4 (by decide), fm_one _ 5 (by decide), fm_one _ 7 (by decide), fm_one _ 8 (by decide), fm_three _ 3 (by decide), fm_three _ 6 (by decide), fm_three _ 9 (by decide)]
  have a0 : Builtin.bitAnd (n : Int) 61440 = ((4096 * (n / 4096) : Nat) : Int) := by
    have := bAnd n 61440
    rw [nat_and_61440 hn] at this; exact this
  have c0 : fmCh n 0 [(40960,108),(49152,115),(32768,45),(24576,98),(16384,100),(8192,99),(4096,112)] = [63, 112, 99, 63, 100, 63, 98, 63, 45, 63, 108, 63, 115, 63, 63, 63].getD ((n : Int) / 4096).toNat 0 := by
    unfold fmCh fmHit
    simp only [if_true]
    rw [a0]
    have := fm_first (n / 4096) (by lia)
    have e : ((n : Int) / 4096).toNat = n / 4096 := by lia
    rw [e]; exact this
  rw [c0]
  simp only [bit_iff n 8 256 256 (by decide) (by decide), bit_iff n 7 128 128 (by decide) (by decide), bit_iff n 6 64 64 (by decide) (by decide), bit_iff n 5 32 32 (by decide) (by decide), bit_iff n 4 16 16 (by decide) (by decide), bit_iff n 3 8 8 (by decide) (by decide), bit_iff n 2 4 4 (by decide) (by decide), bit_iff n 1 2 2 (by decide) (by decide), bit_iff n 0 1 1 (by decide) (by decide),
    bit_iff n 11 2048 2048 (by decide) (by decide), bit_iff n 10 1024 1024 (by decide) (by decide), bit_iff n 9 512 512 (by decide) (by decide), bit_iff2 n 11 6 2048 64 2112 (by decide) (by decide) (by decide) (by decide), bit_iff2 n 10 3 1024 8 1032 (by decide) (by decide) (by decide) (by decide), bit_iff2 n 9 0 512 1 513 (by decide) (by decide) (by decide) (by decide)]
  unfold rowL rowCh
  have r1 : (3 < (n : Int) / 64 % 8) ↔ n / 256 % 2 = 1 := by lia
  have r2 : ((n : Int) / 64 % 8 / 2 % 2 == 1) = decide (n / 128 % 2 = 1) := by rw [Bool.eq_iff_iff, beq_iff_eq, decide_eq_true_iff]; lia
  have r3 : ((n : Int) / 64 % 8 % 2 + 2 * ((n : Int) / 2048 % 2)).toNat = n / 64 % 2 + 2 * (n / 2048 % 2) := by lia
  have r4 : (3 < (n : Int) / 8 % 8) ↔ n / 32 % 2 = 1 := by lia
  have r5 : ((n : Int) / 8 % 8 / 2 % 2 == 1) = decide (n / 16 % 2 = 1) := by rw [Bool.eq_iff_iff, beq_iff_eq, decide_eq_true_iff]; lia
  have r6 : ((n : Int) / 8 % 8 % 2 + 2 * ((n : Int) / 1024 % 2)).toNat = n / 8 % 2 + 2 * (n / 1024 % 2) := by lia
  have r7 : (3 < (n : Int) / 1 % 8) ↔ n / 4 % 2 = 1 := by lia
  have r8 : ((n : Int) / 1 % 8 / 2 % 2 == 1) = decide (n / 2 % 2 = 1) := by rw [Bool.eq_iff_iff, beq_iff_eq, decide_eq_true_iff]; lia
  have r9 : ((n : Int) / 1 % 8 % 2 + 2 * ((n : Int) / 512 % 2)).toNat = n / 1 % 2 + 2 * (n / 512 % 2) := by lia
  rw [r2, r3, r5, r6, r8, r9]
  simp only [r1, r4, r7, decide_eq_true_eq, List.cons_append, List.nil_append]
  have tri : ∀ a b : Nat, (a = 0 ∨ a = 1) → (b = 0 ∨ b = 1) → (if b = 1 ∧ a = 1 then 115 else if b = 1 then 83 else if a = 1 then 120 else 45) = ([45, 120, 83, 115] : List Nat).getD (a + 2 * b) 0 := by
    rintro a b (rfl | rfl) (rfl | rfl) <;> rfl
  have tri2 : ∀ a b : Nat, (a = 0 ∨ a = 1) → (b = 0 ∨ b = 1) → (if b = 1 ∧ a = 1 then 116 else if b = 1 then 84 else if a = 1 then 120 else 45) = ([45, 120, 84, 116] : List Nat).getD (a + 2 * b) 0 := by
    rintro a b (rfl | rfl) (rfl | rfl) <;> rfl
  have m2 : ∀ x : Nat, x % 2 = 0 ∨ x % 2 = 1 := fun x => by lia
  rw [tri _ _ (m2 _) (m2 _), tri _ _ (m2 _) (m2 _), tri2 _ _ (m2 _) (m2 _)]
theorem row_nat (n : Nat) : rowL (n : Int) = [([63, 112, 99, 63, 100, 63, 98, 63, 45, 63, 108, 63, 115, 63, 63, 63] : List Nat).getD (n / 4096) 0, if n / 256 % 2 = 1 then 114 else 45, if n / 128 % 2 = 1 then 119 else 45, ([45, 120, 83, 115] : List Nat).getD (n / 64 % 2 + 2 * (n / 2048 % 2)) 0,
    if n / 32 % 2 = 1 then 114 else 45, if n / 16 % 2 = 1 then 119 else 45, ([45, 120, 83, 115] : List Nat).getD (n / 8 % 2 + 2 * (n / 1024 % 2)) 0, if n / 4 % 2 = 1 then 114 else 45, if n / 2 % 2 = 1 then 119 else 45, ([45, 120, 84, 116] : List Nat).getD (n / 1 % 2 + 2 * (n / 512 % 2)) 0] := by
  unfold rowL rowCh
  have r0 : ((n : Int) / 4096).toNat = n / 4096 := by lia
  have r1 : (3 < (n : Int) / 64 % 8) ↔ n / 256 % 2 = 1 := by lia
  have r2 : ((n : Int) / 64 % 8 / 2 % 2 == 1) = decide (n / 128 % 2 = 1) := by rw [Bool.eq_iff_iff, beq_iff_eq, decide_eq_true_iff]; lia
  have r3 : ((n : Int) / 64 % 8 % 2 + 2 * ((n : Int) / 2048 % 2)).toNat = n / 64 % 2 + 2 * (n / 2048 % 2) := by lia
  have r4 : (3 < (n : Int) / 8 % 8) ↔ n / 32 % 2 = 1 := by lia
  have r5 : ((n : Int) / 8 % 8 / 2 % 2 == 1) = decide (n / 16 % 2 = 1) := by rw [Bool.eq_iff_iff, beq_iff_eq, decide_eq_true_iff]; lia
  have r6 : ((n : Int) / 8 % 8 % 2 + 2 * ((n : Int) / 1024 % 2)).toNat = n / 8 % 2 + 2 * (n / 1024 % 2) := by lia
  have r7 : (3 < (n : Int) / 1 % 8) ↔ n / 4 % 2 = 1 := by lia
  have r8 : ((n : Int) / 1 % 8 / 2 % 2 == 1) = decide (n / 2 % 2 = 1) := by rw [Bool.eq_iff_iff, beq_iff_eq, decide_eq_true_iff]; lia
  have r9 : ((n : Int) / 1 % 8 % 2 + 2 * ((n : Int) / 512 % 2)).toNat = n / 1 % 2 + 2 * (n / 512 % 2) := by lia
  rw [r0, r2, r3, r5, r6, r8, r9]
  simp only [r1, r4, r7, decide_eq_true_eq, List.cons_append, List.nil_append]
theorem ite_inj {p q : Prop} [Decidable p] [Decidable q] {x y : Nat} (hxy : x ≠ y) (h : (if p then x else y) = if q then x else y) : p ↔ q := by
  by_cases hp : p
  · by_cases hq : q
    · exact ⟨fun _ => hq, fun _ => hp⟩
    · rw [if_pos hp, if_neg hq] at h; exact absurd h hxy
  · by_cases hq : q
    · rw [if_neg hp, if_pos hq] at h; exact absurd h.symm hxy
    · exact ⟨fun z => absurd z hp, fun z => absurd z hq⟩
theorem tri_inj {l : List Nat} (hl : ∀ i < 4, ∀ j < 4, l.getD i 0 = l.getD j 0 → i = j) {a b a' b' : Nat} (h : l.getD (a % 2 + 2 * (b % 2)) 0 = l.getD (a' % 2 + 2 * (b' % 2)) 0) : a % 2 = a' % 2 ∧ b % 2 = b' % 2 := by
  have := hl _ (by lia) _ (by lia) h
  lia
theorem half_up (c : Nat) {a b : Nat} (h : a / (2 * c) = b / (2 * c)) (h' : a / c % 2 = b / c % 2) : a / c = b / c := by
  have e1 : a / (2 * c) = a / c / 2 := by rw [Nat.mul_comm, Nat.div_div_eq_div_mul]
  have e2 : b / (2 * c) = b / c / 2 := by rw [Nat.mul_comm, Nat.div_div_eq_div_mul]
  rw [e1, e2] at h
  lia
theorem par_of {x y : Nat} (h : x % 2 = 1 ↔ y % 2 = 1) : x % 2 = y % 2 := by
  rcases (show x % 2 = 0 ∨ x % 2 = 1 by lia) with q | q
  · rcases (show y % 2 = 0 ∨ y % 2 = 1 by lia) with q' | q'
    · rw [q, q']
    · have := h.mpr q'; lia
  · rw [q, h.mp q]
/-- the row tells the mode, given its kind -/
theorem row_inj (a b : Nat) (ht : a / 4096 = b / 4096) (h : rowL (a : Int) = rowL (b : Int)) : a = b := by
  rw [row_nat, row_nat] at h
  simp only [List.cons.injEq, and_true] at h
  obtain ⟨_, h8, h7, h6, h5, h4, h3, h2, h1, h0⟩ := h
  have h8 := ite_inj (by decide) h8
  have h7 := ite_inj (by decide) h7
  have h5 := ite_inj (by decide) h5
  have h4 := ite_inj (by decide) h4
  have h2 := ite_inj (by decide) h2
  have h1 := ite_inj (by decide) h1
  obtain ⟨h6, h11⟩ := tri_inj (by decide) h6
  obtain ⟨h3, h10⟩ := tri_inj (by decide) h3
  obtain ⟨h0, h9⟩ := tri_inj (by decide) h0
  have g11 := half_up 2048 ht h11
  have g10 := half_up 1024 g11 h10
  have g9 := half_up 512 g10 h9
  have g8 := half_up 256 g9 (par_of h8)
  have g7 := half_up 128 g8 (par_of h7)
  have g6' := half_up 64 g7 h6
  have g5 := half_up 32 g6' (par_of h5)
  have g4 := half_up 16 g5 (par_of h4)
  have g3' := half_up 8 g4 h3
  have g2 := half_up 4 g3' (par_of h2)
  have g1 := half_up 2 g2 (par_of h1)
  have g0 := half_up 1 g1 h0
  rw [Nat.div_one, Nat.div_one] at g0
  exact g0
theorem row_len (m : Int) : (rowL m).length = 10 := rfl
theorem getD_in (l : List Nat) (i : Nat) : l.getD i 0 ∈ 0 :: l := by
  rcases Nat.lt_or_ge i l.length with h | h
  · have : l.getD i 0 = l[i] := by simp [List.getD, h]
    rw [this]; exact List.mem_cons_of_mem _ (List.getElem_mem h)
  · have : l.getD i 0 = 0 := by simp [List.getD, h]
    rw [this]; exact List.mem_cons_self ..
theorem row_ascii (m : Int) : ∀ c ∈ rowL m, c < 128 ∧ c ≠ 34 ∧ c ≠ 92 ∧ c ∉ wsL := by
  have g1 : ∀ c ∈ (0 :: [63, 112, 99, 63, 100, 63, 98, 63, 45, 63, 108, 63, 115, 63, 63, 63] : List Nat), c < 128 ∧ c ≠ 34 ∧ c ≠ 92 ∧ c ∉ wsL := by decide
  have g2 : ∀ c ∈ (0 :: [45, 120, 83, 115] : List Nat), c < 128 ∧ c ≠ 34 ∧ c ≠ 92 ∧ c ∉ wsL := by decide
  have g3 : ∀ c ∈ (0 :: [45, 120, 84, 116] : List Nat), c < 128 ∧ c ≠ 34 ∧ c ≠ 92 ∧ c ∉ wsL := by decide
  have g4 : ∀ (p : Prop) [Decidable p], (if p then 114 else 45 : Nat) < 128 ∧ (if p then 114 else 45 : Nat) ≠ 34 ∧ (if p then 114 else 45 : Nat) ≠ 92 ∧ (if p then 114 else 45 : Nat) ∉ wsL := by
    intro p _; split <;> decide
  have g5 : ∀ (p : Prop) [Decidable p], (if p then 119 else 45 : Nat) < 128 ∧ (if p then 119 else 45 : Nat) ≠ 34 ∧ (if p then 119 else 45 : Nat) ≠ 92 ∧ (if p then 119 else 45 : Nat) ∉ wsL := by
    intro p _; split <;> decide
  intro c hc
  unfold rowL rowCh at hc
  simp only [List.cons_append, List.nil_append, List.mem_cons, List.not_mem_nil, or_false] at hc
  rcases hc with rfl | rfl | rfl | rfl | rfl | rfl | rfl | rfl | rfl | rfl
  · exact g1 _ (getD_in _ _)
  · exact g4 _
  · exact g5 _
  · exact g2 _ (getD_in _ _)
  · exact g4 _
  · exact g5 _
  · exact g2 _ (getD_in _ _)
  · exact g4 _
  · exact g5 _
  · exact g3 _ (getD_in _ _)
end Mine
end
section
open PySem PySem.W PyProof.Rows PySem.Calls PySem.Spec Builtin
set_option Elab.async false
set_option maxRecDepth 100000
set_option linter.unusedVariables false
set_option linter.unusedSectionVars false
namespace Mine
/-! ### the written word is read -/
noncomputable def plainC (c : Nat) : Prop := c ≠ 34 ∧ c ≠ 92 ∧ c ∉ wsL
theorem pln_one (c : Nat) (r t : List Nat) (hc : plainC c) (hr : r ≠ []) : plnF (c :: r) t = plnF r (t ++ [c]) := by
  cases r with
  | nil => exact absurd rfl hr
  | cons d r =>
    show (if c ∈ wsL then some (t, d :: r) else if c = 92 then plnF r (t ++ [d]) else plnF (d :: r) (t ++ [c])) = _
    rw [if_neg hc.2.2, if_neg hc.2.1]
theorem pln_esc (d : Nat) (r t : List Nat) : plnF (92 :: d :: r) t = plnF r (t ++ [d]) := by
  show (if 92 ∈ wsL then some (t, d :: r) else if 92 = 92 then plnF r (t ++ [d]) else plnF (d :: r) (t ++ [92])) = _
  rw [if_neg (by decide), if_pos rfl]
theorem quo_one (c : Nat) (r t : List Nat) (hc : plainC c) (hr : r ≠ []) : quoF (c :: r) t = quoF r (t ++ [c]) := by
  cases r with
  | nil => exact absurd rfl hr
  | cons d r =>
    show (if c = 34 then some (t, d :: r) else if c = 92 then quoF r (t ++ [d]) else quoF (d :: r) (t ++ [c])) = _
    rw [if_neg hc.1, if_neg hc.2.1]
theorem pln_all : ∀ (r t : List Nat), (∀ c ∈ r, plainC c) → plnF (r ++ [32]) t = some (t ++ r, [])
  | [], t, _ => by
    show (if 32 ∈ wsL then some (t, []) else none) = _
    rw [if_pos (by decide), List.append_nil]
  | c :: r, t, h => by
    rw [List.cons_append, pln_one _ _ _ (h c (List.mem_cons_self ..)) (by simp), pln_all r _ fun x hx => h x (List.mem_cons_of_mem _ hx)]
    simp
theorem esc_all : ∀ (r t : List Nat), plnF ((r.map fun c => [92, c]).flatten ++ [10]) t = some (t ++ r, [])
  | [], t => by
    show (if 10 ∈ wsL then some (t, []) else none) = _
    rw [if_pos (by decide), List.append_nil]
  | c :: r, t => by
    show plnF (92 :: c :: ((r.map fun c => [92, c]).flatten ++ [10])) t = _
    rw [pln_esc, esc_all r]
    simp
theorem quo_all : ∀ (r t : List Nat), (∀ c ∈ r, plainC c) → quoF (r ++ [34]) t = some (t ++ r, [])
  | [], t, _ => by
    show (if 34 = 34 then some (t, []) else none) = _
    rw [if_pos rfl, List.append_nil]
  | c :: r, t, h => by
    rw [List.cons_append, quo_one _ _ _ (h c (List.mem_cons_self ..)) (by simp), quo_all r _ fun x hx => h x (List.mem_cons_of_mem _ hx)]
    simp
theorem wrd_all (c : Nat) (w : List Nat) (m : Int) (h0 : 0 ≤ m) (h1 : m < 3) (h : ∀ x ∈ c :: w, plainC x) : wrdF (wrtL (c :: w) m) = some (c :: w, []) := by
  have hc := h c (List.mem_cons_self ..)
  have hw : ∀ x ∈ w, plainC x := fun x hx => h x (List.mem_cons_of_mem _ hx)
  have key : ∀ (x d : Nat) (r : List Nat), wrdF (x :: d :: r) = if x ∈ wsL then none else if x = 34 then quoF (d :: r) [] else if x = 92 then plnF r [d] else plnF (d :: r) [x] := fun x d r => rfl
  rcases (show m = 0 ∨ m = 1 ∨ m = 2 by lia) with rfl | rfl | rfl
  · have e : wrtL (c :: w) 0 = c :: (w ++ [32]) := rfl
    rw [e]
    obtain ⟨d, r, hd⟩ : ∃ d r, w ++ [32] = d :: r := by
      cases hw' : w ++ [32] with
      | nil => simp at hw'
      | cons d r => exact ⟨d, r, rfl⟩
    rw [hd, key, if_neg hc.2.2, if_neg hc.1, if_neg hc.2.1, ← hd, pln_all w [c] hw]
    rfl
  · have e : wrtL (c :: w) 1 = 34 :: c :: (w ++ [34]) := rfl
    rw [e, key, if_neg (by decide), if_pos rfl]
    have := quo_all (c :: w) [] h
    simpa using this
  · have e : wrtL (c :: w) 2 = 92 :: c :: ((w.map fun c => [92, c]).flatten ++ [10]) := rfl
    rw [e, key, if_neg (by decide), if_neg (by decide), if_pos rfl, esc_all w [c]]
    rfl
theorem cnt_esc : ∀ w : List Nat, (∀ x ∈ w, x ≠ 10) → ((w.map fun c => [92, c]).flatten).count 10 = 0
  | [], _ => rfl
  | c :: w, h => by
    show (92 :: c :: (w.map fun c => [92, c]).flatten).count 10 = 0
    rw [List.count_cons_of_ne (by decide), List.count_cons_of_ne (h c (List.mem_cons_self ..)), cnt_esc w fun x hx => h x (List.mem_cons_of_mem _ hx)]
theorem len_esc (w : List Nat) : ((w.map fun c => [92, c]).flatten).length = 2 * w.length := by
  induction w with
  | nil => rfl
  | cons c w ih => simp at ih ⊢; lia
theorem wrt_len (w : List Nat) (m : Int) : (wrtL w m).length ≤ 2 * w.length + 2 := by
  unfold wrtL
  split
  · rw [List.length_append, len_esc]; simp
  · split <;> simp <;> lia
theorem wrt_ln (w : List Nat) (m : Int) (h0 : 0 ≤ m) (h1 : m < 3) (h : ∀ x ∈ w, x ≠ 10) : lnAt (wrtL w m) (wrtL w m).length = 1 + m / 2 := by
  unfold lnAt
  rw [List.take_length]
  have hw : w.count 10 = 0 := List.count_eq_zero.mpr fun z => h 10 z rfl
  rcases (show m = 0 ∨ m = 1 ∨ m = 2 by lia) with rfl | rfl | rfl
  · have : (wrtL w 0).count 10 = 0 := by show (w ++ [32]).count 10 = 0; rw [List.count_append, hw]; rfl
    rw [this]; rfl
  · have : (wrtL w 1).count 10 = 0 := by show ([34] ++ w ++ [34]).count 10 = 0; rw [List.count_append, List.count_append, hw]; rfl
    rw [this]; rfl
  · have : (wrtL w 2).count 10 = 1 := by
      show ((w.map fun c => [92, c]).flatten ++ [10]).count 10 = 1
      rw [List.count_append, cnt_esc w h]; rfl
    rw [this]; rfl
theorem row_wrd (start m : Int) (h0 : 0 ≤ m) (h1 : m < 3) : wrdF (wrtL (rowL start) m) = some (rowL start, []) := by
  have hp : ∀ x ∈ rowL start, plainC x := fun x hx => (row_ascii start x hx).2
  obtain ⟨c, w, e⟩ : ∃ c w, rowL start = c :: w := ⟨_, _, rfl⟩
  rw [e] at hp ⊢
  exact wrd_all c w m h0 h1 hp
theorem row_ln (start m : Int) (h0 : 0 ≤ m) (h1 : m < 3) : lnAt (wrtL (rowL start) m) (wrtL (rowL start) m).length = 1 + m / 2 :=
  wrt_ln _ _ h0 h1 fun x hx e => (row_ascii start x hx).2.2.2 (by rw [e]; decide)
end Mine
end
section
open PySem PySem.W PyProof.Rows PySem.Calls PySem.Spec Builtin
set_option Elab.async false
set_option maxRecDepth 100000
set_option linter.unusedVariables false
set_option linter.unusedSectionVars false
namespace Mine
/-! ### the choices -/
structure ChB (k : Nat) (c : Int × Int × Int) : Prop where
  s0 : 0 ≤ c.1
  s1 : c.1 ≤ k
  t : ∃ n : Nat, c.2.1 = n ∧ n < 4096
  c0 : 0 ≤ c.2.2
  z : c.1 = 0 → c.2.1 = 0 ∧ c.2.2 = 0
structure ChG (ds : List (Int × Int)) (cs : List (Int × Int × Int)) : Prop where
  b : ∀ c ∈ cs, ChB ds.length c
  z : (0, 0, 0) ∈ cs
  e1 : ∀ c ∈ cs, ∀ d ∈ ds, ∃ c' ∈ cs, c'.2.1 = Builtin.bitXor c.2.1 d.1 ∧ c'.1 ≤ c.1 + 1 ∧ c'.2.2 ≤ c.2.2 + d.2
  e2 : ∀ c ∈ cs, 1 ≤ c.1 → ∃ d ∈ ds, ∃ c' ∈ cs, c'.1 + 1 = c.1 ∧ c'.2.2 + d.2 = c.2.2 ∧ Builtin.bitXor c'.2.1 d.1 = c.2.1
noncomputable def DeedOk (d : Int × Int) : Prop := 0 ≤ d.1 ∧ d.1 < 4096 ∧ 1 ≤ d.2
noncomputable def chAdd (d : Int × Int) (c : Int × Int × Int) : Int × Int × Int := (c.1 + 1, Builtin.bitXor c.2.1 d.1, c.2.2 + d.2)
theorem chStep_eq (cs : List (Int × Int × Int)) (d : Int × Int) : chStep cs d = cs ++ cs.map (chAdd d) := rfl
theorem xor_small {a b : Nat} (ha : a < 4096) (hb : b < 4096) : a ^^^ b < 4096 := Nat.xor_lt_two_pow (n := 12) ha hb
theorem ChG.step {ds : List (Int × Int)} {cs : List (Int × Int × Int)} {d : Int × Int} (hd : DeedOk d) (hds : ∀ x ∈ ds, DeedOk x) (G : ChG ds cs) : ChG (ds ++ [d]) (chStep cs d) := by
  obtain ⟨hd0, hd1, hd2⟩ := hd
  obtain ⟨dn, hdn⟩ : ∃ n : Nat, d.1 = n := ⟨d.1.toNat, by lia⟩
  have hdn4 : dn < 4096 := by lia
  rw [chStep_eq]
  refine ⟨fun c hc => ?_, List.mem_append_left _ G.z, fun c hc e he => ?_, fun c hc h1 => ?_⟩
  · rcases List.mem_append.mp hc with hc | hc
    · obtain ⟨a1, a2, a3, a4, a5⟩ := G.b c hc
      exact ⟨a1, by simp; lia, a3, a4, a5⟩
    · obtain ⟨c0, hc0, rfl⟩ := List.mem_map.mp hc
      obtain ⟨a1, a2, ⟨n, a3, a3'⟩, a4, a5⟩ := G.b c0 hc0
      refine ⟨?_, ?_, ⟨n ^^^ dn, ?_, xor_small a3' hdn4⟩, ?_, fun z => ?_⟩
      · show 0 ≤ c0.1 + 1; lia
      · show c0.1 + 1 ≤ _; simp; lia
      · show Builtin.bitXor c0.2.1 d.1 = _; rw [a3, hdn, bXor]
      · show 0 ≤ c0.2.2 + d.2; lia
      · have : c0.1 + 1 = 0 := z
        lia
  · rcases List.mem_append.mp he with he | he
    · rcases List.mem_append.mp hc with hc | hc
      · obtain ⟨c', h1, h2, h3, h4⟩ := G.e1 c hc e he
        exact ⟨c', List.mem_append_left _ h1, h2, h3, h4⟩
      · obtain ⟨c0, hc0, rfl⟩ := List.mem_map.mp hc
        obtain ⟨c', h1, h2, h3, h4⟩ := G.e1 c0 hc0 e he
        obtain ⟨_, _, ⟨n, a3, a3'⟩, _, _⟩ := G.b c0 hc0
        obtain ⟨he0, he1, _⟩ := hds e he
        obtain ⟨en, hen⟩ : ∃ n : Nat, e.1 = n := ⟨e.1.toNat, by lia⟩
        refine ⟨chAdd d c', List.mem_append_right _ (List.mem_map.mpr ⟨c', h1, rfl⟩), ?_, ?_, ?_⟩
        · show Builtin.bitXor c'.2.1 d.1 = Builtin.bitXor (Builtin.bitXor c0.2.1 d.1) e.1
          rw [h2, a3, hen, hdn, bXor, bXor, bXor, bXor, Nat.xor_assoc, Nat.xor_assoc, Nat.xor_comm en dn]
        · show c'.1 + 1 ≤ c0.1 + 1 + 1; lia
        · show c'.2.2 + d.2 ≤ c0.2.2 + d.2 + e.2; lia
    · have : e = d := by simpa using he
      subst this
      rcases List.mem_append.mp hc with hc | hc
      · exact ⟨chAdd e c, List.mem_append_right _ (List.mem_map.mpr ⟨c, hc, rfl⟩), rfl, Int.le_refl _, Int.le_refl _⟩
      · obtain ⟨c0, hc0, rfl⟩ := List.mem_map.mp hc
        obtain ⟨_, _, ⟨n, a3, a3'⟩, _, _⟩ := G.b c0 hc0
        refine ⟨c0, List.mem_append_left _ hc0, ?_, ?_, ?_⟩
        · show c0.2.1 = Builtin.bitXor (Builtin.bitXor c0.2.1 e.1) e.1
          rw [a3, hdn, bXor, bXor, Nat.xor_assoc, Nat.xor_self, Nat.xor_zero]
        · show c0.1 ≤ c0.1 + 1 + 1; lia
        · show c0.2.2 ≤ c0.2.2 + e.2 + e.2; lia
  · rcases List.mem_append.mp hc with hc | hc
    · obtain ⟨e, he, c', h2, h3, h4, h5⟩ := G.e2 c hc h1
      exact ⟨e, List.mem_append_left _ he, c', List.mem_append_left _ h2, h3, h4, h5⟩
    · obtain ⟨c0, hc0, rfl⟩ := List.mem_map.mp hc
      exact ⟨d, by simp, c0, List.mem_append_left _ hc0, rfl, rfl, rfl⟩
theorem ChG.all : ∀ (rest ds : List (Int × Int)) (cs : List (Int × Int × Int)), (∀ x ∈ rest, DeedOk x) → (∀ x ∈ ds, DeedOk x) → ChG ds cs → ChG (ds ++ rest) (rest.foldl chStep cs)
  | [], ds, cs, _, _, G => by rw [List.append_nil]; exact G
  | d :: rest, ds, cs, h, h', G => by
    have hd := h d (List.mem_cons_self ..)
    have := ChG.all rest (ds ++ [d]) (chStep cs d) (fun x hx => h x (List.mem_cons_of_mem _ hx)) (fun x hx => by
      rcases List.mem_append.mp hx with hx | hx
      · exact h' x hx
      · have : x = d := by simpa using hx
        exact this ▸ hd) (G.step hd h')
    rw [List.append_assoc] at this
    exact this
theorem chL_good (ds : List (Int × Int)) (h : ∀ x ∈ ds, DeedOk x) : ChG ds (chL ds) := by
  have := ChG.all ds [] [(0, 0, 0)] h (fun x hx => (nomatch hx)) ⟨fun c hc => ?_, by simp, fun c hc d hd => (nomatch hd), fun c hc h1 => ?_⟩
  · exact this
  · have : c = (0, 0, 0) := by simpa using hc
    subst this
    exact ⟨Int.le_refl _, by simp, ⟨0, rfl, by decide⟩, Int.le_refl _, fun _ => ⟨rfl, rfl⟩⟩
  · have : c = (0, 0, 0) := by simpa using hc
    subst this
    exact absurd h1 (by decide)
theorem chL_len (ds : List (Int × Int)) : (chL ds).length = 2 ^ ds.length := by
  have key : ∀ (ds : List (Int × Int)) (cs : List (Int × Int × Int)), (ds.foldl chStep cs).length = cs.length * 2 ^ ds.length := by
    intro ds
    induction ds with
    | nil => intro cs; simp
    | cons d ds ih =>
      intro cs
      rw [List.foldl_cons, ih, chStep_eq, List.length_append, List.length_map, List.length_cons, Nat.pow_succ]
      rw [← Nat.two_mul, Nat.mul_comm 2, Nat.mul_assoc, Nat.mul_comm 2]
  have := key ds [(0, 0, 0)]
  simpa [chL] using this
end Mine
end
section
open PySem PySem.W PyProof.Rows PySem.Calls PySem.Spec Builtin
set_option Elab.async false
set_option maxRecDepth 100000
set_option linter.unusedVariables false
set_option linter.unusedSectionVars false
namespace Mine
/-! ### lists and dicts, plain -/
theorem nodup_sub_len {α : Type} [DecidableEq α] : ∀ (l l' : List α), l.Nodup → (∀ x ∈ l, x ∈ l') → l.length ≤ l'.length
  | [], _, _, _ => Nat.zero_le _
  | x :: l, l', nd, h => by
    have hx := h x (List.mem_cons_self ..)
    have nd' := List.nodup_cons.mp nd
    have := nodup_sub_len l (l'.erase x) nd'.2 fun y hy => by
      have hne : y ≠ x := fun e => nd'.1 (e ▸ hy)
      exact (List.mem_erase_of_ne hne).mpr (h y (List.mem_cons_of_mem _ hy))
    rw [List.length_erase_of_mem hx] at this
    have hp : 0 < l'.length := List.length_pos_of_mem hx
    simp only [List.length_cons]; lia
section
variable {K : Type} [DecidableEq K]
theorem ilook_mem {l : List (K × Int)} {r : K} {v : Int} (h : ilook l r = some v) : (r, v) ∈ l := by
  unfold ilook at h
  obtain ⟨p, hp, rfl⟩ := Option.map_eq_some_iff.mp h
  have h1 := List.find?_some hp
  have h2 := List.mem_of_find?_eq_some hp
  have : p.1 = r := by simpa using h1
  rw [← this]; exact h2
theorem ilook_none {l : List (K × Int)} {r : K} : ilook l r = none ↔ r ∉ l.map (·.1) := by
  unfold ilook
  rw [Option.map_eq_none_iff, List.find?_eq_none]
  constructor
  · intro h hm
    obtain ⟨p, hp, e⟩ := List.mem_map.mp hm
    exact h p hp (by simpa using e)
  · intro h p hp e
    exact h (List.mem_map.mpr ⟨p, hp, by simpa using e⟩)
theorem ilook_of_mem : ∀ {l : List (K × Int)} {p : K × Int}, (l.map (·.1)).Nodup → p ∈ l → ilook l p.1 = some p.2
  | [], p, _, h => nomatch h
  | q :: l, p, nd, h => by
    rw [List.map_cons, List.nodup_cons] at nd
    unfold ilook
    rw [List.find?_cons]
    rcases List.mem_cons.mp h with rfl | h
    · simp
    · have : q.1 ≠ p.1 := fun e => nd.1 (e ▸ List.mem_map.mpr ⟨p, h, rfl⟩)
      rw [decide_eq_false this]
      exact ilook_of_mem nd.2 h
theorem ilook_some_iff {l : List (K × Int)} (nd : (l.map (·.1)).Nodup) {r : K} : r ∈ l.map (·.1) ↔ ∃ v, ilook l r = some v := by
  constructor
  · intro h
    obtain ⟨p, hp, rfl⟩ := List.mem_map.mp h
    exact ⟨_, ilook_of_mem nd hp⟩
  · rintro ⟨v, h⟩
    exact List.mem_map.mpr ⟨_, ilook_mem h, rfl⟩
theorem dEq_iff {a b : List (K × Int)} (na : (a.map (·.1)).Nodup) (nb : (b.map (·.1)).Nodup) : dEq a b = true ↔ ∀ r, ilook a r = ilook b r := by
  have hdef : dEq a b = true ↔ a.length = b.length ∧ ∀ p ∈ a, ilook b p.1 = some p.2 := by
    unfold dEq
    rw [Bool.and_eq_true, beq_iff_eq, List.all_eq_true]
    constructor
    · rintro ⟨h1, h2⟩; exact ⟨h1, fun p hp => of_decide_eq_true (h2 p hp)⟩
    · rintro ⟨h1, h2⟩; exact ⟨h1, fun p hp => decide_eq_true (h2 p hp)⟩
  rw [hdef]
  constructor
  · rintro ⟨h1, h2⟩ r
    cases q : ilook a r with
    | some v => rw [h2 _ (ilook_mem q)]
    | none =>
      cases q' : ilook b r with
      | none => rfl
      | some v =>
        exfalso
        have ha := ilook_none.mp q
        have hb : r ∈ b.map (·.1) := (ilook_some_iff nb).mpr ⟨v, q'⟩
        have := nodup_sub_len (r :: a.map (·.1)) (b.map (·.1)) (List.nodup_cons.mpr ⟨ha, na⟩) fun x hx => by
          rcases List.mem_cons.mp hx with rfl | hx
          · exact hb
          · obtain ⟨p, hp, rfl⟩ := List.mem_map.mp hx
            exact (ilook_some_iff nb).mpr ⟨_, h2 p hp⟩
        simp only [List.length_cons, List.length_map] at this
        lia
  · intro h
    refine ⟨?_, fun p hp => by rw [← h]; exact ilook_of_mem na hp⟩
    have l1 := nodup_sub_len (a.map (·.1)) (b.map (·.1)) na fun x hx => by
      obtain ⟨v, hv⟩ := (ilook_some_iff na).mp hx
      exact (ilook_some_iff nb).mpr ⟨v, by rw [← h]; exact hv⟩
    have l2 := nodup_sub_len (b.map (·.1)) (a.map (·.1)) nb fun x hx => by
      obtain ⟨v, hv⟩ := (ilook_some_iff nb).mp hx
      exact (ilook_some_iff na).mpr ⟨v, by rw [h]; exact hv⟩
    simp only [List.length_map] at l1 l2
    lia
end
/-! ### what the cheapest is -/
noncomputable abbrev Chs := List (Int × Int × Int)
noncomputable def IsC (R : Int → Str) (cs : Chs) (k : Int) (r : Str) : Option Int → Prop
  | none => ∀ c ∈ cs, c.1 ≤ k → R c.2.1 ≠ r
  | some v => (∃ c ∈ cs, c.1 ≤ k ∧ R c.2.1 = r ∧ c.2.2 ≤ v) ∧ ∀ c ∈ cs, c.1 ≤ k → R c.2.1 = r → v ≤ c.2.2
theorem IsC.uniq {R : Int → Str} {cs : Chs} {k : Int} {r : Str} {o o' : Option Int} (h : IsC R cs k r o) (h' : IsC R cs k r o') : o = o' := by
  cases o with
  | none =>
    cases o' with
    | none => rfl
    | some v => obtain ⟨c, h1, h2, h3, _⟩ := h'.1; exact absurd h3 (h c h1 h2)
  | some v =>
    obtain ⟨c, h1, h2, h3, h4⟩ := h.1
    cases o' with
    | none => exact absurd h3 (h' c h1 h2)
    | some v' =>
      obtain ⟨c', g1, g2, g3, g4⟩ := h'.1
      have a := h.2 c' g1 g2 g3
      have b := h'.2 c h1 h2 h3
      congr 1; lia
theorem chp_is_go (R : Int → Str) (k : Int) : ∀ (rest done : Chs) (acc : List (Str × Int)), (∀ r, IsC R done k r (ilook acc r)) → ∀ r, IsC R (done ++ rest) k r (ilook (rest.foldl (chpStep R k) acc) r)
  | [], done, acc, h, r => by rw [List.append_nil]; exact h r
  | c :: rest, done, acc, h, r => by
    have := chp_is_go R k rest (done ++ [c]) (chpStep R k acc c) (fun r => ?_) r
    · rw [List.append_assoc] at this; exact this
    · unfold chpStep
      have hr := h r
      by_cases hc : c.1 ≤ k
      · rw [if_pos hc, ilook_put]
        by_cases q : r = R c.2.1
        · subst q
          rw [if_pos rfl]
          cases ho : ilook acc (R c.2.1) with
          | none =>
            rw [ho] at hr
            simp only [Option.getD_none, Int.min_self]
            refine ⟨⟨c, by simp, hc, rfl, Int.le_refl _⟩, fun x hx h1 h2 => ?_⟩
            rcases List.mem_append.mp hx with hx | hx
            · exact absurd h2 (hr x hx h1)
            · have : x = c := by simpa using hx
              rw [this]; exact Int.le_refl _
          | some v =>
            rw [ho] at hr
            simp only [Option.getD_some]
            obtain ⟨⟨w, w1, w2, w3, w4⟩, hl⟩ := hr
            refine ⟨?_, fun x hx h1 h2 => ?_⟩
            · by_cases hm : c.2.2 ≤ v
              · exact ⟨c, by simp, hc, rfl, by lia⟩
              · exact ⟨w, List.mem_append_left _ w1, w2, w3, by lia⟩
            · rcases List.mem_append.mp hx with hx | hx
              · have := hl x hx h1 h2; lia
              · have : x = c := by simpa using hx
                rw [this]; lia
        · rw [if_neg q]
          cases ho : ilook acc r with
          | none =>
            rw [ho] at hr
            intro x hx h1 h2
            rcases List.mem_append.mp hx with hx | hx
            · exact hr x hx h1 h2
            · have : x = c := by simpa using hx
              exact q (by rw [← h2, this])
          | some v =>
            rw [ho] at hr
            obtain ⟨⟨w, w1, w2, w3, w4⟩, hl⟩ := hr
            refine ⟨⟨w, List.mem_append_left _ w1, w2, w3, w4⟩, fun x hx h1 h2 => ?_⟩
            rcases List.mem_append.mp hx with hx | hx
            · exact hl x hx h1 h2
            · have : x = c := by simpa using hx
              exact absurd (by rw [← h2, this]) q
      · rw [if_neg hc]
        cases ho : ilook acc r with
        | none =>
          rw [ho] at hr
          intro x hx h1 h2
          rcases List.mem_append.mp hx with hx | hx
          · exact hr x hx h1 h2
          · have : x = c := by simpa using hx
            exact hc (this ▸ h1)
        | some v =>
          rw [ho] at hr
          obtain ⟨⟨w, w1, w2, w3, w4⟩, hl⟩ := hr
          refine ⟨⟨w, List.mem_append_left _ w1, w2, w3, w4⟩, fun x hx h1 h2 => ?_⟩
          rcases List.mem_append.mp hx with hx | hx
          · exact hl x hx h1 h2
          · have : x = c := by simpa using hx
            exact absurd (this ▸ h1) hc
theorem chp_is (R : Int → Str) (cs : Chs) (k : Int) (r : Str) : IsC R cs k r (ilook (chpL R cs k) r) := by
  have := chp_is_go R k cs [] [] (fun r => fun c hc => nomatch hc) r
  exact this
theorem chp_nodup (R : Int → Str) (cs : Chs) (k : Int) : ((chpL R cs k).map (·.1)).Nodup := by
  have key : ∀ (cs : Chs) (acc : List (Str × Int)), (acc.map (·.1)).Nodup → ((cs.foldl (chpStep R k) acc).map (·.1)).Nodup := by
    intro cs
    induction cs with
    | nil => intro acc h; exact h
    | cons c cs ih =>
      intro acc h
      rw [List.foldl_cons]
      refine ih _ ?_
      unfold chpStep
      split
      · exact iput_keys _ _ _ h
      · exact h
  exact key cs [] List.nodup_nil
/-- the graph -/
structure Gr (R : Int → Str) (G : Str → Int → Str) (ds : List (Int × Int)) (cs : Chs) (first : Str) : Prop where
  e0 : ∀ c ∈ cs, c.1 ≤ 0 → R c.2.1 = first ∧ 0 ≤ c.2.2
  s0 : ∀ c ∈ cs, 0 ≤ c.1 ∧ c.1 ≤ 4
  z : ∃ c ∈ cs, c.1 = 0 ∧ R c.2.1 = first ∧ c.2.2 = 0
  e1 : ∀ c ∈ cs, ∀ d ∈ ds, ∃ c' ∈ cs, R c'.2.1 = G (R c.2.1) d.1 ∧ c'.1 ≤ c.1 + 1 ∧ c'.2.2 ≤ c.2.2 + d.2
  e2 : ∀ c ∈ cs, 1 ≤ c.1 → ∃ d ∈ ds, ∃ c' ∈ cs, c'.1 + 1 ≤ c.1 ∧ c'.2.2 + d.2 ≤ c.2.2 ∧ G (R c'.2.1) d.1 = R c.2.1
  p : ∀ d ∈ ds, 1 ≤ d.2
  len : cs.length ≤ 16
  dlen : ds.length ≤ 4
/-! ### the rounds -/
structure RI (G : Str → Int → Str) (ds : List (Int × Int)) (c0 : List (Str × Int)) (q : List Str) (s : RS) (P : Str → Int × Int → Prop) : Prop where
  j1 : ∀ r v, ilook s.1 r = some v → ilook c0 r = some v ∨ ∃ row ∈ q, ∃ d ∈ ds, ∃ b, ilook c0 row = some b ∧ G row d.1 = r ∧ v = b + d.2
  j2 : ∀ r v, ilook c0 r = some v → ∃ v', ilook s.1 r = some v' ∧ v' ≤ v
  j3 : ∀ row d, P row d → ∀ b, ilook c0 row = some b → ∃ v', ilook s.1 (G row d.1) = some v' ∧ v' ≤ b + d.2
  j4 : (s.1.map (·.1)).Nodup
  j5 : s.2.Nodup
  j6 : ∀ r, r ∈ s.2 ↔ ilook s.1 r ≠ ilook c0 r
section
variable {G : Str → Int → Str} {ds : List (Int × Int)} {c0 : List (Str × Int)} {q : List Str}
theorem RI.rlx {s : RS} {P : Str → Int × Int → Prop} (h : RI G ds c0 q s P) {row : Str} {b : Int} (hr : row ∈ q) (hb : ilook c0 row = some b) {d : Int × Int} (hd : d ∈ ds) :
    RI G ds c0 q (rlx G row b s d) (fun r e => P r e ∨ (r = row ∧ e = d)) := by
  obtain ⟨j1, j2, j3, j4, j5, j6⟩ := h
  unfold Mine.rlx
  by_cases hc : b + d.2 < (ilook s.1 (G row d.1)).getD (b + d.2 + 1)
  · rw [if_pos hc]
    have hlow : ∀ v, ilook s.1 (G row d.1) = some v → b + d.2 < v := fun v e => by rw [e] at hc; exact hc
    refine ⟨fun r v e => ?_, fun r v e => ?_, fun r e he b' hb' => ?_, iput_keys _ _ _ j4, ?_, fun r => ?_⟩
    · rw [ilook_put] at e
      by_cases z : r = G row d.1
      · rw [if_pos z] at e
        exact .inr ⟨row, hr, d, hd, b, hb, z.symm, (Option.some.inj e).symm⟩
      · rw [if_neg z] at e; exact j1 r v e
    · rw [ilook_put]
      obtain ⟨v', h1, h2⟩ := j2 r v e
      by_cases z : r = G row d.1
      · subst z
        rw [if_pos rfl]
        have := hlow _ h1
        exact ⟨_, rfl, by lia⟩
      · rw [if_neg z]; exact ⟨v', h1, h2⟩
    · rw [ilook_put]
      by_cases z : G r e.1 = G row d.1
      · rw [if_pos z]
        rcases he with he | ⟨rfl, rfl⟩
        · obtain ⟨v', h1, h2⟩ := j3 r e he b' hb'
          rw [z] at h1
          have := hlow _ h1
          exact ⟨_, rfl, by lia⟩
        · rw [hb] at hb'
          have := Option.some.inj hb'
          exact ⟨_, rfl, by lia⟩
      · rw [if_neg z]
        rcases he with he | ⟨rfl, rfl⟩
        · exact j3 r e he b' hb'
        · exact absurd rfl z
    · dsimp only
      split
      · rename_i hn
        rw [List.nodup_append]
        exact ⟨j5, by simp, fun a ha b' hb' e => by
          have : b' = G row d.1 := by simpa using hb'
          exact hn (this ▸ e ▸ ha)⟩
      · exact j5
    · dsimp only
      rw [ilook_put]
      have hmem : r ∈ (if G row d.1 ∉ s.2 then s.2 ++ [G row d.1] else s.2) ↔ r ∈ s.2 ∨ r = G row d.1 := by
        by_cases hn : G row d.1 ∉ s.2
        · rw [if_pos hn]; simp
        · rw [if_neg hn]
          have hn' : G row d.1 ∈ s.2 := Classical.not_not.mp hn
          constructor
          · exact .inl
          · rintro (z | rfl)
            · exact z
            · exact hn'
      rw [hmem]
      by_cases z : r = G row d.1
      · subst z
        rw [if_pos rfl]
        refine ⟨fun _ e => ?_, fun _ => .inr rfl⟩
        obtain ⟨v', h1, h2⟩ := j2 _ _ e.symm
        have := hlow _ h1
        lia
      · rw [if_neg z, ← j6 r]
        exact ⟨fun h => h.resolve_right z, .inl⟩
  · rw [if_neg hc]
    refine ⟨j1, j2, fun r e he b' hb' => ?_, j4, j5, j6⟩
    rcases he with he | ⟨rfl, rfl⟩
    · exact j3 r e he b' hb'
    · rw [hb] at hb'
      have hbb := Option.some.inj hb'
      cases ho : ilook s.1 (G r e.1) with
      | none => rw [ho] at hc; exact absurd (show b + e.2 < b + e.2 + 1 by lia) hc
      | some v => rw [ho] at hc; exact ⟨v, rfl, by have : ¬ b + e.2 < v := hc; lia⟩
theorem RI.weak {s : RS} {P P' : Str → Int × Int → Prop} (h : RI G ds c0 q s P) (k : ∀ r d, P' r d → P r d) : RI G ds c0 q s P' :=
  ⟨h.j1, h.j2, fun r d hp => h.j3 r d (k r d hp), h.j4, h.j5, h.j6⟩
theorem RI.row {row : Str} {b : Int} (hr : row ∈ q) (hb : ilook c0 row = some b) : ∀ (ds' : List (Int × Int)) (s : RS) (P : Str → Int × Int → Prop), (∀ d ∈ ds', d ∈ ds) → RI G ds c0 q s P → RI G ds c0 q (ds'.foldl (Mine.rlx G row b) s) (fun r e => P r e ∨ (r = row ∧ e ∈ ds'))
  | [], s, P, _, h => h.weak fun r d hp => hp.resolve_right fun z => nomatch z.2
  | d :: ds', s, P, hs, h => by
    rw [List.foldl_cons]
    have h1 := h.rlx hr hb (hs d (List.mem_cons_self ..))
    have h2 := RI.row hr hb ds' _ _ (fun x hx => hs x (List.mem_cons_of_mem _ hx)) h1
    refine h2.weak fun r e hp => ?_
    rcases hp with hp | ⟨z1, z2⟩
    · exact .inl (.inl hp)
    · rcases List.mem_cons.mp z2 with z2 | z2
      · exact .inl (.inr ⟨z1, z2⟩)
      · exact .inr ⟨z1, z2⟩
theorem RI.rows (hq : ∀ r ∈ q, ∃ b, ilook c0 r = some b) : ∀ (q' : List Str) (s : RS) (P : Str → Int × Int → Prop), (∀ r ∈ q', r ∈ q) → RI G ds c0 q s P → RI G ds c0 q (q'.foldl (rowS G ds c0) s) (fun r e => P r e ∨ (r ∈ q' ∧ e ∈ ds))
  | [], s, P, _, h => h.weak fun r d hp => hp.resolve_right fun z => nomatch z.1
  | row :: q', s, P, hs, h => by
    rw [List.foldl_cons]
    have hr := hs row (List.mem_cons_self ..)
    obtain ⟨b, hb⟩ := hq row hr
    have h1 : RI G ds c0 q (rowS G ds c0 s row) (fun r e => P r e ∨ (r = row ∧ e ∈ ds)) := by
      unfold rowS
      have hb' : (ilook c0 row).getD 0 = b := by rw [hb]; rfl
      rw [hb']
      exact RI.row hr hb ds s P (fun _ h => h) h
    have h2 := RI.rows hq q' _ _ (fun x hx => hs x (List.mem_cons_of_mem _ hx)) h1
    refine h2.weak fun r e hp => ?_
    rcases hp with hp | ⟨z1, z2⟩
    · exact .inl (.inl hp)
    · rcases List.mem_cons.mp z1 with z1 | z1
      · exact .inl (.inr ⟨z1, z2⟩)
      · exact .inr ⟨z1, z2⟩
theorem RI.all (nd : (c0.map (·.1)).Nodup) (hq : ∀ r ∈ q, ∃ b, ilook c0 r = some b) : RI G ds c0 q (rndS G ds c0 q) (fun r e => r ∈ q ∧ e ∈ ds) := by
  have h0 : RI G ds c0 q (c0, []) (fun _ _ => False) := ⟨fun r v e => .inl e, fun r v e => ⟨v, e, Int.le_refl _⟩, fun _ _ h => h.elim, nd, List.nodup_nil, fun r => ⟨fun h => (nomatch h), fun h => absurd rfl h⟩⟩
  exact (RI.rows hq q (c0, []) _ (fun _ h => h) h0).weak fun r e h => .inr h
end
end Mine
end
section
open PySem PySem.W PyProof.Rows PySem.Calls PySem.Spec Builtin
set_option Elab.async false
set_option maxRecDepth 100000
set_option linter.unusedVariables false
set_option linter.unusedSectionVars false
namespace Mine
/-! ### the rounds find the cheapest -/
structure RB (R : Int → Str) (cs : Chs) (k : Nat) (s : RS) : Prop where
  a : ∀ r, IsC R cs k r (ilook s.1 r)
  b : (s.1.map (·.1)).Nodup
  c : s.2.Nodup
  d : ∀ r, r ∈ s.2 ↔ ¬ IsC R cs ((k : Int) - 1) r (ilook s.1 r)
section
variable {R : Int → Str} {G : Str → Int → Str} {ds : List (Int × Int)} {cs : Chs} {first : Str}
theorem IsC.mono_none {k k' : Int} {r : Str} (h : IsC R cs k r none) (hk : k' ≤ k) : IsC R cs k' r none := fun c hc h1 => h c hc (Int.le_trans h1 hk)
theorem IsC.get {k : Int} {r : Str} {o : Option Int} (h : IsC R cs k r o) {c : Int × Int × Int} (hc : c ∈ cs) (h1 : c.1 ≤ k) (h2 : R c.2.1 = r) : ∃ v, o = some v ∧ v ≤ c.2.2 := by
  cases o with
  | none => exact absurd h2 (h c hc h1)
  | some v => exact ⟨v, rfl, h.2 c hc h1 h2⟩
theorem RB.zero (g : Gr R G ds cs first) : RB R cs 0 ([(first, 0)], [first]) := by
  have hl : ∀ r, ilook [(first, (0 : Int))] r = if r = first then some 0 else none := fun r => by
    unfold ilook
    rw [List.find?_cons]
    by_cases q : r = first
    · subst q; simp
    · rw [if_neg q, decide_eq_false (fun e => q e.symm)]; rfl
  refine ⟨fun r => ?_, by simp, by simp, fun r => ?_⟩
  · dsimp only
    rw [hl]
    split
    · rename_i q
      subst q
      obtain ⟨c, h1, h2, h3, h4⟩ := g.z
      exact ⟨⟨c, h1, by rw [h2]; exact Int.le_refl _, h3, by rw [h4]; exact Int.le_refl _⟩, fun x hx h _ => (g.e0 x hx h).2⟩
    · rename_i q
      exact fun x hx h e => q (by rw [← e]; exact (g.e0 x hx h).1)
  · dsimp only
    rw [hl]
    split
    · rename_i q
      subst q
      refine ⟨fun _ h => ?_, fun _ => by simp⟩
      obtain ⟨c, h1, h2, _⟩ := h.1
      have := (g.s0 c h1).1
      simp at h2; lia
    · rename_i q
      refine ⟨fun h => absurd (by simpa using h) q, fun h => absurd (fun x hx h1 => ?_) h⟩
      have := (g.s0 x hx).1
      simp at h1; lia
theorem RB.has {k : Nat} {s : RS} (h : RB R cs k s) {r : Str} (hr : r ∈ s.2) : ∃ b, ilook s.1 r = some b := by
  cases q : ilook s.1 r with
  | some b => exact ⟨b, rfl⟩
  | none =>
    have h1 := (h.d r).mp hr
    have h2 := h.a r
    rw [q] at h1 h2
    exact absurd (h2.mono_none (by lia)) h1
theorem RB.step (g : Gr R G ds cs first) {k : Nat} {s : RS} (h : RB R cs k s) : RB R cs (k + 1) (rndS G ds s.1 s.2) := by
  have I := RI.all (G := G) (ds := ds) (c0 := s.1) (q := s.2) h.b fun r hr => h.has hr
  generalize rndS G ds s.1 s.2 = s' at *
  have key : ∀ c ∈ cs, c.1 ≤ (k : Int) + 1 → ∃ v, ilook s'.1 (R c.2.1) = some v ∧ v ≤ c.2.2 := by
    intro c hc h1
    by_cases hk : c.1 ≤ k
    · obtain ⟨v, e, hv⟩ := (h.a (R c.2.1)).get hc hk rfl
      obtain ⟨v', e', hv'⟩ := I.j2 _ _ e
      exact ⟨v', e', Int.le_trans hv' hv⟩
    · obtain ⟨d, hd, c', hc', h2, h3, h4⟩ := g.e2 c hc (by lia)
      obtain ⟨b, e, hb⟩ := (h.a (R c'.2.1)).get hc' (by lia) rfl
      by_cases hq : R c'.2.1 ∈ s.2
      · obtain ⟨v', e', hv'⟩ := I.j3 (R c'.2.1) d ⟨hq, hd⟩ b e
        rw [h4] at e'
        exact ⟨v', e', by lia⟩
      · have hi : IsC R cs ((k : Int) - 1) (R c'.2.1) (ilook s.1 (R c'.2.1)) := Classical.not_not.mp fun z => hq ((h.d _).mpr z)
        rw [e] at hi
        obtain ⟨c2, g1, g2, g3, g4⟩ := hi.1
        obtain ⟨c3, f1, f2, f3, f4⟩ := g.e1 c2 g1 d hd
        obtain ⟨v, e1, hv⟩ := (h.a (R c.2.1)).get f1 (by lia) (by rw [f2, g3, h4])
        obtain ⟨v', e', hv'⟩ := I.j2 _ _ e1
        exact ⟨v', e', by lia⟩
  refine ⟨fun r => ?_, I.j4, I.j5, fun r => ?_⟩
  · cases q : ilook s'.1 r with
    | none =>
      intro c hc h1 e
      obtain ⟨v, h2, _⟩ := key c hc (by simpa using h1)
      rw [e, q] at h2; cases h2
    | some v =>
      refine ⟨?_, fun c hc h1 e => ?_⟩
      · rcases I.j1 r v q with h1 | ⟨row, hrow, d, hd, b, hb, e1, e2⟩
        · have h2 := h.a r
          rw [h1] at h2
          obtain ⟨c, g1, g2, g3, g4⟩ := h2.1
          exact ⟨c, g1, by simp; lia, g3, g4⟩
        · have h2 := h.a row
          rw [hb] at h2
          obtain ⟨c, g1, g2, g3, g4⟩ := h2.1
          obtain ⟨c', f1, f2, f3, f4⟩ := g.e1 c g1 d hd
          exact ⟨c', f1, by simp; lia, by rw [f2, g3, e1], by lia⟩
      · obtain ⟨v', h2, h3⟩ := key c hc (by simpa using h1)
        rw [e, q] at h2
        have := Option.some.inj h2
        lia
  · rw [I.j6 r]
    have e : (((k + 1 : Nat) : Int) - 1) = k := by lia
    rw [e]
    constructor
    · intro h1 h2; exact h1 (h2.uniq (h.a r))
    · intro h1 h2; exact h1 (h2 ▸ h.a r)
theorem RB.all (g : Gr R G ds cs first) : ∀ k : Nat, RB R cs k (itS G ds first k)
  | 0 => RB.zero g
  | k + 1 => (RB.all g k).step g
theorem RB.keys {k : Nat} {s : RS} (h : RB R cs k s) {r : Str} {v : Int} (e : ilook s.1 r = some v) : ∃ c ∈ cs, r = R c.2.1 := by
  have := h.a r
  rw [e] at this
  obtain ⟨c, h1, _, h2, _⟩ := this.1
  exact ⟨c, h1, h2.symm⟩
theorem chp_keys {k : Int} {r : Str} (h : r ∈ (chpL R cs k).map (·.1)) : r ∈ cs.map fun c => R c.2.1 := by
  obtain ⟨v, e⟩ := (ilook_some_iff (chp_nodup R cs k)).mp h
  have := chp_is R cs k r
  rw [e] at this
  obtain ⟨c, h1, _, h2, _⟩ := this.1
  exact List.mem_map.mpr ⟨c, h1, h2⟩
theorem chp_short (k : Int) : (chpL R cs k).length ≤ cs.length := by
  have := nodup_sub_len _ _ (chp_nodup R cs k) fun r h => chp_keys h
  simpa using this
theorem bf1_of (g : Gr R G ds cs first) (j : Nat) (hj : 1 ≤ j) : (itS G ds first j).2 = [] ↔ dEq (chpL R cs j) (chpL R cs (j - 1 : Nat)) = true := by
  have h := RB.all g j
  rw [dEq_iff (chp_nodup ..) (chp_nodup ..)]
  have e : ((j - 1 : Nat) : Int) = (j : Int) - 1 := by lia
  rw [e]
  have h1 : ∀ r, ilook (itS G ds first j).1 r = ilook (chpL R cs j) r := fun r => (h.a r).uniq (chp_is R cs j r)
  constructor
  · intro hn r
    have h2 : ¬ r ∈ (itS G ds first j).2 := by rw [hn]; exact fun z => nomatch z
    have h3 : IsC R cs ((j : Int) - 1) r (ilook (itS G ds first j).1 r) := Classical.not_not.mp fun z => h2 ((h.d r).mpr z)
    rw [← h1 r]
    exact h3.uniq (chp_is R cs _ r)
  · intro hn
    rw [List.eq_nil_iff_forall_not_mem]
    intro r hr
    refine (h.d r).mp hr ?_
    rw [h1 r, hn r]
    exact chp_is R cs _ r
theorem bf2_of (g : Gr R G ds cs first) (j : Nat) : dEq (itS G ds first j).1 (chpL R cs j) = true := by
  have h := RB.all g j
  exact (dEq_iff h.b (chp_nodup ..)).mpr fun r => (h.a r).uniq (chp_is R cs j r)
theorem IsC.big (g : ∀ c ∈ cs, c.1 ≤ 4) {k k' : Int} (hk : 4 ≤ k) (hk' : 4 ≤ k') {r : Str} {o : Option Int} (h : IsC R cs k r o) : IsC R cs k' r o := by
  cases o with
  | none => exact fun c hc _ => h c hc (Int.le_trans (g c hc) hk)
  | some v =>
    obtain ⟨⟨c, h1, h2, h3, h4⟩, h5⟩ := h
    exact ⟨⟨c, h1, Int.le_trans (g c h1) hk', h3, h4⟩, fun c hc _ => h5 c hc (Int.le_trans (g c hc) hk)⟩
theorem bf3_of (g : ∀ c ∈ cs, c.1 ≤ 4) : dEq (chpL R cs (5 : Nat)) (chpL R cs (4 : Nat)) = true :=
  (dEq_iff (chp_nodup ..) (chp_nodup ..)).mpr fun r => ((chp_is R cs _ r).big g (by decide) (by decide)).uniq (chp_is R cs _ r)
theorem bf4_of (g : Gr R G ds cs first) (k : Nat) : (∀ r ∈ (itS G ds first k).2, (∃ c ∈ cs, r = R c.2.1) ∧ ∃ i, ilook (itS G ds first k).1 r = some i) ∧ (itS G ds first k).2.length < 40 ∧ (itS G ds first k).1.length ≤ 1000 := by
  have h := RB.all g k
  refine ⟨fun r hr => ?_, ?_, ?_⟩
  · obtain ⟨b, e⟩ := h.has hr
    exact ⟨h.keys e, b, e⟩
  · have := nodup_sub_len _ (cs.map fun c => R c.2.1) h.c fun r hr => by
      obtain ⟨b, e⟩ := h.has hr
      obtain ⟨c, h1, h2⟩ := h.keys e
      exact List.mem_map.mpr ⟨c, h1, h2.symm⟩
    have := g.len
    simp only [List.length_map] at *; lia
  · have := nodup_sub_len _ (cs.map fun c => R c.2.1) h.b fun r hr => by
      obtain ⟨b, e⟩ := (ilook_some_iff h.b).mp hr
      obtain ⟨c, h1, h2⟩ := h.keys e
      exact List.mem_map.mpr ⟨c, h1, h2.symm⟩
    have := g.len
    simp only [List.length_map] at *; lia
theorem swap_nodup {l : List (Str × Int)} (h : (l.map (·.1)).Nodup) : (l.map fun p => (p.2, p.1)).Nodup := by
  rw [List.nodup_iff_pairwise_ne, List.pairwise_map] at *
  exact h.imp fun {a b} hab e => hab (congrArg Prod.snd e)
theorem nd_of (g : cs.length ≤ 16) (K : Nat) : (∀ p ∈ chpL R cs K, ilook (chpL R cs K) p.1 = some p.2) ∧ ((chpL R cs K).map fun p => (p.2, p.1)).Nodup ∧ (chpL R cs K).length < 64 := by
  refine ⟨fun p hp => ilook_of_mem (chp_nodup ..) hp, swap_nodup (chp_nodup ..), ?_⟩
  have h1 := chp_short (R := R) (cs := cs) K
  lia
end
end Mine
end
section
open PySem PySem.W PyProof.Rows PySem.Calls PySem.Spec Builtin
set_option Elab.async false
set_option maxRecDepth 100000
set_option linter.unusedVariables false
set_option linter.unusedSectionVars false
namespace Mine
/-! ### the heap, plain -/
noncomputable def leP (a b : PS) : Prop := ltP b a = false
theorem leP.rfl {a : PS} : leP a a := ltP_irrefl a
theorem leP.trans {a b c : PS} (h : leP a b) (h' : leP b c) : leP a c := by
  unfold leP at *
  cases q : ltP c a with
  | false => rfl
  | true =>
    by_cases e : b = a
    · subst e; rw [h'] at q; cases q
    · have h1 := ltP_tot e h
      have h2 := ltP_trans q h1
      rw [h'] at h2; cases h2
theorem leP.of_lt {a b : PS} (h : ltP a b = true) : leP a b := ltP_asymm h
theorem gd_set {l : List PS} {i j : Nat} {a d : PS} (hj : j < l.length) : (l.set i a).getD j d = if i = j then a else l.getD j d := by
  rw [List.getD_eq_getElem?_getD, List.getElem?_set]
  split
  · rename_i h; subst h; rw [if_pos hj]; rfl
  · rw [List.getD_eq_getElem?_getD]
theorem gd_ne {l : List PS} {i j : Nat} {a d : PS} (h : i ≠ j) : (l.set i a).getD j d = l.getD j d := by
  rw [List.getD_eq_getElem?_getD, List.getElem?_set_ne h, List.getD_eq_getElem?_getD]
theorem gd_self {l : List PS} {i : Nat} {a d : PS} (h : i < l.length) : (l.set i a).getD i d = a := by
  rw [gd_set h, if_pos rfl]
theorem gd_any {l : List PS} {i : Nat} (h : i < l.length) (d d' : PS) : l.getD i d = l.getD i d' := by
  rw [List.getD_eq_getElem?_getD, List.getD_eq_getElem?_getD, List.getElem?_eq_getElem h]; rfl
theorem gd_get {l : List PS} {i : Nat} (h : i < l.length) (d : PS) : l.getD i d = l[i] := by
  rw [List.getD_eq_getElem?_getD, List.getElem?_eq_getElem h]; rfl
noncomputable def HeapOk (d : PS) (l : List PS) : Prop := ∀ i, 0 < i → i < l.length → leP (l.getD ((i - 1) / 2) d) (l.getD i d)
theorem HeapOk.chg {d d' : PS} {l : List PS} (h : HeapOk d l) : HeapOk d' l := fun i h0 h1 => by
  rw [gd_any (by lia : (i - 1) / 2 < l.length) d' d, gd_any h1 d' d]; exact h i h0 h1
structure HH (x : PS) (n : Nat) (l : List PS) : Prop where
  h1 : ∀ i, 0 < i → i < l.length → i ≠ n → (i - 1) / 2 ≠ n → leP (l.getD ((i - 1) / 2) x) (l.getD i x)
  h3 : 0 < n → ∀ i, 0 < i → i < l.length → (i - 1) / 2 = n → leP (l.getD ((n - 1) / 2) x) (l.getD i x)
theorem sdF_heap (x : PS) : ∀ (n : Nat) (l : List PS), n < l.length → HH x n l → (∀ i, 0 < i → i < l.length → (i - 1) / 2 = n → leP x (l.getD i x)) → HeapOk x (sdF x n l) := by
  intro n
  induction n using Nat.strongRecOn with
  | ind n ih =>
    intro l hn H h2
    cases n with
    | zero =>
      unfold sdF
      intro i h0 h1
      rw [List.length_set] at h1
      rw [gd_ne (show 0 ≠ i by lia)]
      by_cases e : (i - 1) / 2 = 0
      · rw [e, gd_self hn]; exact h2 i h0 h1 e
      · rw [gd_ne (Ne.symm e)]; exact H.h1 i h0 h1 (by lia) e
    | succ n =>
      unfold sdF
      have e3 : (n + 1 - 1) / 2 = n / 2 := by lia
      by_cases q : ltP x (l.getD (n / 2) x) = true
      · rw [if_pos q]
        have hl : (l.set (n + 1) (l.getD (n / 2) x)).length = l.length := List.length_set ..
        refine ih (n / 2) (by lia) _ (by lia) ⟨fun i h0 h1 e1 e2 => ?_, fun h0 i h1 h2' e => ?_⟩ fun i h0 h1 e => ?_
        · rw [hl] at h1
          have hi : i ≠ n + 1 := fun z => e2 (by rw [z]; exact e3)
          rw [gd_ne (Ne.symm hi)]
          by_cases e : (i - 1) / 2 = n + 1
          · rw [e, gd_self hn]
            have := H.h3 (by lia) i h0 h1 e
            rw [e3] at this; exact this
          · rw [gd_ne (Ne.symm e)]; exact H.h1 i h0 h1 hi e
        · rw [hl] at h2'
          have hp := H.h1 (n / 2) h0 (by lia) (by lia) (by lia)
          rw [gd_ne (show n + 1 ≠ (n / 2 - 1) / 2 by lia)]
          by_cases z : i = n + 1
          · rw [z, gd_self hn]; exact hp
          · rw [gd_ne (Ne.symm z)]
            have := H.h1 i h1 h2' z (by lia)
            rw [e] at this
            exact hp.trans this
        · rw [hl] at h1
          by_cases z : i = n + 1
          · rw [z, gd_self hn]; exact .of_lt q
          · rw [gd_ne (Ne.symm z)]
            have := H.h1 i h0 h1 z (by lia)
            rw [e] at this
            exact (leP.of_lt q).trans this
      · rw [if_neg q]
        have q' : leP (l.getD (n / 2) x) x := by unfold leP; simpa using q
        intro i h0 h1
        rw [List.length_set] at h1
        by_cases z : i = n + 1
        · rw [z, gd_self hn, e3, gd_ne (by lia)]; exact q'
        · rw [gd_ne (Ne.symm z)]
          by_cases e : (i - 1) / 2 = n + 1
          · rw [e, gd_self hn]; exact h2 i h0 h1 e
          · rw [gd_ne (Ne.symm e)]; exact H.h1 i h0 h1 z e
theorem swap_perm {l : List PS} {i j : Nat} {x : PS} (hi : i < l.length) (hj : j < l.length) (hij : i ≠ j) : ((l.set i (l.getD j x)).set j x).Perm (l.set i x) := by
  have h := List.set_set_perm (as := l.set i x) (i := i) (j := j) (by simpa using hi) (by simpa using hj)
  rw [List.set_set, List.getElem_set_self, List.getElem_set_ne hij] at h
  rw [gd_get hj]; exact h
theorem sdF_perm (x : PS) : ∀ (n : Nat) (l : List PS), n < l.length → (sdF x n l).Perm (l.set n x) := by
  intro n
  induction n using Nat.strongRecOn with
  | ind n ih =>
    intro l hn
    cases n with
    | zero => unfold sdF; exact .refl _
    | succ n =>
      unfold sdF
      split
      · have h1 := ih (n / 2) (by lia) (l.set (n + 1) (l.getD (n / 2) x)) (by simp; lia)
        exact h1.trans (swap_perm hn (by lia) (by lia))
      · exact .refl _
theorem suC_pos (x : PS) (n pos : Nat) (l : List PS) (h : 2 * pos + 1 < n) : (suC x n pos l - 1) / 2 = pos ∧ suC x n pos l < n ∧ pos < suC x n pos l := by
  unfold suC
  split
  · rename_i q; lia
  · lia
theorem suC_le (x : PS) (n pos : Nat) (l : List PS) (hn : n = l.length) (i : Nat) (h0 : 0 < i) (h1 : i < l.length) (e : (i - 1) / 2 = pos) : leP (l.getD (suC x n pos l) x) (l.getD i x) := by
  have hi : i = 2 * pos + 1 ∨ i = 2 * pos + 2 := by lia
  unfold suC
  by_cases q : 2 * pos + 2 < n ∧ ltP (l.getD (2 * pos + 1) x) (l.getD (2 * pos + 2) x) = false
  · rw [if_pos q]
    rcases hi with rfl | rfl
    · exact q.2
    · exact .rfl
  · rw [if_neg q]
    rcases hi with rfl | rfl
    · exact .rfl
    · refine .of_lt ?_
      cases z : ltP (l.getD (2 * pos + 1) x) (l.getD (2 * pos + 2) x) with
      | true => rfl
      | false => exact absurd ⟨by lia, z⟩ q
theorem suF_heap (x : PS) (n : Nat) : ∀ (k pos : Nat) (l : List PS), n - pos = k → n = l.length → pos < n → HH x pos l → HeapOk x (suF x n pos l) := by
  intro k
  induction k using Nat.strongRecOn with
  | ind k ih =>
    intro pos l hk hn hp H
    unfold suF
    by_cases q : 2 * pos + 1 < n
    · rw [if_pos q]
      obtain ⟨c1, c2, c3⟩ := suC_pos x n pos l q
      have cle := fun i h0 h1 e => suC_le x n pos l hn i h0 h1 e
      generalize suC x n pos l = c at *
      have hp' : pos < l.length := by lia
      have hl : (l.set pos (l.getD c x)).length = l.length := List.length_set ..
      refine ih (n - c) (by lia) c _ rfl (by lia) c2 ⟨fun i h0 h1 e1 e2 => ?_, fun h0 i h1 h2 e => ?_⟩
      · rw [hl] at h1
        by_cases z : i = pos
        · subst z
          rw [gd_self h1, gd_ne (by lia)]
          exact H.h3 h0 c (by lia) (by lia) c1
        · rw [gd_ne (Ne.symm z)]
          by_cases e : (i - 1) / 2 = pos
          · rw [e, gd_self hp']; exact cle i h0 h1 e
          · rw [gd_ne (Ne.symm e)]; exact H.h1 i h0 h1 z e
      · rw [hl] at h2
        rw [c1, gd_self hp', gd_ne (by lia)]
        have := H.h1 i h1 h2 (by lia) (by lia)
        rw [e] at this; exact this
    · rw [if_neg q]
      have hl : (l.set pos x).length = l.length := List.length_set ..
      refine sdF_heap x pos _ (by lia) ⟨fun i h0 h1 e1 e2 => ?_, fun h0 i h1 h2 e => ?_⟩ fun i h0 h1 e => ?_
      · rw [hl] at h1
        rw [gd_ne (by lia), gd_ne (by lia)]
        exact H.h1 i h0 h1 e1 e2
      · lia
      · lia
theorem suF_perm (x : PS) (n : Nat) : ∀ (k pos : Nat) (l : List PS), n - pos = k → n = l.length → pos < n → (suF x n pos l).Perm (l.set pos x) := by
  intro k
  induction k using Nat.strongRecOn with
  | ind k ih =>
    intro pos l hk hn hp
    unfold suF
    by_cases q : 2 * pos + 1 < n
    · rw [if_pos q]
      obtain ⟨c1, c2, c3⟩ := suC_pos x n pos l q
      generalize suC x n pos l = c at *
      exact (ih (n - c) (by lia) c (l.set pos (l.getD c x)) rfl (by simp; lia) c2).trans (swap_perm (by lia) (by lia) (by lia))
    · rw [if_neg q]
      have := sdF_perm x pos (l.set pos x) (by simp; lia)
      rw [List.set_set] at this
      exact this
theorem push_perm (x : PS) (l : List PS) : (sdF x l.length (l ++ [x])).Perm (x :: l) := by
  have := sdF_perm x l.length (l ++ [x]) (by simp)
  have e : (l ++ [x]).set l.length x = l ++ [x] := by
    rw [List.set_append_right (h := by simp)]; simp
  rw [e] at this
  exact this.trans (List.perm_append_singleton ..)
theorem push_heap (d x : PS) (l : List PS) (h : HeapOk d l) : HeapOk d (sdF x l.length (l ++ [x])) := by
  refine HeapOk.chg (d := x) (sdF_heap x l.length (l ++ [x]) (by simp) ⟨fun i h0 h1 e1 e2 => ?_, fun h0 i h1 h2 e => ?_⟩ fun i h0 h1 e => ?_)
  · simp at h1
    have hi : i < l.length := by lia
    have gd : ∀ j, j < l.length → (l ++ [x]).getD j x = l.getD j x := fun j hj => by
      rw [List.getD_eq_getElem?_getD, List.getElem?_append_left hj, List.getD_eq_getElem?_getD]
    rw [gd _ hi, gd _ (by lia)]
    exact h.chg i h0 hi
  · simp at h2; lia
  · simp at h1; lia
theorem pop_perm {h : List PS} (hne : h ≠ []) : (popT h :: popR h).Perm h := by
  unfold popT popR
  by_cases q : h.dropLast = []
  · rw [if_pos q, if_pos q]
    match h, hne, q with
    | [a], _, _ => exact .refl _
    | a :: b :: t, _, q => simp at q
  · rw [if_neg q, if_neg q]
    match h, hne, q with
    | [a], _, q => exact absurd rfl q
    | a :: b :: t, _, _ =>
      have hlast : (a :: b :: t).getLastD (0, ⟨#[]⟩) = (b :: t).getLast (by simp) := by
        rw [List.getLastD_cons, List.getLastD_eq_getLast?, List.getLast?_eq_some_getLast (by simp)]; rfl
      rw [hlast]
      have hd : (a :: b :: t).dropLast = a :: (b :: t).dropLast := rfl
      rw [hd]
      generalize hL : (b :: t).getLast (by simp) = L
      have hp := suF_perm L (a :: (b :: t).dropLast).length _ 0 ((a :: (b :: t).dropLast).set 0 L) rfl (by simp) (by simp)
      show (a :: _).Perm _
      refine (hp.cons a).trans ?_
      show (a :: L :: (b :: t).dropLast).Perm (a :: b :: t)
      refine .cons a ?_
      have : (b :: t).dropLast ++ [L] = b :: t := by rw [← hL]; exact List.dropLast_concat_getLast (by simp)
      have h2 := (List.perm_append_singleton L (b :: t).dropLast).symm
      rw [this] at h2
      exact h2
theorem pop_heap {d : PS} {h : List PS} (H : HeapOk d h) : HeapOk d (popR h) := by
  unfold popR
  by_cases q : h.dropLast = []
  · rw [if_pos q]; exact fun i h0 h1 => by simp at h1
  · rw [if_neg q]
    generalize h.getLastD (0, ⟨#[]⟩) = L
    have hl : h.dropLast.length = h.length - 1 := List.length_dropLast
    have hpos : 0 < h.dropLast.length := List.length_pos_iff.mpr q
    refine HeapOk.chg (d := L) (suF_heap L _ _ 0 _ rfl (by simp) hpos ⟨fun i h0 h1 e1 e2 => ?_, fun h0 => absurd h0 (by lia)⟩)
    rw [List.length_set] at h1
    rw [gd_ne (by lia), gd_ne (by lia)]
    have gd : ∀ j, j < h.dropLast.length → h.dropLast.getD j L = h.getD j L := fun j hj => by
      rw [List.getD_eq_getElem?_getD, List.getElem?_dropLast, if_pos (by lia), List.getD_eq_getElem?_getD]
    rw [gd _ h1, gd _ (by lia)]
    exact H.chg i h0 (by lia)
theorem HeapOk.root {d : PS} {h : List PS} (H : HeapOk d h) : ∀ i, i < h.length → leP (h.getD 0 d) (h.getD i d) := by
  intro i
  induction i using Nat.strongRecOn with
  | ind i ih =>
    intro hi
    by_cases q : i = 0
    · subst q; exact .rfl
    · exact (ih ((i - 1) / 2) (by lia) (by lia)).trans (H i (by lia) hi)
theorem pop_least {d : PS} {h : List PS} (H : HeapOk d h) : ∀ p ∈ h, leP (popT h) p := by
  intro p hp
  obtain ⟨i, hi, rfl⟩ := List.mem_iff_getElem.mp hp
  have h1 := H.root i hi
  rw [gd_get hi] at h1
  have : popT h = h.getD 0 d := by
    unfold popT
    match h, hi with
    | [a], _ => rfl
    | a :: b :: t, _ => rw [if_neg (by simp)]; rfl
  rw [this]; exact h1
end Mine
end
section
open PySem PySem.W PyProof.Rows PySem.Calls PySem.Spec Builtin
set_option Elab.async false
set_option maxRecDepth 100000
set_option linter.unusedVariables false
set_option linter.unusedSectionVars false
namespace Mine
/-! ### by the heap: the cheapest too -/
noncomputable def d0 : PS := (0, ⟨#[]⟩)
structure DJ (R : Int → Str) (G : Str → Int → Str) (ds : List (Int × Int)) (cs : Chs) (first : Str) (out : List PS) (P : PS → Int × Int → Prop) (heap : List PS) (best : List (Str × Int)) : Prop where
  hp : HeapOk d0 heap
  hnd : heap.Nodup
  hb : ∀ p ∈ heap, ∃ b, ilook best p.2 = some b ∧ b ≤ p.1
  bw : ∀ r b, ilook best r = some b → ∃ c ∈ cs, R c.2.1 = r ∧ c.2.2 ≤ b
  bb : ∀ r b, ilook best r = some b → (b, r) ∈ heap ∨ (b, r) ∈ out
  bk : (best.map (·.1)).Nodup
  ob : ∀ p ∈ out, ilook best p.2 = some p.1
  oe : ∀ p ∈ out, ∀ d ∈ ds, P p d → ∃ b, ilook best (G p.2 d.1) = some b ∧ b ≤ p.1 + d.2
  os : out.Pairwise fun p q => ltP p q = true
  oh : ∀ p ∈ out, ∀ q ∈ heap, ltP p q = true
  f : ∃ b, ilook best first = some b ∧ b ≤ 0
section
variable {R : Int → Str} {G : Str → Int → Str} {ds : List (Int × Int)} {cs : Chs} {first : Str}
theorem DJ.weak {out : List PS} {P P' : PS → Int × Int → Prop} {heap : List PS} {best : List (Str × Int)} (h : DJ R G ds cs first out P heap best) (k : ∀ p ∈ out, ∀ d ∈ ds, P' p d → P p d) : DJ R G ds cs first out P' heap best :=
  ⟨h.hp, h.hnd, h.hb, h.bw, h.bb, h.bk, h.ob, fun p hp d hd z => h.oe p hp d hd (k p hp d hd z), h.os, h.oh, h.f⟩
theorem DJ.hrx (g : Gr R G ds cs first) {out : List PS} {P : PS → Int × Int → Prop} {s : HS} (h : DJ R G ds cs first out P s.1 s.2) {t : PS} (ht : t ∈ out) (hlt : ∀ p ∈ out, p.1 ≤ t.1) {d : Int × Int} (hd : d ∈ ds) :
    DJ R G ds cs first out (fun p e => P p e ∨ (p = t ∧ e = d)) (Mine.hrx G t s d).1 (Mine.hrx G t s d).2 := by
  obtain ⟨heap, best⟩ := s
  dsimp only at h
  unfold Mine.hrx
  dsimp only
  have hd1 := g.p d hd
  by_cases hc : t.1 + d.2 < (ilook best (G t.2 d.1)).getD (t.1 + d.2 + 1)
  · rw [if_pos hc]
    dsimp only
    have hlow : ∀ v, ilook best (G t.2 d.1) = some v → t.1 + d.2 < v := fun v e => by rw [e] at hc; exact hc
    have hpm := push_perm (t.1 + d.2, G t.2 d.1) heap
    have hmem : ∀ q, q ∈ sdF (t.1 + d.2, G t.2 d.1) heap.length (heap ++ [(t.1 + d.2, G t.2 d.1)]) ↔ q = (t.1 + d.2, G t.2 d.1) ∨ q ∈ heap := fun q => by rw [hpm.mem_iff]; exact List.mem_cons
    refine ⟨push_heap _ _ _ h.hp, ?_, fun p hp => ?_, fun r b e => ?_, fun r b e => ?_, iput_keys _ _ _ h.bk, fun p hp => ?_, fun p hp e he hP => ?_, h.os, fun p hp q hq => ?_, ?_⟩
    · rw [hpm.nodup_iff]
      refine List.nodup_cons.mpr ⟨fun hm => ?_, h.hnd⟩
      obtain ⟨b, e, hb⟩ := h.hb _ hm
      have := hlow b e
      dsimp only at hb; lia
    · rw [ilook_put]
      rcases (hmem p).mp hp with rfl | hp
      · rw [if_pos rfl]; exact ⟨_, rfl, Int.le_refl _⟩
      · obtain ⟨b, e, hb⟩ := h.hb p hp
        split
        · rename_i z
          rw [z] at e
          have := hlow b e
          exact ⟨_, rfl, by lia⟩
        · exact ⟨b, e, hb⟩
    · rw [ilook_put] at e
      split at e
      · rename_i z
        subst z
        have e := Option.some.inj e
        obtain ⟨c, h1, h2, h3⟩ := h.bw t.2 t.1 (h.ob t ht)
        obtain ⟨c', f1, f2, f3, f4⟩ := g.e1 c h1 d hd
        exact ⟨c', f1, by rw [f2, h2], by lia⟩
      · exact h.bw r b e
    · rw [ilook_put] at e
      split at e
      · rename_i z
        subst z
        have e := Option.some.inj e
        exact .inl ((hmem _).mpr (.inl (by rw [e])))
      · exact (h.bb r b e).imp (fun z => (hmem _).mpr (.inr z)) id
    · rw [ilook_put]
      split
      · rename_i z
        have h1 := h.ob p hp
        rw [z] at h1
        have := hlow _ h1
        have := hlt p hp
        lia
      · exact h.ob p hp
    · rw [ilook_put]
      split
      · rename_i z
        rcases hP with hP | ⟨rfl, rfl⟩
        · obtain ⟨b, h1, h2⟩ := h.oe p hp e he hP
          rw [z] at h1
          have := hlow _ h1
          exact ⟨_, rfl, by lia⟩
        · exact ⟨_, rfl, Int.le_refl _⟩
      · rename_i z
        rcases hP with hP | ⟨rfl, rfl⟩
        · exact h.oe p hp e he hP
        · exact absurd rfl z
    · rcases (hmem q).mp hq with rfl | hq
      · refine ltP_of_lt ?_
        have := hlt p hp
        show p.1 < t.1 + d.2
        lia
      · exact h.oh p hp q hq
    · rw [ilook_put]
      obtain ⟨b, h1, h2⟩ := h.f
      split
      · rename_i z
        rw [z] at h1
        have := hlow _ h1
        exact ⟨_, rfl, by lia⟩
      · exact ⟨b, h1, h2⟩
  · rw [if_neg hc]
    refine ⟨h.hp, h.hnd, h.hb, h.bw, h.bb, h.bk, h.ob, fun p hp e he hP => ?_, h.os, h.oh, h.f⟩
    rcases hP with hP | ⟨rfl, rfl⟩
    · exact h.oe p hp e he hP
    · cases ho : ilook best (G p.2 e.1) with
      | none => rw [ho] at hc; exact absurd (show p.1 + e.2 < p.1 + e.2 + 1 by lia) hc
      | some v => rw [ho] at hc; exact ⟨v, rfl, by have : ¬ p.1 + e.2 < v := hc; lia⟩
theorem DJ.fold (g : Gr R G ds cs first) {out : List PS} {t : PS} (ht : t ∈ out) (hlt : ∀ p ∈ out, p.1 ≤ t.1) : ∀ (ds' : List (Int × Int)) (P : PS → Int × Int → Prop) (s : HS), (∀ d ∈ ds', d ∈ ds) → DJ R G ds cs first out P s.1 s.2 →
    DJ R G ds cs first out (fun p e => P p e ∨ (p = t ∧ e ∈ ds')) (ds'.foldl (Mine.hrx G t) s).1 (ds'.foldl (Mine.hrx G t) s).2
  | [], P, s, _, h => h.weak fun p _ d _ z => z.resolve_right fun z => nomatch z.2
  | d :: ds', P, s, hs, h => by
    rw [List.foldl_cons]
    have h1 := h.hrx g ht hlt (hs d (List.mem_cons_self ..))
    have h2 := DJ.fold g ht hlt ds' _ _ (fun x hx => hs x (List.mem_cons_of_mem _ hx)) h1
    refine h2.weak fun p _ e _ z => ?_
    rcases z with z | ⟨z1, z2⟩
    · exact .inl (.inl z)
    · rcases List.mem_cons.mp z2 with z2 | z2
      · exact .inl (.inr ⟨z1, z2⟩)
      · exact .inr ⟨z1, z2⟩
noncomputable abbrev DI (R : Int → Str) (G : Str → Int → Str) (ds : List (Int × Int)) (cs : Chs) (first : Str) (s : BS) : Prop := DJ R G ds cs first s.out (fun _ _ => True) s.heap s.best
theorem DI.step (g : Gr R G ds cs first) {s : BS} (h : DI R G ds cs first s) (hne : s.heap ≠ []) : DI R G ds cs first (bhT G ds s) ∧ ∀ n : Nat, n + s.heap.length ≤ 1 + 4 * s.out.length → n + 1 + (bhT G ds s).heap.length ≤ 1 + 4 * (bhT G ds s).out.length := by
  have hpm := pop_perm hne
  have hle := pop_least h.hp
  have hph := pop_heap h.hp
  have hln := popR_len s.heap
  have hlp := List.length_pos_iff.mpr hne
  unfold bhT
  generalize popT s.heap = t at *
  generalize popR s.heap = rest at *
  have hnd : (t :: rest).Nodup := hpm.nodup_iff.mpr h.hnd
  obtain ⟨n1, n2⟩ := List.nodup_cons.mp hnd
  have hmem : ∀ q, q ∈ s.heap ↔ q = t ∨ q ∈ rest := fun q => by rw [← hpm.mem_iff]; exact List.mem_cons
  have htm : t ∈ s.heap := (hmem t).mpr (.inl rfl)
  by_cases q : ilook s.best t.2 = some t.1
  · rw [if_pos q]
    have h0 : DJ R G ds cs first (s.out ++ [t]) (fun p _ => p ≠ t) rest s.best := by
      refine ⟨hph, n2, fun p hp => h.hb p ((hmem p).mpr (.inr hp)), h.bw, fun r b e => ?_, h.bk, fun p hp => ?_, fun p hp d hd hP => ?_, ?_, fun p hp q' hq => ?_, h.f⟩
      · rcases h.bb r b e with z | z
        · rcases (hmem _).mp z with z | z
          · exact .inr (List.mem_append_right _ (by rw [z]; simp))
          · exact .inl z
        · exact .inr (List.mem_append_left _ z)
      · rcases List.mem_append.mp hp with hp | hp
        · exact h.ob p hp
        · have : p = t := by simpa using hp
          rw [this]; exact q
      · rcases List.mem_append.mp hp with hp | hp
        · exact h.oe p hp d hd trivial
        · have : p = t := by simpa using hp
          exact absurd this hP
      · rw [List.pairwise_append]
        refine ⟨h.os, List.pairwise_singleton .., fun a ha b hb => ?_⟩
        have : b = t := by simpa using hb
        rw [this]; exact h.oh a ha t htm
      · rcases List.mem_append.mp hp with hp | hp
        · exact h.oh p hp q' ((hmem q').mpr (.inr hq))
        · have : p = t := by simpa using hp
          rw [this]
          exact ltP_tot (fun e => n1 (e ▸ hq)) (hle q' ((hmem q').mpr (.inr hq)))
    have hlt : ∀ p ∈ s.out ++ [t], p.1 ≤ t.1 := fun p hp => by
      rcases List.mem_append.mp hp with hp | hp
      · exact ltP_fst (h.oh p hp t htm)
      · have : p = t := by simpa using hp
        rw [this]; exact Int.le_refl _
    have h1 := DJ.fold g (List.mem_append_right s.out (by simp)) hlt ds _ (rest, s.best) (fun _ h => h) h0
    refine ⟨h1.weak fun p _ d hd _ => ?_, fun n hn => ?_⟩
    · by_cases z : p = t
      · exact .inr ⟨z, hd⟩
      · exact .inl z
    · have h2 := (hrx_len' (G := G) (p := t) ds (rest, s.best)).1
      have h3 := g.dlen
      simp only [List.length_append, List.length_cons, List.length_nil] at *
      lia
  · rw [if_neg q]
    refine ⟨⟨hph, n2, fun p hp => h.hb p ((hmem p).mpr (.inr hp)), h.bw, fun r b e => ?_, h.bk, h.ob, h.oe, h.os, fun p hp q' hq => h.oh p hp q' ((hmem q').mpr (.inr hq)), h.f⟩, fun n hn => ?_⟩
    · rcases h.bb r b e with z | z
      · rcases (hmem _).mp z with z | z
        · exact absurd (by rw [← z]; exact e) q
        · exact .inl z
      · exact .inr z
    · dsimp only at *; lia
theorem DI.zero (g : Gr R G ds cs first) : DI R G ds cs first (bhS G ds first 0) := by
  have hl : ∀ r v, ilook [(first, (0 : Int))] r = some v → r = first ∧ v = 0 := fun r v e => by
    have := ilook_mem e
    simpa using this
  have hf : ilook [(first, (0 : Int))] first = some 0 := by simp [ilook]
  show DJ R G ds cs first [] (fun _ _ => True) [(0, first)] [(first, 0)]
  refine ⟨fun i h0 h1 => by simp at h1; lia, by simp, fun p hp => ?_, fun r b e => ?_, fun r b e => ?_, by simp, fun p hp => (nomatch hp), fun p hp => (nomatch hp), .nil, fun p hp => (nomatch hp), ⟨0, hf, Int.le_refl _⟩⟩
  · have : p = (0, first) := by simpa using hp
    rw [this]; exact ⟨0, hf, Int.le_refl _⟩
  · obtain ⟨rfl, rfl⟩ := hl r b e
    obtain ⟨c, h1, h2, h3, h4⟩ := g.z
    exact ⟨c, h1, h3, by rw [h4]; exact Int.le_refl _⟩
  · obtain ⟨rfl, rfl⟩ := hl r b e
    exact .inl (by simp)
theorem DI.all (g : Gr R G ds cs first) : ∀ n : Nat, (∀ k, k < n → (bhS G ds first k).heap ≠ []) → DI R G ds cs first (bhS G ds first n) ∧ n + (bhS G ds first n).heap.length ≤ 1 + 4 * (bhS G ds first n).out.length
  | 0, _ => ⟨DI.zero g, by show 0 + 1 ≤ 1 + 4 * 0; lia⟩
  | n + 1, h => by
    obtain ⟨h1, h2⟩ := DI.all g n fun k hk => h k (by lia)
    obtain ⟨h3, h4⟩ := h1.step g (h n (by lia))
    exact ⟨h3, h4 n h2⟩
theorem DJ.out_len (g : Gr R G ds cs first) {out : List PS} {P : PS → Int × Int → Prop} {heap : List PS} {best : List (Str × Int)} (h : DJ R G ds cs first out P heap best) : out.length ≤ 16 := by
  have hn : (out.map (·.2)).Nodup := by
    rw [List.nodup_iff_pairwise_ne, List.pairwise_map]
    refine h.os.imp_of_mem fun {a b} ha hb hab e => ?_
    have h1 := h.ob a ha
    have h2 := h.ob b hb
    rw [e, h2] at h1
    have : a = b := Prod.ext (Option.some.inj h1).symm e
    rw [this, ltP_irrefl] at hab; cases hab
  have := nodup_sub_len _ (cs.map fun c => R c.2.1) hn fun r hr => by
    obtain ⟨p, hp, rfl⟩ := List.mem_map.mp hr
    obtain ⟨c, h1, h2, _⟩ := h.bw _ _ (h.ob p hp)
    exact List.mem_map.mpr ⟨c, h1, h2⟩
  have := g.len
  simp only [List.length_map] at *; lia
theorem DJ.best_len (g : Gr R G ds cs first) {out : List PS} {P : PS → Int × Int → Prop} {heap : List PS} {best : List (Str × Int)} (h : DJ R G ds cs first out P heap best) : best.length ≤ 16 := by
  have := nodup_sub_len _ (cs.map fun c => R c.2.1) h.bk fun r hr => by
    obtain ⟨b, e⟩ := (ilook_some_iff h.bk).mp hr
    obtain ⟨c, h1, h2, _⟩ := h.bw _ _ e
    exact List.mem_map.mpr ⟨c, h1, h2⟩
  have := g.len
  simp only [List.length_map] at *; lia
/-- with an empty heap, the best is the cheapest -/
theorem DI.fin (g : Gr R G ds cs first) {s : BS} (h : DI R G ds cs first s) (he : s.heap = []) (r : Str) : IsC R cs 4 r (ilook s.best r) := by
  have key : ∀ (n : Nat), ∀ c ∈ cs, c.1 ≤ (n : Int) → ∃ b, ilook s.best (R c.2.1) = some b ∧ b ≤ c.2.2 := by
    intro n
    induction n with
    | zero =>
      intro c hc h1
      obtain ⟨e1, e2⟩ := g.e0 c hc h1
      obtain ⟨b, f1, f2⟩ := h.f
      exact ⟨b, by rw [e1]; exact f1, by lia⟩
    | succ n ih =>
      intro c hc h1
      by_cases q : c.1 ≤ (n : Int)
      · exact ih c hc q
      · obtain ⟨d, hd, c', hc', h2, h3, h4⟩ := g.e2 c hc (by lia)
        obtain ⟨b, f1, f2⟩ := ih c' hc' (by lia)
        have hm : (b, R c'.2.1) ∈ s.out := (h.bb _ _ f1).resolve_left (by rw [he]; exact fun z => nomatch z)
        obtain ⟨b', k1, k2⟩ := h.oe _ hm d hd trivial
        dsimp only at k1 k2
        rw [h4] at k1
        exact ⟨b', k1, by lia⟩
  cases q : ilook s.best r with
  | none =>
    intro c hc h1 e
    obtain ⟨b, f1, _⟩ := key 4 c hc h1
    rw [e, q] at f1; cases f1
  | some v =>
    obtain ⟨c, h1, h2, h3⟩ := h.bw r v q
    refine ⟨⟨c, h1, (g.s0 c h1).2, h2, h3⟩, fun c hc h1 e => ?_⟩
    obtain ⟨b, f1, f2⟩ := key 4 c hc h1
    rw [e, q] at f1
    have := Option.some.inj f1
    lia
/-- where the rounds stand still, they have found all -/
theorem still (g : Gr R G ds cs first) {K : Nat} (hK : 1 ≤ K) (hd : dEq (chpL R cs K) (chpL R cs (K - 1 : Nat)) = true) (r : Str) : IsC R cs 4 r (ilook (chpL R cs K) r) := by
  have hf := (bf1_of g K hK).mpr hd
  have hs : ∀ i, itS G ds first (K + i) = ((itS G ds first K).1, []) := by
    intro i
    induction i with
    | zero => rw [Nat.add_zero, ← hf]
    | succ i ih =>
      show rndS G ds (itS G ds first (K + i)).1 (itS G ds first (K + i)).2 = _
      rw [ih]; rfl
  have h1 := (RB.all g (K + 4)).a r
  rw [hs 4] at h1
  dsimp only at h1
  have h2 := (RB.all g K).a r
  rw [h2.uniq (chp_is R cs K r)] at h1
  exact h1.big (fun c hc => (g.s0 c hc).2) (by lia) (by decide)
theorem sorted_ext : ∀ (l l' : List PS), l.Pairwise (fun p q => ltP p q = true) → l'.Pairwise (fun p q => ltP p q = true) → (∀ x, x ∈ l ↔ x ∈ l') → l = l'
  | [], [], _, _, _ => rfl
  | [], b :: t', _, _, h => nomatch (h b).mpr (List.mem_cons_self ..)
  | a :: t, [], _, _, h => nomatch (h a).mp (List.mem_cons_self ..)
  | a :: t, b :: t', h1, h2, h => by
    obtain ⟨a1, a2⟩ := List.pairwise_cons.mp h1
    obtain ⟨b1, b2⟩ := List.pairwise_cons.mp h2
    have hab : a = b := by
      rcases List.mem_cons.mp ((h a).mp (List.mem_cons_self ..)) with e | e
      · exact e
      · rcases List.mem_cons.mp ((h b).mpr (List.mem_cons_self ..)) with e' | e'
        · exact e'.symm
        · have := ltP_asymm (a1 b e')
          rw [b1 a e] at this; cases this
    subst hab
    refine congrArg (a :: ·) (sorted_ext t t' a2 b2 fun x => ⟨fun hx => ?_, fun hx => ?_⟩)
    · rcases List.mem_cons.mp ((h x).mp (List.mem_cons_of_mem _ hx)) with e | e
      · have := a1 x hx
        rw [e, ltP_irrefl] at this; cases this
      · exact e
    · rcases List.mem_cons.mp ((h x).mpr (List.mem_cons_of_mem _ hx)) with e | e
      · have := b1 x hx
        rw [e, ltP_irrefl] at this; cases this
      · exact e
theorem least_of (p : Nat → Prop) : ∀ n, (∃ k, k < n ∧ p k) → ∃ N, N < n ∧ p N ∧ ∀ j, j < N → ¬ p j
  | 0, ⟨k, h, _⟩ => absurd h (by lia)
  | n + 1, ⟨k, h, hk⟩ => by
    by_cases q : ∃ k, k < n ∧ p k
    · obtain ⟨N, h1, h2, h3⟩ := least_of p n q
      exact ⟨N, by lia, h2, h3⟩
    · have hn : ∀ j, j < n → ¬ p j := fun j hj hp => q ⟨j, hj, hp⟩
      have : k = n := by
        rcases Nat.lt_or_ge k n with z | z
        · exact absurd hk (hn k z)
        · lia
      subst this
      exact ⟨k, by lia, hk, hn⟩
theorem hp_of (g : Gr R G ds cs first) : ∃ N, N < 70 ∧ (bhS G ds first N).heap = [] ∧
    (∀ k, k < N → (bhS G ds first k).heap ≠ [] ∧ (bhS G ds first k).heap.length ≤ 500 ∧ (bhS G ds first k).best.length ≤ 500 ∧ (bhS G ds first k).out.length ≤ 500 ∧ (∃ c ∈ cs, (popT (bhS G ds first k).heap).2 = R c.2.1) ∧ ∃ i, ilook (bhS G ds first k).best (popT (bhS G ds first k).heap).2 = some i) ∧
    ∀ K : Nat, 1 ≤ K → dEq (chpL R cs K) (chpL R cs (K - 1 : Nat)) = true → ∀ l' : List PS, l'.Perm ((chpL R cs K).map fun p => (p.2, p.1)) → l'.Pairwise (fun p q => ltP p q = true) → (bhS G ds first N).out = l' := by
  have hex : ∃ k, k < 66 ∧ (bhS G ds first k).heap = [] := Classical.byContradiction fun hn => by
    obtain ⟨h1, h2⟩ := DI.all g 66 fun k hk he => hn ⟨k, hk, he⟩
    have := h1.out_len g
    lia
  obtain ⟨N, hN, he, hmin⟩ := least_of _ _ hex
  refine ⟨N, by lia, he, fun k hk => ?_, fun K hK hd l' hl hs => ?_⟩
  · obtain ⟨h1, h2⟩ := DI.all g k fun j hj => hmin j (by lia)
    have hne := hmin k hk
    have h3 := h1.out_len g
    have h4 := h1.best_len g
    have hm : popT (bhS G ds first k).heap ∈ (bhS G ds first k).heap := (pop_perm hne).mem_iff.mp (List.mem_cons_self ..)
    obtain ⟨b, e, _⟩ := h1.hb _ hm
    obtain ⟨c, f1, f2, _⟩ := h1.bw _ _ e
    exact ⟨hne, by lia, by lia, by lia, ⟨c, f1, f2.symm⟩, b, e⟩
  · obtain ⟨h1, h2⟩ := DI.all g N hmin
    refine sorted_ext _ _ h1.os hs fun x => ?_
    rw [hl.mem_iff]
    have hu : ilook (bhS G ds first N).best x.2 = ilook (chpL R cs K) x.2 := (h1.fin g he x.2).uniq (still g hK hd x.2)
    constructor
    · intro hx
      have := h1.ob x hx
      rw [hu] at this
      exact List.mem_map.mpr ⟨(x.2, x.1), ilook_mem this, rfl⟩
    · intro hx
      obtain ⟨p, hp, rfl⟩ := List.mem_map.mp hx
      dsimp only at hu
      rw [ilook_of_mem (chp_nodup ..) hp] at hu
      exact (h1.bb _ _ hu).resolve_left (by rw [he]; exact fun z => nomatch z)
end
end Mine
end
section
open PySem PySem.W PyProof.Rows PySem.Calls PySem.Spec Builtin
set_option Elab.async false
set_option maxRecDepth 100000
set_option linter.unusedVariables false
set_option linter.unusedSectionVars false
namespace Mine
/-! ### all plain facts together -/
theorem xor_big {s n : Nat} (hn : n < 4096) : (s ^^^ n) / 4096 = s / 4096 := by
  have h := Nat.shiftRight_xor_distrib (a := s) (b := n) (i := 12)
  rw [Nat.shiftRight_eq_div_pow, Nat.shiftRight_eq_div_pow, Nat.shiftRight_eq_div_pow] at h
  have e : n / 2 ^ 12 = 0 := Nat.div_eq_of_lt hn
  rw [e, Nat.xor_zero] at h
  exact h
theorem gr_of {start : Int} {ds : List (Int × Int)} (hl : ds.length = 4) (hd : ∀ x ∈ ds, DeedOk x) {G : Str → Int → Str} (hG : GOk start ds G) : Gr (Rw start) G ds (chL ds) (Rw start 0) := by
  have g := chL_good ds hd
  refine ⟨fun c hc h1 => ?_, fun c hc => ?_, ⟨_, g.z, rfl, rfl, rfl⟩, fun c hc d hdd => ?_, fun c hc h1 => ?_, fun d hdd => (hd d hdd).2.2, ?_, by lia⟩
  · have b := g.b c hc
    obtain ⟨z1, z2⟩ := b.z (by have := b.s0; lia)
    rw [z1, z2]
    exact ⟨rfl, Int.le_refl _⟩
  · have b := g.b c hc
    have := b.s1
    exact ⟨b.s0, by lia⟩
  · obtain ⟨c', h1, h2, h3, h4⟩ := g.e1 c hc d hdd
    exact ⟨c', h1, by rw [hG c hc d hdd, h2], h3, h4⟩
  · obtain ⟨d, hdd, c', h2, h3, h4, h5⟩ := g.e2 c hc h1
    exact ⟨d, hdd, c', h2, by lia, by lia, by rw [hG c' h2 d hdd, h5]⟩
  · rw [chL_len, hl]; decide
theorem plain (start manner : Int) (ds : List (Int × Int)) (hs0 : 0 ≤ start) (hs1 : start < 65536) (hm0 : 0 ≤ manner) (hm1 : manner < 3) (hl : ds.length = 4) (hd : ∀ p ∈ ds, 0 ≤ p.1 ∧ p.1 < 4096 ∧ 1 ≤ p.2) : Plain start manner ds := by
  have g := chL_good ds hd
  obtain ⟨s, rfl⟩ : ∃ s : Nat, start = s := ⟨start.toNat, by lia⟩
  have hs : s < 65536 := by lia
  have hr : ∀ x ∈ rowL (s : Int), x < 128 := fun x hx => (row_ascii _ x hx).1
  refine {
    len := by rw [chL_len, hl]; decide
    rng := fun c hc => ?_
    inj := fun c hc c' hc' e => ?_
    fm := fm_eq
    x0 := ?_
    c0 := ⟨_, g.z, rfl⟩
    clo := fun c hc d hdd => ?_
    rne := fun t e => ?_
    wlen := by rw [row_len]; decide
    wasc := hr
    wrd := row_wrd _ _ hm0 hm1
    wtl := by have := wrt_len (rowL (s : Int)) manner; rw [row_len] at this; lia
    wln := row_ln _ _ hm0 hm1
    bf1 := fun G hG j hj => bf1_of (gr_of hl hd hG) j hj
    bf2 := fun G hG j => bf2_of (gr_of hl hd hG) j
    bf3 := ?_
    bf4 := fun G hG k => bf4_of (gr_of hl hd hG) k
    nd := fun K => ?_
    hp := fun G hG => hp_of (gr_of hl hd hG) }
  · obtain ⟨n, e, hn⟩ := (g.b c hc).t
    rw [e, bXor]
    have : s ^^^ n < 2 ^ 16 := Nat.xor_lt_two_pow hs (by lia)
    lia
  · obtain ⟨n, e1, hn⟩ := (g.b c hc).t
    obtain ⟨n', e1', hn'⟩ := (g.b c' hc').t
    unfold Rw at e
    have e := mkS_inj e
    rw [e1, e1', bXor, bXor] at e ⊢
    have := row_inj _ _ (by rw [xor_big hn, xor_big hn']) e
    rw [this]
  · have := bXor s 0
    rw [Nat.xor_zero] at this; exact this
  · obtain ⟨c', h1, h2, _⟩ := g.e1 c hc d hdd
    refine ⟨?_, c', h1, h2⟩
    obtain ⟨n, e1, hn⟩ := (g.b c hc).t
    obtain ⟨hd0, hd1, _⟩ := hd d hdd
    obtain ⟨dn, e2⟩ : ∃ n : Nat, d.1 = n := ⟨d.1.toNat, by lia⟩
    rw [e1, e2, bXor, bXor, bXor, ← Nat.xor_assoc]
    have hx : s ^^^ n < 65536 := Nat.xor_lt_two_pow (n := 16) hs (by lia)
    rw [← nat_led hx (by lia : dn < 4096)]
    unfold ledM
    have h1 := bAnd (s ^^^ n) 61440
    have h2 := bAnd (s ^^^ n) 4095
    have h3 := bXor ((s ^^^ n) &&& 4095) dn
    rw [← h2] at h3
    have h1' : Builtin.bitAnd ((s ^^^ n : Nat) : Int) 61440 = (((s ^^^ n) &&& 61440 : Nat) : Int) := h1
    have h3' : Builtin.bitXor (Builtin.bitAnd ((s ^^^ n : Nat) : Int) 4095) (dn : Int) = ((((s ^^^ n) &&& 4095) ^^^ dn : Nat) : Int) := h3
    rw [h1', h3']
    lia
  · have h1 := congrArg Str.length e
    unfold Rw at h1
    rw [mkS_len, row_len] at h1
    exact absurd h1 (by decide)
  · exact bf3_of fun c hc => by
      have := (g.b c hc).s1
      lia
  · exact nd_of (by rw [chL_len, hl]; decide) K
end Mine
end
theorem PySem.Challenge.cw_oy0143_01_holds : PySem.Challenge.rw_oy0143_01.Holds :=
  Mine.law_holds Mine.plain
