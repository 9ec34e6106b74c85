import PyProof.Rows.All
import Wide.All
import OpenK.AllK
import Wide.FinOn
import PyProof.WalkLemmas
import Lean
import PySem.Challenge.RW_pd0103_01
set_option Elab.async false
set_option linter.unusedVariables false
section
set_option maxRecDepth 100000
set_option maxHeartbeats 8000000
namespace Mine
open PySem PySem.W PySem.W.X PySem.Calls PyProof.Rows
/-- the program, and the part of it that the head tells -/
noncomputable def pw : Program := PySem.Challenge.rw_pd0103_01.prog
noncomputable def qv : Program := view pw [50]
noncomputable def loo : List Str := pw.boundNames.filter fun n => n != Str.ofString "law"
/-- a def of the top, as it stands behind the run -/
noncomputable def fnOf (i : Nat) (df pm : Value) (c : Addr) : Obj := match pw.main.body[i]? with
  | some (.FunctionDef n ps b _ _ _ sc _ _ _) => { cls := .type "function", data := .func { name := n, qualname := n, params := ps, body := .stmts b, scope := sc, globals := 3, closure := [], defaults := df, kwdefaults := .none, pyModule := pm, code := .ref c } }
  | _ => default
/-- the written heap -/
noncomputable def KL (P : Params) : Frag := [
  (nat_lit 1, { cls := Value.type "dict", data := Data.dict #[{ hash := PyData.keyHash P (Str.ofString "builtins"), key := Value.str (Str.ofString "builtins") 162, val := Value.ref 4 }, { hash := PyData.keyHash P (Str.ofString "__main__"), key := Value.str (Str.ofString "__main__") 163, val := Value.ref 5 }] 2 }),
  (nat_lit 2, { cls := Value.none, data := Data.dict #[] }),
  (nat_lit 3, { cls := Value.type "dict", data := Data.dict #[{ hash := PyData.keyHash P (Str.ofString "__name__"), key := Value.str (Str.ofString "__name__") 165, val := Value.str (Str.ofString "law_pd0103_01") 452 }, { hash := PyData.keyHash P (Str.ofString "__doc__"), key := Value.str (Str.ofString "__doc__") 166, val := Value.none }, { hash := PyData.keyHash P (Str.ofString "__package__"), key := Value.str (Str.ofString "__package__") 167, val := Value.none }, { hash := PyData.keyHash P (Str.ofString "__loader__"), key := Value.str (Str.ofString "__loader__") 168, val := Value.builtin "__main__.__loader__#opaque" }, { hash := PyData.keyHash P (Str.ofString "__spec__"), key := Value.str (Str.ofString "__spec__") 169, val := Value.none }, { hash := PyData.keyHash P (Str.ofString "__annotations__"), key := Value.str (Str.ofString "__annotations__") 170, val := Value.ref 6 }, { hash := PyData.keyHash P (Str.ofString "__builtins__"), key := Value.str (Str.ofString "__builtins__") 171, val := Value.ref 4 }, { hash := PyData.keyHash P (Str.ofString "__file__"), key := Value.str (Str.ofString "__file__") 173, val := Value.str (Str.ofString "/claim/cut.py") 172 }, { hash := PyData.keyHash P (Str.ofString "__cached__"), key := Value.str (Str.ofString "__cached__") 174, val := Value.none }, { hash := PyData.keyHash P (Str.ofString "_wall"), key := Value.str (Str.ofString "_wall") 193, val := Value.ref 21 }, { hash := PyData.keyHash P (Str.ofString "cmp_to_key"), key := Value.str (Str.ofString "cmp_to_key") 204, val := Value.ref 28 }, { hash := PyData.keyHash P (Str.ofString "_initial_missing"), key := Value.str (Str.ofString "_initial_missing") 205, val := Value.ref 29 }, { hash := PyData.keyHash P (Str.ofString "reduce"), key := Value.str (Str.ofString "reduce") 217, val := Value.ref 37 }, { hash := PyData.keyHash P (Str.ofString "_plain_name"), key := Value.str (Str.ofString "_plain_name") 228, val := Value.ref 44 }, { hash := PyData.keyHash P (Str.ofString "ABCMeta"), key := Value.str (Str.ofString "ABCMeta") 254, val := Value.ref 61 }, { hash := PyData.keyHash P (Str.ofString "_ABCLike"), key := Value.str (Str.ofString "_ABCLike") 297, val := Value.ref 94 }, { hash := PyData.keyHash P (Str.ofString "_abc_plain_meta"), key := Value.str (Str.ofString "_abc_plain_meta") 304, val := Value.ref 103 }, { hash := PyData.keyHash P (Str.ofString "fspath"), key := Value.str (Str.ofString "fspath") 316, val := Value.ref 110 }, { hash := PyData.keyHash P (Str.ofString "_check_arg_types"), key := Value.str (Str.ofString "_check_arg_types") 329, val := Value.ref 117 }, { hash := PyData.keyHash P (Str.ofString "_get_sep"), key := Value.str (Str.ofString "_get_sep") 338, val := Value.ref 124 }, { hash := PyData.keyHash P (Str.ofString "join"), key := Value.str (Str.ofString "join") 349, val := Value.ref 131 }, { hash := PyData.keyHash P (Str.ofString "dirname"), key := Value.str (Str.ofString "dirname") 359, val := Value.ref 138 }, { hash := PyData.keyHash P (Str.ofString "S_IMODE"), key := Value.str (Str.ofString "S_IMODE") 368, val := Value.ref 145 }, { hash := PyData.keyHash P (Str.ofString "S_IFMT"), key := Value.str (Str.ofString "S_IFMT") 375, val := Value.ref 152 }, { hash := PyData.keyHash P (Str.ofString "S_IFDIR"), key := Value.str (Str.ofString "S_IFDIR") 377, val := Value.int 16384 376 }, { hash := PyData.keyHash P (Str.ofString "S_IFCHR"), key := Value.str (Str.ofString "S_IFCHR") 379, val := Value.int 8192 378 }, { hash := PyData.keyHash P (Str.ofString "S_IFBLK"), key := Value.str (Str.ofString "S_IFBLK") 381, val := Value.int 24576 380 }, { hash := PyData.keyHash P (Str.ofString "S_IFREG"), key := Value.str (Str.ofString "S_IFREG") 383, val := Value.int 32768 382 }, { hash := PyData.keyHash P (Str.ofString "S_IFIFO"), key := Value.str (Str.ofString "S_IFIFO") 385, val := Value.int 4096 384 }, { hash := PyData.keyHash P (Str.ofString "S_IFLNK"), key := Value.str (Str.ofString "S_IFLNK") 387, val := Value.int 40960 386 }, { hash := PyData.keyHash P (Str.ofString "S_IFSOCK"), key := Value.str (Str.ofString "S_IFSOCK") 389, val := Value.int 49152 388 }, { hash := PyData.keyHash P (Str.ofString "S_ISUID"), key := Value.str (Str.ofString "S_ISUID") 391, val := Value.int 2048 390 }, { hash := PyData.keyHash P (Str.ofString "S_ISGID"), key := Value.str (Str.ofString "S_ISGID") 393, val := Value.int 1024 392 }, { hash := PyData.keyHash P (Str.ofString "S_ISVTX"), key := Value.str (Str.ofString "S_ISVTX") 395, val := Value.int 512 394 }, { hash := PyData.keyHash P (Str.ofString "S_IRUSR"), key := Value.str (Str.ofString "S_IRUSR") 397, val := Value.int 256 396 }, { hash := PyData.keyHash P (Str.ofString "S_IWUSR"), key := Value.str (Str.ofString "S_IWUSR") 399, val := Value.int 128 398 }, { hash := PyData.keyHash P (Str.ofString "S_IXUSR"), key := Value.str (Str.ofString "S_IXUSR") 401, val := Value.int 64 400 }, { hash := PyData.keyHash P (Str.ofString "S_IRGRP"), key := Value.str (Str.ofString "S_IRGRP") 403, val := Value.int 32 402 }, { hash := PyData.keyHash P (Str.ofString "S_IWGRP"), key := Value.str (Str.ofString "S_IWGRP") 405, val := Value.int 16 404 }, { hash := PyData.keyHash P (Str.ofString "S_IXGRP"), key := Value.str (Str.ofString "S_IXGRP") 407, val := Value.int 8 406 }, { hash := PyData.keyHash P (Str.ofString "S_IROTH"), key := Value.str (Str.ofString "S_IROTH") 409, val := Value.int 4 408 }, { hash := PyData.keyHash P (Str.ofString "S_IWOTH"), key := Value.str (Str.ofString "S_IWOTH") 411, val := Value.int 2 410 }, { hash := PyData.keyHash P (Str.ofString "S_IXOTH"), key := Value.str (Str.ofString "S_IXOTH") 413, val := Value.int 1 412 }, { hash := PyData.keyHash P (Str.ofString "_filemode_table"), key := Value.str (Str.ofString "_filemode_table") 439, val := Value.ref 185 }, { hash := PyData.keyHash P (Str.ofString "filemode"), key := Value.str (Str.ofString "filemode") 451, val := Value.ref 192 }, { hash := PyData.keyHash P (Str.ofString "_law_rows"), key := Value.str (Str.ofString "_law_rows") 459, val := Value.ref 197 }, { hash := PyData.keyHash P (Str.ofString "_law_modes"), key := Value.str (Str.ofString "_law_modes") 465, val := Value.ref 202 }, { hash := PyData.keyHash P (Str.ofString "_law_compared"), key := Value.str (Str.ofString "_law_compared") 473, val := Value.ref 209 }, { hash := PyData.keyHash P (Str.ofString "_law_told"), key := Value.str (Str.ofString "_law_told") 479, val := Value.ref 214 }, { hash := PyData.keyHash P (Str.ofString "_law_due"), key := Value.str (Str.ofString "_law_due") 485, val := Value.ref 219 }, { hash := PyData.keyHash P (Str.ofString "law"), key := Value.str (Str.ofString "law") 494, val := Value.ref 226 }] 51 }),
  (nat_lit 4, { cls := Value.type "module", dict := some 0 }),
  (nat_lit 23, { cls := Value.none, data := Data.fields #[] }),
  (nat_lit 27, { cls := Value.type "code", data := Data.fields #[Value.str (Str.ofString "cmp_to_key") 196, Value.str (Str.ofString "cmp_to_key") 197, Value.str (Str.ofString "/claim/cut.py") 198, Value.int 5 0, Value.int 1 0, Value.int 0 0, Value.int 0 0, Value.int 3 0, Value.ref 22, Value.bool true, Value.int 181 0, Value.ref 23, Value.none, Value.ref 24, Value.ref 25, Value.ref 26, Value.int 202 0, Value.int 5 0, Value.str (Str.ofString "/claim/cut.py") 203] }),
  (nat_lit 28, fnOf 2 (Value.none) (Value.str (Str.ofString "cpy313.functools") 194) 27),
  (nat_lit 30, { cls := Value.type "tuple", data := Data.seq #[Value.ref 29] }),
  (nat_lit 36, { cls := Value.type "code", data := Data.fields #[Value.str (Str.ofString "reduce") 206, Value.str (Str.ofString "reduce") 207, Value.str (Str.ofString "/claim/cut.py") 208, Value.int 31 0, Value.int 3 0, Value.int 0 0, Value.int 0 0, Value.int 3 0, Value.ref 31, Value.bool true, Value.int 181 0, Value.ref 32, Value.none, Value.ref 33, Value.ref 34, Value.ref 35, Value.int 215 0, Value.int 31 0, Value.str (Str.ofString "/claim/cut.py") 216] }),
  (nat_lit 37, fnOf 4 (Value.ref 30) (Value.str (Str.ofString "cpy313.functools") 194) 36),
  (nat_lit 109, { cls := Value.type "code", data := Data.fields #[Value.str (Str.ofString "fspath") 307, Value.str (Str.ofString "fspath") 308, Value.str (Str.ofString "/claim/cut.py") 309, Value.int 74 0, Value.int 1 0, Value.int 0 0, Value.int 0 0, Value.int 3 0, Value.ref 104, Value.bool true, Value.int 181 0, Value.ref 105, Value.none, Value.ref 106, Value.ref 107, Value.ref 108, Value.int 314 0, Value.int 74 0, Value.str (Str.ofString "/claim/cut.py") 315] }),
  (nat_lit 110, fnOf 13 (Value.none) (Value.str (Str.ofString "os") 305) 109),
  (nat_lit 123, { cls := Value.type "code", data := Data.fields #[Value.str (Str.ofString "_get_sep") 332, Value.str (Str.ofString "_get_sep") 333, Value.str (Str.ofString "/claim/cut.py") 334, Value.int 103 0, Value.int 1 0, Value.int 0 0, Value.int 0 0, Value.int 3 0, Value.ref 118, Value.bool true, Value.int 181 0, Value.ref 119, Value.none, Value.ref 120, Value.ref 121, Value.ref 122, Value.int 336 0, Value.int 103 0, Value.str (Str.ofString "/claim/cut.py") 337] }),
  (nat_lit 124, fnOf 17 (Value.none) (Value.str (Str.ofString "cpy313.posixpath") 330) 123),
  (nat_lit 130, { cls := Value.type "code", data := Data.fields #[Value.str (Str.ofString "join") 339, Value.str (Str.ofString "join") 340, Value.str (Str.ofString "/claim/cut.py") 341, Value.int 108 0, Value.int 1 0, Value.int 0 0, Value.int 0 0, Value.int 7 0, Value.ref 125, Value.bool true, Value.int 181 0, Value.ref 126, Value.none, Value.ref 127, Value.ref 128, Value.ref 129, Value.int 347 0, Value.int 108 0, Value.str (Str.ofString "/claim/cut.py") 348] }),
  (nat_lit 131, fnOf 18 (Value.none) (Value.str (Str.ofString "cpy313.posixpath") 330) 130),
  (nat_lit 137, { cls := Value.type "code", data := Data.fields #[Value.str (Str.ofString "dirname") 350, Value.str (Str.ofString "dirname") 351, Value.str (Str.ofString "/claim/cut.py") 352, Value.int 125 0, Value.int 1 0, Value.int 0 0, Value.int 0 0, Value.int 3 0, Value.ref 132, Value.bool true, Value.int 181 0, Value.ref 133, Value.none, Value.ref 134, Value.ref 135, Value.ref 136, Value.int 357 0, Value.int 125 0, Value.str (Str.ofString "/claim/cut.py") 358] }),
  (nat_lit 138, fnOf 19 (Value.none) (Value.str (Str.ofString "cpy313.posixpath") 330) 137),
  (nat_lit 144, { cls := Value.type "code", data := Data.fields #[Value.str (Str.ofString "S_IMODE") 362, Value.str (Str.ofString "S_IMODE") 363, Value.str (Str.ofString "/claim/cut.py") 364, Value.int 134 0, Value.int 1 0, Value.int 0 0, Value.int 0 0, Value.int 3 0, Value.ref 139, Value.bool true, Value.int 181 0, Value.ref 140, Value.none, Value.ref 141, Value.ref 142, Value.ref 143, Value.int 366 0, Value.int 134 0, Value.str (Str.ofString "/claim/cut.py") 367] }),
  (nat_lit 145, fnOf 21 (Value.none) (Value.str (Str.ofString "cpy313.stat") 360) 144),
  (nat_lit 151, { cls := Value.type "code", data := Data.fields #[Value.str (Str.ofString "S_IFMT") 369, Value.str (Str.ofString "S_IFMT") 370, Value.str (Str.ofString "/claim/cut.py") 371, Value.int 136 0, Value.int 1 0, Value.int 0 0, Value.int 0 0, Value.int 3 0, Value.ref 146, Value.bool true, Value.int 181 0, Value.ref 147, Value.none, Value.ref 148, Value.ref 149, Value.ref 150, Value.int 373 0, Value.int 136 0, Value.str (Str.ofString "/claim/cut.py") 374] }),
  (nat_lit 152, fnOf 22 (Value.none) (Value.str (Str.ofString "cpy313.stat") 360) 151),
  (nat_lit 153, { cls := Value.type "tuple", data := Data.seq #[Value.int 40960 386, Value.str (Str.ofString "l") 414] }),
  (nat_lit 154, { cls := Value.type "tuple", data := Data.seq #[Value.int 49152 388, Value.str (Str.ofString "s") 415] }),
  (nat_lit 155, { cls := Value.type "tuple", data := Data.seq #[Value.int 32768 382, Value.str (Str.ofString "-") 416] }),
  (nat_lit 156, { cls := Value.type "tuple", data := Data.seq #[Value.int 24576 380, Value.str (Str.ofString "b") 417] }),
  (nat_lit 157, { cls := Value.type "tuple", data := Data.seq #[Value.int 16384 376, Value.str (Str.ofString "d") 418] }),
  (nat_lit 158, { cls := Value.type "tuple", data := Data.seq #[Value.int 8192 378, Value.str (Str.ofString "c") 419] }),
  (nat_lit 159, { cls := Value.type "tuple", data := Data.seq #[Value.int 4096 384, Value.str (Str.ofString "p") 420] }),
  (nat_lit 160, { cls := Value.type "tuple", data := Data.seq #[Value.ref 153, Value.ref 154, Value.ref 155, Value.ref 156, Value.ref 157, Value.ref 158, Value.ref 159] }),
  (nat_lit 161, { cls := Value.type "tuple", data := Data.seq #[Value.int 256 396, Value.str (Str.ofString "r") 421] }),
  (nat_lit 162, { cls := Value.type "tuple", data := Data.seq #[Value.ref 161] }),
  (nat_lit 163, { cls := Value.type "tuple", data := Data.seq #[Value.int 128 398, Value.str (Str.ofString "w") 422] }),
  (nat_lit 164, { cls := Value.type "tuple", data := Data.seq #[Value.ref 163] }),
  (nat_lit 165, { cls := Value.type "tuple", data := Data.seq #[Value.int 2112 423, Value.str (Str.ofString "s") 424] }),
  (nat_lit 166, { cls := Value.type "tuple", data := Data.seq #[Value.int 2048 390, Value.str (Str.ofString "S") 425] }),
  (nat_lit 167, { cls := Value.type "tuple", data := Data.seq #[Value.int 64 400, Value.str (Str.ofString "x") 426] }),
  (nat_lit 168, { cls := Value.type "tuple", data := Data.seq #[Value.ref 165, Value.ref 166, Value.ref 167] }),
  (nat_lit 169, { cls := Value.type "tuple", data := Data.seq #[Value.int 32 402, Value.str (Str.ofString "r") 427] }),
  (nat_lit 170, { cls := Value.type "tuple", data := Data.seq #[Value.ref 169] }),
  (nat_lit 171, { cls := Value.type "tuple", data := Data.seq #[Value.int 16 404, Value.str (Str.ofString "w") 428] }),
  (nat_lit 172, { cls := Value.type "tuple", data := Data.seq #[Value.ref 171] }),
  (nat_lit 173, { cls := Value.type "tuple", data := Data.seq #[Value.int 1032 429, Value.str (Str.ofString "s") 430] }),
  (nat_lit 174, { cls := Value.type "tuple", data := Data.seq #[Value.int 1024 392, Value.str (Str.ofString "S") 431] }),
  (nat_lit 175, { cls := Value.type "tuple", data := Data.seq #[Value.int 8 406, Value.str (Str.ofString "x") 432] }),
  (nat_lit 176, { cls := Value.type "tuple", data := Data.seq #[Value.ref 173, Value.ref 174, Value.ref 175] }),
  (nat_lit 177, { cls := Value.type "tuple", data := Data.seq #[Value.int 4 408, Value.str (Str.ofString "r") 433] }),
  (nat_lit 178, { cls := Value.type "tuple", data := Data.seq #[Value.ref 177] }),
  (nat_lit 179, { cls := Value.type "tuple", data := Data.seq #[Value.int 2 410, Value.str (Str.ofString "w") 434] }),
  (nat_lit 180, { cls := Value.type "tuple", data := Data.seq #[Value.ref 179] }),
  (nat_lit 181, { cls := Value.type "tuple", data := Data.seq #[Value.int 513 435, Value.str (Str.ofString "t") 436] }),
  (nat_lit 182, { cls := Value.type "tuple", data := Data.seq #[Value.int 512 394, Value.str (Str.ofString "T") 437] }),
  (nat_lit 183, { cls := Value.type "tuple", data := Data.seq #[Value.int 1 412, Value.str (Str.ofString "x") 438] }),
  (nat_lit 184, { cls := Value.type "tuple", data := Data.seq #[Value.ref 181, Value.ref 182, Value.ref 183] }),
  (nat_lit 185, { cls := Value.type "tuple", data := Data.seq #[Value.ref 160, Value.ref 162, Value.ref 164, Value.ref 168, Value.ref 170, Value.ref 172, Value.ref 176, Value.ref 178, Value.ref 180, Value.ref 184] }),
  (nat_lit 191, { cls := Value.type "code", data := Data.fields #[Value.str (Str.ofString "filemode") 440, Value.str (Str.ofString "filemode") 441, Value.str (Str.ofString "/claim/cut.py") 442, Value.int 158 0, Value.int 1 0, Value.int 0 0, Value.int 0 0, Value.int 3 0, Value.ref 186, Value.bool true, Value.int 181 0, Value.ref 187, Value.none, Value.ref 188, Value.ref 189, Value.ref 190, Value.int 449 0, Value.int 158 0, Value.str (Str.ofString "/claim/cut.py") 450] }),
  (nat_lit 192, fnOf 43 (Value.none) (Value.str (Str.ofString "cpy313.stat") 360) 191),
  (nat_lit 196, { cls := Value.type "code", data := Data.fields #[Value.str (Str.ofString "_law_rows") 454, Value.str (Str.ofString "_law_rows") 455, Value.str (Str.ofString "/claim/cut.py") 456, Value.int 176 0, Value.int 1 0, Value.int 0 0, Value.int 0 0, Value.int 3 0, Value.ref 193, Value.bool true, Value.int 181 0, Value.ref 194, Value.none, Value.none, Value.none, Value.ref 195, Value.int 457 0, Value.int 176 0, Value.str (Str.ofString "/claim/cut.py") 458] }),
  (nat_lit 197, fnOf 45 (Value.none) (Value.str (Str.ofString "law_pd0103_01") 452) 196),
  (nat_lit 201, { cls := Value.type "code", data := Data.fields #[Value.str (Str.ofString "_law_modes") 460, Value.str (Str.ofString "_law_modes") 461, Value.str (Str.ofString "/claim/cut.py") 462, Value.int 181 0, Value.int 2 0, Value.int 0 0, Value.int 0 0, Value.int 3 0, Value.ref 198, Value.bool true, Value.int 181 0, Value.ref 199, Value.none, Value.none, Value.none, Value.ref 200, Value.int 463 0, Value.int 181 0, Value.str (Str.ofString "/claim/cut.py") 464] }),
  (nat_lit 202, fnOf 46 (Value.none) (Value.str (Str.ofString "law_pd0103_01") 452) 201),
  (nat_lit 208, { cls := Value.type "code", data := Data.fields #[Value.str (Str.ofString "_law_compared") 466, Value.str (Str.ofString "_law_compared") 467, Value.str (Str.ofString "/claim/cut.py") 468, Value.int 188 0, Value.int 2 0, Value.int 0 0, Value.int 0 0, Value.int 3 0, Value.ref 203, Value.bool true, Value.int 181 0, Value.ref 204, Value.none, Value.ref 205, Value.ref 206, Value.ref 207, Value.int 471 0, Value.int 188 0, Value.str (Str.ofString "/claim/cut.py") 472] }),
  (nat_lit 209, fnOf 47 (Value.none) (Value.str (Str.ofString "law_pd0103_01") 452) 208),
  (nat_lit 211, { cls := Value.none, data := Data.fields #[] }),
  (nat_lit 213, { cls := Value.type "code", data := Data.fields #[Value.str (Str.ofString "_law_told") 474, Value.str (Str.ofString "_law_told") 475, Value.str (Str.ofString "/claim/cut.py") 476, Value.int 194 0, Value.int 2 0, Value.int 0 0, Value.int 0 0, Value.int 3 0, Value.ref 210, Value.bool true, Value.int 181 0, Value.ref 211, Value.none, Value.none, Value.none, Value.ref 212, Value.int 477 0, Value.int 194 0, Value.str (Str.ofString "/claim/cut.py") 478] }),
  (nat_lit 214, fnOf 48 (Value.none) (Value.str (Str.ofString "law_pd0103_01") 452) 213),
  (nat_lit 218, { cls := Value.type "code", data := Data.fields #[Value.str (Str.ofString "_law_due") 480, Value.str (Str.ofString "_law_due") 481, Value.str (Str.ofString "/claim/cut.py") 482, Value.int 204 0, Value.int 2 0, Value.int 0 0, Value.int 0 0, Value.int 3 0, Value.ref 215, Value.bool true, Value.int 181 0, Value.ref 216, Value.none, Value.none, Value.none, Value.ref 217, Value.int 483 0, Value.int 204 0, Value.str (Str.ofString "/claim/cut.py") 484] }),
  (nat_lit 219, fnOf 49 (Value.none) (Value.str (Str.ofString "law_pd0103_01") 452) 218),
  (nat_lit 225, { cls := Value.type "code", data := Data.fields #[Value.str (Str.ofString "law") 486, Value.str (Str.ofString "law") 487, Value.str (Str.ofString "/claim/cut.py") 488, Value.int 212 0, Value.int 1 0, Value.int 0 0, Value.int 0 0, Value.int 3 0, Value.ref 220, Value.bool true, Value.int 181 0, Value.ref 221, Value.none, Value.ref 222, Value.ref 223, Value.ref 224, Value.int 492 0, Value.int 212 0, Value.str (Str.ofString "/claim/cut.py") 493] }),
  (nat_lit 226, fnOf 50 (Value.none) (Value.str (Str.ofString "law_pd0103_01") 452) 225)]
def asL : List Addr := [1, 2, 3, 4, 23, 27, 28, 30, 36, 37, 109, 110, 123, 124, 130, 131, 137, 138, 144, 145, 151, 152, 153, 154, 155, 156, 157, 158, 159, 160, 161, 162, 163, 164, 165, 166, 167, 168, 169, 170, 171, 172, 173, 174, 175, 176, 177, 178, 179, 180, 181, 182, 183, 184, 185, 191, 192, 196, 197, 201, 202, 208, 209, 211, 213, 214, 218, 219, 225, 226]
/-- the run of the top, with the library's quick twins of the step, of its table and of the look in their places -/
theorem left_law : LeftO pw qv loo (fun s => recOk [] s) (fun s => asL.map s.heap.get?) (fun w => (KL w.params).map fun p : Addr × Obj => some p.2) 3186 := fun w => by
  delta openEnds topFrom topRun topRun._f
  rw [PySem.W.Fast.te8437177126325714943, PySem.W.Fast.te11892475500146522536, PySem.W.Fast.te14364793385576792824, PySem.W.Fast.te4187177175401517315]
  kernel_rfl
theorem asL_eq (P : Params) : asL = (KL P).map (·.1) := by kernel_rfl
end Mine
end
section
namespace Mine
open PySem PySem.W PySem.Calls PyProof.Rows

/-- every object of the first heap stands in the second -/
abbrev Kp (h h' : Heap) : Prop := ∀ b o, h.get? b = some o → h'.get? b = some o
theorem Kp.refl (h : Heap) : Kp h h := fun _ _ e => e
theorem Kp.trans {h₁ h₂ h₃ : Heap} (a : Kp h₁ h₂) (b : Kp h₂ h₃) : Kp h₁ h₃ := fun x o e => b x o (a x o e)
theorem Kp.push (h : Heap) (o : Obj) : Kp h (h.push o) := fun _ _ e => Heap.get?_push_of_some _ e

/-- the hidden addresses stand in the heap -/
abbrev Bd (Hd : List Addr) (h : Heap) : Prop := ∀ a ∈ Hd, a < h.objs.size

/-- kept but for the hidden -/
abbrev KpH (Hd : List Addr) (h h' : Heap) : Prop := ∀ b o, b ∉ Hd → h.get? b = some o → h'.get? b = some o
theorem Kp.toH {Hd : List Addr} {h h' : Heap} (k : Kp h h') : KpH Hd h h' := fun b o _ e => k b o e
theorem KpH.trans {Hd : List Addr} {h₁ h₂ h₃ : Heap} (a : KpH Hd h₁ h₂) (b : KpH Hd h₂ h₃) : KpH Hd h₁ h₃ := fun x o n e => b x o n (a x o n e)
theorem KpH.same {Hd : List Addr} {a : Addr} {h h' : Heap} (hs : Heap.SameBut a h h') (ha : a ∈ Hd) : KpH Hd h h' := fun b _ n e => (hs.2 b (fun q => n (q ▸ ha))).trans e
theorem KpH.hid {Hd : List Addr} {h h' : Heap} (k : KpH Hd h h') : Kp (hideAll h Hd) (hideAll h' Hd) := fun b o e => by
  by_cases hb : b ∈ Hd
  · rw [hideAll_none Hd hb] at e; cases e
  · exact hideAll_get Hd (k b o hb (of_hideAll Hd e)) hb
theorem hid_le (Hd : List Addr) (h : Heap) : Kp (hideAll h Hd) h := fun _ _ e => of_hideAll Hd e

/-- v reads as d without touching a hidden object -/
def Rp (Hd : List Addr) (h : Heap) (v : Value) (d : PyData) : Prop := ∃ as, Reads (hideAll h Hd) v d as
def RpAll (Hd : List Addr) (h : Heap) (vs : List Value) (ds : List PyData) : Prop := ∃ as, ReadsAll (hideAll h Hd) vs ds as

section
variable {Hd Hd' : List Addr} {h h' : Heap} {v : Value} {d : PyData} {vs : List Value} {ds : List PyData}
theorem Rp.of (r : Rp Hd h v d) (k : Kp (hideAll h Hd) (hideAll h' Hd')) : Rp Hd' h' v d := let ⟨as, q⟩ := r; ⟨as, Reads.keeps k q⟩
theorem RpAll.of (r : RpAll Hd h vs ds) (k : Kp (hideAll h Hd) (hideAll h' Hd')) : RpAll Hd' h' vs ds := let ⟨as, q⟩ := r; ⟨as, ReadsAll.keeps k q⟩
theorem Rp.up (r : Rp Hd h v d) (k : Kp h h') : Rp Hd h' v d := r.of (Kp.toH k).hid
theorem RpAll.up (r : RpAll Hd h vs ds) (k : Kp h h') : RpAll Hd h' vs ds := r.of (Kp.toH k).hid
theorem Rp.upH (r : Rp Hd h v d) (k : KpH Hd h h') : Rp Hd h' v d := r.of k.hid
theorem RpAll.upH (r : RpAll Hd h vs ds) (k : KpH Hd h h') : RpAll Hd h' vs ds := r.of k.hid
theorem Rp.reads (r : Rp Hd h v d) : ∃ as, Reads h v d as := let ⟨as, q⟩ := r; ⟨as, Reads.keeps (hid_le Hd h) q⟩
theorem RpAll.reads (r : RpAll Hd h vs ds) : ∃ as, ReadsAll h vs ds as := let ⟨as, q⟩ := r; ⟨as, ReadsAll.keeps (hid_le Hd h) q⟩
theorem RpAll.length (r : RpAll Hd h vs ds) : vs.length = ds.length := let ⟨_, q⟩ := r; SeqAt.ReadsAll.length _ _ _ q
theorem RpAll.nil : RpAll Hd h [] [] := ⟨_, .nil⟩
theorem RpAll.cons (a : Rp Hd h v d) (b : RpAll Hd h vs ds) : RpAll Hd h (v :: vs) (d :: ds) := let ⟨_, p⟩ := a; let ⟨_, q⟩ := b; ⟨_, .cons p q⟩
theorem RpAll.append {ws : List Value} {es : List PyData} (a : RpAll Hd h vs ds) (b : RpAll Hd h ws es) : RpAll Hd h (vs ++ ws) (ds ++ es) := by
  induction vs generalizing ds with
  | nil => obtain ⟨_, q⟩ := a; cases q; exact b
  | cons v vs ih =>
    obtain ⟨_, q⟩ := a
    cases q with
    | cons p q => exact .cons ⟨_, p⟩ (ih ⟨_, q⟩)
theorem RpAll.head (a : RpAll Hd h (v :: vs) (d :: ds)) : Rp Hd h v d := by obtain ⟨_, q⟩ := a; cases q with | cons p q => exact ⟨_, p⟩
theorem RpAll.tail (a : RpAll Hd h (v :: vs) (d :: ds)) : RpAll Hd h vs ds := by obtain ⟨_, q⟩ := a; cases q with | cons p q => exact ⟨_, q⟩
theorem RpAll.get (a : RpAll Hd h vs ds) {i : Nat} {v : Value} (hi : vs[i]? = some v) : ∃ d, ds[i]? = some d ∧ Rp Hd h v d := by
  induction vs generalizing ds i with
  | nil => cases hi
  | cons u vs ih =>
    cases ds with
    | nil => obtain ⟨_, q⟩ := a; cases q
    | cons e ds =>
      cases i with
      | zero => simp only [List.getElem?_cons_zero, Option.some.injEq] at hi; subst hi; exact ⟨e, rfl, a.head⟩
      | succ i => simpa using ih a.tail (by simpa using hi)
theorem RpAll.get' (a : RpAll Hd h vs ds) {i : Nat} {d : PyData} (hi : ds[i]? = some d) : ∃ v, vs[i]? = some v ∧ Rp Hd h v d := by
  have hl := a.length
  have : i < vs.length := by rw [hl]; exact (List.getElem?_eq_some_iff.mp hi).1
  obtain ⟨d', h1, h2⟩ := a.get (List.getElem?_eq_getElem this)
  rw [hi] at h1; cases h1
  exact ⟨_, List.getElem?_eq_getElem this, h2⟩
theorem RpAll.take (a : RpAll Hd h vs ds) (n : Nat) : RpAll Hd h (vs.take n) (ds.take n) := by
  induction vs generalizing ds n with
  | nil => obtain ⟨_, q⟩ := a; cases q; simpa using RpAll.nil
  | cons u vs ih =>
    cases ds with
    | nil => obtain ⟨_, q⟩ := a; cases q
    | cons e ds =>
      cases n with
      | zero => exact .nil
      | succ n => exact .cons a.head (ih a.tail n)
theorem RpAll.drop (a : RpAll Hd h vs ds) (n : Nat) : RpAll Hd h (vs.drop n) (ds.drop n) := by
  induction vs generalizing ds n with
  | nil => obtain ⟨_, q⟩ := a; cases q; simpa using RpAll.nil
  | cons u vs ih =>
    cases ds with
    | nil => obtain ⟨_, q⟩ := a; cases q
    | cons e ds =>
      cases n with
      | zero => exact a
      | succ n => exact ih a.tail n
theorem Rp.int (i : Int) (t : Tok) : Rp Hd h (.int i t) (.int i) := ⟨_, .int i t⟩
theorem Rp.str (x : Str) (t : Tok) : Rp Hd h (.str x t) (.str x) := ⟨_, .str x t⟩
theorem Rp.bool (b : Bool) : Rp Hd h (.bool b) (.bool b) := ⟨_, .bool b⟩
theorem Rp.none : Rp Hd h .none .none := ⟨_, .none⟩
theorem Rp.int_inv {i : Int} (r : Rp Hd h v (.int i)) : ∃ t, v = .int i t := by obtain ⟨_, q⟩ := r; cases q; exact ⟨_, rfl⟩
theorem Rp.str_inv {x : Str} (r : Rp Hd h v (.str x)) : ∃ t, v = .str x t := by obtain ⟨_, q⟩ := r; cases q; exact ⟨_, rfl⟩
theorem Rp.bool_inv {b : Bool} (r : Rp Hd h v (.bool b)) : v = .bool b := by obtain ⟨_, q⟩ := r; cases q; rfl
theorem Rp.list_inv (r : Rp Hd h v (.list ds)) : ∃ a vs, v = .ref a ∧ a ∉ Hd ∧ h.IsList a vs.toArray ∧ RpAll Hd h vs ds := by
  obtain ⟨_, q⟩ := r
  cases q with
  | @list a o vs n xs as h1 h2 h3 h4 =>
    refine ⟨a, vs.toList, rfl, fun hb => ?_, ⟨o, of_hideAll Hd h1, h2, n, by rw [h3, Array.toArray_toList]⟩, _, h4⟩
    rw [hideAll_none Hd hb] at h1; cases h1
theorem Rp.list_mk {a : Addr} (ha : a ∉ Hd) (hl : h.IsList a vs.toArray) (r : RpAll Hd h vs ds) : Rp Hd h (.ref a) (.list ds) := by
  obtain ⟨o, h1, h2, n, h3⟩ := hl
  obtain ⟨_, q⟩ := r
  exact ⟨_, .list (hideAll_get Hd h1 ha) h2 h3 (by simpa using q)⟩
theorem Rp.tup_inv (r : Rp Hd h v (.tuple ds)) : ∃ a vs, v = .ref a ∧ a ∉ Hd ∧ IsTup h a vs.toArray ∧ RpAll Hd h vs ds := by
  obtain ⟨_, q⟩ := r
  cases q with
  | @tuple a o vs n xs as h1 h2 h3 h4 =>
    refine ⟨a, vs.toList, rfl, fun hb => ?_, ⟨o, of_hideAll Hd h1, h2, n, by rw [h3, Array.toArray_toList]⟩, _, h4⟩
    rw [hideAll_none Hd hb] at h1; cases h1
theorem Rp.tup_mk {a : Addr} (ha : a ∉ Hd) (hl : IsTup h a vs.toArray) (r : RpAll Hd h vs ds) : Rp Hd h (.ref a) (.tuple ds) := by
  obtain ⟨o, h1, h2, n, h3⟩ := hl
  obtain ⟨_, q⟩ := r
  exact ⟨_, .tuple (hideAll_get Hd h1 ha) h2 h3 (by simpa using q)⟩
end

section
variable (prog : Program) (w : World)
/-- the tree ends without a raise; the heap is kept; P holds of the value -/
def Gives (A : Around) (s : Shared) (t : Sem Value) (P : Heap → Value → Prop) : Prop :=
  wpAny (model prog w) A t (fun v s' => ∃ h' k, s' = { s with heap := h', toks := k } ∧ Kp s.heap h' ∧ P h' v) (fun _ _ => False) s
/-- the same from every heap that keeps b -/
def Ev (A : Around) (b : Heap) (t : Sem Value) (P : Heap → Value → Prop) : Prop := ∀ s : Shared, Kp b s.heap → Gives prog w A s t P
end

section
variable {prog : Program} {w : World} {A : Around} {s : Shared} {b : Heap} {t : Sem Value} {P P' : Heap → Value → Prop} {Q : Value → Shared → Prop} {E : Value → Shared → Prop}
theorem Gives.use (g : Gives prog w A s t P) (h : ∀ v h' k, Kp s.heap h' → P h' v → Q v { s with heap := h', toks := k }) : wpAny (model prog w) A t Q E s :=
  wpAny_mono g (fun v s' ⟨h', k, e, kp, p⟩ => by subst e; exact h v h' k kp p) (fun _ _ f => f.elim)
theorem Gives.of (h : ∀ (Q : Value → Shared → Prop) (E : Value → Shared → Prop), (∀ v h' k, Kp s.heap h' → P h' v → Q v { s with heap := h', toks := k }) → wpAny (model prog w) A t Q E s) : Gives prog w A s t P :=
  h _ _ fun v h' k kp p => ⟨h', k, rfl, kp, p⟩
theorem Gives.imp (g : Gives prog w A s t P) (h : ∀ h' v, Kp s.heap h' → P h' v → P' h' v) : Gives prog w A s t P' :=
  Gives.of fun _ _ q => g.use fun v h' k kp p => q v h' k kp (h h' v kp p)
theorem Ev.use (g : Ev prog w A b t P) (kb : Kp b s.heap) (h : ∀ v h' k, Kp s.heap h' → P h' v → Q v { s with heap := h', toks := k }) : wpAny (model prog w) A t Q E s := (g s kb).use h
theorem Ev.imp (g : Ev prog w A b t P) (h : ∀ h' v, Kp b h' → P h' v → P' h' v) : Ev prog w A b t P' := fun s kb => (g s kb).imp fun h' v k p => h h' v (kb.trans k) p
theorem Ev.base {b' : Heap} (g : Ev prog w A b t P) (k : Kp b b') : Ev prog w A b' t P := fun s kb => g s (k.trans kb)
/-- the value at once, nothing made -/
theorem Gives.now {v : Value} (h : ∀ (Q : Value → Shared → Prop) (E : Value → Shared → Prop), (∀ k, Q v { s with toks := k }) → wpAny (model prog w) A t Q E s) (p : P s.heap v) : Gives prog w A s t P :=
  Gives.of fun Q E q => h Q E fun k => q v s.heap k (Kp.refl _) p
end

/-- data -/
abbrev Da (Hd : List Addr) (d : PyData) : Heap → Value → Prop := fun h v => Rp Hd h v d
/-- a value itself -/
abbrev Va (v₀ : Value) : Heap → Value → Prop := fun _ v => v = v₀
/-- stands under growth -/
abbrev Up (P : Heap → Value → Prop) : Prop := ∀ h h' v, Kp h h' → P h v → P h' v
theorem up_da (Hd : List Addr) (d : PyData) : Up (Da Hd d) := fun _ _ _ k r => r.up k
theorem up_va (v : Value) : Up (Va v) := fun _ _ _ _ e => e

end Mine
end
section
namespace Mine
open PySem PySem.W PySem.Calls PyProof.Rows

/-- the name loads as v, from every heap that keeps b -/
def Loads (env : Env) (x : Str) (v : Value) (b : Heap) : Prop :=
  ∀ (M : Model) (A : Around) (s : Shared) (Q : Value → Shared → Prop) (E : Value → Shared → Prop), Kp b s.heap → Q v s → wpAny M A (loadName env x) Q E s
theorem Loads.base {env : Env} {x : Str} {v : Value} {b b' : Heap} (l : Loads env x v b) (k : Kp b b') : Loads env x v b' := fun M A s Q E kb q => l M A s Q E (k.trans kb) q
theorem loads_local {env : Env} {x : Str} {v : Value} {b : Heap} {m : Str → Option Value} (hn : b.Ns env.locals m) (hv : m x = some v) (hk : env.scope.kind = .function := by rfl) (hl : env.kindOf x = some .local := by rfl) : Loads env x v b :=
  fun _ _ _ _ _ kb q => wpAny_loadName_local hk hl (hn.keeps kb) hv q
theorem loads_cell {env : Env} {x : Str} {v : Value} {b : Heap} {c : Addr} (hc : env.cells.lookup x = some c) (hv : b.IsCell c (some v)) (hk : env.scope.kind = .function := by rfl) (hl : env.kindOf x = some .cell := by rfl) : Loads env x v b :=
  fun _ _ _ _ _ kb q => wpAny_loadName_cell hk hl hc (hv.keeps kb) q
theorem loads_free {env : Env} {x : Str} {v : Value} {b : Heap} {c : Addr} (hc : env.cells.lookup x = some c) (hv : b.IsCell c (some v)) (hk : env.scope.kind = .function := by rfl) (hl : env.kindOf x = some .free := by rfl)
    (hn : (x == ("__classdict__" : Str)) = false := by decide) : Loads env x v b :=
  fun _ _ _ _ _ kb q => wpAny_loadName_free hk hl hc (hv.keeps kb) q hn
theorem loads_global {env : Env} {x : Str} {v : Value} {b : Heap} {mg : Str → Option Value} (hg : b.Ns env.globals mg) (hv : mg x = some v) (hk : env.scope.kind = .function := by rfl) (hl : env.kindOf x = some .globalImplicit := by rfl) : Loads env x v b :=
  fun M A s Q E kb q => by
    unfold loadName
    simp only [Env.blockKind, hk, hl, ScopeKind.isAnnotationScope, Bool.false_and, Bool.false_eq_true, if_false]
    exact loadGlobal_global (hg.keeps kb) hv q
theorem loads_builtin {env : Env} {x : Str} {v : Value} {b : Heap} {mg mb : Str → Option Value} (hg : b.Ns env.globals mg) (hm : mg x = none) (hb : b.Ns env.builtins mb) (hv : mb x = some v) (hk : env.scope.kind = .function := by rfl) (hl : env.kindOf x = some .globalImplicit := by rfl) : Loads env x v b :=
  fun M A s Q E kb q => by
    unfold loadName
    simp only [Env.blockKind, hk, hl, ScopeKind.isAnnotationScope, Bool.false_and, Bool.false_eq_true, if_false]
    exact loadGlobal_builtin (hg.keeps kb) hm (hb.keeps kb) hv q

/-- a test comes out as β -/
def Tr (prog : Program) (w : World) (A : Around) (b : Heap) (t : Sem Bool) (β : Bool) : Prop :=
  ∀ (s : Shared) (Q : Bool → Shared → Prop) (E : Value → Shared → Prop), Kp b s.heap → (∀ h' k, Kp s.heap h' → Q β { s with heap := h', toks := k }) → wpAny (model prog w) A t Q E s

noncomputable def Alls : List (Heap → Value → Prop) → Heap → List Value → Prop
  | [], _, vs => vs = []
  | P :: Ps, h, vs => ∃ v r, vs = v :: r ∧ P h v ∧ Alls Ps h r
abbrev UpAll (Ps : List (Heap → Value → Prop)) : Prop := ∀ P ∈ Ps, Up P
theorem Alls.up : ∀ {Ps : List (Heap → Value → Prop)} (u : UpAll Ps) {h h' : Heap} {vs : List Value} (k : Kp h h'), Alls Ps h vs → Alls Ps h' vs
  | [], _, _, _, _, _, a => a
  | P :: Ps, u, h, h', vs, k, ⟨v, r, e, p, a⟩ => ⟨v, r, e, u P (.head _) h h' v k p, Alls.up (fun P hP => u P (.tail _ hP)) k a⟩
theorem upAll_da (Hd : List Addr) : ∀ ds : List PyData, UpAll (ds.map (Da Hd)) := fun ds P hP => by
  obtain ⟨d, _, rfl⟩ := List.mem_map.mp hP
  exact up_da Hd d
theorem alls_da {Hd : List Addr} {h : Heap} : ∀ {ds : List PyData} {vs : List Value}, Alls (ds.map (Da Hd)) h vs → RpAll Hd h vs ds
  | [], _, e => by rw [show _ = [] from e]; exact .nil
  | d :: ds, _, ⟨v, r, e, p, a⟩ => by subst e; exact .cons p (alls_da a)
/-- the arguments' list -/
def Evs (prog : Program) (w : World) (A : Around) (b : Heap) (t : Sem (List Value)) (Ps : List (Heap → Value → Prop)) : Prop :=
  ∀ (s : Shared) (Q : List Value → Shared → Prop) (E : Value → Shared → Prop), Kp b s.heap → (∀ vs h' k, Kp s.heap h' → Alls Ps h' vs → Q vs { s with heap := h', toks := k }) → wpAny (model prog w) A t Q E s

section
variable {prog : Program} {w : World} {A : Around} {s : Shared} {b : Heap} {env : Env} {P P1 P2 P3 : Heap → Value → Prop} {Ps : List (Heap → Value → Prop)} {Hd : List Addr} {pos : Pos} {k : Nat}

theorem ev_name {x : Str} {v : Value} (l : Loads env x v b) (u : Up P) (p : P b v) (hd : (x == ("__debug__" : Str)) = false := by decide) : Ev prog w A b (eval (.Name x pos) env) P := fun s kb =>
  Gives.of fun Q E q => wpAny_Name (l _ _ _ _ _ kb (q v s.heap s.toks (Kp.refl _) (u _ _ _ kb p))) hd
theorem ev_nameV {x : Str} {v : Value} (l : Loads env x v b) (hd : (x == ("__debug__" : Str)) = false := by decide) : Ev prog w A b (eval (.Name x pos) env) (Va v) := ev_name l (up_va v) rfl hd
theorem ev_nameD {x : Str} {v : Value} {d : PyData} (l : Loads env x v b) (p : Rp Hd b v d) (hd : (x == ("__debug__" : Str)) = false := by decide) : Ev prog w A b (eval (.Name x pos) env) (Da Hd d) := ev_name l (up_da Hd d) p hd
theorem ev_int {i : Int} : Ev prog w A b (eval (.Constant (.int i) k pos) env) (Da Hd (.int i)) := fun s kb => Gives.of fun Q E q => wpAny_Constant_int (q _ s.heap _ (Kp.refl _) (.int _ _))
theorem ev_str {x : Str} : Ev prog w A b (eval (.Constant (.str x) k pos) env) (Da Hd (.str x)) := fun s kb => Gives.of fun Q E q => wpAny_Constant_str (q _ s.heap _ (Kp.refl _) (.str _ _))
theorem ev_bool {x : Bool} : Ev prog w A b (eval (.Constant (.bool x) k pos) env) (Da Hd (.bool x)) := fun s kb => Gives.of fun Q E q => wpAny_Constant_bool (q _ s.heap s.toks (Kp.refl _) (.bool _))
theorem ev_none : Ev prog w A b (eval (.Constant .none k pos) env) (Da Hd .none) := fun s kb => Gives.of fun Q E q => wpAny_Constant_none (q _ s.heap s.toks (Kp.refl _) .none)

theorem ev_bin {l r : Expr} {op : Operator} (u : Up P1) (hl : Ev prog w A b (eval l env) P1) (hr : Ev prog w A b (eval r env) P2)
    (hop : ∀ s x y, Kp b s.heap → P1 s.heap x → P2 s.heap y → Gives prog w A s (binaryOp op x y) P) : Ev prog w A b (eval (.BinOp l op r pos) env) P := fun s kb =>
  Gives.of fun Q E q => wpAny_BinOp (hl.use kb fun x h1 k1 kp1 p1 => hr.use (kb.trans kp1) fun y h2 k2 kp2 p2 =>
    (hop _ x y (kb.trans (kp1.trans kp2)) (u _ _ _ kp2 p1) p2).use fun v h3 k3 kp3 p3 => q v h3 k3 (kp1.trans (kp2.trans kp3)) p3)
theorem ev_cmp {l r : Expr} {op : CmpOp} (u : Up P1) (hl : Ev prog w A b (eval l env) P1) (hr : Ev prog w A b (eval r env) P2)
    (hop : ∀ s x y, Kp b s.heap → P1 s.heap x → P2 s.heap y → Gives prog w A s (compareOp op x y) P) (hm : behindInMarks op r = false := by with_unfolding_all rfl) : Ev prog w A b (eval (.Compare l [op] [r] pos) env) P := fun s kb =>
  Gives.of fun Q E q => wpAny_Compare1 (hl.use kb fun x h1 k1 kp1 p1 => hr.use (kb.trans kp1) fun y h2 k2 kp2 p2 =>
    (hop _ x y (kb.trans (kp1.trans kp2)) (u _ _ _ kp2 p1) p2).use fun v h3 k3 kp3 p3 => q v h3 k3 (kp1.trans (kp2.trans kp3)) p3) hm
theorem truthy_bool' {M : Model} {A : Around} {E : Value → Shared → Prop} {s : Shared} {β : Bool} {Q : Bool → Shared → Prop} (h : Q β s) : wpAny M A (truthy (.bool β)) Q E s := fun _ _ _ => h
theorem tr_cmp {l r : Expr} {op : CmpOp} {β : Bool} {whole : Sem Value} (u : Up P1) (hl : Ev prog w A b (eval l env) P1) (hr : Ev prog w A b (eval r env) P2)
    (hop : ∀ s x y, Kp b s.heap → P1 s.heap x → P2 s.heap y → Gives prog w A s (compareOp op x y) (Va (.bool β))) (hm : behindInMarks op r = false := by with_unfolding_all rfl) : Tr prog w A b (isTrue (.Compare l [op] [r] pos) env whole) β := fun s Q E kb q =>
  wpAny_isTrue_Compare1 (hl.use kb fun x h1 k1 kp1 p1 => hr.use (kb.trans kp1) fun y h2 k2 kp2 p2 =>
    (hop _ x y (kb.trans (kp1.trans kp2)) (u _ _ _ kp2 p1) p2).use fun v h3 k3 kp3 p3 => by rw [show v = _ from p3]; exact truthy_bool' (q h3 k3 (kp1.trans (kp2.trans kp3)))) hm
theorem tr_not {x : Expr} {β : Bool} {whole : Sem Value} (h : Tr prog w A b (isTrue x env (eval x env)) β) : Tr prog w A b (isTrue (.UnaryOp .Not x pos) env whole) (!β) := fun s Q E kb q =>
  isTrue_not (h s _ _ kb fun h' k kp => q h' k kp)
theorem tr_and2 {x y : Expr} {β γ : Bool} {whole : Sem Value} (h1 : Tr prog w A b (isTrue x env (eval x env)) β) (h2 : β = true → Tr prog w A b (isTrue y env (eval y env)) γ) : Tr prog w A b (isTrue (.BoolOp .And [x, y] pos) env whole) (β && γ) := fun s Q E kb q =>
  isTrue_and (h1 s _ _ kb fun h' k kp => by
    cases β with
    | false => exact q h' k kp
    | true => exact isTrue_and (h2 rfl _ _ _ (kb.trans kp) fun h'' k' kp' => by
        cases γ with
        | false => exact q h'' k' (kp.trans kp')
        | true => exact isTrue_and_nil (q h'' k' (kp.trans kp'))))
theorem tr_or2 {x y : Expr} {β γ : Bool} {whole : Sem Value} (h1 : Tr prog w A b (isTrue x env (eval x env)) β) (h2 : β = false → Tr prog w A b (isTrue y env (eval y env)) γ) : Tr prog w A b (isTrue (.BoolOp .Or [x, y] pos) env whole) (β || γ) := fun s Q E kb q =>
  isTrue_or (h1 s _ _ kb fun h' k kp => by
    cases β with
    | true => exact q h' k kp
    | false => exact isTrue_or (h2 rfl _ _ _ (kb.trans kp) fun h'' k' kp' => by
        cases γ with
        | true => exact q h'' k' (kp.trans kp')
        | false => exact isTrue_or_nil (q h'' k' (kp.trans kp'))))
theorem tr_plain {e : Expr} {whole : Sem Value} {β : Bool} (h : Ev prog w A b whole P) (ht : ∀ s v, Kp b s.heap → P s.heap v → ∀ (Q : Bool → Shared → Prop) (E : Value → Shared → Prop), (∀ h' k, Kp s.heap h' → Q β { s with heap := h', toks := k }) → wpAny (model prog w) A (truthy v) Q E s)
    (he : isTrue e env whole = (do let v ← whole; standAt e.pos; holding [v] (truthy v)) := by rfl) : Tr prog w A b (isTrue e env whole) β := fun s Q E kb q =>
  isTrue_plain (h.use kb fun v h1 k1 kp1 p1 => ht _ v (kb.trans kp1) p1 _ _ fun h' k kp => q h' k (kp1.trans kp)) he
theorem ev_ifexp {test body orelse : Expr} {β : Bool} (ht : Tr prog w A b (isTrue test env (eval test env)) β) (h1 : β = true → Ev prog w A b (eval body env) P) (h2 : β = false → Ev prog w A b (eval orelse env) P) :
    Ev prog w A b (eval (.IfExp test body orelse pos) env) P := fun s kb => Gives.of fun Q E q => IfExp_ (ht s _ _ kb fun h' k kp => by
  cases β with
  | true => exact (h1 rfl).use (kb.trans kp) fun v h2 k2 kp2 p2 => q v h2 k2 (kp.trans kp2) p2
  | false => exact (h2 rfl).use (kb.trans kp) fun v h2 k2 kp2 p2 => q v h2 k2 (kp.trans kp2) p2)
theorem ev_sub {value slice : Expr} (u : Up P1) (hv : Ev prog w A b (eval value env) P1) (hi : Ev prog w A b (eval slice env) P2)
    (hop : ∀ s x y, Kp b s.heap → P1 s.heap x → P2 s.heap y → Gives prog w A s (subscriptTail value slice x y) P) : Ev prog w A b (eval (.Subscript value slice pos) env) P := fun s kb =>
  Gives.of fun Q E q => Subscript_ (hv.use kb fun x h1 k1 kp1 p1 => hi.use (kb.trans kp1) fun y h2 k2 kp2 p2 =>
    (hop _ x y (kb.trans (kp1.trans kp2)) (u _ _ _ kp2 p1) p2).use fun v h3 k3 kp3 p3 => q v h3 k3 (kp1.trans (kp2.trans kp3)) p3)

theorem evs_nil : Evs prog w A b (spliced (backTo pos (starEach [] env))) [] := fun s Q E kb q => spliced_none (q [] s.heap s.toks (Kp.refl _) rfl)
theorem evs_cons {e : Expr} {rest : List Expr} (u : Up P) (h : Ev prog w A b (eval e env) P) (hr : Evs prog w A b (spliced (backTo pos (starEach rest env))) Ps)
    (he : starEach (e :: rest) env = (false, eval e env) :: starEach rest env := by rfl) : Evs prog w A b (spliced (backTo pos (starEach (e :: rest) env))) (P :: Ps) := fun s Q E kb q =>
  spliced_more (h.use kb fun v h1 k1 kp1 p1 => hr _ _ _ (kb.trans kp1) fun vs h2 k2 kp2 a2 => q (v :: vs) h2 k2 (kp1.trans kp2) ⟨v, vs, rfl, u _ _ _ kp2 p1, a2⟩) he

theorem newAddr_notin {Hd : List Addr} {h : Heap} (bd : Bd Hd h) : h.objs.size ∉ Hd := fun m => Nat.lt_irrefl _ (bd _ m)
theorem Bd.up {Hd : List Addr} {h h' : Heap} (bd : Bd Hd h) (hs : h.objs.size ≤ h'.objs.size) : Bd Hd h' := fun a ha => Nat.lt_of_lt_of_le (bd a ha) hs
/-- hidden addresses: they stand in the heap as objects -/
abbrev Hs (Hd : List Addr) (h : Heap) : Prop := ∀ a ∈ Hd, ∃ o, h.get? a = some o
theorem Hs.bd {Hd : List Addr} {h : Heap} (x : Hs Hd h) : Bd Hd h := fun a ha => let ⟨_, e⟩ := x a ha; Heap.lt_size e
theorem Hs.up {Hd : List Addr} {h h' : Heap} (x : Hs Hd h) (k : Kp h h') : Hs Hd h' := fun a ha => let ⟨o, e⟩ := x a ha; ⟨o, k a o e⟩
theorem rp_newList {h : Heap} {vs : List Value} {ds : List PyData} {n : Nat} (hs : Hs Hd h) (r : RpAll Hd h vs ds) : Rp Hd (h.push { cls := .type "list", data := .seq vs.toArray n }) (.ref h.objs.size) (.list ds) :=
  .list_mk (newAddr_notin hs.bd) ⟨_, Heap.get?_push_size _ rfl, rfl, n, rfl⟩ (r.up (Kp.push _ _))
theorem rp_newTup {h : Heap} {vs : List Value} {ds : List PyData} {n : Nat} (hs : Hs Hd h) (r : RpAll Hd h vs ds) : Rp Hd (h.push { cls := .type "tuple", data := .seq vs.toArray n }) (.ref h.objs.size) (.tuple ds) :=
  .tup_mk (newAddr_notin hs.bd) ⟨_, Heap.get?_push_size _ rfl, rfl, n, rfl⟩ (r.up (Kp.push _ _))
theorem ev_list {elts : List Expr} {ds : List PyData} (hs : Hs Hd b) (h : Evs prog w A b (spliced (backTo pos (starEach elts env))) (ds.map (Da Hd))) (hz : ds.length ≤ sizeLine := by decide) : Ev prog w A b (eval (.List elts pos) env) (Da Hd (.list ds)) := fun s kb =>
  Gives.of fun Q E q => List_ (h s _ _ kb fun vs h1 k1 kp1 a1 => by
    have r := alls_da a1
    refine wpAny_newObj_type (q _ _ k1 (kp1.trans (Kp.push _ _)) (rp_newList (hs.up (kb.trans kp1)) r)) ?_
    show vs.toArray.size ≤ sizeLine
    rw [List.size_toArray, r.length]; exact hz)
theorem ev_tuple {elts : List Expr} {ds : List PyData} {n : Nat} (hs : Hs Hd b) (h : Evs prog w A b (spliced (backTo pos (starEach elts env))) (ds.map (Da Hd))) (hz : ds.length ≤ sizeLine := by decide) : Ev prog w A b (eval (.Tuple elts n pos) env) (Da Hd (.tuple ds)) := fun s kb =>
  Gives.of fun Q E q => Tuple_ (h s _ _ kb fun vs h1 k1 kp1 a1 => by
    have r := alls_da a1
    refine wpAny_newObj_type (q _ _ k1 (kp1.trans (Kp.push _ _)) (rp_newTup (hs.up (kb.trans kp1)) r)) ?_
    show vs.toArray.size ≤ sizeLine
    rw [List.size_toArray, r.length]; exact hz)

/-- a call of a def of the text -/
theorem ev_callF {f : Str} {p : Pos} {e : Expr} {rest : List Expr} {fa : Addr} {o : Obj} {fd : FuncData} (hf : Loads env f (.ref fa) b) (ho : b.get? fa = some o) (hd : o.data = .func fd)
    (ha : Evs prog w A b (spliced (backTo pos (starEach (e :: rest) env))) Ps) (spec : ∀ s vs, Kp b s.heap → Alls Ps s.heap vs → Gives prog w A s (call (.ref fa) vs []) P)
    (he : backTo pos (starEach (e :: rest) env) = (false, eval e env) :: backTo pos (starEach rest env) := by rfl) (hb : (f == ("__debug__" : Str)) = false := by decide) :
    Ev prog w A b (eval (.Call (.Name f p) (e :: rest) [] pos) env) P := fun s kb => Gives.of fun Q E q =>
  wpAny_Call_NameR (wpAny_Name (hf _ _ _ _ _ kb (by
    rw [he]
    refine callWith_function_kw (o := o) (fd := fd) (evalArgs_plain ?_)
    rw [← he]
    exact ha s _ _ kb fun vs h1 k1 kp1 a1 => ⟨⟨kp1 _ _ (kb _ _ ho), hd⟩, (spec _ vs (kb.trans kp1) a1).use fun v h2 k2 kp2 p2 => q v h2 k2 (kp1.trans kp2) p2⟩)) hb)
/-- a call of a built-in function -/
theorem ev_callB {f : Str} {p : Pos} {e : Expr} {rest : List Expr} {id : String} (hf : Loads env f (.builtin id) b)
    (ha : Evs prog w A b (spliced (backTo pos (starEach (e :: rest) env))) Ps) (spec : ∀ s vs, Kp b s.heap → Alls Ps s.heap vs → Gives prog w A s (call (.builtin id) vs []) P)
    (he : backTo pos (starEach (e :: rest) env) = (false, eval e env) :: backTo pos (starEach rest env) := by rfl) (hp : (backTo pos (starEach (e :: rest) env)).any (·.1) = false := by rfl) (hb : (f == ("__debug__" : Str)) = false := by decide) :
    Ev prog w A b (eval (.Call (.Name f p) (e :: rest) [] pos) env) P := fun s kb => Gives.of fun Q E q =>
  wpAny_Call_NameR (wpAny_Name (hf _ _ _ _ _ kb (by
    refine callWith_builtin hp ?_
    rw [he]
    refine evalArgs_plain ?_
    rw [← he]
    exact ha s _ _ kb fun vs h1 k1 kp1 a1 => (spec _ vs (kb.trans kp1) a1).use fun v h2 k2 kp2 p2 => q v h2 k2 (kp1.trans kp2) p2)) hb)
/-- a call of a built-in type -/
theorem ev_callT {f : Str} {p : Pos} {e : Expr} {rest : List Expr} {id : String} (hf : Loads env f (.type id) b)
    (ha : Evs prog w A b (spliced (backTo pos (starEach (e :: rest) env))) Ps) (spec : ∀ s vs, Kp b s.heap → Alls Ps s.heap vs → Gives prog w A s (call (.type id) vs []) P)
    (he : backTo pos (starEach (e :: rest) env) = (false, eval e env) :: backTo pos (starEach rest env) := by rfl) (hp : (backTo pos (starEach (e :: rest) env)).any (·.1) = false := by rfl) (hb : (f == ("__debug__" : Str)) = false := by decide) :
    Ev prog w A b (eval (.Call (.Name f p) (e :: rest) [] pos) env) P := fun s kb => Gives.of fun Q E q =>
  wpAny_Call_NameR (wpAny_Name (hf _ _ _ _ _ kb (by
    refine PySem.callWith_type hp ?_
    rw [he]
    refine evalArgs_plain ?_
    rw [← he]
    exact ha s _ _ kb fun vs h1 k1 kp1 a1 => (spec _ vs (kb.trans kp1) a1).use fun v h2 k2 kp2 p2 => q v h2 k2 (kp1.trans kp2) p2)) hb)
end
end Mine
end
section
set_option maxRecDepth 10000
namespace Mine
open PySem PySem.W PySem.Calls PyProof.Rows

section
variable {prog : Program} {w : World} {A : Around} {s : Shared} {b : Heap} {env : Env} {P P1 P2 : Heap → Value → Prop} {Hd : List Addr} {pos : Pos} {k : Nat} {x y : Value}

/-- what is given at once, whatever the token -/
theorem gv {t : Sem Value} {v : Value} (p : P s.heap v) (h : ∀ (Q : Value → Shared → Prop) (E : Value → Shared → Prop), (∀ v' k, v' = v → Q v' { s with toks := k }) → wpAny (model prog w) A t Q E s) : Gives prog w A s t P :=
  Gives.of fun Q E q => h Q E fun v' k e => q v' s.heap k (Kp.refl _) (e ▸ p)

theorem g_add {i j : Int} (a : Rp Hd s.heap x (.int i)) (c : Rp Hd s.heap y (.int j)) : Gives prog w A s (binaryOp .Add x y) (Da Hd (.int (i + j))) := by
  obtain ⟨t, rfl⟩ := a.int_inv; obtain ⟨u, rfl⟩ := c.int_inv
  exact Gives.of fun Q E q => P.add_int (q _ s.heap _ (Kp.refl _) (.int _ _))
theorem g_subi {i j : Int} (a : Rp Hd s.heap x (.int i)) (c : Rp Hd s.heap y (.int j)) : Gives prog w A s (binaryOp .Sub x y) (Da Hd (.int (i - j))) := by
  obtain ⟨t, rfl⟩ := a.int_inv; obtain ⟨u, rfl⟩ := c.int_inv
  exact Gives.of fun Q E q => P.sub_int (q _ s.heap _ (Kp.refl _) (.int _ _))
theorem g_subb {i j : Bool} (a : Rp Hd s.heap x (.bool i)) (c : Rp Hd s.heap y (.bool j)) : Gives prog w A s (binaryOp .Sub x y) (Da Hd (.int ((if i then 1 else 0) - (if j then 1 else 0)))) := by
  obtain rfl := a.bool_inv; obtain rfl := c.bool_inv
  exact Gives.of fun Q E q => sub_bool (q _ s.heap _ (Kp.refl _) (by cases i <;> cases j <;> exact .int _ _))
theorem g_mul {i j : Int} (a : Rp Hd s.heap x (.int i)) (c : Rp Hd s.heap y (.int j)) (hm : IntMulOk i j) : Gives prog w A s (binaryOp .Mult x y) (Da Hd (.int (i * j))) := by
  obtain ⟨t, rfl⟩ := a.int_inv; obtain ⟨u, rfl⟩ := c.int_inv
  exact Gives.of fun Q E q => P.mul_int (q _ s.heap _ (Kp.refl _) (.int _ _)) hm
theorem g_fdiv {i j : Int} (a : Rp Hd s.heap x (.int i)) (c : Rp Hd s.heap y (.int j)) (h0 : j ≠ 0) (hs : j.natAbs < 1073741824) : Gives prog w A s (binaryOp .FloorDiv x y) (Da Hd (.int (i.fdiv j))) := by
  obtain ⟨t, rfl⟩ := a.int_inv; obtain ⟨u, rfl⟩ := c.int_inv
  exact Gives.of fun Q E q => floordiv_int h0 (q _ s.heap _ (Kp.refl _) (.int _ _)) (.inl (PyProof.noPylong_small hs))
theorem g_mod {i j : Int} (a : Rp Hd s.heap x (.int i)) (c : Rp Hd s.heap y (.int j)) (h0 : j ≠ 0) : Gives prog w A s (binaryOp .Mod x y) (Da Hd (.int (i.fmod j))) := by
  obtain ⟨t, rfl⟩ := a.int_inv; obtain ⟨u, rfl⟩ := c.int_inv
  exact Gives.of fun Q E q => mod_int' h0 (q _ s.heap _ (Kp.refl _) (.int _ _))
theorem g_band {i j : Int} (a : Rp Hd s.heap x (.int i)) (c : Rp Hd s.heap y (.int j)) : Gives prog w A s (binaryOp .BitAnd x y) (Da Hd (.int (Builtin.bitAnd i j))) := by
  obtain ⟨t, rfl⟩ := a.int_inv; obtain ⟨u, rfl⟩ := c.int_inv
  exact Gives.of fun Q E q => and_int (q _ s.heap _ (Kp.refl _) (.int _ _))
theorem g_bor {i j : Int} (a : Rp Hd s.heap x (.int i)) (c : Rp Hd s.heap y (.int j)) : Gives prog w A s (binaryOp .BitOr x y) (Da Hd (.int (Builtin.bitOr i j))) := by
  obtain ⟨t, rfl⟩ := a.int_inv; obtain ⟨u, rfl⟩ := c.int_inv
  exact Gives.of fun Q E q => or_int (q _ s.heap _ (Kp.refl _) (.int _ _))
theorem g_pow {i j : Int} (a : Rp Hd s.heap x (.int i)) (c : Rp Hd s.heap y (.int j)) (h0 : 0 ≤ j) (hz : (Builtin.Int.intBits i : Int) * j ≤ 2 ^ 27) : Gives prog w A s (binaryOp .Pow x y) (Da Hd (.int (i ^ j.toNat))) := by
  obtain ⟨t, rfl⟩ := a.int_inv; obtain ⟨u, rfl⟩ := c.int_inv
  exact Gives.of fun Q E q => pow_int h0 hz (q _ s.heap _ (Kp.refl _) (.int _ _))
theorem g_adds {i j : Str} (a : Rp Hd s.heap x (.str i)) (c : Rp Hd s.heap y (.str j)) (hz : i.length + j.length ≤ sizeLine) : Gives prog w A s (binaryOp .Add x y) (Da Hd (.str (i ++ j))) := by
  obtain ⟨t, rfl⟩ := a.str_inv; obtain ⟨u, rfl⟩ := c.str_inv
  exact Gives.of fun Q E q => SB.add (fun t' k => q _ s.heap k (Kp.refl _) (.str _ _)) hz
theorem g_iadds {i j : Str} (a : Rp Hd s.heap x (.str i)) (c : Rp Hd s.heap y (.str j)) (hz : i.length + j.length ≤ sizeLine) : Gives prog w A s (inplaceOp .Add x y) (Da Hd (.str (i ++ j))) := by
  obtain ⟨t, rfl⟩ := a.str_inv; obtain ⟨u, rfl⟩ := c.str_inv
  exact Gives.of fun Q E q => SB.iadd (fun t' k => q _ s.heap k (Kp.refl _) (.str _ _)) hz
theorem g_muls {i : Str} {j : Int} (a : Rp Hd s.heap x (.str i)) (c : Rp Hd s.heap y (.int j)) (hz : MulOk i j) : Gives prog w A s (binaryOp .Mult x y) (Da Hd (.str (Txt.mul i j))) := by
  obtain ⟨t, rfl⟩ := a.str_inv; obtain ⟨u, rfl⟩ := c.int_inv
  exact Gives.of fun Q E q => SB.mul hz (fun t' k => q _ s.heap k (Kp.refl _) (.str _ _))
theorem g_addl {i j : List PyData} (hs : Hs Hd s.heap) (a : Rp Hd s.heap x (.list i)) (c : Rp Hd s.heap y (.list j)) (hz : i.length + j.length ≤ sizeLine) : Gives prog w A s (binaryOp .Add x y) (Da Hd (.list (i ++ j))) := by
  obtain ⟨l, vs, rfl, _, hl, ra⟩ := a.list_inv; obtain ⟨l2, ws, rfl, _, hb, rc⟩ := c.list_inv
  refine Gives.of fun Q E q => ?_
  obtain ⟨⟨cls, dd, data, sl⟩, ho, hc, n, hd⟩ := id hl
  obtain ⟨⟨cls2, dd2, data2, sl2⟩, ho2, hc2, n2, hd2⟩ := id hb
  simp only at hc hd hc2 hd2
  subst hc hd hc2 hd2
  have e : vs.toArray ++ ws.toArray = (vs ++ ws).toArray := by simp
  refine concat_meets ⟨_, ho, rfl⟩ ⟨_, ho2, rfl⟩ noFill_list_add seq_list_add PySem.F.slot_list_add PySem.F.entry_list_add (PySem.F.args_list_add_2 _ _) (list_addW l l2 vs.toArray ws.toArray n n2 dd dd2 sl sl2 (by simpa [ra.length, rc.length] using hz)) ⟨ho, ho2, ?_⟩
  rw [e]
  exact q _ _ _ (Kp.push _ _) (rp_newList hs (ra.append rc))

theorem g_eqi {i j : Int} (a : Rp Hd s.heap x (.int i)) (c : Rp Hd s.heap y (.int j)) : Gives prog w A s (compareOp .Eq x y) (Va (.bool (i == j))) := by
  obtain ⟨t, rfl⟩ := a.int_inv; obtain ⟨u, rfl⟩ := c.int_inv
  exact Gives.of fun Q E q => P.eq_int (q _ s.heap s.toks (Kp.refl _) rfl)
theorem g_nei {i j : Int} (a : Rp Hd s.heap x (.int i)) (c : Rp Hd s.heap y (.int j)) : Gives prog w A s (compareOp .NotEq x y) (Va (.bool (i != j))) := by
  obtain ⟨t, rfl⟩ := a.int_inv; obtain ⟨u, rfl⟩ := c.int_inv
  exact Gives.of fun Q E q => P.ne_int (q _ s.heap s.toks (Kp.refl _) rfl)
theorem g_lti {i j : Int} (a : Rp Hd s.heap x (.int i)) (c : Rp Hd s.heap y (.int j)) : Gives prog w A s (compareOp .Lt x y) (Va (.bool (decide (i < j)))) := by
  obtain ⟨t, rfl⟩ := a.int_inv; obtain ⟨u, rfl⟩ := c.int_inv
  exact Gives.of fun Q E q => P.lt_int (q _ s.heap s.toks (Kp.refl _) rfl)
theorem g_eqs {i j : Str} (a : Rp Hd s.heap x (.str i)) (c : Rp Hd s.heap y (.str j)) : Gives prog w A s (compareOp .Eq x y) (Va (.bool (i.cps.toList == j.cps.toList))) := by
  obtain ⟨t, rfl⟩ := a.str_inv; obtain ⟨u, rfl⟩ := c.str_inv
  exact Gives.of fun Q E q => P.eq_str (q _ s.heap s.toks (Kp.refl _) rfl)
theorem g_nes {i j : Str} (a : Rp Hd s.heap x (.str i)) (c : Rp Hd s.heap y (.str j)) : Gives prog w A s (compareOp .NotEq x y) (Va (.bool (i.cps.toList != j.cps.toList))) := by
  obtain ⟨t, rfl⟩ := a.str_inv; obtain ⟨u, rfl⟩ := c.str_inv
  exact Gives.of fun Q E q => P.ne_str (q _ s.heap s.toks (Kp.refl _) rfl)
theorem g_lts {i j : Str} (a : Rp Hd s.heap x (.str i)) (c : Rp Hd s.heap y (.str j)) : Gives prog w A s (compareOp .Lt x y) (Va (.bool (i.cps.toList < j.cps.toList))) := by
  obtain ⟨t, rfl⟩ := a.str_inv; obtain ⟨u, rfl⟩ := c.str_inv
  exact Gives.of fun Q E q => P.lt_str (q _ s.heap s.toks (Kp.refl _) rfl)
theorem g_gts {i j : Str} (a : Rp Hd s.heap x (.str i)) (c : Rp Hd s.heap y (.str j)) : Gives prog w A s (compareOp .Gt x y) (Va (.bool (j.cps.toList < i.cps.toList))) := by
  obtain ⟨t, rfl⟩ := a.str_inv; obtain ⟨u, rfl⟩ := c.str_inv
  exact Gives.of fun Q E q => P.gt_str (q _ s.heap s.toks (Kp.refl _) rfl)
/-- == of data -/
theorem g_eqd {d e : PyData} {Hd' : List Addr} (a : Rp Hd s.heap x d) (c : Rp Hd' s.heap y e) (hd : d.canLay0 = true) (he : e.canLay0 = true) (hu : A.units + min d.depth e.depth < cLine) : Gives prog w A s (compareOp .Eq x y) (Va (.bool (PyData.eqv d e))) := by
  obtain ⟨as, ra⟩ := a.reads; obtain ⟨bs, rb⟩ := c.reads
  exact Gives.of fun Q E q => SeqAt.compareEq_reads ra rb hd he hu (q _ s.heap s.toks (Kp.refl _) rfl)
theorem g_ned {d e : PyData} {Hd' : List Addr} (a : Rp Hd s.heap x d) (c : Rp Hd' s.heap y e) (hd : d.canLay0 = true) (he : e.canLay0 = true) (hu : A.units + min d.depth e.depth < cLine) : Gives prog w A s (compareOp .NotEq x y) (Va (.bool (!PyData.eqv d e))) := by
  obtain ⟨as, ra⟩ := a.reads; obtain ⟨bs, rb⟩ := c.reads
  exact Gives.of fun Q E q => SeqAt.compareNe_reads ra rb hd he hu (q _ s.heap s.toks (Kp.refl _) rfl)
theorem g_in {d : PyData} {ds : List PyData} {Hd' : List Addr} (a : Rp Hd s.heap x d) (c : Rp Hd' s.heap y (.list ds)) (hd : d.canLay0 = true) (he : PyData.canLayAll0 ds = true) (hu : A.units + 1 + min (PyData.depthAll ds) d.depth < cLine) : Gives prog w A s (compareOp .In x y) (Va (.bool (ds.any fun z => PyData.eqv z d))) := by
  obtain ⟨as, ra⟩ := a.reads; obtain ⟨bs, rb⟩ := c.reads
  exact Gives.of fun Q E q => SeqAt.in_list_reads rb ra he hd hu (q _ s.heap s.toks (Kp.refl _) rfl)
theorem g_notin {d : PyData} {ds : List PyData} {Hd' : List Addr} (a : Rp Hd s.heap x d) (c : Rp Hd' s.heap y (.list ds)) (hd : d.canLay0 = true) (he : PyData.canLayAll0 ds = true) (hu : A.units + 1 + min (PyData.depthAll ds) d.depth < cLine) : Gives prog w A s (compareOp .NotIn x y) (Va (.bool (!ds.any fun z => PyData.eqv z d))) := by
  obtain ⟨as, ra⟩ := a.reads; obtain ⟨bs, rb⟩ := c.reads
  exact Gives.of fun Q E q => SeqAt.notIn_list_reads rb ra he hd hu (q _ s.heap s.toks (Kp.refl _) rfl)

/-- an item of a list -/
theorem g_item {value slice : Expr} {ds : List PyData} {i : Int} {d : PyData} {Hd' : List Addr} (a : Rp Hd s.heap x (.list ds)) (c : Rp Hd' s.heap y (.int i)) (h0 : 0 ≤ i) (hi : i < 2 ^ 63) (hd : ds[i.toNat]? = some d)
    (hs : ∀ o v : Value, subscripted slice false o v = operate [o, v] (getItem o v) := by intro _ _; with_unfolding_all rfl) : Gives prog w A s (subscriptTail value slice x y) (Da Hd d) := by
  obtain ⟨l, vs, rfl, _, hl, ra⟩ := a.list_inv; obtain ⟨u, rfl⟩ := c.int_inv
  obtain ⟨v, hv, rv⟩ := ra.get' hd
  exact Gives.of fun Q E q => tail_any hl.typeIs slot_list_getitem.lookup (wpAny_getItem_list hl h0 hi (by simpa using hv) (q _ s.heap s.toks (Kp.refl _) rv)) (hs _ _)
/-- an item of a tuple -/
theorem g_itemT {value slice : Expr} {ds : List PyData} {i : Int} {j : Nat} {d : PyData} {Hd' : List Addr} (a : Rp Hd s.heap x (.tuple ds)) (c : Rp Hd' s.heap y (.int i)) (hlo : -(2 ^ 63) ≤ i) (hi : i < 2 ^ 63) (hj : seqIndex? i ds.length = some j) (hd : ds[j]? = some d)
    (hs : ∀ o v : Value, subscripted slice false o v = operate [o, v] (getItem o v) := by intro _ _; with_unfolding_all rfl) : Gives prog w A s (subscriptTail value slice x y) (Da Hd d) := by
  obtain ⟨l, vs, rfl, _, hl, ra⟩ := a.tup_inv; obtain ⟨u, rfl⟩ := c.int_inv
  obtain ⟨v, hv, rv⟩ := ra.get' hd
  exact Gives.of fun Q E q => item_tupleT hl hlo hi (by rw [ra.length]; exact hj) hv (q _ s.heap s.toks (Kp.refl _) rv) (hs _ _)
/-- a sign of a text -/
theorem g_itemS {value slice : Expr} {z : Str} {i : Int} {Hd' : List Addr} (a : Rp Hd s.heap x (.str z)) (c : Rp Hd' s.heap y (.int i)) (hr : fitsSsize i = true) (hin : (Txt.charAt z i).isSome = true)
    (hs : ∀ o v : Value, subscripted slice false o v = operate [o, v] (getItem o v) := by intro _ _; with_unfolding_all rfl) : Gives prog w A s (subscriptTail value slice x y) (Da Hd (.str (Txt.item z i))) := by
  obtain ⟨t, rfl⟩ := a.str_inv; obtain ⟨u, rfl⟩ := c.int_inv
  exact Gives.of fun Q E q => tail_any (typeIs_str _ _ _) PySem.F.slot_str_getitem.lookup (SB.getItem hr hin (q _ s.heap _ (Kp.refl _) (.str _ _))) (hs _ _)

/-- slices -/
def partE (A : Around) (b : Heap) (prog : Program) (w : World) (env : Env) : Option Expr → Option Int → Prop
  | none, none => True
  | some e, some i => Ev prog w A b (eval e env) (Da [] (.int i))
  | _, _ => False
theorem part_use {e : Option Expr} {i : Option Int} (h : partE A b prog w env e i) {Q : Value → Shared → Prop} {E : Value → Shared → Prop} (kb : Kp b s.heap) (q : ∀ v h' k, Kp s.heap h' → IsPart v i → Q v { s with heap := h', toks := k }) : wpAny (model prog w) A (evalPart e env) Q E s := by
  match e, i, h with
  | none, none, _ => exact wpAny_pure (q _ s.heap s.toks (Kp.refl _) .none)
  | some e, some i, h =>
    refine Ev.use h kb fun v h' k kp p => ?_
    obtain ⟨t, rfl⟩ := Rp.int_inv p
    exact q _ h' k kp (.int _ _)
theorem sliceL {value : Expr} {lower upper : Option Expr} {p : Pos} {ds : List PyData} {lo hi : Option Int} (hs : Hs Hd b) (hv : Ev prog w A b (eval value env) (Da Hd (.list ds))) (hlo : partE A b prog w env lower lo) (hhi : partE A b prog w env upper hi)
    (hz : ds.length ≤ sizeLine) : Ev prog w A b (eval (.Subscript value (.Slice lower upper none p) pos) env) (Da Hd (.list ((ds.drop (lo.elim 0 (clipAt ds.length))).take (hi.elim ds.length (clipAt ds.length) - lo.elim 0 (clipAt ds.length))))) := fun s kb =>
  Gives.of fun Q E q => Subscript_ (hv.use kb fun x h1 k1 kp1 p1 => wpAny_Slice (part_use hlo (kb.trans kp1) fun vl h2 k2 kp2 pl => part_use hhi (kb.trans (kp1.trans kp2)) fun vu h3 k3 kp3 pu => by
    refine wpAny_pure ?_
    have hp1 := Rp.up p1 (kp2.trans kp3)
    obtain ⟨l, vs, rfl, _, hl, ra⟩ := hp1.list_inv
    have hH : Hs Hd h3 := hs.up (kb.trans (kp1.trans (kp2.trans kp3)))
    refine tail_any (ops := [.ref h3.objs.size, .ref l]) (T := "list") (hl.push _).typeIs list_getitem_lookup (wpAny_getItem_list_slice (hl.push _) (Heap.IsSliceOf.new ..) pl pu .none (by simp) ?_ (by simp [ra.length]; exact hz)) rfl
    rw [slicePick_plain]
    refine q _ _ _ (kp1.trans (kp2.trans (kp3.trans ((Kp.push _ _).trans (Kp.push _ _))))) ?_
    have hH' : Hs Hd (h3.push { cls := .type "slice", data := .fields #[vl, vu, .none] }) := hH.up (Kp.push _ _)
    have r2 := (ra.up (Kp.push h3 { cls := .type "slice", data := .fields #[vl, vu, .none] }))
    have := rp_newList (n := 0) hH' ((r2.drop (lo.elim 0 (clipAt ds.length))).take (hi.elim ds.length (clipAt ds.length) - lo.elim 0 (clipAt ds.length)))
    simp only [List.size_toArray, ra.length]
    exact this))
theorem sliceS {value : Expr} {lower upper : Option Expr} {p : Pos} {z : Str} {lo hi : Option Int} (hv : Ev prog w A b (eval value env) (Da Hd (.str z))) (hlo : partE A b prog w env lower lo) (hhi : partE A b prog w env upper hi)
    (hz : z.length ≤ sizeLine) : Ev prog w A b (eval (.Subscript value (.Slice lower upper none p) pos) env) (Da Hd (.str (Txt.slice z lo hi))) := fun s kb =>
  Gives.of fun Q E q => Subscript_ (hv.use kb fun x h1 k1 kp1 p1 => wpAny_Slice (part_use hlo (kb.trans kp1) fun vl h2 k2 kp2 pl => part_use hhi (kb.trans (kp1.trans kp2)) fun vu h3 k3 kp3 pu => by
    refine wpAny_pure ?_
    obtain ⟨t, rfl⟩ := Rp.str_inv p1
    have kk := kp1.trans (kp2.trans (kp3.trans (Kp.push h3 { cls := .type "slice", data := .fields #[vl, vu, .none] })))
    cases pl with
    | none =>
      cases pu with
      | none => exact tail_any (ops := [.ref h3.objs.size, .str z t]) (typeIs_str _ _ _) PySem.F.slot_str_getitem.lookup (wpAny_getItem_str_slice (l := none) (u := none) (st := none) ⟨_, Heap.get?_push_size _ rfl, rfl, rfl⟩ rfl (post_val_or_str ⟨Nat.le_trans (Txt.slice_le z none none) hz, fun t' k => q _ _ k kk (.str _ _)⟩)) rfl
      | int j uj => exact tail_any (ops := [.ref h3.objs.size, .str z t]) (typeIs_str _ _ _) PySem.F.slot_str_getitem.lookup (wpAny_getItem_str_slice (l := none) (u := some (j, uj)) (st := none) ⟨_, Heap.get?_push_size _ rfl, rfl, rfl⟩ rfl (post_val_or_str ⟨Nat.le_trans (Txt.slice_le z none (some j)) hz, fun t' k => q _ _ k kk (.str _ _)⟩)) rfl
    | int i ui =>
      cases pu with
      | none => exact tail_any (ops := [.ref h3.objs.size, .str z t]) (typeIs_str _ _ _) PySem.F.slot_str_getitem.lookup (wpAny_getItem_str_slice (l := some (i, ui)) (u := none) (st := none) ⟨_, Heap.get?_push_size _ rfl, rfl, rfl⟩ rfl (post_val_or_str ⟨Nat.le_trans (Txt.slice_le z (some i) none) hz, fun t' k => q _ _ k kk (.str _ _)⟩)) rfl
      | int j uj => exact tail_any (ops := [.ref h3.objs.size, .str z t]) (typeIs_str _ _ _) PySem.F.slot_str_getitem.lookup (wpAny_getItem_str_slice (l := some (i, ui)) (u := some (j, uj)) (st := none) ⟨_, Heap.get?_push_size _ rfl, rfl, rfl⟩ rfl (post_val_or_str ⟨Nat.le_trans (Txt.slice_le z (some i) (some j)) hz, fun t' k => q _ _ k kk (.str _ _)⟩)) rfl))

/-- len -/
theorem g_lenL {ds : List PyData} (a : Rp Hd s.heap x (.list ds)) (hz : (ds.length : Int) < 2 ^ 63) : Gives prog w A s (call (.builtin "len") [x] []) (Da Hd (.int ds.length)) := by
  obtain ⟨l, vs, rfl, _, hl, ra⟩ := a.list_inv
  exact Gives.of fun Q E q => call_len_list hl (by simpa [ra.length] using hz) (q _ s.heap _ (Kp.refl _) (by rw [show (vs.toArray.size : Int) = ds.length by simp [ra.length]]; exact .int _ _))
theorem g_lenS {z : Str} (a : Rp Hd s.heap x (.str z)) (hz : ¬ (z.length : Int) ≥ 2 ^ 63) : Gives prog w A s (call (.builtin "len") [x] []) (Da Hd (.int z.length)) := by
  obtain ⟨t, rfl⟩ := a.str_inv
  exact Gives.of fun Q E q => P.len_str hz (q _ s.heap _ (Kp.refl _) (.int _ _))

/-- a method of a text -/
theorem ev_methS {o e : Expr} {rest : List Expr} {name : Str} {id : String} {apos : Pos} {z : Str} {Ps : List (Heap → Value → Prop)} {pl : Sem Bool} (ho : Ev prog w A b (eval o env) (Da Hd (.str z))) (slot : Slot "str" name id) (ty : typeOf (.builtin id) = pure (.type "method_descriptor"))
    (ha : Evs prog w A b (spliced (backTo pos (starEach (e :: rest) env))) Ps) (spec : ∀ s t vs, Kp b s.heap → Alls Ps s.heap vs → Gives prog w A s (call (.builtin id) (.str z t :: vs) []) P)
    (he : backTo pos (starEach (e :: rest) env) = (false, eval e env) :: backTo pos (starEach rest env) := by rfl) (hp : (backTo pos (starEach (e :: rest) env)).any (·.1) = false := by rfl)
    (hm : eval (.Call (.Attribute o name apos) (e :: rest) [] pos) env = (do
      let ov ← eval o env
      standAt apos.atName
      let (f, first) ← holding [ov] (getMethod ov name pl)
      callWith pos f first (backTo pos (starEach (e :: rest) env)) (backToKw pos (keywordEach [] env))) := by rfl) :
    Ev prog w A b (eval (.Call (.Attribute o name apos) (e :: rest) [] pos) env) P := fun s kb => Gives.of fun Q E q =>
  methodCall_KW (ho.use kb fun x h1 k1 kp1 p1 => by
    obtain ⟨t, rfl⟩ := Rp.str_inv p1
    refine GM.of (.str z t) (typeIs_str _ _ _) slot ty GM.noRef ?_
    refine callWith_builtin hp ?_
    rw [he]
    refine evalArgs_plain ?_
    rw [← he]
    exact ha _ _ _ (kb.trans kp1) fun vs h2 k2 kp2 a2 => (spec _ t vs (kb.trans (kp1.trans kp2)) a2).use fun v h3 k3 kp3 p3 => q v h3 k3 (kp1.trans (kp2.trans kp3)) p3) hm
end
end Mine
end
section
set_option maxRecDepth 10000
namespace Mine
open PySem PySem.W PySem.Calls PyProof.Rows

/-- an iterator over data -/
def It (prog : Program) (w : World) (A : Around) (Hd : List Addr) (h : Heap) (I : Addr) (ds : List PyData) (N : Nat) : Prop :=
  ∃ (fp : List Addr) (P : Nat → Value → Prop) (St : Nat → Heap → Prop), Walks prog w A I fp [I] ds.length P St ∧ St 0 h ∧ (∀ a ∈ fp, a < N ∧ (a = I ∨ a ∉ Hd)) ∧ (∀ i h', St i h' → ∃ o, h'.get? I = some o) ∧ (∀ i v, P i v → ∃ d, ds[i]? = some d ∧ Rp (I :: Hd) h v d)
/-- a tree whose value is iterable, over data -/
def Iter (prog : Program) (w : World) (A : Around) (b : Heap) (Hd : List Addr) (t : Sem Value) (ds : List PyData) : Prop :=
  ∀ (s : Shared) (Q : Value → Shared → Prop) (E : Value → Shared → Prop), Kp b s.heap → (∀ I h' k, Kp s.heap h' → s.heap.get? I = none → It prog w A Hd h' I ds h'.objs.size → Q (.ref I) { s with heap := h', toks := k }) →
    wpAny (model prog w) A t (fun x s₁ => wpAny (model prog w) A (pyIter x) Q E s₁) E s
theorem fresh_of {h h' : Heap} {I : Addr} (k : Kp h h') (hi : h'.objs.size ≤ I) : h.get? I = none := by
  cases e : h.get? I with
  | none => rfl
  | some o => exact absurd (Heap.lt_size (k _ _ e)) (Nat.not_lt.mpr hi)

/-- the heap has grown, the hidden too -/
structure Ext (b : Heap) (Hd : List Addr) (b' : Heap) (H : List Addr) : Prop where
  kp : Kp b b'
  hid : Kp (hideAll b Hd) (hideAll b' H)
  hs : Hs H b'
section
variable {b b' : Heap} {Hd H : List Addr} {v : Value} {d : PyData} {vs : List Value} {ds : List PyData}
theorem Ext.rp (x : Ext b Hd b' H) (r : Rp Hd b v d) : Rp H b' v d := r.of x.hid
theorem Ext.rpAll (x : Ext b Hd b' H) (r : RpAll Hd b vs ds) : RpAll H b' vs ds := r.of x.hid
theorem Ext.mk' {N : List Addr} (k : Kp b b') (hn : ∀ a ∈ N, b.get? a = none) (hs : Hs (N ++ Hd) b') : Ext b Hd b' (N ++ Hd) :=
  ⟨k, (fun a o e => by
    have e' := of_hideAll Hd e
    refine hideAll_get _ (k a o e') fun m => ?_
    rcases List.mem_append.mp m with m | m
    · rw [hn a m] at e'; cases e'
    · rw [hideAll_none Hd m] at e; exact nomatch e), hs⟩
theorem Rp.weaken {h : Heap} {N : List Addr} (r : Rp (N ++ Hd) h v d) : Rp Hd h v d := r.of fun a o e => by
  by_cases m : a ∈ N ++ Hd
  · rw [hideAll_none _ m] at e; cases e
  · exact hideAll_get _ (of_hideAll _ e) fun q => m (List.mem_append.mpr (.inr q))
theorem RpAll.weaken {h : Heap} {N : List Addr} (r : RpAll (N ++ Hd) h vs ds) : RpAll Hd h vs ds := r.of fun a o e => by
  by_cases m : a ∈ N ++ Hd
  · rw [hideAll_none _ m] at e; cases e
  · exact hideAll_get _ (of_hideAll _ e) fun q => m (List.mem_append.mpr (.inr q))
end
theorem Hs.same {Hd : List Addr} {a : Addr} {h h' : Heap} (x : Hs Hd h) (hs : Heap.SameBut a h h') (ha : ∃ o, h'.get? a = some o) : Hs Hd h' := fun c hc => by
  by_cases e : c = a
  · subst e; exact ha
  · obtain ⟨o, ho⟩ := x c hc; exact ⟨o, (hs.2 c e).trans ho⟩

theorem iter_list' {prog : Program} {w : World} {A : Around} {Hd : List Addr} {s : Shared} {l : Addr} {vs : List Value} {ds : List PyData} {Q : Value → Shared → Prop} {E : Value → Shared → Prop} (hh : A.handled = none) (hax : l ∉ Hd) (hl : s.heap.IsList l vs.toArray) (r : RpAll Hd s.heap vs ds)
    (q : ∀ I h', Kp s.heap h' → s.heap.get? I = none → It prog w A Hd h' I ds h'.objs.size → Q (.ref I) { s with heap := h' }) : wpAny (model prog w) A (pyIter (.ref l)) Q E s := by
  obtain ⟨o, ho, hc, n, hd⟩ := id hl
  have hne : l ≠ s.heap.objs.size := Nat.ne_of_lt (Heap.lt_size ho)
  refine wpAny_pyIter_list hl (q _ _ (Kp.push _ _) (fresh_of (Kp.refl _) (Nat.le_refl _)) ?_)
  have hlen : vs.toArray.size = ds.length := by simp [r.length]
  have W := Walks.list (prog := prog) (w := w) hh s.heap.objs.size l hne vs.toArray
  rw [hlen] at W
  refine ⟨_, _, _, W, ⟨⟨_, Heap.get?_push_size _ rfl, rfl, rfl⟩, hl.at fun o e => Heap.get?_push_of_some _ e⟩, ?_, fun i h' st => ?_, fun i v hv => ?_⟩
  · intro a ha
    rw [Heap.size_push]
    rcases List.mem_cons.mp ha with rfl | ha
    · exact ⟨Nat.lt_succ_self _, .inl rfl⟩
    · rw [List.mem_singleton.mp ha]; exact ⟨Nat.lt_succ_of_lt (Heap.lt_size ho), .inr hax⟩
  · obtain ⟨⟨o, e, _⟩, _⟩ := st; exact ⟨o, e⟩
  · obtain ⟨d, h1, h2⟩ := r.get (i := i) (v := v) (by simpa using hv)
    refine ⟨d, h1, h2.of fun a o e => ?_⟩
    have e' := of_hideAll Hd e
    refine hideAll_get _ (Heap.get?_push_of_some _ e') fun m => ?_
    rcases List.mem_cons.mp m with q | m
    · exact absurd (Heap.lt_size e') (q ▸ Nat.lt_irrefl _)
    · rw [hideAll_none Hd m] at e; cases e
theorem iter_list {prog : Program} {w : World} {A : Around} {b : Heap} {Hd : List Addr} {t : Sem Value} {ds : List PyData} (hh : A.handled = none) (h : Ev prog w A b t (Da Hd (.list ds))) : Iter prog w A b Hd t ds := fun s Q E kb q =>
  h.use kb fun v h1 k1 kp1 p1 => by
    obtain ⟨l, vs, rfl, hax, hl, r⟩ := Rp.list_inv p1
    exact iter_list' hh hax hl r fun I h' kp hI it => q I h' k1 (kp1.trans kp) (by
      cases e : s.heap.get? I with
      | none => rfl
      | some o => rw [kp1 _ _ e] at hI; cases hI) it
/-- range objects -/
def RangeIs (a c : Int) : Heap → Value → Prop := fun h v => ∃ r t u x, v = .ref r ∧ IsRange h r a c 1 t u x
theorem up_range (a c : Int) : Up (RangeIs a c) := fun _ _ _ k ⟨r, t, u, x, e, h⟩ => ⟨r, t, u, x, e, k _ _ h⟩
theorem iter_range {prog : Program} {w : World} {A : Around} {b : Heap} {Hd : List Addr} {t : Sem Value} {a c : Int} (hh : A.handled = none) (h : Ev prog w A b t (RangeIs a c)) (ha : -(2 ^ 62) ≤ a) (ha' : a < 2 ^ 62) (hc : -(2 ^ 62) ≤ c) (hc' : c < 2 ^ 62) :
    Iter prog w A b Hd t ((List.range (c - a).toNat).map fun i : Nat => PyData.int (a + i)) := fun s Q E kb q =>
  h.use kb fun v h1 k1 kp1 ⟨r, t, u, x, e, hr⟩ => by
    subst e
    have hsm : Builtin.Range.small a c 1 = true := small_one ha ha' hc hc'
    refine wpAny_pyIter_range hr hsm (q _ _ k1 (kp1.trans (Kp.push _ _)) (fresh_of kp1 (Nat.le_refl _)) ?_)
    have hsz : Builtin.Range.rangeSize a c 1 = (((List.range (c - a).toNat).map fun i : Nat => PyData.int (a + i)).length : Int) := by rw [rangeSize_one]; simp; split <;> omega
    have W := Walks.range (prog := prog) (w := w) hh h1.objs.size a 1 ((List.range (c - a).toNat).map fun i : Nat => PyData.int (a + i)).length
    refine ⟨_, _, _, W.bound, ?_, ?_, fun i h' st => ⟨_, st⟩, fun i v hv => ?_⟩
    · show IsRangeIter _ _ _ _ _
      rw [hsz]; simpa using Heap.get?_push_size _ rfl
    · intro a ha
      rw [List.mem_singleton.mp ha, Heap.size_push]; exact ⟨Nat.lt_succ_self _, .inl rfl⟩
    · obtain ⟨hi, t, rfl⟩ := hv
      refine ⟨.int (a + i), ?_, by rw [show a + (i : Int) * 1 = a + i by omega]; exact .int _ _⟩
      simp only [List.length_map, List.length_range] at hi
      simp [hi]

section
variable {prog : Program} {w : World} {A : Around}

theorem comp_loop {elt target iter : Expr} {ifs : List Expr} {scope : Scope} {pos : Pos} {I D : Addr} {cenv : Env} {FH H : List Addr} {FI : Heap → Prop} {Lv : PyData → Value → Heap → Prop} {ds : List PyData} {f : PyData → PyData} {p : PyData → Bool} {R : Result → Shared → Prop} {s₂ : Shared}
    {N : Nat} {fp : List Addr} {P : Nat → Value → Prop} {St : Nat → Heap → Prop} (W : Walks prog w A I fp [I] ds.length P St) (hst : St 0 s₂.heap) (hlt : ∀ a ∈ fp, a < N) (live : ∀ i h', St i h' → ∃ o, h'.get? I = some o) (hP : ∀ i v, P i v → ∃ d, ds[i]? = some d ∧ Rp H s₂.heap v d) (hz : ds.length ≤ sizeLine) (hD : s₂.heap.PlainList D #[]) (hFI : FI s₂.heap) (hH : Hs H s₂.heap) (hIH : I ∈ H) (hDH : D ∈ H) (hFH : ∀ a ∈ FH, a ∈ H)
    (hDN : N ≤ D) (hFN : ∀ a ∈ FH, N ≤ a) (hDF : D ∉ FH)
    (hFr : ∀ h h', FI h → (∀ c ∈ FH, ∀ o, h.get? c = some o → h'.get? c = some o) → FI h')
    (store : ∀ (s : Shared) (v : Value) (d : PyData) (Q : Unit → Shared → Prop) (E : Value → Shared → Prop), d ∈ ds → FI s.heap → Rp H s.heap v d → (∀ h' k, FI h' → Lv d v h' → KpH FH s.heap h' → (∀ c ∈ FH, (∃ o, s.heap.get? c = some o) → ∃ o, h'.get? c = some o) → Q () { s with heap := h', toks := k }) → wpAny (model prog w) A (assign target cenv v) Q E s)
    (htest : ∀ b' v d, d ∈ ds → KpH (I :: D :: FH) s₂.heap b' → Hs H b' → FI b' → Rp H b' v d → Lv d v b' → Tr prog w A b' (forIn ifs true fun c r => if r = true then do let ok ← isTrue c cenv (eval c cenv); pure (ForInStep.yield ok) else pure (ForInStep.yield r)) (p d))
    (helt : ∀ b' v d, d ∈ ds → p d = true → KpH (I :: D :: FH) s₂.heap b' → Hs H b' → FI b' → Rp H b' v d → Lv d v b' → Ev prog w A b' (eval elt cenv) (Da H (f d)))
    (hLv : ∀ d v h h', Lv d v h → Kp h h' → Lv d v h')
    (hR : ∀ h' tk ys, FI h' → h'.PlainList D ys → RpAll H h' ys.toList ((ds.filter p).map f) → KpH (I :: D :: FH) s₂.heap h' → Hs FH h' → R (.ok .next) { s₂ with heap := h', toks := tk })
    (ht : ∀ v, letOwnedTupleGo target (.ref I) v = pure () := by intro _; rfl) :
    codeAny (model prog w) A (.compLoop (.ListComp elt [⟨target, iter, ifs, 0⟩] scope pos) 0 (.ref I) (.ref D) cenv) R s₂ := by
  have hDf : D ∉ fp := fun m => Nat.lt_irrefl _ (Nat.lt_of_lt_of_le (hlt _ m) hDN)
  have hFf : ∀ a ∈ FH, a ∉ fp := fun a ha m => Nat.lt_irrefl _ (Nat.lt_of_lt_of_le (hlt _ m) (hFN a ha))
  have hIN : I < N := hlt _ (W.sub I (.head _))
  have hDI : D ≠ I := Nat.ne_of_gt (Nat.lt_of_lt_of_le hIN hDN)
  have hIF : I ∉ FH := fun m => Nat.lt_irrefl _ (Nat.lt_of_lt_of_le hIN (hFN _ m))
  refine codeAny_compLoop_tests
    (fun k s' => ∃ h' tk ys i, s' = { s₂ with heap := h', toks := tk } ∧ St i h' ∧ h'.PlainList D ys ∧ FI h' ∧ Hs H h' ∧ RpAll H h' ys.toList (((ds.take i).filter p).map f) ∧ i ≤ ds.length ∧ k = ds.length + 1 - i ∧
      KpH (I :: D :: FH) s₂.heap h' ∧ KpH H s₂.heap h') ?_ (ds.length + 1) ⟨s₂.heap, s₂.toks, #[], 0, rfl, hst, hD, hFI, hH, by simpa using RpAll.nil, Nat.zero_le _, rfl, fun _ _ _ e => e, fun _ _ _ e => e⟩ ht
  rintro k s' ⟨h, tk, ys, i, rfl, hst', hacc, hfi, hHs, hys, hi, rfl, hk, hkH⟩
  by_cases hlt' : i < ds.length
  · refine W.item i _ _ _ hlt' hst' fun v h₁ tk₁ hPv hst₁ hk₁ => ?_
    obtain ⟨d, hd, rv⟩ := hP i v hPv
    have hdm : d ∈ ds := List.mem_of_getElem? hd
    have kI : KpH [I] h h₁ := fun c o hc e => hk₁ c o hc e
    have kH₁ : KpH H h h₁ := fun c o hc e => hk₁ c o (fun m => hc (List.mem_singleton.mp m ▸ hIH)) e
    have rv₁ : Rp H h₁ v d := rv.upH (hkH.trans kH₁)
    have hfi₁ : FI h₁ := hFr _ _ hfi fun c hc o e => hk₁ c o (fun m => hIF (List.mem_singleton.mp m ▸ hc)) e
    have hHs₁ : Hs H h₁ := fun c hc => by
      by_cases e : c = I
      · subst e; exact live _ _ hst₁
      · obtain ⟨o, ho⟩ := hHs c hc; exact ⟨o, hk₁ c o (fun m => e (List.mem_singleton.mp m)) ho⟩
    refine store _ v d _ _ hdm hfi₁ rv₁ fun h₂ tk₂ hfi₂ hLv₂ hk₂ hex₂ => ?_
    have kH₂ : KpH H h₁ h₂ := fun c o hc e => hk₂ c o (fun m => hc (hFH c m)) e
    have hHs₂ : Hs H h₂ := fun c hc => by
      by_cases m : c ∈ FH
      · exact hex₂ c m (hHs₁ c hc)
      · obtain ⟨o, ho⟩ := hHs₁ c hc; exact ⟨o, hk₂ c o m ho⟩
    have hst₂ : St (i + 1) h₂ := W.frame _ _ _ hst₁ fun c hc o e => hk₂ c o (fun m => hFf c m hc) e
    have kX₂ : KpH (I :: D :: FH) s₂.heap h₂ := fun c o hc e => hk₂ c o (fun m => hc (.tail _ (.tail _ m))) (hk₁ c o (fun m => hc (List.mem_singleton.mp m ▸ .head _)) (hk c o hc e))
    have kH2 : KpH H s₂.heap h₂ := hkH.trans (kH₁.trans kH₂)
    have rv₂ : Rp H h₂ v d := rv₁.upH kH₂
    refine htest h₂ v d hdm kX₂ hHs₂ hfi₂ rv₂ hLv₂ _ _ _ (Kp.refl _) fun h₃ tk₃ kp₃ => ?_
    have hst₃ : St (i + 1) h₃ := W.frame _ _ _ hst₂ fun c _ o e => kp₃ c o e
    have hfi₃ : FI h₃ := hFr _ _ hfi₂ fun c _ o e => kp₃ c o e
    have hacc₃ : h₃.PlainList D ys := hacc.at fun o e => kp₃ _ o (hk₂ D o hDF (hk₁ D o (fun m => hDI (List.mem_singleton.mp m)) e))
    have hys₃ : RpAll H h₃ ys.toList (((ds.take i).filter p).map f) := ((hys.upH kH₁).upH kH₂).up kp₃
    have htk : (ds.take (i + 1)).filter p = (ds.take i).filter p ++ (if p d then [d] else []) := take_succ_filter p ds i d hd
    have kX₃ : KpH (I :: D :: FH) s₂.heap h₃ := kX₂.trans kp₃.toH
    have kH₃ : KpH H s₂.heap h₃ := kH2.trans kp₃.toH
    cases hpd : p d with
    | false =>
      simp only [Bool.false_eq_true, if_false]
      refine ⟨ds.length + 1 - (i + 1), by omega, h₃, tk₃, ys, i + 1, rfl, hst₃, hacc₃, hfi₃, hHs₂.up kp₃, ?_, hlt', rfl, kX₃, kH₃⟩
      rw [htk, hpd]; simpa using hys₃
    | true =>
      simp only [if_true]
      refine Ev.use (helt h₂ v d hdm hpd kX₂ hHs₂ hfi₂ rv₂ hLv₂) kp₃ fun y h₄ tk₄ kp₄ ry => ?_
      have hys' : ys.size ≤ sizeLine := by
        have e1 := hys.length
        simp only [List.length_map, Array.length_toList] at e1
        have e2 : ((ds.take i).filter p).length ≤ (ds.take i).length := List.length_filter_le _ _
        have e3 : (ds.take i).length ≤ ds.length := by rw [List.length_take]; exact Nat.min_le_right _ _
        omega
      refine wpAny_list_append_plain (hsz := hys') (hacc₃.at fun o e => kp₄ _ o e) fun h₅ hl₅ hs₅ => ?_
      have kH₅ : KpH H h₄ h₅ := KpH.same hs₅ hDH
      have hHs₅ : Hs H h₅ := ((hHs₂.up kp₃).up kp₄).same hs₅ (let ⟨_, e⟩ := hl₅; ⟨_, e⟩)
      refine ⟨ds.length + 1 - (i + 1), by omega, h₅, tk₄, ys.push y, i + 1, rfl, W.frame _ _ _ hst₃ (fun c hc o e => (hs₅.2 c (fun q => hDf (q ▸ hc))).trans (kp₄ c o e)), hl₅, hFr _ _ (hFr _ _ hfi₃ fun c _ o e => kp₄ c o e) (fun c hc o e => (hs₅.2 c (fun q => hDF (q ▸ hc))).trans e), hHs₅, ?_, hlt', rfl, ?_, ?_⟩
      · rw [htk, hpd, List.map_append, Array.toList_push]
        exact RpAll.append ((hys₃.up kp₄).upH kH₅) (.cons (Rp.upH ry kH₅) .nil)
      · exact fun c o hc e => (hs₅.2 c (fun q => hc (q ▸ .tail _ (.head _)))).trans (kp₄ c o (kX₃ c o hc e))
      · exact kH₃.trans (kp₄.toH.trans kH₅)
  · have hin : i = ds.length := by omega
    subst hin
    refine W.done _ _ _ hst' fun h₁ tk₁ hk₁ => ?_
    refine hR h₁ tk₁ ys (hFr _ _ hfi fun c hc o e => hk₁ c o (fun m => hIF (List.mem_singleton.mp m ▸ hc)) e) (hacc.at fun o e => hk₁ _ o (fun m => hDI (List.mem_singleton.mp m)) e) ?_ (fun c o hc e => hk₁ c o (fun m => hc (List.mem_singleton.mp m ▸ .head _)) (hk c o hc e)) ?_
    · rw [List.take_length] at hys
      exact hys.upH fun c o hc e => hk₁ c o (fun m => hc (List.mem_singleton.mp m ▸ hIH)) e
    · intro c hc
      obtain ⟨o, ho⟩ := hHs c (hFH c hc)
      exact ⟨o, hk₁ c o (fun m => hIF (List.mem_singleton.mp m ▸ hc)) ho⟩

/-- the whole comprehension, no cell of its own -/
theorem comp_core {elt target iter : Expr} {ifs : List Expr} {scope : Scope} {cl : List (Str × Addr)} {pos ipos : Pos} {env : Env} {use : Option (Value → Sem Unit)} {Lv : Addr → PyData → Value → Heap → Prop} {ds : List PyData} {f : PyData → PyData} {p : PyData → Bool}
    {Q : Value → Shared → Prop} {E : Value → Shared → Prop} {s : Shared} {b : Heap} {Hd : List Addr}
    (hs : Hs Hd b) (kb : Kp b s.heap) (hit : Iter prog w A b Hd (eval iter env) ds) (hz : ds.length ≤ sizeLine) (hclos : closureFor scope env = pure cl) (hcell : ∀ y ∈ scope.names, y.2 ≠ .cell) (hkind : scope.kind = .function)
    (hnames : ∀ y ∈ scope.names, y.2 = .local → scope.names.lookup y.1 = some .local) (hfs : ∀ x, foldedSetIterable iter env x = pure x)
    (store : ∀ (C : Addr) (H : List Addr) (s : Shared) (v : Value) (d : PyData) (Q : Unit → Shared → Prop) (E : Value → Shared → Prop) (m : Str → Option Value), C ∈ H → d ∈ ds → s.heap.Ns C m → Rp H s.heap v d → (∀ h' k m', h'.Ns C m' → Lv C d v h' → KpH [C] s.heap h' → Q () { s with heap := h', toks := k }) → wpAny (model prog w) A (assign target (compEnvC scope cl C env) v) Q E s)
    (htest : ∀ C b' H v d, d ∈ ds → Ext b Hd b' H → Rp H b' v d → Lv C d v b' → Tr prog w A b' (forIn ifs true fun c r => if r = true then do let ok ← isTrue c (compEnvC scope cl C env) (eval c (compEnvC scope cl C env)); pure (ForInStep.yield ok) else pure (ForInStep.yield r)) (p d))
    (helt : ∀ C b' H v d, d ∈ ds → p d = true → Ext b Hd b' H → Rp H b' v d → Lv C d v b' → Ev prog w A b' (eval elt (compEnvC scope cl C env)) (Da H (f d)))
    (hLv : ∀ C d v h h', Lv C d v h → Kp h h' → Lv C d v h')
    (fin : ∀ (D C : Addr) (h' : Heap) (k : Nat) (m' : Str → Option Value) (H : List Addr) (ys : Array Value), h'.Ns C m' → s.heap.get? D = none → s.heap.get? C = none → D ≠ C → Kp s.heap h' → h'.PlainList D ys → RpAll (H ++ Hd) h' ys.toList ((ds.filter p).map f) → C ∈ H → D ∈ H → (∀ a ∈ H, s.heap.get? a = none) →
      compPost (model prog w) A E use Q (.ref D) C (.ok .next) { s with heap := h', toks := k })
    (ht : ∀ I v, letOwnedTupleGo target (.ref I) v = pure ()) :
    wpAny (model prog w) A (comprehension (.ListComp elt [⟨target, iter, ifs, 0⟩] scope pos) scope env ipos (newList []) false (eval iter env) use) Q E s := by
  refine wpAny_comprehension_free rfl hfs hclos hkind hnames (hit s _ _ kb fun I h2 k2 kp2 hI it => ?_)
  obtain ⟨fp, P, St, W, hst, hlt, live, hP⟩ := it
  refine wpAny_newObj_type (wpAny_newFunctionEnv hcell (by intro y hy; simp at hy) (fun h₁ hns₁ hsb₁ => ?_) hkind)
  dsimp only at hns₁ hsb₁ ⊢
  generalize hH2 : h2.push { cls := .type "list", dict := none, data := .seq ([] : List Value).toArray } = H2 at hns₁ hsb₁ ⊢
  have hC : H2.objs.size = h2.objs.size + 1 := by rw [← hH2, Heap.size_push]
  have hDC : h2.objs.size ≠ H2.objs.size := by rw [hC]; exact Nat.ne_of_lt (Nat.lt_succ_self _)
  have old : Kp h2 h₁ := fun c o e => hsb₁.extBut c o (by rw [hC]; exact Nat.ne_of_lt (Nat.lt_succ_of_lt (Heap.lt_size e))) (Heap.get?_push_of_some _ (hH2 ▸ Heap.get?_push_of_some _ e))
  have hacc : h₁.PlainList h2.objs.size #[] := ⟨_, hsb₁.extBut _ _ hDC (Heap.get?_push_of_some _ (hH2 ▸ Heap.get?_push_size _ rfl))⟩
  have hD2 : h2.get? h2.objs.size = none := fresh_of (Kp.refl _) (Nat.le_refl _)
  have hC2 : h2.get? H2.objs.size = none := fresh_of (Kp.refl _) (by rw [hC]; exact Nat.le_succ _)
  have hD0 : s.heap.get? h2.objs.size = none := fresh_of kp2 (Nat.le_refl _)
  have hC0 : s.heap.get? H2.objs.size = none := fresh_of kp2 (by rw [hC]; exact Nat.le_succ _)
  have nb : ∀ a, s.heap.get? a = none → b.get? a = none := fun a e => by
    cases q : b.get? a with
    | none => rfl
    | some o => rw [kb _ _ q] at e; cases e
  have hst₁ : St 0 h₁ := W.frame _ _ _ hst fun c _ o e => old c o e
  have hCs : ∃ o, h₁.get? H2.objs.size = some o := let ⟨o, _, _, e, _⟩ := hns₁; ⟨o, e⟩
  have hDs : ∃ o, h₁.get? h2.objs.size = some o := let ⟨n, e⟩ := hacc; ⟨_, e⟩
  have hfr : ∀ a ∈ [I, h2.objs.size, H2.objs.size], s.heap.get? a = none := fun a ha => by
    rcases List.mem_cons.mp ha with rfl | ha
    · exact hI
    rcases List.mem_cons.mp ha with rfl | ha
    · exact hD0
    · rw [List.mem_singleton.mp ha]; exact hC0
  have kall : Kp s.heap h₁ := kp2.trans old
  have hHs : Hs ([I, h2.objs.size, H2.objs.size] ++ Hd) h₁ := fun a ha => by
    rcases List.mem_append.mp ha with ha | ha
    · rcases List.mem_cons.mp ha with rfl | ha
      · exact live _ _ hst₁
      rcases List.mem_cons.mp ha with rfl | ha
      · exact hDs
      · rw [List.mem_singleton.mp ha]; exact hCs
    · obtain ⟨o, e⟩ := hs a ha; exact ⟨o, kall _ _ (kb _ _ e)⟩
  have ext : ∀ b', KpH (I :: h2.objs.size :: [H2.objs.size]) h₁ b' → Hs ([I, h2.objs.size, H2.objs.size] ++ Hd) b' → Ext b Hd b' ([I, h2.objs.size, H2.objs.size] ++ Hd) := fun b' kx hx =>
    Ext.mk' (fun c o e => kx c o (fun m => by have := nb c (hfr c m); rw [e] at this; cases this) (kall _ _ (kb _ _ e))) (fun a ha => nb a (hfr a ha)) hx
  have loop : codeAny (model prog w) A (.compLoop (.ListComp elt [⟨target, iter, ifs, 0⟩] scope pos) 0 (.ref I) (.ref h2.objs.size) (compEnvC scope cl H2.objs.size env))
        (compPost (model prog w) A E use Q (.ref h2.objs.size) H2.objs.size) { s with heap := h₁, toks := k2 } := by
    refine comp_loop (s₂ := { s with heap := h₁, toks := k2 }) (N := h2.objs.size) (FH := [H2.objs.size]) (H := [I, h2.objs.size, H2.objs.size] ++ Hd) (FI := fun h => ∃ m, h.Ns H2.objs.size m) (Lv := Lv H2.objs.size) (ds := ds) (f := f) (p := p) W hst₁ (fun a ha => (hlt a ha).1) live ?_ hz hacc ⟨_, hns₁⟩ hHs ?_ ?_ ?_ (Nat.le_refl _) ?_ ?_ ?_ ?_ ?_ ?_ (hLv _) ?_ (ht I)
    · intro i v hv
      obtain ⟨d, hd, r⟩ := hP i v hv
      refine ⟨d, hd, r.of fun a o e => ?_⟩
      have e' := of_hideAll _ e
      refine hideAll_get _ (old _ _ e') fun m => ?_
      have hn : a ∉ I :: Hd := fun q => by rw [hideAll_none _ q] at e; cases e
      rcases List.mem_append.mp m with m | m
      · rcases List.mem_cons.mp m with rfl | m
        · exact hn (.head _)
        rcases List.mem_cons.mp m with rfl | m
        · rw [hD2] at e'; cases e'
        · rw [List.mem_singleton.mp m, hC2] at e'; cases e'
      · exact hn (.tail _ m)
    · simp
    · simp
    · intro a ha; rw [List.mem_singleton.mp ha]; simp
    · intro a ha; rw [List.mem_singleton.mp ha, hC]; exact Nat.le_succ _
    · intro m; exact hDC (List.mem_singleton.mp m)
    · rintro h h' ⟨m, hn⟩ hk; exact ⟨m, hn.at' fun o e => hk _ (.head _) o e⟩
    · rintro s' v d Q' E' hd ⟨m, hn⟩ r q
      exact store _ _ s' v d Q' E' m (by simp) hd hn r fun h' k m' hn' lv kk => q h' k ⟨m', hn'⟩ lv kk fun c hc _ => by rw [List.mem_singleton.mp hc]; obtain ⟨o, _, _, e, _⟩ := hn'; exact ⟨o, e⟩
    · intro b' v d hd kx hx _ r lv; exact htest _ b' _ v d hd (ext b' kx hx) r lv
    · intro b' v d hd hp kx hx _ r lv; exact helt _ b' _ v d hd hp (ext b' kx hx) r lv
    · rintro h' tk ys ⟨m', hn'⟩ hpl r kx _
      exact fin _ _ h' tk m' _ ys hn' hD0 hC0 hDC (fun c o e => kx c o (fun m => by have := hfr c m; rw [e] at this; cases this) (kall _ _ e)) hpl r (by simp) (by simp) hfr
  exact codeAny_compStart_list loop (W.self 0 _ _ _ hst₁ loop)

/-- a comprehension as an expression -/
abbrev PlainV : Heap → Value → Prop := fun h v => ∃ a its, v = .ref a ∧ h.PlainList a its
theorem ev_comp {elt target iter : Expr} {ifs : List Expr} {scope : Scope} {cl : List (Str × Addr)} {pos : Pos} {env : Env} {Lv : Addr → PyData → Value → Heap → Prop} {ds : List PyData} (f : PyData → PyData) (p : PyData → Bool) {b : Heap} {Hd : List Addr}
    (hs : Hs Hd b) (hit : Iter prog w A b Hd (eval iter env) ds) (hz : ds.length ≤ sizeLine) (hclos : closureFor scope env = pure cl)
    (store : ∀ (C : Addr) (H : List Addr) (s : Shared) (v : Value) (d : PyData) (Q : Unit → Shared → Prop) (E : Value → Shared → Prop) (m : Str → Option Value), C ∈ H → d ∈ ds → s.heap.Ns C m → Rp H s.heap v d → (∀ h' k m', h'.Ns C m' → Lv C d v h' → KpH [C] s.heap h' → Q () { s with heap := h', toks := k }) → wpAny (model prog w) A (assign target (compEnvC scope cl C env) v) Q E s)
    (hLv : ∀ C d v h h', Lv C d v h → Kp h h' → Lv C d v h')
    (htest : ∀ C b' H v d, d ∈ ds → Ext b Hd b' H → Rp H b' v d → Lv C d v b' → Tr prog w A b' (forIn ifs true fun c r => if r = true then do let ok ← isTrue c (compEnvC scope cl C env) (eval c (compEnvC scope cl C env)); pure (ForInStep.yield ok) else pure (ForInStep.yield r)) (p d))
    (helt : ∀ C b' H v d, d ∈ ds → p d = true → Ext b Hd b' H → Rp H b' v d → Lv C d v b' → Ev prog w A b' (eval elt (compEnvC scope cl C env)) (Da H (f d)))
    (hcell : ∀ y ∈ scope.names, y.2 ≠ .cell := by decide) (hkind : scope.kind = .function := by rfl) (hnames : ∀ y ∈ scope.names, y.2 = .local → scope.names.lookup y.1 = some .local := by decide) (hfs : ∀ x, foldedSetIterable iter env x = pure x := by intro _; rfl) (ht : ∀ I v, letOwnedTupleGo target (.ref I) v = pure () := by intro _ _; rfl) :
    Ev prog w A b (eval (.ListComp elt [⟨target, iter, ifs, 0⟩] scope pos) env) (fun h v => Rp Hd h v (.list ((ds.filter p).map f)) ∧ PlainV h v) := fun s kb => Gives.of fun Q E q => by
  rw [eval_ListComp]
  refine comp_core (use := none) hs kb hit hz hclos hcell hkind hnames hfs store htest helt hLv ?_ ht
  intro D C h' k m' H ys hn hD hC hDC kp hpl r hCH hDH hfr
  refine ⟨m', hn, fun h'' hs'' => q (.ref D) h'' k (fun c o e => (hs''.2 c (fun z => by subst z; rw [hC] at e; cases e)).trans (kp _ _ e)) ⟨?_, D, ys, rfl, hpl.extBut hs''.extBut hDC⟩⟩
  have r2 : RpAll (H ++ Hd) h'' ys.toList ((ds.filter p).map f) := r.upH (KpH.same hs'' (List.mem_append.mpr (.inl hCH)))
  refine Rp.list_mk (vs := ys.toList) (fun m => ?_) (by rw [Array.toArray_toList]; exact (hpl.extBut hs''.extBut hDC).isList) r2.weaken
  obtain ⟨o, e⟩ := hs D m; rw [kb _ _ e] at hD; cases hD
end
end Mine
end
section
set_option maxRecDepth 10000
namespace Mine
open PySem PySem.W PySem.Calls PyProof.Rows

/-- the state inside a call: what stood at its entry stands; N are its own open objects -/
structure FS (s₀ : Heap) (N Hd : List Addr) (h : Heap) : Prop where
  k0 : Kp s₀ h
  nw : ∀ a ∈ N, s₀.get? a = none
  hs : Hs (N ++ Hd) h
theorem KpH.mono {N H : List Addr} {h h' : Heap} (k : KpH N h h') : KpH (N ++ H) h h' := fun b o n e => k b o (fun m => n (List.mem_append.mpr (.inl m))) e
theorem KpH.refl {N : List Addr} (h : Heap) : KpH N h h := fun _ _ _ e => e
theorem FS.up {s₀ : Heap} {N Hd : List Addr} {h h' : Heap} (F : FS s₀ N Hd h) (k : KpH N h h') (hx : ∀ a ∈ N, ∃ o, h'.get? a = some o) : FS s₀ N Hd h' :=
  ⟨fun a o e => k a o (fun m => by rw [F.nw a m] at e; cases e) (F.k0 a o e), F.nw, fun a ha => by
    by_cases m : a ∈ N
    · exact hx a m
    · obtain ⟨o, e⟩ := F.hs a ha; exact ⟨o, k a o m e⟩⟩
theorem FS.grow {s₀ : Heap} {N Hd : List Addr} {h h' : Heap} (F : FS s₀ N Hd h) (k : Kp h h') : FS s₀ N Hd h' := ⟨F.k0.trans k, F.nw, F.hs.up k⟩
theorem FS.same {s₀ : Heap} {N Hd : List Addr} {h h' : Heap} {a : Addr} (F : FS s₀ N Hd h) (hs : Heap.SameBut a h h') (ha : a ∈ N) (hx : ∃ o, h'.get? a = some o) : FS s₀ N Hd h' :=
  F.up (KpH.same hs ha) fun c hc => by
    by_cases e : c = a
    · subst e; exact hx
    · obtain ⟨o, q⟩ := F.hs c (List.mem_append.mpr (.inl hc)); exact ⟨o, (hs.2 c e).trans q⟩
theorem Rp.upN {N H : List Addr} {h h' : Heap} {v : Value} {d : PyData} (r : Rp (N ++ H) h v d) (k : KpH N h h') : Rp (N ++ H) h' v d := r.upH k.mono
theorem RpAll.upN {N H : List Addr} {h h' : Heap} {v : List Value} {d : List PyData} (r : RpAll (N ++ H) h v d) (k : KpH N h h') : RpAll (N ++ H) h' v d := r.upH k.mono
theorem ns_ex {h : Heap} {a : Addr} {m : Str → Option Value} (hn : h.Ns a m) : ∃ o, h.get? a = some o := let ⟨o, _, _, e, _⟩ := hn; ⟨o, e⟩
theorem cell_ex {h : Heap} {a : Addr} {m : Option Value} (hn : h.IsCell a m) : ∃ o, h.get? a = some o := let ⟨o, e, _⟩ := hn; ⟨o, e⟩

section
variable {prog : Program} {w : World} {A : Around} {s : Shared} {env : Env} {Q : Flow → Shared → Prop} {E : Value → Shared → Prop} {rest body orelse : List Stmt} {pos px : Pos} {P : Heap → Value → Prop}

theorem st_return {e : Expr} (he : Ev prog w A s.heap (eval e env) P) (q : ∀ v h' k, Kp s.heap h' → P h' v → Q (.ret v) { s with heap := h', toks := k }) : wpAny (model prog w) A (execs (.Return (some e) pos :: rest) env) Q E s := by
  refine wpAny_execs_cons ?_
  rw [exec_Return_some]
  exact wpAny_bind (wpAny_standAt (wpAny_bind (he.use (Kp.refl _) fun v h' k kp p => wpAny_pure (q v h' k kp p))))
theorem st_assign {e : Expr} {x : Str} {m : Str → Option Value} (hn : s.heap.Ns env.locals m) (he : Ev prog w A s.heap (eval e env) P)
    (next : ∀ v h1 h2 k, Kp s.heap h1 → P h1 v → h2.Ns env.locals (fun y => if y = x then some v else m y) → Heap.SameBut env.locals h1 h2 → wpAny (model prog w) A (execs rest env) Q E { s with heap := h2, toks := k })
    (hl : env.kindOf x = some .local := by rfl) (hk : env.scope.kind = .function := by rfl) (hsw : swapsWith e (some (.Name x px)) pos.line env = pure false := by rfl) : wpAny (model prog w) A (execs (.Assign [.Name x px] e pos :: rest) env) Q E s := by
  refine wpAny_execs_cons (wpAny_Assign_Name (he.use (Kp.refl _) fun v h1 k1 kp1 p1 => wpAny_storeName_local hl (hn.keeps kp1) (fun h2 hn2 hs2 => next v h1 h2 _ kp1 p1 hn2 hs2) (by rw [hk]; rfl)) hsw)
theorem st_assignC {e : Expr} {x : Str} {c : Addr} {v₀ : Option Value} (hc : s.heap.IsCell c v₀) (hcl : env.cells.lookup x = some c) (he : Ev prog w A s.heap (eval e env) P)
    (next : ∀ v h1 h2 k, Kp s.heap h1 → P h1 v → h2.IsCell c (some v) → Heap.SameBut c h1 h2 → wpAny (model prog w) A (execs rest env) Q E { s with heap := h2, toks := k })
    (hl : env.kindOf x = some .cell := by rfl) (hk : env.scope.kind = .function := by rfl) (hsw : swapsWith e (some (.Name x px)) pos.line env = pure false := by rfl) : wpAny (model prog w) A (execs (.Assign [.Name x px] e pos :: rest) env) Q E s := by
  refine wpAny_execs_cons (wpAny_Assign_Name (he.use (Kp.refl _) fun v h1 k1 kp1 p1 => wpAny_storeName_cell hk hl hcl (hc.keeps kp1) (fun h2 hn2 hs2 => next v h1 h2 _ kp1 p1 hn2 hs2)) hsw)
theorem st_if {test : Expr} {β : Bool} (ht : Tr prog w A s.heap (isTrue test env (eval test env)) β)
    (h1 : β = true → ∀ h' k, Kp s.heap h' → wpAny (model prog w) A (execs body env) (fun f s' => match f with | .next => wpAny (model prog w) A (execs rest env) Q E s' | f => Q f s') E { s with heap := h', toks := k })
    (h2 : β = false → ∀ h' k, Kp s.heap h' → wpAny (model prog w) A (execs orelse env) (fun f s' => match f with | .next => wpAny (model prog w) A (execs rest env) Q E s' | f => Q f s') E { s with heap := h', toks := k }) :
    wpAny (model prog w) A (execs (.If test body orelse pos :: rest) env) Q E s :=
  wpAny_execs_cons (wpAny_If (ht s _ _ (Kp.refl _) fun h' k kp => by
    cases β with
    | true => exact h1 rfl h' k kp
    | false => exact h2 rfl h' k kp))
theorem st_nil (q : Q .next s) : wpAny (model prog w) A (execs [] env) Q E s := wpAny_execs_nil q
/-- an expression statement whose value is no object -/
theorem st_expr {e : Expr} (h : wpAny (model prog w) A (eval e env) (fun v s' => v = .none ∧ wpAny (model prog w) A (execs rest env) Q E s') E s)
    (hi : interactive env = false := by rfl) (hs : swapsWith e none pos.line env = pure false := by rfl) : wpAny (model prog w) A (execs (.Expr e pos :: rest) env) Q E s :=
  wpAny_execs_cons (wpAny_Expr (wpAny_mono h (fun v s' ⟨e, q⟩ => by subst e; exact q) fun _ _ x => x) hi hs)

/-- a for loop over data, no break; Inv I i h: behind i turns, I the iterator -/
theorem st_for {target iter : Expr} {ds : List PyData} {N Hd : List Addr} (Inv : Addr → Nat → Heap → Prop) (hN : ∀ a ∈ N, ∃ o, s.heap.get? a = some o) (hit : Iter prog w A s.heap (N ++ Hd) (eval iter env) ds)
    (h0 : ∀ I h', Kp s.heap h' → s.heap.get? I = none → (∃ o, h'.get? I = some o) → Inv I 0 h')
    (hend : ∀ I i h h', s.heap.get? I = none → Inv I i h → KpH [I] h h' → (∃ o, h'.get? I = some o) → Inv I i h')
    (turn : ∀ (I : Addr) (i : Nat) (d : PyData) (v : Value) (h : Heap) (k : Nat) (Q' : Flow → Shared → Prop) (E' : Value → Shared → Prop), s.heap.get? I = none → ds[i]? = some d → Inv I i h → Rp (N ++ I :: Hd) h v d → (∃ o, h.get? I = some o) →
      (∀ h' k', KpH N h h' → Inv I (i + 1) h' → Q' .next { s with heap := h', toks := k' }) → wpAny (model prog w) A (assign target env v) (fun _ s₂ => wpAny (model prog w) A (execs body env) Q' E' s₂) E' { s with heap := h, toks := k })
    (done : ∀ I h h' k, s.heap.get? I = none → Inv I ds.length h → KpH [I] h h' → wpAny (model prog w) A (execs rest env) Q E { s with heap := h', toks := k })
    (hfs : ∀ x, foldedSetIterable iter env x = pure x := by intro _; rfl) (ht : ∀ I v, letOwnedTupleGo target (.ref I) v = pure () := by intro _ _; rfl) :
    wpAny (model prog w) A (execs (.For target iter body [] pos :: rest) env) Q E s := by
  refine wpAny_execs_cons (wpAny_For (hit s _ _ (Kp.refl _) fun I h2 k2 kp2 hI it => ?_) hfs)
  obtain ⟨fp, P, St, W, hst, hlt, live, hP⟩ := it
  have hIN : I ∉ N := fun m => by obtain ⟨o, e⟩ := hN I m; rw [hI] at e; cases e
  have hfN : ∀ a ∈ fp, a ∉ N := fun a ha => by
    rcases (hlt a ha).2 with rfl | q
    · exact hIN
    · exact fun m => q (List.mem_append.mpr (.inl m))
  refine codeAny_forLoop_any (fun n s' => ∃ h' k i, s' = { s with heap := h', toks := k } ∧ St i h' ∧ Inv I i h' ∧ i ≤ ds.length ∧ n = ds.length + 1 - i ∧ KpH (N ++ I :: Hd) h2 h') ?_ (ds.length + 1) ⟨h2, k2, 0, rfl, hst, h0 I h2 kp2 hI (live _ _ hst), Nat.zero_le _, rfl, fun _ _ _ e => e⟩
  rintro n s' ⟨h, k, i, rfl, hsti, hinv, hi, rfl, kk⟩
  by_cases hlt' : i < ds.length
  · refine W.item i _ _ _ hlt' hsti fun v h₁ k₁ hPv hst₁ hk₁ => ?_
    obtain ⟨d, hd, rv⟩ := hP i v hPv
    refine wpAny_of_eq (ht I v) ?_
    have kI : KpH [I] h h₁ := fun c o hc e => hk₁ c o hc e
    have kI' : KpH (N ++ I :: Hd) h h₁ := fun c o hc e => hk₁ c o (fun m => hc (List.mem_append.mpr (.inr (List.mem_singleton.mp m ▸ .head _)))) e
    have rv' : Rp (N ++ I :: Hd) h2 v d := rv.of fun a o e => by
      by_cases m : a ∈ I :: (N ++ Hd)
      · rw [hideAll_none _ m] at e; cases e
      · refine hideAll_get _ (of_hideAll _ e) fun q => m ?_
        rcases List.mem_append.mp q with q | q
        · exact .tail _ (List.mem_append.mpr (.inl q))
        · rcases List.mem_cons.mp q with q | q
          · exact q ▸ .head _
          · exact .tail _ (List.mem_append.mpr (.inr q))
    refine turn I i d v h₁ k₁ _ _ hI hd (hend I i h h₁ hI hinv kI (live _ _ hst₁)) (rv'.upH (kk.trans kI')) (live _ _ hst₁) fun h' k' kN hinv' => ?_
    exact ⟨ds.length + 1 - (i + 1), by omega, h', k', i + 1, rfl, W.frame _ _ _ hst₁ (fun c hc o e => kN c o (hfN c hc) e), hinv', hlt', rfl, kk.trans (kI'.trans kN.mono)⟩
  · have hin : i = ds.length := by omega
    subst hin
    refine W.done _ _ _ hsti fun h₁ k₁ hk₁ => ?_
    refine wpAny_execs_nil ?_
    exact done I h h₁ k₁ hI hinv (fun c o hc e => hk₁ c o hc e)
end

/-- a call of a def of the text, by its body -/
theorem call_body {prog : Program} {w : World} {A : Around} {s : Shared} {P : Heap → Value → Prop} {a : Addr} {o : Obj} {fd : FuncData} {body : List Stmt} {args : List Value} {binds : List (Str × Value)}
    (hroom : A.depth < recursionLimit) (ho : s.heap.get? a = some o) (hdata : o.data = .func fd) (hlim : s.heap.NoLimit) (hcd : s.heap.CodeRec fd.code fd.qualname)
    (hbody : fd.body = .stmts body) (hbind : bindArgs fd ⟨args, []⟩ = pure binds)
    (hcell : ∀ x ∈ fd.scope.names, x.2 ≠ .cell) (hloc : ∀ x ∈ binds, fd.scope.names.lookup x.1 = some .local)
    (h : ∀ h₁ k, h₁.Ns s.heap.objs.size (fun x => binds.reverse.lookup x) → Kp s.heap h₁ → ∀ (Q : Flow → Shared → Prop) (E : Value → Shared → Prop), (∀ v h' k', Kp s.heap h' → P h' v → Q (.ret v) { s with heap := h', toks := k' }) →
      wpAny (model prog w) (A.deeper (callEnv fd s.heap.objs.size a)) (execs body (callEnv fd s.heap.objs.size a)) Q E { s with heap := h₁, toks := k })
    (hco : fd.scope.isCoroutine = false := by rfl) (hgen : fd.scope.isGenerator = false := by rfl) (hk : fd.scope.kind = .function := by rfl) :
    Gives prog w A s (call (.ref a) args []) P := Gives.of fun Q E q => wpAny_call (codeAny_call_def hroom ho hdata hlim hcd hbody (BindsTo.of_eq hbind) hcell hloc (fun h₁ hn kp => h h₁ _ hn kp _ _ fun v h' k' kp' p => q v h' k' kp' p) hco hgen hk)
/-- the same, the arguments bound by a tree -/
theorem call_bodyB {prog : Program} {w : World} {A : Around} {s : Shared} {P : Heap → Value → Prop} {a : Addr} {o : Obj} {fd : FuncData} {body : List Stmt} {args : List Value} {BP : Heap → List (Str × Value) → Prop}
    (hroom : A.depth < recursionLimit) (ho : s.heap.get? a = some o) (hdata : o.data = .func fd) (hlim : s.heap.NoLimit) (hcd : s.heap.CodeRec fd.code fd.qualname) (hbody : fd.body = .stmts body)
    (hbind : ∀ (Q : List (Str × Value) → Shared → Prop) (E : Value → Shared → Prop), (∀ binds h' k, Kp s.heap h' → BP h' binds → Q binds { s with heap := h', toks := k }) → wpAny (model prog w) A.in1 (bindArgs fd ⟨args, []⟩) Q E s)
    (hcell : ∀ x ∈ fd.scope.names, x.2 ≠ .cell) (hloc : ∀ h' binds, BP h' binds → ∀ x ∈ binds, fd.scope.names.lookup x.1 = some .local)
    (h : ∀ h₁ k L binds h', Kp s.heap h' → BP h' binds → h₁.Ns L (fun x => binds.reverse.lookup x) → Kp h' h₁ → h'.get? L = none → ∀ (Q : Flow → Shared → Prop) (E : Value → Shared → Prop), (∀ v h' k', Kp s.heap h' → P h' v → Q (.ret v) { s with heap := h', toks := k' }) →
      wpAny (model prog w) (A.deeper (callEnv fd L a)) (execs body (callEnv fd L a)) Q E { s with heap := h₁, toks := k })
    (hco : fd.scope.isCoroutine = false := by rfl) (hgen : fd.scope.isGenerator = false := by rfl) (hk : fd.scope.kind = .function := by rfl) (hclo : fd.closure = [] := by rfl) :
    Gives prog w A s (call (.ref a) args []) P := Gives.of fun Q E q => wpAny_call (by
  refine codeAny_call_function hroom ho hdata hco hgen hbody hcd (hbind _ _ fun binds h' k kp bp => ?_)
  refine wpAny_newFunctionEnv hcell (hloc h' binds bp) (fun h₀ hns₀ hsb₀ => ⟨(hlim.keeps kp).fresh _ hsb₀, codeAny_func ?_⟩) hk
  have kk : Kp h' h₀ := fun c o e => hsb₀.extBut c o (Nat.ne_of_lt (Heap.lt_size e)) (Heap.get?_push_of_some _ e)
  exact h h₀ _ _ binds h' kp bp hns₀ kk (fresh_of (Kp.refl _) (Nat.le_refl _)) _ _ fun v h'' k' kp' p => q v h'' k' kp' p)
end Mine
end
section
set_option maxRecDepth 100000
namespace Mine
open PySem PySem.W PySem.W.X PySem.Calls PyProof.Rows

/-- the written heap, without the two tables that a call may fill -/
noncomputable def KK (P : Params) : Frag := (KL P).filter fun p => !(Nat.beq p.1 23 || Nat.beq p.1 211)
/-- what the top left, in the heap at the call -/
structure Gd (w : World) (mg mb : Str → Option Value) (h : Heap) : Prop where
  X : (KK w.params).In h
  g : h.Ns mainGlobals mg
  b : h.Ns builtinsNs mb
  nl : h.NoLimit
  bt : ∀ x : Str, x ≠ "__name__" → mb x = bootBuiltins x
theorem Gd.up {w : World} {mg mb : Str → Option Value} {h h' : Heap} (G : Gd w mg mb h) (k : Kp h h') : Gd w mg mb h' := ⟨G.X.keeps k, G.g.keeps k, G.b.keeps k, G.nl.keeps k, G.bt⟩

/-- room for n more frames -/
structure Rm (n : Nat) (A : Around) : Prop where
  hh : A.handled = none
  dp : A.depth + n < 600
  un : A.units + 8 * n < 8000
theorem Rm.deeper {n : Nat} {A : Around} {env : Env} (r : Rm (n + 1) A) : Rm n (A.deeper env) := ⟨r.hh, by have := r.dp; show A.depth + 1 + n < 600; omega, by have := r.un; show A.units + 3 + 8 * n < 8000; omega⟩
theorem Rm.le {n m : Nat} {A : Around} (r : Rm n A) (h : m ≤ n) : Rm m A := ⟨r.hh, by have := r.dp; omega, by have := r.un; omega⟩
theorem Rm.room {n : Nat} {A : Around} (r : Rm n A) : A.depth < recursionLimit := by have := r.dp; show A.depth < 1000; omega
abbrev AX : Around := { handled := none, depth := 600, frames := none, guards := none, units := 8000 }
theorem wp_AX {α : Type} {M : Model} {A : Around} {t : Sem α} {Q : α → Shared → Prop} {E : Value → Shared → Prop} {s : Shared} {n : Nat} (R : Rm n A) (h : wpAny M AX t Q E s) : wpAny M A t Q E s := fun Γ p hΓ =>
  h Γ p ⟨hΓ.1.trans R.hh, Nat.le_trans hΓ.2.1 (by have := R.dp; show A.depth ≤ 600; omega), nofun, nofun, Nat.le_trans hΓ.2.2.2.2 (by have := R.un; show A.units ≤ 8000; omega)⟩
/-- the same within a def -/
abbrev AX1 : Around := { handled := none, depth := 601, frames := none, guards := none, units := 8003 }
theorem wp_AX1 {α : Type} {M : Model} {A : Around} {env : Env} {t : Sem α} {Q : α → Shared → Prop} {E : Value → Shared → Prop} {s : Shared} {n : Nat} (R : Rm n A) (h : wpAny M AX1 t Q E s) : wpAny M (A.deeper env) t Q E s := fun Γ p hΓ =>
  h Γ p ⟨hΓ.1.trans R.hh, Nat.le_trans hΓ.2.1 (by have := R.dp; show A.depth + 1 ≤ 601; omega), nofun, nofun, Nat.le_trans hΓ.2.2.2.2 (by have := R.un; show A.units + 3 ≤ 8003; omega)⟩
theorem mem_kp {h h' : Heap} {news : List (Addr × Obj)} (D : Mem h h' [] news) : Kp h h' := fun b o e => D.keep b o e (by show (hasCls o || true) = true; exact Bool.or_true _)

theorem glob {w : World} {mg mb : Str → Option Value} {h : Heap} (G : Gd w mg mb h) {env : Env} {x : Str} {v : Value} (e : nsIn (KK w.params) mainGlobals x = some (some v)) (hg : env.globals = mainGlobals := by rfl) (hk : env.scope.kind = .function := by rfl) (hl : env.kindOf x = some .globalImplicit := by rfl) : Loads env x v h :=
  loads_global (mg := mg) (hg ▸ G.g) (mg_of G.X G.g e) hk hl
theorem bltn {w : World} {mg mb : Str → Option Value} {h : Heap} (G : Gd w mg mb h) {env : Env} {x : Str} {v : Value} (e : nsIn (KK w.params) mainGlobals x = some none) (hv : bootBuiltins x = some v) (hn : x ≠ "__name__" := by decide) (hg : env.globals = mainGlobals := by rfl) (hb : env.builtins = builtinsNs := by rfl) (hk : env.scope.kind = .function := by rfl) (hl : env.kindOf x = some .globalImplicit := by rfl) : Loads env x v h :=
  loads_builtin (mg := mg) (mb := mb) (hg ▸ G.g) (mg_none_of G.X G.g e) (hb ▸ G.b) ((G.bt x hn).trans hv) hk hl

section
variable {prog : Program} {w : World} {mg mb : Str → Option Value} {A : Around} {s : Shared} {Hd : List Addr}
set_option maxHeartbeats 4000000

local macro_rules | `(tactic| x_close) => `(tactic| (apply_assumption; first | assumption | exact mem_kp (by assumption) | exact Kp.refl _))
theorem type_x {h : Heap} {g : Array GenState} {d : Drawn} {t : Nat} {os : OsState} {x : Str} {tk : Tok} {Q : Value → Shared → Prop} {E : Value → Shared → Prop}
    (q : ∀ h' k, Kp h h' → Q (.type "str") ⟨h', g, d, k, os⟩) : wpAny (model prog w) AX1 (call (.type "type") [.str x tk]) Q E ⟨h, g, d, t, os⟩ := by
  x_run
theorem sub_x {h : Heap} {g : Array GenState} {d : Drawn} {t : Nat} {os : OsState} {a : Addr} {Q : Value → Shared → Prop} {E : Value → Shared → Prop} (ha : h.get? a = some { cls := .type "tuple", data := .seq #[.type "str", .type "bytes"] })
    (q : ∀ h' k, Kp h h' → Q (.bool true) ⟨h', g, d, k, os⟩) : wpAny (model prog w) AX1 (call (.builtin "issubclass") [.type "str", .ref a]) Q E ⟨h, g, d, t, os⟩ := by
  x_run
/-- a tuple of any values -/
abbrev TupV (Ps : List (Heap → Value → Prop)) : Heap → Value → Prop := fun h v => ∃ (a : Addr) (vs : List Value) (h0 : Heap), v = .ref a ∧ h.get? a = some { cls := .type "tuple", data := .seq vs.toArray } ∧ Alls Ps h0 vs
theorem up_tupV (Ps : List (Heap → Value → Prop)) : Up (TupV Ps) := fun h h' v k ⟨a, vs, h0, e, e1, e2⟩ => ⟨a, vs, h0, e, k a _ e1, e2⟩
theorem ev_tupV {b : Heap} {env : Env} {elts : List Expr} {pos : Pos} {n : Nat} {Ps : List (Heap → Value → Prop)} (h : Evs prog w A b (spliced (backTo pos (starEach elts env))) Ps) (hz : Ps.length ≤ sizeLine) : Ev prog w A b (eval (.Tuple elts n pos) env) (TupV Ps) := fun s kb =>
  Gives.of fun Q E q => Tuple_ (h s _ _ kb fun vs h1 k1 kp1 a1 => by
    have hl : ∀ {Ps : List (Heap → Value → Prop)} {vs : List Value}, Alls Ps h1 vs → vs.length = Ps.length := fun {Ps} => by
      induction Ps with
      | nil => intro vs e; rw [show vs = [] from e]; rfl
      | cons P Ps ih => rintro vs ⟨v, r, rfl, _, e⟩; simp [ih e]
    refine wpAny_newObj_type (q _ _ k1 (kp1.trans (Kp.push _ _)) ⟨_, vs, h1, rfl, Heap.get?_push_size _ rfl, a1⟩) ?_
    show vs.toArray.size ≤ sizeLine
    rw [List.size_toArray, hl a1]; exact hz)
theorem fspath_spec (G : Gd w mg mb s.heap) {n : Nat} (R : Rm n A) {v : Value} {x : Str} (r : Rp Hd s.heap v (.str x)) : Gives prog w A s (call (.ref 110) [v] []) (Da Hd (.str x)) := by
  obtain ⟨t, rfl⟩ := r.str_inv
  refine call_body R.room (G.X 110 _ rfl) rfl G.nl (codeRec_of G.X (by rfl)) rfl rfl (by decide) (locs rfl) ?_
  intro h₁ k hn kp Q E q
  have G1 := G.up kp
  refine st_assign (P := Va (.type "str")) hn (ev_callT (Ps := [Va (.str x t)]) (bltn G1 (by rfl) rfl) (evs_cons (up_va _) (ev_nameV (loads_local hn rfl)) evs_nil) fun s vs kb av => ?_) ?_
  · obtain ⟨v, vs, rfl, e1, e2⟩ := av
    obtain rfl : vs = [] := e2
    obtain rfl : v = _ := e1
    exact Gives.of fun Q E q => wp_AX1 R (type_x fun h' k kp => q _ h' k kp rfl)
  intro v h1 h2 k2 kp1 e hn2 hs2
  obtain rfl : v = .type "str" := e
  have kp2 : Kp s.heap h2 := fun b o e => (hs2.2 b (Nat.ne_of_lt (Heap.lt_size e))).trans (kp1 _ _ (kp _ _ e))
  have G2 := G.up kp2
  refine st_if (β := true) ?_ (fun _ h3 k3 kp3 => ?_) (fun h => nomatch h)
  · refine tr_plain (P := Va (.bool true)) (ev_callB (Ps := [Va (.type "str"), TupV [Va (.type "str"), Va (.type "bytes")]]) (bltn G2 (by rfl) rfl) (evs_cons (up_va _) (ev_nameV (loads_local hn2 rfl)) (evs_cons (up_tupV _) (ev_tupV (evs_cons (up_va _) (ev_nameV (bltn G2 (by rfl) rfl)) (evs_cons (up_va _) (ev_nameV (bltn G2 (by rfl) rfl)) evs_nil)) (by show (2 : Nat) ≤ sizeLine; decide)) evs_nil)) fun s vs kb av => ?_) fun s v kb p Q E q => ?_
    · obtain ⟨v1, vs, rfl, e1, v2, vs, rfl, ⟨a, us, h0, rfl, ha, u1, us', e5, e6, u2, us'', e7, e8, e9⟩, e3⟩ := av
      obtain rfl : vs = [] := e3
      obtain rfl : v1 = _ := e1
      obtain rfl : us'' = [] := e9
      obtain rfl : u1 = _ := e6
      obtain rfl : u2 = _ := e8
      subst e7
      subst e5
      exact Gives.of fun Q E q => wp_AX1 R (sub_x ha fun h' k kp => q _ h' k kp rfl)
    · obtain rfl : v = _ := p
      exact truthy_bool' (q _ _ (Kp.refl _))
  · refine st_return (P := Va (.str x t)) (ev_nameV (loads_local (hn2.keeps kp3) rfl)) ?_
    intro v h' k' kp' p
    obtain rfl : v = .str x t := p
    exact q _ h' k' (kp2.trans (kp3.trans kp')) (.str _ _)
theorem sep_spec (G : Gd w mg mb s.heap) {n : Nat} (R : Rm n A) {v : Value} {x : Str} (r : Rp Hd s.heap v (.str x)) : Gives prog w A s (call (.ref 124) [v] []) (Da Hd (.str (Str.mk #[47]))) := by
  obtain ⟨t, rfl⟩ := r.str_inv
  refine call_body R.room (G.X 124 _ rfl) rfl G.nl (codeRec_of G.X (by rfl)) rfl rfl (by decide) (locs rfl) ?_
  intro h₁ k hn kp Q E q
  have G1 := G.up kp
  refine st_if (β := false) ?_ (fun h => nomatch h) (fun _ h2 k2 kp2 => ?_)
  · refine tr_plain (P := Va (.bool false)) (ev_callB (Ps := [Va (.str x t), Va (.type "bytes")]) (bltn G1 (by rfl) rfl) (evs_cons (up_va _) (ev_nameV (loads_local hn rfl)) (evs_cons (up_va _) (ev_nameV (bltn G1 (by rfl) rfl)) evs_nil)) fun s vs kb av => ?_) fun s v kb p Q E q => ?_
    · obtain ⟨v1, vs, rfl, e1, v2, vs, rfl, e2, e3⟩ := av
      obtain rfl : vs = [] := e3
      obtain rfl : v1 = _ := e1
      obtain rfl : v2 = _ := e2
      exact Gives.of fun Q E q => IsiPair.str_bytes (q _ s.heap _ (Kp.refl _) rfl)
    · obtain rfl : v = _ := p
      exact truthy_bool' (q _ _ (Kp.refl _))
  · refine st_return (P := Da Hd (.str (Str.mk #[47]))) (ev_str (x := Str.ofString "/")) ?_
    intro v h' k' kp' p
    exact q v h' k' (kp.trans (kp2.trans kp')) p

theorem simode_spec (G : Gd w mg mb s.heap) {n : Nat} (R : Rm n A) {v : Value} {i : Int} (r : Rp Hd s.heap v (.int i)) : Gives prog w A s (call (.ref 145) [v] []) (Da Hd (.int (Builtin.bitAnd i 4095))) := by
  refine call_body R.room (G.X 145 _ rfl) rfl G.nl (codeRec_of G.X (by rfl)) rfl rfl (by decide) (locs rfl) ?_
  intro h₁ k hn kp Q E q
  refine st_return (ev_bin (up_da _ _) (ev_nameD (loads_local hn rfl) (r.up kp)) ev_int fun s x y _ a c => g_band a c) ?_
  intro v h' k' kp' p
  exact q v h' k' (kp.trans kp') p
theorem sifmt_spec (G : Gd w mg mb s.heap) {n : Nat} (R : Rm n A) {v : Value} {i : Int} (r : Rp Hd s.heap v (.int i)) : Gives prog w A s (call (.ref 152) [v] []) (Da Hd (.int (Builtin.bitAnd i 61440))) := by
  refine call_body R.room (G.X 152 _ rfl) rfl G.nl (codeRec_of G.X (by rfl)) rfl rfl (by decide) (locs rfl) ?_
  intro h₁ k hn kp Q E q
  refine st_return (ev_bin (up_da _ _) (ev_nameD (loads_local hn rfl) (r.up kp)) ev_int fun s x y _ a c => g_band a c) ?_
  intro v h' k' kp' p
  exact q v h' k' (kp.trans kp') p
end
end Mine
end
section
set_option maxRecDepth 100000
namespace Mine
open PySem PySem.W PySem.W.X PySem.Calls PyProof.Rows

theorem Rp.sub {H H' : List Addr} {h : Heap} {v : Value} {d : PyData} (r : Rp H h v d) (hs : ∀ a ∈ H', a ∈ H) : Rp H' h v d := r.of fun a o e => by
  by_cases m : a ∈ H
  · rw [hideAll_none _ m] at e; cases e
  · exact hideAll_get _ (of_hideAll _ e) fun q => m (hs a q)
theorem RpAll.sub {H H' : List Addr} {h : Heap} {v : List Value} {d : List PyData} (r : RpAll H h v d) (hs : ∀ a ∈ H', a ∈ H) : RpAll H' h v d := r.of fun a o e => by
  by_cases m : a ∈ H
  · rw [hideAll_none _ m] at e; cases e
  · exact hideAll_get _ (of_hideAll _ e) fun q => m (hs a q)
/-- hide what is new -/
theorem Rp.hide {H H' : List Addr} {h h' : Heap} {v : Value} {d : PyData} (r : Rp H h v d) (k : Kp h h') (hn : ∀ a ∈ H', a ∈ H ∨ h.get? a = Option.none) : Rp H' h' v d := r.of fun a o e => by
  have e' := of_hideAll _ e
  refine hideAll_get _ (k _ _ e') fun q => ?_
  rcases hn a q with q | q
  · rw [hideAll_none _ q] at e; cases e
  · rw [q] at e'; cases e'
theorem RpAll.hide {H H' : List Addr} {h h' : Heap} {v : List Value} {d : List PyData} (r : RpAll H h v d) (k : Kp h h') (hn : ∀ a ∈ H', a ∈ H ∨ h.get? a = Option.none) : RpAll H' h' v d := r.of fun a o e => by
  have e' := of_hideAll _ e
  refine hideAll_get _ (k _ _ e') fun q => ?_
  rcases hn a q with q | q
  · rw [hideAll_none _ q] at e; cases e
  · rw [q] at e'; cases e'


theorem kh_up {H : List Addr} {h h' : Heap} (k : Kp h h') : Kp (hideAll h H) (hideAll h' H) := (Kp.toH k).hid
theorem kh_sub {H H' : List Addr} {h : Heap} (hs : ∀ a ∈ H', a ∈ H) : Kp (hideAll h H) (hideAll h H') := fun a o e => by
  by_cases m : a ∈ H
  · rw [hideAll_none _ m] at e; cases e
  · exact hideAll_get _ (of_hideAll _ e) fun q => m (hs a q)
theorem kh_hide {H H' : List Addr} {h h' : Heap} (k : Kp h h') (hn : ∀ a ∈ H', a ∈ H ∨ h.get? a = Option.none) : Kp (hideAll h H) (hideAll h' H') := fun a o e => by
  have e' := of_hideAll _ e
  refine hideAll_get _ (k _ _ e') fun q => ?_
  rcases hn a q with q | q
  · rw [hideAll_none _ q] at e; cases e
  · rw [q] at e'; cases e'
/-- what a variable holds: a datum, a value itself, or a list without a dict -/
inductive Vw where
  | d (x : PyData)
  | v (x : Value)
  | p (xs : List PyData)
/-- a list without a dict, outside the hidden -/
def Pl (H : List Addr) (h : Heap) (u : Value) (xs : List PyData) : Prop := Rp H h u (.list xs) ∧ ∃ a its, u = .ref a ∧ (hideAll h H).PlainList a its
def Rv (H : List Addr) (h : Heap) (u : Value) : Vw → Prop
  | .d x => Rp H h u x
  | .v x => u = x
  | .p xs => Pl H h u xs
theorem Pl.of {H H' : List Addr} {h h' : Heap} {u : Value} {xs : List PyData} (r : Pl H h u xs) (k : Kp (hideAll h H) (hideAll h' H')) : Pl H' h' u xs :=
  ⟨r.1.of k, let ⟨a, its, e, q⟩ := r.2; ⟨a, its, e, q.at fun o e => k _ _ e⟩⟩
theorem Rv.of {H H' : List Addr} {h h' : Heap} {u : Value} {x : Vw} (r : Rv H h u x) (k : Kp (hideAll h H) (hideAll h' H')) : Rv H' h' u x := by
  cases x with
  | d y => exact Rp.of r k
  | v y => exact r
  | p y => exact Pl.of r k
theorem up_pl (H : List Addr) (xs : List PyData) : Up (fun h u => Pl H h u xs) := fun h h' v k r => r.of (kh_up k)
theorem Pl.mk {H : List Addr} {h : Heap} {u : Value} {xs : List PyData} (r : Rp H h u (.list xs)) (p : PlainV h u) : Pl H h u xs := by
  obtain ⟨a, its, rfl, n, e⟩ := p
  obtain ⟨a', vs, e', hn, _⟩ := r.list_inv
  cases e'
  exact ⟨r, a, its, rfl, n, hideAll_get _ e hn⟩
theorem Pl.inv {H : List Addr} {h : Heap} {u : Value} {xs : List PyData} (r : Pl H h u xs) : ∃ a vs, u = .ref a ∧ a ∉ H ∧ h.PlainList a vs.toArray ∧ RpAll H h vs xs := by
  obtain ⟨r1, a, its, rfl, n, e⟩ := r
  obtain ⟨a', vs, e', hn, hl, ra⟩ := r1.list_inv
  cases e'
  refine ⟨a, vs, rfl, hn, ⟨n, ?_⟩, ra⟩
  have e2 := of_hideAll _ e
  obtain ⟨o, e3, _, n', hd⟩ := hl
  rw [e2] at e3; cases e3
  cases hd
  exact e2
abbrev upd (σ : Str → Option Vw) (x : Str) (d : Vw) : Str → Option Vw := fun y => if y = x then some d else σ y
/-- sequences are kept -/
abbrev Kq (h h' : Heap) : Prop := ∀ a o, h.get? a = some o → (∃ xs n, o.data = .seq xs n) → h'.get? a = some o
theorem Kp.q {h h' : Heap} (k : Kp h h') : Kq h h' := fun a o e _ => k a o e
theorem Kq.trans {h h' h'' : Heap} (k : Kq h h') (l : Kq h' h'') : Kq h h'' := fun a o e q => l a o (k a o e q) q
/-- an open list -/
def Ol (H : List Addr) (D : Addr) (ds : List PyData) (h : Heap) : Prop := ∃ ys, h.PlainList D ys ∧ RpAll H h ys.toList ds
theorem Ol.up {H K : List Addr} {D : Addr} {ds : List PyData} {h h' : Heap} (o : Ol H D ds h) (k : KpH K h h') (hK : ∀ a ∈ K, a ∈ H) (q : Kq h h') : Ol H D ds h' := by
  obtain ⟨ys, ⟨n, e⟩, r⟩ := o
  exact ⟨ys, ⟨n, q _ _ e ⟨_, _, rfl⟩⟩, r.upH fun b o' nb e' => k b o' (fun m => nb (hK b m)) e'⟩
theorem Ol.hide {H H' : List Addr} {D : Addr} {ds : List PyData} {h h' : Heap} (o : Ol H D ds h) (k : Kp h h') (hn : ∀ a ∈ H', a ∈ H ∨ h.get? a = none) : Ol H' D ds h' := by
  obtain ⟨ys, ⟨n, e⟩, r⟩ := o
  exact ⟨ys, ⟨n, k _ _ e⟩, r.hide k hn⟩
theorem Ol.get {H : List Addr} {D : Addr} {ds : List PyData} {h : Heap} (o : Ol H D ds h) : ∃ x, h.get? D = some x := by
  obtain ⟨ys, ⟨n, e⟩, r⟩ := o; exact ⟨_, e⟩
/-- read it: with itself no more hidden -/
theorem Ol.rp {H H' : List Addr} {D : Addr} {ds : List PyData} {h : Heap} (o : Ol H D ds h) (hs : ∀ a ∈ H', a ∈ H) (hD : D ∉ H') : Rp H' h (.ref D) (.list ds) := by
  obtain ⟨ys, hp, r⟩ := o
  exact Rp.list_mk (vs := ys.toList) hD (by rw [Array.toArray_toList]; exact hp.isList) (r.sub hs)

/-- the frame's variables, as data -/
structure Fv (env : Env) (H : List Addr) (h : Heap) (σ : Str → Option Vw) : Prop where
  ns : ∃ m, h.Ns env.locals m ∧ ∀ x d, σ x = some d → env.kindOf x = some .local → ∃ v, m x = some v ∧ Rv H h v d
  cells : ∀ x c, env.cells.lookup x = some c → ∃ cv, h.IsCell c cv ∧ ∀ d, σ x = some d → ∃ v, cv = some v ∧ Rv H h v d
  sep : ∀ x c, env.cells.lookup x = some c → c ≠ env.locals
  inj : ∀ x y c, env.cells.lookup x = some c → env.cells.lookup y = some c → x = y
/-- a name of the frame's own, its store in N -/
inductive Own (env : Env) (N : List Addr) (x : Str) : Prop
  | loc (hl : env.kindOf x = some .local) (hc : env.cells.lookup x = none) (hL : env.locals ∈ N)
  | cell (c : Addr) (hl : env.kindOf x = some .cell) (hc : env.cells.lookup x = some c) (hm : c ∈ N)
section
variable {env : Env} {H H' N Hd : List Addr} {h h' : Heap} {σ : Str → Option Vw}
theorem Fv.map (V : Fv env H h σ) (k : Kp (hideAll h H) (hideAll h' H')) (kl : ∀ o, h.get? env.locals = some o → h'.get? env.locals = some o) (kc : ∀ x c, env.cells.lookup x = some c → ∀ o, h.get? c = some o → h'.get? c = some o) : Fv env H' h' σ := by
  obtain ⟨⟨m, hn, hm⟩, hc, hs, hi⟩ := V
  refine ⟨⟨m, hn.at' kl, fun x d e l => let ⟨v, a, b⟩ := hm x d e l; ⟨v, a, b.of k⟩⟩, fun x c e => ?_, hs, hi⟩
  obtain ⟨cv, ⟨o, h1, h2⟩, h3⟩ := hc x c e
  exact ⟨cv, ⟨o, kc x c e o h1, h2⟩, fun d e => let ⟨v, a, b⟩ := h3 d e; ⟨v, a, b.of k⟩⟩
theorem Fv.up (V : Fv env H h σ) (k : Kp h h') : Fv env H h' σ := V.map (kh_up k) (fun o e => k _ _ e) (fun _ _ _ o e => k _ _ e)
theorem Fv.sub (V : Fv env H h σ) (hs : ∀ a ∈ H', a ∈ H) : Fv env H' h σ := V.map (kh_sub hs) (fun _ e => e) (fun _ _ _ _ e => e)
theorem Fv.hide (V : Fv env H h σ) (k : Kp h h') (hn : ∀ a ∈ H', a ∈ H ∨ h.get? a = none) : Fv env H' h' σ := V.map (kh_hide k hn) (fun o e => k _ _ e) (fun _ _ _ o e => k _ _ e)
/-- anything hidden but the frame's own may have changed -/
theorem Fv.upN {K : List Addr} (V : Fv env H h σ) (k : KpH K h h') (hK : ∀ a ∈ K, a ∈ H) (hl : env.locals ∉ K) (hc : ∀ x c, env.cells.lookup x = some c → c ∉ K) : Fv env H h' σ :=
  V.map (KpH.hid fun b o n e => k b o (fun m => n (hK b m)) e) (fun o e => k _ _ hl e) (fun x c e o q => k _ _ (hc x c e) q)
theorem Fv.less {σ' : Str → Option Vw} (V : Fv env H h σ) (hs : ∀ x d, σ' x = some d → σ x = some d) : Fv env H h σ' := by
  obtain ⟨⟨m, hn, hm⟩, hc, hsp, hi⟩ := V
  exact ⟨⟨m, hn, fun x d e l => hm x d (hs x d e) l⟩, fun x c e => let ⟨cv, a, b⟩ := hc x c e; ⟨cv, a, fun d q => b d (hs x d q)⟩, hsp, hi⟩
theorem Fv.cell {x : Str} {c : Addr} {d : Vw} (V : Fv env H h σ) (hx : σ x = some d) (hc : env.cells.lookup x = some c) : ∃ v, h.IsCell c (some v) ∧ Rv H h v d := by
  obtain ⟨cv, a, b⟩ := V.cells x c hc
  obtain ⟨v, rfl, r⟩ := b d hx
  exact ⟨v, a, r⟩
theorem Fv.loc {x : Str} {d : Vw} (V : Fv env H h σ) (hx : σ x = some d) (hl : env.kindOf x = some .local) : ∃ m v, h.Ns env.locals m ∧ m x = some v ∧ Rv H h v d := by
  obtain ⟨m, hn, hm⟩ := V.ns
  obtain ⟨v, a, r⟩ := hm x d hx hl
  exact ⟨m, v, hn, a, r⟩
theorem Fv.live {x : Str} (V : Fv env H h σ) : (∃ o, h.get? env.locals = some o) ∧ ∀ x c, env.cells.lookup x = some c → ∃ o, h.get? c = some o :=
  ⟨let ⟨m, hn, _⟩ := V.ns; ns_ex hn, fun x c e => let ⟨cv, a, _⟩ := V.cells x c e; cell_ex a⟩
/-- no open list is a frame's store -/
theorem ns_noSeq {a : Addr} {m : Str → Option Value} (hn : h.Ns a m) {o : Obj} (ho : h.get? a = some o) {xs : Array Value} {n : Nat} (hd : o.data = .seq xs n) : False := by
  obtain ⟨o', _, _, e, e2, _⟩ := hn
  rw [ho] at e; cases e
  rw [hd] at e2; cases e2
theorem cell_noSeq {a : Addr} {m : Option Value} (hn : h.IsCell a m) {o : Obj} (ho : h.get? a = some o) {xs : Array Value} {n : Nat} (hd : o.data = .seq xs n) : False := by
  obtain ⟨o', e, e2⟩ := hn
  rw [ho] at e; cases e
  rw [hd] at e2; cases e2
/-- a plain frame at its entry -/
theorem fv_enter {binds : List (Str × Value)} {L : Addr} (hn : h.Ns L (fun x => binds.reverse.lookup x)) (hL : env.locals = L) (hc : env.cells = []) (hb : ∀ x d, σ x = some d → ∃ v, binds.reverse.lookup x = some v ∧ Rv H h v d) : Fv env H h σ := by
  subst hL
  refine ⟨⟨_, hn, fun x d e _ => hb x d e⟩, ?_, ?_, ?_⟩ <;> (intros; simp_all)
end

section
variable {prog : Program} {w : World} {A : Around} {s : Shared} {env : Env} {Q : Flow → Shared → Prop} {E : Value → Shared → Prop} {rest body orelse : List Stmt} {pos px : Pos} {s₀ b : Heap} {N Hd H : List Addr} {σ : Str → Option Vw}
theorem ev_varL {x : Str} {d : PyData} (V : Fv env H b σ) (hx : σ x = some (.d d)) (hl : env.kindOf x = some .local := by rfl) (hk : env.scope.kind = .function := by rfl) (hd : (x == ("__debug__" : Str)) = false := by decide) : Ev prog w A b (eval (.Name x pos) env) (Da H d) := by
  obtain ⟨m, v, hn, hv, r⟩ := V.loc hx hl
  exact ev_nameD (loads_local hn hv hk hl) r hd
theorem ev_varC {x : Str} {d : PyData} {c : Addr} (V : Fv env H b σ) (hx : σ x = some (.d d)) (hc : env.cells.lookup x = some c := by rfl) (hl : env.kindOf x = some .cell := by rfl) (hk : env.scope.kind = .function := by rfl) (hd : (x == ("__debug__" : Str)) = false := by decide) : Ev prog w A b (eval (.Name x pos) env) (Da H d) := by
  obtain ⟨v, hv, r⟩ := V.cell hx hc
  exact ev_nameD (loads_cell hc hv hk hl) r hd
theorem ld_L {x : Str} {u : Value} (V : Fv env H b σ) (hx : σ x = some (.v u)) (hl : env.kindOf x = some .local := by rfl) (hk : env.scope.kind = .function := by rfl) : Loads env x u b := by
  obtain ⟨m, v, hn, hv, r⟩ := V.loc hx hl
  cases (show v = u from r)
  exact loads_local hn hv hk hl
theorem ld_C {x : Str} {u : Value} {c : Addr} (V : Fv env H b σ) (hx : σ x = some (.v u)) (hc : env.cells.lookup x = some c := by rfl) (hl : env.kindOf x = some .cell := by rfl) (hk : env.scope.kind = .function := by rfl) : Loads env x u b := by
  obtain ⟨v, hv, r⟩ := V.cell hx hc
  cases (show v = u from r)
  exact loads_cell hc hv hk hl
theorem ev_varP {x : Str} {d : List PyData} (V : Fv env H b σ) (hx : σ x = some (.p d)) (hl : env.kindOf x = some .local := by rfl) (hk : env.scope.kind = .function := by rfl) (hd : (x == ("__debug__" : Str)) = false := by decide) : Ev prog w A b (eval (.Name x pos) env) (fun h u => Pl H h u d) := by
  obtain ⟨m, v, hn, hv, r⟩ := V.loc hx hl
  exact ev_name (loads_local hn hv hk hl) (up_pl _ _) r hd
theorem ev_varPC {x : Str} {d : List PyData} {c : Addr} (V : Fv env H b σ) (hx : σ x = some (.p d)) (hc : env.cells.lookup x = some c := by rfl) (hl : env.kindOf x = some .cell := by rfl) (hk : env.scope.kind = .function := by rfl) (hd : (x == ("__debug__" : Str)) = false := by decide) : Ev prog w A b (eval (.Name x pos) env) (fun h u => Pl H h u d) := by
  obtain ⟨v, hv, r⟩ := V.cell hx hc
  exact ev_name (loads_cell hc hv hk hl) (up_pl _ _) r hd
/-- a store into an own name -/
theorem put {x : Str} {d : Vw} {v : Value} {Q' : Unit → Shared → Prop} {E' : Value → Shared → Prop} (V : Fv env H s.heap σ) (o : Own env N x) (hN : ∀ a ∈ N, a ∈ H) (r : Rv H s.heap v d)
    (next : ∀ h2 k, KpH N s.heap h2 → Kq s.heap h2 → (∀ a, (∃ o, s.heap.get? a = some o) → ∃ o, h2.get? a = some o) → Fv env H h2 (upd σ x d) → Q' () { s with heap := h2, toks := k })
    (hk : env.scope.kind = .function := by rfl) : wpAny (model prog w) A (storeName env x v) Q' E' s := by
  obtain ⟨⟨m, hn, hm⟩, hc, hsp, hi⟩ := V
  cases o with
  | loc hl hcx hL =>
    refine wpAny_storeName_local hl hn (fun h2 hn2 hs2 => ?_) (by rw [hk]; rfl)
    have kH : KpH H s.heap h2 := KpH.same hs2 (hN _ hL)
    refine next h2 _ (KpH.same hs2 hL) (fun a o e q => ?_) (fun a ha => ?_) ⟨⟨_, hn2, fun y d' e l => ?_⟩, fun y c e => ?_, hsp, hi⟩
    · obtain ⟨xs, n, q⟩ := q
      exact (hs2.2 a (fun z => by subst z; exact ns_noSeq hn e q)).trans e
    · by_cases z : a = env.locals
      · subst z; exact ns_ex hn2
      · obtain ⟨o, e⟩ := ha; exact ⟨o, (hs2.2 a z).trans e⟩
    · by_cases q : y = x
      · subst q; simp only [upd, if_true] at e ⊢; cases e; exact ⟨v, rfl, r.of kH.hid⟩
      · simp only [upd, if_neg q] at e ⊢; obtain ⟨u, a, b⟩ := hm y d' e l; exact ⟨u, a, b.of kH.hid⟩
    · obtain ⟨cv, ⟨o, h1', h2'⟩, h3⟩ := hc y c e
      refine ⟨cv, ⟨o, (hs2.2 c (hsp y c e)).trans h1', h2'⟩, fun d' q => ?_⟩
      have : y ≠ x := fun z => by rw [z, hcx] at e; cases e
      simp only [upd, if_neg this] at q
      obtain ⟨u, a, b⟩ := h3 d' q; exact ⟨u, a, b.of kH.hid⟩
  | cell cx hl hcx hm' =>
    obtain ⟨cv₀, hcv₀, _⟩ := hc x cx hcx
    refine wpAny_storeName_cell hk hl hcx hcv₀ fun h2 hc2 hs2 => ?_
    have kH : KpH H s.heap h2 := KpH.same hs2 (hN _ hm')
    refine next h2 _ (KpH.same hs2 hm') (fun a o e q => ?_) (fun a ha => ?_) ⟨⟨m, hn.sameBut hs2 (Ne.symm (hsp x cx hcx)), fun y d' e l => ?_⟩, fun y c e => ?_, hsp, hi⟩
    · obtain ⟨xs, n, q⟩ := q
      exact (hs2.2 a (fun z => by subst z; exact cell_noSeq hcv₀ e q)).trans e
    · by_cases z : a = cx
      · subst z; exact cell_ex hc2
      · obtain ⟨o, e⟩ := ha; exact ⟨o, (hs2.2 a z).trans e⟩
    · have : y ≠ x := fun z => by rw [z, hl] at l; cases l
      simp only [upd, if_neg this] at e
      obtain ⟨u, a, b⟩ := hm y d' e l; exact ⟨u, a, b.of kH.hid⟩
    · by_cases q : y = x
      · subst q
        rw [hcx] at e; cases e
        exact ⟨_, hc2, fun d' z => by simp only [upd, if_true] at z; cases z; exact ⟨v, rfl, r.of kH.hid⟩⟩
      · obtain ⟨cv, ⟨o, h1', h2'⟩, h3⟩ := hc y c e
        refine ⟨cv, ⟨o, (hs2.2 c (fun z => q (hi y x c e (z ▸ hcx)))).trans h1', h2'⟩, fun d' z => ?_⟩
        simp only [upd, if_neg q] at z
        obtain ⟨u, a, b⟩ := h3 d' z; exact ⟨u, a, b.of kH.hid⟩
theorem inl_of {N Hd : List Addr} : ∀ a ∈ N, a ∈ N ++ Hd := fun a h => List.mem_append.mpr (.inl h)
/-- x = e -/
theorem st_set {e : Expr} {x : Str} {d : PyData} (F : FS s₀ N Hd s.heap) (V : Fv env (N ++ Hd) s.heap σ) (o : Own env N x) (he : Ev prog w A s.heap (eval e env) (Da (N ++ Hd) d))
    (next : ∀ h2 k, FS s₀ N Hd h2 → KpH N s.heap h2 → Kq s.heap h2 → Fv env (N ++ Hd) h2 (upd σ x (.d d)) → wpAny (model prog w) A (execs rest env) Q E { s with heap := h2, toks := k })
    (hk : env.scope.kind = .function := by rfl) (hsw : swapsWith e (some (.Name x px)) pos.line env = pure false := by rfl) : wpAny (model prog w) A (execs (.Assign [.Name x px] e pos :: rest) env) Q E s := by
  refine wpAny_execs_cons (wpAny_Assign_Name (he.use (Kp.refl _) fun v h1 k1 kp1 p1 => ?_) hsw)
  exact put (s := { s with heap := h1, toks := k1 }) (d := .d d) (V.up kp1) o inl_of p1 (fun h2 k kN kq hx V2 => next h2 k ((F.grow kp1).up kN fun a ha => hx a ((F.grow kp1).hs a (inl_of a ha))) (kp1.toH.trans kN) (kp1.q.trans kq) V2) hk
theorem st_setd {e : Expr} {x : Str} (d : PyData) (F : FS s₀ N Hd s.heap) (V : Fv env (N ++ Hd) s.heap σ) (o : Own env N x) (he : Ev prog w A s.heap (eval e env) (Da (N ++ Hd) d))
    (next : ∀ h2 k, FS s₀ N Hd h2 → KpH N s.heap h2 → Kq s.heap h2 → Fv env (N ++ Hd) h2 (upd σ x (.d d)) → wpAny (model prog w) A (execs rest env) Q E { s with heap := h2, toks := k })
    (hk : env.scope.kind = .function := by rfl) (hsw : swapsWith e (some (.Name x px)) pos.line env = pure false := by rfl) : wpAny (model prog w) A (execs (.Assign [.Name x px] e pos :: rest) env) Q E s := st_set F V o he next hk hsw
theorem st_setP {e : Expr} {x : Str} (d : List PyData) (F : FS s₀ N Hd s.heap) (V : Fv env (N ++ Hd) s.heap σ) (o : Own env N x) (he : Ev prog w A s.heap (eval e env) (fun h u => Pl (N ++ Hd) h u d))
    (next : ∀ h2 k, FS s₀ N Hd h2 → KpH N s.heap h2 → Kq s.heap h2 → Fv env (N ++ Hd) h2 (upd σ x (.p d)) → wpAny (model prog w) A (execs rest env) Q E { s with heap := h2, toks := k })
    (hk : env.scope.kind = .function := by rfl) (hsw : swapsWith e (some (.Name x px)) pos.line env = pure false := by rfl) : wpAny (model prog w) A (execs (.Assign [.Name x px] e pos :: rest) env) Q E s := by
  refine wpAny_execs_cons (wpAny_Assign_Name (he.use (Kp.refl _) fun v h1 k1 kp1 p1 => ?_) hsw)
  exact put (s := { s with heap := h1, toks := k1 }) (d := .p d) (V.up kp1) o inl_of p1 (fun h2 k kN kq hx V2 => next h2 k ((F.grow kp1).up kN fun a ha => hx a ((F.grow kp1).hs a (inl_of a ha))) (kp1.toH.trans kN) (kp1.q.trans kq) V2) hk
/-- x = e, e no datum -/
theorem st_setV {e : Expr} {x : Str} {P : Heap → Value → Prop} (u : Up P) (F : FS s₀ N Hd s.heap) (V : Fv env (N ++ Hd) s.heap σ) (o : Own env N x) (he : Ev prog w A s.heap (eval e env) P)
    (next : ∀ v h1 h2 k, P h1 v → Kp s.heap h1 → KpH N h1 h2 → FS s₀ N Hd h2 → KpH N s.heap h2 → Kq s.heap h2 → Fv env (N ++ Hd) h2 (upd σ x (.v v)) → wpAny (model prog w) A (execs rest env) Q E { s with heap := h2, toks := k })
    (hk : env.scope.kind = .function := by rfl) (hsw : swapsWith e (some (.Name x px)) pos.line env = pure false := by rfl) : wpAny (model prog w) A (execs (.Assign [.Name x px] e pos :: rest) env) Q E s := by
  refine wpAny_execs_cons (wpAny_Assign_Name (he.use (Kp.refl _) fun v h1 k1 kp1 p1 => ?_) hsw)
  exact put (s := { s with heap := h1, toks := k1 }) (d := .v v) (V.up kp1) o inl_of rfl (fun h2 k kN kq hx V2 => next v h1 h2 k p1 kp1 kN ((F.grow kp1).up kN fun a ha => hx a ((F.grow kp1).hs a (inl_of a ha))) (kp1.toH.trans kN) (kp1.q.trans kq) V2) hk
/-- x = [], from then on an open list -/
theorem st_open {x : Str} {pl : Pos} (F : FS s₀ N Hd s.heap) (V : Fv env (N ++ Hd) s.heap σ) (o : Own env N x)
    (next : ∀ D h2 k, s.heap.get? D = none → FS s₀ (D :: N) Hd h2 → KpH N s.heap h2 → Kq s.heap h2 → Fv env (D :: N ++ Hd) h2 (upd σ x (.v (.ref D))) → Ol (D :: N ++ Hd) D [] h2 → wpAny (model prog w) A (execs rest env) Q E { s with heap := h2, toks := k })
    (hk : env.scope.kind = .function := by rfl) (hsw : swapsWith (.List [] pl) (some (.Name x px)) pos.line env = pure false := by rfl) : wpAny (model prog w) A (execs (.Assign [.Name x px] (.List [] pl) pos :: rest) env) Q E s := by
  refine wpAny_execs_cons (wpAny_Assign_Name (List_ (spliced_none (wpAny_newObj_type ?_ (Nat.zero_le _)))) hsw)
  have hD : s.heap.get? s.heap.objs.size = none := fresh_of (Kp.refl _) (Nat.le_refl _)
  have kp := Kp.push s.heap { cls := .type "list", data := .seq ([] : List Value).toArray 0 }
  have hide : ∀ a ∈ s.heap.objs.size :: N ++ Hd, a ∈ N ++ Hd ∨ s.heap.get? a = none := fun a ha => by
    rcases List.mem_cons.mp ha with rfl | ha
    · exact .inr hD
    · exact .inl ha
  refine put (s := { s with heap := _, toks := _ }) (d := .v (.ref s.heap.objs.size)) (N := N) (V.hide kp hide) o (fun a ha => .tail _ (inl_of a ha)) rfl (fun h2 k kN kq hx V2 => ?_) hk
  have hpl := kq _ _ (Heap.get?_push_size s.heap (o := { cls := .type "list", data := .seq ([] : List Value).toArray 0 }) rfl) ⟨_, _, rfl⟩
  refine next s.heap.objs.size h2 k hD ⟨?_, ?_, ?_⟩ (kp.toH.trans kN) (kp.q.trans kq) V2 ⟨_, ⟨_, hpl⟩, RpAll.nil⟩
  · exact ((F.grow kp).up kN fun a ha => hx a ((F.grow kp).hs a (inl_of a ha))).k0
  · intro a ha
    rcases List.mem_cons.mp ha with rfl | ha
    · cases e : s₀.get? s.heap.objs.size with
      | none => rfl
      | some o => rw [F.k0 _ _ e] at hD; cases hD
    · exact F.nw a ha
  · intro a ha
    rcases List.mem_cons.mp ha with rfl | ha
    · exact ⟨_, hpl⟩
    · exact hx a ((F.grow kp).hs a ha)
/-- try: a body that raises nothing -/
theorem st_try {hs : List ExceptHandler} {h0 : ExceptHandler} (h : wpAny (model prog w) A (execs body env) (fun f s' => match f with | .next => wpAny (model prog w) A (execs rest env) Q E s' | f => Q f s') (fun _ _ => False) s) : wpAny (model prog w) A (execs (.Try body (h0 :: hs) [] [] pos :: rest) env) Q E s := by
  refine wpAny_execs_cons ?_
  show wpAny _ _ (do standAt pos; tryStmt false (execs body env) (h0 :: hs) (execs [] env) [] env) _ _ _
  refine wpAny_bind (wpAny_standAt (wpAny_tryStmt_except (wpAny_mono h (fun f s' q => ?_) fun _ _ x => x.elim)))
  cases f with
  | next => exact wpAny_execs_nil q
  | _ => exact q
/-- iteration over a tuple -/
theorem iter_tup {t : Sem Value} {ds : List PyData} {Hd : List Addr} (hh : A.handled = none) (h : Ev prog w A b t (Da Hd (.tuple ds))) : Iter prog w A b Hd t ds := fun s Q E kb q =>
  h.use kb fun v h1 k1 kp1 p1 => by
    obtain ⟨l, vs, rfl, hax, hl, r⟩ := Rp.tup_inv p1
    obtain ⟨o, ho, hc, n, hd⟩ := id hl
    have hl' : h1.IsTuple l vs.toArray := ⟨o, ho, hc, n, hd⟩
    have hne : l ≠ h1.objs.size := Nat.ne_of_lt (Heap.lt_size ho)
    refine wpAny_pyIter_tuple hl' (q _ _ _ (kp1.trans (Kp.push _ _)) (fresh_of kp1 (Nat.le_refl _)) ?_)
    have hlen : vs.toArray.size = ds.length := by simp [r.length]
    have W := Walks.tuple (prog := prog) (w := w) hh h1.objs.size l hne vs.toArray
    rw [hlen] at W
    refine ⟨_, _, _, W, ⟨⟨_, Heap.get?_push_size _ rfl, rfl, rfl⟩, hl'.at fun o e => Heap.get?_push_of_some _ e⟩, ?_, fun i h' st => ?_, fun i v hv => ?_⟩
    · intro a ha
      rw [Heap.size_push]
      rcases List.mem_cons.mp ha with rfl | ha
      · exact ⟨Nat.lt_succ_self _, .inl rfl⟩
      · rw [List.mem_singleton.mp ha]; exact ⟨Nat.lt_succ_of_lt (Heap.lt_size ho), .inr hax⟩
    · obtain ⟨⟨o, e, _⟩, _⟩ := st; exact ⟨o, e⟩
    · obtain ⟨d, h1', h2⟩ := r.get (i := i) (v := v) (by simpa using hv)
      refine ⟨d, h1', h2.hide (Kp.push _ _) fun a ha => ?_⟩
      rcases List.mem_cons.mp ha with rfl | ha
      · exact .inr (fresh_of (Kp.refl _) (Nat.le_refl _))
      · exact .inl ha
end


end Mine
end
section
set_option maxRecDepth 100000
namespace Mine
open PySem PySem.W PySem.W.X PySem.Calls PyProof.Rows


theorem Own.cons {env : Env} {N : List Addr} {x : Str} {D : Addr} (o : Own env N x) : Own env (D :: N) x := by
  cases o with
  | loc a b c => exact .loc a b (.tail _ c)
  | cell c a b d => exact .cell c a b (.tail _ d)
abbrev Nb (env : Env) : List Addr := env.locals :: env.cells.map (·.2)
theorem own_l {env : Env} {x : Str} (hl : env.kindOf x = some .local := by rfl) (hc : env.cells.lookup x = none := by rfl) : Own env (Nb env) x := .loc hl hc (.head _)
theorem own_c {env : Env} {x : Str} {c : Addr} (hl : env.kindOf x = some .cell := by rfl) (hc : env.cells.lookup x = some c := by rfl) : Own env (Nb env) x := .cell c hl hc (.tail _ (List.mem_map.mpr ⟨_, mem_of_lookup hc, rfl⟩))

section
variable {prog : Program} {w : World} {A : Around} {s : Shared} {env : Env} {Q : Flow → Shared → Prop} {E : Value → Shared → Prop} {rest body orelse : List Stmt} {pos px : Pos} {s₀ b : Heap} {N Hd H : List Addr} {σ : Str → Option Vw} {P : Heap → Value → Prop}

/-- a method of a plain list, that changes nothing -/
theorem ev_methL {o e : Expr} {rest : List Expr} {name : Str} {id : String} {apos : Pos} {ds : List PyData} {Ps : List (Heap → Value → Prop)} {pl : Sem Bool} (ho : Ev prog w A b (eval o env) (fun h u => Pl H h u ds)) (slot : Slot "list" name id) (ty : typeOf (.builtin id) = pure (.type "method_descriptor"))
    (ha : Evs prog w A b (spliced (backTo pos (starEach (e :: rest) env))) Ps) (spec : ∀ s a vs, Kp b s.heap → Pl H s.heap (.ref a) ds → Alls Ps s.heap vs → Gives prog w A s (call (.builtin id) (.ref a :: vs) []) P)
    (he : backTo pos (starEach (e :: rest) env) = (false, eval e env) :: backTo pos (starEach rest env) := by rfl) (hp : (backTo pos (starEach (e :: rest) env)).any (·.1) = false := by rfl)
    (hm : eval (.Call (.Attribute o name apos) (e :: rest) [] pos) env = (do
      let ov ← eval o env
      standAt apos.atName
      let (f, first) ← holding [ov] (getMethod ov name pl)
      callWith pos f first (backTo pos (starEach (e :: rest) env)) (backToKw pos (keywordEach [] env))) := by rfl) :
    Ev prog w A b (eval (.Call (.Attribute o name apos) (e :: rest) [] pos) env) P := fun s kb => Gives.of fun Q E q =>
  methodCall_KW (ho.use kb fun x h1 k1 kp1 p1 => by
    obtain ⟨a, vs, rfl, _, ⟨n, e1⟩, _⟩ := Pl.inv p1
    refine getMethod_builtin (T := "list") ⟨_, e1, rfl⟩ PySem.F.plainAttrs_list slot ty (fun a e => by cases e; exact ⟨_, e1, rfl⟩) ?_
    refine callWith_builtin hp ?_
    rw [he]
    refine evalArgs_plain ?_
    rw [← he]
    exact ha _ _ _ (kb.trans kp1) fun vs h2 k2 kp2 a2 => (spec _ a vs (kb.trans (kp1.trans kp2)) (up_pl _ _ _ _ _ kp2 p1) a2).use fun v h3 k3 kp3 p3 => q v h3 k3 (kp1.trans (kp2.trans kp3)) p3) hm
/-- x.name(e) of an open list: what it does is up to the call -/
theorem st_meth {e : Expr} {x : Str} {pn pe apos : Pos} {name : Str} {id : String} {D : Addr} {ds : List PyData} {pl : Sem Bool} (V : Fv env H s.heap σ) (hx : Loads env x (.ref D) s.heap) (ho : Ol H D ds s.heap) (slot : Slot "list" name id) (ty : typeOf (.builtin id) = pure (.type "method_descriptor"))
    (he : Ev prog w A s.heap (eval e env) P) (spec : ∀ h1 k1 v, Kp s.heap h1 → P h1 v → wpAny (model prog w) A (call (.builtin id) [.ref D, v]) (fun u s' => u = .none ∧ wpAny (model prog w) A (execs rest env) Q E s') E { s with heap := h1, toks := k1 })
    (hee : backTo pos (starEach [e] env) = [(false, eval e env)] := by rfl)
    (hm : eval (.Call (.Attribute (.Name x pn) name apos) [e] [] pos) env = (do
      let ov ← eval (.Name x pn) env
      standAt apos.atName
      let (f, first) ← holding [ov] (getMethod ov name pl)
      callWith pos f first (backTo pos (starEach [e] env)) (backToKw pos (keywordEach [] env))) := by rfl)
    (hi : interactive env = false := by rfl) (hs : swapsWith (.Call (.Attribute (.Name x pn) name apos) [e] [] pos) none pe.line env = pure false := by rfl) (hb : (x == ("__debug__" : Str)) = false := by decide) :
    wpAny (model prog w) A (execs (.Expr (.Call (.Attribute (.Name x pn) name apos) [e] [] pos) pe :: rest) env) Q E s := by
  obtain ⟨ys, ⟨n, e1⟩, r⟩ := ho
  refine st_expr (methodCall_KW (wpAny_Name (hx _ _ _ _ _ (Kp.refl _) ?_) hb) hm) hi hs
  refine getMethod_builtin (T := "list") ⟨_, e1, rfl⟩ PySem.F.plainAttrs_list slot ty (fun a e => by cases e; exact ⟨_, e1, rfl⟩) ?_
  refine callWith_builtin (by rw [hee]; rfl) ?_
  rw [hee]
  refine evalArgs_plain (spliced_cons (he.use (Kp.refl _) fun v h1 k1 kp1 p1 => spliced_nil (spec h1 k1 v kp1 p1)))
theorem st_append {e : Expr} {x : Str} {pn pe apos : Pos} {D : Addr} {ds : List PyData} (d : PyData) {pl : Sem Bool} (F : FS s₀ N Hd s.heap) (V : Fv env (N ++ Hd) s.heap σ) (hD : D ∈ N) (hx : Loads env x (.ref D) s.heap) (ho : Ol (N ++ Hd) D ds s.heap)
    (he : Ev prog w A s.heap (eval e env) (Da (N ++ Hd) d)) (hz : ds.length ≤ sizeLine)
    (next : ∀ h2 k, FS s₀ N Hd h2 → KpH N s.heap h2 → Fv env (N ++ Hd) h2 σ → Ol (N ++ Hd) D (ds ++ [d]) h2 → wpAny (model prog w) A (execs rest env) Q E { s with heap := h2, toks := k })
    (hee : backTo pos (starEach [e] env) = [(false, eval e env)] := by rfl)
    (hm : eval (.Call (.Attribute (.Name x pn) (Str.ofString "append") apos) [e] [] pos) env = (do
      let ov ← eval (.Name x pn) env
      standAt apos.atName
      let (f, first) ← holding [ov] (getMethod ov (Str.ofString "append") pl)
      callWith pos f first (backTo pos (starEach [e] env)) (backToKw pos (keywordEach [] env))) := by rfl)
    (hi : interactive env = false := by rfl) (hs : swapsWith (.Call (.Attribute (.Name x pn) (Str.ofString "append") apos) [e] [] pos) none pe.line env = pure false := by rfl) (hb : (x == ("__debug__" : Str)) = false := by decide) :
    wpAny (model prog w) A (execs (.Expr (.Call (.Attribute (.Name x pn) (Str.ofString "append") apos) [e] [] pos) pe :: rest) env) Q E s := by
  refine st_meth V hx ho PySem.F.slot_list_append PySem.F.type_list_append he (fun h1 k1 v kp1 p1 => ?_) hee hm hi hs hb
  obtain ⟨ys, hpl, r⟩ := ho
  have hpl1 : h1.PlainList D ys := hpl.at fun o e => kp1 _ _ e
  have hl := r.length
  refine wpAny_list_append_plain (s := { s with heap := h1, toks := k1 }) (hsz := by rw [← Array.length_toList, hl]; exact hz) hpl1 fun h2 hl2 hs2 => ⟨rfl, ?_⟩
  have kN : KpH N h1 h2 := KpH.same hs2 hD
  have F1 := F.grow kp1
  have V1 := V.up kp1
  obtain ⟨n1, e1⟩ := hpl1
  obtain ⟨m, hn, _⟩ := V1.ns
  refine next h2 k1 (F1.same hs2 hD (let ⟨_, e⟩ := hl2; ⟨_, e⟩)) (kp1.toH.trans kN) (V1.upN (K := [D]) (KpH.same hs2 (.head _)) (fun a ha => by rw [List.mem_singleton.mp ha]; exact inl_of _ hD) (fun m => ?_) (fun y c hc m => ?_)) ⟨_, hl2, ?_⟩
  · rw [List.mem_singleton.mp m] at hn; exact ns_noSeq hn e1 rfl
  · obtain ⟨cv, hcv, _⟩ := V1.cells y c hc; rw [List.mem_singleton.mp m] at hcv; exact cell_noSeq hcv e1 rfl
  · rw [Array.toList_push]
    exact RpAll.append ((r.up kp1).upN kN) (.cons (Rp.upN p1 kN) .nil)
theorem st_extend {e : Expr} {x : Str} {pn pe apos : Pos} {D : Addr} {ds : List PyData} (es : List PyData) {pl : Sem Bool} (F : FS s₀ N Hd s.heap) (V : Fv env (N ++ Hd) s.heap σ) (hD : D ∈ N) (hx : Loads env x (.ref D) s.heap) (ho : Ol (N ++ Hd) D ds s.heap)
    (he : Ev prog w A s.heap (eval e env) (fun h u => Pl (N ++ Hd) h u es)) (hz : ds.length + es.length ≤ 1000)
    (next : ∀ h2 k, FS s₀ N Hd h2 → KpH N s.heap h2 → Fv env (N ++ Hd) h2 σ → Ol (N ++ Hd) D (ds ++ es) h2 → wpAny (model prog w) A (execs rest env) Q E { s with heap := h2, toks := k })
    (hee : backTo pos (starEach [e] env) = [(false, eval e env)] := by rfl)
    (hm : eval (.Call (.Attribute (.Name x pn) (Str.ofString "extend") apos) [e] [] pos) env = (do
      let ov ← eval (.Name x pn) env
      standAt apos.atName
      let (f, first) ← holding [ov] (getMethod ov (Str.ofString "extend") pl)
      callWith pos f first (backTo pos (starEach [e] env)) (backToKw pos (keywordEach [] env))) := by rfl)
    (hi : interactive env = false := by rfl) (hs : swapsWith (.Call (.Attribute (.Name x pn) (Str.ofString "extend") apos) [e] [] pos) none pe.line env = pure false := by rfl) (hb : (x == ("__debug__" : Str)) = false := by decide) :
    wpAny (model prog w) A (execs (.Expr (.Call (.Attribute (.Name x pn) (Str.ofString "extend") apos) [e] [] pos) pe :: rest) env) Q E s := by
  refine st_meth V hx ho PySem.F.slot_list_extend PySem.F.type_list_extend he (fun h1 k1 v kp1 p1 => ?_) hee hm hi hs hb
  obtain ⟨ys, hpl, r⟩ := ho
  have hpl1 : h1.PlainList D ys := hpl.at fun o e => kp1 _ _ e
  have hl := r.length
  obtain ⟨a, vs, rfl, ha, ⟨n2, e2⟩, r2⟩ := Pl.inv p1
  have hl2 := r2.length
  obtain ⟨n1, e1⟩ := hpl1
  have hsz : ys.size = ds.length := by rw [← Array.length_toList, hl]
  have hsz2 : vs.toArray.size = es.length := by rw [List.size_toArray, hl2]
  have hbig : (1000 : Nat) ≤ sizeLine := by decide
  refine call_meets (s := { s with heap := h1, toks := k1 }) PySem.F.slot_list_extend ⟨_, e1, rfl⟩ PySem.F.entry_list_extend (PySem.F.args_list_extend_2 _ _) (PySem.AutoSeq1.list_extend_list_list_0 D ys n1 a vs.toArray n2 ?_ (by omega) (by omega)) ⟨e1, e2, rfl, ?_⟩
  · intro hc
    have : Builtin.List.listTooLong (ys.size + vs.toArray.size) = true := by
      cases q : Builtin.List.listTooLong (ys.size + vs.toArray.size) with
      | true => rfl
      | false => rw [q, Bool.and_false] at hc; cases hc
    unfold Builtin.List.listTooLong at this
    simp only [decide_eq_true_eq] at this
    omega
  have hs2 : Heap.SameBut D h1 (h1.update D (Obj.mapSeq fun x => x ++ vs.toArray)) := Heap.SameBut.update ..
  obtain ⟨n3, hd3⟩ := Obj.data_mapSeq (o := { cls := .type "list", data := .seq ys n1 }) rfl (fun x => x ++ vs.toArray)
  have hget := Heap.get?_update_self (fun o => Obj.mapSeq (fun x => x ++ vs.toArray) o) e1 (Obj.isFreed_of_seq hd3)
  have hpl2 : (h1.update D (Obj.mapSeq fun x => x ++ vs.toArray)).PlainList D (ys ++ vs.toArray) := by
    refine ⟨n3, hget.trans ?_⟩
    have := hd3
    simp only [Obj.mapSeq] at this ⊢
    exact congrArg some (congrArg (fun dt => ({ cls := .type "list", data := dt } : Obj)) this)
  have kN : KpH N h1 _ := KpH.same hs2 hD
  have F1 := F.grow kp1
  have V1 := V.up kp1
  obtain ⟨m, hn, _⟩ := V1.ns
  refine next _ k1 (F1.same hs2 hD (let ⟨_, e⟩ := hpl2; ⟨_, e⟩)) (kp1.toH.trans kN) (V1.upN (K := [D]) (KpH.same hs2 (.head _)) (fun a ha => by rw [List.mem_singleton.mp ha]; exact inl_of _ hD) (fun m => ?_) (fun y c hc m => ?_)) ⟨_, hpl2, ?_⟩
  · rw [List.mem_singleton.mp m] at hn; exact ns_noSeq hn e1 rfl
  · obtain ⟨cv, hcv, _⟩ := V1.cells y c hc; rw [List.mem_singleton.mp m] at hcv; exact cell_noSeq hcv e1 rfl
  · rw [Array.toList_append]
    exact RpAll.append ((r.up kp1).upN kN) (r2.upN kN)

/-- for x in data, no break -/
theorem st_forV {x : Str} {iter : Expr} {ds : List PyData} (St : Nat → Str → Option Vw) (J : Addr → Nat → Heap → Prop) (F : FS s₀ N Hd s.heap) (V : Fv env (N ++ Hd) s.heap σ) (hNb : ∀ a ∈ Nb env, a ∈ N ++ Hd) (o : Own env N x) (hit : Iter prog w A s.heap (N ++ Hd) (eval iter env) ds)
    (h0 : ∀ y d, St 0 y = some d → σ y = some d) (j0 : ∀ I h', Kp s.heap h' → s.heap.get? I = none → J I 0 h') (jk : ∀ I i h h', s.heap.get? I = none → J I i h → KpH [I] h h' → J I i h') (jq : ∀ I i h h', J I i h → KpH N h h' → Kq h h' → J I i h')
    (turn : ∀ I i d h k, s.heap.get? I = none → ds[i]? = some d → FS s₀ N (I :: Hd) h → Fv env (N ++ I :: Hd) h (upd (St i) x (.d d)) → J I i h → ∀ (Q' : Flow → Shared → Prop) (E' : Value → Shared → Prop),
      (∀ h' k', KpH N h h' → FS s₀ N (I :: Hd) h' → Fv env (N ++ I :: Hd) h' (St (i + 1)) → J I (i + 1) h' → Q' .next { s with heap := h', toks := k' }) → wpAny (model prog w) A (execs body env) Q' E' { s with heap := h, toks := k })
    (done : ∀ I h h' k, s.heap.get? I = none → J I ds.length h → KpH [I] h h' → FS s₀ N Hd h' → Fv env (N ++ Hd) h' (St ds.length) → wpAny (model prog w) A (execs rest env) Q E { s with heap := h', toks := k })
    (hk : env.scope.kind = .function := by rfl) (hfs : ∀ x, foldedSetIterable iter env x = pure x := by intro _; rfl) :
    wpAny (model prog w) A (execs (.For (.Name x px) iter body [] pos :: rest) env) Q E s := by
  have hIN : ∀ I, s.heap.get? I = none → I ∉ N ++ Hd := fun I hI m => by obtain ⟨o, e⟩ := F.hs I m; rw [hI] at e; cases e
  have hI0 : ∀ I, s.heap.get? I = none → s₀.get? I = none := fun I hI => by
    cases e : s₀.get? I with
    | none => rfl
    | some o => rw [F.k0 _ _ e] at hI; cases hI
  have perm : ∀ I, ∀ a ∈ N ++ I :: Hd, a = I ∨ a ∈ N ++ Hd := fun I a ha => by
    rcases List.mem_append.mp ha with ha | ha
    · exact .inr (inl_of a ha)
    · rcases List.mem_cons.mp ha with ha | ha
      · exact .inl ha
      · exact .inr (List.mem_append.mpr (.inr ha))
  have hIm : ∀ I, I ∈ N ++ I :: Hd := fun I => List.mem_append.mpr (.inr (.head _))
  have hsb : ∀ I, ∀ a ∈ N ++ Hd, a ∈ N ++ I :: Hd := fun I a ha => by
    rcases List.mem_append.mp ha with ha | ha
    · exact inl_of a ha
    · exact List.mem_append.mpr (.inr (.tail _ ha))
  have upI : ∀ I h h' τ, s.heap.get? I = none → Fv env (N ++ I :: Hd) h τ → KpH [I] h h' → Fv env (N ++ I :: Hd) h' τ := fun I h h' τ hI V k =>
    V.upN k (fun a ha => by rw [List.mem_singleton.mp ha]; exact hIm I) (fun m => hIN I hI (List.mem_singleton.mp m ▸ hNb _ (.head _))) (fun y c hc m => hIN I hI (List.mem_singleton.mp m ▸ hNb _ (.tail _ (List.mem_map.mpr ⟨_, mem_of_lookup hc, rfl⟩))))
  refine st_for (N := N) (Hd := Hd) (Inv := fun I i h => FS s₀ N (I :: Hd) h ∧ Fv env (N ++ I :: Hd) h (St i) ∧ J I i h) (fun a ha => F.hs a (inl_of a ha)) hit ?_ ?_ ?_ ?_ hfs (by intro _ _; rfl)
  · intro I h' kp hI hx
    refine ⟨⟨F.k0.trans kp, F.nw, fun a ha => ?_⟩, (V.less h0).hide kp fun a ha => ?_, j0 I h' kp hI⟩
    · rcases perm I a ha with rfl | ha
      · exact hx
      · exact F.hs.up kp a ha
    · rcases perm I a ha with rfl | ha
      · exact .inr hI
      · exact .inl ha
  · rintro I i h h' hI ⟨F1, V1, j1⟩ kI hx
    refine ⟨⟨fun a o e => kI a o (fun m => by rw [List.mem_singleton.mp m, hI0 I hI] at e; cases e) (F1.k0 a o e), F1.nw, fun a ha => ?_⟩, upI I h h' _ hI V1 kI, jk I i h h' hI j1 kI⟩
    by_cases z : a = I
    · subst z; exact hx
    · obtain ⟨o, e⟩ := F1.hs a ha; exact ⟨o, kI a o (fun m => z (List.mem_singleton.mp m)) e⟩
  · rintro I i d v h k Q' E' hI hd ⟨F1, V1, j1⟩ r hx q
    refine wpAny_assign_Name (put (s := { s with heap := h, toks := k }) (d := .d d) V1 o (fun a ha => inl_of a ha) r (fun h2 k2 kN kq hx2 V2 => ?_) hk)
    have F2 := F1.up kN fun a ha => hx2 a (F1.hs a (inl_of a ha))
    exact turn I i d h2 k2 hI hd F2 V2 (jq I i h h2 j1 kN kq) Q' E' fun h' k' kN' F' V' j' => q h' k' (kN.trans kN') ⟨F', V', j'⟩
  · rintro I h h' k hI ⟨F1, V1, j1⟩ kI
    refine done I h h' k hI j1 kI ⟨fun a o e => kI a o (fun m => by rw [List.mem_singleton.mp m, hI0 I hI] at e; cases e) (F1.k0 a o e), F.nw, fun a ha => ?_⟩ ((upI I h h' _ hI V1 kI).sub (hsb I))
    obtain ⟨o, e⟩ := F1.hs a (hsb I a ha)
    exact ⟨o, kI a o (fun m => hIN I hI (List.mem_singleton.mp m ▸ ha)) e⟩
/-- the same with an open list that grows -/
theorem st_forO {x : Str} {iter : Expr} (ds : List PyData) (St : Nat → Str → Option Vw) (out : Nat → List PyData) {D : Addr} (F : FS s₀ N Hd s.heap) (V : Fv env (N ++ Hd) s.heap σ) (hD : D ∈ N) (ol : Ol (N ++ Hd) D (out 0) s.heap) (hNb : ∀ a ∈ Nb env, a ∈ N ++ Hd) (o : Own env N x) (hit : Iter prog w A s.heap (N ++ Hd) (eval iter env) ds)
    (h0 : ∀ y d, St 0 y = some d → σ y = some d)
    (turn : ∀ I i d h k, s.heap.get? I = none → ds[i]? = some d → FS s₀ N (I :: Hd) h → Fv env (N ++ I :: Hd) h (upd (St i) x (.d d)) → Ol (N ++ I :: Hd) D (out i) h → ∀ (Q' : Flow → Shared → Prop) (E' : Value → Shared → Prop),
      (∀ h' k', KpH N h h' → FS s₀ N (I :: Hd) h' → Fv env (N ++ I :: Hd) h' (St (i + 1)) → Ol (N ++ I :: Hd) D (out (i + 1)) h' → Q' .next { s with heap := h', toks := k' }) → wpAny (model prog w) A (execs body env) Q' E' { s with heap := h, toks := k })
    (done : ∀ h' k, FS s₀ N Hd h' → Fv env (N ++ Hd) h' (St ds.length) → Ol (N ++ Hd) D (out ds.length) h' → wpAny (model prog w) A (execs rest env) Q E { s with heap := h', toks := k })
    (hk : env.scope.kind = .function := by rfl) (hfs : ∀ x, foldedSetIterable iter env x = pure x := by intro _; rfl) :
    wpAny (model prog w) A (execs (.For (.Name x px) iter body [] pos :: rest) env) Q E s := by
  have hDI : ∀ I, s.heap.get? I = none → D ≠ I := fun I hI e => by obtain ⟨o, q⟩ := F.hs D (inl_of D hD); rw [e, hI] at q; cases q
  have hsb : ∀ I, ∀ a ∈ N ++ Hd, a ∈ N ++ I :: Hd := fun I a ha => by
    rcases List.mem_append.mp ha with ha | ha
    · exact inl_of a ha
    · exact List.mem_append.mpr (.inr (.tail _ ha))
  have hIm : ∀ I, I ∈ N ++ I :: Hd := fun I => List.mem_append.mpr (.inr (.head _))
  have upI : ∀ I h h' ds, s.heap.get? I = none → Ol (N ++ I :: Hd) D ds h → KpH [I] h h' → Ol (N ++ I :: Hd) D ds h' := fun I h h' ds hI ⟨ys, hp, r⟩ k =>
    ⟨ys, hp.at fun o e => k _ _ (fun m => hDI I hI (List.mem_singleton.mp m)) e, r.upH fun b o n e => k b o (fun m => n (List.mem_singleton.mp m ▸ hIm I)) e⟩
  refine st_forV St (fun I i h => Ol (N ++ I :: Hd) D (out i) h) F V hNb o hit h0 ?_ ?_ ?_ turn ?_ hk hfs
  · intro I h' kp hI
    refine ol.hide kp fun a ha => ?_
    rcases List.mem_append.mp ha with ha | ha
    · exact .inl (inl_of a ha)
    · rcases List.mem_cons.mp ha with rfl | ha
      · exact .inr hI
      · exact .inl (List.mem_append.mpr (.inr ha))
  · intro I i h h' hI o k; exact upI I h h' _ hI o k
  · intro I i h h' o k q; exact o.up k inl_of q
  · intro I h h' k hI o kI F' V'
    obtain ⟨ys, hp, r⟩ := upI I h h' _ hI o kI
    exact done h' k F' V' ⟨ys, hp, r.sub (hsb I)⟩
end
/-- entry into a plain def: its frame as data -/
theorem call_fn {prog : Program} {w : World} {A : Around} {s : Shared} {P : Heap → Value → Prop} {a : Addr} {o : Obj} {fd : FuncData} {body : List Stmt} {args : List Value} {BP : Heap → List (Str × Value) → Prop} {Hd : List Addr} (σ : Str → Option Vw) (hs : Hs Hd s.heap)
    (hroom : A.depth < recursionLimit) (ho : s.heap.get? a = some o) (hdata : o.data = .func fd) (hlim : s.heap.NoLimit) (hcd : s.heap.CodeRec fd.code fd.qualname) (hbody : fd.body = .stmts body)
    (hbind : ∀ (Q : List (Str × Value) → Shared → Prop) (E : Value → Shared → Prop), (∀ binds h' k, Kp s.heap h' → BP h' binds → Q binds { s with heap := h', toks := k }) → wpAny (model prog w) A.in1 (bindArgs fd ⟨args, []⟩) Q E s)
    (hcell : ∀ x ∈ fd.scope.names, x.2 ≠ .cell) (hloc : ∀ h' binds, BP h' binds → ∀ x ∈ binds, fd.scope.names.lookup x.1 = some .local)
    (hσ : ∀ h' binds, Kp s.heap h' → BP h' binds → ∀ x d, σ x = some d → ∃ v, binds.reverse.lookup x = some v ∧ Rv Hd h' v d)
    (h : ∀ h₁ k L, FS s.heap [L] Hd h₁ → Fv (callEnv fd L a) ([L] ++ Hd) h₁ σ → ∀ (Q : Flow → Shared → Prop) (E : Value → Shared → Prop), (∀ v h' k', Kp s.heap h' → P h' v → Q (.ret v) { s with heap := h', toks := k' }) →
      wpAny (model prog w) (A.deeper (callEnv fd L a)) (execs body (callEnv fd L a)) Q E { s with heap := h₁, toks := k })
    (hco : fd.scope.isCoroutine = false := by rfl) (hgen : fd.scope.isGenerator = false := by rfl) (hk : fd.scope.kind = .function := by rfl) (hclo : fd.closure = [] := by rfl) :
    Gives prog w A s (call (.ref a) args []) P := by
  refine call_bodyB hroom ho hdata hlim hcd hbody hbind hcell hloc (fun h₁ k L binds h' kp bp hn kp1 hL Q E q => ?_) hco hgen hk hclo
  have hide : ∀ a ∈ [L] ++ Hd, a ∈ Hd ∨ h'.get? a = none := fun a ha => by
    rcases List.mem_cons.mp ha with rfl | ha
    · exact .inr hL
    · exact .inl ha
  refine h h₁ k L ⟨kp.trans kp1, fun a ha => ?_, fun a ha => ?_⟩ (fv_enter hn rfl hclo fun x d e => ?_) Q E q
  · rw [List.mem_singleton.mp ha]
    cases e : s.heap.get? L with
    | none => rfl
    | some o => rw [kp _ _ e] at hL; cases hL
  · rcases List.mem_cons.mp ha with rfl | ha
    · exact ns_ex hn
    · obtain ⟨o, e⟩ := hs a ha; exact ⟨o, kp1 _ _ (kp _ _ e)⟩
  · obtain ⟨v, h1, h2⟩ := hσ h' binds kp bp x d e
    exact ⟨v, h1, h2.of (kh_hide kp1 hide)⟩
theorem bind_pure {prog : Program} {w : World} {A : Around} {s : Shared} {fd : FuncData} {args : List Value} {binds : List (Str × Value)} (hb : bindArgs fd ⟨args, []⟩ = pure binds) :
    ∀ (Q : List (Str × Value) → Shared → Prop) (E : Value → Shared → Prop), (∀ bs h' k, Kp s.heap h' → bs = binds → Q bs { s with heap := h', toks := k }) → wpAny (model prog w) A.in1 (bindArgs fd ⟨args, []⟩) Q E s := fun Q E q => by
  rw [hb]; exact wpAny_pure (q binds s.heap s.toks (Kp.refl _) rfl)
/-- entry into a def with cells of its own -/
theorem call_fnC {prog : Program} {w : World} {A : Around} {s : Shared} {P : Heap → Value → Prop} {a : Addr} {o : Obj} {fd : FuncData} {body : List Stmt} {args : List Value} {binds : List (Str × Value)} {Hd : List Addr} (σ : Str → Option Vw) (hs : Hs Hd s.heap)
    (hroom : A.depth < recursionLimit) (ho : s.heap.get? a = some o) (hdata : o.data = .func fd) (hlim : s.heap.NoLimit) (hcd : s.heap.CodeRec fd.code fd.qualname) (hbody : fd.body = .stmts body)
    (hbind : bindArgs fd ⟨args, []⟩ = pure binds) (hclo : fd.closure = [])
    (hkind : ∀ L, ∀ x ∈ binds, fd.scope.names.lookup x.1 = some .local ∨ (fd.scope.names.lookup x.1 = some .cell ∧ ((cellsFrom (L + 1) fd.scope.names []).lookup x.1).isSome = true))
    (hcl : ∀ L, ∀ p ∈ (callEnvC fd L a).cells, (callEnvC fd L a).cells.lookup p.1 = some p.2)
    (hσl : ∀ L x d, σ x = some d → (callEnvC fd L a).kindOf x = some .local → ∃ v, bindL (callEnvC fd L a).kindOf binds (fun _ => none) x = some v ∧ Rv Hd s.heap v d)
    (hσc : ∀ L x d c, σ x = some d → (callEnvC fd L a).cells.lookup x = some c → ∃ v, bindC (callEnvC fd L a).kindOf binds (fun _ => none) x = some v ∧ Rv Hd s.heap v d)
    (h : ∀ h₁ k L, FS s.heap (Nb (callEnvC fd L a)) Hd h₁ → Fv (callEnvC fd L a) (Nb (callEnvC fd L a) ++ Hd) h₁ σ → ∀ (Q : Flow → Shared → Prop) (E : Value → Shared → Prop), (∀ v h' k', Kp s.heap h' → P h' v → Q (.ret v) { s with heap := h', toks := k' }) →
      wpAny (model prog w) (A.deeper (callEnvC fd L a)) (execs body (callEnvC fd L a)) Q E { s with heap := h₁, toks := k })
    (hco : fd.scope.isCoroutine = false := by rfl) (hgen : fd.scope.isGenerator = false := by rfl) (hk : fd.scope.kind = .function := by rfl) :
    Gives prog w A s (call (.ref a) args []) P := Gives.of fun Q E q => wpAny_call (by
  refine codeAny_call_cells hroom ho hdata hlim hcd hbody hbind hclo (hkind _) (fun s₁ X => ?_) hco hgen hk
  obtain ⟨⟨⟨h₁, tk, rfl⟩, hn, kp, hfr⟩, hcell, hap, hab⟩ := X
  have new : ∀ a' ∈ Nb (callEnvC fd s.heap.objs.size a), s.heap.get? a' = none := fun a' ha => by
    rcases List.mem_cons.mp ha with rfl | ha
    · exact fresh_of (Kp.refl _) hfr
    · obtain ⟨⟨x, c⟩, hm, rfl⟩ := List.mem_map.mp ha
      exact fresh_of (Kp.refl _) (Nat.le_trans hfr (Nat.le_of_lt (hab x c hm)))
  have hide : ∀ a' ∈ Nb (callEnvC fd s.heap.objs.size a) ++ Hd, a' ∈ Hd ∨ s.heap.get? a' = none := fun a' ha => by
    rcases List.mem_append.mp ha with ha | ha
    · exact .inr (new a' ha)
    · exact .inl ha
  have kh := kh_hide kp hide
  refine h h₁ tk _ ⟨kp, new, fun a' ha => ?_⟩ ⟨⟨_, hn, fun x d e l => ?_⟩, fun x c e => ⟨_, hcell x c e, fun d q => ?_⟩, fun x c e => ?_, fun x y c e1 e2 => ?_⟩ _ _ fun v h' k' kp' p => q v h' k' kp' p
  · rcases List.mem_append.mp ha with ha | ha
    · rcases List.mem_cons.mp ha with rfl | ha
      · exact ns_ex hn
      · obtain ⟨⟨x, c⟩, hm, rfl⟩ := List.mem_map.mp ha
        exact cell_ex (hcell x c (hcl _ _ hm))
    · obtain ⟨o, e⟩ := hs a' ha; exact ⟨o, kp _ _ e⟩
  · obtain ⟨v, h1, h2⟩ := hσl _ x d e l; exact ⟨v, h1, h2.of kh⟩
  · obtain ⟨v, h1, h2⟩ := hσc _ x d c q e; exact ⟨v, h1, h2.of kh⟩
  · exact Nat.ne_of_gt (hab x c (mem_of_lookup e))
  · exact name_of_addr hap (mem_of_lookup e1) (mem_of_lookup e2))
end Mine
end
section
set_option maxRecDepth 100000
namespace Mine
open PySem PySem.W PySem.W.X PySem.Calls PyProof.Rows

abbrev slash : Str := Str.mk #[47]
def joinF (a b : Str) : Str := if Txt.startswith b slash || !((a.length : Int) != 0) then b else if Txt.endswith a slash then a ++ b else a ++ (slash ++ b)

section
variable {prog : Program} {w : World} {mg mb : Str → Option Value} {A : Around} {s : Shared} {b : Heap} {env : Env} {Hd : List Addr} {P : Heap → Value → Prop}
theorem tr_boolE {e : Expr} {whole : Sem Value} {β : Bool} (h : Ev prog w A b whole (Va (.bool β))) (he : isTrue e env whole = (do let v ← whole; standAt e.pos; holding [v] (truthy v)) := by rfl) : Tr prog w A b (isTrue e env whole) β :=
  tr_plain h (fun s v _ e Q E q => by rw [show v = _ from e]; exact truthy_bool' (q s.heap s.toks (Kp.refl _))) he
theorem tr_strE {e : Expr} {whole : Sem Value} {x : Str} (h : Ev prog w A b whole (Da Hd (.str x))) (hz : (x.length : Int) < 2 ^ 63) (he : isTrue e env whole = (do let v ← whole; standAt e.pos; holding [v] (truthy v)) := by rfl) : Tr prog w A b (isTrue e env whole) ((x.length : Int) != 0) :=
  tr_plain h (fun s v _ r Q E q => by obtain ⟨t, rfl⟩ := Rp.str_inv r; exact P.truthy_str (by omega) (q s.heap _ (Kp.refl _))) he
theorem alls1 {P : Heap → Value → Prop} {h : Heap} {vs : List Value} (a : Alls [P] h vs) : ∃ v, vs = [v] ∧ P h v := by obtain ⟨v, r, e, p, q⟩ := a; subst e; rw [show r = [] from q]; exact ⟨v, rfl, p⟩
theorem alls2 {P P' : Heap → Value → Prop} {h : Heap} {vs : List Value} (a : Alls [P, P'] h vs) : ∃ v v', vs = [v, v'] ∧ P h v ∧ P' h v' := by obtain ⟨v, r, e, p, q⟩ := a; subst e; obtain ⟨v', e', p'⟩ := alls1 q; subst e'; exact ⟨v, v', rfl, p, p'⟩
theorem alls3 {P P' P'' : Heap → Value → Prop} {h : Heap} {vs : List Value} (a : Alls [P, P', P''] h vs) : ∃ v v' v'', vs = [v, v', v''] ∧ P h v ∧ P' h v' ∧ P'' h v'' := by obtain ⟨v, r, e, p, q⟩ := a; subst e; obtain ⟨v', v'', e', p', p''⟩ := alls2 q; subst e'; exact ⟨v, v', v'', rfl, p, p', p''⟩
/-- str.startswith -/
theorem ev_starts {o e : Expr} {apos pos : Pos} {x y : Str} {pl : Sem Bool} (ho : Ev prog w A b (eval o env) (Da Hd (.str x))) (ha : Ev prog w A b (eval e env) (Da Hd (.str y)))
    (hse : starEach [e] env = [(false, eval e env)] := by rfl)
    (hm : eval (.Call (.Attribute o (Str.ofString "startswith") apos) [e] [] pos) env = (do
      let ov ← eval o env
      standAt apos.atName
      let (f, first) ← holding [ov] (getMethod ov (Str.ofString "startswith") pl)
      callWith pos f first (backTo pos (starEach [e] env)) (backToKw pos (keywordEach [] env))) := by rfl) :
    Ev prog w A b (eval (.Call (.Attribute o (Str.ofString "startswith") apos) [e] [] pos) env) (Va (.bool (Txt.startswith x y))) :=
  ev_methS (pl := pl) ho PySem.F.slot_str_startswith PySem.F.type_str_startswith (evs_cons (up_da _ _) ha evs_nil hse) (fun s t vs _ a => by
    obtain ⟨v, rfl, r⟩ := alls1 a
    obtain ⟨u, rfl⟩ := Rp.str_inv r
    exact Gives.of fun Q E q => SC.startswith (q _ s.heap s.toks (Kp.refl _) rfl)) (by rw [hse]; rfl) (by rw [hse]; rfl) hm
theorem ev_ends {o e : Expr} {apos pos : Pos} {x y : Str} {pl : Sem Bool} (ho : Ev prog w A b (eval o env) (Da Hd (.str x))) (ha : Ev prog w A b (eval e env) (Da Hd (.str y)))
    (hse : starEach [e] env = [(false, eval e env)] := by rfl)
    (hm : eval (.Call (.Attribute o (Str.ofString "endswith") apos) [e] [] pos) env = (do
      let ov ← eval o env
      standAt apos.atName
      let (f, first) ← holding [ov] (getMethod ov (Str.ofString "endswith") pl)
      callWith pos f first (backTo pos (starEach [e] env)) (backToKw pos (keywordEach [] env))) := by rfl) :
    Ev prog w A b (eval (.Call (.Attribute o (Str.ofString "endswith") apos) [e] [] pos) env) (Va (.bool (Txt.endswith x y))) :=
  ev_methS (pl := pl) ho PySem.F.slot_str_endswith PySem.F.type_str_endswith (evs_cons (up_da _ _) ha evs_nil hse) (fun s t vs _ a => by
    obtain ⟨v, rfl, r⟩ := alls1 a
    obtain ⟨u, rfl⟩ := Rp.str_inv r
    exact Gives.of fun Q E q => SC.endswith (q _ s.heap s.toks (Kp.refl _) rfl)) (by rw [hse]; rfl) (by rw [hse]; rfl) hm
/-- x += e for texts, x a local -/
theorem st_iaddS {e : Expr} {x : Str} {y z : Str} {σ : Str → Option Vw} {N : List Addr} {s₀ : Heap} {rest : List Stmt} {pos px : Pos} {Q : Flow → Shared → Prop} {E : Value → Shared → Prop} (F : FS s₀ N Hd s.heap) (V : Fv env (N ++ Hd) s.heap σ) (o : Own env N x) (hx : σ x = some (.d (.str y))) (he : Ev prog w A s.heap (eval e env) (Da (N ++ Hd) (.str z))) (hz : y.length + z.length ≤ sizeLine)
    (next : ∀ h2 k, FS s₀ N Hd h2 → KpH N s.heap h2 → Kq s.heap h2 → Fv env (N ++ Hd) h2 (upd σ x (.d (.str (y ++ z)))) → wpAny (model prog w) A (execs rest env) Q E { s with heap := h2, toks := k })
    (hl : env.kindOf x = some .local := by rfl) (hk : env.scope.kind = .function := by rfl) : wpAny (model prog w) A (execs (.AugAssign (.Name x px) .Add e pos :: rest) env) Q E s := by
  refine wpAny_execs_cons (wpAny_AugAssign_Name ?_)
  obtain ⟨m, v, hn, hv, r⟩ := V.loc hx hl
  refine wpAny_loadName_local hk hl hn hv ?_
  refine he.use (Kp.refl _) fun v2 h1 k1 kp1 p1 => ?_
  refine (g_iadds (Rp.up r kp1) p1 hz).use fun v3 h3 k3 kp3 p3 => ?_
  have V3 := V.up (kp1.trans kp3)
  have F3 := F.grow (kp1.trans kp3)
  exact put (s := { s with heap := h3, toks := k3 }) (d := .d (.str (y ++ z))) V3 o inl_of p3 (fun h4 k4 kN kq hx4 V4 => next h4 k4 (F3.up kN fun a ha => hx4 a (F3.hs a (inl_of a ha))) ((kp1.trans kp3).toH.trans kN) ((kp1.trans kp3).q.trans kq) V4) hk

set_option maxHeartbeats 4000000
theorem join_spec (G : Gd w mg mb s.heap) {n : Nat} (R : Rm (n + 1) A) {v1 v2 : Value} {x y : Str} (r1 : Rp Hd s.heap v1 (.str x)) (r2 : Rp Hd s.heap v2 (.str y)) (hs : Hs Hd s.heap) (hz : x.length + y.length + 1 ≤ 1000000) :
    Gives prog w A s (call (.ref 131) [v1, v2] []) (Da Hd (.str (joinF x y))) := by
  refine call_fn (BP := fun h' bs => ∃ t, bs = [(Str.ofString "a", v1), (Str.ofString "p", .ref t)] ∧ Rp Hd h' (.ref t) (.tuple [.str y])) (fun z => if z = Str.ofString "a" then some (.d (.str x)) else if z = Str.ofString "p" then some (.d (.tuple [.str y])) else none) hs R.room (G.X 131 _ rfl) rfl G.nl (codeRec_of G.X (by rfl)) rfl ?_ (by decide) ?_ ?_ ?_
  · intro Q E q
    show wpAny _ _ (newTuple [v2] >>= fun t => pure [(Str.ofString "a", v1), (Str.ofString "p", t)]) Q E s
    exact wpAny_bind (wpAny_newObj_type (wpAny_pure (q _ _ s.toks (Kp.push _ _) ⟨_, rfl, rp_newTup hs (.cons r2 .nil)⟩)) (by show 1 ≤ sizeLine; decide))
  · rintro h' bs ⟨t, rfl, _⟩; exact locs rfl
  · rintro h' bs kp' ⟨t, rfl, rt⟩ z d e
    split at e
    · rename_i q; subst q; cases e; exact ⟨v1, rfl, r1.up kp'⟩
    · split at e
      · rename_i q; subst q; cases e; exact ⟨_, rfl, rt⟩
      · cases e
  intro h₁ k L F V Q E q
  have G1 := G.up F.k0
  refine st_setd (.str x) F V own_l (ev_callF (glob G1 (by rfl)) (G1.X 110 _ rfl) rfl (evs_cons (up_da _ _) (ev_varL V rfl) evs_nil) fun s' vs kb a => ?_) ?_
  · obtain ⟨v, rfl, r⟩ := alls1 a
    exact fspath_spec (G1.up kb) R.deeper r
  intro h2 k2 F2 _ _ V2
  have G2 := G.up F2.k0
  refine st_setd (.str slash) F2 V2 own_l (ev_callF (glob G2 (by rfl)) (G2.X 124 _ rfl) rfl (evs_cons (up_da _ _) (ev_varL V2 rfl) evs_nil) fun s' vs kb a => ?_) ?_
  · obtain ⟨v, rfl, r⟩ := alls1 a
    exact sep_spec (G2.up kb) R.deeper r
  intro h3 k3 F3 _ _ V3
  refine st_setd (.str x) F3 V3 own_l (ev_varL V3 rfl) ?_
  intro h4 k4 F4 _ _ V4
  refine st_try ?_
  refine st_forV (fun i z => if z = Str.ofString "path" then some (.d (.str (if i = 0 then x else joinF x y))) else if z = Str.ofString "sep" then some (.d (.str slash)) else none) (fun _ _ _ => True) F4 V4 (fun a h => inl_of a h) own_l (iter_tup (R.deeper (env := default)).hh (ev_varL V4 rfl)) ?_ (fun _ _ _ _ => trivial) (fun _ _ _ _ _ _ _ => trivial) (fun _ _ _ _ _ _ _ => trivial) ?_ ?_
  · intro z d e
    split at e
    · rename_i q; subst q; cases e; rfl
    · split at e
      · rename_i q; subst q; cases e; rfl
      · cases e
  · intro I i d h5 k5 hI hd F5 V5 _ Q' E' q'
    have hi : i = 0 ∧ d = .str y := by
      cases i with
      | zero => exact ⟨rfl, by simpa using hd.symm⟩
      | succ i => simp at hd
    obtain ⟨rfl, rfl⟩ := hi
    have G5 := G.up F5.k0
    refine st_setd (.str y) F5 V5 own_l (ev_callF (glob G5 (by rfl)) (G5.X 110 _ rfl) rfl (evs_cons (up_da _ _) (ev_varL V5 rfl) evs_nil) fun s' vs kb a => ?_) ?_
    · obtain ⟨v, rfl, r⟩ := alls1 a
      exact fspath_spec (G5.up kb) R.deeper r
    intro h6 k6 F6 kk6 _ V6
    have hsz : (1000000 : Nat) ≤ sizeLine := by decide
    have fin : ∀ (h7 : Heap) (k7 : Nat), KpH [L] h6 h7 → FS s.heap [L] (I :: Hd) h7 → (∀ e τ, Fv e ([L] ++ I :: Hd) h7 τ → τ (Str.ofString "path") = some (.d (.str (joinF x y))) → τ (Str.ofString "sep") = some (.d (.str slash)) → Fv e ([L] ++ I :: Hd) h7 (fun z => if z = Str.ofString "path" then some (.d (.str (if 0 + 1 = 0 then x else joinF x y))) else if z = Str.ofString "sep" then some (.d (.str slash)) else none)) := by
      intro h7 k7 _ _ e τ Vτ e1 e2
      refine Vτ.less fun z d e => ?_
      split at e
      · rename_i q; subst q; cases e; exact e1
      · split at e
        · rename_i q; subst q; cases e; exact e2
        · cases e
    refine st_if (tr_or2 (tr_boolE (ev_starts (x := y) (y := slash) (ev_varL V6 rfl) (ev_varL V6 rfl))) fun _ => tr_not (tr_strE (x := x) (ev_varL V6 rfl) (by omega))) ?_ ?_
    · intro hb h7 k7 kp7
      refine st_setd (.str y) (F6.grow kp7) (V6.up kp7) own_l (ev_varL (V6.up kp7) rfl) ?_
      intro h8 k8 F8 kk8 _ V8
      have hj : joinF x y = y := by unfold joinF; rw [if_pos hb]
      exact st_nil (st_nil (q' h8 k8 (kk6.trans (kp7.toH.trans kk8)) F8 (fin h8 k8 (kp7.toH.trans kk8) F8 _ _ V8 (by rw [hj]; rfl) rfl) trivial))
    · intro hb h7 k7 kp7
      refine st_if (tr_boolE (ev_ends (x := x) (ev_varL (V6.up kp7) rfl) (ev_varL (V6.up kp7) rfl))) ?_ ?_
      · intro hc h8 k8 kp8
        have V8 := V6.up (kp7.trans kp8)
        refine st_iaddS (y := x) (F6.grow (kp7.trans kp8)) V8 own_l rfl (ev_varL V8 rfl) (by omega) ?_
        intro h9 k9 F9 kk9 _ V9
        have hj : joinF x y = x ++ y := by unfold joinF; rw [if_neg (by rw [hb]; decide), if_pos hc]
        exact st_nil (st_nil (st_nil (q' h9 k9 (kk6.trans ((kp7.trans kp8).toH.trans kk9)) F9 (fin h9 k9 ((kp7.trans kp8).toH.trans kk9) F9 _ _ V9 (by rw [hj]; rfl) rfl) trivial)))
      · intro hc h8 k8 kp8
        have V8 := V6.up (kp7.trans kp8)
        have hsl : slash.length = 1 := rfl
        refine st_iaddS (y := x) (z := slash ++ y) (F6.grow (kp7.trans kp8)) V8 own_l rfl (ev_bin (up_da _ _) (ev_varL V8 rfl) (ev_varL V8 rfl) fun s' a b _ p1 p2 => g_adds p1 p2 (by omega)) (by rw [strLen_append]; omega) ?_
        intro h9 k9 F9 kk9 _ V9
        have hj : joinF x y = x ++ (slash ++ y) := by unfold joinF; rw [if_neg (by rw [hb]; decide), if_neg (by rw [hc]; decide)]
        exact st_nil (st_nil (st_nil (q' h9 k9 (kk6.trans ((kp7.trans kp8).toH.trans kk9)) F9 (fin h9 k9 ((kp7.trans kp8).toH.trans kk9) F9 _ _ V9 (by rw [hj]; rfl) rfl) trivial)))
  · intro I h5 h6 k6 hI _ kI F6 V6
    refine st_nil (st_return (P := Da ([L] ++ Hd) (.str (joinF x y))) (ev_varL V6 rfl) ?_)
    intro v h' k' kp' p
    exact q v h' k' (F6.k0.trans kp') (p.sub fun a ha => List.mem_append.mpr (.inr ha))
end
end Mine
end
section
set_option maxRecDepth 100000
namespace Mine
open PySem PySem.W PySem.W.X PySem.Calls PyProof.Rows

/-- a frame's facts as a list -/
abbrev sg (l : List (Str × Vw)) : Str → Option Vw := fun z => l.lookup z
theorem sg_all {l : List (Str × Vw)} {R : Str → Vw → Prop} (h : ∀ p ∈ l, R p.1 p.2) : ∀ y e, sg l y = some e → R y e := fun y e q => h (y, e) (mem_of_lookup q)
theorem sg_nil {R : Str → Vw → Prop} : ∀ p ∈ ([] : List (Str × Vw)), R p.1 p.2 := fun _ h => nomatch h
theorem sg_cons {l : List (Str × Vw)} {x : Str} {d : Vw} {R : Str → Vw → Prop} (a : R x d) (h : ∀ p ∈ l, R p.1 p.2) : ∀ p ∈ (x, d) :: l, R p.1 p.2 := fun p hp => by
  rcases List.mem_cons.mp hp with rfl | hp
  · exact a
  · exact h p hp
theorem sb_nil {bs : List (Str × Value)} {Hd : List Addr} {h : Heap} : ∀ p ∈ ([] : List (Str × Vw)), ∃ v, bs.reverse.lookup p.1 = some v ∧ Rv Hd h v p.2 := fun _ h => nomatch h
theorem sb_cons {bs : List (Str × Value)} {Hd : List Addr} {h : Heap} {l : List (Str × Vw)} {x : Str} {d : Vw} {v : Value} (r : Rv Hd h v d) (hl : ∀ p ∈ l, ∃ v, bs.reverse.lookup p.1 = some v ∧ Rv Hd h v p.2) (e : bs.reverse.lookup x = some v := by rfl) : ∀ p ∈ (x, d) :: l, ∃ v, bs.reverse.lookup p.1 = some v ∧ Rv Hd h v p.2 := fun p hp => by
  rcases List.mem_cons.mp hp with rfl | hp
  · exact ⟨v, e, r⟩
  · exact hl p hp
theorem sl_nil {σ : Str → Option Vw} : ∀ p ∈ ([] : List (Str × Vw)), σ p.1 = some p.2 := fun _ h => nomatch h
theorem sl_cons {σ : Str → Option Vw} {l : List (Str × Vw)} {x : Str} {d : Vw} (hl : ∀ p ∈ l, σ p.1 = some p.2) (e : σ x = some d := by rfl) : ∀ p ∈ (x, d) :: l, σ p.1 = some p.2 := fun p hp => by
  rcases List.mem_cons.mp hp with rfl | hp
  · exact e
  · exact hl p hp
theorem sl {σ : Str → Option Vw} {l : List (Str × Vw)} (h : ∀ p ∈ l, σ p.1 = some p.2) : ∀ y d, sg l y = some d → σ y = some d := fun y d e => h (y, d) (mem_of_lookup e)
/-- entry into a plain def whose arguments bind at once -/
theorem call_fnP {prog : Program} {w : World} {A : Around} {s : Shared} {P : Heap → Value → Prop} {a : Addr} {o : Obj} {fd : FuncData} {body : List Stmt} {args : List Value} {binds : List (Str × Value)} {Hd : List Addr} (l : List (Str × Vw)) (hs : Hs Hd s.heap)
    (hroom : A.depth < recursionLimit) (ho : s.heap.get? a = some o) (hdata : o.data = .func fd) (hlim : s.heap.NoLimit) (hcd : s.heap.CodeRec fd.code fd.qualname) (hbody : fd.body = .stmts body)
    (hbind : bindArgs fd ⟨args, []⟩ = pure binds)
    (hcell : ∀ x ∈ fd.scope.names, x.2 ≠ .cell) (hloc : ∀ x ∈ binds, fd.scope.names.lookup x.1 = some .local)
    (hσ : ∀ p ∈ l, ∃ v, binds.reverse.lookup p.1 = some v ∧ Rv Hd s.heap v p.2)
    (h : ∀ h₁ k L, FS s.heap [L] Hd h₁ → Fv (callEnv fd L a) ([L] ++ Hd) h₁ (sg l) → ∀ (Q : Flow → Shared → Prop) (E : Value → Shared → Prop), (∀ v h' k', Kp s.heap h' → P h' v → Q (.ret v) { s with heap := h', toks := k' }) →
      wpAny (model prog w) (A.deeper (callEnv fd L a)) (execs body (callEnv fd L a)) Q E { s with heap := h₁, toks := k })
    (hco : fd.scope.isCoroutine = false := by rfl) (hgen : fd.scope.isGenerator = false := by rfl) (hk : fd.scope.kind = .function := by rfl) (hclo : fd.closure = [] := by rfl) :
    Gives prog w A s (call (.ref a) args []) P :=
  call_fn (BP := fun _ bs => bs = binds) (sg l) hs hroom ho hdata hlim hcd hbody (bind_pure hbind) hcell (fun _ bs e => by subst e; exact hloc) (fun h' bs kp e x d q => by
    subst e
    obtain ⟨v, h1, h2⟩ := sg_all (R := fun x d => ∃ v, bs.reverse.lookup x = some v ∧ Rv Hd s.heap v d) hσ x d q
    exact ⟨v, h1, h2.of (kh_up kp)⟩) h hco hgen hk hclo

section
variable {prog : Program} {w : World} {mg mb : Str → Option Value} {A : Around} {s : Shared} {b : Heap} {env : Env} {Hd : List Addr} {P : Heap → Value → Prop}
def headF (x : Str) : Str := Txt.slice x none (some (Txt.rfind x slash + 1))
def dirF (x : Str) : Str := if (((headF x).length : Int) != 0) && ((headF x).cps.toList != (Txt.mul slash (headF x).length).cps.toList) then Txt.rstripChars (headF x) slash else headF x
theorem mulOk_small {n : Nat} (h : n ≤ 1000) : MulOk slash n := by
  refine ⟨by simp; omega, fun a b => ?_, fun a b => ?_⟩
  · have : slash.length = 1 := rfl
    rw [this]
    have h1 : (1 : Int) ≤ (2 ^ 63 - 1) / n := by
      rw [Int.le_ediv_iff_mul_le (by omega)]; omega
    omega
  · have : slash.length = 1 := rfl
    rw [this]
    have hb : (1000 : Nat) ≤ sizeLine := by decide
    unfold Builtin.Str.tooLong
    simp
    omega
set_option maxHeartbeats 4000000
theorem dirname_spec (G : Gd w mg mb s.heap) {n : Nat} (R : Rm (n + 1) A) {v1 : Value} {x : Str} (r1 : Rp Hd s.heap v1 (.str x)) (hs : Hs Hd s.heap) (hz : x.length ≤ 1000) (hz2 : (headF x).length ≤ 1000) :
    Gives prog w A s (call (.ref 138) [v1] []) (Da Hd (.str (dirF x))) := by
  have hsz : (1000000 : Nat) ≤ sizeLine := by decide
  refine call_fnP [(Str.ofString "p", .d (.str x))] hs R.room (G.X 138 _ rfl) rfl G.nl (codeRec_of G.X (by rfl)) rfl rfl (by decide) (locs rfl) (sb_cons (v := v1) r1 sb_nil) ?_
  intro h₁ k L F V Q E q
  have G1 := G.up F.k0
  refine st_setd (.str x) F V own_l (ev_callF (glob G1 (by rfl)) (G1.X 110 _ rfl) rfl (evs_cons (up_da _ _) (ev_varL V rfl) evs_nil) fun s' vs kb a => ?_) ?_
  · obtain ⟨v, rfl, r⟩ := alls1 a
    exact fspath_spec (G1.up kb) R.deeper r
  intro h2 k2 F2 _ _ V2
  have G2 := G.up F2.k0
  refine st_setd (.str slash) F2 V2 own_l (ev_callF (glob G2 (by rfl)) (G2.X 124 _ rfl) rfl (evs_cons (up_da _ _) (ev_varL V2 rfl) evs_nil) fun s' vs kb a => ?_) ?_
  · obtain ⟨v, rfl, r⟩ := alls1 a
    exact sep_spec (G2.up kb) R.deeper r
  intro h3 k3 F3 _ _ V3
  refine st_setd (.int (Txt.rfind x slash + 1)) F3 V3 own_l (ev_bin (up_da _ _) (ev_methS (z := x) (ev_varL V3 rfl) PySem.F.slot_str_rfind PySem.F.type_str_rfind (evs_cons (up_da _ _) (ev_varL V3 rfl) evs_nil) fun s' t vs _ a => ?_) ev_int fun s' a b _ p1 p2 => g_add p1 p2) ?_
  · obtain ⟨v, rfl, r⟩ := alls1 a
    obtain ⟨u, rfl⟩ := Rp.str_inv r
    exact Gives.of fun Q E q => SC.rfind (q _ s'.heap _ (Kp.refl _) (.int _ _))
  intro h4 k4 F4 _ _ V4
  refine st_setd (.str (headF x)) F4 V4 own_l (sliceS (lo := none) (hi := some (Txt.rfind x slash + 1)) (ev_varL V4 rfl) trivial ((ev_varL V4 rfl).imp fun _ _ _ p => p.sub (fun _ h => nomatch h)) (by omega)) ?_
  intro h5 k5 F5 _ _ V5
  have G5 := G.up F5.k0
  refine st_if (β := (((headF x).length : Int) != 0) && ((headF x).cps.toList != (Txt.mul slash (headF x).length).cps.toList)) (tr_and2 (tr_strE (x := headF x) (ev_varL V5 rfl) (by omega)) fun _ => tr_cmp (up_da _ _) (ev_varL V5 rfl) (ev_bin (up_da _ (.str slash)) (ev_varL V5 rfl) (ev_callB (bltn G5 (by rfl) rfl) (evs_cons (up_da _ _) (ev_varL V5 rfl) evs_nil) fun s' vs kb a => by
      obtain ⟨v, rfl, r⟩ := alls1 a
      exact g_lenS r (by omega)) fun s' a b _ p1 p2 => g_muls p1 p2 (mulOk_small hz2)) fun s' a b _ p1 p2 => g_nes p1 p2) ?_ ?_
  · intro hc h6 k6 kp6
    refine st_setd (.str (Txt.rstripChars (headF x) slash)) (F5.grow kp6) (V5.up kp6) own_l (ev_methS (z := headF x) (ev_varL (V5.up kp6) rfl) PySem.F.slot_str_rstrip PySem.F.type_str_rstrip (evs_cons (up_da _ _) (ev_varL (V5.up kp6) rfl) evs_nil) fun s' t vs _ a => ?_) ?_
    · obtain ⟨v, rfl, r⟩ := alls1 a
      obtain ⟨u, rfl⟩ := Rp.str_inv r
      exact Gives.of fun Q E q => SC.rstripChars (fun t' k => q _ s'.heap _ (Kp.refl _) (.str _ _)) (by omega)
    intro h7 k7 F7 _ _ V7
    refine st_nil (st_return (P := Da ([L] ++ Hd) (.str (dirF x))) ((ev_varL V7 rfl).imp fun _ _ _ p => by unfold dirF; rw [if_pos hc]; exact p) ?_)
    intro v h' k' kp' p
    exact q v h' k' (F7.k0.trans kp') (p.sub fun a ha => List.mem_append.mpr (.inr ha))
  · intro hc h6 k6 kp6
    refine st_nil (st_return (P := Da ([L] ++ Hd) (.str (dirF x))) ((ev_varL (V5.up kp6) rfl).imp fun _ _ _ p => by unfold dirF; rw [if_neg (by rw [hc]; decide)]; exact p) ?_)
    intro v h' k' kp' p
    exact q v h' k' ((F5.grow kp6).k0.trans kp') (p.sub fun a ha => List.mem_append.mpr (.inr ha))
end
end Mine
end
section
set_option maxRecDepth 100000
namespace Mine
open PySem PySem.W PySem.W.X PySem.Calls PyProof.Rows

section
variable {prog : Program} {w : World} {A : Around} {s : Shared} {env : Env} {b b' : Heap} {Hd H N : List Addr} {σ : Str → Option Vw} {s₀ : Heap}
/-- the names within a comprehension -/
abbrev LvN (x : Str) : Addr → PyData → Value → Heap → Prop := fun C _ v h => ∃ m, h.Ns C m ∧ m x = some v
theorem lookup_relabel {env : Env} {y : Str} {names : List (Str × NameKind)} (h : (names.map fun (n, k) => if (k == NameKind.free && env.scope.kind == .function && env.kindOf n == some .cell) then (n, NameKind.cell) else (n, k)).lookup y = some .local) : (y, NameKind.local) ∈ names := by
  obtain ⟨⟨n, k⟩, hm, e⟩ := List.mem_map.mp (mem_of_lookup h)
  dsimp only at e
  split at e
  · cases e
  · cases e; exact hm
theorem comp_fv {x : Str} {scope : Scope} {cl : List (Str × Addr)} {C : Addr} {d : PyData} {v : Value} (V : Fv env Hd b σ) (hsub : ∀ y c, cl.lookup y = some c → env.cells.lookup y = some c) (ext : Ext b Hd b' H) (hl : ∀ p ∈ scope.names, p.2 = .local → p.1 = x ∨ p.1 = Str.ofString ".0") (h0 : σ (Str.ofString ".0") = none) (hx : cl.lookup x = none) (r : Rp H b' v d) (lv : LvN x C d v b') :
    Fv (compEnvC scope cl C env) H b' (upd σ x (.d d)) := by
  obtain ⟨m, hn, hv⟩ := lv
  have cells : ∀ y c, cl.lookup y = some c → ∃ cv, b'.IsCell c cv ∧ ∀ d', (upd σ x (.d d)) y = some d' → ∃ v, cv = some v ∧ Rv H b' v d' := fun y c e => by
    obtain ⟨cv, hc, h3⟩ := V.cells y c (hsub y c e)
    refine ⟨cv, hc.keeps ext.kp, fun d' q => ?_⟩
    have : y ≠ x := fun z => by rw [z, hx] at e; cases e
    simp only [upd, if_neg this] at q
    obtain ⟨v, a, b⟩ := h3 d' q
    exact ⟨v, a, b.of ext.hid⟩
  refine ⟨⟨m, hn, fun y d' e k => ?_⟩, cells, fun y c e => ?_, fun y z c e1 e2 => V.inj y z c (hsub _ _ e1) (hsub _ _ e2)⟩
  · by_cases q : y = x
    · subst q
      simp only [upd, if_true] at e
      cases e
      exact ⟨v, hv, r⟩
    · rcases hl _ (lookup_relabel (env := env) (names := scope.names) k) rfl with z | z
      · exact absurd z q
      · simp only [upd, if_neg q] at e
        rw [show y = _ from z, h0] at e; cases e
  · obtain ⟨cv, hc, _⟩ := cells y c e
    intro z
    rw [z] at hc
    obtain ⟨o, _, _, e1, e2, _⟩ := hn
    obtain ⟨o', e3, e4⟩ := hc
    change b'.get? C = some o' at e3
    rw [e1] at e3; cases e3
    rw [e2] at e4; cases e4
theorem comp_store {x : Str} {px : Pos} {scope : Scope} {cl : List (Str × Addr)} {ds : List PyData} (hx : (relabel scope env).names.lookup x = some .local) (hk : scope.kind = .function) :
    ∀ (C : Addr) (H : List Addr) (s : Shared) (v : Value) (d : PyData) (Q : Unit → Shared → Prop) (E : Value → Shared → Prop) (m : Str → Option Value), C ∈ H → d ∈ ds → s.heap.Ns C m → Rp H s.heap v d → (∀ h' k m', h'.Ns C m' → LvN x C d v h' → KpH [C] s.heap h' → Q () { s with heap := h', toks := k }) → wpAny (model prog w) A (assign (.Name x px) (compEnvC scope cl C env) v) Q E s := by
  intro C H s v d Q E m hC hd hn r q
  refine wpAny_assign_Name (wpAny_storeName_local (env := compEnvC scope cl C env) hx hn (fun h2 hn2 hs2 => q h2 _ _ hn2 ⟨_, hn2, if_pos rfl⟩ (KpH.same hs2 (.head _))) ?_)
  show (scope.kind == .class || (scope.kind == .module && _)) = false
  rw [hk]; rfl
/-- the test of a comprehension -/
theorem test_nil {cenv : Env} {f : Expr → Bool → Sem (ForInStep Bool)} : Tr prog w A b (forIn ([] : List Expr) true f) true := fun s Q E kb q => by
  rw [List.forIn_nil]; exact wpAny_pure (q s.heap s.toks (Kp.refl _))
theorem test_one {cenv : Env} {c : Expr} {β : Bool} (h : Tr prog w A b (isTrue c cenv (eval c cenv)) β) : Tr prog w A b (forIn [c] true fun c r => if r = true then do let ok ← isTrue c cenv (eval c cenv); pure (ForInStep.yield ok) else pure (ForInStep.yield r)) β := fun s Q E kb q => by
  rw [List.forIn_cons]
  simp only [if_true]
  refine wpAny_bind (wpAny_bind (h s _ _ kb fun h' k kp => wpAny_pure ?_))
  show wpAny (model prog w) A (forIn ([] : List Expr) β _) _ _ _
  rw [List.forIn_nil]
  exact wpAny_pure (q h' k kp)
/-- [elt for x in iter ..] -/
theorem ev_compF {elt iter : Expr} {ifs : List Expr} {x : Str} {px : Pos} {scope : Scope} {cl : List (Str × Addr)} {pos : Pos} {ds : List PyData} (f : PyData → PyData) (p : PyData → Bool)
    (V : Fv env Hd b σ) (hs : Hs Hd b) (hit : Iter prog w A b Hd (eval iter env) ds) (hz : ds.length ≤ sizeLine)
    (htest : ∀ C b' H d, d ∈ ds → Ext b Hd b' H → Fv (compEnvC scope cl C env) H b' (upd σ x (.d d)) → Tr prog w A b' (forIn ifs true fun c r => if r = true then do let ok ← isTrue c (compEnvC scope cl C env) (eval c (compEnvC scope cl C env)); pure (ForInStep.yield ok) else pure (ForInStep.yield r)) (p d))
    (helt : ∀ C b' H d, d ∈ ds → p d = true → Ext b Hd b' H → Fv (compEnvC scope cl C env) H b' (upd σ x (.d d)) → Ev prog w A b' (eval elt (compEnvC scope cl C env)) (Da H (f d)))
    (hclos : closureFor scope env = pure cl := by rfl) (hsub : ∀ y c, cl.lookup y = some c → env.cells.lookup y = some c) (hl : ∀ p ∈ scope.names, p.2 = .local → p.1 = x ∨ p.1 = Str.ofString ".0" := by decide) (h0 : σ (Str.ofString ".0") = none := by rfl) (hx : cl.lookup x = none := by rfl) (hxl : (relabel scope env).names.lookup x = some .local := by rfl)
    (hcell : ∀ y ∈ scope.names, y.2 ≠ .cell := by decide) (hkind : scope.kind = .function := by rfl) (hnames : ∀ y ∈ scope.names, y.2 = .local → scope.names.lookup y.1 = some .local := by decide) (hfs : ∀ x, foldedSetIterable iter env x = pure x := by intro _; rfl) :
    Ev prog w A b (eval (.ListComp elt [⟨.Name x px, iter, ifs, 0⟩] scope pos) env) (fun h v => Pl Hd h v ((ds.filter p).map f)) :=
  (ev_comp (Lv := LvN x) f p hs hit hz hclos (comp_store hxl hkind) (fun C d v h h' ⟨m, hn, e⟩ k => ⟨m, hn.keeps k, e⟩)
    (fun C b' H v d hd ext r lv => htest C b' H d hd ext (comp_fv V hsub ext hl h0 hx r lv)) (fun C b' H v d hd hp ext r lv => helt C b' H d hd hp ext (comp_fv V hsub ext hl h0 hx r lv)) hcell hkind hnames hfs (by intro _ _; rfl)).imp fun h v _ q => Pl.mk q.1 q.2
/-- y = [elt for x in iter ..], y a local: the store comes ahead of the names' end -/
theorem st_setComp {elt iter : Expr} {ifs : List Expr} {x y : Str} {px py : Pos} {scope : Scope} {cl : List (Str × Addr)} {pos spos : Pos} {ds : List PyData} {rest : List Stmt} {Q : Flow → Shared → Prop} {E : Value → Shared → Prop} (f : PyData → PyData) (p : PyData → Bool)
    (F : FS s₀ N Hd s.heap) (V : Fv env (N ++ Hd) s.heap σ) (o : Own env N y) (hit : Iter prog w A s.heap (N ++ Hd) (eval iter env) ds) (hz : ds.length ≤ sizeLine)
    (htest : ∀ C b' H d, d ∈ ds → Ext s.heap (N ++ Hd) b' H → Fv (compEnvC scope cl C env) H b' (upd σ x (.d d)) → Tr prog w A b' (forIn ifs true fun c r => if r = true then do let ok ← isTrue c (compEnvC scope cl C env) (eval c (compEnvC scope cl C env)); pure (ForInStep.yield ok) else pure (ForInStep.yield r)) (p d))
    (helt : ∀ C b' H d, d ∈ ds → p d = true → Ext s.heap (N ++ Hd) b' H → Fv (compEnvC scope cl C env) H b' (upd σ x (.d d)) → Ev prog w A b' (eval elt (compEnvC scope cl C env)) (Da H (f d)))
    (next : ∀ h2 k, FS s₀ N Hd h2 → KpH N s.heap h2 → Kq s.heap h2 → Fv env (N ++ Hd) h2 (upd σ y (.p ((ds.filter p).map f))) → wpAny (model prog w) A (execs rest env) Q E { s with heap := h2, toks := k })
    (hclos : closureFor scope env = pure cl := by rfl) (hsub : ∀ y c, cl.lookup y = some c → env.cells.lookup y = some c) (hNb : ∀ a ∈ Nb env, a ∈ N ++ Hd) (hl : ∀ p ∈ scope.names, p.2 = .local → p.1 = x ∨ p.1 = Str.ofString ".0" := by decide) (h0 : σ (Str.ofString ".0") = none := by rfl) (hx : cl.lookup x = none := by rfl) (hxl : (relabel scope env).names.lookup x = some .local := by rfl)
    (hcell : ∀ y ∈ scope.names, y.2 ≠ .cell := by decide) (hkind : scope.kind = .function := by rfl) (hnames : ∀ y ∈ scope.names, y.2 = .local → scope.names.lookup y.1 = some .local := by decide) (hfs : ∀ x, foldedSetIterable iter env x = pure x := by intro _; rfl)
    (hk : env.scope.kind = .function := by rfl) (hsw : swapsWith (.ListComp elt [⟨.Name x px, iter, ifs, 0⟩] scope pos) (some (.Name y py)) spos.line env = pure true := by rfl) :
    wpAny (model prog w) A (execs (.Assign [.Name y py] (.ListComp elt [⟨.Name x px, iter, ifs, 0⟩] scope pos) spos :: rest) env) Q E s := by
  refine wpAny_execs_cons ?_
  rw [exec_Assign_Name_used _ _ _ _ hsw]
  refine wpAny_bind (wpAny_standAt (wpAny_bind ?_))
  show wpAny _ A (do let _ ← comprehension (.ListComp elt [⟨.Name x px, iter, ifs, 0⟩] scope pos) scope env _ (newList []) false (eval iter env) (some (assign (.Name y py) env))) _ _ s
  refine wpAny_bind (wpAny_mono (comp_core (Q := fun _ s' => wpAny (model prog w) A (execs rest env) Q E s') (E := E) (Lv := LvN x) (f := f) (p := p) (b := s.heap) (Hd := N ++ Hd) F.hs (Kp.refl _) hit hz hclos hcell hkind hnames hfs (comp_store hxl hkind)
    (fun C b' H v d hd ext r lv => htest C b' H d hd ext (comp_fv V hsub ext hl h0 hx r lv)) (fun C b' H v d hd hp ext r lv => helt C b' H d hd hp ext (comp_fv V hsub ext hl h0 hx r lv)) (fun C d v h h' ⟨m, hn, e⟩ k => ⟨m, hn.keeps k, e⟩) ?_ (by intro _ _; rfl)) (fun _ s' hq => wpAny_pure (wpAny_pure hq)) fun _ _ e => e)
  intro D C h' k m' H ys hn hD hC hDC kp hpl r hCH hDH hfr
  have hide : ∀ a ∈ C :: (N ++ Hd), a ∈ N ++ Hd ∨ s.heap.get? a = none := fun a ha => by
    rcases List.mem_cons.mp ha with rfl | ha
    · exact .inr hC
    · exact .inl ha
  have out : ∀ a, s.heap.get? a = none → a ∉ N ++ Hd := fun a e m => by obtain ⟨o, q⟩ := F.hs a m; rw [e] at q; cases q
  have V1 := V.hide kp hide
  have hDn : D ∉ C :: (N ++ Hd) := fun m => by
    rcases List.mem_cons.mp m with q | q
    · exact hDC q
    · exact out D hD q
  have pl : Pl (C :: (N ++ Hd)) h' (.ref D) ((ds.filter p).map f) := Pl.mk (Rp.list_mk (vs := ys.toList) hDn (by rw [Array.toArray_toList]; exact hpl.isList) (r.sub fun a ha => by
    rcases List.mem_cons.mp ha with rfl | ha
    · exact List.mem_append.mpr (.inl hCH)
    · exact List.mem_append.mpr (.inr ha))) ⟨D, ys, rfl, hpl⟩
  show wpAny _ A (assign (.Name y py) env (.ref D)) _ _ _
  refine wpAny_assign_Name (put (s := { s with heap := h', toks := k }) (d := .p ((ds.filter p).map f)) V1 o (fun a ha => .tail _ (inl_of a ha)) pl (fun h2 k2 kN kq hx2 V2 => ?_) hk)
  have hCN : C ∉ N := fun m => out C hC (inl_of C m)
  refine ⟨m', hn.at' fun o e => kN _ _ hCN e, fun h3 hs3 => ?_⟩
  have F1 := F.grow kp
  have F2 := F1.up kN fun a ha => hx2 a (F1.hs a (inl_of a ha))
  have V3 : Fv env (N ++ Hd) h3 (upd σ y (.p ((ds.filter p).map f))) := (V2.upN (K := [C]) (KpH.same hs3 (.head _)) (fun a ha => by rw [List.mem_singleton.mp ha]; exact .head _) (fun m => out C hC (List.mem_singleton.mp m ▸ hNb _ (.head _))) (fun z c hc m => out C hC (List.mem_singleton.mp m ▸ hNb _ (.tail _ (List.mem_map.mpr ⟨_, mem_of_lookup hc, rfl⟩))))).sub fun a ha => .tail _ ha
  refine next h3 k2 ⟨fun a o e => (hs3.2 a (fun z => ?_)).trans (F2.k0 a o e), F.nw, fun a ha => ?_⟩ (fun a o n e => (hs3.2 a (fun z => by rw [z, hC] at e; cases e)).trans (kN a o n (kp a o e))) (fun a o e q => (hs3.2 a (fun z => by rw [z, hC] at e; cases e)).trans (kq a o (kp a o e) q)) V3
  · rw [z] at e; rw [F.k0 _ _ e] at hC; cases hC
  · obtain ⟨o, e⟩ := F2.hs a ha
    exact ⟨o, (hs3.2 a (fun z => out C hC (z ▸ ha))).trans e⟩
end
end Mine
end
section
set_option maxRecDepth 100000
namespace Mine
open PySem PySem.W PySem.W.X PySem.Calls PyProof.Rows

/-- names by their number -/
def nm (i : Nat) : Str := Str.mk #[97 + i]
def eS (i : Nat) : PyData := .str (nm i)
def eR (r : List Nat) : PyData := .list (r.map eS)
def dInt : PyData → Int | .int i => i | _ => 0
def rowN (n : Int) : List Nat := ([((n.fdiv 3).fmod 3).toNat, ((n.fdiv 9).fmod 3).toNat, ((n.fdiv 27).fmod 3).toNat]).take ((n.fmod 3).toNat + 1)
def newOf (rows : List (List Nat)) (row : List Nat) : List (List Nat) := (((List.range row.length).map (· + 1)).filter fun k => !rows.contains (row.take k)).map fun k => row.take k
def addRow (rows : List (List Nat)) (row : List Nat) : List (List Nat) := rows ++ newOf rows row
def seedR (ns : List Int) : List (List Nat) := [[0, 1], [0, 2], [3]] ++ ns.map rowN
def rowsF (ns : List Int) : List (List Nat) := (seedR ns).foldl addRow []
/-- rows of at most three names -/
def okR (r : List Nat) : Prop := r.length ≤ 3 ∧ ∀ i ∈ r, i < 4
theorem fmod3 (n : Int) : n.fmod 3 = 0 ∨ n.fmod 3 = 1 ∨ n.fmod 3 = 2 := by
  have h1 := Int.fmod_nonneg_of_pos n (b := 3) (by decide)
  have h2 := Int.fmod_lt_of_pos n (b := 3) (by decide)
  omega
theorem okR_rowN (n : Int) : okR (rowN n) := by
  unfold rowN
  refine ⟨by simp; omega, fun i hi => ?_⟩
  have := List.mem_of_mem_take hi
  simp only [List.mem_cons, List.not_mem_nil, or_false] at this
  rcases this with rfl | rfl | rfl
  · rcases fmod3 (n.fdiv 3) with e | e | e <;> rw [e] <;> decide
  · rcases fmod3 (n.fdiv 9) with e | e | e <;> rw [e] <;> decide
  · rcases fmod3 (n.fdiv 27) with e | e | e <;> rw [e] <;> decide
theorem okR_take {r : List Nat} (h : okR r) (k : Nat) : okR (r.take k) := ⟨by have := h.1; simp; omega, fun i hi => h.2 i (List.mem_of_mem_take hi)⟩
theorem okR_seed (ns : List Int) : ∀ r ∈ seedR ns, okR r := fun r hr => by
  rcases List.mem_append.mp hr with hr | hr
  · simp only [List.mem_cons, List.not_mem_nil, or_false] at hr
    rcases hr with rfl | rfl | rfl <;> exact ⟨by decide, by decide⟩
  · obtain ⟨n, _, rfl⟩ := List.mem_map.mp hr; exact okR_rowN n
theorem okR_new {rows : List (List Nat)} {row : List Nat} (h : okR row) : ∀ r ∈ newOf rows row, okR r := fun r hr => by
  obtain ⟨k, _, rfl⟩ := List.mem_map.mp hr; exact okR_take h k
theorem okR_fold : ∀ (l : List (List Nat)) (acc : List (List Nat)), (∀ r ∈ l, okR r) → (∀ r ∈ acc, okR r) → (∀ r ∈ l.foldl addRow acc, okR r) ∧ (l.foldl addRow acc).length ≤ acc.length + 3 * l.length
  | [], acc, _, ha => ⟨ha, by simp⟩
  | x :: l, acc, hl, ha => by
    have hx := hl x (.head _)
    have h1 : ∀ r ∈ addRow acc x, okR r := fun r hr => by
      rcases List.mem_append.mp hr with hr | hr
      · exact ha r hr
      · exact okR_new hx r hr
    have h2 : (addRow acc x).length ≤ acc.length + 3 := by
      unfold addRow newOf
      rw [List.length_append, List.length_map]
      have := List.length_filter_le (fun k => !acc.contains (x.take k)) ((List.range x.length).map (· + 1))
      rw [List.length_map, List.length_range] at this
      have := hx.1
      omega
    obtain ⟨h3, h4⟩ := okR_fold l (addRow acc x) (fun r hr => hl r (.tail _ hr)) h1
    exact ⟨h3, by rw [List.foldl_cons]; simp only [List.length_cons]; omega⟩
theorem nm_inj {i j : Nat} : (nm i == nm j) = decide (i = j) := by
  by_cases h : i = j
  · subst h; simp
  · have : nm i ≠ nm j := fun e => h (by have := congrArg (fun x : Str => x.cps[0]!) e; simp [nm] at this; omega)
    simp [h, this]
theorem eqv_eR : ∀ r r' : List Nat, PyData.eqvAll (r.map eS) (r'.map eS) = decide (r = r')
  | [], [] => rfl
  | [], _ :: _ => rfl
  | _ :: _, [] => rfl
  | a :: r, b :: r' => by
    have ih := eqv_eR r r'
    show (PyData.eqv (eS a) (eS b) && PyData.eqvAll (r.map eS) (r'.map eS)) = _
    rw [ih, show PyData.eqv (eS a) (eS b) = (nm a == nm b) from rfl, nm_inj]
    by_cases h1 : a = b <;> by_cases h2 : r = r' <;> simp [h1, h2]
theorem eqvR (r r' : List Nat) : PyData.eqv (eR r) (eR r') = decide (r = r') := eqv_eR r r'
theorem lay_r : ∀ r : List Nat, (∀ i ∈ r, i < 4) → PyData.canLayAll0 (r.map eS) = true
  | [], _ => rfl
  | a :: r, h => by
    have h0 : PyData.strOk (nm a) = true := by
      have := h a (.head _)
      rcases (by omega : a = 0 ∨ a = 1 ∨ a = 2 ∨ a = 3) with rfl | rfl | rfl | rfl <;> decide +kernel
    simp only [List.map_cons, PyData.canLayAll0, eS, PyData.canLay0]
    rw [h0, Bool.true_and]
    exact lay_r r fun i hi => h i (.tail _ hi)
theorem layR {r : List Nat} (h : okR r) : (eR r).canLay0 = true := by simp only [eR, PyData.canLay0]; exact lay_r r h.2
theorem layRs : ∀ {rs : List (List Nat)}, (∀ r ∈ rs, okR r) → PyData.canLayAll0 (rs.map eR) = true
  | [], _ => rfl
  | r :: rs, h => by
    simp only [List.map_cons, PyData.canLayAll0]
    rw [layR (h r (.head _)), Bool.true_and]
    exact layRs fun r hr => h r (.tail _ hr)
theorem dep_s : ∀ r : List Nat, PyData.depthAll (r.map eS) = 0
  | [] => rfl
  | a :: r => by show max 0 (PyData.depthAll (r.map eS)) = 0; rw [dep_s r]; rfl
theorem depR (r : List Nat) : (eR r).depth = 1 := by show PyData.depthAll (r.map eS) + 1 = 1; rw [dep_s]

section
variable {prog : Program} {w : World} {mg mb : Str → Option Value} {A : Around} {s : Shared} {b : Heap} {env : Env} {Hd : List Addr} {P : Heap → Value → Prop}
theorem g_range1 {v : Value} {n : Int} (r : Rp Hd s.heap v (.int n)) : Gives prog w A s (call (.type "range") [v] []) (RangeIs 0 n) := by
  obtain ⟨t, rfl⟩ := r.int_inv
  exact Gives.of fun Q E q => call_range_1 (q _ _ _ (Kp.push _ _) ⟨_, _, _, _, rfl, IsRange.new ..⟩)
theorem g_range2 {v u : Value} {a n : Int} (ra : Rp Hd s.heap v (.int a)) (r : Rp Hd s.heap u (.int n)) : Gives prog w A s (call (.type "range") [v, u] []) (RangeIs a n) := by
  obtain ⟨t, rfl⟩ := r.int_inv
  obtain ⟨t', rfl⟩ := ra.int_inv
  exact Gives.of fun Q E q => call_range_2 (q _ _ _ (Kp.push _ _) ⟨_, _, _, _, rfl, IsRange.new ..⟩)
abbrev abc : Str := Str.ofString "abc"
theorem item_abc {i : Int} (h : i = 0 ∨ i = 1 ∨ i = 2) : fitsSsize i = true ∧ (Txt.charAt abc i).isSome = true ∧ Txt.item abc i = nm i.toNat := by
  rcases h with rfl | rfl | rfl <;> exact ⟨by decide, by decide, by decide⟩
/-- where a parameter lies -/
abbrev ArgIn (fd : FuncData) (a : Addr) (binds : List (Str × Value)) (x : Str) (v : Value) (L : Addr) : Prop :=
  ((callEnvC fd L a).kindOf x = some .local ∧ (callEnvC fd L a).cells.lookup x = none ∧ bindL (callEnvC fd L a).kindOf binds (fun _ => none) x = some v) ∨ ((callEnvC fd L a).kindOf x = some .cell ∧ bindC (callEnvC fd L a).kindOf binds (fun _ => none) x = some v)
theorem sc_nil {fd : FuncData} {a : Addr} {binds : List (Str × Value)} {h : Heap} : ∀ L, ∀ p ∈ ([] : List (Str × Vw)), ∃ v, ArgIn fd a binds p.1 v L ∧ Rv Hd h v p.2 := fun _ _ h => nomatch h
theorem sc_cons {fd : FuncData} {a : Addr} {binds : List (Str × Value)} {h : Heap} {l : List (Str × Vw)} {x : Str} {d : Vw} {v : Value} (r : Rv Hd h v d) (e : ∀ L, ArgIn fd a binds x v L) (hl : ∀ L, ∀ p ∈ l, ∃ v, ArgIn fd a binds p.1 v L ∧ Rv Hd h v p.2) : ∀ L, ∀ p ∈ (x, d) :: l, ∃ v, ArgIn fd a binds p.1 v L ∧ Rv Hd h v p.2 := fun L p hp => by
  rcases List.mem_cons.mp hp with rfl | hp
  · exact ⟨v, e L, r⟩
  · exact hl L p hp
/-- entry into a def with cells -/
theorem call_fnK {a : Addr} {o : Obj} {fd : FuncData} {body : List Stmt} {args : List Value} {binds : List (Str × Value)} (l : List (Str × Vw)) (hs : Hs Hd s.heap)
    (hroom : A.depth < recursionLimit) (ho : s.heap.get? a = some o) (hdata : o.data = .func fd) (hlim : s.heap.NoLimit) (hcd : s.heap.CodeRec fd.code fd.qualname) (hbody : fd.body = .stmts body)
    (hbind : bindArgs fd ⟨args, []⟩ = pure binds) (hclo : fd.closure = [])
    (hkind : ∀ L, ∀ x ∈ binds, fd.scope.names.lookup x.1 = some .local ∨ (fd.scope.names.lookup x.1 = some .cell ∧ ((cellsFrom (L + 1) fd.scope.names []).lookup x.1).isSome = true))
    (hcl : ∀ L, ∀ p ∈ (callEnvC fd L a).cells, (callEnvC fd L a).cells.lookup p.1 = some p.2)
    (hσ : ∀ L, ∀ p ∈ l, ∃ v, ArgIn fd a binds p.1 v L ∧ Rv Hd s.heap v p.2)
    (h : ∀ h₁ k L, FS s.heap (Nb (callEnvC fd L a)) Hd h₁ → Fv (callEnvC fd L a) (Nb (callEnvC fd L a) ++ Hd) h₁ (sg l) → ∀ (Q : Flow → Shared → Prop) (E : Value → Shared → Prop), (∀ v h' k', Kp s.heap h' → P h' v → Q (.ret v) { s with heap := h', toks := k' }) →
      wpAny (model prog w) (A.deeper (callEnvC fd L a)) (execs body (callEnvC fd L a)) Q E { s with heap := h₁, toks := k })
    (hco : fd.scope.isCoroutine = false := by rfl) (hgen : fd.scope.isGenerator = false := by rfl) (hk : fd.scope.kind = .function := by rfl) :
    Gives prog w A s (call (.ref a) args []) P := by
  refine call_fnC (sg l) hs hroom ho hdata hlim hcd hbody hbind hclo hkind hcl (fun L x d e hl => ?_) (fun L x d c e hc => ?_) h hco hgen hk
  · obtain ⟨v, ⟨h1, h2, h3⟩ | ⟨h1, h2⟩, r⟩ := hσ L _ (mem_of_lookup e)
    · exact ⟨v, h3, r⟩
    · rw [h1] at hl; cases hl
  · obtain ⟨v, ⟨h1, h2, h3⟩ | ⟨h1, h2⟩, r⟩ := hσ L _ (mem_of_lookup e)
    · rw [h2] at hc; cases hc
    · exact ⟨v, h2, r⟩
/-- 'abc'[n // q % 3] -/
theorem ev_letter {n q : Int} {k1 k2 k3 : Nat} {p0 p1 p2 p3 p4 p5 p6 : Pos} {x : Str} (hq : q ≠ 0) (hq' : q.natAbs < 1073741824) (hx : Ev prog w A b (eval (.Name x p1) env) (Da Hd (.int n))) :
    Ev prog w A b (eval (.Subscript (.Constant (.str abc) k1 p0) (.BinOp (.BinOp (.Name x p1) .FloorDiv (.Constant (.int q) k2 p2) p3) .Mod (.Constant (.int 3) k3 p4) p5) p6) env) (Da Hd (eS ((n.fdiv q).fmod 3).toNat)) := by
  obtain ⟨h1, h2, h3⟩ := item_abc (fmod3 (n.fdiv q))
  unfold eS
  rw [← h3]
  exact ev_sub (up_da Hd _) ev_str (ev_bin (up_da Hd _) (ev_bin (up_da Hd _) hx (ev_int (Hd := Hd)) fun s' a c _ p1 p2 => g_fdiv p1 p2 hq hq') (ev_int (Hd := Hd)) fun s' a c _ p1 p2 => g_mod p1 p2 (by decide)) fun s' a c _ p1 p2 => g_itemS p1 p2 h1 h2
end
end Mine
end
section
set_option maxRecDepth 100000
namespace Mine
open PySem PySem.W PySem.W.X PySem.Calls PyProof.Rows

section
variable {prog : Program} {w : World} {mg mb : Str → Option Value} {A : Around} {s : Shared} {b : Heap} {env : Env} {Hd : List Addr} {P : Heap → Value → Prop}
theorem new_eq (acc : List (List Nat)) (row : List Nat) :
    ((((List.range ((((row.map eS).length : Int) + 1) - 1).toNat).map fun i : Nat => PyData.int (1 + i)).filter fun d => !acc.contains (row.take (dInt d).toNat)).map fun d => eR (row.take (dInt d).toNat)) = (newOf acc row).map eR := by
  have h1 : ((((row.map eS).length : Int) + 1) - 1).toNat = row.length := by simp
  rw [h1, List.filter_map, List.map_map]
  unfold newOf
  rw [List.filter_map, List.map_map, List.map_map]
  have h2 : ∀ i : Nat, (1 + (i : Int)).toNat = i + 1 := fun i => by omega
  have h3 : ((fun d => !acc.contains (row.take (dInt d).toNat)) ∘ fun i : Nat => PyData.int (1 + i)) = ((fun k => !acc.contains (row.take k)) ∘ fun x => x + 1) := by
    funext i; simp only [Function.comp, dInt, h2]
  rw [h3]
  refine List.map_congr_left fun i _ => ?_
  simp only [Function.comp, dInt, h2]
theorem any_eR (acc : List (List Nat)) (r : List Nat) : ((acc.map eR).any fun z => PyData.eqv z (eR r)) = acc.contains r := by
  induction acc with
  | nil => rfl
  | cons a acc ih =>
    rw [List.map_cons, List.any_cons, ih, List.contains_cons, eqvR]
    congr 1
    by_cases h : a = r
    · subst h; simp
    · have h2 : ¬ r = a := fun e => h e.symm
      simp [h, h2]
theorem take_eR {row : List Nat} {k : Nat} (h1 : 1 ≤ k) (h2 : k ≤ row.length) : PyData.list (((row.map eS).drop ((none : Option Int).elim 0 (clipAt (row.map eS).length))).take ((some (k : Int)).elim (row.map eS).length (clipAt (row.map eS).length) - (none : Option Int).elim 0 (clipAt (row.map eS).length))) = eR (row.take k) := by
  have : clipAt (row.map eS).length (k : Int) = k := by rw [clipAt_in (by omega) (by simp; omega)]; rfl
  simp only [Option.elim_none, Option.elim_some, List.drop_zero, Nat.sub_zero]
  rw [this, ← List.map_take]
  rfl
set_option maxHeartbeats 4000000
theorem rows_spec (G : Gd w mg mb s.heap) {n : Nat} (R : Rm (n + 1) A) {v1 : Value} {ns : List Int} (r1 : Rp Hd s.heap v1 (.list (ns.map PyData.int))) (hs : Hs Hd s.heap) (hz : ns.length ≤ 63) :
    Gives prog w A s (call (.ref 197) [v1] []) (Da Hd (.list ((rowsF ns).map eR))) := by
  have o1 := G.X 197 _ rfl
  refine call_fnK [(Str.ofString "script", .d (.list (ns.map PyData.int)))] hs R.room o1 rfl G.nl ?_ rfl rfl ?_ ?_ ?_ ?_ ?_
  · exact codeRec_of G.X (by rfl)
  · exact rfl
  · intro L x hx; rw [List.mem_singleton.mp hx]; exact .inl rfl
  · intro L p hp
    change p ∈ [(_, _), (_, _)] at hp
    simp only [List.mem_cons, List.not_mem_nil, or_false] at hp
    rcases hp with rfl | rfl <;> rfl
  · exact sc_cons r1 (fun L => .inl ⟨rfl, rfl, rfl⟩) sc_nil
  intro h₁ k L F V Q E q
  refine st_open F V own_c ?_
  intro D h2 k2 hD F2 _ _ V2 O2
  have G2 := G.up F2.k0
  have hh : ∀ e, (A.deeper e).handled = none := fun e => R.hh
  have hbig : (1000 : Nat) ≤ sizeLine := by decide
  have hseed : (seedR ns).length = ns.length + 3 := by simp [seedR]
  refine @st_forO _ _ _ _ _ _ _ _ _ _ _ _ _ _ _ _ _ ((seedR ns).map eR) (fun _ => sg [(Str.ofString "rows", .v (.ref D))]) (fun i => (((seedR ns).take i).foldl addRow []).map eR) D F2 V2 (.head _) O2 (fun a ha => .tail _ (inl_of a ha)) (Own.cons own_c) ?_ (sl (sl_cons sl_nil)) ?_ ?_ rfl (fun _ => rfl)
  · have hfl : (ns.map PyData.int).filter (fun _ => true) = ns.map PyData.int := List.filter_eq_self.mpr fun _ _ => rfl
    refine iter_list (hh _) (Ev.imp (ev_bin (up_da _ (.list [eR [0, 1], eR [0, 2], eR [3]])) (ev_list F2.hs (evs_cons (up_da _ _) (ev_list (ds := [eS 0, eS 1]) F2.hs (evs_cons (up_da _ _) ev_str (evs_cons (up_da _ _) ev_str evs_nil))) (evs_cons (up_da _ _) (ev_list (ds := [eS 0, eS 2]) F2.hs (evs_cons (up_da _ _) ev_str (evs_cons (up_da _ _) ev_str evs_nil))) (evs_cons (up_da _ _) (ev_list (ds := [eS 3]) F2.hs (evs_cons (up_da _ _) ev_str evs_nil)) evs_nil))))
      (Ev.imp (ev_compF (ds := ns.map PyData.int) (cl := []) (fun d => eR (rowN (dInt d))) (fun _ => true) V2 F2.hs (iter_list (hh _) (ev_varL V2 rfl)) (by rw [List.length_map]; omega) (fun _ _ _ _ _ _ _ => test_nil (cenv := default)) ?_ rfl (fun _ _ h => nomatch h)) fun _ _ _ p => p.1) fun s' a c kb p1 p2 => g_addl (F2.hs.up kb) p1 p2 (by rw [List.length_map, hfl, List.length_map]; simp only [List.length_cons, List.length_nil]; omega)) fun _ _ _ p => ?_)
    · intro C b' H d hd _ ext V'
      obtain ⟨m, _, rfl⟩ := List.mem_map.mp hd
      refine Ev.imp (sliceL (lo := none) (hi := some (m.fmod 3 + 1)) (ds := [eS ((m.fdiv 3).fmod 3).toNat, eS ((m.fdiv 9).fmod 3).toNat, eS ((m.fdiv 27).fmod 3).toNat]) ext.hs (ev_list ext.hs (evs_cons (up_da _ _) (ev_letter (by decide) (by decide) (ev_varL V' rfl)) (evs_cons (up_da _ _) (ev_letter (by decide) (by decide) (ev_varL V' rfl)) (evs_cons (up_da _ _) (ev_letter (by decide) (by decide) (ev_varL V' rfl)) evs_nil))) (by show 3 ≤ sizeLine; omega)) trivial ?_ (by show 3 ≤ _; omega)) fun _ _ _ p => ?_
      · exact Ev.imp (ev_bin (up_da H _) (ev_bin (up_da H _) (ev_varL V' rfl) (ev_int (Hd := H)) fun s' a c _ p1 p2 => g_mod p1 p2 (by decide)) (ev_int (Hd := H)) fun s' a c _ p1 p2 => g_add p1 p2) fun _ _ _ p => Rp.sub p (fun _ h => nomatch h)
      · have : (PyData.list (([eS ((m.fdiv 3).fmod 3).toNat, eS ((m.fdiv 9).fmod 3).toNat, eS ((m.fdiv 27).fmod 3).toNat].drop ((none : Option Int).elim 0 (clipAt 3))).take ((some (m.fmod 3 + 1)).elim 3 (clipAt 3) - (none : Option Int).elim 0 (clipAt 3)))) = eR (rowN m) := by
          unfold rowN
          rcases fmod3 m with e | e | e <;> rw [e] <;> rfl
        show Rp H _ _ (eR (rowN m))
        rw [← this]; exact p
    · have : seedR ns = [[0, 1], [0, 2], [3]] ++ ns.map rowN := rfl
      rw [this, List.map_append, List.map_map]
      have h2 : ((ns.map PyData.int).filter fun _ => true).map (fun d => eR (rowN (dInt d))) = ns.map (eR ∘ rowN) := by
        rw [hfl, List.map_map]; rfl
      rw [← h2]; exact p
  · intro I i d h3 k3 hI hd F3 V3 O3 Q' E' q'
    have G3 := G.up F3.k0
    obtain ⟨row, hrow, rfl⟩ : ∃ row, (seedR ns)[i]? = some row ∧ d = eR row := by
      rw [List.getElem?_map] at hd
      cases e : (seedR ns)[i]? with
      | none => rw [e] at hd; cases hd
      | some r => rw [e] at hd; cases hd; exact ⟨r, rfl, rfl⟩
    have hi : i < (seedR ns).length := (List.getElem?_eq_some_iff.mp hrow).1
    have okrow := okR_seed ns row (List.mem_of_getElem? hrow)
    obtain ⟨okacc, hlen⟩ := okR_fold ((seedR ns).take i) [] (fun r hr => okR_seed ns r (List.mem_of_mem_take hr)) (fun _ h => nomatch h)
    have hlen2 : ((seedR ns).take i).length ≤ i := by rw [List.length_take]; exact Nat.min_le_left _ _
    have hstep : ((seedR ns).take (i + 1)).foldl addRow [] = addRow (((seedR ns).take i).foldl addRow []) row := by
      rw [List.take_add_one, hrow]; simp
    generalize ((seedR ns).take i).foldl addRow [] = acc at *
    have hnew : (newOf acc row).length ≤ 3 := by
      have := okrow.1
      have h4 : (newOf acc row).length ≤ row.length := by
        unfold newOf; rw [List.length_map]
        exact Nat.le_trans (List.length_filter_le _ _) (by simp)
      omega
    refine st_extend ((newOf acc row).map eR) F3 V3 (.head _) (ld_C V3 rfl) O3 ?_ (by rw [List.length_map, List.length_map]; simp at hlen; omega) ?_ rfl rfl rfl rfl (by decide)
    · rw [← new_eq]
      refine ev_compF _ _ V3 F3.hs (iter_range (hh _) (ev_callT (bltn G3 (by rfl) rfl) (evs_cons (up_da _ (.int 1)) (ev_int (Hd := [])) (evs_cons (up_da _ (.int (((row.map eS).length : Int) + 1))) (ev_bin (up_da _ _) (ev_callB (bltn G3 (by rfl) rfl) (evs_cons (up_da _ _) (ev_varC V3 rfl) evs_nil) fun s' vs kb a => ?_) (ev_int (Hd := [])) fun s' a c _ p1 p2 => g_add p1 p2) evs_nil)) fun s' vs kb a => ?_) (by decide) (by decide) (by omega) (by simp; have := okrow.1; omega)) (by simp; have := okrow.1; omega) ?_ ?_ rfl ?_
      · obtain ⟨v, rfl, r⟩ := alls1 a
        exact (g_lenL r (by simp; have := okrow.1; omega)).imp fun _ _ _ p => Rp.sub p (fun _ h => nomatch h)
      · obtain ⟨v, v', rfl, r, r'⟩ := alls2 a
        exact g_range2 r r'
      · intro C b' H d hd ext V'
        obtain ⟨j, hj, rfl⟩ := List.mem_map.mp hd
        have hj' : j < row.length := by simpa using hj
        have e1 : (1 + (j : Int)) = ((j + 1 : Nat) : Int) := by omega
        have e2 : (dInt (.int (1 + (j : Int)))).toNat = j + 1 := by simp only [dInt]; omega
        rw [e2, ← any_eR]
        refine test_one (tr_cmp (up_da H (eR (row.take (j + 1)))) ?_ (ev_name (P := Da [] (.list (acc.map eR))) (ld_C V' rfl) (up_da _ _) ((O3.rp (H' := []) (fun _ h => nomatch h) (fun h => nomatch h)).up ext.kp)) fun s' a c _ p1 p2 => g_notin p1 p2 (layR (okR_take okrow _)) (layRs okacc) ?_)
        · rw [← take_eR (by omega) (by omega : j + 1 ≤ row.length)]
          exact sliceL ext.hs (ev_varC V' rfl) trivial (Ev.imp (ev_varL V' rfl) fun _ _ _ p => by rw [← e1]; exact Rp.sub p (fun _ h => nomatch h)) (by rw [List.length_map]; have := okrow.1; omega)
        · rw [depR]
          have := R.un
          show A.units + 3 + 1 + min _ 1 < 9900
          omega
      · intro C b' H d hd _ ext V'
        obtain ⟨j, hj, rfl⟩ := List.mem_map.mp hd
        have hj' : j < row.length := by simpa using hj
        have e1 : (1 + (j : Int)) = ((j + 1 : Nat) : Int) := by omega
        have e2 : (dInt (.int (1 + (j : Int)))).toNat = j + 1 := by simp only [dInt]; omega
        rw [e2, ← take_eR (by omega) (by omega : j + 1 ≤ row.length)]
        exact sliceL ext.hs (ev_varC V' rfl) trivial (Ev.imp (ev_varL V' rfl) fun _ _ _ p => by rw [← e1]; exact Rp.sub p (fun _ h => nomatch h)) (by rw [List.length_map]; have := okrow.1; omega)
      · intro y c h
        have := mem_of_lookup h
        simp only [List.mem_cons, Prod.mk.injEq, List.not_mem_nil, or_false] at this
        rcases this with ⟨rfl, rfl⟩ | ⟨rfl, rfl⟩ <;> rfl
    · intro h4 k4 F4 kk4 V4 O4
      refine st_nil (q' h4 k4 kk4 F4 (V4.less (sl (sl_cons sl_nil))) ?_)
      rw [hstep]
      unfold addRow
      rw [List.map_append]
      exact O4
  · intro h3 k3 F3 V3 O3
    have hdn : D ∉ Hd := fun m => by obtain ⟨o, e⟩ := hs D m; rw [F3.nw D (.head _)] at e; cases e
    refine st_return (P := fun h v => Rp Hd h v (.list ((rowsF ns).map eR))) (ev_name (ld_C V3 rfl) (up_da _ _) ?_) fun v h' k' kp' p => q v h' k' (F3.k0.trans kp') p
    have := O3.rp (H' := Hd) (fun a ha => List.mem_append.mpr (.inr ha)) hdn
    rw [List.length_map, List.take_length] at this
    exact this
end
end Mine
end
section
set_option maxRecDepth 100000
namespace Mine
open PySem PySem.W PySem.W.X PySem.Calls PyProof.Rows

def dL : PyData → List PyData | .list xs => xs | _ => []
abbrev dsN (n : Nat) : List PyData := (List.range n).map fun i : Nat => PyData.int i
def isDir (rows : List (List Nat)) (k : Nat) : Bool := rows.any fun r => decide (r.dropLast = rows[k]?.getD [])
def kindAt (rows : List (List Nat)) (k : Nat) : Int := if isDir rows k then 16384 else [32768, 40960, 4096][k % 3]?.getD 0
def modeAt (rows : List (List Nat)) (total : Int) (k : Nat) : Int := kindAt rows k + (492 - 19 * k - total).fmod 512
def modesF (rows : List (List Nat)) (total : Int) : List Int := (List.range rows.length).map (modeAt rows total)

section
variable {prog : Program} {w : World} {mg mb : Str → Option Value} {A : Around} {s : Shared} {b : Heap} {env : Env} {Hd : List Addr} {P : Heap → Value → Prop}
theorem ev_neg {e : Expr} {pos : Pos} {i : Int} (h : Ev prog w A b (eval e env) (Da Hd (.int i))) : Ev prog w A b (eval (.UnaryOp .USub e pos) env) (Da Hd (.int (-i))) := fun s kb => Gives.of fun Q E q =>
  UnaryOp_ (h.use kb fun v h1 k1 kp1 p1 => by
    obtain ⟨t, rfl⟩ := Rp.int_inv p1
    exact neg_int (q _ h1 _ kp1 (.int _ _)))
theorem iter_rangeN {t : Sem Value} {n : Nat} (hh : A.handled = none) (h : Ev prog w A b t (RangeIs 0 n)) (hn : n ≤ 100000) : Iter prog w A b Hd t (dsN n) := by
  have := iter_range (Hd := Hd) hh h (by decide) (by decide) (by omega) (by omega)
  have e : (List.range ((n : Int) - 0).toNat).map (fun i : Nat => PyData.int (0 + i)) = dsN n := by
    rw [show ((n : Int) - 0).toNat = n by omega]
    exact List.map_congr_left fun i _ => by rw [Int.zero_add]
  rw [e] at this; exact this
theorem within_p (rows : List (List Nat)) (r : List Nat) : PyData.eqvAll ((((rows.map eR).filter fun d => PyData.eqvAll (dL d).dropLast (r.map eS)).map fun d => d)) [] = !rows.any fun x => decide (x.dropLast = r) := by
  induction rows with
  | nil => rfl
  | cons a rows ih =>
    rw [List.map_cons, List.filter_cons, List.any_cons]
    have : PyData.eqvAll (dL (eR a)).dropLast (r.map eS) = decide (a.dropLast = r) := by
      show PyData.eqvAll (a.map eS).dropLast (r.map eS) = _
      rw [← List.map_dropLast, eqv_eR]
    rw [this]
    cases h : decide (a.dropLast = r) with
    | true => rfl
    | false => simpa using ih
theorem lay_all : ∀ {l : List PyData}, (∀ d ∈ l, d.canLay0 = true) → PyData.canLayAll0 l = true
  | [], _ => by simp only [PyData.canLayAll0]
  | d :: l, h => by
    simp only [PyData.canLayAll0]
    rw [h d (.head _), Bool.true_and]
    exact lay_all fun d hd => h d (.tail _ hd)
theorem lay_list {l : List PyData} (h : ∀ d ∈ l, d.canLay0 = true) : (PyData.list l).canLay0 = true := by simp only [PyData.canLay0]; exact lay_all h
theorem lay_s {i : Nat} (h : i < 4) : (eS i).canLay0 = true := by
  simp only [eS, PyData.canLay0]
  rcases (by omega : i = 0 ∨ i = 1 ∨ i = 2 ∨ i = 3) with rfl | rfl | rfl | rfl <;> decide +kernel
theorem dropLast_clip {α : Type} (l : List α) : (l.drop ((none : Option Int).elim 0 (clipAt l.length))).take ((some (-1 : Int)).elim l.length (clipAt l.length) - (none : Option Int).elim 0 (clipAt l.length)) = l.dropLast := by
  simp only [Option.elim_none, Option.elim_some, List.drop_zero, Nat.sub_zero]
  rw [List.dropLast_eq_take]
  congr 1
  have := clipAt_cast l.length (-1)
  rw [if_pos (by decide)] at this
  omega
theorem fmod_nat (i m : Nat) : ((i : Int).fmod (m : Int)) = ((i % m : Nat) : Int) := by
  rw [Int.fmod_eq_emod_of_nonneg _ (by omega)]; omega
theorem range_get {n i : Nat} {d : PyData} (h : (dsN n)[i]? = some d) : i < n ∧ d = .int i := by
  rw [List.getElem?_map] at h
  cases e : (List.range n)[i]? with
  | none => rw [e] at h; cases h
  | some j =>
    rw [e] at h; cases h
    obtain ⟨h1, h2⟩ := List.getElem?_eq_some_iff.mp e
    rw [List.getElem_range] at h2
    subst h2
    exact ⟨by simpa using h1, rfl⟩
end
end Mine
end
section
set_option maxRecDepth 100000
namespace Mine
open PySem PySem.W PySem.W.X PySem.Calls PyProof.Rows
section
variable {prog : Program} {w : World} {mg mb : Str → Option Value} {A : Around} {s : Shared} {b : Heap} {env : Env} {Hd : List Addr} {P : Heap → Value → Prop}
set_option maxHeartbeats 4000000
theorem modes_spec (G : Gd w mg mb s.heap) {n : Nat} (R : Rm (n + 1) A) {v1 v2 : Value} {rows : List (List Nat)} {total : Int} (r1 : Rp Hd s.heap v1 (.list (rows.map eR))) (r2 : Rp Hd s.heap v2 (.int total)) (hs : Hs Hd s.heap) (hok : ∀ r ∈ rows, okR r) (hz : rows.length ≤ 1000) :
    Gives prog w A s (call (.ref 202) [v1, v2] []) (Da Hd (.list ((modesF rows total).map PyData.int))) := by
  have o1 := G.X 202 _ rfl
  refine call_fnK [(Str.ofString "rows", .d (.list (rows.map eR))), (Str.ofString "total", .d (.int total))] hs R.room o1 rfl G.nl ?_ rfl rfl ?_ ?_ ?_ ?_ ?_
  · exact codeRec_of G.X (by rfl)
  · exact rfl
  · intro L x hx
    change x ∈ [(_, _), (_, _)] at hx
    simp only [List.mem_cons, List.not_mem_nil, or_false] at hx
    rcases hx with rfl | rfl
    · exact .inr ⟨rfl, rfl⟩
    · exact .inl rfl
  · intro L p hp
    change p ∈ [(_, _), (_, _)] at hp
    simp only [List.mem_cons, List.not_mem_nil, or_false] at hp
    rcases hp with rfl | rfl <;> rfl
  · exact sc_cons r1 (fun L => .inr ⟨rfl, rfl⟩) (sc_cons r2 (fun L => .inl ⟨rfl, rfl, rfl⟩) sc_nil)
  intro h₁ k L F V Q E q
  have hh : ∀ e, (A.deeper e).handled = none := fun e => R.hh
  have hbig : (100000 : Nat) ≤ sizeLine := by decide
  refine st_open F V own_l ?_
  intro D h2 k2 hD F2 _ _ V2 O2
  have G2 := G.up F2.k0
  refine st_forO (dsN rows.length) (fun _ => sg [(Str.ofString "rows", .d (.list (rows.map eR))), (Str.ofString "total", .d (.int total)), (Str.ofString "modes", .v (.ref D))]) (fun i => ((List.range i).map (modeAt rows total)).map PyData.int) F2 V2 (.head _) O2 (fun a ha => .tail _ (inl_of a ha)) (Own.cons own_c) ?_ (sl (sl_cons (sl_cons (sl_cons sl_nil)))) ?_ ?_
  · refine iter_rangeN (hh _) (ev_callT (bltn G2 (by rfl) rfl) (evs_cons (up_da [] (.int rows.length)) (ev_callB (bltn G2 (by rfl) rfl) (evs_cons (up_da _ _) (ev_varC V2 rfl) evs_nil) fun s' vs kb a => ?_) evs_nil) fun s' vs kb a => ?_) (by omega)
    · obtain ⟨v, rfl, r⟩ := alls1 a
      refine (g_lenL r (by simp; omega)).imp fun _ _ _ p => ?_
      rw [List.length_map] at p
      exact Rp.sub p (fun _ h => nomatch h)
    · obtain ⟨v, rfl, r⟩ := alls1 a
      exact g_range1 r
  · intro I i d h3 k3 hI hd F3 V3 O3 Q' E' q'
    obtain ⟨hi, rfl⟩ := range_get hd
    have hri : rows[i]? = some rows[i] := List.getElem?_eq_getElem hi
    have okri : okR rows[i] := hok _ (List.getElem_mem hi)
    refine st_setComp (fun d => d) (fun d => PyData.eqvAll (dL d).dropLast (rows[i].map eS)) F3 V3 (Own.cons own_l) (iter_list (hh _) (ev_varC V3 rfl)) (by rw [List.length_map]; omega) ?_ ?_ ?_ rfl ?_ ?_
    · intro C b' H d hd ext V'
      obtain ⟨r, hr, rfl⟩ := List.mem_map.mp hd
      have okr := hok r hr
      refine test_one (tr_cmp (P2 := Da H (eR rows[i])) (up_da H (.list (r.map eS).dropLast)) ?_ ?_ fun s' a c _ p1 p2 => g_eqd p1 p2 (lay_list fun d hd => ?_) (layR okri) ?_)
      · rw [← dropLast_clip]
        exact sliceL ext.hs (ev_varL V' rfl) trivial (ev_neg (i := 1) ev_int) (by rw [List.length_map]; have := okr.1; omega)
      · exact ev_sub (up_da H (.list (rows.map eR))) (ev_varC V' rfl) (ev_varC V' rfl) fun s' a c _ p1 p2 => g_item p1 p2 (by omega) (by omega) (by rw [Int.toNat_natCast, List.getElem?_map, hri]; rfl)
      · obtain ⟨j, hj, rfl⟩ := List.mem_map.mp (List.dropLast_subset _ hd)
        exact lay_s (okr.2 j hj)
      · rw [depR]
        have := R.un
        show A.units + 3 + min _ 1 < 9900
        omega
    · intro C b' H d hd _ ext V'
      exact ev_varL V' rfl
    · intro h4 k4 F4 kk4 _ V4
      have hdir : isDir rows i = !PyData.eqvAll (((rows.map eR).filter fun d => PyData.eqvAll (dL d).dropLast (rows[i].map eS)).map fun d => d) [] := by
        rw [within_p, Bool.not_not]; unfold isDir; rw [hri]; rfl
      have lay : ∀ d ∈ (((rows.map eR).filter fun d => PyData.eqvAll (dL d).dropLast (rows[i].map eS)).map fun d => d), d.canLay0 = true := fun d hd => by
        obtain ⟨d', hd', rfl⟩ := List.mem_map.mp hd
        obtain ⟨r, hr, rfl⟩ := List.mem_map.mp (List.mem_filter.mp hd').1
        exact layR (hok r hr)
      refine st_setd (.int (kindAt rows i)) F4 V4 (Own.cons own_l) (ev_ifexp (β := isDir rows i) ?_ ?_ ?_) ?_
      · rw [hdir]
        refine tr_cmp (up_da _ (.list (((rows.map eR).filter fun d => PyData.eqvAll (dL d).dropLast (rows[i].map eS)).map fun d => d))) (Ev.imp (ev_varP V4 rfl) fun _ _ _ p => p.1) (ev_list (ds := []) F4.hs evs_nil) fun s' a c _ p1 p2 => g_ned p1 p2 (lay_list lay) rfl ?_
        have := R.un
        show A.units + 3 + min _ 1 < 9900
        omega
      · intro hb
        have e : kindAt rows i = 16384 := by unfold kindAt; rw [if_pos hb]
        rw [e]; exact ev_int
      · intro hb
        have h3 : i % 3 < 3 := Nat.mod_lt _ (by decide)
        have hget : ([PyData.int 32768, .int 40960, .int 4096] : List PyData)[(((i : Int)).fmod 3).toNat]? = some (.int (kindAt rows i)) := by
          unfold kindAt
          rw [if_neg (by rw [hb]; decide), show ((i : Int)).fmod 3 = ((i % 3 : Nat) : Int) from fmod_nat i 3, Int.toNat_natCast]
          rcases (by omega : i % 3 = 0 ∨ i % 3 = 1 ∨ i % 3 = 2) with e | e | e <;> rw [e] <;> rfl
        have h0 : 0 ≤ ((i : Int)).fmod 3 := Int.fmod_nonneg_of_pos _ (by decide)
        have h1 : ((i : Int)).fmod 3 < 3 := Int.fmod_lt_of_pos _ (by decide)
        refine ev_sub (up_da _ (.list [.int 32768, .int 40960, .int 4096])) (ev_list F4.hs (evs_cons (up_da _ _) ev_int (evs_cons (up_da _ _) ev_int (evs_cons (up_da _ _) ev_int evs_nil)))) (ev_bin (up_da _ _) (ev_varC V4 rfl) ev_int fun s' a c _ p1 p2 => g_mod p1 p2 (by decide)) fun s' a c _ p1 p2 => g_item p1 p2 h0 (by omega) hget
      · intro h5 k5 F5 kk5 kq5 V5
        have O5 : Ol _ D _ h5 := (O3.up kk4 inl_of ‹Kq h3 h4›).up kk5 inl_of kq5
        refine st_append (.int (modeAt rows total i)) F5 V5 (.head _) (ld_L V5 rfl) O5 ?_ ?_ ?_
        · refine ev_bin (up_da _ (.int (kindAt rows i))) (ev_varL V5 rfl) (ev_bin (up_da _ _) (ev_bin (up_da _ _) (ev_bin (up_da _ _) ev_int (ev_bin (up_da _ _) ev_int (ev_varC V5 rfl) fun s' a c _ p1 p2 => g_mul p1 p2 (IntMulOk.of_left (by decide))) fun s' a c _ p1 p2 => g_subi p1 p2) (ev_varL V5 rfl) fun s' a c _ p1 p2 => g_subi p1 p2) ev_int fun s' a c _ p1 p2 => g_mod p1 p2 (by decide)) fun s' a c _ p1 p2 => g_add p1 p2
        · rw [List.length_map, List.length_map, List.length_range]; omega
        · intro h6 k6 F6 kk6 V6 O6
          refine st_nil (q' h6 k6 (kk4.trans (kk5.trans kk6)) F6 (V6.less (sl (sl_cons (sl_cons (sl_cons sl_nil))))) ?_)
          rw [List.range_succ, List.map_append, List.map_append]
          exact O6
    · intro y c h
      have := mem_of_lookup h
      simp only [List.mem_cons, Prod.mk.injEq, List.not_mem_nil, or_false] at this
      rcases this with ⟨rfl, rfl⟩ | ⟨rfl, rfl⟩ <;> rfl
    · intro a ha; exact .tail _ (inl_of a ha)
  · intro h3 k3 F3 V3 O3
    have hdn : D ∉ Hd := fun m => by obtain ⟨o, e⟩ := hs D m; rw [F3.nw D (.head _)] at e; cases e
    refine st_return (P := fun h v => Rp Hd h v (.list ((modesF rows total).map PyData.int))) (ev_name (ld_L V3 rfl) (up_da _ _) ?_) fun v h' k' kp' p => q v h' k' (F3.k0.trans kp') p
    have := O3.rp (H' := Hd) (fun a ha => List.mem_append.mpr (.inr ha)) hdn
    rw [List.length_map, List.length_range] at this
    exact this
end
end Mine
end
section
set_option maxRecDepth 100000
namespace Mine
open PySem PySem.W PySem.W.X PySem.Calls PyProof.Rows
section
variable {prog : Program} {w : World} {A : Around} {s : Shared} {env : Env} {b b' : Heap} {Hd H N : List Addr} {σ : Str → Option Vw} {s₀ : Heap}
/-- the frame of a comprehension with one cell of its own -/
theorem newEnv_one {M : Model} {E : Value → Shared → Prop} {scope : Scope} {globals : Addr} {cl : List (Str × Addr)} {x : Str} {qual : Str} {Q : Env → Shared → Prop}
    (hcf : ∀ n, cellsFrom n scope.names cl = (x, n) :: cl) (hpc : ∀ h : Heap, pushCells h scope.names = h.push { cls := .type "cell", data := .cell none })
    (hQ : Q { scope := scope, locals := s.heap.objs.size, globals := globals, cells := (x, s.heap.objs.size + 1) :: cl, qual := qual, func := none, code := env.code, frame := env.frame, builtins := env.builtins }
      { s with heap := (s.heap.push { cls := .type "dict", data := .dict #[] }).push { cls := .type "cell", data := .cell none } }) :
    wpAny M A (newFunctionEnv scope globals cl [] qual none .none (some env)) Q E s := by
  simp only [newFunctionEnv, Option.isSome_some, if_true]
  refine wpAny_bind (wpAny_alloc ?_)
  refine wpAny_bind (wpAny_layCells _ (fun name kind cells => by cases hkc : kind == NameKind.cell <;> simp) _ _ _ _ ?_)
  rw [show ({ s with heap := s.heap.push { cls := .type "dict", data := .dict #[] } } : Shared).heap.objs.size = s.heap.objs.size + 1 from Heap.size_push ..]
  rw [hcf, hpc]
  refine wpAny_bind ?_
  rw [List.forIn_nil]
  exact wpAny_pure (wpAny_pure hQ)
theorem comp_core1 {elt iter : Expr} {x : Str} {px : Pos} {ifs : List Expr} {scope : Scope} {cl : List (Str × Addr)} {pos ipos : Pos} {use : Option (Value → Sem Unit)} {ds : List PyData} {f : PyData → PyData} {p : PyData → Bool}
    {Q : Value → Shared → Prop} {E : Value → Shared → Prop}
    (hs : Hs Hd b) (kb : Kp b s.heap) (hit : Iter prog w A b Hd (eval iter env) ds) (hz : ds.length ≤ sizeLine) (hclos : closureFor scope env = pure cl)
    (hcf : ∀ n, cellsFrom n scope.names cl = (x, n) :: cl) (hpc : ∀ h : Heap, pushCells h scope.names = h.push { cls := .type "cell", data := .cell none }) (hkind : scope.kind = .function)
    (hnames : ∀ y ∈ scope.names, y.2 = .local → scope.names.lookup y.1 = some .local) (hfs : ∀ x, foldedSetIterable iter env x = pure x) (hxc : (relabel scope env).names.lookup x = some .cell)
    (htest : ∀ C ci b' H v d, d ∈ ds → Ext b Hd b' H → Rp H b' v d → b'.IsCell ci (some v) → (∃ m, b'.Ns C m) → b.get? ci = none → Tr prog w A b' (forIn ifs true fun c r => if r = true then do let ok ← isTrue c (compEnvC scope ((x, ci) :: cl) C env) (eval c (compEnvC scope ((x, ci) :: cl) C env)); pure (ForInStep.yield ok) else pure (ForInStep.yield r)) (p d))
    (helt : ∀ C ci b' H v d, d ∈ ds → p d = true → Ext b Hd b' H → Rp H b' v d → b'.IsCell ci (some v) → (∃ m, b'.Ns C m) → b.get? ci = none → Ev prog w A b' (eval elt (compEnvC scope ((x, ci) :: cl) C env)) (Da H (f d)))
    (fin : ∀ (D C : Addr) (h' : Heap) (k : Nat) (m' : Str → Option Value) (H : List Addr) (ys : Array Value), h'.Ns C m' → s.heap.get? D = none → s.heap.get? C = none → D ≠ C → Kp s.heap h' → h'.PlainList D ys → RpAll (H ++ Hd) h' ys.toList ((ds.filter p).map f) → C ∈ H → D ∈ H → (∀ a ∈ H, s.heap.get? a = none) →
      compPost (model prog w) A E use Q (.ref D) C (.ok .next) { s with heap := h', toks := k }) :
    wpAny (model prog w) A (comprehension (.ListComp elt [⟨.Name x px, iter, ifs, 0⟩] scope pos) scope env ipos (newList []) false (eval iter env) use) Q E s := by
  refine wpAny_comprehension_free rfl hfs hclos hkind hnames (hit s _ _ kb fun I h2 k2 kp2 hI it => ?_)
  obtain ⟨fp, P, St, W, hst, hlt, live, hP⟩ := it
  refine wpAny_newObj_type (newEnv_one hcf hpc ?_)
  dsimp only
  generalize hH2 : h2.push { cls := .type "list", dict := none, data := .seq ([] : List Value).toArray } = H2
  generalize hH3 : H2.push { cls := .type "dict", data := .dict #[] } = H3
  generalize hh1 : H3.push { cls := .type "cell", data := .cell none } = h₁
  have hC : H2.objs.size = h2.objs.size + 1 := by rw [← hH2, Heap.size_push]
  have hc : H3.objs.size = H2.objs.size + 1 := by rw [← hH3, Heap.size_push]
  rw [← hc]
  have k23 : Kp H2 H3 := hH3 ▸ Kp.push _ _
  have k31 : Kp H3 h₁ := hh1 ▸ Kp.push _ _
  have old : Kp h2 h₁ := ((hH2 ▸ Kp.push h2 _ : Kp h2 H2).trans k23).trans k31
  have hacc : h₁.PlainList h2.objs.size #[] := ⟨_, k31 _ _ (k23 _ _ (hH2 ▸ Heap.get?_push_size _ rfl))⟩
  have hns₁ : h₁.Ns H2.objs.size (fun _ => none) := by
    have : H3.Ns H2.objs.size (fun _ => none) := hH3 ▸ Heap.Ns.new H2 (.type "dict")
    exact this.keeps k31
  have hcl₁ : h₁.IsCell H3.objs.size none := ⟨_, hh1 ▸ Heap.get?_push_size _ rfl, rfl⟩
  have hD2 : h2.get? h2.objs.size = none := fresh_of (Kp.refl _) (Nat.le_refl _)
  have hC2 : h2.get? H2.objs.size = none := fresh_of (Kp.refl _) (by omega)
  have hc2 : h2.get? H3.objs.size = none := fresh_of (Kp.refl _) (by omega)
  have hD0 : s.heap.get? h2.objs.size = none := fresh_of kp2 (Nat.le_refl _)
  have hC0 : s.heap.get? H2.objs.size = none := fresh_of kp2 (by omega)
  have hc0 : s.heap.get? H3.objs.size = none := fresh_of kp2 (by omega)
  have nb : ∀ a, s.heap.get? a = none → b.get? a = none := fun a e => by
    cases q : b.get? a with
    | none => rfl
    | some o => rw [kb _ _ q] at e; cases e
  have hst₁ : St 0 h₁ := W.frame _ _ _ hst fun c _ o e => old c o e
  have hfr : ∀ a ∈ [I, h2.objs.size, H2.objs.size, H3.objs.size], s.heap.get? a = none := fun a ha => by
    simp only [List.mem_cons, List.not_mem_nil, or_false] at ha
    rcases ha with rfl | rfl | rfl | rfl
    · exact hI
    · exact hD0
    · exact hC0
    · exact hc0
  have kall : Kp s.heap h₁ := kp2.trans old
  have hHs : Hs ([I, h2.objs.size, H2.objs.size, H3.objs.size] ++ Hd) h₁ := fun a ha => by
    rcases List.mem_append.mp ha with ha | ha
    · simp only [List.mem_cons, List.not_mem_nil, or_false] at ha
      rcases ha with rfl | rfl | rfl | rfl
      · exact live _ _ hst₁
      · exact let ⟨n, e⟩ := hacc; ⟨_, e⟩
      · exact ns_ex hns₁
      · exact cell_ex hcl₁
    · obtain ⟨o, e⟩ := hs a ha; exact ⟨o, kall _ _ (kb _ _ e)⟩
  have ext : ∀ b', KpH (I :: h2.objs.size :: [H2.objs.size, H3.objs.size]) h₁ b' → Hs ([I, h2.objs.size, H2.objs.size, H3.objs.size] ++ Hd) b' → Ext b Hd b' ([I, h2.objs.size, H2.objs.size, H3.objs.size] ++ Hd) := fun b' kx hx =>
    Ext.mk' (fun c o e => kx c o (fun m => by have := nb c (hfr c m); rw [e] at this; cases this) (kall _ _ (kb _ _ e))) (fun a ha => nb a (hfr a ha)) hx
  have loop : codeAny (model prog w) A (.compLoop (.ListComp elt [⟨.Name x px, iter, ifs, 0⟩] scope pos) 0 (.ref I) (.ref h2.objs.size) (compEnvC scope ((x, H3.objs.size) :: cl) H2.objs.size env))
        (compPost (model prog w) A E use Q (.ref h2.objs.size) H2.objs.size) { s with heap := h₁, toks := k2 } := by
    refine comp_loop (s₂ := { s with heap := h₁, toks := k2 }) (N := h2.objs.size) (FH := [H2.objs.size, H3.objs.size]) (H := [I, h2.objs.size, H2.objs.size, H3.objs.size] ++ Hd) (FI := fun h => (∃ m, h.Ns H2.objs.size m) ∧ ∃ cv, h.IsCell H3.objs.size cv) (Lv := fun _ v h => h.IsCell H3.objs.size (some v) ∧ ∃ m, h.Ns H2.objs.size m) (ds := ds) (f := f) (p := p) W hst₁ (fun a ha => (hlt a ha).1) live ?_ hz hacc ⟨⟨_, hns₁⟩, _, hcl₁⟩ hHs ?_ ?_ ?_ (Nat.le_refl _) ?_ ?_ ?_ ?_ ?_ ?_ ?_ ?_ (by intro _; rfl)
    · intro i v hv
      obtain ⟨d, hd, r⟩ := hP i v hv
      refine ⟨d, hd, r.hide old fun a ha => ?_⟩
      rcases List.mem_append.mp ha with m | m
      · simp only [List.mem_cons, List.not_mem_nil, or_false] at m
        rcases m with rfl | rfl | rfl | rfl
        · exact .inl (.head _)
        · exact .inr hD2
        · exact .inr hC2
        · exact .inr hc2
      · exact .inl (.tail _ m)
    · simp
    · simp
    · intro a ha; simp only [List.mem_cons, List.not_mem_nil, or_false] at ha; rcases ha with rfl | rfl <;> simp
    · intro a ha; simp only [List.mem_cons, List.not_mem_nil, or_false] at ha; rcases ha with rfl | rfl <;> omega
    · intro m; simp only [List.mem_cons, List.not_mem_nil, or_false] at m
      rcases m with m | m
      · exact absurd (show (h2.objs.size : Nat) = H2.objs.size from m) (by omega)
      · exact absurd (show (h2.objs.size : Nat) = H3.objs.size from m) (by omega)
    · rintro h h' ⟨⟨m, hn⟩, cv, hcv⟩ hk
      exact ⟨⟨m, hn.at' fun o e => hk _ (.head _) o e⟩, cv, let ⟨o, e, q⟩ := hcv; ⟨o, hk _ (.tail _ (.head _)) o e, q⟩⟩
    · rintro s' v d Q' E' hd ⟨⟨m, hn⟩, cv, hcv⟩ r q
      refine wpAny_assign_Name (wpAny_storeName_cell (env := compEnvC scope ((x, H3.objs.size) :: cl) H2.objs.size env) hkind hxc (by show List.lookup x ((x, H3.objs.size) :: cl) = _; simp) hcv fun h' hc' hs' => ?_)
      have hne : H2.objs.size ≠ H3.objs.size := by omega
      refine q h' _ ⟨⟨m, hn.sameBut hs' hne⟩, _, hc'⟩ ⟨hc', m, hn.sameBut hs' hne⟩ (KpH.same hs' (.tail _ (.head _))) fun c hc hx => ?_
      simp only [List.mem_cons, List.not_mem_nil, or_false] at hc
      rcases hc with rfl | rfl
      · exact ns_ex (hn.sameBut hs' hne)
      · exact cell_ex hc'
    · rintro b' v d hd kx hx _ r ⟨l1, l2⟩; exact htest _ _ b' _ v d hd (ext b' kx hx) r l1 l2 (nb _ hc0)
    · rintro b' v d hd hp kx hx _ r ⟨l1, l2⟩; exact helt _ _ b' _ v d hd hp (ext b' kx hx) r l1 l2 (nb _ hc0)
    · rintro d v h h' ⟨l1, m, l2⟩ k; exact ⟨l1.keeps k, m, l2.keeps k⟩
    · rintro h' tk ys ⟨⟨m', hn'⟩, _⟩ hpl r kx _
      exact fin _ _ h' tk m' _ ys hn' hD0 hC0 (show ¬ (h2.objs.size : Nat) = H2.objs.size by omega) (fun c o e => kx c o (fun m => by have := hfr c m; rw [e] at this; cases this) (kall _ _ e)) hpl r (by simp) (by simp) hfr
  exact codeAny_compStart_list loop (W.self 0 _ _ _ hst₁ loop)
end
end Mine
end
section
set_option maxRecDepth 100000
namespace Mine
open PySem PySem.W PySem.W.X PySem.Calls PyProof.Rows
section
variable {prog : Program} {w : World} {A : Around} {s : Shared} {env : Env} {b b' : Heap} {Hd H N : List Addr} {σ : Str → Option Vw} {s₀ : Heap}
theorem comp_fv1 {x : Str} {scope : Scope} {cl : List (Str × Addr)} {C ci : Addr} {d : PyData} {v : Value} (V : Fv env Hd b σ) (hsub : ∀ y c, cl.lookup y = some c → env.cells.lookup y = some c) (ext : Ext b Hd b' H) (hl : ∀ p ∈ scope.names, p.2 = .local → p.1 = Str.ofString ".0") (h0 : (upd σ x (.d d)) (Str.ofString ".0") = none) (r : Rp H b' v d)
    (hci : b'.IsCell ci (some v)) (hns : ∃ m, b'.Ns C m) (hnew : b.get? ci = none) : Fv (compEnvC scope ((x, ci) :: cl) C env) H b' (upd σ x (.d d)) := by
  obtain ⟨m, hn⟩ := hns
  have look : ∀ y c, List.lookup y ((x, ci) :: cl) = some c → (y = x ∧ c = ci) ∨ (y ≠ x ∧ cl.lookup y = some c) := fun y c e => by
    by_cases q : y = x
    · subst q; simp at e; exact .inl ⟨rfl, e.symm⟩
    · have hb : (y == x) = false := by simpa using q
      simp only [List.lookup, hb] at e; exact .inr ⟨q, e⟩
  have cells : ∀ y c, List.lookup y ((x, ci) :: cl) = some c → ∃ cv, b'.IsCell c cv ∧ ∀ d', (upd σ x (.d d)) y = some d' → ∃ v, cv = some v ∧ Rv H b' v d' := fun y c e => by
    rcases look y c e with ⟨rfl, rfl⟩ | ⟨q, e⟩
    · exact ⟨_, hci, fun d' z => by simp only [upd, if_true] at z; cases z; exact ⟨v, rfl, r⟩⟩
    · obtain ⟨cv, hc, h3⟩ := V.cells y c (hsub y c e)
      refine ⟨cv, hc.keeps ext.kp, fun d' z => ?_⟩
      simp only [upd, if_neg q] at z
      obtain ⟨v, a, b⟩ := h3 d' z
      exact ⟨v, a, b.of ext.hid⟩
  have notci : ∀ y, cl.lookup y ≠ some ci := fun y e => by
    obtain ⟨cv, hc, _⟩ := V.cells y ci (hsub y ci e)
    obtain ⟨o, e⟩ := cell_ex hc; rw [hnew] at e; cases e
  refine ⟨⟨m, hn, fun y d' e k => ?_⟩, cells, fun y c e => ?_, fun y z c e1 e2 => ?_⟩
  · have z := hl _ (lookup_relabel (env := env) (names := scope.names) k) rfl
    rw [show y = _ from z, h0] at e; cases e
  · obtain ⟨cv, hc, _⟩ := cells y c e
    intro z
    rw [z] at hc
    obtain ⟨o, _, _, e1, e2, _⟩ := hn
    obtain ⟨o', e3, e4⟩ := hc
    change b'.get? C = some o' at e3
    rw [e1] at e3; cases e3
    rw [e2] at e4; cases e4
  · rcases look y c e1 with ⟨h1, h1'⟩ | ⟨q1, f1⟩ <;> rcases look z c e2 with ⟨h2, h2'⟩ | ⟨q2, f2⟩
    · rw [h1, h2]
    · rw [h1'] at f2; exact absurd f2 (notci z)
    · rw [h2'] at f1; exact absurd f1 (notci y)
    · exact V.inj y z c (hsub _ _ f1) (hsub _ _ f2)
theorem st_setComp1 {elt iter : Expr} {x y : Str} {px py : Pos} {scope : Scope} {cl : List (Str × Addr)} {pos spos : Pos} (ds : List PyData) {rest : List Stmt} {Q : Flow → Shared → Prop} {E : Value → Shared → Prop} (f : PyData → PyData)
    (F : FS s₀ N Hd s.heap) (V : Fv env (N ++ Hd) s.heap σ) (o : Own env N y) (hit : Iter prog w A s.heap (N ++ Hd) (eval iter env) ds) (hz : ds.length ≤ sizeLine)
    (helt : ∀ C ci b' H d, d ∈ ds → Ext s.heap (N ++ Hd) b' H → Fv (compEnvC scope ((x, ci) :: cl) C env) H b' (upd σ x (.d d)) → Ev prog w A b' (eval elt (compEnvC scope ((x, ci) :: cl) C env)) (Da H (f d)))
    (next : ∀ h2 k, FS s₀ N Hd h2 → KpH N s.heap h2 → Kq s.heap h2 → Fv env (N ++ Hd) h2 (upd σ y (.p (ds.map f))) → wpAny (model prog w) A (execs rest env) Q E { s with heap := h2, toks := k })
    (hclos : closureFor scope env = pure cl) (hsub : ∀ y c, cl.lookup y = some c → env.cells.lookup y = some c) (hNb : ∀ a ∈ Nb env, a ∈ N ++ Hd)
    (hcf : ∀ n, cellsFrom n scope.names cl = (x, n) :: cl := by intro _; rfl) (hpc : ∀ h : Heap, pushCells h scope.names = h.push { cls := .type "cell", data := .cell none } := by intro _; rfl)
    (hl : ∀ p ∈ scope.names, p.2 = .local → p.1 = Str.ofString ".0" := by decide) (h0 : ∀ d, (upd σ x (.d d)) (Str.ofString ".0") = none := by intro _; rfl) (hxc : (relabel scope env).names.lookup x = some .cell := by rfl)
    (hkind : scope.kind = .function := by rfl) (hnames : ∀ y ∈ scope.names, y.2 = .local → scope.names.lookup y.1 = some .local := by decide) (hfs : ∀ x, foldedSetIterable iter env x = pure x := by intro _; rfl)
    (hk : env.scope.kind = .function := by rfl) (hsw : swapsWith (.ListComp elt [⟨.Name x px, iter, [], 0⟩] scope pos) (some (.Name y py)) spos.line env = pure true := by rfl) :
    wpAny (model prog w) A (execs (.Assign [.Name y py] (.ListComp elt [⟨.Name x px, iter, [], 0⟩] scope pos) spos :: rest) env) Q E s := by
  refine wpAny_execs_cons ?_
  rw [exec_Assign_Name_used _ _ _ _ hsw]
  refine wpAny_bind (wpAny_standAt (wpAny_bind ?_))
  show wpAny _ A (do let _ ← comprehension (.ListComp elt [⟨.Name x px, iter, [], 0⟩] scope pos) scope env _ (newList []) false (eval iter env) (some (assign (.Name y py) env))) _ _ s
  refine wpAny_bind (wpAny_mono (comp_core1 (Q := fun _ s' => wpAny (model prog w) A (execs rest env) Q E s') (E := E) (f := f) (p := fun _ => true) (b := s.heap) (Hd := N ++ Hd) F.hs (Kp.refl _) hit hz hclos hcf hpc hkind hnames hfs hxc
    (fun C ci b' H v d hd ext r _ _ _ => test_nil (cenv := env)) (fun C ci b' H v d hd hp ext r l1 l2 hn => helt C ci b' H d hd ext (comp_fv1 V hsub ext hl (h0 d) r l1 l2 hn)) ?_) (fun _ s' hq => wpAny_pure (wpAny_pure hq)) fun _ _ e => e)
  intro D C h' k m' H ys hn hD hC hDC kp hpl r hCH hDH hfr
  rw [show ds.filter (fun _ => true) = ds from List.filter_eq_self.mpr fun _ _ => rfl] at r
  have hide : ∀ a ∈ C :: (N ++ Hd), a ∈ N ++ Hd ∨ s.heap.get? a = none := fun a ha => by
    rcases List.mem_cons.mp ha with rfl | ha
    · exact .inr hC
    · exact .inl ha
  have out : ∀ a, s.heap.get? a = none → a ∉ N ++ Hd := fun a e m => by obtain ⟨o, q⟩ := F.hs a m; rw [e] at q; cases q
  have V1 := V.hide kp hide
  have hDn : D ∉ C :: (N ++ Hd) := fun m => by
    rcases List.mem_cons.mp m with q | q
    · exact hDC q
    · exact out D hD q
  have pl : Pl (C :: (N ++ Hd)) h' (.ref D) (ds.map f) := Pl.mk (Rp.list_mk (vs := ys.toList) hDn (by rw [Array.toArray_toList]; exact hpl.isList) (r.sub fun a ha => by
    rcases List.mem_cons.mp ha with rfl | ha
    · exact List.mem_append.mpr (.inl hCH)
    · exact List.mem_append.mpr (.inr ha))) ⟨D, ys, rfl, hpl⟩
  show wpAny _ A (assign (.Name y py) env (.ref D)) _ _ _
  refine wpAny_assign_Name (put (s := { s with heap := h', toks := k }) (d := .p (ds.map f)) V1 o (fun a ha => .tail _ (inl_of a ha)) pl (fun h2 k2 kN kq hx2 V2 => ?_) hk)
  have hCN : C ∉ N := fun m => out C hC (inl_of C m)
  refine ⟨m', hn.at' fun o e => kN _ _ hCN e, fun h3 hs3 => ?_⟩
  have F1 := F.grow kp
  have F2 := F1.up kN fun a ha => hx2 a (F1.hs a (inl_of a ha))
  have V3 : Fv env (N ++ Hd) h3 (upd σ y (.p (ds.map f))) := (V2.upN (K := [C]) (KpH.same hs3 (.head _)) (fun a ha => by rw [List.mem_singleton.mp ha]; exact .head _) (fun m => out C hC (List.mem_singleton.mp m ▸ hNb _ (.head _))) (fun z c hc m => out C hC (List.mem_singleton.mp m ▸ hNb _ (.tail _ (List.mem_map.mpr ⟨_, mem_of_lookup hc, rfl⟩))))).sub fun a ha => .tail _ ha
  refine next h3 k2 ⟨fun a o e => (hs3.2 a (fun z => ?_)).trans (F2.k0 a o e), F.nw, fun a ha => ?_⟩ (fun a o n e => (hs3.2 a (fun z => by rw [z, hC] at e; cases e)).trans (kN a o n (kp a o e))) (fun a o e q => (hs3.2 a (fun z => by rw [z, hC] at e; cases e)).trans (kq a o (kp a o e) q)) V3
  · rw [z] at e; rw [F.k0 _ _ e] at hC; cases hC
  · obtain ⟨o, e⟩ := F2.hs a ha
    exact ⟨o, (hs3.2 a (fun z => out C hC (z ▸ ha))).trans e⟩
end
end Mine
end
section
set_option maxRecDepth 100000
namespace Mine
open PySem PySem.W PySem.W.X PySem.Calls PyProof.Rows
section
variable {prog : Program} {w : World} {A : Around} {s : Shared} {env : Env} {b : Heap} {Hd : List Addr}
theorem strs_of {h : Heap} : ∀ {ys : List Str} {vs : List Value}, RpAll Hd h vs (ys.map PyData.str) → StrsAre vs ys ∧ ∃ l : List (Str × Tok), vs = strValues l ∧ l.map (·.1) = ys
  | [], vs, r => by
    have := r.length
    cases vs with
    | nil => exact ⟨.nil, [], rfl, rfl⟩
    | cons _ _ => simp at this
  | y :: ys, vs, r => by
    cases vs with
    | nil => have := r.length; simp at this
    | cons v vs =>
      obtain ⟨t, rfl⟩ := (RpAll.head r).str_inv
      obtain ⟨h1, l, rfl, h2⟩ := strs_of (ys := ys) (RpAll.tail r)
      exact ⟨.cons y t h1, (y, t) :: l, rfl, by rw [List.map_cons, h2]⟩
theorem g_count {H : List Addr} {a : Addr} {v : Value} {ys : List Str} {k : Str} (p : Pl H s.heap (.ref a) (ys.map PyData.str)) (r : Rp Hd s.heap v (.str k)) : Gives prog w A s (call (.builtin "list.count") [.ref a, v] []) (Da Hd (.int (PySem.Spec.countIn (.str k) (ys.map PyData.str)))) := by
  obtain ⟨a', vs, e, _, hp, ra⟩ := p.inv
  cases e
  obtain ⟨t, rfl⟩ := r.str_inv
  exact Gives.of fun Q E q => count_list_strs hp.isList (strs_of ra).1 (q _ s.heap _ (Kp.refl _) (.int _ _))
theorem g_join {v : Value} {ys : List Str} {x : Str} {t : Tok} (r : Rp Hd s.heap v (.list (ys.map PyData.str))) (hok : JoinOk x ys = true) : Gives prog w A s (call (.builtin "str.join") [.str x t, v] []) (Da Hd (.str (Txt.join x ys))) := by
  obtain ⟨a, vs, rfl, _, hl, ra⟩ := r.list_inv
  obtain ⟨_, l, rfl, h2⟩ := strs_of ra
  exact Gives.of fun Q E q => SC.join hl h2 hok fun t' k => q _ s.heap _ (Kp.refl _) (.str _ _)
/-- an item of a dict that is written out -/
theorem ev_dictI {keys : List (Option Expr)} {values : List Expr} {slice : Expr} {pos dpos : Pos} {D : List (PyData × PyData)} {i : Int} {x : Str} (hlim : b.NoLimit) (hD : litPairs keys values = some D) (hl : PySem.Spec.lookup (.int i) D = some (.str x)) (hi : Ev prog w A b (eval slice env) (Da Hd (.int i)))
    (hs : intKeyed D = true := by rfl) (hn : (intKeysOf D).Nodup := by decide) (hall : keys.all (·.isSome) = true := by rfl) (hlen : keys.length = values.length := by rfl) (h0 : keys ≠ [] := by decide) (h15 : keys.length ≤ 15 := by decide)
    (hsb : ∀ d v, subscripted slice false d v = operate [d, v] (getItem d v) := by intro _ _; with_unfolding_all rfl) :
    Ev prog w A b (eval (.Subscript (.Dict keys values dpos) slice pos) env) (Da Hd (.str x)) := fun s kb => Gives.of fun Q E q => by
  refine Subscript_ (Dict_lits_int hD hs hn hall hlen h0 h15 fun a o h₁ tk ha ho hT kp => ?_)
  refine hi.use (s := { s with heap := h₁, toks := tk }) (kb.trans kp) fun v h2 k2 kp2 p2 => ?_
  obtain ⟨t, rfl⟩ := Rp.int_inv p2
  obtain ⟨kvs, h1, hf⟩ := hT
  have hlo : (a == sysModules) = false := beq_eq_false_iff_ne.mpr fun e => by
    have := modules_low (hlim.keeps kb)
    exact absurd (Nat.lt_of_lt_of_le this (show s.heap.objs.size ≤ sysModules from e ▸ ha)) (Nat.lt_irrefl _)
  refine kba_turn (value' := .Name (Str.ofString "_") ⟨0, 0, 0, 0⟩) (fun _ => rfl) (item_intTab (TabAt.ofObj hlo (kp2 _ _ ho) h1 hf) hl (fun v hv => ?_) (hsb _ _) (fun _ => rfl))
  obtain ⟨t', rfl⟩ := hv.str_inv
  exact q _ h2 _ (Kp.trans kp kp2) (.str _ _)
end
end Mine
end
section
set_option maxRecDepth 100000
namespace Mine
open PySem PySem.W PySem.W.X PySem.Calls PyProof.Rows
set_option maxHeartbeats 4000000
/-- an iterator over data that owns no tuple -/
def ItT (prog : Program) (w : World) (A : Around) (Hd : List Addr) (h : Heap) (I : Addr) (ds : List PyData) (N : Nat) : Prop :=
  ∃ (fp : List Addr) (P : Nat → Value → Prop) (St : Nat → Heap → Prop), Walks prog w A I fp [I] ds.length P St ∧ St 0 h ∧ (∀ a ∈ fp, a < N ∧ (a = I ∨ a ∉ Hd)) ∧ (∀ i h', St i h' → ∃ o, h'.get? I = some o) ∧ (∀ i v, P i v → ∃ d, ds[i]? = some d ∧ Rp (I :: Hd) h v d) ∧
    ∀ (elts : List Expr) (x1 : Nat) (pos : Pos) (i : Nat) (v : Value) (s : Shared) (Q : Unit → Shared → Prop) (E : Value → Shared → Prop), St i s.heap → Q () s → wpAny (model prog w) A (letOwnedTupleGo (.Tuple elts x1 pos) (.ref I) v) Q E s
def IterT (prog : Program) (w : World) (A : Around) (b : Heap) (Hd : List Addr) (t : Sem Value) (ds : List PyData) : Prop :=
  ∀ (s : Shared) (Q : Value → Shared → Prop) (E : Value → Shared → Prop), Kp b s.heap → (∀ I h' k, Kp s.heap h' → s.heap.get? I = none → ItT prog w A Hd h' I ds h'.objs.size → Q (.ref I) { s with heap := h', toks := k }) →
    wpAny (model prog w) A t (fun x s₁ => wpAny (model prog w) A (pyIter x) Q E s₁) E s
theorem letGo_list {prog : Program} {w : World} {A : Around} {elts : List Expr} {x1 : Nat} {pos : Pos} {I l : Addr} {i : Nat} {v : Value} {s : Shared} {Q : Unit → Shared → Prop} {E : Value → Shared → Prop} (hit : s.heap.IsListIter I l i) (hQ : Q () s) :
    wpAny (model prog w) A (letOwnedTupleGo (.Tuple elts x1 pos) (.ref I) v) Q E s := by
  cases v with
  | ref T => exact wpAny_letOwnedTupleGo_listiter hit hQ
  | _ => exact wpAny_pure hQ
theorem iter_listT {prog : Program} {w : World} {A : Around} {b : Heap} {Hd : List Addr} {t : Sem Value} {ds : List PyData} (hh : A.handled = none) (h : Ev prog w A b t (Da Hd (.list ds))) : IterT prog w A b Hd t ds := fun s Q E kb q =>
  h.use kb fun v h1 k1 kp1 p1 => by
    obtain ⟨l, vs, rfl, hax, hl, r⟩ := Rp.list_inv p1
    obtain ⟨o, ho, hc, n, hd⟩ := id hl
    have hne : l ≠ h1.objs.size := Nat.ne_of_lt (Heap.lt_size ho)
    refine wpAny_pyIter_list hl (q _ _ _ (kp1.trans (Kp.push _ _)) (fresh_of kp1 (Nat.le_refl _)) ?_)
    have hlen : vs.toArray.size = ds.length := by simp [r.length]
    have W := Walks.list (prog := prog) (w := w) hh h1.objs.size l hne vs.toArray
    rw [hlen] at W
    refine ⟨_, _, _, W, ⟨⟨_, Heap.get?_push_size _ rfl, rfl, rfl⟩, hl.at fun o e => Heap.get?_push_of_some _ e⟩, ?_, fun i h' st => ?_, fun i v hv => ?_, fun elts x1 pos i v s Q E st hQ => letGo_list st.1 hQ⟩
    · intro a ha
      rw [Heap.size_push]
      rcases List.mem_cons.mp ha with rfl | ha
      · exact ⟨Nat.lt_succ_self _, .inl rfl⟩
      · rw [List.mem_singleton.mp ha]; exact ⟨Nat.lt_succ_of_lt (Heap.lt_size ho), .inr hax⟩
    · obtain ⟨⟨o, e, _⟩, _⟩ := st; exact ⟨o, e⟩
    · obtain ⟨d, h1', h2⟩ := r.get (i := i) (v := v) (by simpa using hv)
      refine ⟨d, h1', h2.of fun a o e => ?_⟩
      have e' := of_hideAll Hd e
      refine hideAll_get _ (Heap.get?_push_of_some _ e') fun m => ?_
      rcases List.mem_cons.mp m with q | m
      · exact absurd (Heap.lt_size e') (q ▸ Nat.lt_irrefl _)
      · rw [hideAll_none Hd m] at e; cases e
section
variable {prog : Program} {w : World} {A : Around}
theorem codeAny_compLoop_testsG {s : Shared} {R : Result → Shared → Prop} {elt target iter : Expr} {ifs : List Expr} {scope : Scope} {pos : Pos} {it acc : Value} {env : Env} (I : Nat → Shared → Prop)
    (turn : ∀ n s, I n s → wpAny (model prog w) A (pyNext it) (fun r s₁ => match r with
      | none => R (.ok .next) s₁
      | some v => wpAny (model prog w) A (letOwnedTupleGo target it v) (fun _ s₁' => wpAny (model prog w) A (assign target env v) (fun _ s₂ =>
          wpAny (model prog w) A (forIn ifs true fun c r => if r = true then do let ok ← isTrue c env (eval c env); pure (ForInStep.yield ok) else pure (ForInStep.yield r)) (fun ok s₃ =>
            if ok = true then wpAny (model prog w) A (eval elt env) (fun x s₄ =>
              wpAny (model prog w) A (call (.builtin "list.append") [acc, x]) (fun _ s₅ => ∃ m, m < n ∧ I m s₅) (notedBy (model prog w) A env fun e s' => R (.error e) s') s₄) (notedBy (model prog w) A env fun e s' => R (.error e) s') s₃
            else ∃ m, m < n ∧ I m s₃) (notedBy (model prog w) A env fun e s' => R (.error e) s') s₂) (notedBy (model prog w) A env fun e s' => R (.error e) s') s₁') (notedBy (model prog w) A env fun e s' => R (.error e) s') s₁) (notedBy (model prog w) A env fun e s' => R (.error e) s') s)
    (n : Nat) (h : I n s) :
    codeAny (model prog w) A (.compLoop (.ListComp elt [⟨target, iter, ifs, 0⟩] scope pos) 0 it acc env) R s := by
  refine codeAny_loop rfl I (fun n s hI => ?_) n h
  show wpAny _ A ((compTurn (.ListComp elt [⟨target, iter, ifs, 0⟩] scope pos) 0 it acc env).onRaise (fun x => do noteFrame x env; theTreesLotGoes x)) _ _ s
  refine wpAny_noted ?_
  rw [compTurn_list]
  refine wpAny_bind (wpAny_standAt (wpAny_bind (wpAny_mono (turn n s hI) (fun r s₁ h₁ => ?_) fun _ _ h' => h')))
  cases r with
  | none => exact wpAny_pure h₁
  | some v =>
    refine wpAny_bind (wpAny_mono h₁ (fun _ s₁' h₁' => ?_) fun _ _ h' => h')
    refine wpAny_bind (wpAny_mono h₁' (fun _ s₂ h₂ => wpAny_bind (wpAny_mono h₂ (fun ok s₃ h₃ => ?_) fun _ _ h' => h')) fun _ _ h' => h')
    cases ok with
    | false => exact wpAny_pure ⟨rfl, h₃⟩
    | true =>
      exact wpAny_bind (wpAny_bind (wpAny_mono h₃ (fun x s₄ h₄ => wpAny_bind (wpAny_mono h₄ (fun _ s₅ h₅ => wpAny_pure (wpAny_pure ⟨rfl, h₅⟩)) fun _ _ h' => h')) fun _ _ h' => h'))
theorem comp_loopT {elt iter : Expr} {elts : List Expr} {x1 : Nat} {tp : Pos} {ifs : List Expr} {scope : Scope} {pos : Pos} {I D : Addr} {cenv : Env} {FH H : List Addr} {FI : Heap → Prop} {Lv : PyData → Value → Heap → Prop} {ds : List PyData} {f : PyData → PyData} {p : PyData → Bool} {R : Result → Shared → Prop} {s₂ : Shared}
    {N : Nat} {fp : List Addr} {P : Nat → Value → Prop} {St : Nat → Heap → Prop} (W : Walks prog w A I fp [I] ds.length P St) (hst : St 0 s₂.heap) (hlt : ∀ a ∈ fp, a < N) (live : ∀ i h', St i h' → ∃ o, h'.get? I = some o) (hP : ∀ i v, P i v → ∃ d, ds[i]? = some d ∧ Rp H s₂.heap v d) (hz : ds.length ≤ sizeLine) (hD : s₂.heap.PlainList D #[]) (hFI : FI s₂.heap) (hH : Hs H s₂.heap) (hIH : I ∈ H) (hDH : D ∈ H) (hFH : ∀ a ∈ FH, a ∈ H)
    (hDN : N ≤ D) (hFN : ∀ a ∈ FH, N ≤ a) (hDF : D ∉ FH)
    (hFr : ∀ h h', FI h → (∀ c ∈ FH, ∀ o, h.get? c = some o → h'.get? c = some o) → FI h')
    (store : ∀ (s : Shared) (v : Value) (d : PyData) (Q : Unit → Shared → Prop) (E : Value → Shared → Prop), d ∈ ds → FI s.heap → Rp H s.heap v d → (∀ h' k, FI h' → Lv d v h' → KpH FH s.heap h' → (∀ c ∈ FH, (∃ o, s.heap.get? c = some o) → ∃ o, h'.get? c = some o) → Q () { s with heap := h', toks := k }) → wpAny (model prog w) A (assign (.Tuple elts x1 tp) cenv v) Q E s)
    (htest : ∀ b' v d, d ∈ ds → KpH (I :: D :: FH) s₂.heap b' → Hs H b' → FI b' → Rp H b' v d → Lv d v b' → Tr prog w A b' (forIn ifs true fun c r => if r = true then do let ok ← isTrue c cenv (eval c cenv); pure (ForInStep.yield ok) else pure (ForInStep.yield r)) (p d))
    (helt : ∀ b' v d, d ∈ ds → p d = true → KpH (I :: D :: FH) s₂.heap b' → Hs H b' → FI b' → Rp H b' v d → Lv d v b' → Ev prog w A b' (eval elt cenv) (Da H (f d)))
    (hLv : ∀ d v h h', Lv d v h → Kp h h' → Lv d v h')
    (hR : ∀ h' tk ys, FI h' → h'.PlainList D ys → RpAll H h' ys.toList ((ds.filter p).map f) → KpH (I :: D :: FH) s₂.heap h' → Hs FH h' → R (.ok .next) { s₂ with heap := h', toks := tk })
    (go : ∀ (i : Nat) (v : Value) (s : Shared) (Q : Unit → Shared → Prop) (E : Value → Shared → Prop), St i s.heap → Q () s → wpAny (model prog w) A (letOwnedTupleGo (.Tuple elts x1 tp) (.ref I) v) Q E s) :
    codeAny (model prog w) A (.compLoop (.ListComp elt [⟨.Tuple elts x1 tp, iter, ifs, 0⟩] scope pos) 0 (.ref I) (.ref D) cenv) R s₂ := by
  have hDf : D ∉ fp := fun m => Nat.lt_irrefl _ (Nat.lt_of_lt_of_le (hlt _ m) hDN)
  have hFf : ∀ a ∈ FH, a ∉ fp := fun a ha m => Nat.lt_irrefl _ (Nat.lt_of_lt_of_le (hlt _ m) (hFN a ha))
  have hIN : I < N := hlt _ (W.sub I (.head _))
  have hDI : D ≠ I := Nat.ne_of_gt (Nat.lt_of_lt_of_le hIN hDN)
  have hIF : I ∉ FH := fun m => Nat.lt_irrefl _ (Nat.lt_of_lt_of_le hIN (hFN _ m))
  refine codeAny_compLoop_testsG
    (fun k s' => ∃ h' tk ys i, s' = { s₂ with heap := h', toks := tk } ∧ St i h' ∧ h'.PlainList D ys ∧ FI h' ∧ Hs H h' ∧ RpAll H h' ys.toList (((ds.take i).filter p).map f) ∧ i ≤ ds.length ∧ k = ds.length + 1 - i ∧
      KpH (I :: D :: FH) s₂.heap h' ∧ KpH H s₂.heap h') ?_ (ds.length + 1) ⟨s₂.heap, s₂.toks, #[], 0, rfl, hst, hD, hFI, hH, by simpa using RpAll.nil, Nat.zero_le _, rfl, fun _ _ _ e => e, fun _ _ _ e => e⟩
  rintro k s' ⟨h, tk, ys, i, rfl, hst', hacc, hfi, hHs, hys, hi, rfl, hk, hkH⟩
  by_cases hlt' : i < ds.length
  · refine W.item i _ _ _ hlt' hst' fun v h₁ tk₁ hPv hst₁ hk₁ => ?_
    obtain ⟨d, hd, rv⟩ := hP i v hPv
    have hdm : d ∈ ds := List.mem_of_getElem? hd
    have kI : KpH [I] h h₁ := fun c o hc e => hk₁ c o hc e
    have kH₁ : KpH H h h₁ := fun c o hc e => hk₁ c o (fun m => hc (List.mem_singleton.mp m ▸ hIH)) e
    have rv₁ : Rp H h₁ v d := rv.upH (hkH.trans kH₁)
    have hfi₁ : FI h₁ := hFr _ _ hfi fun c hc o e => hk₁ c o (fun m => hIF (List.mem_singleton.mp m ▸ hc)) e
    have hHs₁ : Hs H h₁ := fun c hc => by
      by_cases e : c = I
      · subst e; exact live _ _ hst₁
      · obtain ⟨o, ho⟩ := hHs c hc; exact ⟨o, hk₁ c o (fun m => e (List.mem_singleton.mp m)) ho⟩
    refine go _ v _ _ _ hst₁ ?_
    refine store _ v d _ _ hdm hfi₁ rv₁ fun h₂ tk₂ hfi₂ hLv₂ hk₂ hex₂ => ?_
    have kH₂ : KpH H h₁ h₂ := fun c o hc e => hk₂ c o (fun m => hc (hFH c m)) e
    have hHs₂ : Hs H h₂ := fun c hc => by
      by_cases m : c ∈ FH
      · exact hex₂ c m (hHs₁ c hc)
      · obtain ⟨o, ho⟩ := hHs₁ c hc; exact ⟨o, hk₂ c o m ho⟩
    have hst₂ : St (i + 1) h₂ := W.frame _ _ _ hst₁ fun c hc o e => hk₂ c o (fun m => hFf c m hc) e
    have kX₂ : KpH (I :: D :: FH) s₂.heap h₂ := fun c o hc e => hk₂ c o (fun m => hc (.tail _ (.tail _ m))) (hk₁ c o (fun m => hc (List.mem_singleton.mp m ▸ .head _)) (hk c o hc e))
    have kH2 : KpH H s₂.heap h₂ := hkH.trans (kH₁.trans kH₂)
    have rv₂ : Rp H h₂ v d := rv₁.upH kH₂
    refine htest h₂ v d hdm kX₂ hHs₂ hfi₂ rv₂ hLv₂ _ _ _ (Kp.refl _) fun h₃ tk₃ kp₃ => ?_
    have hst₃ : St (i + 1) h₃ := W.frame _ _ _ hst₂ fun c _ o e => kp₃ c o e
    have hfi₃ : FI h₃ := hFr _ _ hfi₂ fun c _ o e => kp₃ c o e
    have hacc₃ : h₃.PlainList D ys := hacc.at fun o e => kp₃ _ o (hk₂ D o hDF (hk₁ D o (fun m => hDI (List.mem_singleton.mp m)) e))
    have hys₃ : RpAll H h₃ ys.toList (((ds.take i).filter p).map f) := ((hys.upH kH₁).upH kH₂).up kp₃
    have htk : (ds.take (i + 1)).filter p = (ds.take i).filter p ++ (if p d then [d] else []) := take_succ_filter p ds i d hd
    have kX₃ : KpH (I :: D :: FH) s₂.heap h₃ := kX₂.trans kp₃.toH
    have kH₃ : KpH H s₂.heap h₃ := kH2.trans kp₃.toH
    cases hpd : p d with
    | false =>
      simp only [Bool.false_eq_true, if_false]
      refine ⟨ds.length + 1 - (i + 1), by omega, h₃, tk₃, ys, i + 1, rfl, hst₃, hacc₃, hfi₃, hHs₂.up kp₃, ?_, hlt', rfl, kX₃, kH₃⟩
      rw [htk, hpd]; simpa using hys₃
    | true =>
      simp only [if_true]
      refine Ev.use (helt h₂ v d hdm hpd kX₂ hHs₂ hfi₂ rv₂ hLv₂) kp₃ fun y h₄ tk₄ kp₄ ry => ?_
      have hys' : ys.size ≤ sizeLine := by
        have e1 := hys.length
        simp only [List.length_map, Array.length_toList] at e1
        have e2 : ((ds.take i).filter p).length ≤ (ds.take i).length := List.length_filter_le _ _
        have e3 : (ds.take i).length ≤ ds.length := by rw [List.length_take]; exact Nat.min_le_right _ _
        omega
      refine wpAny_list_append_plain (hsz := hys') (hacc₃.at fun o e => kp₄ _ o e) fun h₅ hl₅ hs₅ => ?_
      have kH₅ : KpH H h₄ h₅ := KpH.same hs₅ hDH
      have hHs₅ : Hs H h₅ := ((hHs₂.up kp₃).up kp₄).same hs₅ (let ⟨_, e⟩ := hl₅; ⟨_, e⟩)
      refine ⟨ds.length + 1 - (i + 1), by omega, h₅, tk₄, ys.push y, i + 1, rfl, W.frame _ _ _ hst₃ (fun c hc o e => (hs₅.2 c (fun q => hDf (q ▸ hc))).trans (kp₄ c o e)), hl₅, hFr _ _ (hFr _ _ hfi₃ fun c _ o e => kp₄ c o e) (fun c hc o e => (hs₅.2 c (fun q => hDF (q ▸ hc))).trans e), hHs₅, ?_, hlt', rfl, ?_, ?_⟩
      · rw [htk, hpd, List.map_append, Array.toList_push]
        exact RpAll.append ((hys₃.up kp₄).upH kH₅) (.cons (Rp.upH ry kH₅) .nil)
      · exact fun c o hc e => (hs₅.2 c (fun q => hc (q ▸ .tail _ (.head _)))).trans (kp₄ c o (kX₃ c o hc e))
      · exact kH₃.trans (kp₄.toH.trans kH₅)
  · have hin : i = ds.length := by omega
    subst hin
    refine W.done _ _ _ hst' fun h₁ tk₁ hk₁ => ?_
    refine hR h₁ tk₁ ys (hFr _ _ hfi fun c hc o e => hk₁ c o (fun m => hIF (List.mem_singleton.mp m ▸ hc)) e) (hacc.at fun o e => hk₁ _ o (fun m => hDI (List.mem_singleton.mp m)) e) ?_ (fun c o hc e => hk₁ c o (fun m => hc (List.mem_singleton.mp m ▸ .head _)) (hk c o hc e)) ?_
    · rw [List.take_length] at hys
      exact hys.upH fun c o hc e => hk₁ c o (fun m => hc (List.mem_singleton.mp m ▸ hIH)) e
    · intro c hc
      obtain ⟨o, ho⟩ := hHs c (hFH c hc)
      exact ⟨o, hk₁ c o (fun m => hIF (List.mem_singleton.mp m ▸ hc)) ho⟩

/-- the whole comprehension, no cell of its own -/
theorem comp_coreT {elt iter : Expr} {elts : List Expr} {x1 : Nat} {tp : Pos} {ifs : List Expr} {scope : Scope} {cl : List (Str × Addr)} {pos ipos : Pos} {env : Env} {use : Option (Value → Sem Unit)} {Lv : Addr → PyData → Value → Heap → Prop} {ds : List PyData} {f : PyData → PyData} {p : PyData → Bool}
    {Q : Value → Shared → Prop} {E : Value → Shared → Prop} {s : Shared} {b : Heap} {Hd : List Addr}
    (hs : Hs Hd b) (kb : Kp b s.heap) (hit : IterT prog w A b Hd (eval iter env) ds) (hz : ds.length ≤ sizeLine) (hclos : closureFor scope env = pure cl) (hcell : ∀ y ∈ scope.names, y.2 ≠ .cell) (hkind : scope.kind = .function)
    (hnames : ∀ y ∈ scope.names, y.2 = .local → scope.names.lookup y.1 = some .local) (hfs : ∀ x, foldedSetIterable iter env x = pure x)
    (store : ∀ (C : Addr) (H : List Addr) (s : Shared) (v : Value) (d : PyData) (Q : Unit → Shared → Prop) (E : Value → Shared → Prop) (m : Str → Option Value), C ∈ H → d ∈ ds → s.heap.Ns C m → Rp H s.heap v d → (∀ h' k m', h'.Ns C m' → Lv C d v h' → KpH [C] s.heap h' → Q () { s with heap := h', toks := k }) → wpAny (model prog w) A (assign (.Tuple elts x1 tp) (compEnvC scope cl C env) v) Q E s)
    (htest : ∀ C b' H v d, d ∈ ds → Ext b Hd b' H → Rp H b' v d → Lv C d v b' → Tr prog w A b' (forIn ifs true fun c r => if r = true then do let ok ← isTrue c (compEnvC scope cl C env) (eval c (compEnvC scope cl C env)); pure (ForInStep.yield ok) else pure (ForInStep.yield r)) (p d))
    (helt : ∀ C b' H v d, d ∈ ds → p d = true → Ext b Hd b' H → Rp H b' v d → Lv C d v b' → Ev prog w A b' (eval elt (compEnvC scope cl C env)) (Da H (f d)))
    (hLv : ∀ C d v h h', Lv C d v h → Kp h h' → Lv C d v h')
    (fin : ∀ (D C : Addr) (h' : Heap) (k : Nat) (m' : Str → Option Value) (H : List Addr) (ys : Array Value), h'.Ns C m' → s.heap.get? D = none → s.heap.get? C = none → D ≠ C → Kp s.heap h' → h'.PlainList D ys → RpAll (H ++ Hd) h' ys.toList ((ds.filter p).map f) → C ∈ H → D ∈ H → (∀ a ∈ H, s.heap.get? a = none) →
      compPost (model prog w) A E use Q (.ref D) C (.ok .next) { s with heap := h', toks := k }) :
    wpAny (model prog w) A (comprehension (.ListComp elt [⟨.Tuple elts x1 tp, iter, ifs, 0⟩] scope pos) scope env ipos (newList []) false (eval iter env) use) Q E s := by
  refine wpAny_comprehension_free rfl hfs hclos hkind hnames (hit s _ _ kb fun I h2 k2 kp2 hI it => ?_)
  obtain ⟨fp, P, St, W, hst, hlt, live, hP, go⟩ := it
  refine wpAny_newObj_type (wpAny_newFunctionEnv hcell (by intro y hy; simp at hy) (fun h₁ hns₁ hsb₁ => ?_) hkind)
  dsimp only at hns₁ hsb₁ ⊢
  generalize hH2 : h2.push { cls := .type "list", dict := none, data := .seq ([] : List Value).toArray } = H2 at hns₁ hsb₁ ⊢
  have hC : H2.objs.size = h2.objs.size + 1 := by rw [← hH2, Heap.size_push]
  have hDC : h2.objs.size ≠ H2.objs.size := by rw [hC]; exact Nat.ne_of_lt (Nat.lt_succ_self _)
  have old : Kp h2 h₁ := fun c o e => hsb₁.extBut c o (by rw [hC]; exact Nat.ne_of_lt (Nat.lt_succ_of_lt (Heap.lt_size e))) (Heap.get?_push_of_some _ (hH2 ▸ Heap.get?_push_of_some _ e))
  have hacc : h₁.PlainList h2.objs.size #[] := ⟨_, hsb₁.extBut _ _ hDC (Heap.get?_push_of_some _ (hH2 ▸ Heap.get?_push_size _ rfl))⟩
  have hD2 : h2.get? h2.objs.size = none := fresh_of (Kp.refl _) (Nat.le_refl _)
  have hC2 : h2.get? H2.objs.size = none := fresh_of (Kp.refl _) (by rw [hC]; exact Nat.le_succ _)
  have hD0 : s.heap.get? h2.objs.size = none := fresh_of kp2 (Nat.le_refl _)
  have hC0 : s.heap.get? H2.objs.size = none := fresh_of kp2 (by rw [hC]; exact Nat.le_succ _)
  have nb : ∀ a, s.heap.get? a = none → b.get? a = none := fun a e => by
    cases q : b.get? a with
    | none => rfl
    | some o => rw [kb _ _ q] at e; cases e
  have hst₁ : St 0 h₁ := W.frame _ _ _ hst fun c _ o e => old c o e
  have hCs : ∃ o, h₁.get? H2.objs.size = some o := let ⟨o, _, _, e, _⟩ := hns₁; ⟨o, e⟩
  have hDs : ∃ o, h₁.get? h2.objs.size = some o := let ⟨n, e⟩ := hacc; ⟨_, e⟩
  have hfr : ∀ a ∈ [I, h2.objs.size, H2.objs.size], s.heap.get? a = none := fun a ha => by
    rcases List.mem_cons.mp ha with rfl | ha
    · exact hI
    rcases List.mem_cons.mp ha with rfl | ha
    · exact hD0
    · rw [List.mem_singleton.mp ha]; exact hC0
  have kall : Kp s.heap h₁ := kp2.trans old
  have hHs : Hs ([I, h2.objs.size, H2.objs.size] ++ Hd) h₁ := fun a ha => by
    rcases List.mem_append.mp ha with ha | ha
    · rcases List.mem_cons.mp ha with rfl | ha
      · exact live _ _ hst₁
      rcases List.mem_cons.mp ha with rfl | ha
      · exact hDs
      · rw [List.mem_singleton.mp ha]; exact hCs
    · obtain ⟨o, e⟩ := hs a ha; exact ⟨o, kall _ _ (kb _ _ e)⟩
  have ext : ∀ b', KpH (I :: h2.objs.size :: [H2.objs.size]) h₁ b' → Hs ([I, h2.objs.size, H2.objs.size] ++ Hd) b' → Ext b Hd b' ([I, h2.objs.size, H2.objs.size] ++ Hd) := fun b' kx hx =>
    Ext.mk' (fun c o e => kx c o (fun m => by have := nb c (hfr c m); rw [e] at this; cases this) (kall _ _ (kb _ _ e))) (fun a ha => nb a (hfr a ha)) hx
  have loop : codeAny (model prog w) A (.compLoop (.ListComp elt [⟨.Tuple elts x1 tp, iter, ifs, 0⟩] scope pos) 0 (.ref I) (.ref h2.objs.size) (compEnvC scope cl H2.objs.size env))
        (compPost (model prog w) A E use Q (.ref h2.objs.size) H2.objs.size) { s with heap := h₁, toks := k2 } := by
    refine comp_loopT (s₂ := { s with heap := h₁, toks := k2 }) (N := h2.objs.size) (FH := [H2.objs.size]) (H := [I, h2.objs.size, H2.objs.size] ++ Hd) (FI := fun h => ∃ m, h.Ns H2.objs.size m) (Lv := Lv H2.objs.size) (ds := ds) (f := f) (p := p) W hst₁ (fun a ha => (hlt a ha).1) live ?_ hz hacc ⟨_, hns₁⟩ hHs ?_ ?_ ?_ (Nat.le_refl _) ?_ ?_ ?_ ?_ ?_ ?_ (hLv _) ?_ (go elts x1 tp)
    · intro i v hv
      obtain ⟨d, hd, r⟩ := hP i v hv
      refine ⟨d, hd, r.of fun a o e => ?_⟩
      have e' := of_hideAll _ e
      refine hideAll_get _ (old _ _ e') fun m => ?_
      have hn : a ∉ I :: Hd := fun q => by rw [hideAll_none _ q] at e; cases e
      rcases List.mem_append.mp m with m | m
      · rcases List.mem_cons.mp m with rfl | m
        · exact hn (.head _)
        rcases List.mem_cons.mp m with rfl | m
        · rw [hD2] at e'; cases e'
        · rw [List.mem_singleton.mp m, hC2] at e'; cases e'
      · exact hn (.tail _ m)
    · simp
    · simp
    · intro a ha; rw [List.mem_singleton.mp ha]; simp
    · intro a ha; rw [List.mem_singleton.mp ha, hC]; exact Nat.le_succ _
    · intro m; exact hDC (List.mem_singleton.mp m)
    · rintro h h' ⟨m, hn⟩ hk; exact ⟨m, hn.at' fun o e => hk _ (.head _) o e⟩
    · rintro s' v d Q' E' hd ⟨m, hn⟩ r q
      exact store _ _ s' v d Q' E' m (by simp) hd hn r fun h' k m' hn' lv kk => q h' k ⟨m', hn'⟩ lv kk fun c hc _ => by rw [List.mem_singleton.mp hc]; obtain ⟨o, _, _, e, _⟩ := hn'; exact ⟨o, e⟩
    · intro b' v d hd kx hx _ r lv; exact htest _ b' _ v d hd (ext b' kx hx) r lv
    · intro b' v d hd hp kx hx _ r lv; exact helt _ b' _ v d hd hp (ext b' kx hx) r lv
    · rintro h' tk ys ⟨m', hn'⟩ hpl r kx _
      exact fin _ _ h' tk m' _ ys hn' hD0 hC0 hDC (fun c o e => kx c o (fun m => by have := hfr c m; rw [e] at this; cases this) (kall _ _ e)) hpl r (by simp) (by simp) hfr
  exact codeAny_compStart_list loop (W.self 0 _ _ _ hst₁ loop)

theorem ev_compT {elt iter : Expr} {elts : List Expr} {x1 : Nat} {tp : Pos} {ifs : List Expr} {scope : Scope} {cl : List (Str × Addr)} {pos : Pos} {env : Env} {Lv : Addr → PyData → Value → Heap → Prop} {ds : List PyData} (f : PyData → PyData) (p : PyData → Bool) {b : Heap} {Hd : List Addr}
    (hs : Hs Hd b) (hit : IterT prog w A b Hd (eval iter env) ds) (hz : ds.length ≤ sizeLine) (hclos : closureFor scope env = pure cl)
    (store : ∀ (C : Addr) (H : List Addr) (s : Shared) (v : Value) (d : PyData) (Q : Unit → Shared → Prop) (E : Value → Shared → Prop) (m : Str → Option Value), C ∈ H → d ∈ ds → s.heap.Ns C m → Rp H s.heap v d → (∀ h' k m', h'.Ns C m' → Lv C d v h' → KpH [C] s.heap h' → Q () { s with heap := h', toks := k }) → wpAny (model prog w) A (assign (.Tuple elts x1 tp) (compEnvC scope cl C env) v) Q E s)
    (hLv : ∀ C d v h h', Lv C d v h → Kp h h' → Lv C d v h')
    (htest : ∀ C b' H v d, d ∈ ds → Ext b Hd b' H → Rp H b' v d → Lv C d v b' → Tr prog w A b' (forIn ifs true fun c r => if r = true then do let ok ← isTrue c (compEnvC scope cl C env) (eval c (compEnvC scope cl C env)); pure (ForInStep.yield ok) else pure (ForInStep.yield r)) (p d))
    (helt : ∀ C b' H v d, d ∈ ds → p d = true → Ext b Hd b' H → Rp H b' v d → Lv C d v b' → Ev prog w A b' (eval elt (compEnvC scope cl C env)) (Da H (f d)))
    (hcell : ∀ y ∈ scope.names, y.2 ≠ .cell := by decide) (hkind : scope.kind = .function := by rfl) (hnames : ∀ y ∈ scope.names, y.2 = .local → scope.names.lookup y.1 = some .local := by decide) (hfs : ∀ x, foldedSetIterable iter env x = pure x := by intro _; rfl) :
    Ev prog w A b (eval (.ListComp elt [⟨.Tuple elts x1 tp, iter, ifs, 0⟩] scope pos) env) (fun h v => Rp Hd h v (.list ((ds.filter p).map f)) ∧ PlainV h v) := fun s kb => Gives.of fun Q E q => by
  rw [eval_ListComp]
  refine comp_coreT (use := none) hs kb hit hz hclos hcell hkind hnames hfs store htest helt hLv ?_
  intro D C h' k m' H ys hn hD hC hDC kp hpl r hCH hDH hfr
  refine ⟨m', hn, fun h'' hs'' => q (.ref D) h'' k (fun c o e => (hs''.2 c (fun z => by subst z; rw [hC] at e; cases e)).trans (kp _ _ e)) ⟨?_, D, ys, rfl, hpl.extBut hs''.extBut hDC⟩⟩
  have r2 : RpAll (H ++ Hd) h'' ys.toList ((ds.filter p).map f) := r.upH (KpH.same hs'' (List.mem_append.mpr (.inl hCH)))
  refine Rp.list_mk (vs := ys.toList) (fun m => ?_) (by rw [Array.toArray_toList]; exact (hpl.extBut hs''.extBut hDC).isList) r2.weaken
  obtain ⟨o, e⟩ := hs D m; rw [kb _ _ e] at hD; cases hD
end
end Mine
end
section
set_option maxRecDepth 100000
namespace Mine
open PySem PySem.W PySem.W.X PySem.Calls PyProof.Rows
section
theorem sub_tt : isSubtype (.type "tuple") (.type "tuple") = pure true := by rw [isSubtype_type]; kernel_rfl
theorem sub_dd : isSubtype (.type "dict") (.type "dict") = pure true := by rw [isSubtype_type]; kernel_rfl
theorem sub_ty : isSubtype (.type "type") (.type "type") = pure true := by rw [isSubtype_type]; kernel_rfl
theorem not_turned : Builtin.notOverATurnedClass [.type "object"] = pure () := by kernel_rfl
theorem ext_obj : Builtin.extendedBase [.type "object"] = pure (.type "object") := by kernel_rfl
theorem lin_obj : Builtin.linearize [.type "object"] mroOf = pure [.type "object"] := by kernel_rfl
theorem hook_ty : Builtin.mroHook? (.type "type") = pure none := by kernel_rfl
theorem made_obj : Bind.madeBy (.type "object") = pure (some "object.__new__") := by kernel_rfl
theorem gw_obj : Builtin.Slots.givesWeak (.type "object") = pure false := by kernel_rfl
theorem gd_obj : Builtin.Slots.givesDict (.type "object") = pure false := by kernel_rfl
theorem vs_obj : Builtin.Slots.varSize (.type "object") = pure false := by kernel_rfl
theorem bb_obj : Builtin.Slots.bestBase [.type "object"] = pure (.type "object") := by kernel_rfl
theorem sn_obj : Builtin.Slots.slotNamesOf (.type "object") = pure [] := by kernel_rfl
theorem note_obj (a : Addr) : Builtin.noteSubclassOfBuiltin "object" a = pure () := by kernel_rfl
theorem lk_tn : typeLookup (.type "type") "__new__" = pure (some (.builtin "type.__new__")) := by kernel_rfl
theorem lk_fs : typeLookup (.type "function") "__set_name__" = pure none := by kernel_rfl
theorem lk_ls : typeLookup (.type "list") "__set_name__" = pure none := by kernel_rfl
theorem lk_ts : typeLookup (.type "tuple") "__set_name__" = pure none := by kernel_rfl
theorem lk_ms : typeLookup (.type "member_descriptor") "__set_name__" = pure none := by kernel_rfl
theorem sp_str (x : Str) (k : Tok) : specialOf (.str x k) "__set_name__" = pure none := by kernel_rfl
theorem sp_int (x : Int) (k : Tok) : specialOf (.int x k) "__set_name__" = pure none := by kernel_rfl
theorem sp_none : specialOf .none "__set_name__" = pure none := by kernel_rfl
theorem lk_di : typeLookup (.type "dict") "__iter__" = pure (some (.builtin "dict.__iter__")) := by kernel_rfl
theorem ty_obj : typeOf (.type "object") = pure (.type "type") := by kernel_rfl
theorem is_obj : isType (.type "object") = pure true := rfl
end
section
variable {prog : Program} {w : World} {A : Around} {h₀ h : Heap} {g : Array GenState} {d : Drawn} {t : Nat} {os : OsState} {chg news : List (Addr × Obj)} {E : Value → Shared → Prop}
theorem m_alloc {o : Obj} {Q : Addr → Shared → Prop} (D : Mem h₀ h chg news) (hf : o.isFreed = false) (x : ∀ a h', Mem h₀ h' chg ((a, o) :: news) → Q a ⟨h', g, d, t, os⟩) : wpAny (model prog w) A (alloc o) Q E ⟨h, g, d, t, os⟩ :=
  wpAny_alloc (x _ _ (D.alloc hf))
theorem m_updP {a : Addr} {q : Option Value} {f : Obj → Obj} {o o' : Obj} {Q : Unit → Shared → Prop} (D : Mem h₀ h chg news) (i : Nat) (hi : news[i]? = some (a, o)) (e : f o = o') (hf : o'.isFreed = false) (x : ∀ h', Mem h₀ h' chg (news.set i (a, o')) → Q () ⟨h', g, d, t, os⟩) :
    wpAny (model prog w) A (updatePart a q f) Q E ⟨h, g, d, t, os⟩ := by
  subst e; exact wpAny_updatePart (D.at i a o hi) (x _ (D.update hi hf))
theorem m_upd {a : Addr} {f : Obj → Obj} {o o' : Obj} {Q : Unit → Shared → Prop} (D : Mem h₀ h chg news) (i : Nat) (hi : news[i]? = some (a, o)) (e : f o = o') (hf : o'.isFreed = false) (x : ∀ h', Mem h₀ h' chg (news.set i (a, o')) → Q () ⟨h', g, d, t, os⟩) :
    wpAny (model prog w) A (update a f) Q E ⟨h, g, d, t, os⟩ := by
  subst e; exact wpAny_update (D.at i a o hi) (x _ (D.update hi hf))
theorem m_nsGet {ns : Addr} {name : Str} {o : Obj} {v : Option Value} {Q : Option Value → Shared → Prop} (ho : h.get? ns = some o) (e : nsLook name o = pure v) (q : Q v ⟨h, g, d, t, os⟩) : wpAny (model prog w) A (nsGet ns name) Q E ⟨h, g, d, t, os⟩ := by
  unfold nsGet
  exact wpAny_bind (wpAny_loadPart ho (wpAny_of_eq e q))
theorem m_isInst {a : Addr} {o : Obj} {T U : String} {b : Bool} {Q : Bool → Shared → Prop} (ho : h.get? a = some o) (hc : o.cls = .type T) (e : isSubtype (.type T) (.type U) = pure b) (q : Q b ⟨h, g, d, t, os⟩) : wpAny (model prog w) A (isInstance (.ref a) (.type U)) Q E ⟨h, g, d, t, os⟩ := by
  unfold isInstance
  exact wpAny_bind (wpAny_typeOf (T := T) ⟨o, ho, hc⟩ (wpAny_of_eq e q))
theorem m_seq {a : Addr} {o : Obj} {xs : Array Value} {n : Nat} {Q : Option (Array Value) → Shared → Prop} (ho : h.get? a = some o) (hd : o.data = .seq xs n) (q : Q (some xs) ⟨h, g, d, t, os⟩) : wpAny (model prog w) A (seqItems? (.ref a)) Q E ⟨h, g, d, t, os⟩ := by
  unfold seqItems?
  refine wpAny_bind (wpAny_load ho ?_)
  rw [hd]; exact wpAny_pure q
theorem m_entries {a : Addr} {o : Obj} {es : Array DictEntry} {n : Nat} {p : Option Value} {Q : Array DictEntry → Shared → Prop} (ho : h.get? a = some o) (hd : o.data = .dict es n) (q : Q es ⟨h, g, d, t, os⟩) : wpAny (model prog w) A (dictEntries a p) Q E ⟨h, g, d, t, os⟩ := by
  unfold dictEntries
  refine wpAny_bind (wpAny_loadPart ho ?_)
  rw [hd]; exact wpAny_pure q
theorem m_special {a : Addr} {o : Obj} {T : String} {name : Str} {r : Option Value} {Q : Option Value → Shared → Prop} (ho : h.get? a = some o) (hc : o.cls = .type T) (e : typeLookup (.type T) name = pure r) (q : Q r ⟨h, g, d, t, os⟩) : wpAny (model prog w) A (specialOf (.ref a) name) Q E ⟨h, g, d, t, os⟩ := by
  unfold specialOf
  exact wpAny_bind (wpAny_typeOf (T := T) ⟨o, ho, hc⟩ (wpAny_of_eq e q))
theorem m_ite_f {α : Type} {b : Bool} {x y : Sem α} {Q : α → Shared → Prop} {s : Shared} (hb : b = false) (q : wpAny (model prog w) A y Q E s) : wpAny (model prog w) A (if b = true then x else y) Q E s := by rw [hb]; exact q
theorem m_ite_t {α : Type} {b : Bool} {x y : Sem α} {Q : α → Shared → Prop} {s : Shared} (hb : b = true) (q : wpAny (model prog w) A x Q E s) : wpAny (model prog w) A (if b = true then x else y) Q E s := by rw [hb]; exact q
end

theorem m_for1 {prog : Program} {w : World} {A : Around} {E : Value → Shared → Prop} {s : Shared} {α β : Type} {x : α} {b : β} {f : α → β → Sem (ForInStep β)} {Q : β → Shared → Prop} (hf : wpAny (model prog w) A (f x b) (fun r s' => match r with | .done b' => Q b' s' | .yield b' => Q b' s') E s) : wpAny (model prog w) A (forIn [x] b f) Q E s := by
  rw [List.forIn_cons]
  refine wpAny_bind (wpAny_mono hf (fun r s' h' => ?_) fun _ _ e => e)
  cases r with
  | done b' => exact wpAny_pure h'
  | yield b' => simp only [List.forIn_nil]; exact wpAny_pure h'
theorem m_for0 {prog : Program} {w : World} {A : Around} {E : Value → Shared → Prop} {s : Shared} {α β : Type} {b : β} {f : α → β → Sem (ForInStep β)} {Q : β → Shared → Prop} (hf : Q b s) : wpAny (model prog w) A (forIn ([] : List α) b f) Q E s := by
  rw [List.forIn_nil]; exact wpAny_pure hf
theorem m_forC {prog : Program} {w : World} {A : Around} {E : Value → Shared → Prop} {s : Shared} {α β : Type} {x : α} {l : List α} {b : β} {f : α → β → Sem (ForInStep β)} {Q : β → Shared → Prop} (hf : wpAny (model prog w) A (f x b) (fun r s' => match r with | .done b' => Q b' s' | .yield b' => wpAny (model prog w) A (forIn l b' f) Q E s') E s) : wpAny (model prog w) A (forIn (x :: l) b f) Q E s := by
  rw [List.forIn_cons]
  refine wpAny_bind (wpAny_mono hf (fun r s' h' => ?_) fun _ _ e => e)
  cases r with
  | done b' => exact wpAny_pure h'
  | yield b' => exact h'
theorem m_forA {prog : Program} {w : World} {A : Around} {E : Value → Shared → Prop} {s : Shared} {α β : Type} {xs : Array α} {b : β} {f : α → β → Sem (ForInStep β)} {Q : β → Shared → Prop} (hf : wpAny (model prog w) A (forIn xs.toList b f) Q E s) : wpAny (model prog w) A (forIn xs b f) Q E s := by
  rw [← Array.forIn_toList]; exact hf
theorem m_any1 {prog : Program} {w : World} {A : Around} {E : Value → Shared → Prop} {s : Shared} {α : Type} {x : α} {b : Bool} {f : α → Sem Bool} {Q : Bool → Shared → Prop} (e : f x = pure b) (q : Q b s) : wpAny (model prog w) A (List.anyM f [x]) Q E s := by
  unfold List.anyM
  refine wpAny_bind (wpAny_of_eq e ?_)
  cases b with
  | true => exact wpAny_pure q
  | false => unfold List.anyM; exact wpAny_pure q
theorem m_eq {prog : Program} {w : World} {A : Around} {E : Value → Shared → Prop} {s : Shared} {α : Type} {t : Sem α} {a : α} {Q : α → Shared → Prop} (e : t = pure a) (q : Q a s) : wpAny (model prog w) A t Q E s := wpAny_of_eq e q
theorem m_collect {prog : Program} {w : World} {A : Around} {h₀ h : Heap} {g : Array GenState} {d : Drawn} {t : Nat} {os : OsState} {chg news : List (Addr × Obj)} {E : Value → Shared → Prop} {l : Addr} {vs : List Value} {Q : List Value → Shared → Prop} (D : Mem h₀ h chg news) (hl : h.IsList l vs.toArray) (hz : vs.length ≤ sizeLine) (x : ∀ c o h', Mem h₀ h' chg ((c, o) :: news) → Q vs ⟨h', g, d, t, os⟩) :
    wpAny (model prog w) A (collect (.ref l)) Q E ⟨h, g, d, t, os⟩ := by
  refine collect_list (s := ⟨h, g, d, t, os⟩) hl ?_ hz
  exact x _ _ _ ((D.alloc (o := seqObj "list" #[] 0) rfl).update (i := 0) rfl rfl)
section
variable {prog : Program} {w : World} {A : Around} {h₀ h : Heap} {g : Array GenState} {d : Drawn} {t : Nat} {os : OsState} {chg news : List (Addr × Obj)} {E : Value → Shared → Prop}
theorem m_newObj {T : String} {data : Data} {Q : Value → Shared → Prop} (D : Mem h₀ h chg news) (hf : Obj.isFreed { cls := .type T, data := data } = false) (hd : sizeOk data) (x : ∀ a h', Mem h₀ h' chg ((a, { cls := .type T, data := data }) :: news) → Q (.ref a) ⟨h', g, d, t, os⟩) : wpAny (model prog w) A (newObj (.type T) data) Q E ⟨h, g, d, t, os⟩ :=
  wpAny_newObj_type (s := ⟨h, g, d, t, os⟩) (x _ _ (D.alloc hf)) hd
theorem m_newFields {T : String} {vs : List Value} {Q : Value → Shared → Prop} (D : Mem h₀ h chg news) (hz : vs.length ≤ 1000) (x : ∀ a h', Mem h₀ h' chg ((a, { cls := .type T, data := .fields vs.toArray }) :: news) → Q (.ref a) ⟨h', g, d, t, os⟩) : wpAny (model prog w) A (newFields T vs) Q E ⟨h, g, d, t, os⟩ := by
  unfold newFields
  refine m_newObj D rfl ?_ x
  show vs.toArray.size ≤ sizeLine + 2
  have : (1000 : Nat) ≤ sizeLine := by decide
  rw [List.size_toArray]; omega
theorem m_nsSet {ns : Addr} {name : Str} {v : Value} {c : Value} {dd : Option Addr} {es : Array DictEntry} {n : Nat} {sl : Array (Option Value)} {Q : Unit → Shared → Prop} (D : Mem h₀ h chg news) (i : Nat) (hi : news[i]? = some (ns, ⟨c, dd, .dict es n, sl⟩)) (hk : aRefKeyMayBeTheName name es = false) (o' : Int → Tok → Obj)
    (e : ∀ x tk, Obj.putName name x (.str name tk) v ⟨c, dd, .dict es n, sl⟩ = o' x tk) (hf : ∀ x tk, (o' x tk).isFreed = false) (q : ∀ x tk h', Mem h₀ h' chg (news.set i (ns, o' x tk)) → Q () ⟨h', g, d, t + 1, os⟩) : wpAny (model prog w) A (nsSet ns name v) Q E ⟨h, g, d, t, os⟩ := by
  unfold nsSet strHash
  refine wpAny_bind (wpAny_bind (wpAny_askSetting (wpAny_pure (wpAny_bind (wpAny_mkText (wpAny_bind (wpAny_loadPart (D.at i _ _ hi) ?_)))))))
  refine m_ite_f hk ?_
  exact m_updP D i hi (e _ _) (hf _ _) (q _ _)
theorem m_nsSetV {ns : Addr} {name : Str} {v : Value} {c : Value} {dd : Option Addr} {es : Array DictEntry} {n : Nat} {sl : Array (Option Value)} {Q : Unit → Shared → Prop} (D : Mem h₀ h chg news) (i : Nat) (hi : news[i]? = some (ns, ⟨c, dd, .dict es n, sl⟩)) (hz : es.size ≤ 1000) (hk : aRefKeyMayBeTheName name es = false) (o' : Int → Tok → Obj)
    (e : ∀ x tk, Obj.putName name x (.str name tk) v ⟨c, dd, .dict es n, sl⟩ = o' x tk) (hf : ∀ x tk, (o' x tk).isFreed = false) (q : ∀ x tk h', Mem h₀ h' chg (news.set i (ns, o' x tk)) → Q () ⟨h', g, d, t + 1, os⟩) : wpAny (model prog w) A (nsSetByValue ns name v) Q E ⟨h, g, d, t, os⟩ := by
  unfold nsSetByValue
  refine wpAny_bind (wpAny_loadPart (D.at i _ _ hi) ?_)
  have : (1000 : Nat) ≤ sizeLine := by decide
  refine m_ite_f (by rw [decide_eq_false (by omega)]; rfl) ?_
  exact m_nsSet D i hi hk o' e hf q
theorem m_nsDel {ns : Addr} {name : Str} {o o' : Obj} {Q : Bool → Shared → Prop} (D : Mem h₀ h chg news) (i : Nat) (hi : news[i]? = some (ns, o)) (hb : nsHas name o = pure true) (e : Obj.dropName name o = o') (hf : o'.isFreed = false) (q : ∀ h', Mem h₀ h' chg (news.set i (ns, o')) → Q true ⟨h', g, d, t, os⟩) : wpAny (model prog w) A (nsDel ns name) Q E ⟨h, g, d, t, os⟩ := by
  unfold nsDel
  refine wpAny_bind (wpAny_loadPart (D.at i _ _ hi) (wpAny_bind (wpAny_of_eq hb ?_)))
  exact wpAny_bind (m_updP D i hi e hf fun h' D' => wpAny_pure (q h' D'))
theorem m_setSlot {a : Addr} {k : Nat} {v : Option Value} {o o' : Obj} {Q : Unit → Shared → Prop} (D : Mem h₀ h chg news) (i : Nat) (hi : news[i]? = some (a, o)) (hk : k < 1000) (e : { o with slots := (o.slots ++ Array.replicate (k + 1 - o.slots.size) none).setIfInBounds k v } = o') (hf : o'.isFreed = false) (q : ∀ h', Mem h₀ h' chg (news.set i (a, o')) → Q () ⟨h', g, d, t, os⟩) : wpAny (model prog w) A (setSlotAt a k v) Q E ⟨h, g, d, t, os⟩ := by
  unfold setSlotAt
  have : (1000 : Nat) ≤ sizeLine := by decide
  refine wpAny_ite_false (decide_eq_false (by omega)) ?_
  exact m_updP D i hi e hf q
theorem m_updCls {a : Addr} {f : ClassData → ClassData} {c : Value} {dd : Option Addr} {cd cd' : ClassData} {sl : Array (Option Value)} {Q : Unit → Shared → Prop} (D : Mem h₀ h chg news) (i : Nat) (hi : news[i]? = some (a, ⟨c, dd, .cls cd, sl⟩)) (e : f cd = cd') (hp : (Data.cls cd').pastItsLine = none) (q : ∀ h', Mem h₀ h' chg (news.set i (a, ⟨c, dd, .cls cd', sl⟩)) → Q () ⟨h', g, d, t, os⟩) : wpAny (model prog w) A (updateCls a f) Q E ⟨h, g, d, t, os⟩ := by
  unfold updateCls
  refine wpAny_bind (wpAny_load (D.at i _ _ hi) ?_)
  refine wpAny_bind (m_upd (o' := ⟨c, dd, .cls cd', sl⟩) D i hi (by rw [← e]; rfl) rfl fun h' D' => ?_)
  refine wpAny_lookBehind (s := ⟨h', g, d, t, os⟩) (o := ⟨c, dd, .cls cd', sl⟩) (D'.at i _ _ ?_) hp (q h' D')
  have : i < news.length := (List.getElem?_eq_some_iff.mp hi).1
  rw [List.getElem?_set_self this]
theorem m_slotAt {a : Addr} {k : Nat} {o : Obj} {v : Option Value} {Q : Option Value → Shared → Prop} (ho : h.get? a = some o) (e : (o.slots[k]?).join = v) (q : Q v ⟨h, g, d, t, os⟩) : wpAny (model prog w) A (slotAt a k) Q E ⟨h, g, d, t, os⟩ := by
  unfold slotAt
  exact wpAny_bind (wpAny_loadPart ho (wpAny_pure (e ▸ q)))
theorem m_cd {a : Addr} {o : Obj} {cd : ClassData} {Q : ClassData → Shared → Prop} (ho : h.get? a = some o) (e : o.data = .cls cd) (q : Q cd ⟨h, g, d, t, os⟩) : wpAny (model prog w) A (classData a) Q E ⟨h, g, d, t, os⟩ := by
  unfold classData
  refine wpAny_bind (wpAny_load ho ?_)
  rw [e]; exact wpAny_pure q
end
section
variable {prog : Program} {w : World} {A : Around} {h : Heap} {g : Array GenState} {d : Drawn} {t : Nat} {os : OsState} {E : Value → Shared → Prop}
theorem m_mro {a : Addr} {o : Obj} {cd : ClassData} {m : List Value} {Q : List Value → Shared → Prop} (ho : h.get? a = some o) (hd : o.data = .cls cd) (e : cd.mro = m) (q : Q m ⟨h, g, d, t, os⟩) : wpAny (model prog w) A (mroOf (.ref a)) Q E ⟨h, g, d, t, os⟩ := by
  unfold mroOf
  exact wpAny_bind (m_cd ho hd (wpAny_pure (e ▸ q)))
/-- a class's own name, found -/
theorem m_lookHit {a : Addr} {o on : Obj} {cd : ClassData} {name : Str} {v : Value} {ms : List Value} {Q : Option Value → Shared → Prop} (ho : h.get? a = some o) (hd : o.data = .cls cd) (hm : cd.mro = .ref a :: ms) (hn : h.get? cd.ns = some on) (e : nsLook name on = pure (some v)) (q : Q (some v) ⟨h, g, d, t, os⟩) :
    wpAny (model prog w) A (typeLookup (.ref a) name) Q E ⟨h, g, d, t, os⟩ := by
  unfold typeLookup
  refine wpAny_bind (m_mro ho hd hm (wpAny_bind (m_forC (wpAny_bind ?_))))
  unfold classOwn
  exact wpAny_bind (m_cd ho hd (m_nsGet hn e (wpAny_pure (wpAny_pure q))))
/-- not found there: the built-in base's -/
theorem m_lookObj {a : Addr} {o on : Obj} {cd : ClassData} {name : Str} {r : Option Value} {Q : Option Value → Shared → Prop} (ho : h.get? a = some o) (hd : o.data = .cls cd) (hm : cd.mro = [.ref a, .type "object"]) (hn : h.get? cd.ns = some on) (e : nsLook name on = pure none) (e2 : builtinOwn "object" name = r) (q : Q r ⟨h, g, d, t, os⟩) :
    wpAny (model prog w) A (typeLookup (.ref a) name) Q E ⟨h, g, d, t, os⟩ := by
  unfold typeLookup
  refine wpAny_bind (m_mro ho hd hm (wpAny_bind (m_forC (wpAny_bind ?_))))
  unfold classOwn
  refine wpAny_bind (m_cd ho hd (m_nsGet hn e (wpAny_pure ?_)))
  refine m_for1 (wpAny_bind (wpAny_of_eq (a := r) (by show (pure (builtinOwn _ _) : Sem (Option Value)) = _; rw [e2]) ?_))
  cases r with
  | some v => exact wpAny_pure (wpAny_pure q)
  | none => exact wpAny_pure (wpAny_pure q)
end
abbrev clsEs (x1 x2 x3 x4 x5 x6 x7 x8 x9 x10 x11 x12 : Int) (k1 k2 k3 k4 k5 k6 k7 k8 k9 k10 k11 k12 : Tok) (mv qv fl : Value) (sl f1 f2 f3 f4 f5 f6 st : Addr) : Array DictEntry :=
  #[⟨x1, .str (Str.ofString "__module__") k1, mv⟩, ⟨x2, .str (Str.ofString "__qualname__") k2, qv⟩, ⟨x3, .str (Str.ofString "__firstlineno__") k3, fl⟩, ⟨x4, .str (Str.ofString "__slots__") k4, .ref sl⟩, ⟨x5, .str (Str.ofString "__init__") k5, .ref f1⟩, ⟨x6, .str (Str.ofString "__lt__") k6, .ref f2⟩,
     ⟨x7, .str (Str.ofString "__gt__") k7, .ref f3⟩, ⟨x8, .str (Str.ofString "__eq__") k8, .ref f4⟩, ⟨x9, .str (Str.ofString "__le__") k9, .ref f5⟩, ⟨x10, .str (Str.ofString "__ge__") k10, .ref f6⟩, ⟨x11, .str (Str.ofString "__hash__") k11, .none⟩, ⟨x12, .str (Str.ofString "__static_attributes__") k12, .ref st⟩]
/-- without the qualname -/
abbrev clsEs2 (x1 x3 x4 x5 x6 x7 x8 x9 x10 x11 x12 : Int) (k1 k3 k4 k5 k6 k7 k8 k9 k10 k11 k12 : Tok) (mv fl : Value) (sl f1 f2 f3 f4 f5 f6 st : Addr) (more : List DictEntry) : Array DictEntry :=
  (⟨x1, .str (Str.ofString "__module__") k1, mv⟩ :: ⟨x3, .str (Str.ofString "__firstlineno__") k3, fl⟩ :: ⟨x4, .str (Str.ofString "__slots__") k4, .ref sl⟩ :: ⟨x5, .str (Str.ofString "__init__") k5, .ref f1⟩ :: ⟨x6, .str (Str.ofString "__lt__") k6, .ref f2⟩ ::
     ⟨x7, .str (Str.ofString "__gt__") k7, .ref f3⟩ :: ⟨x8, .str (Str.ofString "__eq__") k8, .ref f4⟩ :: ⟨x9, .str (Str.ofString "__le__") k9, .ref f5⟩ :: ⟨x10, .str (Str.ofString "__ge__") k10, .ref f6⟩ :: ⟨x11, .str (Str.ofString "__hash__") k11, .none⟩ :: ⟨x12, .str (Str.ofString "__static_attributes__") k12, .ref st⟩ :: more).toArray
abbrev ent (x : Int) (s : String) (v : Value) : DictEntry := ⟨x, .str (Str.ofString s) 0, v⟩
abbrev entT (x : Int) (s : String) (k : Tok) (v : Value) : DictEntry := ⟨x, .str (Str.ofString s) k, v⟩
end Mine
end
section
set_option maxRecDepth 100000
namespace Mine
open PySem PySem.W PySem.W.X PySem.Calls PyProof.Rows
set_option maxHeartbeats 4000000
abbrev cdK (a ns : Addr) (qv : Str) : ClassData := { name := Str.ofString "K", bases := [.type "object"], mro := [.ref a, .type "object"], ns := ns, qualname := qv, hasDict := false, slotNames := [Str.ofString "obj"] }
abbrev clsO (a ns : Addr) (qv : Str) (sl : Array (Option Value)) : Obj := { cls := .type "type", data := .cls (cdK a ns qv), slots := sl }
theorem own_is : builtinOwn "object" "__init_subclass__" = some (.builtin "object.__init_subclass__") := by kernel_rfl
theorem ty_is : typeOf (.builtin "object.__init_subclass__") = pure (.type "classmethod_descriptor") := by kernel_rfl
theorem lk_isg : typeLookup (.type "classmethod_descriptor") "__get__" = pure (some (.builtin "classmethod_descriptor.__get__")) := by kernel_rfl
theorem Rm.in1 {n : Nat} {A : Around} (r : Rm (n + 1) A) : Rm n A.in1 := ⟨r.hh, by have := r.dp; show A.depth + n < 600; omega, by have := r.un; show A.units + 1 + 8 * n < 8000; omega⟩
section
variable {prog : Program} {w : World} {A : Around} {h : Heap} {g : Array GenState} {d : Drawn} {t : Nat} {os : OsState}
local macro_rules | `(tactic| x_close) => `(tactic| (apply_assumption; assumption))
theorem super_x {a ns : Addr} {qv : Str} {sl : Array (Option Value)} {Q : Value → Shared → Prop} {E : Value → Shared → Prop} (ha : h.get? a = some { cls := .type "type", data := .cls { name := Str.ofString "K", bases := [.type "object"], mro := [.ref a, .type "object"], ns := ns, qualname := qv, hasDict := false, slotNames := [Str.ofString "obj"] }, slots := sl })
   (q : ∀ su h' k, Mem h h' [] [(su, { cls := .type "super", data := .fields #[.ref a, .ref a, .ref a] })] → Q (.ref su) ⟨h', g, d, k, os⟩) :
   wpAny (model prog w) AX (call (.type "super") [.ref a, .ref a]) Q E ⟨h, g, d, t, os⟩ := by
  x_run
theorem subget_x {a ns : Addr} {qv : Str} {sl : Array (Option Value)} {Q : Value → Shared → Prop} {E : Value → Shared → Prop} (ha : h.get? a = some { cls := .type "type", data := .cls { name := Str.ofString "K", bases := [.type "object"], mro := [.ref a, .type "object"], ns := ns, qualname := qv, hasDict := false, slotNames := [Str.ofString "obj"] }, slots := sl })
   (q : ∀ b h' k, Mem h h' [] [(b, { cls := .type "builtin_function_or_method", data := .fields #[.builtin "object.__init_subclass__", .ref a] })] → Q (.ref b) ⟨h', g, d, k, os⟩) :
   wpAny (model prog w) AX (call (.builtin "classmethod_descriptor.__get__") [.builtin "object.__init_subclass__", .none, .ref a]) Q E ⟨h, g, d, t, os⟩ := by
  x_run
local macro_rules | `(tactic| x_close) => `(tactic| (apply_assumption; first | assumption | exact Mem.start _))
theorem initsub_x {a b ns bt : Addr} {t0 t3 : Tok} {Q : Value → Shared → Prop} {E : Value → Shared → Prop} (ha : h.get? a = some { cls := .type "type", data := .cls { name := Str.ofString "K", bases := [.type "object"], mro := [.ref a, .type "object"], ns := ns, qualname := (Str.ofString "cmp_to_key.<locals>.K"), hasDict := false, slotNames := [Str.ofString "obj"] }, slots := #[some (.ref bt), none, some (.str (Str.ofString "K") t0), some (.str (Str.ofString "cmp_to_key.<locals>.K") t3), some (.builtin "object.__new__"), some (.bool false)] }) (hb : h.get? b = some { cls := .type "builtin_function_or_method", data := .fields #[.builtin "object.__init_subclass__", .ref a] })
   (q : ∀ v h' k news, Mem h h' [] news → Q v ⟨h', g, d, k, os⟩) :
   wpAny (model prog w) AX (call (.ref b) []) Q E ⟨h, g, d, t, os⟩ := by
  x_run
theorem super_ga {so a ns : Addr} {qv : Str} {sl : Array (Option Value)} {tk : Tok} {n : Nat} {Q : PySem.Fin → Shared → Prop} {E : Value → Shared → Prop} (R : Rm n A)
    (hso : h.get? so = some { cls := .type "super", data := .fields #[.ref a, .ref a, .ref a] }) (ha : h.get? a = some (clsO a ns qv sl)) (hno : Looks (model prog w) h (opaqueClassAbove (.ref a)) none)
    (q : ∀ b h' k, Mem h h' [] [(b, { cls := .type "builtin_function_or_method", data := .fields #[.builtin "object.__init_subclass__", .ref a] })] → Q (.done (.ret (.ref b))) ⟨h', g, d, k, os⟩) :
    wpAny (model prog w) A (Builtin.«super.__getattribute__» ⟨[.ref so, .str (Str.ofString "__init_subclass__") tk], []⟩) Q E ⟨h, g, d, t, os⟩ := by
  have f0 : (#[.ref a, .ref a, .ref a] : Array Value)[0]? = some (.ref a) := rfl
  have f1 : (#[.ref a, .ref a, .ref a] : Array Value)[1]? = some (.ref a) := rfl
  have f2 : (#[.ref a, .ref a, .ref a] : Array Value)[2]? = some (.ref a) := rfl
  have hdrop : (List.drop 1 (List.dropWhile (fun x => x != Value.ref a) [Value.ref a, Value.type "object"])) = [Value.type "object"] := by simp
  unfold Builtin.«super.__getattribute__»
  refine wpAny_bind (wpAny_pure ?_)
  refine m_ite_f rfl ?_
  refine wpAny_bind (wpAny_pure ?_)
  refine wpAny_bind (wpAny_field hso rfl f0 ?_)
  refine wpAny_bind (wpAny_field hso rfl f1 ?_)
  refine wpAny_bind (wpAny_field hso rfl f2 ?_)
  refine m_ite_f (by kernel_rfl) ?_
  refine wpAny_bind (ks_wpAny_notOpaque hno ?_)
  refine m_ite_f rfl ?_
  refine wpAny_bind (m_mro ha rfl rfl ?_)
  refine wpAny_bind ?_
  rw [show List.drop 1 (List.dropWhile (fun x => x != Value.ref a) (cdK a ns qv).mro) = [Value.type "object"] from hdrop]
  have hb : (Value.ref a == Value.ref a) = true := by simp
  refine m_for1 (wpAny_bind (wpAny_of_eq (a := some (.builtin "object.__init_subclass__")) (by show (pure (builtinOwn _ _) : Sem (Option Value)) = _; rw [own_is]) ?_))
  refine wpAny_bind (wpAny_of_eq ty_is ?_)
  refine wpAny_bind (wpAny_of_eq lk_isg ?_)
  refine wpAny_bind (wpAny_holding ?_)
  rw [if_pos hb]
  refine wp_AX R (subget_x ha fun b h' k D => ?_)
  refine wpAny_bind (wpAny_pure (wpAny_pure ?_))
  exact wpAny_pure (q b h' k D)
theorem getattr_super {so a ns : Addr} {qv : Str} {sl : Array (Option Value)} {n : Nat} {Q : Value → Shared → Prop} {E : Value → Shared → Prop} (R : Rm (n + 2) A)
    (hso : h.get? so = some { cls := .type "super", data := .fields #[.ref a, .ref a, .ref a] }) (ha : h.get? a = some (clsO a ns qv sl)) (hno : Looks (model prog w) h (opaqueClassAbove (.ref a)) none)
    (q : ∀ b h' k, Mem h h' [] [(b, { cls := .type "builtin_function_or_method", data := .fields #[.builtin "object.__init_subclass__", .ref a] })] → Q (.ref b) ⟨h', g, d, k, os⟩) :
    wpAny (model prog w) A (getAttr (.ref so) (Str.ofString "__init_subclass__")) Q E ⟨h, g, d, t, os⟩ := by
  have hlk := F.ks_slot_super_ga.lookup
  have hT : ∀ t', (⟨h, g, d, t', os⟩ : Shared).TypeIs (.ref so) "super" := fun _ => ⟨_, hso, rfl⟩
  unfold getAttr getAttrBy
  refine wpAny_bind (wpAny_mkText (wpAny_holding (wpAny_bind (wpAny_typeOf (hT _) (wpAny_bind (wpAny_of_eq hlk ?_))))))
  show wpAny _ _ (getAttrByItsOwn (.ref so) (.str (Str.ofString "__init_subclass__") t) (.type "super") (.builtin "super.__getattribute__") true false) _ _ _
  unfold getAttrByItsOwn hookBefore callGetattribute boundAndCalled
  refine wpAny_bind (wpAny_of_eq (show (if onTheHeap (.type "super") then typeLookup (.type "super") "__getattr__" else pure none) = pure none from rfl) ?_)
  refine wpAny_bind (wpAny_attempt (wpAny_holding ?_))
  show wpAny _ _ (bindSpecial (.builtin "super.__getattribute__") (.ref so) >>= _) _ _ _
  refine wpAny_bind (wpAny_of_eq (F.ks_slot_super_ga.bind _) ?_)
  refine wpAny_mono (Q := fun v s' => ∃ b h' k, v = .ref b ∧ s' = ⟨h', g, d, k, os⟩ ∧ Mem h h' [] [(b, { cls := .type "builtin_function_or_method", data := .fields #[.builtin "object.__init_subclass__", .ref a] })]) (E := fun _ _ => False)
    (wpAny_call_entry F.ks_slot_super_ga (hT _) F.ks_entry_super_ga (super_ga (n := n) ?_ hso ha hno fun b h' k D => ⟨_, rfl, b, h', k, rfl, rfl, D⟩) (F.ks_gaArgs_super _ _)) (fun v s' hv => ?_) fun _ _ z => z.elim
  · exact (R.le (m := n + 1) (by omega)).in1
  · obtain ⟨b, h', k, rfl, rfl, D⟩ := hv
    exact wpAny_pure (q b h' k D)
end
end Mine
end
section
set_option maxRecDepth 100000
namespace Mine
open PySem PySem.W PySem.W.X PySem.Calls PyProof.Rows
set_option maxHeartbeats 4000000
theorem tn_plain : plainId "type.__new__" = true := by decide +kernel
theorem tn_check (x : Str) (t : Tok) (a b : Addr) : checkBuiltinCall "type.__new__" ⟨[.type "type", .str x t, .ref a, .ref b], []⟩ = pure () := by kernel_rfl
theorem tn_entry : entryFor table "type.__new__" = some Builtin.«type.__new__» := entryFor_of_tree (by kernel_rfl)
theorem ti_plain : plainId "type.__init__" = true := by decide +kernel
theorem ti_entry : entryFor table "type.__init__" = some Builtin.«type.__init__» := entryFor_of_tree (by kernel_rfl)
theorem ti_slot : Slot "type" "__init__" "type.__init__" := .of (owner := "type") (n := "__init__") (by rw [typeLookup_type, builtinLookup_eq_fast]; kernel_rfl) (by decide +kernel) (by decide +kernel) (by decide +kernel)
  (by first | exact .inl (by decide +kernel) | exact .inr (by decide +kernel)) (by rw [isSubtype_type]; kernel_rfl)
theorem ti_args (x : Str) (t : Tok) (o a b : Addr) : argsOk "type.__init__" ⟨[.ref o, .str x t, .ref a, .ref b], []⟩ := by unfold argsOk; kernel_rfl
theorem ct_type (x : Str) (t : Tok) (a b : Addr) : checkTypeCall "type" ⟨[.str x t, .ref a, .ref b], []⟩ = pure () := by kernel_rfl
theorem mb_type : Bind.madeBy (.type "type") = pure (some "type.__new__") := by kernel_rfl
section
variable {prog : Program} {w : World} {A : Around} {h : Heap} {g : Array GenState} {d : Drawn} {t : Nat} {os : OsState}
theorem typecall {x : Str} {t0 : Tok} {bt ns : Addr} {Q : Value → Shared → Prop} {E : Value → Shared → Prop}
   (hn : wpAny (model prog w) A.in1.in1 (Builtin.«type.__new__» ⟨[.type "type", .str x t0, .ref bt, .ref ns], []⟩) (fun fin s' => ∃ a, fin = .done (.ret (.ref a)) ∧ (∃ o, s'.heap.get? a = some o ∧ o.cls = .type "type") ∧ Q (.ref a) s') (fun _ _ => False) ⟨h, g, d, t, os⟩) :
   wpAny (model prog w) A (call (.type "type") [.str x t0, .ref bt, .ref ns]) Q E ⟨h, g, d, t, os⟩ := by
  refine wpAny_call (codeAny_of_tree ?_)
  show wpAny _ _ (callAny (.type "type") _) _ _ _
  refine wpAny_pure ⟨Code.quiet_builtin _ (by decide +kernel), codeAny_builtin F.entry_type_call ?_⟩
  rw [Around.under_plain (weight_type_call_type "type" [.str x t0, .ref bt, .ref ns] []) rfl]
  unfold Builtin.«type.__call__»
  refine m_ite_t rfl ?_
  refine m_ite_f rfl ?_
  refine m_ite_f rfl ?_
  refine m_ite_f (by kernel_rfl) ?_
  refine wpAny_bind (wpAny_of_eq (ct_type x t0 bt ns) ?_)
  refine wpAny_bind (wpAny_of_eq (a := [.type "type", .type "object"]) (by kernel_rfl) ?_)
  refine m_ite_f rfl ?_
  refine wpAny_bind (wpAny_of_eq mb_type ?_)
  refine wpAny_bind (wpAny_pure ?_)
  refine wpAny_bind (wpAny_holding (wpAny_call ?_))
  refine codeAny_of_tree ?_
  show wpAny _ A.in1.in1 (do checkBuiltinCall "type.__new__" ⟨[.type "type", .str x t0, .ref bt, .ref ns], []⟩; again (.builtin "type.__new__" ⟨[.type "type", .str x t0, .ref bt, .ref ns], []⟩)) _ _ _
  refine wpAny_bind (wpAny_of_eq (tn_check x t0 bt ns) (wpAny_pure ⟨plainId_quiet tn_plain _, codeAny_builtin tn_entry ?_⟩))
  rw [Around.under_plainId tn_plain _]
  refine wpAny_mono hn (fun fin s' hf => ?_) fun _ _ z => z.elim
  obtain ⟨a, rfl, ⟨o, ho, hc⟩, hq⟩ := hf
  obtain ⟨h', g', d', t', os'⟩ := s'
  refine wpAny_bind (m_isInst ho hc sub_ty ?_)
  refine m_ite_f rfl ?_
  refine wpAny_bind (wpAny_holding ?_)
  unfold callSpecial?
  refine wpAny_bind (m_special ho hc ti_slot.lookup ?_)
  refine wpAny_holding ?_
  refine wpAny_bind (wpAny_of_eq (ti_slot.bind _) ?_)
  refine wpAny_bind (wpAny_call_entry ti_slot ⟨o, ho, hc⟩ ti_entry ?_ (ti_args _ _ _ _ _))
  unfold Builtin.«type.__init__»
  refine m_ite_f rfl ?_
  refine m_ite_f rfl ?_
  refine wpAny_pure ⟨_, rfl, wpAny_pure ?_⟩
  refine m_ite_f rfl ?_
  exact wpAny_pure hq
end
end Mine
end
section
set_option maxRecDepth 100000
namespace Mine
open PySem PySem.W PySem.W.X PySem.Calls PyProof.Rows
set_option maxHeartbeats 4000000
section
variable {prog : Program} {w : World} {A : Around} {h : Heap} {g : Array GenState} {d : Drawn} {t : Nat} {os : OsState}
theorem typenew {Q : PySem.Fin → Shared → Prop} {E : Value → Shared → Prop}
   {bt nsA sl st : Addr} {f1 f2 f3 f4 f5 f6 : Addr} {n : Nat} {t0 t1 t2 t3 t4 : Tok} {k1 k2 k3 k4 k5 k6 k7 k8 k9 k10 k11 k12 : Tok} {x1 x2 x3 x4 x5 x6 x7 x8 x9 x10 x11 x12 : Int} {mv : Str} {qv : Str} {fl : Int} {m2 : Nat}
   (hbt : h.get? bt = some { cls := .type "tuple", data := .seq #[.type "object"] })
   (hns : h.get? nsA = some { cls := .type "dict", data := .dict (clsEs x1 x2 x3 x4 x5 x6 x7 x8 x9 x10 x11 x12 k1 k2 k3 k4 k5 k6 k7 k8 k9 k10 k11 k12 (.str mv t2) (.str qv t3) (.int fl t4) sl f1 f2 f3 f4 f5 f6 st) n })
   (hsl : h.get? sl = some { cls := .type "list", data := .seq #[.str (Str.ofString "obj") t1] m2 })
   {p1 p2 p3 p4 p5 p6 pst : Obj} (hf1 : h.get? f1 = some p1) (hc1 : p1.cls = .type "function") (hf2 : h.get? f2 = some p2) (hc2 : p2.cls = .type "function") (hf3 : h.get? f3 = some p3) (hc3 : p3.cls = .type "function") (hf4 : h.get? f4 = some p4) (hc4 : p4.cls = .type "function")
   (hf5 : h.get? f5 = some p5) (hc5 : p5.cls = .type "function") (hf6 : h.get? f6 = some p6) (hc6 : p6.cls = .type "function") (hst : h.get? st = some pst) (hcst : pst.cls = .type "tuple")
   (hnm : (nsA == sysModules) = false) {nr : Nat} (R : Rm (nr + 3) A) (X : (KK w.params).In h) (hqv : qv = Str.ofString "cmp_to_key.<locals>.K")
   (q : ∀ a ns md h' k tt x13 k13 x14 k14, Kp h h' → h.get? a = none → h.get? ns = none →
     h'.get? a = some { cls := .type "type", data := .cls { name := Str.ofString "K", bases := [.type "object"], mro := [.ref a, .type "object"], ns := ns, qualname := qv, hasDict := false, slotNames := [Str.ofString "obj"] }, slots := #[some (.ref bt), none, some (.str (Str.ofString "K") t0), some (.str qv t3), some (.builtin "object.__new__"), some (.bool false)] } →
     h'.get? ns = some { cls := .type "dict", data := .dict (clsEs2 x1 x3 x4 x5 x6 x7 x8 x9 x10 x11 x12 k1 k3 k4 k5 k6 k7 k8 k9 k10 k11 k12 (.str mv t2) (.int fl t4) sl f1 f2 f3 f4 f5 f6 st [⟨x13, .str (Str.ofString "obj") k13, .ref md⟩, ⟨x14, .str (Str.ofString "__doc__") k14, .none⟩]) 3 } →
     h'.get? md = some { cls := .type "member_descriptor", data := .fields #[.str (Str.ofString "obj") tt, .ref a, .builtin "proto.slot", .builtin "proto.slot#set", rawInt 0] } →
     Q (.done (.ret (.ref a))) ⟨h', g, d, k, os⟩) :
   wpAny (model prog w) A (Builtin.«type.__new__» ⟨[.type "type", .str (Str.ofString "K") t0, .ref bt, .ref nsA], []⟩) Q E ⟨h, g, d, t, os⟩ := by
  unfold Builtin.«type.__new__»
  refine wpAny_bind (wpAny_pure ?_)
  refine wpAny_bind (m_isInst hbt rfl sub_tt ?_)
  refine m_ite_f rfl ?_
  refine wpAny_bind (m_isInst hns rfl sub_dd ?_)
  refine m_ite_f rfl ?_
  refine wpAny_bind (m_seq hbt rfl ?_)
  refine wpAny_bind (m_for1 (x := Value.type "object") ?_)
  refine wpAny_bind (wpAny_of_eq is_obj ?_)
  refine m_ite_f rfl ?_
  refine wpAny_pure ?_
  refine wpAny_bind (m_for1 (x := Value.type "object") ?_)
  refine wpAny_bind (wpAny_of_eq ty_obj ?_)
  refine wpAny_bind (wpAny_of_eq sub_ty ?_)
  refine m_ite_t rfl ?_
  refine wpAny_pure ?_
  refine m_ite_f rfl ?_
  refine wpAny_bind (wpAny_of_eq not_turned ?_)
  refine wpAny_bind (wpAny_of_eq ext_obj ?_)
  refine m_ite_f hnm ?_
  refine wpAny_bind (m_entries hns rfl ?_)
  refine wpAny_bind (m_special hns rfl lk_di ?_)
  refine m_ite_t rfl ?_
  refine wpAny_bind (wpAny_pure ?_)
  refine wpAny_bind (wpAny_holding ?_)
  unfold Builtin.Slots.read
  refine wpAny_bind (wpAny_of_eq bb_obj ?_)
  refine wpAny_bind (wpAny_of_eq sn_obj ?_)
  refine wpAny_bind (wpAny_of_eq gd_obj ?_)
  refine wpAny_bind (wpAny_of_eq gw_obj ?_)
  refine wpAny_bind (wpAny_of_eq vs_obj ?_)
  have hfind : (clsEs x1 x2 x3 x4 x5 x6 x7 x8 x9 x10 x11 x12 k1 k2 k3 k4 k5 k6 k7 k8 k9 k10 k11 k12 (.str mv t2) (.str qv t3) (.int fl t4) sl f1 f2 f3 f4 f5 f6 st).find? (fun e : DictEntry => e.key.isStr (Str.ofString "__slots__")) = some ⟨x4, .str (Str.ofString "__slots__") k4, .ref sl⟩ := by kernel_rfl
  rw [hfind]
  refine wpAny_bind (wpAny_rule ?_)
  refine wpAny_bind (wpAny_bind (wpAny_load hsl (wpAny_pure ?_)))
  refine m_ite_f rfl ?_
  have D0 := Mem.start h
  refine wpAny_bind (m_collect D0 ⟨_, hsl, rfl, _, rfl⟩ (Nat.le_of_ble_eq_true rfl) fun a1 o1 h1 D1 => ?_)
  refine m_ite_t rfl ?_
  refine wpAny_bind (wpAny_of_eq vs_obj ?_)
  refine m_ite_f rfl ?_
  refine wpAny_bind (m_for1 (x := Value.str (Str.ofString "obj") t1) ?_)
  refine wpAny_bind (wpAny_pure ?_)
  refine wpAny_bind (wpAny_pure ?_)
  have hid : Builtin.Slots.isIdentifier (Str.ofString "obj") = some true := by kernel_rfl
  wp_delta
  rw [hid]
  refine wpAny_bind (wpAny_pure ?_)
  refine m_ite_f rfl ?_
  refine m_ite_f (by kernel_rfl) ?_
  refine m_ite_f (by kernel_rfl) ?_
  refine wpAny_pure ?_
  refine wpAny_bind (m_forA (m_for1 (x := Str.ofString "obj") ?_))
  refine wpAny_ite_false (by kernel_rfl) ?_
  refine m_ite_f (by kernel_rfl) ?_
  refine m_ite_f (by kernel_rfl) ?_
  refine wpAny_pure ?_
  refine wpAny_bind (m_for1 (x := Value.type "object") ?_)
  refine m_ite_f (by kernel_rfl) ?_
  refine wpAny_pure ?_
  refine wpAny_of_eq (a := ({ names := [Str.ofString "obj"], dict := false, weak := false, inherited := [] } : Builtin.Slots.Plan)) (by kernel_rfl) ?_
  refine wpAny_bind (m_newObj D1 rfl ?_ fun ns h2 D2 => ?_)
  · show (12 : Nat) ≤ sizeLine + 1; decide
  refine m_ite_f (by kernel_rfl) ?_
  refine wpAny_bind (m_ite_f (by kernel_rfl) (wpAny_pure ?_))
  refine m_ite_f (by kernel_rfl) ?_
  refine wpAny_bind (m_nsGet (D2.at 0 _ _ rfl) (v := some (Value.str qv t3)) (by kernel_rfl) ?_)
  refine wpAny_bind (m_nsGet (D2.at 0 _ _ rfl) (v := some (Value.str qv t3)) (by kernel_rfl) ?_)
  refine wpAny_bind (wpAny_pure ?_)
  refine wpAny_bind (wpAny_pure ?_)
  refine wpAny_bind (m_nsGet (D2.at 0 _ _ rfl) (v := none) (by kernel_rfl) ?_)
  refine wpAny_bind (m_alloc (o := { cls := .type "type", data := .cls { name := Str.ofString "K", bases := [.type "object"], mro := [], ns := ns, qualname := qv } }) D2 rfl fun a h3 D3 => ?_)
  refine m_ite_t rfl ?_
  refine wpAny_bind (m_setSlot (o' := { cls := .type "type", data := .cls { name := Str.ofString "K", bases := [.type "object"], mro := [], ns := ns, qualname := qv }, slots := #[some (.ref bt)] }) D3 0 rfl (by decide) rfl rfl fun h4 D4 => ?_)
  refine wpAny_bind (m_setSlot (o' := { cls := .type "type", data := .cls { name := Str.ofString "K", bases := [.type "object"], mro := [], ns := ns, qualname := qv }, slots := #[some (.ref bt), none, some (.str (Str.ofString "K") t0)] }) D4 0 rfl (by decide) rfl rfl fun h5 D5 => ?_)
  refine wpAny_bind (m_setSlot (o' := { cls := .type "type", data := .cls { name := Str.ofString "K", bases := [.type "object"], mro := [], ns := ns, qualname := qv }, slots := #[some (.ref bt), none, some (.str (Str.ofString "K") t0), some (.str qv t3)] }) D5 0 rfl (by decide) rfl rfl fun h6 D6 => ?_)
  refine wpAny_bind (m_nsDel (o' := { cls := .type "dict", data := .dict (clsEs2 x1 x3 x4 x5 x6 x7 x8 x9 x10 x11 x12 k1 k3 k4 k5 k6 k7 k8 k9 k10 k11 k12 (.str mv t2) (.int fl t4) sl f1 f2 f3 f4 f5 f6 st []) 1 }) D6 1 rfl (by kernel_rfl) (by kernel_rfl) rfl fun h7 D7 => ?_)
  refine wpAny_bind (m_nsGet (D7.at 1 _ _ rfl) (v := none) (by kernel_rfl) ?_)
  refine wpAny_bind (m_forC (wpAny_bind (m_nsGet (D7.at 1 _ _ rfl) (v := none) (by kernel_rfl) (wpAny_pure ?_))))
  refine m_for1 (wpAny_bind (m_nsGet (D7.at 1 _ _ rfl) (v := none) (by kernel_rfl) (wpAny_pure ?_)))
  refine wpAny_bind (m_nsGet (D7.at 1 _ _ rfl) (v := none) (by kernel_rfl) ?_)
  refine wpAny_bind (m_nsGet (D7.at 1 _ _ rfl) (v := none) (by kernel_rfl) ?_)
  refine wpAny_bind (wpAny_of_eq hook_ty ?_)
  refine wpAny_bind (m := Builtin.linearize [.type "object"] mroOf) (wpAny_of_eq lin_obj (wpAny_bind (wpAny_pure ?_)))
  have hfil : List.filter (fun x => x != Value.ref a) (Value.ref a :: [Value.type "object"]) = [.type "object"] := by simp
  refine wpAny_bind ?_
  rw [hfil]
  refine m_any1 (b := false) (by kernel_rfl) ?_
  refine wpAny_bind (m_updCls (cd' := { name := Str.ofString "K", bases := [.type "object"], mro := [.ref a, .type "object"], ns := ns, qualname := qv }) D7 0 rfl (by kernel_rfl) (by kernel_rfl) fun h8 D8 => ?_)
  refine wpAny_bind (wpAny_of_eq made_obj ?_)
  refine wpAny_bind (m_setSlot (o' := { cls := .type "type", data := .cls { name := Str.ofString "K", bases := [.type "object"], mro := [.ref a, .type "object"], ns := ns, qualname := qv }, slots := #[some (.ref bt), none, some (.str (Str.ofString "K") t0), some (.str qv t3), some (.builtin "object.__new__")] }) D8 0 rfl (by decide) rfl rfl fun h9 D9 => ?_)
  refine wpAny_bind ?_
  unfold Bind.refreshMaker
  refine wpAny_bind (m_slotAt (D9.at 0 _ _ rfl) (v := some (.builtin "object.__new__")) rfl ?_)
  refine m_ite_f rfl ?_
  refine wpAny_bind ?_
  refine m_lookObj (r := some (.builtin "object.__new__")) (D9.at 0 _ _ rfl) rfl rfl (D9.at 1 _ _ rfl) (by kernel_rfl) (by kernel_rfl) ?_
  refine m_ite_f (by kernel_rfl) ?_
  refine wpAny_pure ?_
  refine wpAny_bind ?_
  unfold Builtin.Slots.install
  refine wpAny_bind (m_for1 ?_)
  refine wpAny_bind (m_nsGet (D9.at 1 _ _ rfl) (v := none) (by kernel_rfl) ?_)
  refine m_ite_t rfl ?_
  refine wpAny_bind (wpAny_mkStr' ?_ (by decide))
  refine wpAny_bind (m_newFields (vs := [.str (Str.ofString "obj") t, .ref a, .builtin "proto.slot", .builtin "proto.slot#set", rawInt 0]) D9 (Nat.le_of_ble_eq_true rfl) fun md h10 D10 => ?_)
  refine wpAny_bind (m_nsSetV D10 2 rfl (Nat.le_of_ble_eq_true rfl) (by kernel_rfl) (fun x tk => { cls := .type "dict", data := .dict (clsEs2 x1 x3 x4 x5 x6 x7 x8 x9 x10 x11 x12 k1 k3 k4 k5 k6 k7 k8 k9 k10 k11 k12 (.str mv t2) (.int fl t4) sl f1 f2 f3 f4 f5 f6 st [⟨x, .str (Str.ofString "obj") tk, .ref md⟩]) 2 }) (fun x tk => by kernel_rfl) (fun _ _ => rfl) fun x13 k13 h11 D11 => ?_)
  refine wpAny_pure ?_
  refine wpAny_bind (m_for1 (x := Value.type "object") ?_)
  refine wpAny_bind (wpAny_of_eq gd_obj ?_)
  refine m_ite_f rfl ?_
  refine wpAny_pure ?_
  refine wpAny_ite_false (by kernel_rfl) ?_
  refine m_updCls (cd' := { name := Str.ofString "K", bases := [.type "object"], mro := [.ref a, .type "object"], ns := ns, qualname := qv, hasDict := false, slotNames := [Str.ofString "obj"] }) D11 1 rfl (by kernel_rfl) (by kernel_rfl) fun h12 D12 => ?_
  refine wpAny_bind (wpAny_of_eq gw_obj ?_)
  refine wpAny_bind (m_setSlot (o' := { cls := .type "type", data := .cls { name := Str.ofString "K", bases := [.type "object"], mro := [.ref a, .type "object"], ns := ns, qualname := qv, hasDict := false, slotNames := [Str.ofString "obj"] }, slots := #[some (.ref bt), none, some (.str (Str.ofString "K") t0), some (.str qv t3), some (.builtin "object.__new__"), some (.bool false)] }) D12 1 rfl (by decide) rfl rfl fun h13 D13 => ?_)
  refine m_ite_f rfl ?_
  refine m_ite_f rfl ?_
  refine wpAny_bind (m_nsGet (D13.at 2 _ _ rfl) (v := none) (by kernel_rfl) ?_)
  refine m_ite_t rfl ?_
  refine wpAny_bind (m_nsSet D13 2 rfl (by kernel_rfl) (fun x tk => { cls := .type "dict", data := .dict (clsEs2 x1 x3 x4 x5 x6 x7 x8 x9 x10 x11 x12 k1 k3 k4 k5 k6 k7 k8 k9 k10 k11 k12 (.str mv t2) (.int fl t4) sl f1 f2 f3 f4 f5 f6 st [⟨x13, .str (Str.ofString "obj") k13, .ref md⟩, ⟨x, .str (Str.ofString "__doc__") tk, .none⟩]) 3 }) (fun x tk => by kernel_rfl) (fun _ _ => rfl) fun x14 k14 h14 D14 => ?_)
  refine wpAny_bind (m_nsGet (D14.at 2 _ _ rfl) (v := some (.ref f4)) (by kernel_rfl) ?_)
  refine m_ite_t rfl ?_
  refine wpAny_bind (m_nsGet (D14.at 2 _ _ rfl) (v := some .none) (by kernel_rfl) ?_)
  refine m_ite_f rfl ?_
  refine wpAny_bind (m_for1 (x := Value.type "object") ?_)
  refine wpAny_bind (wpAny_of_eq (note_obj a) (wpAny_pure ?_))
  refine wpAny_bind (wpAny_tryCatch (wpAny_holding ?_))
  refine wpAny_bind (m_entries (D14.at 2 _ _ rfl) rfl ?_)
  refine wpAny_bind (m_forA ?_)
  iterate 12 refine m_forC (wpAny_bind (wpAny_pure (m_ite_f rfl (wpAny_pure ?_))))
  refine m_for1 (wpAny_bind (wpAny_pure (m_ite_f rfl (wpAny_pure ?_))))
  refine m_ite_f rfl ?_
  refine wpAny_bind (m_entries (D14.at 2 _ _ rfl) rfl ?_)
  refine wpAny_bind (m_forA ?_)
  have kp := mem_kp D14
  refine m_forC (m_ite_f (by kernel_rfl) (wpAny_bind (wpAny_of_eq (sp_str _ _) (wpAny_pure ?_))))
  refine m_forC (m_ite_f (by kernel_rfl) (wpAny_bind (wpAny_of_eq (sp_int _ _) (wpAny_pure ?_))))
  refine m_forC (m_ite_f (by kernel_rfl) (wpAny_bind (m_special (kp _ _ hsl) rfl lk_ls (wpAny_pure ?_))))
  refine m_forC (m_ite_f (by kernel_rfl) (wpAny_bind (m_special (kp _ _ hf1) hc1 lk_fs (wpAny_pure ?_))))
  refine m_forC (m_ite_f (by kernel_rfl) (wpAny_bind (m_special (kp _ _ hf2) hc2 lk_fs (wpAny_pure ?_))))
  refine m_forC (m_ite_f (by kernel_rfl) (wpAny_bind (m_special (kp _ _ hf3) hc3 lk_fs (wpAny_pure ?_))))
  refine m_forC (m_ite_f (by kernel_rfl) (wpAny_bind (m_special (kp _ _ hf4) hc4 lk_fs (wpAny_pure ?_))))
  refine m_forC (m_ite_f (by kernel_rfl) (wpAny_bind (m_special (kp _ _ hf5) hc5 lk_fs (wpAny_pure ?_))))
  refine m_forC (m_ite_f (by kernel_rfl) (wpAny_bind (m_special (kp _ _ hf6) hc6 lk_fs (wpAny_pure ?_))))
  refine m_forC (m_ite_f (by kernel_rfl) (wpAny_bind (wpAny_of_eq sp_none (wpAny_pure ?_))))
  refine m_forC (m_ite_f (by kernel_rfl) (wpAny_bind (m_special (kp _ _ hst) hcst lk_ts (wpAny_pure ?_))))
  refine m_forC (m_ite_f (by kernel_rfl) (wpAny_bind (m_special (D14.at 0 _ _ rfl) rfl lk_ms (wpAny_pure ?_))))
  refine m_for1 (m_ite_f (by kernel_rfl) (wpAny_bind (wpAny_of_eq sp_none (wpAny_pure ?_))))
  subst hqv
  have ha := D14.at 1 _ _ rfl
  refine wpAny_bind (wp_AX R (super_x ha fun su h15 k15 D15 => ?_))
  have kp15 := mem_kp D15
  have ha15 := kp15 _ _ ha
  have hno := looks_opaque (M := model prog w) (C := a) ((X.keeps kp).keeps kp15) (by rfl)
  refine wpAny_bind (wpAny_holding (getattr_super (n := nr) (R.le (by omega)) (D15.at 0 _ _ rfl) ha15 hno fun b h16 k16 D16 => ?_))
  have kp16 := mem_kp D16
  refine wpAny_bind (wp_AX R (initsub_x (kp16 _ _ ha15) (D16.at 0 _ _ rfl) fun v h17 k17 n17 D17 => wpAny_pure (wpAny_pure ?_)))
  have kk : Kp h14 h17 := kp15.trans (kp16.trans (mem_kp D17))
  exact q a ns md h17 _ _ _ _ _ _ (kp.trans kk) (D14.nw _ (.tail _ (.head _))).2 (D14.nw _ (.tail _ (.tail _ (.head _)))).2 (kk _ _ ha) (kk _ _ (D14.at 2 _ _ rfl)) (kk _ _ (D14.at 0 _ _ rfl))
end
end Mine
end
section
set_option maxRecDepth 100000
namespace Mine
open PySem PySem.W PySem.W.X PySem.Calls PyProof.Rows
set_option maxHeartbeats 4000000
section
variable {prog : Program} {w : World} {A : Around} {s : Shared}
/-- entry into a def with cells, any end -/
theorem call_fnR {a : Addr} {o : Obj} {fd : FuncData} {body : List Stmt} {args : List Value} {binds : List (Str × Value)} {Hd : List Addr} {Q : Value → Shared → Prop} {E : Value → Shared → Prop} (l : List (Str × Vw)) (hs : Hs Hd s.heap)
    (hroom : A.depth < recursionLimit) (ho : s.heap.get? a = some o) (hdata : o.data = .func fd) (hlim : s.heap.NoLimit) (hcd : s.heap.CodeRec fd.code fd.qualname) (hbody : fd.body = .stmts body)
    (hbind : bindArgs fd ⟨args, []⟩ = pure binds) (hclo : fd.closure = [])
    (hkind : ∀ L, ∀ x ∈ binds, fd.scope.names.lookup x.1 = some .local ∨ (fd.scope.names.lookup x.1 = some .cell ∧ ((cellsFrom (L + 1) fd.scope.names []).lookup x.1).isSome = true))
    (hcl : ∀ L, ∀ p ∈ (callEnvC fd L a).cells, (callEnvC fd L a).cells.lookup p.1 = some p.2)
    (hσ : ∀ L, ∀ p ∈ l, ∃ v, ArgIn fd a binds p.1 v L ∧ Rv Hd s.heap v p.2)
    (h : ∀ h₁ k L, FS s.heap (Nb (callEnvC fd L a)) Hd h₁ → Fv (callEnvC fd L a) (Nb (callEnvC fd L a) ++ Hd) h₁ (sg l) → ∀ (Q' : Flow → Shared → Prop) (E' : Value → Shared → Prop), (∀ v s', Q v s' → Q' (.ret v) s') →
      wpAny (model prog w) (A.deeper (callEnvC fd L a)) (execs body (callEnvC fd L a)) Q' E' { s with heap := h₁, toks := k })
    (hco : fd.scope.isCoroutine = false := by rfl) (hgen : fd.scope.isGenerator = false := by rfl) (hk : fd.scope.kind = .function := by rfl) :
    wpAny (model prog w) A (call (.ref a) args) Q E s := wpAny_call (by
  refine codeAny_call_cells hroom ho hdata hlim hcd hbody hbind hclo (hkind _) (fun s₁ X => ?_) hco hgen hk
  obtain ⟨⟨⟨h₁, tk, rfl⟩, hn, kp, hfr⟩, hcell, hap, hab⟩ := X
  have new : ∀ a' ∈ Nb (callEnvC fd s.heap.objs.size a), s.heap.get? a' = none := fun a' ha => by
    rcases List.mem_cons.mp ha with rfl | ha
    · exact fresh_of (Kp.refl _) hfr
    · obtain ⟨⟨x, c⟩, hm, rfl⟩ := List.mem_map.mp ha
      exact fresh_of (Kp.refl _) (Nat.le_trans hfr (Nat.le_of_lt (hab x c hm)))
  have hide : ∀ a' ∈ Nb (callEnvC fd s.heap.objs.size a) ++ Hd, a' ∈ Hd ∨ s.heap.get? a' = none := fun a' ha => by
    rcases List.mem_append.mp ha with ha | ha
    · exact .inr (new a' ha)
    · exact .inl ha
  have kh := kh_hide kp hide
  have hσ' : ∀ L x d, sg l x = some d → ∃ v, ArgIn fd a binds x v L ∧ Rv Hd s.heap v d := fun L x d e => hσ L _ (mem_of_lookup e)
  refine h h₁ tk _ ⟨kp, new, fun a' ha => ?_⟩ ⟨⟨_, hn, fun x d e l => ?_⟩, fun x c e => ⟨_, hcell x c e, fun d q => ?_⟩, fun x c e => ?_, fun x y c e1 e2 => ?_⟩ _ _ fun v s' q => q
  · rcases List.mem_append.mp ha with ha | ha
    · rcases List.mem_cons.mp ha with rfl | ha
      · exact ns_ex hn
      · obtain ⟨⟨x, c⟩, hm, rfl⟩ := List.mem_map.mp ha
        exact cell_ex (hcell x c (hcl _ _ hm))
    · obtain ⟨o, e⟩ := hs a' ha; exact ⟨o, kp _ _ e⟩
  · obtain ⟨v, ⟨h1, h2, h3⟩ | ⟨h1, h2⟩, r⟩ := hσ' _ x d e
    · exact ⟨v, h3, r.of kh⟩
    · rw [h1] at l; cases l
  · obtain ⟨v, ⟨h1, h2, h3⟩ | ⟨h1, h2⟩, r⟩ := hσ' _ x d q
    · rw [h2] at e; cases e
    · exact ⟨v, h2, r.of kh⟩
  · exact Nat.ne_of_gt (hab x c (mem_of_lookup e))
  · exact name_of_addr hap (mem_of_lookup e1) (mem_of_lookup e2))
end
end Mine
end
section
set_option maxRecDepth 100000
namespace Mine
open PySem PySem.W PySem.W.X PySem.Calls PyProof.Rows
set_option maxHeartbeats 4000000
section
variable {prog : Program} {w : World} {A : Around} {h₀ h : Heap} {g : Array GenState} {d : Drawn} {t : Nat} {os : OsState} {chg news : List (Addr × Obj)} {E : Value → Shared → Prop}
theorem m_grow {a : Addr} {f : Obj → Obj} {c₀ : Addr} {ps more : Array Value} {Q : Unit → Shared → Prop} (D : Mem h₀ h chg news) (ht : h₀.TableAt c₀ a ps) (hw : away chg a = true) (hn : f (tableObj ps) = tableObj (ps ++ more)) (x : ∀ h', Mem h₀ h' ((a, tableObj (ps ++ more)) :: chg) news → Q () ⟨h', g, d, t, os⟩) :
    wpAny (model prog w) A (update a f) Q E ⟨h, g, d, t, os⟩ :=
  wpAny_update (D.keep a _ ht.2 (by rw [hw, Bool.or_true])) (x _ (D.grow ht hw hn))
theorem m_localSet {env : Env} {name : Str} {v : Value} {c : Value} {dd : Option Addr} {es : Array DictEntry} {n : Nat} {sl : Array (Option Value)} {Q : Unit → Shared → Prop} (D : Mem h₀ h chg news) (i : Nat) (hi : news[i]? = some (env.locals, ⟨.type "dict", dd, .dict es n, sl⟩)) (hk : aRefKeyMayBeTheName name es = false) (o' : Int → Tok → Obj)
    (e : ∀ x tk, Obj.putName name x (.str name tk) v ⟨.type "dict", dd, .dict es n, sl⟩ = o' x tk) (hf : ∀ x tk, (o' x tk).isFreed = false) (q : ∀ x tk h', Mem h₀ h' chg (news.set i (env.locals, o' x tk)) → Q () ⟨h', g, d, t + 1, os⟩) : wpAny (model prog w) A (localSet env name v) Q E ⟨h, g, d, t, os⟩ := by
  unfold localSet
  refine wpAny_bind (wpAny_load (D.at i _ _ hi) ?_)
  refine m_ite_t rfl ?_
  exact m_nsSet D i hi hk o' e hf q
end
section
variable {prog : Program} {w : World} {A : Around} {h : Heap} {g : Array GenState} {d : Drawn} {t : Nat} {os : OsState}
local macro_rules | `(tactic| x_close) => `(tactic| (apply_assumption; first | assumption | exact Mem.start _))
theorem prep_x {Q : Value → Shared → Prop} {E : Value → Shared → Prop} {tk : Tok}
   (q : ∀ b h' k, Mem h h' [] [(b, { cls := .type "builtin_function_or_method", data := .fields #[.builtin "type.__prepare__", .type "type"] })] → Q (.ref b) ⟨h', g, d, k, os⟩) :
   wpAny (model prog w) AX (call (.builtin "type.__getattribute__") [.type "type", .str (Str.ofString "__prepare__") tk]) Q E ⟨h, g, d, t, os⟩ := by
  x_run
theorem prepcall_x {Q : Value → Shared → Prop} {E : Value → Shared → Prop} {b bt : Addr} {t0 : Tok} (hb : h.get? b = some { cls := .type "builtin_function_or_method", data := .fields #[.builtin "type.__prepare__", .type "type"] }) (hbt : h.get? bt = some { cls := .type "tuple", data := .seq #[.type "object"] })
   (q : ∀ b h' k, Mem h h' [] [(b, { cls := .type "dict", data := .dict #[] })] → Q (.ref b) ⟨h', g, d, k, os⟩) :
   wpAny (model prog w) AX (call (.ref b) [.str (Str.ofString "K") t0, .ref bt]) Q E ⟨h, g, d, t, os⟩ := by
  x_run
end
end Mine
end
section
set_option maxRecDepth 100000
namespace Mine
open PySem PySem.W PySem.W.X PySem.Calls PyProof.Rows
set_option maxHeartbeats 4000000

/-- a code object with its table of inner codes -/
structure Cod (h : Heap) (c P : Addr) (ps : Array Value) : Prop where
  code : h.IsCode c P ps
  tab : h.TableAt c P ps
theorem Cod.kp {h h' : Heap} {c P : Addr} {ps : Array Value} (x : Cod h c P ps) (k : Kp h h') : Cod h' c P ps := ⟨x.code.keeps k, x.tab.keeps k⟩
theorem Cod.ne {h : Heap} {c P : Addr} {ps : Array Value} (x : Cod h c P ps) : c ≠ P := let ⟨_, _, _, _, _, _, _, _, _, _, _, _, _, _, _, _, _, _, _, _, n⟩ := x.code; n
theorem Cod.get {h : Heap} {c P : Addr} {ps : Array Value} (x : Cod h c P ps) : h.get? P = some (tableObj ps) := x.tab.2
theorem Cod.kH {N : List Addr} {h h' : Heap} {c P : Addr} {ps : Array Value} (x : Cod h c P ps) (k : KpH N h h') (hc : c ∉ N) (hP : P ∉ N) : Cod h' c P ps := by
  obtain ⟨o, vs, file, tf, flags, tg, inF, text, tt, op, ho, hd, h11, h2, h7, h9, h10, hop, hpd, htr, hne⟩ := x.code
  obtain ⟨⟨o2, vs2, e, r⟩, t⟩ := x.tab
  exact ⟨⟨o, vs, file, tf, flags, tg, inF, text, tt, op, k _ _ hc ho, hd, h11, h2, h7, h9, h10, k _ _ hP hop, hpd, htr, hne⟩, ⟨⟨o2, vs2, k _ _ hc e, r⟩, k _ _ hP t⟩⟩
theorem kpH_ext {a : Addr} {h h' : Heap} (k : Heap.ExtBut a h h') : KpH [a] h h' := fun b o n e => k b o (fun q => n (q ▸ .head _)) e

section
variable {prog : Program} {w : World} {A : Around} {h : Heap} {g : Array GenState} {d : Drawn} {t : Nat} {os : OsState} {mg mb : Str → Option Value} {E : Value → Shared → Prop}
theorem m_classCode {env : Env} {c P : Addr} {ps : Array Value} {pos : Pos} {fl : Nat} {name qual : Str} {scope : Scope} {Q : Value → Shared → Prop} (hc : env.code = .ref c) (C : Cod h c P ps) (hnf : codeAmong pos ps.toList = none)
    (q : ∀ c' P' h' tk, KpH [P] h h' → (∃ ps', h'.get? P = some (tableObj ps')) → h.get? c' = none → h.get? P' = none → Cod h' c' P' #[] → Q (.ref c') ⟨h', g, d, tk, os⟩) :
    wpAny (model prog w) A (classCode env pos fl name qual scope) Q E ⟨h, g, d, t, os⟩ := by
  obtain ⟨o, vs, file, tf, flags, tg, inF, text, tt, op, ho, hd, h11, h2, h7, h9, h10, hop, hpd, htr, hne⟩ := C.code
  unfold classCode codeAt
  rw [hc]
  refine wpAny_ite_false (by rfl) ?_
  refine wpAny_bind (wpAny_fieldsOf ho hd ?_)
  rw [h11]
  refine wpAny_bind (wpAny_fieldsOf hop hpd ?_)
  rw [hnf, h2, h7, h9, h10]
  refine wpAny_bind (wpAny_newCodeX fun c' P' h1 tk hk hc' hP' hcode htab hrec => ?_)
  have hop1 := hk _ _ hop
  refine wpAny_bind (wpAny_updateFieldsOfTheText hop1 hpd ?_)
  have hnew : (Obj.mapFields (fun vs => if (codeAmong pos vs.toList).isSome = true then vs else vs ++ #[rawInt pos.line, rawInt pos.col, .ref c']) op).data = .fields (ps ++ #[rawInt pos.line, rawInt pos.col, .ref c']) := by
    rw [Obj.data_mapFields hpd, hnf]; rfl
  have hget := Heap.get?_update_self (h := h1) (fun o => Obj.mapFields (fun vs => if (codeAmong pos vs.toList).isSome = true then vs else vs ++ #[rawInt pos.line, rawInt pos.col, .ref c']) o) hop1 (Obj.isFreed_of_fields hnew)
  refine wpAny_bind (wpAny_fieldsOf hget hnew ?_)
  have hl : (ps ++ #[rawInt pos.line, rawInt pos.col, Value.ref c']).toList = ps.toList ++ [rawInt pos.line, rawInt pos.col, .ref c'] := by simp
  rw [hl, codeAmong_snoc _ htr hnf]
  have fr : ∀ {a : Addr}, h.objs.size ≤ a → h.get? a = none := fun z => fresh_of (Kp.refl _) z
  have e1 : ∀ b o', b ∉ [P] → h1.get? b = some o' → (h1.update P _).get? b = some o' := fun b o' n e => ((Heap.SameBut.update h1 P (fun o => Obj.mapFields (fun vs => if (codeAmong pos vs.toList).isSome = true then vs else vs ++ #[rawInt pos.line, rawInt pos.col, .ref c']) o)).2 b (fun q => n (q ▸ .head _))).trans e
  have hcP : c' ∉ [P] := fun m => by rw [List.mem_singleton.mp m] at hc'; exact absurd (Heap.lt_size hop) (Nat.not_lt.mpr hc')
  have hPP : P' ∉ [P] := fun m => by rw [List.mem_singleton.mp m] at hP'; exact absurd (Heap.lt_size hop) (Nat.not_lt.mpr hP')
  have hop3 : op = tableObj ps := Option.some.inj (hop.symm.trans C.get)
  exact wpAny_pure (q c' P' _ _ (fun b o' n e => e1 b o' n (hk _ _ e)) (by subst hop3; exact ⟨_, hget⟩) (fr hc') (fr hP') (Cod.kH ⟨hcode, htab⟩ e1 hcP hPP))
/-- a function object -/
abbrev fnO (name qual : Str) (params : Arguments) (body : FuncBody) (scope : Scope) (cl : List (Str × Addr)) (pm : Value) (c' : Addr) (ct : Value) : Obj :=
  { cls := .type "function", data := .func { name := name, qualname := qual, params := params, body := body, scope := scope, globals := mainGlobals, closure := cl, defaults := .none, kwdefaults := .none, doc := .none, pyModule := pm, annotations := none, code := .ref c', closureTuple := ct, builtins := builtinsNs } }
theorem m_mkfn {env : Env} {c P : Addr} {ps : Array Value} {pos : Pos} {fl : Nat} {name qual : Str} {params : Arguments} {body : FuncBody} {scope : Scope} {cl : List (Str × Addr)} {bm : Addr} {Q : Value → Shared → Prop} (hcl : closureFor scope env = pure cl) (hge : env.globals = mainGlobals) (hc : env.code = .ref c) (C : Cod h c P ps) (hnf : codeAmong pos ps.toList = none)
    (hg : h.Ns mainGlobals mg) (hbm : mg "__builtins__" = some (.ref bm)) (hbo : h.get? bm = some { cls := .type "module", dict := some builtinsNs }) (hb0 : bm ≠ builtinsNs) (hdoc : ∀ b, body = .stmts b → docOf b = none)
    (q : ∀ f c' ct h' tk, KpH [P] h h' → h.get? f = none → h.get? c' = none → h'.get? f = some (fnO name qual params body scope cl ((mg "__name__").getD .none) c' ct) → h'.CodeRec (.ref c') qual → Cod h' c P (ps ++ #[rawInt pos.line, rawInt pos.col, .ref c']) → Q (.ref f) ⟨h', g, d, tk, os⟩) :
    wpAny (model prog w) A (makeFunction name qual params body scope env [] [] [] pos fl) Q E ⟨h, g, d, t, os⟩ := by
  rw [makeFunction_eq]
  simp only [List.zip_nil_right, List.filterMap_nil, List.isEmpty_nil, if_true, pure_bind]
  have nP : ∀ {h : Heap} {b : Addr} {o : Obj}, h.get? P = some (tableObj ps) → h.get? b = some o → (∀ vs, o.data ≠ .fields vs) → b ≠ P := fun t e n q => by
    rw [q, t] at e; cases e; exact n _ rfl
  have gP : mainGlobals ≠ P := by
    obtain ⟨o, es, ep, e, hd, _⟩ := hg
    exact nP C.get e (fun vs z => by rw [hd] at z; cases z)
  have bP : bm ≠ P := nP C.get hbo (fun vs z => by cases z)
  have fin : ∀ (ct : Value) (h1 : Heap) (c' : Addr) (h2 : Heap) (tk2 : Nat), Kp h h1 → h.get? c' = none → Heap.ExtBut P h1 h2 → h2.CodeRec (.ref c') qual → Cod h2 c P (ps ++ #[rawInt pos.line, rawInt pos.col, .ref c']) →
      wpAny (model prog w) A (newObj (.type "function") (.func { name, qualname := qual, params, body, scope, globals := mainGlobals, closure := cl, closureTuple := ct, code := .ref c', builtins := builtinsNs, defaults := .none, kwdefaults := .none, annotations := none, pyModule := (mg "__name__").getD .none, doc := .none })) Q E ⟨h2, g, d, tk2, os⟩ := by
    intro ct h1 c' h2 tk2 k1 hc0 hx hrec C2
    refine wpAny_newObj_type (s := ⟨h2, g, d, tk2, os⟩) ?_ (by size_fits)
    have fr : h.get? h2.objs.size = none := by
      cases z : h.get? h2.objs.size with
      | none => rfl
      | some o =>
        have z1 := k1 _ _ z
        by_cases zp : h2.objs.size = P
        · have t2 := C2.get
          rw [← zp] at t2
          exact absurd (Heap.lt_size t2) (Nat.lt_irrefl _)
        · exact absurd (Heap.lt_size (hx _ _ zp z1)) (Nat.lt_irrefl _)
    exact q _ c' ct _ _ (fun b o n e => Heap.get?_push_of_some _ (hx b o (fun z => n (z ▸ .head _)) (k1 _ _ e))) fr hc0 (Heap.get?_push_size _ rfl) (hrec.push _) ⟨C2.code.push _, C2.tab.push _⟩
  unfold makeTail
  rw [hcl, hge]
  refine wpAny_bind (wpAny_pure ?_)
  cases cl with
  | nil =>
    simp only [List.isEmpty_nil, if_true]
    refine wpAny_bind (wpAny_pure ?_)
    refine wpAny_bind (wpAny_functionCodeX (s := ⟨h, g, d, t, os⟩) hc C.code C.tab hnf fun c' h2 tk2 hx hge hlt hco hrec htb _ => ?_)
    have hg2 := hg.extBut hx gP
    refine wpAny_bind (wpAny_builtinsFor hg2 hbm hb0 (hx _ _ bP hbo) rfl rfl rfl ?_)
    refine wpAny_bind (wpAny_nsGet hg2 ?_)
    have f := fin .none h c' h2 tk2 (Kp.refl _) (fresh_of (Kp.refl _) hge) hx hrec ⟨hco, htb⟩
    cases body with
    | stmts b =>
      have hd := hdoc b rfl
      dsimp only
      rw [hd]
      exact wpAny_bind (wpAny_pure f)
    | expr e => exact wpAny_bind (wpAny_pure f)
  | cons p r =>
    simp only [List.isEmpty_cons, Bool.false_eq_true, if_false]
    refine wpAny_bind (wpAny_newTextTuple ?_)
    have k1 := Kp.push h { cls := .type "tuple", data := .seq (((p :: r).mergeSort fun a b => a.1.cps.toList ≤ b.1.cps.toList).map (.ref ·.2)).toArray }
    have C1 := C.kp k1
    refine wpAny_bind (wpAny_functionCodeX hc C1.code C1.tab hnf fun c' h2 tk2 hx hge hlt hco hrec htb _ => ?_)
    have hg2 := (hg.keeps k1).extBut hx gP
    refine wpAny_bind (wpAny_builtinsFor hg2 hbm hb0 (hx _ _ bP (k1 _ _ hbo)) rfl rfl rfl ?_)
    refine wpAny_bind (wpAny_nsGet hg2 ?_)
    have f := fin (.ref h.objs.size) _ c' h2 tk2 k1 (fresh_of k1 hge) hx hrec ⟨hco, htb⟩
    cases body with
    | stmts b =>
      have hd := hdoc b rfl
      dsimp only
      rw [hd]
      exact wpAny_bind (wpAny_pure f)
    | expr e => exact wpAny_bind (wpAny_pure f)
end
end Mine
end
section
set_option maxRecDepth 100000
namespace Mine
open PySem PySem.W PySem.W.X PySem.Calls PyProof.Rows
set_option maxHeartbeats 4000000

abbrev dicO (es : Array DictEntry) (n : Nat) : Obj := { cls := .type "dict", data := .dict es n }
/-- the state within the class's body -/
structure KB (h₁ : Heap) (ns cc P : Addr) (ps : Array Value) (es : Array DictEntry) (n : Nat) (h : Heap) : Prop where
  kx : KpH [23, ns, P] h₁ h
  dic : h.get? ns = some (dicO es n)
  cod : Cod h cc P ps
  n0 : h₁.get? ns = none
  p0 : h₁.get? P = none
  c0 : h₁.get? cc = none
  t23 : ∃ ps', h.get? 23 = some (tableObj ps')
  e23 : ∃ o, h₁.get? 23 = some o
section
variable {h₁ h h' : Heap} {ns cc P : Addr} {ps : Array Value} {es : Array DictEntry} {n : Nat}
theorem KB.nP (B : KB h₁ ns cc P ps es n h) : ns ≠ P := fun e => by have := B.cod.get; rw [← e, B.dic] at this; cases this
theorem KB.ncc (B : KB h₁ ns cc P ps es n h) : cc ≠ ns := fun e => by
  obtain ⟨⟨o, vs, e1, hcl, hd, _⟩, _⟩ := B.cod.tab
  rw [e, B.dic] at e1; cases e1; cases hd
theorem KB.grow (B : KB h₁ ns cc P ps es n h) (k : Kp h h') : KB h₁ ns cc P ps es n h' := ⟨B.kx.trans k.toH, k _ _ B.dic, B.cod.kp k, B.n0, B.p0, B.c0, let ⟨p, e⟩ := B.t23; ⟨p, k _ _ e⟩, B.e23⟩
theorem KB.tabs (B : KB h₁ ns cc P ps es n h) {ps' : Array Value} (k : KpH [P] h h') (C : Cod h' cc P ps') : KB h₁ ns cc P ps' es n h' :=
  ⟨B.kx.trans (fun b o m e => k b o (fun q => m (.tail _ (.tail _ q))) e), k _ _ (fun m => B.nP (List.mem_singleton.mp m)) B.dic, C, B.n0, B.p0, B.c0, let ⟨p, e⟩ := B.t23; ⟨p, k _ _ (fun m => by obtain ⟨o, z⟩ := B.e23; rw [List.mem_singleton.mp m, B.p0] at z; cases z) e⟩, B.e23⟩
theorem KB.dict (B : KB h₁ ns cc P ps es n h) {es' : Array DictEntry} {n' : Nat} (k : Heap.SameBut ns h h') (e : h'.get? ns = some (dicO es' n')) : KB h₁ ns cc P ps es' n' h' := by
  have kH : KpH [ns] h h' := KpH.same k (.head _)
  exact ⟨B.kx.trans (fun b o m e => kH b o (fun q => m (.tail _ (List.mem_singleton.mp q ▸ .head _))) e), e, B.cod.kH kH (fun m => B.ncc (List.mem_singleton.mp m)) (fun m => B.nP (List.mem_singleton.mp m).symm), B.n0, B.p0, B.c0, let ⟨p, z⟩ := B.t23; ⟨p, kH _ _ (fun m => by obtain ⟨o, z⟩ := B.e23; rw [List.mem_singleton.mp m, B.n0] at z; cases z) z⟩, B.e23⟩
end
/-- names of the class are stored in its dict -/
abbrev StoresTo (env : Env) (x : Str) : Prop := ∀ v, storeName env x v = localSet env x v
section
variable {prog : Program} {w : World} {A : Around} {h₁ h : Heap} {g : Array GenState} {d : Drawn} {t : Nat} {os : OsState} {mg mb : Str → Option Value} {E : Value → Shared → Prop} {env : Env} {ns cc P : Addr} {ps : Array Value} {es : Array DictEntry} {n : Nat} {rest : List Stmt} {Q : Flow → Shared → Prop}
theorem kb_store {x : Str} {v : Value} {Q : Unit → Shared → Prop} (B : KB h₁ ns cc P ps es n h) (hl : env.locals = ns) (hst : StoresTo env x) (hk : aRefKeyMayBeTheName x es = false) (es' : Int → Tok → Array DictEntry) (n' : Nat) (hput : ∀ z tk, Obj.putName x z (.str x tk) v (dicO es n) = dicO (es' z tk) n')
    (q : ∀ z tk h' k, KB h₁ ns cc P ps (es' z tk) n' h' → KpH [ns] h h' → Q () ⟨h', g, d, k, os⟩) : wpAny (model prog w) A (storeName env x v) Q E ⟨h, g, d, t, os⟩ := by
  rw [hst]
  unfold localSet
  rw [hl]
  refine wpAny_bind (wpAny_load B.dic ?_)
  refine m_ite_t rfl ?_
  unfold nsSet strHash
  refine wpAny_bind (wpAny_bind (wpAny_askSetting (wpAny_pure (wpAny_bind (wpAny_mkText (wpAny_bind (wpAny_loadPart B.dic ?_)))))))
  refine m_ite_f hk ?_
  have hs := Heap.SameBut.update h ns (Obj.putName x (if x.cps.isEmpty = true then 0 else reduceHash (w.params.strHash x.cps)) (.str x t) v)
  refine wpAny_updatePart B.dic (q (if x.cps.isEmpty = true then 0 else reduceHash (w.params.strHash x.cps)) t _ _ (B.dict hs ?_) (KpH.same hs (.head _)))
  have := Heap.get?_update_self (Obj.putName x (if x.cps.isEmpty = true then 0 else reduceHash (w.params.strHash x.cps)) (.str x t) v) B.dic (by rw [hput]; rfl)
  exact this.trans (congrArg some (hput _ _))
theorem kb_def {name : Str} {as : List Arg} {b : List Stmt} {sc : Scope} {pos : Pos} {cl : List (Str × Addr)} {bm : Addr} (B : KB h₁ ns cc P ps es n h) (hl : env.locals = ns) (hst : StoresTo env name) (hk : aRefKeyMayBeTheName name es = false) (es' : Int → Tok → Value → Array DictEntry) (n' : Nat) (hput : ∀ z tk v, Obj.putName name z (.str name tk) v (dicO es n) = dicO (es' z tk v) n')
    (ha : annotationsOf (as ++ [] ++ [] ++ [] ++ []) env = [])
    (hcl : closureFor sc env = pure cl) (hge : env.globals = mainGlobals) (hc : env.code = .ref cc) (hnf : codeAmong pos ps.toList = none) (hg : h.Ns mainGlobals mg) (hbm : mg "__builtins__" = some (.ref bm)) (hbo : h.get? bm = some { cls := .type "module", dict := some builtinsNs }) (hb0 : bm ≠ builtinsNs) (hdoc : docOf b = none)
    (next : ∀ f c' ct z tk h2 k, KB h₁ ns cc P (ps ++ #[rawInt pos.line, rawInt pos.col, .ref c']) (es' z tk (.ref f)) n' h2 → KpH [ns, P] h h2 → h.get? f = none → h.get? c' = none → h2.get? f = some (fnO name (qualnameIn env name name) ⟨[], as, none, [], [], none, []⟩ (.stmts b) sc cl ((mg "__name__").getD .none) c' ct) → h2.CodeRec (.ref c') (qualnameIn env name name) → wpAny (model prog w) A (execs rest env) Q E ⟨h2, g, d, k, os⟩) :
    wpAny (model prog w) A (execs (.FunctionDef name ⟨[], as, none, [], [], none, []⟩ b [] none [] sc none name pos :: rest) env) Q E ⟨h, g, d, t, os⟩ := by
  refine wpAny_execs_cons ?_
  rw [arm_exec_FunctionDef]
  unfold defStmt
  refine m_ite_f rfl ?_
  refine wpAny_bind (wpAny_pure ?_)
  refine wpAny_bind (wpAny_standAt ?_)
  refine wpAny_bind (wpAny_holding ?_)
  refine wpAny_bind (wpAny_pure ?_)
  refine wpAny_bind (wpAny_holding (wpAny_pure ?_))
  refine wpAny_holding ?_
  refine wpAny_bind (wpAny_of_eq (a := []) (by show evalNamed (annotationsOf (as ++ [] ++ [] ++ [] ++ []) env ++ []) = _; rw [ha]; rfl) ?_)
  refine m_mkfn hcl hge hc B.cod hnf hg hbm hbo hb0 (fun b' e => by cases e; exact hdoc) fun f c' ct h2 k2 kP hf hc0 hfo hrec C2 => ?_
  refine wpAny_bind (wpAny_pure ?_)
  refine wpAny_bind (wpAny_standAt ?_)
  unfold bindName
  refine wpAny_bind (wpAny_bind (wpAny_holding (wpAny_point (wpAny_bind ?_))))
  have B2 := B.tabs kP C2
  have fns : f ∉ [ns] := fun m => by rw [List.mem_singleton.mp m, B.dic] at hf; cases hf
  refine kb_store B2 hl hst hk (fun z tk => es' z tk (.ref f)) n' (fun z tk => hput z tk _) fun z tk h3 k3 B3 kn => ?_
  refine wpAny_point (wpAny_pure ?_)
  have fP : f ∉ [P] := fun m => by have := B.cod.get; rw [← List.mem_singleton.mp m, hf] at this; cases this
  refine next f c' ct z tk h3 k3 B3 (fun b o m e => kn b o (fun q => m (List.mem_singleton.mp q ▸ .head _)) (kP b o (fun q => m (.tail _ q)) e)) hf hc0 (kn _ _ fns hfo) ?_
  obtain ⟨c, o, vs, tq, e, go, r1, r2⟩ := hrec
  refine ⟨c, o, vs, tq, e, kn _ _ (fun m => ?_) go, r1, r2⟩
  rw [List.mem_singleton.mp m, B2.dic] at go; cases go; cases r1
theorem kb_asg {e : Expr} {x : Str} {px pos : Pos} {P' : Heap → Value → Prop} (B : KB h₁ ns cc P ps es n h) (hl : env.locals = ns) (hst : StoresTo env x) (hk : aRefKeyMayBeTheName x es = false) (es' : Int → Tok → Value → Array DictEntry) (n' : Nat) (hput : ∀ z tk v, Obj.putName x z (.str x tk) v (dicO es n) = dicO (es' z tk v) n')
    (he : Ev prog w A h (eval e env) P') (hsw : swapsWith e (some (.Name x px)) pos.line env = pure false)
    (next : ∀ v h1 z tk h2 k, Kp h h1 → P' h1 v → KB h₁ ns cc P ps (es' z tk v) n' h2 → KpH [ns] h1 h2 → wpAny (model prog w) A (execs rest env) Q E ⟨h2, g, d, k, os⟩) :
    wpAny (model prog w) A (execs (.Assign [.Name x px] e pos :: rest) env) Q E ⟨h, g, d, t, os⟩ := by
  refine wpAny_execs_cons (wpAny_Assign_Name (Ev.use (s := ⟨h, g, d, t, os⟩) he (Kp.refl _) fun v h1 k1 kp1 p1 => ?_) hsw)
  exact kb_store (B.grow kp1) hl hst hk (fun z tk => es' z tk v) n' (fun z tk => hput z tk v) fun z tk h2 k2 B2 kn => next v h1 z tk h2 k2 kp1 p1 B2 kn
end
end Mine
end
section
set_option maxRecDepth 100000
namespace Mine
open PySem PySem.W PySem.W.X PySem.Calls PyProof.Rows
set_option maxHeartbeats 4000000
theorem none_of {a b : Heap} {x : Addr} (k : Kp a b) (e : b.get? x = none) : a.get? x = none := by
  cases z : a.get? x with
  | none => rfl
  | some o => rw [k _ _ z] at e; cases e
theorem kk23 (P : Params) : (KK P).lookup 23 = none := by kernel_rfl
theorem kk211 (P : Params) : (KK P).lookup 211 = none := by kernel_rfl
theorem KB.gd {w : World} {mg mb : Str → Option Value} {h₁ h : Heap} {ns cc P : Addr} {ps : Array Value} {es : Array DictEntry} {n : Nat} (B : KB h₁ ns cc P ps es n h) (G : Gd w mg mb h₁) : Gd w mg mb h := by
  have out : ∀ {a : Addr} {o : Obj}, h₁.get? a = some o → a ≠ 23 → a ∉ [23, ns, P] := fun {a o} e n m => by
    simp only [List.mem_cons, List.not_mem_nil, or_false] at m
    rcases m with m | m | m
    · exact n m
    · rw [m, B.n0] at e; cases e
    · rw [m, B.p0] at e; cases e
  refine ⟨fun a o e => ?_, G.g.at' fun o e => B.kx _ _ (out e (by decide)) e, G.b.at' fun o e => B.kx _ _ (out e (by decide)) e, ?_, G.bt⟩
  · have z := G.X a o e
    exact B.kx _ _ (out z fun q => by rw [q, kk23] at e; cases e) z
  · obtain ⟨mc, hns, hno⟩ := G.nl
    exact ⟨mc, hns.at' fun o e => B.kx _ _ (out e (by decide)) e, hno⟩
abbrev kBody (m1 : Str) (q1 q2 q3 p1 p2 p2' p3 pp1 pp2 pp3 : Pos) (kk1 kk2 kk3 : Nat) (as1 as2 as3 as4 as5 as6 : List Arg) (b1 b2 b3 b4 b5 b6 : List Stmt) (sc1 sc2 sc3 sc4 sc5 sc6 : Scope) : List Stmt :=
  [.Assign [.Name (Str.ofString "__module__") q1] (.Constant (.str m1) kk1 p1) pp1, .Assign [.Name (Str.ofString "__slots__") q2] (.List [.Constant (.str (Str.ofString "obj")) kk2 p2] p2') pp2,
      .FunctionDef (Str.ofString "__init__") ⟨[], as1, none, [], [], none, []⟩ b1 [] none [] sc1 none (Str.ofString "__init__") ⟨11, 8, 12, 26⟩, .FunctionDef (Str.ofString "__lt__") ⟨[], as2, none, [], [], none, []⟩ b2 [] none [] sc2 none (Str.ofString "__lt__") ⟨14, 8, 15, 49⟩,
      .FunctionDef (Str.ofString "__gt__") ⟨[], as3, none, [], [], none, []⟩ b3 [] none [] sc3 none (Str.ofString "__gt__") ⟨17, 8, 18, 49⟩, .FunctionDef (Str.ofString "__eq__") ⟨[], as4, none, [], [], none, []⟩ b4 [] none [] sc4 none (Str.ofString "__eq__") ⟨20, 8, 21, 50⟩,
      .FunctionDef (Str.ofString "__le__") ⟨[], as5, none, [], [], none, []⟩ b5 [] none [] sc5 none (Str.ofString "__le__") ⟨23, 8, 24, 50⟩, .FunctionDef (Str.ofString "__ge__") ⟨[], as6, none, [], [], none, []⟩ b6 [] none [] sc6 none (Str.ofString "__ge__") ⟨26, 8, 27, 50⟩,
      .Assign [.Name (Str.ofString "__hash__") q3] (.Constant .none kk3 p3) pp3]
theorem keep_np {ns P x : Addr} {h h2 : Heap} {o : Obj} (k : KpH [ns, P] h h2) (e : h.get? x = some o) (hn : x ≠ ns) (hP : x ≠ P) : h2.get? x = some o := k _ _ (fun m => by
  simp only [List.mem_cons, List.not_mem_nil, or_false] at m
  rcases m with m | m
  · exact hn m
  · exact hP m) e
section
variable {prog : Program} {w : World} {A : Around} {h₁ h : Heap} {g : Array GenState} {d : Drawn} {t : Nat} {os : OsState} {mg mb : Str → Option Value} {E : Value → Shared → Prop} {env : Env} {ns cc P : Addr} {Q : Flow → Shared → Prop}
theorem bodyK {c bm : Addr} {x1 x2 x3 : Int} {k1 k2 k3 : Tok} {v1 v2 v3 : Value} {m1 : Str} {q1 q2 q3 p1 p2 p2' p3 pp1 pp2 pp3 : Pos} {kk1 kk2 kk3 : Nat} {as1 as2 as3 as4 as5 as6 : List Arg} {b1 b2 b3 b4 b5 b6 : List Stmt} {sc1 sc2 sc3 sc4 sc5 sc6 : Scope}
    (B : KB h₁ ns cc P #[] #[⟨x1, .str (Str.ofString "__module__") k1, v1⟩, ⟨x2, .str (Str.ofString "__qualname__") k2, v2⟩, ⟨x3, .str (Str.ofString "__firstlineno__") k3, v3⟩] 3 h) (G : Gd w mg mb h₁) (hl : env.locals = ns) (hge : env.globals = mainGlobals) (hc : env.code = .ref cc)
    (hst : ∀ x ∈ ["__module__", "__slots__", "__init__", "__lt__", "__gt__", "__eq__", "__le__", "__ge__", "__hash__"].map Str.ofString, StoresTo env x)
    (hcl1 : closureFor sc1 env = pure []) (hcl2 : closureFor sc2 env = pure [(Str.ofString "mycmp", c)]) (hcl3 : closureFor sc3 env = pure [(Str.ofString "mycmp", c)]) (hcl4 : closureFor sc4 env = pure [(Str.ofString "mycmp", c)]) (hcl5 : closureFor sc5 env = pure [(Str.ofString "mycmp", c)]) (hcl6 : closureFor sc6 env = pure [(Str.ofString "mycmp", c)])
    (ha1 : annotationsOf (as1 ++ [] ++ [] ++ [] ++ []) env = []) (ha2 : annotationsOf (as2 ++ [] ++ [] ++ [] ++ []) env = []) (ha3 : annotationsOf (as3 ++ [] ++ [] ++ [] ++ []) env = []) (ha4 : annotationsOf (as4 ++ [] ++ [] ++ [] ++ []) env = []) (ha5 : annotationsOf (as5 ++ [] ++ [] ++ [] ++ []) env = []) (ha6 : annotationsOf (as6 ++ [] ++ [] ++ [] ++ []) env = [])
    (hd1 : docOf b1 = none) (hd2 : docOf b2 = none) (hd3 : docOf b3 = none) (hd4 : docOf b4 = none) (hd5 : docOf b5 = none) (hd6 : docOf b6 = none)
    (hsw1 : swapsWith (.Constant (.str m1) kk1 p1) (some (.Name (Str.ofString "__module__") q1)) pp1.line env = pure false) (hsw2 : swapsWith (.List [.Constant (.str (Str.ofString "obj")) kk2 p2] p2') (some (.Name (Str.ofString "__slots__") q2)) pp2.line env = pure false) (hsw3 : swapsWith (.Constant .none kk3 p3) (some (.Name (Str.ofString "__hash__") q3)) pp3.line env = pure false)
    (hbm : mg "__builtins__" = some (.ref bm)) (hbo : h₁.get? bm = some { cls := .type "module", dict := some builtinsNs }) (hb0 : bm ≠ builtinsNs) (hb23 : bm ≠ 23)
    (next : ∀ (h' : Heap) (k : Nat) (ps : Array Value) (z4 z5 z6 z7 z8 z9 z10 z11 : Int) (k4 k5 k6 k7 k8 k9 k10 k11 u1 u4 : Tok) (sl f1 f2 f3 f4 f5 f6 c1 c2 : Addr) (ct1 ct2 : Value), KB h₁ ns cc P ps #[⟨x1, .str (Str.ofString "__module__") k1, .str m1 u1⟩, ⟨x2, .str (Str.ofString "__qualname__") k2, v2⟩, ⟨x3, .str (Str.ofString "__firstlineno__") k3, v3⟩, ⟨z4, .str (Str.ofString "__slots__") k4, .ref sl⟩, ⟨z5, .str (Str.ofString "__init__") k5, .ref f1⟩, ⟨z6, .str (Str.ofString "__lt__") k6, .ref f2⟩, ⟨z7, .str (Str.ofString "__gt__") k7, .ref f3⟩, ⟨z8, .str (Str.ofString "__eq__") k8, .ref f4⟩, ⟨z9, .str (Str.ofString "__le__") k9, .ref f5⟩, ⟨z10, .str (Str.ofString "__ge__") k10, .ref f6⟩, ⟨z11, .str (Str.ofString "__hash__") k11, .none⟩] 11 h' →
      h'.get? sl = some { cls := .type "list", data := .seq #[.str (Str.ofString "obj") u4] } →
      h'.get? f1 = some (fnO (Str.ofString "__init__") (qualnameIn env (Str.ofString "__init__") (Str.ofString "__init__")) ⟨[], as1, none, [], [], none, []⟩ (.stmts b1) sc1 [] ((mg "__name__").getD .none) c1 ct1) → h'.CodeRec (.ref c1) (qualnameIn env (Str.ofString "__init__") (Str.ofString "__init__")) →
      h'.get? f2 = some (fnO (Str.ofString "__lt__") (qualnameIn env (Str.ofString "__lt__") (Str.ofString "__lt__")) ⟨[], as2, none, [], [], none, []⟩ (.stmts b2) sc2 [(Str.ofString "mycmp", c)] ((mg "__name__").getD .none) c2 ct2) → h'.CodeRec (.ref c2) (qualnameIn env (Str.ofString "__lt__") (Str.ofString "__lt__")) →
      (∃ o, h'.get? f3 = some o ∧ o.cls = .type "function") → (∃ o, h'.get? f4 = some o ∧ o.cls = .type "function") → (∃ o, h'.get? f5 = some o ∧ o.cls = .type "function") → (∃ o, h'.get? f6 = some o ∧ o.cls = .type "function") →
      Q .next ⟨h', g, d, k, os⟩) :
    wpAny (model prog w) A (execs (kBody m1 q1 q2 q3 p1 p2 p2' p3 pp1 pp2 pp3 kk1 kk2 kk3 as1 as2 as3 as4 as5 as6 b1 b2 b3 b4 b5 b6 sc1 sc2 sc3 sc4 sc5 sc6) env) Q E ⟨h, g, d, t, os⟩ := by
  have bmK : ∀ {ps es n h'}, KB h₁ ns cc P ps es n h' → h'.get? bm = some { cls := .type "module", dict := some builtinsNs } := fun {ps es n h'} B => B.kx _ _ (fun m => by
    simp only [List.mem_cons, List.not_mem_nil, or_false] at m
    rcases m with m | m | m
    · exact hb23 m
    · rw [m, B.n0] at hbo; cases hbo
    · rw [m, B.p0] at hbo; cases hbo) hbo
  refine kb_asg B hl (hst _ (by decide)) (by kernel_rfl) (fun z tk v => #[⟨x1, .str (Str.ofString "__module__") k1, v⟩, ⟨x2, .str (Str.ofString "__qualname__") k2, v2⟩, ⟨x3, .str (Str.ofString "__firstlineno__") k3, v3⟩]) 3 (fun z tk v => by kernel_rfl) (ev_str (Hd := [])) hsw1 fun v h1 z tk h2 t2 kp1 r1 B2 kn2 => ?_
  obtain ⟨u1, rfl⟩ := r1.str_inv
  refine kb_asg (P' := fun h' v => ∃ sl u, v = .ref sl ∧ h'.get? sl = some { cls := .type "list", data := .seq #[.str (Str.ofString "obj") u] }) B2 hl (hst _ (by decide)) (by kernel_rfl) (fun z tk v => #[⟨x1, .str (Str.ofString "__module__") k1, .str m1 u1⟩, ⟨x2, .str (Str.ofString "__qualname__") k2, v2⟩, ⟨x3, .str (Str.ofString "__firstlineno__") k3, v3⟩, ⟨z, .str (Str.ofString "__slots__") tk, v⟩]) 4 (fun z tk v => by kernel_rfl) ?_ hsw2 fun v h3 z4 k4 h4 t4 kp3 r3 B4 kn4 => ?_
  · intro s kb
    refine Gives.of fun Q E q => List_ (spliced_more (wpAny_Constant_str (spliced_none (wpAny_newObj_type (q _ _ _ (Kp.push _ _) ⟨_, _, rfl, Heap.get?_push_size _ rfl⟩) ?_))) rfl)
    show (1 : Nat) ≤ sizeLine; decide
  obtain ⟨sl, u4, rfl, hsl⟩ := r3
  refine kb_def (bm := bm) B4 hl (hst _ (by decide)) (by kernel_rfl) (fun z tk v => #[⟨x1, .str (Str.ofString "__module__") k1, .str m1 u1⟩, ⟨x2, .str (Str.ofString "__qualname__") k2, v2⟩, ⟨x3, .str (Str.ofString "__firstlineno__") k3, v3⟩, ⟨z4, .str (Str.ofString "__slots__") k4, .ref sl⟩, ⟨z, .str (Str.ofString "__init__") tk, v⟩]) 5 (fun z tk v => by kernel_rfl) ha1 hcl1 hge hc (by kernel_rfl) (B4.gd G).g hbm (bmK B4) hb0 hd1 fun f1 c1 ct1 z5 k5 h5 t5 B5 kn5 fn5 cn5 fo5 cr5 => ?_
  refine kb_def (bm := bm) B5 hl (hst _ (by decide)) (by kernel_rfl) (fun z tk v => #[⟨x1, .str (Str.ofString "__module__") k1, .str m1 u1⟩, ⟨x2, .str (Str.ofString "__qualname__") k2, v2⟩, ⟨x3, .str (Str.ofString "__firstlineno__") k3, v3⟩, ⟨z4, .str (Str.ofString "__slots__") k4, .ref sl⟩, ⟨z5, .str (Str.ofString "__init__") k5, .ref f1⟩, ⟨z, .str (Str.ofString "__lt__") tk, v⟩]) 6 (fun z tk v => by kernel_rfl) ha2 hcl2 hge hc (by kernel_rfl) (B5.gd G).g hbm (bmK B5) hb0 hd2 fun f2 c2 ct2 z6 k6 h6 t6 B6 kn6 fn6 cn6 fo6 cr6 => ?_
  refine kb_def (bm := bm) B6 hl (hst _ (by decide)) (by kernel_rfl) (fun z tk v => #[⟨x1, .str (Str.ofString "__module__") k1, .str m1 u1⟩, ⟨x2, .str (Str.ofString "__qualname__") k2, v2⟩, ⟨x3, .str (Str.ofString "__firstlineno__") k3, v3⟩, ⟨z4, .str (Str.ofString "__slots__") k4, .ref sl⟩, ⟨z5, .str (Str.ofString "__init__") k5, .ref f1⟩, ⟨z6, .str (Str.ofString "__lt__") k6, .ref f2⟩, ⟨z, .str (Str.ofString "__gt__") tk, v⟩]) 7 (fun z tk v => by kernel_rfl) ha3 hcl3 hge hc (by kernel_rfl) (B6.gd G).g hbm (bmK B6) hb0 hd3 fun f3 c3 ct3 z7 k7 h7 t7 B7 kn7 fn7 cn7 fo7 cr7 => ?_
  refine kb_def (bm := bm) B7 hl (hst _ (by decide)) (by kernel_rfl) (fun z tk v => #[⟨x1, .str (Str.ofString "__module__") k1, .str m1 u1⟩, ⟨x2, .str (Str.ofString "__qualname__") k2, v2⟩, ⟨x3, .str (Str.ofString "__firstlineno__") k3, v3⟩, ⟨z4, .str (Str.ofString "__slots__") k4, .ref sl⟩, ⟨z5, .str (Str.ofString "__init__") k5, .ref f1⟩, ⟨z6, .str (Str.ofString "__lt__") k6, .ref f2⟩, ⟨z7, .str (Str.ofString "__gt__") k7, .ref f3⟩, ⟨z, .str (Str.ofString "__eq__") tk, v⟩]) 8 (fun z tk v => by kernel_rfl) ha4 hcl4 hge hc (by kernel_rfl) (B7.gd G).g hbm (bmK B7) hb0 hd4 fun f4 c4 ct4 z8 k8 h8 t8 B8 kn8 fn8 cn8 fo8 cr8 => ?_
  refine kb_def (bm := bm) B8 hl (hst _ (by decide)) (by kernel_rfl) (fun z tk v => #[⟨x1, .str (Str.ofString "__module__") k1, .str m1 u1⟩, ⟨x2, .str (Str.ofString "__qualname__") k2, v2⟩, ⟨x3, .str (Str.ofString "__firstlineno__") k3, v3⟩, ⟨z4, .str (Str.ofString "__slots__") k4, .ref sl⟩, ⟨z5, .str (Str.ofString "__init__") k5, .ref f1⟩, ⟨z6, .str (Str.ofString "__lt__") k6, .ref f2⟩, ⟨z7, .str (Str.ofString "__gt__") k7, .ref f3⟩, ⟨z8, .str (Str.ofString "__eq__") k8, .ref f4⟩, ⟨z, .str (Str.ofString "__le__") tk, v⟩]) 9 (fun z tk v => by kernel_rfl) ha5 hcl5 hge hc (by kernel_rfl) (B8.gd G).g hbm (bmK B8) hb0 hd5 fun f5 c5 ct5 z9 k9 h9 t9 B9 kn9 fn9 cn9 fo9 cr9 => ?_
  refine kb_def (bm := bm) B9 hl (hst _ (by decide)) (by kernel_rfl) (fun z tk v => #[⟨x1, .str (Str.ofString "__module__") k1, .str m1 u1⟩, ⟨x2, .str (Str.ofString "__qualname__") k2, v2⟩, ⟨x3, .str (Str.ofString "__firstlineno__") k3, v3⟩, ⟨z4, .str (Str.ofString "__slots__") k4, .ref sl⟩, ⟨z5, .str (Str.ofString "__init__") k5, .ref f1⟩, ⟨z6, .str (Str.ofString "__lt__") k6, .ref f2⟩, ⟨z7, .str (Str.ofString "__gt__") k7, .ref f3⟩, ⟨z8, .str (Str.ofString "__eq__") k8, .ref f4⟩, ⟨z9, .str (Str.ofString "__le__") k9, .ref f5⟩, ⟨z, .str (Str.ofString "__ge__") tk, v⟩]) 10 (fun z tk v => by kernel_rfl) ha6 hcl6 hge hc (by kernel_rfl) (B9.gd G).g hbm (bmK B9) hb0 hd6 fun f6 c6 ct6 z10 k10 h10 t10 B10 kn10 fn10 cn10 fo10 cr10 => ?_
  refine kb_asg B10 hl (hst _ (by decide)) (by kernel_rfl) (fun z tk v => #[⟨x1, .str (Str.ofString "__module__") k1, .str m1 u1⟩, ⟨x2, .str (Str.ofString "__qualname__") k2, v2⟩, ⟨x3, .str (Str.ofString "__firstlineno__") k3, v3⟩, ⟨z4, .str (Str.ofString "__slots__") k4, .ref sl⟩, ⟨z5, .str (Str.ofString "__init__") k5, .ref f1⟩, ⟨z6, .str (Str.ofString "__lt__") k6, .ref f2⟩, ⟨z7, .str (Str.ofString "__gt__") k7, .ref f3⟩, ⟨z8, .str (Str.ofString "__eq__") k8, .ref f4⟩, ⟨z9, .str (Str.ofString "__le__") k9, .ref f5⟩, ⟨z10, .str (Str.ofString "__ge__") k10, .ref f6⟩, ⟨z, .str (Str.ofString "__hash__") tk, v⟩]) 11 (fun z tk v => by kernel_rfl) (ev_none (Hd := [])) hsw3 fun v h11 z11 k11 h12 t12 kp11 r11 B12 kn12 => ?_
  obtain rfl : v = .none := by obtain ⟨_, q⟩ := r11; cases q; rfl
  have l10 : KpH [ns, P] h10 h12 := fun b o n e => kn12 b o (fun m => n (List.mem_singleton.mp m ▸ .head _)) (kp11 b o e)
  have l9 := KpH.trans kn10 l10
  have l8 := KpH.trans kn9 l9
  have l7 := KpH.trans kn8 l8
  have l6 := KpH.trans kn7 l7
  have l5 := KpH.trans kn6 l6
  have l4 := KpH.trans kn5 l5
  have nn : ∀ {ps es n h' x o}, KB h₁ ns cc P ps es n h' → h'.get? x = none ∨ (h'.get? x = some o ∧ (∀ es n, o ≠ dicO es n) ∧ ∀ ps, o ≠ tableObj ps) → x ≠ ns ∧ x ≠ P := fun {ps es n h' x o} B q => by
    refine ⟨fun e => ?_, fun e => ?_⟩
    · rcases q with q | ⟨q, q1, q2⟩
      · rw [e, B.dic] at q; cases q
      · rw [e, B.dic] at q; cases q; exact q1 _ _ rfl
    · rcases q with q | ⟨q, q1, q2⟩
      · rw [e, B.cod.get] at q; cases q
      · rw [e, B.cod.get] at q; cases q; exact q2 _ rfl
  have cr : ∀ {h' h'' : Heap} {c' : Addr} {q : Str}, h'.CodeRec (.ref c') q → KpH [ns, P] h' h'' → c' ≠ ns → c' ≠ P → h''.CodeRec (.ref c') q := fun {h' h'' c' q} r k n1 n2 => by
    obtain ⟨c0, o, vs, tq, e, go, r1, r2⟩ := r
    cases e
    exact ⟨_, o, vs, tq, rfl, keep_np k go n1 n2, r1, r2⟩
  obtain ⟨a1, b1'⟩ := nn (o := default) B4 (.inl fn5)
  obtain ⟨a2, b2'⟩ := nn (o := default) B5 (.inl fn6)
  obtain ⟨a3, b3'⟩ := nn (o := default) B6 (.inl fn7)
  obtain ⟨a4, b4'⟩ := nn (o := default) B7 (.inl fn8)
  obtain ⟨a5, b5'⟩ := nn (o := default) B8 (.inl fn9)
  obtain ⟨a6, b6'⟩ := nn (o := default) B9 (.inl fn10)
  obtain ⟨d1, e1⟩ := nn (o := default) B4 (.inl cn5)
  obtain ⟨d2, e2⟩ := nn (o := default) B5 (.inl cn6)
  have hsl4 : h4.get? sl = some { cls := .type "list", data := .seq #[.str (Str.ofString "obj") u4] } := kn4 _ _ (fun m => by
    have z := (B2.grow kp3).dic
    rw [← List.mem_singleton.mp m, hsl] at z; simp at z) hsl
  obtain ⟨s1, s2⟩ := nn (o := { cls := .type "list", data := .seq #[.str (Str.ofString "obj") u4] }) B4 (.inr ⟨hsl4, (fun _ _ z => by simp at z), (fun _ z => by simp [tableObj] at z)⟩)
  exact st_nil (next h12 t12 _ z4 z5 z6 z7 z8 z9 z10 z11 k4 k5 k6 k7 k8 k9 k10 k11 u1 u4 sl f1 f2 f3 f4 f5 f6 c1 c2 ct1 ct2 B12 (keep_np l4 hsl4 s1 s2) (keep_np l5 fo5 a1 b1') (cr cr5 l5 d1 e1) (keep_np l6 fo6 a2 b2') (cr cr6 l6 d2 e2)
    ⟨_, keep_np l7 fo7 a3 b3', rfl⟩ ⟨_, keep_np l8 fo8 a4 b4', rfl⟩ ⟨_, keep_np l9 fo9 a5 b5', rfl⟩ ⟨_, keep_np l10 fo10 a6 b6', rfl⟩)
end
end Mine
end
section
set_option maxRecDepth 100000
namespace Mine
open PySem PySem.W PySem.W.X PySem.Calls PyProof.Rows
set_option maxHeartbeats 4000000
theorem lk_tga : typeLookup (.type "type") "__getattribute__" = pure (some (.builtin "type.__getattribute__")) := by kernel_rfl
theorem ty_ty : typeOf (.type "type") = pure (.type "type") := by kernel_rfl
theorem bs_tga : bindSpecial (.builtin "type.__getattribute__") (.type "type") = pure (.builtin "type.__getattribute__", [.type "type"]) := by kernel_rfl
theorem lk_dgi : typeLookup (.type "dict") "__getitem__" = pure (some (.builtin "dict.__getitem__")) := by kernel_rfl
section
variable {prog : Program} {w : World} {A : Around} {h₀ h : Heap} {g : Array GenState} {d : Drawn} {t : Nat} {os : OsState} {mg mb : Str → Option Value}
theorem kb_get {env : Env} {ns cc P : Addr} {ps : Array Value} {es : Array DictEntry} {n : Nat} {h₁ : Heap} {x : Str} {r : Option Value} {Q : Option Value → Shared → Prop} {E : Value → Shared → Prop} (B : KB h₁ ns cc P ps es n h) (hl : env.locals = ns) (e : nsLook x (dicO es n) = pure r) (q : Q r ⟨h, g, d, t, os⟩) : wpAny (model prog w) A (localGet env x) Q E ⟨h, g, d, t, os⟩ := by
  unfold localGet
  rw [hl]
  refine wpAny_bind (wpAny_load B.dic ?_)
  refine m_ite_t rfl ?_
  exact m_nsGet B.dic e q
theorem m_prep {n : Nat} (R : Rm n A) {Q : Option Value → Shared → Prop} {E : Value → Shared → Prop} (q : ∀ b h' k, Mem h h' [] [(b, { cls := .type "builtin_function_or_method", data := .fields #[.builtin "type.__prepare__", .type "type"] })] → Q (some (.ref b)) ⟨h', g, d, k, os⟩) :
    wpAny (model prog w) A (getAttr? (.type "type") (Str.ofString "__prepare__")) Q E ⟨h, g, d, t, os⟩ := by
  unfold getAttr? getAttrBy? getAttrBy
  refine wpAny_bind (wpAny_mkText (wpAny_bind (wpAny_attempt (wpAny_holding (wpAny_bind (wpAny_of_eq ty_ty (wpAny_bind (wpAny_of_eq lk_tga ?_))))))))
  show wpAny _ _ (getAttrByItsOwn (.type "type") (.str (Str.ofString "__prepare__") t) (.type "type") (.builtin "type.__getattribute__") false false) _ _ _
  unfold getAttrByItsOwn hookBefore callGetattribute boundAndCalled
  refine wpAny_bind (wpAny_of_eq (show (if onTheHeap (.type "type") then typeLookup (.type "type") "__getattr__" else pure none) = pure none from rfl) ?_)
  refine wpAny_bind (wpAny_attempt (wpAny_holding ?_))
  show wpAny _ _ (bindSpecial (.builtin "type.__getattribute__") (.type "type") >>= _) _ _ _
  refine wpAny_bind (wpAny_of_eq bs_tga ?_)
  exact wp_AX R (prep_x fun b h' k D => wpAny_pure (wpAny_pure (q b h' k D)))

theorem buildK {env : Env} {m1 : Str} {q1 q2 q3 p1 p2 p2' p3 pp1 pp2 pp3 : Pos} {kk1 kk2 kk3 : Nat} {as1 as2 as3 as4 as5 as6 : List Arg} {b1 b2 b3 b4 b5 b6 : List Stmt} {sc1 sc2 sc3 sc4 sc5 sc6 : Scope} {qual : Str} {scope : Scope} {fl : Nat} {pos : Pos} {n : Nat} (R : Rm (n + 8) A) (G : Gd w mg mb h) (h23 : Cod h 27 23 #[]) (hg : env.globals = mainGlobals) (hc : env.code = .ref 27)
    (hs1 : scope.names.lookup (Str.ofString "__class__") = none) (hs2 : scope.names.lookup (Str.ofString "__classdict__") = none) {c : Addr} (hclo : closureFor scope env = pure [(Str.ofString "mycmp", c)])
    (hln : ∀ env : Env, env.scope = scope → loadName env (Str.ofString "__name__") = (localGet env (Str.ofString "__name__") >>= fun r => match r with | some v => pure v | none => loadGlobal env (Str.ofString "__name__")))
    (hst : ∀ env : Env, env.scope = scope → ∀ x ∈ ["__module__", "__slots__", "__init__", "__lt__", "__gt__", "__eq__", "__le__", "__ge__", "__hash__", "__qualname__", "__firstlineno__", "__static_attributes__"].map Str.ofString, StoresTo env x)
    (hcl1 : ∀ env : Env, env.cells = [(Str.ofString "mycmp", c)] → closureFor sc1 env = pure []) (hcl2 : ∀ env : Env, env.cells = [(Str.ofString "mycmp", c)] → closureFor sc2 env = pure [(Str.ofString "mycmp", c)]) (hcl3 : ∀ env : Env, env.cells = [(Str.ofString "mycmp", c)] → closureFor sc3 env = pure [(Str.ofString "mycmp", c)]) (hcl4 : ∀ env : Env, env.cells = [(Str.ofString "mycmp", c)] → closureFor sc4 env = pure [(Str.ofString "mycmp", c)]) (hcl5 : ∀ env : Env, env.cells = [(Str.ofString "mycmp", c)] → closureFor sc5 env = pure [(Str.ofString "mycmp", c)]) (hcl6 : ∀ env : Env, env.cells = [(Str.ofString "mycmp", c)] → closureFor sc6 env = pure [(Str.ofString "mycmp", c)])
    (ha1 : ∀ env, annotationsOf (as1 ++ [] ++ [] ++ [] ++ []) env = []) (ha2 : ∀ env, annotationsOf (as2 ++ [] ++ [] ++ [] ++ []) env = []) (ha3 : ∀ env, annotationsOf (as3 ++ [] ++ [] ++ [] ++ []) env = []) (ha4 : ∀ env, annotationsOf (as4 ++ [] ++ [] ++ [] ++ []) env = []) (ha5 : ∀ env, annotationsOf (as5 ++ [] ++ [] ++ [] ++ []) env = []) (ha6 : ∀ env, annotationsOf (as6 ++ [] ++ [] ++ [] ++ []) env = [])
    (hd1 : docOf b1 = none) (hd2 : docOf b2 = none) (hd3 : docOf b3 = none) (hd4 : docOf b4 = none) (hd5 : docOf b5 = none) (hd6 : docOf b6 = none)
    (hsw1 : ∀ env, swapsWith (.Constant (.str m1) kk1 p1) (some (.Name (Str.ofString "__module__") q1)) pp1.line env = pure false) (hsw2 : ∀ env, swapsWith (.List [.Constant (.str (Str.ofString "obj")) kk2 p2] p2') (some (.Name (Str.ofString "__slots__") q2)) pp2.line env = pure false) (hsw3 : ∀ env, swapsWith (.Constant .none kk3 p3) (some (.Name (Str.ofString "__hash__") q3)) pp3.line env = pure false)
    (hann : hasAnns (kBody m1 q1 q2 q3 p1 p2 p2' p3 pp1 pp2 pp3 kk1 kk2 kk3 as1 as2 as3 as4 as5 as6 b1 b2 b3 b4 b5 b6 sc1 sc2 sc3 sc4 sc5 sc6) = false) (hdoc : docOf (kBody m1 q1 q2 q3 p1 p2 p2' p3 pp1 pp2 pp3 kk1 kk2 kk3 as1 as2 as3 as4 as5 as6 b1 b2 b3 b4 b5 b6 sc1 sc2 sc3 sc4 sc5 sc6) = none)
    {nv : Value} (hnv : mg (Str.ofString "__name__") = some nv) {bm : Addr} (hbm : mg "__builtins__" = some (.ref bm)) (hbo : h.get? bm = some { cls := .type "module", dict := some builtinsNs }) (hb0 : bm ≠ builtinsNs) (hb23 : bm ≠ 23) (hqual : qual = Str.ofString "cmp_to_key.<locals>.K") (hqn : ∀ env : Env, env.scope = scope → ∀ x ∈ ["__init__", "__lt__"].map Str.ofString, qualnameIn env x x = env.qual ++ x) {Q : Value → Shared → Prop} {E : Value → Shared → Prop}
    (next : ∀ (a ns md bt sl f1 f2 c1 c2 : Addr) (ct1 ct2 : Value) (h' : Heap) (k : Nat) (n : Nat) (tt t0 t3 : Tok) (es : Array DictEntry), KpH [23] h h' → (∃ ps', h'.get? 23 = some (tableObj ps')) → (∀ x o, h.get? x = some o → x ≠ 23 → x ≠ ns) →
     h'.get? a = some { cls := .type "type", data := .cls { name := Str.ofString "K", bases := [.type "object"], mro := [.ref a, .type "object"], ns := ns, qualname := qual, hasDict := false, slotNames := [Str.ofString "obj"] }, slots := #[some (.ref bt), none, some (.str (Str.ofString "K") t0), some (.str qual t3), some (.builtin "object.__new__"), some (.bool false)] } →
     h'.get? ns = some (dicO es n) → nsLook (Str.ofString "__init__") (dicO es n) = pure (some (.ref f1)) → nsLook (Str.ofString "__lt__") (dicO es n) = pure (some (.ref f2)) → nsLook (Str.ofString "obj") (dicO es n) = pure (some (.ref md)) → (∀ x ∈ ["__new__", "__getattribute__", "__setattr__", "__del__", "__dict__", "__weakref__", "__getattr__", "__class__"].map Str.ofString, nsLook x (dicO es n) = pure none) →
     h'.get? md = some { cls := .type "member_descriptor", data := .fields #[.str (Str.ofString "obj") tt, .ref a, .builtin "proto.slot", .builtin "proto.slot#set", rawInt 0] } →
     h'.get? f1 = some (fnO (Str.ofString "__init__") (qual ++ Str.ofString "." ++ Str.ofString "__init__") ⟨[], as1, none, [], [], none, []⟩ (.stmts b1) sc1 [] ((mg "__name__").getD .none) c1 ct1) → h'.CodeRec (.ref c1) (qual ++ Str.ofString "." ++ Str.ofString "__init__") →
     h'.get? f2 = some (fnO (Str.ofString "__lt__") (qual ++ Str.ofString "." ++ Str.ofString "__lt__") ⟨[], as2, none, [], [], none, []⟩ (.stmts b2) sc2 [(Str.ofString "mycmp", c)] ((mg "__name__").getD .none) c2 ct2) → h'.CodeRec (.ref c2) (qual ++ Str.ofString "." ++ Str.ofString "__lt__") → Q (.ref a) ⟨h', g, d, k, os⟩) :
    wpAny (model prog w) A (buildClass (Str.ofString "K") qual [.type "object"] [] (kBody m1 q1 q2 q3 p1 p2 p2' p3 pp1 pp2 pp3 kk1 kk2 kk3 as1 as2 as3 as4 as5 as6 b1 b2 b3 b4 b5 b6 sc1 sc2 sc3 sc4 sc5 sc6) scope [Str.ofString "obj"] fl env pos none) Q E ⟨h, g, d, t, os⟩ := by
  have hbig : (1000 : Nat) ≤ sizeLine := by decide
  have D0 := Mem.start h
  unfold buildClass
  refine wpAny_bind (m_newObj D0 rfl (by show (1 : Nat) ≤ sizeLine; decide) fun bt h1 D1 => ?_)
  apply wpAny_bind
  apply m_for1
  apply wpAny_bind
  apply wpAny_of_eq is_obj
  apply m_ite_t rfl
  refine wpAny_ite_false (by kernel_rfl) ?_
  refine wpAny_pure ?_
  refine wpAny_bind (wpAny_of_eq ty_obj ?_)
  refine wpAny_bind (wpAny_of_eq (a := true) rfl ?_)
  refine m_ite_t rfl ?_
  refine wpAny_bind (m_for1 ?_)
  refine wpAny_bind (wpAny_of_eq ty_obj ?_)
  refine wpAny_bind (wpAny_of_eq sub_ty ?_)
  refine m_ite_t rfl ?_
  refine wpAny_pure ?_
  refine wpAny_bind (wpAny_mkText ?_)
  refine wpAny_bind (wpAny_pure ?_)
  refine wpAny_holding ?_
  refine wpAny_bind (m_prep R fun pb h2 k2 D2 => ?_)
  have kp1 := mem_kp D1
  have kp2 := mem_kp D2
  have bt1 := D1.at 0 _ _ rfl
  refine wpAny_bind (wp_AX R (prepcall_x (D2.at 0 _ _ rfl) (kp2 _ _ bt1) fun ns h3 k3 D3 => ?_))
  have kp3 := mem_kp D3
  have k03 := kp2.trans kp3
  have G1 := G.up kp1
  have h231 := h23.kp kp1
  have hbo1 := kp1 _ _ hbo
  have ns3 := D3.at 0 _ _ rfl
  have ns2 := (D3.nw _ (.head _)).2
  have G3 := G1.up k03
  have n0 : h1.get? ns = none := none_of kp2 ns2
  have hmod : (ns == sysModules) = false := beq_eq_false_iff_ne.mpr fun e => by
    have : ∃ o, h1.get? sysModules = some o := ⟨_, G1.X 1 _ rfl⟩
    obtain ⟨o, ho⟩ := this
    rw [← e, n0] at ho; cases ho
  refine wpAny_bind ?_
  unfold notTheModulesDict
  refine m_ite_f hmod (wpAny_pure ?_)
  refine wpAny_bind (m_special ns3 rfl lk_dgi ?_)
  refine m_ite_f rfl ?_
  refine wpAny_holding ?_
  refine m_ite_f (by rw [hs1]; rfl) ?_
  refine wpAny_bind (wpAny_pure ?_)
  refine m_ite_f (by rw [hs2]; rfl) ?_
  refine wpAny_bind (wpAny_pure ?_)
  have C3 := h231.kp k03
  refine wpAny_bind (m_classCode hc C3 rfl fun cc P h4 k4 kH4 t4 c0 p0 C4 => ?_)
  have kX4 : KpH [23] h1 h4 := fun b o n e => kH4 b o n (k03 b o e)
  have G4g : h4.Ns mainGlobals mg := G3.g.at' fun o e => kH4 _ _ (by decide) e
  have bm4 : h4.get? bm = some { cls := .type "module", dict := some builtinsNs } := kH4 _ _ (fun m => by have := h231.get; rw [← List.mem_singleton.mp m, hbo1] at this; cases this) (k03 _ _ hbo1)
  refine wpAny_bind ?_
  rw [hg]
  refine wpAny_builtinsFor G4g hbm hb0 bm4 rfl rfl rfl ?_
  have B4 : KB h1 ns cc P #[] #[] 0 h4 := ⟨fun b o m e => kX4 b o (fun q => m (List.mem_singleton.mp q ▸ .head _)) e, kH4 _ _ (fun m => by have := (h231.kp k03).get; rw [← List.mem_singleton.mp m, ns3] at this; cases this) ns3, C4, n0, none_of k03 p0, none_of k03 c0, t4, ⟨_, h231.get⟩⟩
  refine wpAny_bind ?_
  unfold newBodyFrame
  refine wpAny_bind (wpAny_nsGet G4g (wpAny_alloc ?_))
  refine wpAny_bind (wpAny_of_eq hclo ?_)
  refine wpAny_holding ?_
  have kp5 := Kp.push h4 { cls := .type "frame", slots := #[some (.ref cc), some (.ref mainGlobals), some (.ref ns), none, some ((mg (Str.ofString "__name__")).getD .none), none, some (.ref builtinsNs)] }
  have B5 := B4.grow kp5
  have G5g := G4g.keeps kp5
  have bm5 := kp5 _ _ bm4
  have G4b : h4.Ns builtinsNs mb := G3.b.at' fun o e => kH4 _ _ (by decide) e
  have nl5 : Heap.NoLimit _ := (show h4.NoLimit from by
    obtain ⟨mc, hns, hno⟩ := G3.nl
    exact ⟨mc, hns.at' fun o e => kH4 _ _ (by decide) e, hno⟩).keeps kp5
  generalize hh5 : h4.push _ = h5 at *
  generalize hcenv : ({ scope := scope, locals := ns, globals := mainGlobals, cells := _, qual := _, code := _, frame := _, builtins := _ } : Env) = cenv
  have hsc : cenv.scope = scope := by rw [← hcenv]
  have hlo : cenv.locals = ns := by rw [← hcenv]
  have hgl : cenv.globals = mainGlobals := by rw [← hcenv]
  have hcd : cenv.code = .ref cc := by rw [← hcenv]
  have hce : cenv.cells = [(Str.ofString "mycmp", c)] := by rw [← hcenv]; rfl
  have st := hst cenv hsc
  refine wpAny_bind (wpAny_enterFrame nl5 R.room ?_)
  refine wpAny_bind (wpAny_onRaise ?_)
  refine wpAny_bind ?_
  rw [hln cenv hsc]
  refine wpAny_bind (kb_get B5 hlo (r := none) (by kernel_rfl) ?_)
  refine loadGlobal_global (mg := mg) (hgl ▸ G5g) hnv ?_
  refine wpAny_bind (kb_store B5 hlo (st _ (by decide)) (by kernel_rfl) (fun z tk => #[⟨z, .str (Str.ofString "__module__") tk, nv⟩]) 1 (fun z tk => by kernel_rfl) fun z1 k1 h6 t6 B6 _ => ?_)
  refine wpAny_bind (wpAny_mkText ?_)
  refine wpAny_bind (kb_store B6 hlo (st _ (by decide)) (by kernel_rfl) (fun z tk => #[⟨z1, .str (Str.ofString "__module__") k1, nv⟩, ⟨z, .str (Str.ofString "__qualname__") tk, .str qual t6⟩]) 2 (fun z tk => by kernel_rfl) fun z2 kk2 h7 t7 B7 _ => ?_)
  refine wpAny_bind (wpAny_mkInt' ?_)
  refine wpAny_bind (kb_store B7 hlo (st _ (by decide)) (by kernel_rfl) (fun z tk => #[⟨z1, .str (Str.ofString "__module__") k1, nv⟩, ⟨z2, .str (Str.ofString "__qualname__") kk2, .str qual t6⟩, ⟨z, .str (Str.ofString "__firstlineno__") tk, .int fl t7⟩]) 3 (fun z tk => by kernel_rfl) fun z3 kk3 h8 t8 B8 _ => ?_)
  refine wpAny_pure ?_
  refine wpAny_bind (wpAny_run (codeAny_body hann hdoc ?_))
  refine bodyK (bm := bm) B8 G1 hlo hgl hcd (fun x hx => st x (by obtain ⟨y, hy, rfl⟩ := List.mem_map.mp hx; exact List.mem_map.mpr ⟨y, List.mem_append_left ["__qualname__", "__firstlineno__", "__static_attributes__"] hy, rfl⟩)) (hcl1 _ hce) (hcl2 _ hce) (hcl3 _ hce) (hcl4 _ hce) (hcl5 _ hce) (hcl6 _ hce) (ha1 _) (ha2 _) (ha3 _) (ha4 _) (ha5 _) (ha6 _) hd1 hd2 hd3 hd4 hd5 hd6 (hsw1 _) (hsw2 _) (hsw3 _) hbm hbo1 hb0 hb23 ?_
  intro h9 t9 ps9 z4 z5 z6 z7 z8 z9 z10 z11 k4' k5 k6 k7 k8 k9 k10 k11 u1 u4 sl f1 f2 f3 f4 f5 f6 c1 c2 ct1 ct2 B9 hsl hf1 hr1 hf2 hr2 hf3 hf4 hf5 hf6
  refine wpAny_bind (wpAny_onRaise ?_)
  refine wpAny_bind (wpAny_mkStrs fun fs => ?_)
  refine wpAny_bind (wpAny_newTextTuple ?_)
  have kpt := Kp.push h9 { cls := .type "tuple", data := .seq fs.toArray }
  have stt : (h9.push { cls := .type "tuple", data := .seq fs.toArray }).get? h9.objs.size = some { cls := .type "tuple", data := .seq fs.toArray } := Heap.get?_push_size _ rfl
  have st0 : h9.get? h9.objs.size = none := fresh_of (Kp.refl _) (Nat.le_refl _)
  refine wpAny_bind (kb_store (B9.grow kpt) hlo (st _ (by decide)) (by kernel_rfl) (fun z tk => clsEs z1 z2 z3 z4 z5 z6 z7 z8 z9 z10 z11 z k1 kk2 kk3 k4' k5 k6 k7 k8 k9 k10 k11 tk (.str m1 u1) (.str qual t6) (.int fl t7) sl f1 f2 f3 f4 f5 f6 h9.objs.size) 12 (fun z tk => by kernel_rfl) fun z12 k12 h10 t10 B10 kn10 => ?_)
  refine wpAny_pure ?_
  refine m_ite_f rfl ?_
  have bt10 : h10.get? bt = some { cls := .type "tuple", data := .seq #[.type "object"] } := B10.kx _ _ (fun m => by
    simp only [List.mem_cons, List.not_mem_nil, or_false] at m
    rcases m with m | m | m
    · have := h231.get; rw [← m, bt1] at this; simp [tableObj] at this
    · rw [m, n0] at bt1; cases bt1
    · rw [m, B10.p0] at bt1; cases bt1) bt1
  have sl9 : h9.get? ns = some _ := B9.dic
  have up : ∀ {x : Addr} {o : Obj}, h9.get? x = some o → (∀ es n, o ≠ dicO es n) → h10.get? x = some o := fun {x o} e n => kn10 _ _ (fun m => by
    have z := (B9.grow kpt).dic
    rw [← List.mem_singleton.mp m, kpt _ _ e] at z
    exact n _ _ (Option.some.inj z)) (kpt _ _ e)
  obtain ⟨o3, hf3, hc3⟩ := hf3
  obtain ⟨o4, hf4, hc4⟩ := hf4
  obtain ⟨o5, hf5, hc5⟩ := hf5
  obtain ⟨o6, hf6, hc6⟩ := hf6
  have nfn : ∀ {o : Obj}, o.cls = .type "function" → ∀ es n, o ≠ dicO es n := fun {o} e es n q => by rw [q] at e; simp at e
  have st10 : h10.get? h9.objs.size = some { cls := .type "tuple", data := .seq fs.toArray } := kn10 _ _ (fun m => by rw [List.mem_singleton.mp m, sl9] at st0; cases st0) stt
  refine wpAny_bind (typecall ?_)
  subst hqual
  refine wpAny_mono (typenew (Q := fun fin s' => ∃ a, fin = .done (.ret (.ref a)) ∧ (∃ o, s'.heap.get? a = some o ∧ o.cls = .type "type") ∧ Q (.ref a) s') (E := fun _ _ => False) bt10 B10.dic (up hsl (fun _ _ q => by simp at q)) (up hf1 (nfn rfl)) rfl (up hf2 (nfn rfl)) rfl (up hf3 (nfn hc3)) hc3 (up hf4 (nfn hc4)) hc4 (up hf5 (nfn hc5)) hc5 (up hf6 (nfn hc6)) hc6 st10 rfl hmod (nr := n + 3) ((R.le (m := n + 8) (Nat.le_refl _)).in1.in1) (B10.gd G1).X rfl ?_) (fun fin s' q => let ⟨a, e, ho, q⟩ := q; ⟨a, e, ho, wpAny_pure q⟩) fun _ _ z => z
  intro a nsk md h' k tt x13 k13 x14 k14 kpf ha0 hnk0 ha hnsk hmd
  refine ⟨a, rfl, ⟨_, ha, rfl⟩, ?_⟩
  have hcq : cenv.qual = Str.ofString "cmp_to_key.<locals>.K" ++ Str.ofString "." := by rw [← hcenv]
  have cr10 : ∀ {c' : Addr} {q : Str}, h9.CodeRec (.ref c') q → h'.CodeRec (.ref c') q := fun {c' q} r => by
    obtain ⟨c0, o, vs, tq, e, go, r1, r2⟩ := r
    cases e
    exact ⟨_, o, vs, tq, rfl, kpf _ _ (up go fun _ _ z => by rw [z] at r1; cases r1), r1, r2⟩
  rw [hqn cenv hsc (Str.ofString "__init__") (by decide), hcq] at hf1 hr1
  rw [hqn cenv hsc (Str.ofString "__lt__") (by decide), hcq] at hf2 hr2
  have old : ∀ {b : Addr} {o : Obj}, h.get? b = some o → b ≠ 23 → b ∉ [23, ns, P] := fun {b o} e n m => by
    simp only [List.mem_cons, List.not_mem_nil, or_false] at m
    rcases m with m | m | m
    · exact n m
    · rw [← m, kp1 _ _ e] at n0; cases n0
    · have := B10.p0
      rw [← m, kp1 _ _ e] at this; cases this
  refine next a nsk md bt sl f1 f2 c1 c2 ct1 ct2 h' k 3 tt _ _ _ (fun b o n e => kpf _ _ (B10.kx _ _ (old e (fun q => n (q ▸ .head _))) (kp1 _ _ e))) (let ⟨p, e⟩ := B10.t23; ⟨p, kpf _ _ e⟩) (fun x o e n => ?_) ha hnsk (by kernel_rfl) (by kernel_rfl) (by kernel_rfl) (fun x hx => ?_) hmd (kpf _ _ (up hf1 (nfn rfl))) (cr10 hr1) (kpf _ _ (up hf2 (nfn rfl))) (cr10 hr2)
  · intro q
    rw [← q, B10.kx _ _ (old e n) (kp1 _ _ e)] at hnk0; cases hnk0
  · simp only [List.map_cons, List.map_nil, List.mem_cons, List.not_mem_nil, or_false] at hx
    rcases hx with rfl | rfl | rfl | rfl | rfl | rfl | rfl | rfl <;> kernel_rfl
end
end Mine
end
section
set_option maxRecDepth 100000
namespace Mine
open PySem PySem.W PySem.W.X PySem.Calls PyProof.Rows
set_option maxHeartbeats 4000000
abbrev initA (p q : Pos) : List Arg := [⟨Str.ofString "self", none, p⟩, ⟨Str.ofString "obj", none, q⟩]
abbrev initB (p1 p2 p3 p4 : Pos) : List Stmt := [.Assign [.Attribute (.Name (Str.ofString "self") p1) (Str.ofString "obj") p2] (.Name (Str.ofString "obj") p3) p4]
abbrev initS : Scope := { kind := .function, names := [(Str.ofString "self", .local), (Str.ofString "obj", .local)], isGenerator := false, isCoroutine := false }
abbrev ltA (p q : Pos) : List Arg := [⟨Str.ofString "self", none, p⟩, ⟨Str.ofString "other", none, q⟩]
abbrev ltB (p1 p2 p3 p4 p5 p6 p7 p8 p9 : Pos) : List Stmt := [.Return (some (.Compare (.Call (.Name (Str.ofString "mycmp") p1) [.Attribute (.Name (Str.ofString "self") p2) (Str.ofString "obj") p3, .Attribute (.Name (Str.ofString "other") p4) (Str.ofString "obj") p5] [] p6) [.Lt] [.Constant (.int 0) 0 p7] p8)) p9]
abbrev ltS : Scope := { kind := .function, names := [(Str.ofString "self", .local), (Str.ofString "other", .local), (Str.ofString "mycmp", .free)], isGenerator := false, isCoroutine := false }
abbrev clsK (a ns bt : Addr) (t0 t3 : Tok) : Obj := { cls := .type "type", data := .cls { name := Str.ofString "K", bases := [.type "object"], mro := [.ref a, .type "object"], ns := ns, qualname := Str.ofString "cmp_to_key.<locals>.K", hasDict := false, slotNames := [Str.ofString "obj"] }, slots := #[some (.ref bt), none, some (.str (Str.ofString "K") t0), some (.str (Str.ofString "cmp_to_key.<locals>.K") t3), some (.builtin "object.__new__"), some (.bool false)] }
abbrev memO (a : Addr) (tt : Tok) : Obj := { cls := .type "member_descriptor", data := .fields #[.str (Str.ofString "obj") tt, .ref a, .builtin "proto.slot", .builtin "proto.slot#set", rawInt 0] }
/-- the class K, over the comparison fn -/
structure KDat where
  ns : Addr
  md : Addr
  bt : Addr
  f1 : Addr
  f2 : Addr
  c1 : Addr
  c2 : Addr
  cm : Addr
  ct1 : Value
  ct2 : Value
  pm : Value
  n : Nat
  tt : Tok
  t0 : Tok
  t3 : Tok
  es : Array DictEntry
  q1 : Str
  q2 : Str
  pa : Pos
  pb : Pos
  r1 : Pos
  r2 : Pos
  r3 : Pos
  r4 : Pos
  pc : Pos
  pd : Pos
  s1 : Pos
  s2 : Pos
  s3 : Pos
  s4 : Pos
  s5 : Pos
  s6 : Pos
  s7 : Pos
  s8 : Pos
  s9 : Pos
structure KCls (K : KDat) (fn : Addr) (h : Heap) (a : Addr) : Prop where
  cls : h.get? a = some (clsK a K.ns K.bt K.t0 K.t3)
  ns : h.get? K.ns = some (dicO K.es K.n)
  l1 : nsLook (Str.ofString "__init__") (dicO K.es K.n) = pure (some (.ref K.f1))
  l2 : nsLook (Str.ofString "__lt__") (dicO K.es K.n) = pure (some (.ref K.f2))
  l3 : nsLook (Str.ofString "obj") (dicO K.es K.n) = pure (some (.ref K.md))
  l4 : ∀ x ∈ ["__new__", "__getattribute__", "__setattr__", "__del__", "__dict__", "__weakref__", "__getattr__", "__class__"].map Str.ofString, nsLook x (dicO K.es K.n) = pure none
  md : h.get? K.md = some (memO a K.tt)
  f1 : h.get? K.f1 = some (fnO (Str.ofString "__init__") K.q1 ⟨[], initA K.pa K.pb, none, [], [], none, []⟩ (.stmts (initB K.r1 K.r2 K.r3 K.r4)) initS [] K.pm K.c1 K.ct1)
  g1 : h.CodeRec (.ref K.c1) K.q1
  f2 : h.get? K.f2 = some (fnO (Str.ofString "__lt__") K.q2 ⟨[], ltA K.pc K.pd, none, [], [], none, []⟩ (.stmts (ltB K.s1 K.s2 K.s3 K.s4 K.s5 K.s6 K.s7 K.s8 K.s9)) ltS [(Str.ofString "mycmp", K.cm)] K.pm K.c2 K.ct2)
  g2 : h.CodeRec (.ref K.c2) K.q2
  cm : h.IsCell K.cm (some (.ref fn))
theorem KCls.up {K : KDat} {fn : Addr} {h h' : Heap} {a : Addr} (x : KCls K fn h a) (k : Kp h h') : KCls K fn h' a :=
  ⟨k _ _ x.cls, k _ _ x.ns, x.l1, x.l2, x.l3, x.l4, k _ _ x.md, k _ _ x.f1, x.g1.keeps k, k _ _ x.f2, x.g2.keeps k, x.cm.keeps k⟩
theorem loadName_class (sc : Scope) (l gl : Addr) (cl : List (Str × Addr)) (q : Str) (f : Option Addr) (cd : Value) (fr : Option Addr) (bi : Addr) (hk : sc.kind = .class) (hn : sc.names.lookup (Str.ofString "__name__") = none) :
  loadName { scope := sc, locals := l, globals := gl, cells := cl, qual := q, func := f, code := cd, frame := fr, builtins := bi } (Str.ofString "__name__") = (localGet { scope := sc, locals := l, globals := gl, cells := cl, qual := q, func := f, code := cd, frame := fr, builtins := bi } (Str.ofString "__name__") >>= fun r => match r with | some v => pure v | none => loadGlobal { scope := sc, locals := l, globals := gl, cells := cl, qual := q, func := f, code := cd, frame := fr, builtins := bi } (Str.ofString "__name__")) := by
  unfold loadName
  simp only [Env.blockKind, Env.kindOf, hk, hn, ScopeKind.isAnnotationScope, Bool.false_and, Bool.false_eq_true, if_false]
  have : compilersOwnNames.contains (Str.ofString "__name__") = true := by kernel_rfl
  rw [this]
  rw [if_neg (by decide)]
  congr 1
  funext r
  cases r <;> rfl
section
variable {prog : Program} {w : World} {A : Around} {mg mb : Str → Option Value} {s : Shared}
theorem cmpkey (G : Gd w mg mb s.heap) {n : Nat} (R : Rm (n + 9) A) (h23 : s.heap.get? 23 = some (tableObj #[])) {Q : Value → Shared → Prop} {E : Value → Shared → Prop} (q : ∀ K a h' k, KpH [23] s.heap h' → (∃ ps', h'.get? 23 = some (tableObj ps')) → KCls K 209 h' a → Q (.ref a) { s with heap := h', toks := k }) :
    wpAny (model prog w) A (call (.ref 28) [.ref 209]) Q E s := by
  have o1 := G.X 28 _ rfl
  refine call_fnR (Hd := []) [(Str.ofString "mycmp", .v (.ref 209))] (fun _ h => nomatch h) R.room o1 rfl G.nl ?_ rfl rfl ?_ ?_ ?_ ?_ ?_
  · exact codeRec_of G.X (by rfl)
  · exact rfl
  · intro L x hx; rw [List.mem_singleton.mp hx]; exact .inr ⟨rfl, rfl⟩
  · intro L p hp
    change p ∈ [(_, _)] at hp
    rw [List.mem_singleton.mp hp]; rfl
  · exact sc_cons rfl (fun L => .inr ⟨rfl, rfl⟩) sc_nil
  intro h₁ k L F V Q' E' qq
  have G1 := G.up F.k0
  have t23 := F.k0 _ _ h23
  refine wpAny_execs_cons ?_
  rw [arm_exec_ClassDef]
  refine wpAny_bind (wpAny_of_eq (a := []) rfl ?_)
  refine wpAny_bind (wpAny_standAt ?_)
  refine wpAny_bind (wpAny_bind (wpAny_nsGet (m := mb) G1.b ?_))
  rw [show mb (Str.ofString "__build_class__") = some (.builtin "__build_class__") from (G1.bt _ (by decide)).trans (by rfl)]
  refine wpAny_pure ?_
  refine wpAny_bind (wpAny_holding ?_)
  refine wpAny_bind ?_
  refine evalArgs_plain ((evs_cons (pos := ⟨7, 4, 28, 23⟩) (up_va (.type "object")) (ev_nameV (bltn G1 (by rfl) rfl)) evs_nil) _ _ _ (Kp.refl _) fun vs h2 k2 kp2 a2 => ?_)
  obtain ⟨v, rfl, rfl⟩ := alls1 a2
  refine wpAny_bind (wpAny_standAt ?_)
  refine wpAny_holding ?_
  have G2 := G1.up kp2
  have o27 := G2.X 27 _ rfl
  have cod : Cod h2 27 23 #[] := ⟨⟨_, _, _, _, _, _, _, _, _, _, o27, rfl, rfl, rfl, rfl, rfl, rfl, kp2 _ _ t23, rfl, trivial, by decide⟩, ⟨⟨_, _, o27, rfl, rfl, rfl⟩, kp2 _ _ t23⟩⟩
  have hnv : mg (Str.ofString "__name__") = some (.str (Str.ofString "law_pd0103_01") 452) := mg_of G2.X G2.g (by rfl)
  have hbm : mg "__builtins__" = some (.ref 4) := mg_of G2.X G2.g (by rfl)
  have hbo : h2.get? 4 = some { cls := .type "module", dict := some builtinsNs } := G2.X 4 _ rfl
  refine buildK (nv := .str (Str.ofString "law_pd0103_01") 452) (bm := 4) (c := L + 1) R.deeper G2 cod rfl rfl rfl rfl rfl ?_ ?_ ?_ ?_ ?_ ?_ ?_ ?_ ?_ ?_ ?_ ?_ ?_ ?_ rfl rfl rfl rfl rfl rfl ?_ ?_ ?_ rfl rfl hnv hbm hbo (by decide) (by decide) rfl ?_ ?_
  · intro env e
    obtain ⟨sc, l, gl, cl, q, f, cd, fr, bi⟩ := env
    cases e
    exact loadName_class _ l gl cl q f cd fr bi rfl rfl
  · intro env e x hx v
    obtain ⟨sc, l, gl, cl, q, f, cd, fr, bi⟩ := env
    cases e
    simp only [List.map_cons, List.map_nil, List.mem_cons, List.not_mem_nil, or_false] at hx
    rcases hx with rfl | rfl | rfl | rfl | rfl | rfl | rfl | rfl | rfl | rfl | rfl | rfl <;> kernel_rfl
  iterate 6
    · intro env e
      obtain ⟨sc, l, gl, cl, q, f, cd, fr, bi⟩ := env
      cases e
      kernel_rfl
  iterate 6
    · intro env; rfl
  iterate 3
    · intro env; rfl
  · intro env e x hx
    obtain ⟨sc, l, gl, cl, q, f, cd, fr, bi⟩ := env
    cases e
    simp only [List.map_cons, List.map_nil, List.mem_cons, List.not_mem_nil, or_false] at hx
    rcases hx with rfl | rfl <;> kernel_rfl
  intro a ns md bt sl f1 f2 c1 c2 ct1 ct2 h' k' n' tt t0 t3 es kH ht23 hnn ha hns l1 l2 l3 l4 hmd hf1 hr1 hf2 hr2
  refine wpAny_bind (wpAny_pure ?_)
  refine wpAny_bind (wpAny_standAt ?_)
  unfold bindName
  refine wpAny_bind (wpAny_bind (wpAny_holding (wpAny_point (wpAny_bind ?_))))
  have kH1 : KpH [23] h₁ h' := fun b o n e => kH b o n (kp2 b o e)
  obtain ⟨m, hn1, _⟩ := V.ns
  obtain ⟨v0, hcell, hv0⟩ := V.cell (x := Str.ofString "mycmp") (d := .v (.ref 209)) (c := L + 1) rfl rfl
  have hv0 : v0 = .ref 209 := hv0
  subst hv0
  have L0 : s.heap.get? L = none := F.nw _ (.head _)
  have C0 : s.heap.get? (L + 1) = none := F.nw _ (.tail _ (.head _))
  have L23 : L ∉ [23] := fun z => by rw [List.mem_singleton.mp z, h23] at L0; cases L0
  have C23 : (L + 1 : Nat) ∉ [23] := fun z => by rw [List.mem_singleton.mp z, h23] at C0; cases C0
  have hn2 : h'.Ns L m := hn1.at' fun o e => kH1 _ _ L23 e
  obtain ⟨oc, hoc, hcd⟩ := hcell
  refine wpAny_storeName_local rfl hn2 (fun h3 hn3 hs3 => ?_) rfl
  refine wpAny_point (wpAny_pure ?_)
  have k3 : ∀ {b : Addr} {o : Obj}, h'.get? b = some o → b ≠ L → h3.get? b = some o := fun {b o} e n => (hs3.2 b n).trans e
  obtain ⟨oL, eL1, eL2, eL, eLd, eL3⟩ := id hn2
  have neL : ∀ {b : Addr} {o : Obj}, h'.get? b = some o → (∀ es n, o.data ≠ .dict es n) → b ≠ L := fun {b o} e n z => by rw [z, eL] at e; cases e; exact n _ _ eLd
  have cr3 : ∀ {c' : Addr} {q : Str}, h'.CodeRec (.ref c') q → h3.CodeRec (.ref c') q := fun {c' q} r => by
    obtain ⟨c0, o, vs, tq, e, go, r1, r2⟩ := r
    cases e
    exact ⟨_, o, vs, tq, rfl, k3 go (neL go fun _ _ z => by rw [r1] at z; cases z), r1, r2⟩
  have K3 : KCls ⟨ns, md, bt, f1, f2, c1, c2, L + 1, ct1, ct2, _, n', tt, t0, t3, es, _, _, _, _, _, _, _, _, _, _, _, _, _, _, _, _, _, _, _⟩ 209 h3 a :=
    { cls := k3 ha (neL ha fun _ _ z => by cases z)
      ns := k3 hns fun z => by
        obtain ⟨o1, e1⟩ := ns_ex hn1
        exact hnn _ _ (kp2 _ _ e1) (fun q => L23 (q ▸ .head _)) z.symm
      l1 := l1
      l2 := l2
      l3 := l3
      l4 := l4
      md := k3 hmd (neL hmd fun _ _ z => by cases z)
      f1 := k3 hf1 (neL hf1 fun _ _ z => by cases z)
      g1 := cr3 hr1
      f2 := k3 hf2 (neL hf2 fun _ _ z => by cases z)
      g2 := cr3 hr2
      cm := ⟨oc, k3 (kH1 _ _ C23 hoc) (Nat.ne_of_gt (Nat.lt_succ_self L)), hcd⟩ }
  refine st_return (P := Va (.ref a)) (ev_nameV (loads_local hn3 rfl)) fun v h4 k4 kp4 e4 => ?_
  rw [show v = _ from e4]
  exact qq _ _ (q _ a h4 k4 (fun b o n e => kp4 _ _ (k3 (kH1 _ _ n (F.k0 _ _ e)) fun z => by rw [← z, e] at L0; cases L0)) (let ⟨p, e⟩ := ht23; ⟨p, kp4 _ _ (k3 e fun z => by rw [← z, h23] at L0; cases L0)⟩) (K3.up kp4))
end
end Mine
end
section
set_option maxRecDepth 100000
namespace Mine
open PySem PySem.W PySem.W.X PySem.Calls PyProof.Rows
open Builtin Builtin.ObjectAttr Builtin.Getset_descriptor
set_option maxHeartbeats 4000000
section
variable {prog : Program} {w : World} {A : Around} {h : Heap} {K : KDat} {fn a : Addr}
theorem kl_cd (k : KCls K fn h a) : Looks (model prog w) h (classData a) { name := Str.ofString "K", bases := [.type "object"], mro := [.ref a, .type "object"], ns := K.ns, qualname := Str.ofString "cmp_to_key.<locals>.K", hasDict := false, slotNames := [Str.ofString "obj"] } :=
  fun A Q E s kk q => m_cd (kk _ _ k.cls) rfl q
theorem kl_mro (k : KCls K fn h a) : Looks (model prog w) h (mroOf (.ref a)) [.ref a, .type "object"] := fun A Q E s kk q => m_mro (kk _ _ k.cls) rfl rfl q
theorem kl_type (k : KCls K fn h a) : Looks (model prog w) h (typeOf (.ref a)) (.type "type") := fun A Q E s kk q => wpAny_typeOf (T := "type") ⟨_, kk _ _ k.cls, rfl⟩ q
theorem kl_hit (k : KCls K fn h a) {x : Str} {v : Value} (e : nsLook x (dicO K.es K.n) = pure (some v)) : Looks (model prog w) h (typeLookup (.ref a) x) (some v) := fun A Q E s kk q => m_lookHit (kk _ _ k.cls) rfl rfl (kk _ _ k.ns) e q
theorem kl_obj (k : KCls K fn h a) {x : Str} {r : Option Value} (e : nsLook x (dicO K.es K.n) = pure none) (e2 : builtinOwn "object" x = r) : Looks (model prog w) h (typeLookup (.ref a) x) r := fun A Q E s kk q => m_lookObj (kk _ _ k.cls) rfl rfl (kk _ _ k.ns) e e2 q
theorem kl_sub (k : KCls K fn h a) {b : Value} {r : Bool} (e : [Value.ref a, Value.type "object"].contains b = r) : Looks (model prog w) h (isSubtype (.ref a) b) r := fun A Q E s kk q => by
  unfold isSubtype
  refine wpAny_bind (kl_mro k A _ E s kk ?_)
  refine m_ite_f rfl ?_
  rw [e]; exact wpAny_pure q
theorem makesK (k : KCls K fn h a) : Makes (model prog w) h a := by
  have made : Looks (model prog w) h (Bind.madeBy (.ref a)) (some "object.__new__") := by
    intro A Q E s kk q
    unfold Bind.madeBy
    refine wpAny_bind (kl_mro k A _ E s kk ?_)
    refine wpAny_bind (m_forC ?_)
    exact wpAny_bind (m_slotAt (kk _ _ k.cls) (v := some (.builtin "object.__new__")) rfl (wpAny_pure (wpAny_pure q)))
  refine ⟨⟨_, _, _, _, k.cls, rfl, rfl, rfl⟩, made, ?_, kl_sub k (by simp), kl_sub k (by simp), ?_, ?_⟩
  · intro A Q E s kk q
    unfold Bind.staticBase
    refine wpAny_bind (kl_mro k A _ E s kk ?_)
    refine wpAny_bind (m_forC ?_)
    exact wpAny_bind (made A _ E s kk (m_ite_t rfl (wpAny_pure (wpAny_pure q))))
  · exact fun A Q E s kk q => m_special (kk _ _ k.cls) rfl F.lookup_type_call q
  · exact fun A Q E s kk q => m_isInst (kk _ _ k.cls) rfl sub_ty q
theorem setslot {x dx : Addr} {v : Value} {g : Array GenState} {d : Drawn} {t : Nat} {os : OsState} {R : Result → Shared → Prop} (k : KCls K fn h a) (hx : h.get? x = some { cls := .ref a, dict := some dx, data := .plain })
    (q : ∀ h' k', KpH [x] h h' → h'.get? x = some { cls := .ref a, dict := some dx, data := .plain, slots := #[some v] } → R (.ok (.ret .none)) ⟨h', g, d, k', os⟩) :
    codeAny (model prog w) A (.call (.builtin "member_descriptor.__set__") ⟨[.ref K.md, .ref x, v], []⟩) R ⟨h, g, d, t, os⟩ := by
  have ho := k.md
  have L0 : Looks (model prog w) h (typeOf (.ref x)) (.ref a) := (Looks.ld hx).andThen .now
  have L1 : Looks (model prog w) h (isSubtype (.ref a) (.ref a)) true := kl_sub k (by simp)
  have L2 : Looks (model prog w) h (Slots.slotNamesOf (.ref a)) [Str.ofString "obj"] := (kl_cd k).andThen .now
  have f0 := looks_field (M := model prog w) ho 0 (v := .str (Str.ofString "obj") K.tt) rfl
  have f1 := looks_field (M := model prog w) ho 1 (v := .ref a) rfl
  have f3 := looks_field (M := model prog w) ho 3 (v := .builtin "proto.slot#set") rfl
  have f4 := looks_field (M := model prog w) ho 4 (v := .int 0 0) rfl
  refine codeAny_call_builtin KF.slot_mset.plain KF.entry_mset (KF.slot_mset.check _ _ _ _ _ _ _ _ ⟨_, ho, rfl⟩ (KF.args_mset _ _ _) ?_)
  unfold Builtin.«member_descriptor.__set__» descrSet descrStoreThrough descrCheckInstance descrNameAndClass isInstance
  have f5 : Looks (model prog w) h (descrItself (.ref K.md)) [.ref K.md] := ((Looks.ld (part := none) ho).andThen .now).andThen (Looks.of_pure (by kernel_rfl))
  repeat lk
  refine ⟨Code.quiet_builtin _ (by decide +kernel), codeAny_builtin KF.entry_slotset ?_⟩
  unfold Builtin.«proto.slot#set» Slots.target
  repeat lk
  have hs := Heap.SameBut.update h x (fun o => { o with slots := (o.slots ++ Array.replicate (0 + 1 - o.slots.size) none).setIfInBounds 0 (some v) })
  refine wpAny_updatePart (s := ⟨h, g, d, t, os⟩) hx (wpAny_pure ?_)
  exact q _ _ (KpH.same hs (.head _)) (Heap.get?_update_self (fun o => { o with slots := (o.slots ++ Array.replicate (0 + 1 - o.slots.size) none).setIfInBounds 0 (some v) }) hx rfl)
theorem own_setattr : builtinOwn "object" (Str.ofString "__setattr__") = some (.builtin "object.__setattr__") := by kernel_rfl
theorem setK {x dx : Addr} {v : Value} {g : Array GenState} {d : Drawn} {t : Nat} {os : OsState} {Q : Unit → Shared → Prop} {E : Value → Shared → Prop} (k : KCls K fn h a) (hx : h.get? x = some { cls := .ref a, dict := some dx, data := .plain })
    (q : ∀ h' k', KpH [x] h h' → h'.get? x = some { cls := .ref a, dict := some dx, data := .plain, slots := #[some v] } → Q () ⟨h', g, d, k', os⟩) :
    wpAny (model prog w) A (setAttr (.ref x) (Str.ofString "obj") v) Q E ⟨h, g, d, t, os⟩ := by
  have SF := PySem.F.store_object
  have L0 : Looks (model prog w) h (typeOf (.ref x)) (.ref a) := (Looks.ld hx).andThen .now
  have Lo : Looks (model prog w) h (isInstance (.ref x) (.type "object")) true := L0.andThen (kl_sub k (by simp))
  have Ls : Looks (model prog w) h (typeLookup (.ref a) (Str.ofString "__setattr__")) (some (.builtin "object.__setattr__")) := kl_obj k (k.l4 _ (by decide)) own_setattr
  have La : Looks (model prog w) h (typeLookup (.ref a) (Str.ofString "obj")) (some (.ref K.md)) := kl_hit k k.l3
  have hm := kl_mro (prog := prog) (w := w) k
  have ho := k.md
  have Lm : Looks (model prog w) h (typeOf (.ref K.md)) (.type "member_descriptor") := (Looks.ld ho).andThen .now
  have Lt : Looks (model prog w) h (storeTaker? (some (.ref K.md))) (some (.ref K.md)) := by
    intro A Q E s kk q
    unfold storeTaker? takesStores specialOf
    refine wpAny_bind (wpAny_bind (wpAny_bind (Lm A _ E s kk (wpAny_of_eq KF.slot_mset.lookup ?_))))
    exact m_ite_t rfl (wpAny_pure (m_ite_t rfl (wpAny_pure q)))
  unfold setAttr callSpecial? specialOf
  refine wpAny_bind (wpAny_mkText (wpAny_bind (wpAny_bind (wpAny_bind (Looks.at L0 (Looks.at Ls ?_))))))
  refine wpAny_holding (wpAny_bind ?_)
  refine wpAny_of_eq (SF.slot.bind _) (wpAny_bind (wpAny_call ?_))
  show codeAny _ _ (.call (.builtin "object.__setattr__") ⟨[.ref x, .str (Str.ofString "obj") t, v], []⟩) _ ⟨h, g, d, t + 1, os⟩
  refine codeAny_call_builtin SF.slot.plain SF.entry (@check_slot (model prog w) _ _ ⟨h, g, d, t + 1, os⟩ "object.__setattr__" "object" "__setattr__" (.ref x) [.str (Str.ofString "obj") t, v] [] _ SF.kind SF.split Lo (SF.args (.ref x) (.str (Str.ofString "obj") t) v) ?_)
  rw [osa_eq, refuse_eq]
  have hro : onlyObject [Value.ref a, Value.type "object"] = true := by simp [onlyObject]
  refine wpAny_bind (wpAny_bind (Looks.at L0 (wpAny_bind (Looks.at hm ?_))))
  rw [refuse_only _ hro]
  refine wpAny_pure (wpAny_bind (Looks.at L0 (wpAny_bind (Looks.at La (wpAny_bind (Looks.at Lt ?_))))))
  refine wpAny_bind (wpAny_rule (wpAny_bind (wpAny_holding (wpAny_bind (wpAny_bind (Looks.at Lm (wpAny_of_eq KF.slot_mset.lookup (wpAny_holding ?_))))))))
  refine wpAny_bind (wpAny_of_eq (KF.slot_mset.bind _) (wpAny_bind (wpAny_call (setslot k hx fun h' k' kk e => ?_))))
  exact wpAny_pure (wpAny_pure (wpAny_pure (wpAny_pure (q h' k' kk e))))
end
end Mine
end
section
set_option maxRecDepth 100000
namespace Mine
open PySem PySem.W PySem.W.X PySem.Calls PyProof.Rows
set_option maxHeartbeats 4000000
abbrev insO (a dx : Addr) (v : Value) : Obj := { cls := .ref a, dict := some dx, data := .plain, slots := #[some v] }
section
variable {prog : Program} {w : World} {A : Around} {h : Heap} {K : KDat} {fn a : Addr} {g : Array GenState} {d : Drawn} {t : Nat} {os : OsState}
theorem tc_weight (a : Addr) (v : Value) : (Code.builtin "type.__call__" ⟨[.ref a, v], []⟩).weight = 1 := by kernel_rfl
theorem tc_units (a : Addr) (v : Value) : (Code.builtin "type.__call__" ⟨[.ref a, v], []⟩).cUnits = 1 := by kernel_rfl
theorem Rm.tc {n : Nat} {A : Around} {v : Value} (R : Rm (n + 1) A) : Rm n (A.under (.builtin "type.__call__" ⟨[.ref a, v], []⟩)) :=
  ⟨R.hh, by have := R.dp; show A.depth + (Code.builtin "type.__call__" ⟨[.ref a, v], []⟩).weight + n < 600; rw [tc_weight]; omega, by have := R.un; show A.units + (Code.builtin "type.__call__" ⟨[.ref a, v], []⟩).cUnits + 8 * n < 8000; rw [tc_units]; omega⟩
theorem bs_fn {f : Addr} {o : Obj} (e : h.get? f = some o) (hc : o.cls = .type "function") (self : Value) : Looks (model prog w) h (bindSpecial (.ref f) self) (.ref f, [self]) := by
  intro A Q E s kk q
  unfold bindSpecial
  refine wpAny_bind (wpAny_typeOf (T := "function") ⟨_, kk _ _ e, hc⟩ ?_)
  exact m_ite_t (by kernel_rfl) (wpAny_pure q)
theorem newK {v : Value} {n : Nat} {Q : Value → Shared → Prop} {E : Value → Shared → Prop} (k : KCls K fn h a) (nl : h.NoLimit) (R : Rm (n + 3) A)
    (q : ∀ x dx h' k', Kp h h' → h.get? x = none → h'.get? x = some (insO a dx v) → Q (.ref x) ⟨h', g, d, k', os⟩) :
    wpAny (model prog w) A (call (.ref a) [v]) Q E ⟨h, g, d, t, os⟩ := by
  have R2 : Rm (n + 2) (A.under (.builtin "type.__call__" ⟨[.ref a, v], []⟩)) := R.tc
  have kp0 : Kp h ((h.push emptyDict).push (instObj a h.objs.size)) := (Kp.push _ _).trans (Kp.push _ _)
  have hx : ((h.push emptyDict).push (instObj a h.objs.size)).get? (h.objs.size + 1) = some (instObj a h.objs.size) := by heap_get
  have x0 : h.get? (h.objs.size + 1) = none := fresh_of (Kp.refl _) (Nat.le_succ _)
  refine wpAny_call (make_core (makesK k) (kl_hit k k.l1) (fun self => bs_fn k.f1 rfl self) (.inl rfl) ?_)
  have k2 := k.up kp0
  refine codeAny_call_def R2.room k2.f1 rfl (nl.keeps kp0) k2.g1 rfl (BindsTo.of_eq (binds := [(Str.ofString "self", .ref (h.objs.size + 1)), (Str.ofString "obj", v)]) rfl) (show ∀ x ∈ initS.names, x.2 ≠ .cell by decide) (locs rfl) fun h₁ hn kp1 => ?_
  refine wpAny_execs_cons (plainObj_wpAny_Assign_Attribute (Ev.use (P := Va v) (ev_nameV (loads_local hn rfl)) (Kp.refl _) fun u h2 t2 kp2 e2 => ?_) rfl)
  obtain rfl : u = v := e2
  refine Ev.use (P := Va (.ref (h.objs.size + 1))) (ev_nameV (loads_local (hn.keeps kp2) rfl)) (Kp.refl _) fun u2 h3 t3 kp3 e3 => ?_
  obtain rfl : u2 = .ref (h.objs.size + 1) := e3
  have kk : Kp ((h.push emptyDict).push (instObj a h.objs.size)) h3 := Kp.trans kp1 (kp2.trans kp3)
  refine setK (k2.up kk) (kk _ _ hx) fun h4 t4 k4 e4 => ?_
  refine wpAny_execs_nil ⟨rfl, ?_⟩
  refine q _ _ h4 t4 (fun b o e => k4 _ _ (fun m => by rw [List.mem_singleton.mp m, x0] at e; cases e) (kk _ _ (kp0 _ _ e))) x0 e4
end
end Mine
end
section
set_option maxRecDepth 100000
namespace Mine
open PySem PySem.W PySem.W.X PySem.Calls PyProof.Rows
open Builtin Builtin.ObjectAttr Builtin.Getset_descriptor
set_option maxHeartbeats 4000000
section
variable {prog : Program} {w : World} {A : Around} {h : Heap} {K : KDat} {fn a : Addr}
theorem slotget {x dx r : Addr} {tp : Value} {g : Array GenState} {d : Drawn} {t : Nat} {os : OsState} {R : Result → Shared → Prop} (k : KCls K fn h a) (hx : h.get? x = some (insO a dx (.ref r)))
    (q : R (.ok (.ret (.ref r))) ⟨h, g, d, t, os⟩) :
    codeAny (model prog w) A (.call (.builtin "member_descriptor.__get__") ⟨[.ref K.md, .ref x, tp], []⟩) R ⟨h, g, d, t, os⟩ := by
  have ho := k.md
  have L0 : Looks (model prog w) h (typeOf (.ref x)) (.ref a) := (Looks.ld hx).andThen .now
  have L1 : Looks (model prog w) h (isSubtype (.ref a) (.ref a)) true := kl_sub k (by simp)
  have L2 : Looks (model prog w) h (Slots.slotNamesOf (.ref a)) [Str.ofString "obj"] := (kl_cd k).andThen .now
  have f0 := looks_field (M := model prog w) ho 0 (v := .str (Str.ofString "obj") K.tt) rfl
  have f1 := looks_field (M := model prog w) ho 1 (v := .ref a) rfl
  have f2 := looks_field (M := model prog w) ho 2 (v := .builtin "proto.slot") rfl
  have f4 := looks_field (M := model prog w) ho 4 (v := .int 0 0) rfl
  refine codeAny_call_builtin KF.slot_mem.plain KF.entry_mem (KF.slot_mem.check _ _ _ _ _ _ _ _ ⟨_, ho, rfl⟩ (KF.args_mem _ _ _) ?_)
  unfold Builtin.«member_descriptor.__get__» descrGet
  rw [dga_obj]
  refine wpAny_bind (wpAny_pure ?_)
  unfold descrGetter descrCheckInstance descrNameAndClass isInstance
  repeat lk
  refine ⟨Code.quiet_builtin _ (by decide +kernel), codeAny_builtin KF.entry_slot ?_⟩
  unfold Builtin.«proto.slot» Slots.target
  repeat lk
  exact q
theorem findK {x dx r : Addr} (k : KCls K fn h a) (hx : h.get? x = some (insO a dx (.ref r))) : Looks (model prog w) h (find (.ref x) (.ref a) (Str.ofString "obj")) (.bind (.builtin "member_descriptor.__get__") (.ref K.md)) := by
  have La : Looks (model prog w) h (typeLookup (.ref a) (Str.ofString "obj")) (some (.ref K.md)) := kl_hit k k.l3
  have ho := k.md
  have Lm : Looks (model prog w) h (typeOf (.ref K.md)) (.type "member_descriptor") := (Looks.ld ho).andThen .now
  have Lg : Looks (model prog w) h (getOf (some (.ref K.md))) (some (.builtin "member_descriptor.__get__")) := by
    intro A Q E s kk q
    unfold getOf specialOf
    exact wpAny_bind (Lm A _ E s kk (wpAny_of_eq KF.slot_mem.lookup q))
  have Ls : Looks (model prog w) h (takesStores (.ref K.md)) true := by
    intro A Q E s kk q
    unfold takesStores specialOf
    refine wpAny_bind (wpAny_bind (Lm A _ E s kk (wpAny_of_eq KF.slot_mset.lookup ?_)))
    exact m_ite_t rfl (wpAny_pure q)
  unfold find
  exact La.andThen (Lg.andThen ((show Looks (model prog w) h (dataDescriptor? (some (.ref K.md)) (some (.builtin "member_descriptor.__get__"))) (some (.builtin "member_descriptor.__get__", .ref K.md)) from Ls.andThen .now).andThen (Looks.tag .now)))
theorem own_getattr : builtinOwn "object" (Str.ofString "__getattribute__") = some (.builtin "object.__getattribute__") := by kernel_rfl
theorem own_nogetattr : builtinOwn "object" (Str.ofString "__getattr__") = none := by kernel_rfl
theorem getK {x dx r : Addr} {expr : Bool} {g : Array GenState} {d : Drawn} {t : Nat} {os : OsState} {Q : Value → Shared → Prop} {E : Value → Shared → Prop} (k : KCls K fn h a) (hx : h.get? x = some (insO a dx (.ref r)))
    (q : Q (.ref r) ⟨h, g, d, t + 1, os⟩) :
    wpAny (model prog w) A (getAttr (.ref x) (Str.ofString "obj") expr) Q E ⟨h, g, d, t, os⟩ := by
  have L0 : Looks (model prog w) h (typeOf (.ref x)) (.ref a) := (Looks.ld hx).andThen .now
  have L1 : Looks (model prog w) h (typeLookup (.ref a) (Str.ofString "__getattribute__")) (some (.builtin "object.__getattribute__")) := kl_obj k (k.l4 _ (by decide)) own_getattr
  have L2 : Looks (model prog w) h (typeLookup (.ref a) (Str.ofString "__getattr__")) none := kl_obj k (k.l4 _ (by decide)) own_nogetattr
  unfold getAttr getAttrBy
  refine wpAny_bind (wpAny_mkText (wpAny_holding (wpAny_bind (L0.at (wpAny_bind (L1.at ?_))))))
  show wpAny _ _ (getAttrEveryday _ _ _) _ _ _
  refine wpAny_bind (wpAny_onRaise (wpAny_runValue (codeAny_builtin F.plainObj_entry_getattr_hooked ?_)))
  refine wpAny_bind (wpAny_pure (wpAny_bind (L0.at (wpAny_bind ((findK k hx).at (wpAny_bind (L2.at ?_)))))))
  refine wpAny_bind (wpAny_holding (wpAny_call (slotget k hx ?_)))
  exact wpAny_pure (wpAny_pure q)
end
end Mine
end
section
set_option maxRecDepth 100000
namespace Mine
open PySem PySem.W PySem.W.X PySem.Calls PyProof.Rows
set_option maxHeartbeats 4000000
section
variable {prog : Program} {w : World} {A : Around} {h : Heap} {K : KDat} {fn a : Addr}
theorem ev_objK {env : Env} {n : Str} {p p3 : Pos} {x dx r : Addr} (k : KCls K fn h a) (hx : h.get? x = some (insO a dx (.ref r))) (l : Loads env n (.ref x) h) (hd : (n == ("__debug__" : Str)) = false := by decide) :
    Ev prog w A h (eval (.Attribute (.Name n p) (Str.ofString "obj") p3) env) (Va (.ref r)) := fun s kb => Gives.of fun Q E q => by
  obtain ⟨hh, g, d, t, os⟩ := s
  rw [arm_eval_Attribute]
  refine wpAny_bind (show wpAny (model prog w) A (eval (.Name n p) env) _ _ _ from ?_)
  refine (ev_nameV l hd).use kb fun v h1 k1 kp1 e1 => ?_
  obtain rfl : v = .ref x := e1
  refine wpAny_bind (wpAny_standAt (wpAny_bind (wpAny_holding ?_)))
  refine getK (k.up (kb.trans kp1)) ((kb.trans kp1) _ _ hx) ?_
  refine wpAny_bind (show wpAny (model prog w) A (pure ()) _ _ _ from wpAny_pure (wpAny_pure (q _ _ _ kp1 rfl)))
theorem own_lt {h : Heap} (k : KCls K fn h a) : Looks (model prog w) h (typeLookup (.ref a) (Str.ofString "__lt__")) (some (.ref K.f2)) := kl_hit k k.l2
theorem bodyLt {o : Obj} {fd : FuncData} {x y dx dy r1 r2 : Addr} {c : Int} {n : Nat} {g : Array GenState} {d : Drawn} {t : Nat} {os : OsState} {Hd : List Addr} {Q : Value → Shared → Prop} {E : Value → Shared → Prop} (k : KCls K fn h a) (nl : h.NoLimit) (R : Rm (n + 1) A) (ho : h.get? fn = some o) (hd : o.data = .func fd)
    (hx : h.get? x = some (insO a dx (.ref r1))) (hy : h.get? y = some (insO a dy (.ref r2)))
    (hc : ∀ A' : Around, Rm n A' → Ev prog w A' h (call (.ref fn) [.ref r1, .ref r2]) (Da Hd (.int c)))
    (q : ∀ h' k', Kp h h' → Q (.bool (decide (c < 0))) ⟨h', g, d, k', os⟩) :
    wpAny (model prog w) A (call (.ref K.f2) [.ref x, .ref y]) Q E ⟨h, g, d, t, os⟩ := by
  refine wpAny_call (codeAny_call_def R.room k.f2 rfl nl k.g2 rfl (BindsTo.of_eq (binds := [(Str.ofString "self", .ref x), (Str.ofString "other", .ref y)]) rfl) (show ∀ x ∈ ltS.names, x.2 ≠ .cell by decide) (locs rfl) fun h₁ hn kp1 => ?_)
  have k1 := k.up kp1
  replace kp1 : Kp h h₁ := kp1
  refine st_return (P := Va (.bool (decide (c < 0)))) ?_ fun v h2 t2 kp2 e2 => ?_

  · refine ev_cmp (P1 := Da Hd (.int c)) (up_da _ _) ?_ (ev_int (i := 0) (Hd := Hd)) fun s x y kb p1 p2 => g_lti p1 p2
    refine ev_callF (loads_free rfl k1.cm) (kp1 _ _ ho) hd (evs_cons (up_va _) (ev_objK k1 (kp1 _ _ hx) (loads_local hn rfl)) (evs_cons (up_va _) (ev_objK k1 (kp1 _ _ hy) (loads_local hn rfl)) evs_nil)) fun s vs kb av => ?_
    obtain ⟨v1, vs, rfl, e1, v2, vs, rfl, e2, rfl⟩ : ∃ v1 vs', vs = v1 :: vs' ∧ Va (.ref r1) s.heap v1 ∧ ∃ v2 vs'', vs' = v2 :: vs'' ∧ Va (.ref r2) s.heap v2 ∧ vs'' = [] := by
      obtain ⟨v1, vs, rfl, e1, v2, vs, rfl, e2, e3⟩ := av
      exact ⟨_, _, rfl, e1, _, _, rfl, e2, e3⟩
    obtain rfl : v1 = .ref r1 := e1
    obtain rfl : v2 = .ref r2 := e2
    exact hc _ R.deeper s (kp1.trans kb)
  · obtain rfl : v = .bool (decide (c < 0)) := e2
    exact q _ _ (kp1.trans kp2)
theorem ltK {o : Obj} {fd : FuncData} {x y dx dy r1 r2 : Addr} {c : Int} {n : Nat} {g : Array GenState} {d : Drawn} {t : Nat} {os : OsState} {Hd : List Addr} {Q : Bool → Shared → Prop} {E : Value → Shared → Prop} (k : KCls K fn h a) (nl : h.NoLimit) (R : Rm (n + 1) A) (ho : h.get? fn = some o) (hd : o.data = .func fd)
    (hx : h.get? x = some (insO a dx (.ref r1))) (hy : h.get? y = some (insO a dy (.ref r2)))
    (hc : ∀ A' : Around, Rm n A' → Ev prog w A' h (call (.ref fn) [.ref r1, .ref r2]) (Da Hd (.int c)))
    (q : ∀ h' k', Kp h h' → Q (decide (c < 0)) ⟨h', g, d, k', os⟩) :
    wpAny (model prog w) A (keyLt' oneType' (.ref x) (.ref y)) Q E ⟨h, g, d, t, os⟩ := by
  rw [keyLt'_oneType, oneLt'_eq]
  simp only [if_true]
  have hu : A.units < cLine := by have := R.un; unfold cLine; omega
  have L0 : Looks (model prog w) h (typeOf (.ref x)) (.ref a) := (Looks.ld hx).andThen .now
  have L1 := own_lt (prog := prog) (w := w) k
  have L2 : Looks (model prog w) h (bindSpecial (.ref K.f2) (.ref x)) (.ref K.f2, [.ref x]) := bs_fn k.f2 rfl _
  refine wpAny_bind (wpAny_cRoomFor hu (wpAny_bind ?_))
  have go : wpAny (model prog w) A (call (.ref K.f2) ([.ref x] ++ [.ref y])) (fun v s' => v = .bool (decide (c < 0)) ∧ Q (decide (c < 0)) s') E ⟨h, g, d, t, os⟩ :=
    bodyLt k nl R ho hd hx hy hc fun h' k' kk => ⟨rfl, q h' k' kk⟩
  have fin : wpAny (model prog w) A (call (.ref K.f2) ([.ref x] ++ [.ref y]) >>= fun v => pure (some v)) (fun r s' => r = some (.bool (decide (c < 0))) ∧ Q (decide (c < 0)) s') E ⟨h, g, d, t, os⟩ :=
    wpAny_bind (wpAny_mono go (fun v s' z => wpAny_pure ⟨by rw [z.1], z.2⟩) fun _ _ z => z)
  have asked : wpAny (model prog w) A (callSpecialIfBound? (.ref x) (Str.ofString "__lt__") [.ref y]) (fun r s' => r = some (.bool (decide (c < 0))) ∧ Q (decide (c < 0)) s') E ⟨h, g, d, t, os⟩ := by
    simp only [callSpecialIfBound?, bindSpecialIfBound?]
    refine wpAny_holding (wpAny_bind (wpAny_bind (wpAny_bind (L0.at (L1.at ?_)))))
    refine wpAny_bind (wpAny_askSetting (wpAny_ite ?_))
    split
    · exact wpAny_bind (L2.at (wpAny_pure (by exact fin)))
    · exact wpAny_tryCatch (wpAny_bind (L2.at (wpAny_pure (by exact fin))))
  refine wpAny_mono asked (fun r s' z => ?_) fun _ _ z => z
  obtain ⟨rfl, z⟩ := z
  exact wpAny_truthy_bool z
end
end Mine
end
section
set_option maxRecDepth 100000
namespace Mine
open PySem PySem.W PySem.W.X PySem.Calls PyProof.Rows
set_option maxHeartbeats 4000000
noncomputable def trun {α : Type} (c : Nat → Nat → Bool) : KasT α → α
  | .ret a => a
  | .ask i j k => trun c (k (c i j))
noncomputable def tok {α : Type} (n : Nat) (R : α → Prop) : KasT α → Prop
  | .ret a => R a
  | .ask i j k => i < n ∧ j < n ∧ ∀ b, tok n R (k b)
theorem tok_bind {α β : Type} {n : Nat} {R : α → Prop} {R' : β → Prop} {f : α → KasT β} : ∀ (t : KasT α), tok n R t → (∀ a, R a → tok n R' (f a)) → tok n R' (t.bind f)
  | .ret a, h, hf => hf a h
  | .ask _ _ k, h, hf => ⟨h.1, h.2.1, fun b => tok_bind (k b) (h.2.2 b) hf⟩
theorem tok_run {α : Type} {n : Nat} {R : α → Prop} {c : Nat → Nat → Bool} : ∀ (t : KasT α), tok n R t → R (trun c t)
  | .ret _, h => h
  | .ask i j k, h => tok_run (k (c i j)) (h.2.2 _)
theorem trun_congr {α : Type} {n : Nat} {R : α → Prop} {c c' : Nat → Nat → Bool} (e : ∀ i j, i < n → j < n → c i j = c' i j) : ∀ (t : KasT α), tok n R t → trun c t = trun c' t
  | .ret _, _ => rfl
  | .ask i j k, h => by
    show trun c (k (c i j)) = trun c' (k (c' i j))
    rw [e i j h.1 h.2.1]; exact trun_congr e _ (h.2.2 _)
theorem twp {α : Type} {n : Nat} {R : α → Prop} {c : Nat → Nat → Bool} {cmp : Nat → Nat → (Bool → Shared → Prop) → Shared → Prop} {Q : α → Shared → Prop} (I : Shared → Prop)
    (step : ∀ i j s C, i < n → j < n → I s → (∀ s', I s' → C (c i j) s') → cmp i j C s) : ∀ (t : KasT α) (s : Shared), tok n R t → I s → (∀ s', I s' → Q (trun c t) s') → t.kasWp cmp Q s
  | .ret _, s, _, hI, q => q s hI
  | .ask i j k, s, h, hI, q => step i j s _ h.1 h.2.1 hI fun s' hI' => twp I step (k (c i j)) s' (h.2.2 _) hI' q
def Bn (n : Nat) (p : Array Nat) : Prop := p.size = n ∧ ∀ x ∈ p, x < n
section
variable {n : Nat} {p : Array Nat}
theorem Bn.get (h0 : 0 < n) (b : Bn n p) (i : Nat) : p.getD i 0 < n := by
  by_cases h : i < p.size
  · rw [show p.getD i 0 = p[i] by simp [Array.getD, h]]; exact b.2 _ (Array.getElem_mem h)
  · rw [show p.getD i 0 = 0 by simp [Array.getD, h]]; exact h0
theorem Bn.rev (b : Bn n p) (i j : Nat) : Bn n (kas_rev p i j) := ⟨(mirror_size _ _ _ _).trans b.1, fun x hx => b.2 x ((mirror_perm _ _ _ _).mem_iff.mp hx)⟩
theorem Bn.bub (b : Bn n p) (i j : Nat) : Bn n (bubble p i j) := ⟨(bubble_size _ _ _).trans b.1, fun x hx => b.2 x ((bubble_perm _ _ _).mem_iff.mp hx)⟩
variable (h0 : 0 < n)
include h0
theorem ok_asc : ∀ (f m : Nat), Bn n p → tok n (fun _ => True) (kas_asc p f m)
  | 0, _, _ => trivial
  | f + 1, m, b => ⟨b.get h0 _, b.get h0 _, fun c => by
    cases c
    · exact ok_asc f (m + 1) b
    · exact trivial⟩
theorem ok_desc : ∀ (f : Nat) (p : Array Nat) (m q : Nat), Bn n p → tok n (fun r : Array Nat × Nat × Nat => Bn n r.1) (kas_desc f p m q)
  | 0, _, _, _, b => b
  | f + 1, p, m, q, b => ⟨b.get h0 _, b.get h0 _, fun c => by
    cases c
    · show tok _ _ (KasT.ask _ _ _)
      refine ⟨b.get h0 _, b.get h0 _, fun d => ?_⟩
      cases d
      · exact ok_desc f _ _ _ b
      · exact b
    · show tok n _ (if q > 0 then kas_desc f (kas_rev p (m - (q + 1)) m) (m + 1) 0 else kas_desc f p (m + 1) 0)
      by_cases hq : q > 0
      · rw [if_pos hq]; exact ok_desc f _ _ _ (b.rev _ _)
      · rw [if_neg hq]; exact ok_desc f _ _ _ b⟩
abbrev OkP (n : Nat) (r : Nat × Array Nat) : Prop := Bn n r.2
theorem ok_tail3 (b : Bn n p) (m nrem : Nat) : tok n (OkP n) (kas_tail3 m nrem p) :=
  tok_bind _ (ok_asc h0 _ _ (b.rev _ _)) fun _ _ => b.rev _ _
theorem ok_descPart (b : Bn n p) (m nrem : Nat) : tok n (OkP n) (kas_descPart m nrem p) :=
  tok_bind _ (ok_desc h0 _ _ _ _ b) fun r hr => by
    split
    · exact ok_tail3 h0 (hr.rev _ _) _ _
    · exact ok_tail3 h0 hr _ _
theorem ok_count (b : Bn n p) (nrem : Nat) : tok n (OkP n) (kas_count nrem p) :=
  tok_bind _ (ok_asc h0 _ _ b) fun m _ => by
    split
    · exact b
    · split
      · refine ⟨b.get h0 _, b.get h0 _, fun c => ?_⟩
        cases c
        · exact ok_descPart h0 (b.rev _ _) _ _
        · exact b
      · exact ok_descPart h0 b _ _
theorem ok_place (b : Bn n p) (k : Nat) : ∀ (f l r : Nat), tok n (fun _ => True) (kas_place p k f l r)
  | 0, _, _ => trivial
  | f + 1, l, r => by
    unfold kas_place
    split
    · exact trivial
    · refine ⟨b.get h0 _, b.get h0 _, fun c => ?_⟩
      cases c
      · exact ok_place b k f _ _
      · exact ok_place b k f _ _
theorem ok_bin : ∀ (f : Nat) (p : Array Nat) (k : Nat), Bn n p → tok n (Bn n) (kas_bin f p k)
  | 0, _, _, b => b
  | f + 1, p, k, b => tok_bind _ (ok_place h0 b k _ _ _) fun _ _ => ok_bin f _ _ (b.bub _ _)
theorem ok_sort : tok n (Bn n) (kas_sort n) := by
  have b : Bn n (List.toArray (List.range n)) := ⟨by simp, fun x hx => by simpa using hx⟩
  refine tok_bind _ (ok_count h0 b _) fun r hr => ?_
  split
  · exact ok_bin h0 _ _ _ hr
  · exact hr
end
noncomputable def srt (c : Nat → Nat → Bool) (n : Nat) : Array Nat := trun c (kas_sort n)
theorem srt_lt {c : Nat → Nat → Bool} {n : Nat} (h0 : 0 < n) : ∀ x ∈ srt c n, x < n := (tok_run _ (ok_sort h0)).2
theorem srt_size {c : Nat → Nat → Bool} {n : Nat} (h0 : 0 < n) : (srt c n).size = n := (tok_run (c := c) _ (ok_sort h0)).1
theorem srt_congr {c c' : Nat → Nat → Bool} {n : Nat} (h0 : 0 < n) (e : ∀ i j, i < n → j < n → c i j = c' i j) : srt c n = srt c' n := trun_congr e _ (ok_sort h0)
end Mine
end
section
set_option maxRecDepth 100000
namespace Mine
open PySem PySem.W PySem.W.X PySem.Calls PyProof.Rows
set_option maxHeartbeats 4000000
section
variable {prog : Program} {w : World} {A : Around} {K : KDat} {fn C : Addr} {b h : Heap} {g : Array GenState} {d : Drawn} {t : Nat} {os : OsState}
theorem kp_upd {h : Heap} {a : Addr} {f : Obj → Obj} (k : Kp b h) (n : b.get? a = none) : Kp b (h.update a f) := fun x o e =>
  ((Heap.SameBut.update h a f).2 x (fun q => by rw [q, n] at e; cases e)).trans (k x o e)
/-- the first i instances -/
def Ins (h : Heap) (C : Addr) (rs : List Addr) (kA : Array Value) (i : Nat) : Prop := kA.size = i ∧ ∀ j, j < i → ∃ x dx r, kA[j]? = some (.ref x) ∧ rs[j]? = some r ∧ h.get? x = some (insO C dx (.ref r))
theorem Ins.upd {h : Heap} {rs : List Addr} {kA : Array Value} {i a : Nat} {T : String} {xs : Array Value} {e : Nat} {f : Obj → Obj} (z : Ins h C rs kA i) (ha : h.get? a = some (seqObj T xs e)) : Ins (h.update a f) C rs kA i :=
  ⟨z.1, fun j hj => by
    obtain ⟨x, dx, r, e1, e2, e3⟩ := z.2 j hj
    exact ⟨x, dx, r, e1, e2, ((Heap.SameBut.update h a f).2 x (fun q => by rw [q, ha] at e3; cases e3)).trans e3⟩⟩
theorem Ins.up {h h' : Heap} {rs : List Addr} {kA : Array Value} {i : Nat} (z : Ins h C rs kA i) (k : Kp h h') : Ins h' C rs kA i :=
  ⟨z.1, fun j hj => by obtain ⟨x, dx, r, e1, e2, e3⟩ := z.2 j hj; exact ⟨x, dx, r, e1, e2, k _ _ e3⟩⟩
theorem Ins.push {h : Heap} {rs : List Addr} {kA : Array Value} {i : Nat} (z : Ins h C rs kA i) {x dx r : Addr} (hr : rs[i]? = some r) (hx : h.get? x = some (insO C dx (.ref r))) : Ins h C rs (kA.push (.ref x)) (i + 1) :=
  ⟨by rw [Array.size_push, z.1], fun j hj => by
    rcases Nat.lt_or_ge j i with q | q
    · obtain ⟨y, dy, s, e1, e2, e3⟩ := z.2 j q
      exact ⟨y, dy, s, by rw [Array.getElem?_push, if_neg (by rw [z.1]; omega)]; exact e1, e2, e3⟩
    · obtain rfl : j = i := by omega
      exact ⟨x, dx, r, by rw [Array.getElem?_push, if_pos z.1.symm], hr, hx⟩⟩
theorem sortTail {a kS : Addr} {rs : List Addr} {n m e e1 : Nat} {c : Nat → Nat → Int} {o : Obj} {fd : FuncData} {Hd : List Addr} {kA : Array Value} {P : PySem.Fin → Shared → Prop} {E : Value → Shared → Prop}
    (k : KCls K fn b C) (nl : b.NoLimit) (R : Rm (m + 1) A) (ho : b.get? fn = some o) (hd : o.data = .func fd) (hn : n = rs.length) (h2 : 2 ≤ n) (h64 : n < 64)
    (hc : ∀ A' : Around, Rm m A' → ∀ (i j : Nat) (r1 r2 : Addr), rs[i]? = some r1 → rs[j]? = some r2 → Ev prog w A' b (call (.ref fn) [.ref r1, .ref r2]) (Da Hd (.int (c i j))))
    (kb : Kp b h) (na : b.get? a = none) (nk : b.get? kS = none) (hka : kS ≠ a) (ha : h.get? a = some (seqObj "list" #[] e1)) (hk : h.get? kS = some (seqObj "list" kA e)) (hI : Ins h C rs kA n)
    (q : ∀ h' k' c', Kp b h' → h'.get? a = some (seqObj "list" ((srt (fun i j => decide (c i j < 0)) n).map fun i => (rs.map Value.ref).getD i .none) c') → P (.done (.ret .none)) ⟨h', g, d, k', os⟩) :
    wpAny (model prog w) A (ksk_end a false (rs.map Value.ref).toArray e1 (.ref kS) kA) P E ⟨h, g, d, t, os⟩ := by
  have hsz : (rs.map Value.ref).toArray.size = n := by rw [List.size_toArray, List.length_map, hn]
  have hn2 : ¬ (rs.map Value.ref).toArray.size < 2 := by rw [hsz]; omega
  unfold ksk_end
  refine m_ite_f rfl ?_
  rw [if_neg hn2, if_neg hn2]
  have ek : kA = kA.toList.toArray := by rw [Array.toArray_toList]
  have item : ∀ i, i < n → ∃ x dx r, (kas_item (kA.zip (rs.map Value.ref).toArray) i) = (.ref x, .ref r) ∧ rs[i]? = some r ∧ h.get? x = some (insO C dx (.ref r)) := by
    intro i hi
    obtain ⟨x, dx, r, e1, e2, e3⟩ := hI.2 i hi
    refine ⟨x, dx, r, ?_, e2, e3⟩
    have hz : (kA.zip (rs.map Value.ref).toArray)[i]? = some (.ref x, .ref r) := by
      rw [Array.getElem?_zip_eq_some]
      exact ⟨e1, by simp [e2]⟩
    unfold kas_item
    rw [Array.getD_eq_getD_getElem?, hz]; rfl
  have kind : ∀ (Q : SortKind → Shared → Prop), Q oneType' ⟨h, g, d, t, os⟩ → wpAny (model prog w) A (keyKind' kA) Q E ⟨h, g, d, t, os⟩ := by
    intro Q q
    rw [ek]
    refine kas_kind (T := .ref C) (by rw [Array.length_toList, hI.1]; exact h2) (fun v hv => ?_) (by simp) (by simp) q
    obtain ⟨j, hj, e⟩ := List.getElem_of_mem hv
    rw [Array.length_toList, hI.1] at hj
    obtain ⟨x, dx, r, e1, e2, e3⟩ := hI.2 j hj
    have : v = .ref x := by
      have : kA.toList[j]? = some v := by rw [List.getElem?_eq_getElem (by rw [Array.length_toList, hI.1]; exact hj), e]
      rw [Array.getElem?_toList, e1] at this
      cases this; rfl
    subst this
    exact (Looks.ld e3).andThen .now
  refine wpAny_bind (kind _ ?_)
  have est : SortSt.mk' oneType' (kA.zip (rs.map Value.ref).toArray) #[] 7 none = kas_st oneType' (kA.zip (rs.map Value.ref).toArray) (List.toArray (List.range n)) := by
    have e := kas_range (kA.zip (rs.map Value.ref).toArray)
    rw [Array.size_zip, hI.1, hsz, Nat.min_self] at e
    show _ = SortSt.mk' oneType' ((List.toArray (List.range n)).map (kas_item (kA.zip (rs.map Value.ref).toArray))) #[] 7 none
    rw [e]
  let I : Shared → Prop := fun s' => ∃ h' k', s' = ⟨h', g, d, k', os⟩ ∧ Kp h h'
  have run := kas_runs (prog := prog) (w := w) (A := A) (E := E) (κ := oneType') (it := kA.zip (rs.map Value.ref).toArray) (n := n) (s := ⟨h, g, d, t, os⟩) (G := fun p s' => p = srt (fun i j => decide (c i j < 0)) n ∧ I s')
    (Q := fun _ st' s' => arrOf st' = (srt (fun i j => decide (c i j < 0)) n).map (kas_item (kA.zip (rs.map Value.ref).toArray)) ∧ failedOf st' = none ∧ (srt (fun i j => decide (c i j < 0)) n).size = n ∧ I s')
    h2 h64 (fun p' st' s' a1 a2 a3 a4 => ⟨by rw [a2, a4.1], a3, by rw [← a4.1]; exact a1, a4.2⟩)
    (twp (n := n) I ?_ _ _ (ok_sort (by omega)) ⟨h, t, rfl, Kp.refl _⟩ fun s' hI' => ⟨rfl, hI'⟩)
  · rw [← est] at run
    refine wpAny_bind (wpAny_mono run ?_ fun _ _ e => e)
    rintro ⟨⟨⟩, st'⟩ s' ⟨har, hf, hps, h1, k1, rfl, kk⟩
    have out : (arrOf st').map (·.2) = (srt (fun i j => decide (c i j < 0)) n).map fun i => (rs.map Value.ref).getD i .none := by
      rw [har, Array.map_map]
      refine Array.map_congr_left fun i hi => ?_
      have hi' := srt_lt (c := fun i j => decide (c i j < 0)) (n := n) (by omega) i hi
      obtain ⟨x, dx, r, e1, e2, e3⟩ := item i hi'
      show (kas_item _ i).2 = _
      rw [e1]; simp [e2]
    have ha1 := kk _ _ ha
    have hk1 := kk _ _ hk
    have s1 := Heap.SameBut.update h1 kS (Obj.mapSeq fun _ => (#[] : Array Value))
    have ha2 : (h1.update kS (Obj.mapSeq fun _ => (#[] : Array Value))).get? a = some (seqObj "list" #[] e1) := (s1.2 a hka.symm).trans ha1
    unfold ksk_tail
    refine wpAny_bind (listUpdate_at hk1 rfl ?_ (by rw [hI.1, sizeLine_eq]; omega) (Nat.zero_le _))
    refine wpAny_bind (wpAny_letGo ?_)
    refine wpAny_bind (seqEpoch_at ha2 rfl ?_)
    refine wpAny_bind (listUpdate_at ha2 rfl ?_ (Nat.zero_le _) ?_)
    · rw [hf]
      refine m_ite_f (by simp) ?_
      have hu := get?_update_seq ha2 fun _ => if false = true then ((arrOf st').map (·.2)).reverse else (arrOf st').map (·.2)
      refine wpAny_pure (q _ _ (if ((if false = true then ((arrOf st').map (·.2)).reverse else (arrOf st').map (·.2)) : Array Value).size == (#[] : Array Value).size then e1 else e1 + 1) (kp_upd (kp_upd (kb.trans kk) nk) na) ?_)
      rw [← out]; exact hu
    · show ((arrOf st').map (·.2)).size ≤ _
      rw [out, Array.size_map, hps, sizeLine_eq]; omega
  · rintro i j s' C' hi hj ⟨h1, k1, rfl, kk⟩ hC
    obtain ⟨x, dx, r1, e1, e2, e3⟩ := item i hi
    obtain ⟨y, dy, r2, e4, e5, e6⟩ := item j hj
    unfold kas_cmp
    rw [e1, e4]
    exact ltK (k.up (kb.trans kk)) (nl.keeps (kb.trans kk)) R ((kb.trans kk) _ _ ho) hd (kk _ _ e3) (kk _ _ e6) (fun A' R' => (hc A' R' i j r1 r2 e2 e5).base (kb.trans kk)) fun h' k' kp => hC _ ⟨h', k', rfl, kk.trans kp⟩
end
end Mine
end
section
set_option maxRecDepth 100000
namespace Mine
open PySem PySem.W PySem.W.X PySem.Calls PyProof.Rows
set_option maxHeartbeats 4000000
section
variable {prog : Program} {w : World} {A : Around} {K : KDat} {fn C : Addr} {b h : Heap} {g : Array GenState} {d : Drawn} {t : Nat} {os : OsState}
theorem sortRest {a kS : Addr} {rs : List Addr} {n m e1 : Nat} {c : Nat → Nat → Int} {o : Obj} {fd : FuncData} {Hd : List Addr} {P : PySem.Fin → Shared → Prop} {E : Value → Shared → Prop}
    (k : KCls K fn b C) (nl : b.NoLimit) (R : Rm (m + 3) A) (ho : b.get? fn = some o) (hd : o.data = .func fd) (hn : n = rs.length) (h2 : 2 ≤ n) (h64 : n < 64)
    (hc : ∀ A' : Around, Rm m A' → ∀ (i j : Nat) (r1 r2 : Addr), rs[i]? = some r1 → rs[j]? = some r2 → Ev prog w A' b (call (.ref fn) [.ref r1, .ref r2]) (Da Hd (.int (c i j))))
    (kb : Kp b h) (na : b.get? a = none) (nk : b.get? kS = none) (hka : kS ≠ a) (ha : h.get? a = some (seqObj "list" #[] e1)) (hk : h.get? kS = some (seqObj "list" #[] 0))
    (q : ∀ h' k' c', Kp b h' → h'.get? a = some (seqObj "list" ((srt (fun i j => decide (c i j < 0)) n).map fun i => (rs.map Value.ref).getD i .none) c') → P (.done (.ret .none)) ⟨h', g, d, k', os⟩) :
    wpAny (model prog w) A (ksk_rest a (.ref C) false (rs.map Value.ref).toArray e1 (.ref kS)) P E ⟨h, g, d, t, os⟩ := by
  unfold ksk_rest
  refine wpAny_bind (wpAny_rule ?_)
  rw [← Array.forIn_toList]
  simp only [List.toList_toArray]
  refine wpAny_bind (ksk_fold (fun i s' => ∃ h' tk kA e, s' = ⟨h', g, d, tk, os⟩ ∧ Kp b h' ∧ h'.get? a = some (seqObj "list" #[] e1) ∧ h'.get? kS = some (seqObj "list" kA e) ∧ Ins h' C rs kA i) (rs.map Value.ref) 0 ⟨h, g, d, t, os⟩
    ⟨h, t, #[], 0, rfl, kb, ha, hk, rfl, fun j hj => absurd hj (Nat.not_lt_zero _)⟩ ?step ?done)
  case step =>
    rintro j x s' hx ⟨h', tk, kA, e, rfl, kb', ha', hk', hI⟩
    simp only [Nat.zero_add] at hI ⊢
    rw [List.getElem?_map, Option.map_eq_some_iff] at hx
    obtain ⟨r, hr, rfl⟩ := hx
    have hj : j < rs.length := (List.getElem?_eq_some_iff.mp hr).1
    refine wpAny_bind (wpAny_attempt (newK (n := m) (k.up kb') (nl.keeps kb') R fun x dx h2 k2 kk x0 hx => ?_))
    have ha2 := kk _ _ ha'
    have hk2 := kk _ _ hk'
    have s1 := Heap.SameBut.update h2 kS (Obj.mapSeq (·.push (.ref x)))
    have ne : x ≠ kS := fun q => by rw [q, hk'] at x0; cases x0
    refine wpAny_bind (listUpdate_at hk2 rfl ?_ (by rw [hI.1, sizeLine_eq]; omega) (Nat.le_trans (Nat.le_of_eq (Array.size_push ..)) (by rw [hI.1, sizeLine_eq]; omega)))
    refine wpAny_pure ⟨rfl, _, _, kA.push (.ref x), (if (kA.push (Value.ref x)).size == kA.size then e else e + 1), rfl, kp_upd (kb'.trans kk) nk, (s1.2 a hka.symm).trans ha2, get?_update_seq hk2 (·.push (.ref x)), ?_⟩
    exact ((hI.up kk).upd hk2).push hr ((s1.2 x ne).trans hx)
  case done =>
    rintro s' ⟨h', tk, kA, e, rfl, kb', ha', hk', hI⟩
    rw [Nat.zero_add, List.length_map, ← hn] at hI
    refine wpAny_bind (listItems_at hk' rfl ?_)
    exact sortTail k nl (R.le (by omega)) ho hd hn h2 h64 hc kb' na nk hka ha' hk' hI q
theorem sortedK {l : Addr} {rs : List Addr} {n m : Nat} {c : Nat → Nat → Int} {o : Obj} {fd : FuncData} {Hd : List Addr} {Q : Value → Shared → Prop} {E : Value → Shared → Prop}
    (k : KCls K fn h C) (nl : h.NoLimit) (R : Rm (m + 5) A) (ho : h.get? fn = some o) (hd : o.data = .func fd) (hn : n = rs.length) (h2 : 2 ≤ n) (h64 : n < 64) (hl : h.IsList l (rs.map Value.ref).toArray)
    (hc : ∀ A' : Around, Rm m A' → ∀ (i j : Nat) (r1 r2 : Addr), rs[i]? = some r1 → rs[j]? = some r2 → Ev prog w A' h (call (.ref fn) [.ref r1, .ref r2]) (Da Hd (.int (c i j))))
    (q : ∀ D h' k' c', Kp h h' → h.get? D = none → h'.get? D = some (seqObj "list" ((srt (fun i j => decide (c i j < 0)) n).map fun i => (rs.map Value.ref).getD i .none) c') → Q (.ref D) ⟨h', g, d, k', os⟩) :
    wpAny (model prog w) A (call (.builtin "sorted") [.ref l] [(Str.ofString "key", .ref C)]) Q E ⟨h, g, d, t, os⟩ := by
  refine call_function_entry_kw kind_sorted plain_sorted entry_sorted (ksk_s1 _ _) ?_
  unfold Builtin.«sorted»
  refine wpAny_bind (m := checkCount "sorted" 1 1 _) (wpAny_pure ?_)
  have hsl : (rs.map Value.ref).toArray.size = n := by rw [List.size_toArray, List.length_map, hn]
  have hll : (rs.map Value.ref).length ≤ sizeLine := by rw [List.length_map, ← hn, sizeLine_eq]; omega
  refine wpAny_bind (collect_list hl ?_ hll)
  refine wpAny_bind (wpAny_newList ?_ hll)
  generalize hvs : (rs.map Value.ref).toArray = vs at *
  have hsz : ((h.push (seqObj "list" #[] 0)).update h.objs.size (Obj.mapSeq (· ++ vs))).objs.size = h.objs.size + 1 := by
    rw [Heap.size_update, size_push']
  have hoL : (((h.push (seqObj "list" #[] 0)).update h.objs.size (Obj.mapSeq (· ++ vs))).push (seqObj "list" vs 0)).get? (h.objs.size + 1) = some (seqObj "list" vs 0) := by
    rw [← hsz]; exact Heap.get?_push_size _ rfl
  have keep : Kp h (((h.push (seqObj "list" #[] 0)).update h.objs.size (Obj.mapSeq (· ++ vs))).push (seqObj "list" vs 0)) := fun b o q => by
    have hlt : b < h.objs.size := Heap.lt_size q
    rw [Heap.get?_push_ne _ _ _ (by rw [hsz]; exact Nat.ne_of_lt (Nat.lt_succ_of_lt hlt)), Heap.get?_update_ne _ _ _ _ (Nat.ne_of_lt hlt), Heap.get?_push_ne _ _ _ (Nat.ne_of_lt hlt)]
    exact q
  show wpAny _ _ _ _ _ ⟨((h.push (seqObj "list" #[] 0)).update h.objs.size (Obj.mapSeq (· ++ vs))).push (seqObj "list" vs 0), g, d, t, os⟩
  rw [hsz]
  have na : h.get? (h.objs.size + 1) = none := Heap.get?_none_of_le (Nat.le_succ _)
  generalize ((h.push (seqObj "list" #[] 0)).update h.objs.size (Obj.mapSeq (· ++ vs))).push (seqObj "list" vs 0) = h1 at *
  generalize h.objs.size + 1 = a at *
  refine wpAny_bind (wpAny_holding (wpAny_call_entry_kw slot_list_sort ⟨_, hoL, rfl⟩ entry_list_sort ?body (ksk_l1 _ _)))
  case body =>
    show wpAny (model prog w) A.in1.in1 (Builtin.«list.sort» ⟨[.ref a], [(Str.ofString "key", .ref C)]⟩) _ _ _
    rw [ksk_t1]
    have s1 := Heap.SameBut.update h1 a (Obj.mapSeq fun _ => (#[] : Array Value))
    have ho1 := get?_update_seq hoL fun _ => #[]
    have kp1 : Kp h (h1.update a (Obj.mapSeq fun _ => (#[] : Array Value))) := kp_upd keep na
    unfold ksk_tree
    refine wpAny_bind (listItems_at hoL rfl ?_)
    refine wpAny_bind (listUpdate_at hoL rfl ?_ (by rw [hsl, sizeLine_eq]; omega) (Nat.zero_le _))
    refine wpAny_bind (seqEpoch_at ho1 rfl ?_)
    generalize h1.update a (Obj.mapSeq fun _ => (#[] : Array Value)) = hp2 at *
    refine wpAny_bind (wpAny_newTuple ?_ (by rw [Array.length_toList, hsl, sizeLine_eq]; omega))
    refine wpAny_bind (wpAny_newList ?_ (Nat.zero_le _))
    refine wpAny_holding ?_
    have hlt : a < hp2.objs.size := Heap.lt_size ho1
    have e : ((hp2.push (seqObj "tuple" vs.toList.toArray 0))).objs.size = hp2.objs.size + 1 := size_push' ..
    have kp2 : Kp hp2 ((hp2.push (seqObj "tuple" vs.toList.toArray 0)).push (seqObj "list" #[] 0)) := (Kp.push _ _).trans (Kp.push _ _)
    have hne : hp2.objs.size + 1 ≠ a := by omega
    have nk : h.get? (hp2.objs.size + 1) = none := by
      cases q : h.get? (hp2.objs.size + 1) with
      | none => rfl
      | some o =>
        have z := Heap.lt_size (kp1 _ _ q)
        exact absurd z (Nat.not_lt.mpr (Nat.le_succ _))
    show wpAny _ _ (ksk_rest a (.ref C) false vs _ (.ref (hp2.push (seqObj "tuple" vs.toList.toArray 0)).objs.size)) _ _ ⟨(hp2.push (seqObj "tuple" vs.toList.toArray 0)).push (seqObj "list" #[] 0), g, d, t, os⟩
    rw [e, ← hvs]
    refine sortRest (m := m) (n := n) (c := c) k nl (R.in1.in1) ho hd hn h2 h64 hc (kp1.trans (by rw [hvs]; exact kp2)) na nk hne (by rw [hvs]; exact kp2 _ _ ho1) (by rw [hvs, ← e]; exact Heap.get?_push_size _ rfl) fun h' k' c' kp' e' => ?_
    exact ⟨_, rfl, wpAny_pure ⟨_, rfl, q a h' k' c' kp' na e'⟩⟩
end
end Mine
end
section
set_option maxRecDepth 100000
namespace Mine
open PySem PySem.W PySem.W.X PySem.Calls PyProof.Rows
set_option maxHeartbeats 4000000
abbrev T4 := Bool × Int × Str × Str
def t4 (p : T4) : PyData := .tuple [.bool p.1, .int p.2.1, .str p.2.2.1, .str p.2.2.2]
def t4lt (p q : T4) : Bool :=
  if PyData.eqv (.bool p.1) (.bool q.1) then
    if p.2.1 == q.2.1 then
      if decide (p.2.2.1 = q.2.2.1) = true then
        if decide (p.2.2.2 = q.2.2.2) = true then false else decide (p.2.2.2.cps.toList < q.2.2.2.cps.toList)
      else decide (p.2.2.1.cps.toList < q.2.2.1.cps.toList)
    else decide (p.2.1 < q.2.1)
  else decide ((if p.1 then 1 else 0 : Int) < (if q.1 then 1 else 0))
section
variable {prog : Program} {w : World} {A : Around} {b h : Heap} {g : Array GenState} {d : Drawn} {t : Nat} {os : OsState} {s : Shared} {E : Value → Shared → Prop}
theorem oneLt_bool {a b : Bool} {Q : Bool → Shared → Prop} (h : Q (decide ((if a then 1 else 0 : Int) < (if b then 1 else 0))) s) : wpAny (model prog w) A (oneLt' true (.bool a) (.bool b)) Q E s := by
  rw [oneLt'_eq]
  simp only [if_true]
  refine wpAny_bind (wpAny_cRoomFor_byValue rfl ?_)
  refine wpAny_bind (wpAny_callSpecialIfBound?_slot (PySem.typeIs_bool s a) PySem.F.slot_bool_lt (wpAny_call_entry PySem.F.slot_bool_lt (PySem.typeIs_bool s a) entry_int_lt ?_ (args_int_lt _ _)))
  cases a <;> cases b <;> exact wpAny_pure ⟨_, rfl, wpAny_truthy_bool h⟩
theorem lt4 {x y : Value} {p q : T4} {Hd : List Addr} {n : Nat} {Q : Bool → Shared → Prop} (R : Rm (n + 1) A) (rx : Rp Hd h x (t4 p)) (ry : Rp Hd h y (t4 q))
    (k : ∀ h' k', Kp h h' → Q (t4lt p q) ⟨h', g, d, k', os⟩) : wpAny (model prog w) A (keyLt' (tuples' true) x y) Q E ⟨h, g, d, t, os⟩ := by
  obtain ⟨p1, p2, p3, p4⟩ := p
  obtain ⟨q1, q2, q3, q4⟩ := q
  obtain ⟨a, vs, rfl, -, ⟨o, ho, hc, m, hd⟩, rv⟩ := rx.tup_inv
  obtain ⟨c, ws, rfl, -, ⟨o2, ho2, hc2, m2, hd2⟩, rw'⟩ := ry.tup_inv
  obtain ⟨v1, v2, v3, v4, rfl⟩ : ∃ v1 v2 v3 v4, vs = [v1, v2, v3, v4] := by
    have := rv.length
    match vs, this with
    | [a, b, c, d], _ => exact ⟨_, _, _, _, rfl⟩
  obtain ⟨w1, w2, w3, w4, rfl⟩ : ∃ v1 v2 v3 v4, ws = [v1, v2, v3, v4] := by
    have := rw'.length
    match ws, this with
    | [a, b, c, d], _ => exact ⟨_, _, _, _, rfl⟩
  have r1 := rv.head
  have r2 := rv.tail.head
  have r3 := rv.tail.tail.head
  have r4 := rv.tail.tail.tail.head
  have u1 := rw'.head
  have u2 := rw'.tail.head
  have u3 := rw'.tail.tail.head
  have u4 := rw'.tail.tail.tail.head
  have hu : A.units + 1 < cLine := by have := R.un; unfold cLine; omega
  have eqb : ∀ {x y : Value} {dx dy : PyData} {Q : Bool → Shared → Prop}, Rp Hd h x dx → Rp Hd h y dy → dx.canLay0 = true → dy.canLay0 = true → min dx.depth dy.depth ≤ 1 → Q (PyData.eqv dx dy) ⟨h, g, d, t, os⟩ → wpAny (model prog w) A (eqBool x y) Q (fun _ _ => False) ⟨h, g, d, t, os⟩ := by
    intro x y dx dy Q ra rb ha hb hm hQ
    obtain ⟨_, ra⟩ := ra.reads
    obtain ⟨_, rb⟩ := rb.reads
    exact SeqAt.eqBoolOverData _ _ _ _ _ _ _ _ _ _ _ _ ra rb ha hb (by omega) hQ
  obtain rfl := r1.bool_inv
  obtain rfl := u1.bool_inv
  obtain ⟨_, rfl⟩ := r2.int_inv
  obtain ⟨_, rfl⟩ := u2.int_inv
  obtain ⟨_, rfl⟩ := r3.str_inv
  obtain ⟨_, rfl⟩ := u3.str_inv
  obtain ⟨_, rfl⟩ := r4.str_inv
  obtain ⟨_, rfl⟩ := u4.str_inv
  refine kat_lt ho hd ho2 hd2 ?_
  show KatLex prog w A true false Q [(_, _), (_, _), (_, _), (_, _)] 0 _
  have fin : ∀ β, β = t4lt (p1, p2, p3, p4) (q1, q2, q3, q4) → ∀ h' k', Kp h h' → Q β ⟨h', g, d, k', os⟩ := fun β e => by rw [e]; exact k
  unfold t4lt at fin
  refine kat_cons (eqb r1 u1 (by simp only [PyData.canLay0]) (by simp only [PyData.canLay0]) (by show min _ _ ≤ 1; simp [PyData.depth]) (kat_go (fun e1 => kat_yes ?_) fun e1 => kat_no ?_))
  · rw [if_pos e1] at fin
    refine kat_cons (wpAny_eqBool_int (kat_go (fun e2 => kat_yes ?_) fun e2 => kat_no ?_))
    · rw [if_pos e2] at fin
      refine kat_cons (wpAny_eqBool_str (kat_go (fun e3 => kat_yes ?_) fun e3 => kat_no ?_))
      · rw [if_pos e3] at fin
        refine kat_cons (wpAny_eqBool_str (kat_go (fun e4 => kat_yes ?_) fun e4 => kat_no ?_))
        · rw [if_pos e4] at fin
          exact kat_nil (fin _ rfl _ _ (Kp.refl _))
        · rw [if_neg (by rw [e4]; decide)] at fin
          exact kat_one _ _ (Gives.use (s := ⟨h, g, d, t, os⟩) (g_lts r4 u4) fun v h' k' kp e => by obtain rfl : v = _ := e; exact fin _ rfl h' k' kp)
      · rw [if_neg (by rw [e3]; decide)] at fin
        exact kat_one _ _ (Gives.use (s := ⟨h, g, d, t, os⟩) (g_lts r3 u3) fun v h' k' kp e => by obtain rfl : v = _ := e; exact fin _ rfl h' k' kp)
    · rw [if_neg (by rw [e2]; decide)] at fin
      exact kat_one _ _ (Gives.use (s := ⟨h, g, d, t, os⟩) (g_lti r2 u2) fun v h' k' kp e => by obtain rfl : v = _ := e; exact fin _ rfl h' k' kp)
  · rw [if_neg (by rw [e1]; decide)] at fin
    exact oneLt_bool (fin _ rfl h t (Kp.refl _))
end
end Mine
end
section
set_option maxRecDepth 100000
namespace Mine
open PySem PySem.W PySem.W.X PySem.Calls PyProof.Rows
set_option maxHeartbeats 4000000
section
variable {prog : Program} {w : World} {A : Around} {b h : Heap} {g : Array GenState} {d : Drawn} {t : Nat} {os : OsState} {s : Shared} {E : Value → Shared → Prop}
theorem katTups4 {Hd : List Addr} : ∀ {vs : List Value} {ds : List T4}, RpAll Hd h vs (ds.map t4) → ∃ fs : List Bool, fs.length = ds.length ∧ KatTups h vs (fs.map Value.bool)
  | [], [], _ => ⟨[], rfl, trivial⟩
  | [], _ :: _, r => by have := r.length; cases this
  | _ :: _, [], r => by have := r.length; cases this
  | v :: vs, p :: ds, r => by
    obtain ⟨fs, hl, hk⟩ := katTups4 r.tail
    obtain ⟨a, ws, rfl, -, ⟨o, ho, hc, m, hd⟩, rv⟩ := r.head.tup_inv
    obtain ⟨v1, v2, v3, v4, rfl⟩ : ∃ v1 v2 v3 v4, ws = [v1, v2, v3, v4] := by
      have := rv.length
      match ws, this with
      | [a, b, c, d], _ => exact ⟨_, _, _, _, rfl⟩
    obtain rfl := rv.head.bool_inv
    exact ⟨p.1 :: fs, by simp [hl], KatTups.cons ho hc hd rfl hk⟩
theorem rp_pick {Hd : List Addr} {vs : List Value} {ds : List T4} (r : RpAll Hd h vs (ds.map t4)) : ∀ (l : List Nat), (∀ i ∈ l, i < ds.length) → RpAll Hd h (l.map fun i => vs.getD i .none) (l.map fun i => t4 (ds.getD i default))
  | [], _ => .nil
  | i :: l, hl => by
    have hi := hl i (.head _)
    obtain ⟨v, e1, e2⟩ := r.get' (i := i) (d := t4 ds[i]) (by rw [List.getElem?_map, List.getElem?_eq_getElem hi]; rfl)
    refine .cons ?_ (rp_pick r l fun j hj => hl j (.tail _ hj))
    show Rp Hd h (vs.getD i .none) (t4 (ds.getD i default))
    rw [List.getD_eq_getElem?_getD, e1, List.getD_eq_getElem?_getD, List.getElem?_eq_getElem hi]; exact e2
theorem sortedT {v : Value} {ds : List T4} {n m : Nat} {Hd : List Addr} (hs : Hs Hd s.heap) (R : Rm (m + 4) A) (hn : n = ds.length) (h2 : 2 ≤ n) (h64 : n < 64) (r : Rp Hd s.heap v (.list (ds.map t4))) :
    Gives prog w A s (call (.builtin "sorted") [v]) (Da Hd (.list ((srt (fun i j => t4lt (ds.getD i default) (ds.getD j default)) n).toList.map fun i => t4 (ds.getD i default)))) := Gives.of fun Q E q => by
  obtain ⟨h, g, d, t, os⟩ := s
  obtain ⟨l, vs, rfl, hlH, hl, ra⟩ := r.list_inv
  have hlen : vs.length = n := by rw [ra.length, List.length_map, hn]
  refine Calls.call_function_entry kind_sorted plain_sorted entry_sorted (args_sorted1 _) ?_
  unfold Builtin.«sorted»
  refine wpAny_bind (m := checkCount "sorted" 1 1 _) (wpAny_pure ?_)
  have hll : vs.length ≤ sizeLine := by rw [hlen, sizeLine_eq]; omega
  refine wpAny_bind (collect_list hl ?_ hll)
  refine wpAny_bind (wpAny_newList ?_ hll)
  have hsz : ((h.push (seqObj "list" #[] 0)).update h.objs.size (Obj.mapSeq (· ++ vs.toArray))).objs.size = h.objs.size + 1 := by
    rw [Heap.size_update, size_push']
  have hoL : (((h.push (seqObj "list" #[] 0)).update h.objs.size (Obj.mapSeq (· ++ vs.toArray))).push (seqObj "list" vs.toArray 0)).get? (h.objs.size + 1) = some (seqObj "list" vs.toArray 0) := by
    rw [← hsz]; exact Heap.get?_push_size _ rfl
  have keep : Kp h (((h.push (seqObj "list" #[] 0)).update h.objs.size (Obj.mapSeq (· ++ vs.toArray))).push (seqObj "list" vs.toArray 0)) := fun b o q => by
    have hlt : b < h.objs.size := Heap.lt_size q
    rw [Heap.get?_push_ne _ _ _ (by rw [hsz]; exact Nat.ne_of_lt (Nat.lt_succ_of_lt hlt)), Heap.get?_update_ne _ _ _ _ (Nat.ne_of_lt hlt), Heap.get?_push_ne _ _ _ (Nat.ne_of_lt hlt)]
    exact q
  show wpAny _ _ _ _ _ ⟨((h.push (seqObj "list" #[] 0)).update h.objs.size (Obj.mapSeq (· ++ vs.toArray))).push (seqObj "list" vs.toArray 0), g, d, t, os⟩
  rw [hsz]
  have na : h.get? (h.objs.size + 1) = none := Heap.get?_none_of_le (Nat.le_succ _)
  have nH : h.objs.size + 1 ∉ Hd := fun z => by obtain ⟨o, e⟩ := hs _ z; rw [na] at e; cases e
  generalize ((h.push (seqObj "list" #[] 0)).update h.objs.size (Obj.mapSeq (· ++ vs.toArray))).push (seqObj "list" vs.toArray 0) = h1 at *
  generalize h.objs.size + 1 = a at *
  refine wpAny_bind (wpAny_holding (wpAny_call_entry slot_list_sort ⟨_, hoL, rfl⟩ entry_list_sort ?body (args_list_sort _)))
  case body =>
    rw [list_sort_plain]
    have ho1 := get?_update_seq hoL fun _ => #[]
    have kp1 : Kp h (h1.update a (Obj.mapSeq fun _ => (#[] : Array Value))) := kp_upd keep na
    refine wpAny_bind (listItems_at hoL rfl ?_)
    refine wpAny_bind (listUpdate_at hoL rfl ?_ hll (Nat.zero_le _))
    refine wpAny_bind (seqEpoch_at ho1 rfl ?_)
    generalize (if (#[] : Array Value).size == vs.toArray.size then 0 else 0 + 1) = e1 at *
    generalize h1.update a (Obj.mapSeq fun _ => (#[] : Array Value)) = hp2 at *
    refine wpAny_bind (wpAny_newTuple ?_ hll)
    refine wpAny_bind (wpAny_newList ?_ (Nat.zero_le _))
    refine wpAny_holding ?_
    have kp2 : Kp hp2 ((hp2.push (seqObj "tuple" vs.toArray 0)).push (seqObj "list" #[] 0)) := (Kp.push _ _).trans (Kp.push _ _)
    have ho3 := kp2 _ _ ho1
    have kp3 : Kp h ((hp2.push (seqObj "tuple" vs.toArray 0)).push (seqObj "list" #[] 0)) := kp1.trans kp2
    show wpAny (model prog w) A.in1.in1 _ _ _ ⟨(hp2.push (seqObj "tuple" vs.toArray 0)).push (seqObj "list" #[] 0), g, d, t, os⟩
    generalize (hp2.push (seqObj "tuple" vs.toArray 0)).push (seqObj "list" #[] 0) = h3 at *
    dsimp only
    have hn2 : ¬ vs.toArray.size < 2 := by rw [List.size_toArray]; omega
    rw [if_neg hn2, if_neg hn2]
    have ra3 : RpAll Hd h3 vs (ds.map t4) := ra.up kp3
    obtain ⟨fs, hfl, hkt⟩ := katTups4 ra3
    refine wpAny_bind (kat_kind (T := .type "bool") hkt (by rw [List.length_map, hfl]; omega) (fun v hv => ?_) (by simp) ?_)
    · obtain ⟨β, -, rfl⟩ := List.mem_map.mp hv
      exact .now
    have hkk : (Value.type "bool" != Value.type "tuple") = true := by simp
    rw [hkk]
    have est : SortSt.mk' (tuples' true) (vs.toArray.zip vs.toArray) #[] 7 none = kas_st (tuples' true) (pairsOf vs) (List.toArray (List.range n)) := by
      have e := kas_range (pairsOf vs)
      rw [pairsOf_size, hlen] at e
      show SortSt.mk' (tuples' true) (pairsOf vs) #[] 7 none = SortSt.mk' (tuples' true) ((List.toArray (List.range n)).map (kas_item (pairsOf vs))) #[] 7 none
      rw [e]
    let c : Nat → Nat → Bool := fun i j => t4lt (ds.getD i default) (ds.getD j default)
    let I : Shared → Prop := fun s' => ∃ h' k', s' = ⟨h', g, d, k', os⟩ ∧ Kp h3 h'
    have run := kas_runs (prog := prog) (w := w) (A := A.in1.in1) (E := E) (κ := tuples' true) (it := pairsOf vs) (n := n) (s := ⟨h3, g, d, t, os⟩) (G := fun p s' => p = srt c n ∧ I s')
      (Q := fun _ st' s' => arrOf st' = (srt c n).map (kas_item (pairsOf vs)) ∧ failedOf st' = none ∧ (srt c n).size = n ∧ I s')
      h2 h64 (fun p' st' s' a1 a2 a3 a4 => ⟨by rw [a2, a4.1], a3, by rw [← a4.1]; exact a1, a4.2⟩)
      (twp (n := n) I ?_ _ _ (ok_sort (by omega)) ⟨h3, t, rfl, Kp.refl _⟩ fun s' hI' => ⟨rfl, hI'⟩)
    · rw [← est] at run
      refine wpAny_bind (wpAny_mono run ?_ fun _ _ e => e)
      rintro ⟨⟨⟩, st'⟩ s' ⟨har, hf, hps, h4, k4, rfl, kk⟩
      have ho4 := kk _ _ ho3
      have out : (arrOf st').map (·.2) = ((srt c n).toList.map fun i => vs.getD i .none).toArray := by
        apply Array.toList_inj.mp
        rw [har, Array.map_map, Array.toList_map]
        exact List.map_congr_left fun i _ => by show (kas_item (pairsOf vs) i).2 = _; rw [kas_item_eq]
      have hu := get?_update_seq ho4 fun _ => (arrOf st').map (·.2)
      refine wpAny_bind (seqEpoch_at ho4 rfl ?_)
      refine wpAny_bind (listUpdate_at ho4 rfl ?_ (Nat.zero_le _) ?_)
      · rw [hf]
        simp only [bne_self_eq_false, Bool.false_eq_true, if_false]
        refine wpAny_pure ⟨_, rfl, wpAny_pure ⟨_, rfl, q _ _ _ (kp_upd (kp3.trans kk) na) ?_⟩⟩
        rw [out] at hu ⊢
        refine Rp.list_mk nH ⟨_, hu, rfl, _, rfl⟩ ?_
        exact (rp_pick ra _ fun i hi => by rw [← hn]; exact srt_lt (by omega) i (by simpa using hi)).up (kp_upd (kp3.trans kk) na)
      · rw [out, List.size_toArray, List.length_map, Array.length_toList, hps, sizeLine_eq]; omega
    · rintro i j s' C' hi hj ⟨h1, k1, rfl, kk⟩ hC
      unfold kas_cmp
      rw [kas_item_eq, kas_item_eq]
      have pick : ∀ i, i < n → Rp Hd h1 (vs.getD i .none) (t4 (ds.getD i default)) := fun i hi => by
        have := rp_pick (ra3.up kk) [i] fun j hj => by rw [List.mem_singleton.mp hj]; omega
        exact this.head
      exact lt4 (n := m) ((R.le (m := m + 3) (by omega)).in1.in1) (pick i hi) (pick j hj) fun h' k' kp => hC _ ⟨h', k', rfl, kk.trans kp⟩
end
end Mine
end
section
set_option maxRecDepth 100000
namespace Mine
open PySem PySem.W PySem.W.X PySem.Calls PyProof.Rows

abbrev minus : Str := Str.ofString "-"
abbrev dS : Str := Str.ofString "d"
def dueTab : List (PyData × PyData) := [(.int 4, .str (Str.ofString "d")), (.int 8, .str (Str.ofString "-")), (.int 10, .str (Str.ofString "l")), (.int 1, .str (Str.ofString "p"))]
def kindS (m : Int) : Str := if m.fdiv 4096 = 4 then Str.ofString "d" else if m.fdiv 4096 = 8 then Str.ofString "-" else if m.fdiv 4096 = 10 then Str.ofString "l" else Str.ofString "p"
def okM (m : Int) : Prop := m.fdiv 4096 = 4 ∨ m.fdiv 4096 = 8 ∨ m.fdiv 4096 = 10 ∨ m.fdiv 4096 = 1
def aboveF (rows : List (List Nat)) (modes : List Int) (k : Nat) : List Int := ((List.range rows.length).filter fun j => decide ((rows[k]?.getD []).take (rows[j]?.getD []).length = rows[j]?.getD [])).map fun j => modes[j]?.getD 0
def signOf (ab : List Int) (i : Nat) : Str := if ab.any (fun m => (m.fdiv (2 ^ (8 - i))).fmod 2 == 0) then minus else Txt.item (Str.ofString "rwx") ((i % 3 : Nat) : Int)
def signsF (ab : List Int) : List Str := (List.range 9).map (signOf ab)
def dueT (rows : List (List Nat)) (modes : List Int) (k : Nat) : T4 :=
  ((kindS (modes[k]?.getD 0)).cps.toList != dS.cps.toList, PySem.Spec.countIn (.str minus) ((signsF (aboveF rows modes k)).map PyData.str), Txt.join slash ((rows[k]?.getD []).map nm), kindS (modes[k]?.getD 0) ++ Txt.join (Str.ofString "") (signsF (aboveF rows modes k)))
abbrev dueOf (rows : List (List Nat)) (modes : List Int) (k : Nat) : PyData := t4 (dueT rows modes k)
def dueC (rows : List (List Nat)) (modes : List Int) (i j : Nat) : Bool := t4lt (dueT rows modes i) (dueT rows modes j)
noncomputable def dueOut (rows : List (List Nat)) (modes : List Int) : List PyData := (srt (dueC rows modes) rows.length).toList.map fun i => .tuple [.str (dueT rows modes i).2.2.2, .str (dueT rows modes i).2.2.1]
theorem kind_look {m : Int} (h : okM m) : PySem.Spec.lookup (.int (m.fdiv 4096)) dueTab = some (.str (kindS m)) := by
  unfold kindS
  rcases h with e | e | e | e <;> rw [e] <;> rfl
section
variable {prog : Program} {w : World} {mg mb : Str → Option Value} {A : Around} {s : Shared} {b : Heap} {env : Env} {Hd : List Addr} {P : Heap → Value → Prop}
theorem above_eq (rows : List (List Nat)) (modes : List Int) (k : Nat) :
    (((dsN rows.length).filter fun d => decide ((rows[k]?.getD []).take (rows[(dInt d).toNat]?.getD []).length = rows[(dInt d).toNat]?.getD [])).map fun d => PyData.int (modes[(dInt d).toNat]?.getD 0)) = (aboveF rows modes k).map PyData.int := by
  unfold aboveF dsN
  rw [List.filter_map, List.map_map, List.map_map]
  rfl
theorem bits_p (ab : List Int) (q : Int) : PyData.eqvAll (((ab.map PyData.int).filter fun d => ((dInt d).fdiv q).fmod 2 == 0).map fun d => d) [] = !ab.any fun m => (m.fdiv q).fmod 2 == 0 := by
  induction ab with
  | nil => rfl
  | cons a ab ih =>
    rw [List.map_cons, List.filter_cons, List.any_cons]
    have e : (((dInt (PyData.int a)).fdiv q).fmod 2 == 0) = ((a.fdiv q).fmod 2 == 0) := rfl
    rw [e]
    cases h : (a.fdiv q).fmod 2 == 0 with
    | true => rfl
    | false => simpa using ih
theorem signs_eq (ab : List Int) : (dsN 9).map (fun d => PyData.str (signOf ab (dInt d).toNat)) = (signsF ab).map PyData.str := by
  unfold signsF dsN
  rw [List.map_map, List.map_map]
  rfl
theorem take_clip (row : List Nat) (k : Nat) : PyData.list (((row.map eS).drop ((none : Option Int).elim 0 (clipAt (row.map eS).length))).take ((some (k : Int)).elim (row.map eS).length (clipAt (row.map eS).length) - (none : Option Int).elim 0 (clipAt (row.map eS).length))) = eR (row.take k) := by
  simp only [Option.elim_none, Option.elim_some, List.drop_zero, Nat.sub_zero]
  have h := clipAt_cast (row.map eS).length (k : Int)
  rw [if_neg (by omega)] at h
  rw [← List.map_take]
  unfold eR
  congr 2
  by_cases hk : k ≤ row.length
  · congr 1; rw [List.length_map] at h ⊢; omega
  · have h1 : row.length ≤ clipAt (row.map eS).length (k : Int) := by rw [List.length_map] at h ⊢; omega
    rw [List.take_of_length_le h1, List.take_of_length_le (by omega : row.length ≤ k)]
theorem fold_len (sep : Str) : ∀ (l : List Str) (acc : Nat), (∀ x ∈ l, x.length ≤ 1) → l.foldl (fun a x => a + x.length + sep.length) acc ≤ acc + (1 + sep.length) * l.length
  | [], acc, _ => by simp
  | x :: l, acc, h => by
    rw [List.foldl_cons]
    have h1 := fold_len sep l (acc + x.length + sep.length) fun y hy => h y (.tail _ hy)
    have h2 := h x (.head _)
    rw [List.length_cons, Nat.mul_add]
    omega
theorem joinOk1 {sep : Str} {l : List Str} (h : ∀ x ∈ l, x.length ≤ 1) (hs : sep.length ≤ 1) (hl : l.length ≤ 1000) : JoinOk sep l = true := by
  unfold JoinOk
  have h1 := fold_len sep l 0 h
  have h2 : (1 + sep.length) * l.length ≤ 2 * 1000 := Nat.mul_le_mul (by omega) hl
  have hb : (10000 : Nat) ≤ sizeLine := by decide
  have : ¬ (l.foldl (fun a x => a + x.length + sep.length) 0 > sizeLine) := by omega
  simpa [Builtin.Str.tooLong] using this
theorem sign_len (ab : List Int) : ∀ x ∈ signsF ab, x.length ≤ 1 := fun x hx => by
  obtain ⟨i, _, rfl⟩ := List.mem_map.mp hx
  unfold signOf
  split
  · exact Nat.le_refl 1
  · exact Nat.le_refl 1
theorem nm_len (r : List Nat) : ∀ x ∈ r.map nm, x.length ≤ 1 := fun x hx => by
  obtain ⟨i, _, rfl⟩ := List.mem_map.mp hx
  exact Nat.le_refl 1
set_option maxHeartbeats 4000000
theorem sign_one (ab : List Int) : ∀ x ∈ signsF ab, x.length = 1 := fun x hx => by
  obtain ⟨i, _, rfl⟩ := List.mem_map.mp hx
  unfold signOf
  split
  · rfl
  · have : i % 3 = 0 ∨ i % 3 = 1 ∨ i % 3 = 2 := by omega
    rcases this with e | e | e <;> rw [e] <;> rfl
theorem kind_len (m : Int) : (kindS m).length = 1 := by
  unfold kindS
  split
  · rfl
  split
  · rfl
  split <;> rfl
theorem asg_cons {t : Value → Sem Unit} {ts : List (Value → Sem Unit)} {x : Value} {xs : List Value} {Q : Unit → Shared → Prop} {E : Value → Shared → Prop} (h : wpAny (model prog w) A (t x) (fun _ s' => wpAny (model prog w) A (assignInOrder ts xs) Q E s') E s) : wpAny (model prog w) A (assignInOrder (t :: ts) (x :: xs)) Q E s :=
  wpAny_bind (wpAny_holding h)
theorem asg_nil {Q : Unit → Shared → Prop} {E : Value → Shared → Prop} (h : Q () s) : wpAny (model prog w) A (assignInOrder [] []) Q E s := wpAny_pure h
def pairOf : PyData → PyData
  | .tuple [_, _, y, x] => .tuple [x, y]
  | d => d
abbrev Lv4 (x3 x4 : Str) : Addr → PyData → Value → Heap → Prop := fun C _ v h => ∃ m a v1 v2 v3 v4, v = .ref a ∧ IsTup h a #[v1, v2, v3, v4] ∧ h.Ns C m ∧ m x3 = some v3 ∧ m x4 = some v4
theorem store4 {scope : Scope} {cl : List (Str × Addr)} {x1 x2 x3 x4 : Str} {p1 p2 p3 p4 tp : Pos} {kt : Nat} {ts : List T4} (hh : A.handled = none) (h1 : (relabel scope env).names.lookup x1 = some .local) (h2 : (relabel scope env).names.lookup x2 = some .local) (h3 : (relabel scope env).names.lookup x3 = some .local) (h4 : (relabel scope env).names.lookup x4 = some .local) (h34 : x3 ≠ x4) (hk : scope.kind = .function) :
    ∀ (C : Addr) (H : List Addr) (s : Shared) (v : Value) (d : PyData) (Q : Unit → Shared → Prop) (E : Value → Shared → Prop) (m : Str → Option Value), C ∈ H → d ∈ ts.map t4 → s.heap.Ns C m → Rp H s.heap v d → (∀ h' k m', h'.Ns C m' → Lv4 x3 x4 C d v h' → KpH [C] s.heap h' → Q () { s with heap := h', toks := k }) → wpAny (model prog w) A (assign (.Tuple [.Name x1 p1, .Name x2 p2, .Name x3 p3, .Name x4 p4] kt tp) (compEnvC scope cl C env) v) Q E s := by
  intro C H s v d Q E m hC hd hn r q
  obtain ⟨p, hp, rfl⟩ := List.mem_map.mp hd
  obtain ⟨a, vs, rfl, haH, ht, rv⟩ := r.tup_inv
  obtain ⟨v1, v2, v3, v4, rfl⟩ : ∃ v1 v2 v3 v4, vs = [v1, v2, v3, v4] := by
    have := rv.length
    match vs, this with
    | [a, b, c, d], _ => exact ⟨_, _, _, _, rfl⟩
  have haC : a ≠ C := fun e => haH (e ▸ hC)
  have hl : ((compEnvC scope cl C env).scope.kind == .class || ((compEnvC scope cl C env).scope.kind == .module && (compEnvC scope cl C env).locals != (compEnvC scope cl C env).globals)) = false := by
    show (scope.kind == .class || (scope.kind == .module && _)) = false
    rw [hk]; rfl
  refine assign_Tuple_tuple hh ht rfl rfl fun h₀ he => ?_
  have kp0 : Kp s.heap h₀ := fun b o e => he b o (Nat.ne_of_lt (Heap.lt_size e)) e
  have hn0 : h₀.Ns C m := hn.keeps kp0
  have ht0 : IsTup h₀ a #[v1, v2, v3, v4] := ht.keeps kp0
  show wpAny _ A (assignInOrder [assign (.Name x1 p1) (compEnvC scope cl C env), assign (.Name x2 p2) (compEnvC scope cl C env), assign (.Name x3 p3) (compEnvC scope cl C env), assign (.Name x4 p4) (compEnvC scope cl C env)] [v1, v2, v3, v4]) _ _ _
  refine asg_cons (wpAny_assign_Name (wpAny_storeName_local (env := compEnvC scope cl C env) h1 hn0 (fun g1 hn1 hs1 => ?_) hl))
  refine asg_cons (wpAny_assign_Name (wpAny_storeName_local (env := compEnvC scope cl C env) h2 hn1 (fun g2 hn2 hs2 => ?_) hl))
  refine asg_cons (wpAny_assign_Name (wpAny_storeName_local (env := compEnvC scope cl C env) h3 hn2 (fun g3 hn3 hs3 => ?_) hl))
  refine asg_cons (wpAny_assign_Name (wpAny_storeName_local (env := compEnvC scope cl C env) h4 hn3 (fun g4 hn4 hs4 => ?_) hl))
  refine asg_nil (q g4 _ _ hn4 ⟨_, a, v1, v2, v3, v4, rfl, ?_, hn4, ?_, if_pos rfl⟩ ?_)
  · obtain ⟨o, e, r⟩ := ht0
    exact ⟨o, (hs4.2 a haC).trans ((hs3.2 a haC).trans ((hs2.2 a haC).trans ((hs1.2 a haC).trans e))), r⟩
  · show (if x3 = x4 then _ else _) = _
    rw [if_neg h34, if_pos rfl]
  · exact fun b o hb e => (KpH.same hs4 (.head _)) b o hb ((KpH.same hs3 (.head _)) b o hb ((KpH.same hs2 (.head _)) b o hb ((KpH.same hs1 (.head _)) b o hb (kp0 b o e))))
theorem dueOut_eq (rows : List (List Nat)) (modes : List Int) : (((srt (fun i j => t4lt (((List.range rows.length).map (dueT rows modes)).getD i default) (((List.range rows.length).map (dueT rows modes)).getD j default)) rows.length).toList.map fun i => t4 (((List.range rows.length).map (dueT rows modes)).getD i default)).filter fun _ => true).map pairOf = dueOut rows modes := by
  by_cases h0 : 0 < rows.length
  · have g : ∀ i, i < rows.length → ((List.range rows.length).map (dueT rows modes)).getD i default = dueT rows modes i := fun i hi => by
      rw [List.getD_eq_getElem?_getD, List.getElem?_map, List.getElem?_range hi]; rfl
    have e : srt (fun i j => t4lt (((List.range rows.length).map (dueT rows modes)).getD i default) (((List.range rows.length).map (dueT rows modes)).getD j default)) rows.length = srt (dueC rows modes) rows.length :=
      srt_congr h0 fun i j hi hj => by rw [g i hi, g j hj]; rfl
    rw [e]
    unfold dueOut
    rw [List.filter_eq_self.mpr (fun _ _ => rfl), List.map_map]
    refine List.map_congr_left fun i hi => ?_
    have := srt_lt h0 i (Array.mem_toList_iff.mp hi)
    show pairOf (t4 _) = _
    rw [g i this]; rfl
  · have : rows.length = 0 := by omega
    unfold dueOut
    rw [this]
    rfl
theorem due_spec (G : Gd w mg mb s.heap) {n : Nat} (R : Rm (n + 5) A) {v1 v2 : Value} {rows : List (List Nat)} {modes : List Int} (r1 : Rp Hd s.heap v1 (.list (rows.map eR))) (r2 : Rp Hd s.heap v2 (.list (modes.map PyData.int))) (hs : Hs Hd s.heap) (hok : ∀ r ∈ rows, okR r) (hz : rows.length ≤ 63) (hml : modes.length = rows.length) (hmo : ∀ m ∈ modes, okM m) (h2r : 2 ≤ rows.length) :
    Gives prog w A s (call (.ref 219) [v1, v2] []) (Da Hd (.list (dueOut rows modes))) := by
  have o1 := G.X 219 _ rfl
  refine call_fnK [(Str.ofString "rows", .d (.list (rows.map eR))), (Str.ofString "modes", .d (.list (modes.map PyData.int)))] hs R.room o1 rfl G.nl ?_ rfl rfl ?_ ?_ ?_ ?_ ?_
  · exact codeRec_of G.X (by rfl)
  · exact rfl
  · intro L x hx
    change x ∈ [(_, _), (_, _)] at hx
    simp only [List.mem_cons, List.not_mem_nil, or_false] at hx
    rcases hx with rfl | rfl
    · exact .inr ⟨rfl, rfl⟩
    · exact .inr ⟨rfl, rfl⟩
  · intro L p hp
    change p ∈ [(_, _), (_, _), (_, _), (_, _)] at hp
    simp only [List.mem_cons, List.not_mem_nil, or_false] at hp
    rcases hp with rfl | rfl | rfl | rfl <;> rfl
  · exact sc_cons r1 (fun L => .inr ⟨rfl, rfl⟩) (sc_cons r2 (fun L => .inr ⟨rfl, rfl⟩) sc_nil)
  intro h₁ k L F V Q E q
  have hh : ∀ e, (A.deeper e).handled = none := fun e => R.hh
  have hbig : (100000 : Nat) ≤ sizeLine := by decide
  refine st_open F V own_l ?_
  intro D h2 k2 hD F2 _ _ V2 O2
  have G2 := G.up F2.k0
  refine st_forO (dsN rows.length) (fun _ => sg [(Str.ofString "rows", .d (.list (rows.map eR))), (Str.ofString "modes", .d (.list (modes.map PyData.int))), (Str.ofString "due", .v (.ref D))]) (fun i => (List.range i).map (dueOf rows modes)) F2 V2 (.head _) O2 (fun a ha => .tail _ (inl_of a ha)) (Own.cons own_c) ?_ (sl (sl_cons (sl_cons (sl_cons sl_nil)))) ?_ ?_
  · refine iter_rangeN (hh _) (ev_callT (bltn G2 (by rfl) rfl) (evs_cons (up_da [] (.int rows.length)) (ev_callB (bltn G2 (by rfl) rfl) (evs_cons (up_da _ _) (ev_varC V2 rfl) evs_nil) fun s' vs kb a => ?_) evs_nil) fun s' vs kb a => ?_) (by omega)
    · obtain ⟨v, rfl, r⟩ := alls1 a
      refine (g_lenL r (by simp; omega)).imp fun _ _ _ p => ?_
      rw [List.length_map] at p
      exact Rp.sub p (fun _ h => nomatch h)
    · obtain ⟨v, rfl, r⟩ := alls1 a
      exact g_range1 r
  · intro I i d h3 k3 hI hd F3 V3 O3 Q' E' q'
    obtain ⟨hi, rfl⟩ := range_get hd
    have G3 := G.up F3.k0
    have hri : rows[i]? = some rows[i] := List.getElem?_eq_getElem hi
    have okri : okR rows[i] := hok _ (List.getElem_mem hi)
    have him : i < modes.length := by omega
    have hmi : modes[i]? = some modes[i] := List.getElem?_eq_getElem him
    refine st_setP ((aboveF rows modes i).map PyData.int) F3 V3 (Own.cons own_c) ?_ ?_
    · rw [← above_eq]
      refine ev_compF _ _ V3 F3.hs (iter_rangeN (hh _) (ev_callT (bltn G3 (by rfl) rfl) (evs_cons (up_da [] (.int rows.length)) (ev_callB (bltn G3 (by rfl) rfl) (evs_cons (up_da _ _) (ev_varC V3 rfl) evs_nil) fun s' vs kb a => ?_) evs_nil) fun s' vs kb a => ?_) (by omega)) (by simp; omega) ?_ ?_ rfl ?_
      · obtain ⟨v, rfl, r⟩ := alls1 a
        refine (g_lenL r (by simp; omega)).imp fun _ _ _ p => ?_
        rw [List.length_map] at p
        exact Rp.sub p (fun _ h => nomatch h)
      · obtain ⟨v, rfl, r⟩ := alls1 a
        exact g_range1 r
      · intro C b' H d hd ext V'
        obtain ⟨j, hj, rfl⟩ := List.mem_map.mp hd
        have hj' : j < rows.length := List.mem_range.mp hj
        have hrj : rows[j]? = some rows[j] := List.getElem?_eq_getElem hj'
        have okrj : okR rows[j] := hok _ (List.getElem_mem hj')
        show Tr _ _ _ _ _ (decide ((rows[i]?.getD []).take (rows[(j : Int).toNat]?.getD []).length = rows[(j : Int).toNat]?.getD []))
        rw [Int.toNat_natCast, hri, hrj, Option.getD_some, Option.getD_some, ← eqvR]
        refine test_one (tr_cmp (P2 := Da H (eR rows[j])) (up_da H (eR (rows[i].take rows[j].length))) ?_ ?_ fun s' a c _ p1 p2 => g_eqd p1 p2 (layR (okR_take okri _)) (layR okrj) ?_)
        · rw [← take_clip]
          refine sliceL ext.hs ?_ trivial ?_ (by rw [List.length_map]; have := okri.1; omega)
          · exact ev_sub (up_da H (.list (rows.map eR))) (ev_varC V' rfl) (ev_varC V' rfl) fun s' a c _ p1 p2 => g_item p1 p2 (by omega) (by omega) (by rw [Int.toNat_natCast, List.getElem?_map, hri]; rfl)
          · refine ev_callB (Ps := [Da H (eR rows[j])]) (bltn (G3.up ext.kp) (by rfl) rfl) (evs_cons (up_da _ _) ?_ evs_nil) fun s' vs kb a => ?_
            · exact ev_sub (up_da H (.list (rows.map eR))) (ev_varC V' rfl) (ev_varL V' rfl) fun s' a c _ p1 p2 => g_item p1 p2 (by omega) (by omega) (by rw [Int.toNat_natCast, List.getElem?_map, hrj]; rfl)
            · obtain ⟨v, rfl, r⟩ := alls1 a
              refine (g_lenL r (by simp; have := okrj.1; omega)).imp fun _ _ _ p => ?_
              rw [List.length_map] at p
              exact Rp.sub p (fun _ h => nomatch h)
        · exact ev_sub (up_da H (.list (rows.map eR))) (ev_varC V' rfl) (ev_varL V' rfl) fun s' a c _ p1 p2 => g_item p1 p2 (by omega) (by omega) (by rw [Int.toNat_natCast, List.getElem?_map, hrj]; rfl)
        · rw [depR, depR]
          have := R.un
          show A.units + 3 + min 1 1 < 9900
          omega
      · intro C b' H d hd _ ext V'
        obtain ⟨j, hj, rfl⟩ := List.mem_map.mp hd
        have hj' : j < rows.length := List.mem_range.mp hj
        have ej : modes[(dInt (PyData.int (j : Int))).toNat]?.getD 0 = modes[j] := by show modes[(j : Int).toNat]?.getD 0 = _; rw [Int.toNat_natCast, List.getElem?_eq_getElem (by omega : j < modes.length)]; rfl
        rw [ej]
        exact ev_sub (up_da H (.list (modes.map PyData.int))) (ev_varC V' rfl) (ev_varL V' rfl) fun s' a c _ p1 p2 => g_item p1 p2 (by omega) (by omega) (by rw [Int.toNat_natCast, List.getElem?_map, List.getElem?_eq_getElem (by omega : j < modes.length)]; rfl)
      · intro y c h
        have := mem_of_lookup h
        simp only [List.mem_cons, Prod.mk.injEq, List.not_mem_nil, or_false] at this
        rcases this with ⟨rfl, rfl⟩ | ⟨rfl, rfl⟩ | ⟨rfl, rfl⟩ <;> rfl
    · intro h4 k4 F4 kk4 kq4 V4
      have G4 := G.up F4.k0
      refine st_setComp1 (dsN 9) (fun d => PyData.str (signOf (aboveF rows modes i) (dInt d).toNat)) F4 V4 (Own.cons own_l) (iter_rangeN (hh _) (ev_callT (bltn G4 (by rfl) rfl) (evs_cons (up_da [] (.int 9)) ev_int evs_nil) fun s' vs kb a => ?_) (by omega)) (by decide) ?_ ?_ rfl ?_ ?_
      · obtain ⟨v, rfl, r⟩ := alls1 a
        exact g_range1 r
      · intro C ci b' H d hd ext V'
        obtain ⟨j, hj, rfl⟩ := List.mem_map.mp hd
        have hj' : j < 9 := List.mem_range.mp hj
        have hpow : (2 : Int) ^ (8 - j) ≠ 0 ∧ ((2 : Int) ^ (8 - j)).natAbs < 1073741824 := by
          rcases (by omega : j = 0 ∨ j = 1 ∨ j = 2 ∨ j = 3 ∨ j = 4 ∨ j = 5 ∨ j = 6 ∨ j = 7 ∨ j = 8) with rfl | rfl | rfl | rfl | rfl | rfl | rfl | rfl | rfl <;> exact ⟨by decide, by decide⟩
        have h8 : (8 - (j : Int)).toNat = 8 - j := by omega
        have hpw : (Builtin.Int.intBits 2 : Int) * (8 - (j : Int)) ≤ 2 ^ 27 := by
          have e2 : Builtin.Int.intBits 2 = 2 := by decide
          rw [e2]; omega
        show Ev _ _ _ _ _ (Da H (.str (signOf (aboveF rows modes i) j)))
        have hab : (aboveF rows modes i).length ≤ sizeLine := by
          unfold aboveF; rw [List.length_map]
          have := List.length_filter_le (fun j => decide ((rows[i]?.getD []).take (rows[j]?.getD []).length = rows[j]?.getD [])) (List.range rows.length)
          rw [List.length_range] at this
          omega
        generalize aboveF rows modes i = ab at V' hab ⊢
        refine ev_ifexp (β := !ab.any fun m => (m.fdiv (2 ^ (8 - j))).fmod 2 == 0) ?_ ?_ ?_
        · rw [← bits_p]
          refine tr_cmp (P2 := Da H (.list [])) (up_da H (.list (((ab.map PyData.int).filter fun d => ((dInt d).fdiv (2 ^ (8 - j))).fmod 2 == 0).map fun d => d))) (Ev.imp (ev_compF (fun d => d) (fun d => ((dInt d).fdiv (2 ^ (8 - j))).fmod 2 == 0) V' ext.hs (iter_list (hh _) (Ev.imp (ev_varPC V' rfl) fun _ _ _ p => p.1)) ?_ ?_ ?_ rfl ?_) fun _ _ _ p => p.1) (ev_list (ds := []) ext.hs evs_nil) fun s' a c _ p1 p2 => g_eqd p1 p2 (lay_list fun d hd => ?_) rfl ?_
          · rw [List.length_map]; exact hab
          · intro C2 b2 H2 d2 hd2 ext2 V2'
            obtain ⟨m, hm, rfl⟩ := List.mem_map.mp hd2
            refine test_one (tr_cmp (P2 := Da H2 (.int 0)) (up_da H2 (.int ((m.fdiv (2 ^ (8 - j))).fmod 2))) (ev_bin (up_da H2 (.int (m.fdiv (2 ^ (8 - j))))) (ev_bin (up_da H2 (.int m)) (ev_varL V2' rfl) (P2 := Da H2 (.int (2 ^ (8 - j)))) ?_ fun s' a c _ p1 p2 => g_fdiv p1 p2 hpow.1 hpow.2) ev_int fun s' a c _ p1 p2 => g_mod p1 p2 (by decide)) ev_int fun s' a c _ p1 p2 => g_eqi p1 p2)
            rw [← h8]
            exact ev_bin (up_da H2 (.int 2)) ev_int (ev_bin (up_da H2 (.int 8)) ev_int (ev_varC V2' rfl) fun s' a c _ p1 p2 => g_subi p1 p2) fun s' a c _ p1 p2 => g_pow p1 p2 (by omega) hpw
          · intro C2 b2 H2 d2 hd2 _ ext2 V2'
            exact ev_varL V2' rfl
          · intro y c h
            have := mem_of_lookup h
            change (y, c) ∈ [(_, _)] at this
            simp only [List.mem_cons, Prod.mk.injEq, List.not_mem_nil, or_false] at this
            obtain ⟨e1, e2⟩ := this
            rw [e1, e2]; rfl
          · obtain ⟨d', hd', rfl⟩ := List.mem_map.mp hd
            obtain ⟨m, _, rfl⟩ := List.mem_map.mp (List.mem_filter.mp hd').1
            simp only [PyData.canLay0]
          · have := R.un
            show A.units + 3 + min _ 1 < 9900
            omega
        · intro hb
          have e : signOf ab j = Txt.item (Str.ofString "rwx") ((j : Int).fmod 3) := by
            unfold signOf; rw [if_neg (by rw [Bool.not_eq_true']  at hb; rw [hb]; decide), show (j : Int).fmod 3 = ((j % 3 : Nat) : Int) from fmod_nat j 3]
          rw [e]
          refine ev_sub (up_da H (.str (Str.ofString "rwx"))) ev_str (ev_bin (up_da H (.int j)) (ev_varC V' rfl) ev_int fun s' a c _ p1 p2 => g_mod p1 p2 (by decide)) fun s' a c _ p1 p2 => g_itemS p1 p2 ?_ ?_
          · rcases fmod3 (j : Int) with e | e | e <;> rw [e] <;> decide
          · rcases fmod3 (j : Int) with e | e | e <;> rw [e] <;> decide
        · intro hb
          have e : signOf ab j = minus := by
            unfold signOf; rw [if_pos (by rw [Bool.not_eq_false'] at hb; exact hb)]
          rw [e]
          exact ev_str
      · intro h5 k5 F5 kk5 kq5 V5
        rw [signs_eq] at V5
        have G5 := G.up F5.k0
        have O5 : Ol _ D _ h5 := (O3.up kk4 inl_of kq4).up kk5 inl_of kq5
        refine @st_setd _ _ _ _ _ _ _ _ _ _ _ _ _ _ _ _ (.str (kindS modes[i])) F5 V5 (Own.cons own_l) ?_ ?_ rfl rfl
        · refine @ev_dictI _ _ _ _ _ _ _ _ _ _ _ dueTab _ _ G5.nl rfl (kind_look (hmo _ (List.getElem_mem him))) ?_ rfl (by decide) rfl rfl (by decide) (by decide) (fun _ _ => by with_unfolding_all rfl)
          refine ev_bin (up_da _ _) ?_ ev_int fun s' a c _ p1 p2 => g_fdiv p1 p2 (by decide) (by decide)
          exact ev_sub (up_da _ (.list (modes.map PyData.int))) (ev_varC V5 rfl) (ev_varC V5 rfl) fun s' a c _ p1 p2 => g_item p1 p2 (by omega) (by omega) (by rw [Int.toNat_natCast, List.getElem?_map, hmi]; rfl)
        intro h6 k6 F6 kk6 kq6 V6
        have O6 := O5.up kk6 inl_of kq6
        have ek : kindS (modes[i]?.getD 0) = kindS modes[i] := by rw [hmi]; rfl
        refine st_append (dueOf rows modes i) F6 V6 (.head _) (ld_L V6 rfl) O6 ?_ ?_ ?_
        · refine ev_tuple (ds := [_, _, _, _]) F6.hs (evs_cons (up_da _ _) ?_ (evs_cons (up_da _ _) ?_ (evs_cons (up_da _ _) ?_ (evs_cons (up_da _ _) ?_ evs_nil)))) (by show (4 : Nat) ≤ sizeLine; decide)
          · refine (ev_cmp (P1 := Da _ (.str (kindS modes[i]))) (up_da _ _) (ev_varL V6 rfl) ev_str fun s' a c _ p1 p2 => g_nes p1 p2).imp fun h v _ p => ?_
            obtain rfl : v = _ := p
            rw [← ek]; exact Rp.bool _
          · refine ev_methL (ev_varP V6 rfl) PySem.F.slot_list_count PySem.F.type_list_count (evs_cons (up_da [] (.str minus)) ev_str evs_nil) fun s' a vs kb pl av => ?_
            obtain ⟨v, rfl, r⟩ := alls1 av
            exact (g_count pl r).imp fun h v _ p => by obtain ⟨t, rfl⟩ := Rp.int_inv p; exact .int _ _
          · refine ev_methS (z := slash) (ev_str (Hd := [])) PySem.F.slot_str_join PySem.F.type_str_join (evs_cons (up_da _ (eR rows[i])) (ev_sub (up_da _ (.list (rows.map eR))) (ev_varC V6 rfl) (ev_varC V6 rfl) fun s' a c _ p1 p2 => g_item p1 p2 (by omega) (by omega) (by rw [Int.toNat_natCast, List.getElem?_map, hri]; rfl)) evs_nil) fun s' t vs kb av => ?_
            obtain ⟨v, rfl, r⟩ := alls1 av
            have e : eR rows[i] = .list ((rows[i].map nm).map PyData.str) := by unfold eR; rw [List.map_map]; rfl
            rw [e] at r
            have e2 : (dueT rows modes i).2.2.1 = Txt.join slash (rows[i].map nm) := by unfold dueT; rw [hri]; rfl
            rw [e2]
            exact (g_join r (joinOk1 (nm_len _) (by decide) (by rw [List.length_map]; have := okri.1; omega))).imp fun h v _ p => by obtain ⟨t, rfl⟩ := Rp.str_inv p; exact .str _ _
          · have e4 : (dueT rows modes i).2.2.2 = kindS modes[i] ++ Txt.join (Str.ofString "") (signsF (aboveF rows modes i)) := by unfold dueT; rw [← ek]
            rw [e4]
            have jl : (Txt.join (Str.ofString "") (signsF (aboveF rows modes i))).length = (signsF (aboveF rows modes i)).length := PySem.W.KT.join_ones _ fun x hx => sign_one _ x hx
            have jm : (signsF (aboveF rows modes i)).length = 9 := by unfold signsF; rw [List.length_map, List.length_range]
            refine ev_bin (P2 := Da [] (.str (Txt.join (Str.ofString "") (signsF (aboveF rows modes i))))) (up_da [] (.str (kindS modes[i]))) (Ev.imp (ev_varL V6 rfl) fun h v _ p => by obtain ⟨t, rfl⟩ := Rp.str_inv p; exact .str _ _) (ev_methS (z := Str.ofString "") (ev_str (Hd := [])) PySem.F.slot_str_join PySem.F.type_str_join (evs_cons (up_da _ (.list ((signsF (aboveF rows modes i)).map PyData.str))) (Ev.imp (ev_varP V6 rfl) fun _ _ _ p => p.1) evs_nil) fun s' t vs kb av => ?_) fun s' a c _ p1 p2 => (g_adds p1 p2 (by rw [jl, jm, kind_len]; decide)).imp fun h v _ p => by obtain ⟨t, rfl⟩ := Rp.str_inv p; exact .str _ _
            obtain ⟨v, rfl, r⟩ := alls1 av
            exact (g_join r (joinOk1 (sign_len _) (by decide) (by rw [jm]; decide))).imp fun h v _ p => by obtain ⟨t, rfl⟩ := Rp.str_inv p; exact .str _ _
        · rw [List.length_map, List.length_range]; omega
        · intro h7 k7 F7 kk7 V7 O7
          refine st_nil (q' h7 k7 (kk4.trans (kk5.trans (kk6.trans kk7))) F7 (V7.less (sl (sl_cons (sl_cons (sl_cons sl_nil))))) ?_)
          rw [List.range_succ, List.map_append]
          exact O7
      · intro y c h
        have := mem_of_lookup h
        simp only [List.mem_cons, Prod.mk.injEq, List.not_mem_nil, or_false] at this
        rcases this with ⟨rfl, rfl⟩
        rfl
      · intro a ha; exact .tail _ (inl_of a ha)
  · intro h3 k3 F3 V3 O3
    have hdn : D ∉ Hd := fun m => by obtain ⟨o, e⟩ := hs D m; rw [F3.nw D (.head _)] at e; cases e
    have hdl : (dsN rows.length).length = rows.length := by unfold dsN; rw [List.length_map, List.length_range]
    have ro := O3.rp (H' := Hd) (fun a ha => List.mem_append.mpr (.inr ha)) hdn
    rw [hdl] at ro
    have ro' : Rp Hd h3 (.ref D) (.list (((List.range rows.length).map (dueT rows modes)).map t4)) := by rw [List.map_map]; exact ro
    have G3 := G.up F3.k0
    refine st_return (P := fun h v => Rp Hd h v (.list (dueOut rows modes))) ?_ fun v h' k' kp' p => q v h' k' (F3.k0.trans kp') p
    rw [← dueOut_eq]
    refine (ev_compT (Lv := Lv4 (Str.ofString "path") (Str.ofString "signs")) (cl := []) pairOf (fun _ => true) (hs.up F3.k0) (iter_listT (hh _) (ev_callB (bltn G3 (by rfl) rfl) (evs_cons (up_da _ _) (ev_name (ld_L V3 rfl) (up_da Hd _) ro') evs_nil) fun s' vs kb a => ?_)) ?_ rfl ?_ ?_ ?_ ?_).imp fun h v _ p => p.1
    · obtain ⟨v, rfl, r⟩ := alls1 a
      exact sortedT ((hs.up F3.k0).up kb) R.deeper (by rw [List.length_map, List.length_range]) h2r (by omega) r
    · rw [List.length_map, Array.length_toList, srt_size (by omega)]; omega
    · intro C H s' v d Q E m hC hd hn r q
      obtain ⟨i, hi, rfl⟩ := List.mem_map.mp hd
      exact store4 (ts := [((List.range rows.length).map (dueT rows modes)).getD i default]) (hh _) rfl rfl rfl rfl (by decide) rfl C H s' v _ Q E m hC (.head _) hn r q
    · rintro C d v h h' ⟨m, a, v1, v2, v3, v4, e, ht, hn, e3, e4⟩ kp
      exact ⟨m, a, v1, v2, v3, v4, e, ht.keeps kp, hn.keeps kp, e3, e4⟩
    · intro C b' H v d hd ext r lv
      intro s' Q' E' kb' q'
      rw [List.forIn_nil]; exact wpAny_pure (q' s'.heap s'.toks (Kp.refl _))
    · intro C b' H v d hd _ ext r lv
      obtain ⟨i, hi, rfl⟩ := List.mem_map.mp hd
      obtain ⟨m, a, v1, v2, v3, v4, rfl, ht, hn, e3, e4⟩ := lv
      obtain ⟨a', vs, ea, -, ht', rv⟩ := Rp.tup_inv r
      cases ea
      have : vs = [v1, v2, v3, v4] := by
        obtain ⟨o, ho, hc, n1, hd1⟩ := ht
        obtain ⟨o', ho', hc', n2, hd2⟩ := ht'
        rw [ho] at ho'; cases ho'
        rw [hd1] at hd2; cases hd2
        rfl
      subst this
      exact ev_tuple (ds := [_, _]) ext.hs (evs_cons (up_da _ _) (ev_nameD (loads_local hn e4) rv.tail.tail.tail.head) (evs_cons (up_da _ _) (ev_nameD (loads_local hn e3) rv.tail.tail.head) evs_nil)) (by show (2 : Nat) ≤ sizeLine; decide)
end
end Mine
end
section
set_option maxRecDepth 100000
namespace Mine
open PySem PySem.W PySem.W.X PySem.Calls PyProof.Rows
set_option maxHeartbeats 4000000
/-- an iterator over pairs -/
def It2 (prog : Program) (w : World) (A : Around) (Hd : List Addr) (h : Heap) (I : Addr) (wr : List Addr) (ds : List (PyData × PyData)) : Prop :=
  ∃ (fp : List Addr) (Pt : Nat → Array Value → Prop) (St : Nat → Heap → Prop) (Mid : Nat → Addr → Heap → Prop), WalksU prog w A I fp wr ds.length Pt St Mid ∧ St 0 h ∧ (∀ a ∈ fp, a ∈ wr ∨ a ∉ Hd) ∧ (∀ i h', St i h' → ∀ a ∈ wr, ∃ o, h'.get? a = some o) ∧
    (∀ i vals, Pt i vals → ∃ v1 v2 d, vals = #[v1, v2] ∧ ds[i]? = some d ∧ Rp (wr ++ Hd) h v1 d.1 ∧ Rp (wr ++ Hd) h v2 d.2)
def Iter2 (prog : Program) (w : World) (A : Around) (b : Heap) (Hd : List Addr) (t : Sem Value) (ds : List (PyData × PyData)) : Prop :=
  ∀ (s : Shared) (Q : Value → Shared → Prop) (E : Value → Shared → Prop), Kp b s.heap → (∀ I wr h' k, Kp s.heap h' → (∀ a ∈ wr, s.heap.get? a = none) → It2 prog w A Hd h' I wr ds → Q (.ref I) { s with heap := h', toks := k }) →
    wpAny (model prog w) A t (fun x s₁ => wpAny (model prog w) A (pyIter x) Q E s₁) E s
section
variable {prog : Program} {w : World} {A : Around} {s : Shared} {env : Env} {Q : Flow → Shared → Prop} {E : Value → Shared → Prop} {rest body orelse : List Stmt} {pos : Pos} {s₀ : Heap} {N Hd : List Addr} {σ : Str → Option Vw}
theorem st_for2 {x y : Str} {px py tp : Pos} {kt : Nat} {iter : Expr} (ds : List (PyData × PyData)) (τ : Str → Option Vw) (out : Nat → List PyData) (Jp : Nat → Prop) (outE : List PyData) {D : Addr} (hh : A.handled = none) (F : FS s₀ N Hd s.heap) (V : Fv env (N ++ Hd) s.heap σ) (hD : D ∈ N) (ol : Ol (N ++ Hd) D (out 0) s.heap)
    (hNb : ∀ a ∈ Nb env, a ∈ N ++ Hd) (ox : Own env N x) (oy : Own env N y) (hit : Iter2 prog w A s.heap (N ++ Hd) (eval iter env) ds) (h0 : ∀ y d, τ y = some d → σ y = some d) (j0 : Jp 0)
    (turn : ∀ wr i d h k, (∀ a ∈ wr, s.heap.get? a = none) → ds[i]? = some d → Jp i → FS s₀ N (wr ++ Hd) h → Fv env (N ++ (wr ++ Hd)) h (upd (upd τ x (.d d.1)) y (.d d.2)) → Ol (N ++ (wr ++ Hd)) D (out i) h → ∀ (Q' : Flow → Shared → Prop) (E' : Value → Shared → Prop),
      (∀ h' k', KpH N h h' → FS s₀ N (wr ++ Hd) h' → Fv env (N ++ (wr ++ Hd)) h' τ → Ol (N ++ (wr ++ Hd)) D (out (i + 1)) h' → Jp (i + 1) → Q' .next { s with heap := h', toks := k' }) →
      (∀ h' k', KpH N h h' → FS s₀ N (wr ++ Hd) h' → Fv env (N ++ (wr ++ Hd)) h' τ → Ol (N ++ (wr ++ Hd)) D outE h' → Q' .brk { s with heap := h', toks := k' }) → wpAny (model prog w) A (execs body env) Q' E' { s with heap := h, toks := k })
    (els : ∀ h k, FS s₀ N Hd h → Fv env (N ++ Hd) h τ → Ol (N ++ Hd) D (out ds.length) h → Jp ds.length → ∀ (Q' : Flow → Shared → Prop) (E' : Value → Shared → Prop),
      (∀ h' k', KpH N h h' → FS s₀ N Hd h' → Fv env (N ++ Hd) h' τ → Ol (N ++ Hd) D outE h' → Q' .next { s with heap := h', toks := k' }) → wpAny (model prog w) A (execs orelse env) Q' E' { s with heap := h, toks := k })
    (done : ∀ h' k, KpH N s.heap h' → FS s₀ N Hd h' → Fv env (N ++ Hd) h' τ → Ol (N ++ Hd) D outE h' → wpAny (model prog w) A (execs rest env) Q E { s with heap := h', toks := k })
    (hk : env.scope.kind = .function := by rfl) (hfs : ∀ x, foldedSetIterable iter env x = pure x := by intro _; rfl) :
    wpAny (model prog w) A (execs (.For (.Tuple [.Name x px, .Name y py] kt tp) iter body orelse pos :: rest) env) Q E s := by
  refine wpAny_execs_cons (wpAny_For (hit s _ _ (Kp.refl _) fun I wr h2 k2 kp2 hwr it => ?_) hfs)
  obtain ⟨fp, Pt, St, Mid, W, hst, hfp, live, hP⟩ := it
  have nwr : ∀ a, (∃ o, s.heap.get? a = some o) → a ∉ wr := fun a ⟨o, e⟩ m => by rw [hwr a m] at e; cases e
  have hNh : ∀ a ∈ N ++ Hd, a ∉ wr := fun a ha => nwr a (F.hs a ha)
  have hNw : ∀ a ∈ N, a ∉ wr := fun a ha => hNh a (inl_of a ha)
  have hfN : ∀ a ∈ fp, a ∉ N := fun a ha m => by
    rcases hfp a ha with q | q
    · exact hNw a m q
    · exact q (inl_of a m)
  have memW : ∀ a, a ∈ wr → a ∈ N ++ (wr ++ Hd) := fun a m => List.mem_append.mpr (.inr (List.mem_append.mpr (.inl m)))
  have memI : ∀ a, a ∈ N ++ Hd → a ∈ N ++ (wr ++ Hd) := fun a m => by
    rcases List.mem_append.mp m with m | m
    · exact inl_of a m
    · exact List.mem_append.mpr (.inr (List.mem_append.mpr (.inr m)))
  have memP : ∀ a, a ∈ N ++ (wr ++ Hd) → a ∈ wr ++ (N ++ Hd) := fun a m => by
    rcases List.mem_append.mp m with m | m
    · exact List.mem_append.mpr (.inr (inl_of a m))
    · rcases List.mem_append.mp m with m | m
      · exact inl_of a m
      · exact List.mem_append.mpr (.inr (List.mem_append.mpr (.inr m)))
  have hDw : D ∉ wr := hNw D hD
  have hs0 : ∀ a o, s₀.get? a = some o → a ∉ wr := fun a o e => nwr a ⟨o, F.k0 a o e⟩
  have lw : env.locals ∉ wr := hNh _ (hNb _ (.head _))
  have cw : ∀ y c, env.cells.lookup y = some c → c ∉ wr := fun y c e => hNh _ (hNb _ (.tail _ (List.mem_map.mpr ⟨_, mem_of_lookup e, rfl⟩)))
  have upV : ∀ {h h' υ}, Fv env (N ++ (wr ++ Hd)) h υ → KpH wr h h' → Fv env (N ++ (wr ++ Hd)) h' υ := fun V k => V.upN k memW lw cw
  have upO : ∀ {h h' o}, Ol (N ++ (wr ++ Hd)) D o h → KpH wr h h' → Ol (N ++ (wr ++ Hd)) D o h' := fun ⟨ys, hp, r⟩ k =>
    ⟨ys, hp.at fun o e => k _ _ hDw e, r.upH fun b o n e => k b o (fun m => n (memW b m)) e⟩
  have upF : ∀ {h h'}, FS s₀ N (wr ++ Hd) h → KpH wr h h' → (∀ a ∈ wr, ∃ o, h'.get? a = some o) → FS s₀ N (wr ++ Hd) h' := fun F1 k lv =>
    ⟨fun a o e => k a o (hs0 a o e) (F1.k0 a o e), F1.nw, fun a ha => by
      by_cases z : a ∈ wr
      · exact lv a z
      · obtain ⟨o, e⟩ := F1.hs a ha; exact ⟨o, k a o z e⟩⟩
  have dnF : ∀ {h h'}, FS s₀ N (wr ++ Hd) h → KpH wr h h' → FS s₀ N Hd h' := fun F1 k =>
    ⟨fun a o e => k a o (hs0 a o e) (F1.k0 a o e), F1.nw, fun a ha => by obtain ⟨o, e⟩ := F1.hs a (memI a ha); exact ⟨o, k a o (hNh a ha) e⟩⟩
  have dnV : ∀ {h h' υ}, Fv env (N ++ (wr ++ Hd)) h υ → KpH wr h h' → Fv env (N ++ Hd) h' υ := fun V k => (upV V k).sub memI
  have dnO : ∀ {h h' o}, Ol (N ++ (wr ++ Hd)) D o h → KpH wr h h' → Ol (N ++ Hd) D o h' := fun O k => let ⟨ys, hp, r⟩ := upO O k; ⟨ys, hp, r.sub memI⟩
  have kold : ∀ {h h' h'' : Heap}, KpH N h h' → (∀ a o, h.get? a = some o → a ∉ wr) → KpH wr h' h'' → KpH N h h'' := fun a n b c o m e => b c o (n c o e) (a c o m e)
  have sold : ∀ a o, s.heap.get? a = some o → a ∉ wr := fun a o e => nwr a ⟨o, e⟩
  have F2 : FS s₀ N (wr ++ Hd) h2 := ⟨F.k0.trans kp2, F.nw, fun a ha => by
    by_cases z : a ∈ wr
    · exact live _ _ hst a z
    · refine F.hs.up kp2 a ?_
      rcases List.mem_append.mp ha with m | m
      · exact inl_of a m
      · rcases List.mem_append.mp m with m | m
        · exact absurd m z
        · exact List.mem_append.mpr (.inr m)⟩
  have hide : ∀ a ∈ N ++ (wr ++ Hd), a ∈ N ++ Hd ∨ s.heap.get? a = none := fun a ha => by
    rcases List.mem_append.mp ha with m | m
    · exact .inl (inl_of a m)
    · rcases List.mem_append.mp m with m | m
      · exact .inr (hwr a m)
      · exact .inl (List.mem_append.mpr (.inr m))
  have V2 : Fv env (N ++ (wr ++ Hd)) h2 τ := (V.less h0).hide kp2 hide
  have O2 : Ol (N ++ (wr ++ Hd)) D (out 0) h2 := ol.hide kp2 hide
  refine codeAny_forLoop_any (fun n s' => ∃ h' k i, s' = { s with heap := h', toks := k } ∧ St i h' ∧ i ≤ ds.length ∧ n = ds.length + 1 - i ∧ KpH N s.heap h' ∧ KpH (N ++ (wr ++ Hd)) h2 h' ∧ FS s₀ N (wr ++ Hd) h' ∧ Fv env (N ++ (wr ++ Hd)) h' τ ∧ Ol (N ++ (wr ++ Hd)) D (out i) h' ∧ Jp i) ?_ (ds.length + 1)
    ⟨h2, k2, 0, rfl, hst, Nat.zero_le _, rfl, kp2.toH, (Kp.refl _).toH, F2, V2, O2, j0⟩
  rintro n s' ⟨h, k, i, rfl, hsti, hi, rfl, kN, kA, F3, V3, O3, jp⟩
  by_cases hlt : i < ds.length
  · refine W.item i _ _ _ hlt hsti fun T vals h₁ k₁ hPv hT hMid hk₁ => ?_
    obtain ⟨v1, v2, d, rfl, hd, r1, r2⟩ := hP i vals hPv
    refine W.go _ _ _ i T _ _ _ hMid fun h₃ hst₃ hk₃ => ?_
    have kw : KpH wr h h₃ := fun c o m e => hk₃ c o m (hk₁ c o m e)
    have hT₃ : IsTup h₃ T #[v1, v2] := by
      obtain ⟨o, e, r⟩ := hT
      exact ⟨o, hk₃ T o (W.apart i T _ hMid) e, r⟩
    refine assign_Tuple_tuple hh hT₃ rfl rfl fun h₄ he => ?_
    have kp4 : Kp h₃ h₄ := fun b o e => he b o (Nat.ne_of_lt (Heap.lt_size e)) e
    have kw4 : KpH wr h h₄ := kw.trans kp4.toH
    have kA4 : KpH (N ++ (wr ++ Hd)) h2 h₄ := kA.trans fun c o m e => kw4 c o (fun z => m (memW c z)) e
    have rr1 : Rp (N ++ (wr ++ Hd)) h₄ v1 d.1 := (r1.sub memP).upH kA4
    have rr2 : Rp (N ++ (wr ++ Hd)) h₄ v2 d.2 := (r2.sub memP).upH kA4
    show wpAny _ A (assignInOrder [assign (.Name x px) env, assign (.Name y py) env] [v1, v2]) _ _ _
    refine asg_cons (wpAny_assign_Name (put (s := { s with heap := h₄, toks := k₁ }) (d := .d d.1) (upV V3 kw4) ox (fun a ha => inl_of a ha) rr1 (fun h5 k5 kN5 kq5 hx5 V5 => ?_) hk))
    refine asg_cons (wpAny_assign_Name (put (s := { s with heap := h5, toks := k5 }) (d := .d d.2) V5 oy (fun a ha => inl_of a ha) (rr2.upH fun c o m e => kN5 c o (fun z => m (inl_of c z)) e) (fun h6 k6 kN6 kq6 hx6 V6 => ?_) hk))
    have F4 := upF F3 kw4 fun a ha => let ⟨o, e⟩ := live _ _ hst₃ a ha; ⟨o, kp4 _ _ e⟩
    have kN46 : KpH N h₄ h6 := kN5.trans kN6
    have kq46 : Kq h₄ h6 := Kq.trans kq5 kq6
    have F6 := F4.up kN46 fun a ha => hx6 a (hx5 a (F4.hs a (inl_of a ha)))
    have O6 : Ol (N ++ (wr ++ Hd)) D (out i) h6 := (upO O3 kw4).up kN46 (fun a ha => inl_of a ha) kq46
    have kNs : ∀ {h'}, KpH N h6 h' → KpH N s.heap h' := fun kk => (kold kN sold kw4).trans (kN46.trans kk)
    refine asg_nil (turn wr i d h6 k6 hwr hd jp F6 V6 O6 _ _ (fun h' k' kk F' V' O' j' => ?_) fun h' k' kk F' V' O' => ?_)
    · exact ⟨ds.length + 1 - (i + 1), by omega, h', k', i + 1, rfl, W.frame _ _ _ hst₃ (fun c hc o e => (kN46.trans kk) c o (hfN c hc) (kp4 c o e)), hlt, rfl, kNs kk, kA4.trans fun c o m e => (kN46.trans kk) c o (fun z => m (inl_of c z)) e, F', V', O', j'⟩
    · exact done h' k' (kNs kk) (dnF F' (Kp.refl _).toH) (dnV V' (Kp.refl _).toH) (dnO O' (Kp.refl _).toH)
  · have hin : i = ds.length := by omega
    subst hin
    refine W.done _ _ _ hsti fun h₁ k₁ hk₁ => ?_
    refine els h₁ k₁ (dnF F3 hk₁) (dnV V3 hk₁) (dnO O3 hk₁) jp _ _ fun h' k' kk F' V' O' => ?_
    exact done h' k' ((kold kN sold hk₁).trans kk) F' V' O'
end
end Mine
end
section
set_option maxRecDepth 100000
namespace Mine
open PySem PySem.W PySem.W.X PySem.Calls PyProof.Rows
open AutoSeq1 (wpAny_loadPart')
set_option maxHeartbeats 4000000
section
variable {prog : Program} {w : World} {A : Around} {E : Value → Shared → Prop} {s : Shared}
theorem nextOf_tup {it t : Addr} {i : Nat} {items : Array Value} {x : Value} {Q : Value → Shared → Prop} (hit : s.heap.IsTupleIter it t i) (ht : s.heap.IsTuple t items) (hx : items[i]? = some x)
    (q : ∀ h', h'.IsTupleIter it t (i + 1) → Heap.SameBut it s.heap h' → Q x { s with heap := h' }) : wpAny (model prog w) A (Builtin.SmallTypes.nextOf (.ref it)) Q E s := by
  obtain ⟨o, ho, hc, hd⟩ := id hit
  obtain ⟨ol, hol, _, nl, hdl⟩ := ht
  have hT : s.TypeIs (.ref it) "tuple_iterator" := ⟨o, ho, hc⟩
  unfold Builtin.SmallTypes.nextOf
  refine wpAny_bind (wpAny_callSpecial?_slot (name := Str.ofString "__next__") hT F.slot_tuple_iterator_next (wpAny_call_entry F.slot_tuple_iterator_next hT F.entry_tuple_iterator_next ?_ (F.args_tuple_iterator_next_1 _)))
  show wpAny _ _ (field (.ref it) 0 >>= _) _ _ s
  refine wpAny_bind (wpAny_field ho hd (x := .ref t) rfl ?_)
  refine m_ite_f rfl ?_
  show wpAny _ _ (field (.ref it) 1 >>= _) _ _ s
  refine wpAny_bind (wpAny_field ho hd (x := .int i 0) rfl ?_)
  show wpAny _ _ (seqItems? (.ref t) >>= _) _ _ s
  refine wpAny_bind (wpAny_seqItems hol hdl ?_)
  simp only [Int.toNat_natCast, hx]
  refine wpAny_bind (wpAny_setField ho hd (by simp) (wpAny_pure ⟨x, rfl, wpAny_pure (q _ ?_ (Heap.SameBut.update ..))⟩))
  exact ⟨_, Heap.get?_update_self _ ho (Obj.isFreed_of_fields (Obj.data_mapFields hd _)), (Obj.cls_mapFields ..).trans hc, by rw [Obj.data_mapFields hd]; simp [rawInt]⟩
theorem nextOf_tup_end {it t : Addr} {i : Nat} {items : Array Value} {Q : Value → Shared → Prop} (hh : A.handled = none) (hit : s.heap.IsTupleIter it t i) (ht : s.heap.IsTuple t items) (hx : items[i]? = none)
    (q : ∀ h' e, Heap.ExtBut it s.heap h' → (∃ o, h'.get? e = some o ∧ o.cls = .type "StopIteration") → E (.ref e) { s with heap := h' }) : wpAny (model prog w) A (Builtin.SmallTypes.nextOf (.ref it)) Q E s := by
  obtain ⟨o, ho, hc, hd⟩ := id hit
  obtain ⟨ol, hol, _, nl, hdl⟩ := ht
  have hT : s.TypeIs (.ref it) "tuple_iterator" := ⟨o, ho, hc⟩
  unfold Builtin.SmallTypes.nextOf
  refine wpAny_bind (wpAny_callSpecial?_slot (name := Str.ofString "__next__") hT F.slot_tuple_iterator_next (wpAny_call_entry F.slot_tuple_iterator_next hT F.entry_tuple_iterator_next ?_ (F.args_tuple_iterator_next_1 _)))
  show wpAny _ _ (field (.ref it) 0 >>= _) _ _ s
  refine wpAny_bind (wpAny_field ho hd (x := .ref t) rfl ?_)
  refine m_ite_f rfl ?_
  show wpAny _ _ (field (.ref it) 1 >>= _) _ _ s
  refine wpAny_bind (wpAny_field ho hd (x := .int i 0) rfl ?_)
  show wpAny _ _ (seqItems? (.ref t) >>= _) _ _ s
  refine wpAny_bind (wpAny_seqItems hol hdl ?_)
  simp only [Int.toNat_natCast, hx]
  refine wpAny_bind (wpAny_rule (wpAny_bind (wpAny_setField ho hd (by simp) ?_)))
  show wpAny _ _ (newExc (.type "StopIteration") [] >>= _) _ _ _
  refine wpAny_bind ?_
  simp only [newExc, newTuple]
  refine wpAny_bind (wpAny_newObj_type ?_ (by size_fits))
  refine wpAny_bind (m := firstArgMember _ _) (wpAny_of_eq (a := Value.none) rfl ?_)
  refine wpAny_newObj_type ?_ (by size_fits)
  simp only [raiseNew]
  refine wpAny_bind (wpAny_handled ?_)
  rw [show A.in1.handled = none from hh]
  refine wpAny_bind (wpAny_pure (wpAny_throw ?_))
  exact q _ _ (((Heap.SameBut.update ..).extBut.push _).push _) ⟨_, Heap.get?_push_size _ rfl, rfl⟩
theorem draws_tup (hh : A.handled = none) (it t : Addr) (hne : t ≠ it) (items : Array Value) :
    Draws prog w A it [it, t] items.size (fun i v => items[i]? = some v) (fun i h => h.IsTupleIter it t i ∧ h.IsTuple t items) where
  live := fun _ _ st => let ⟨o, ho, _⟩ := st.1; ⟨o, ho⟩
  frame := fun _ _ _ st hk => ⟨let ⟨o, ho, r⟩ := st.1; ⟨o, hk it (by simp) o ho, r⟩, let ⟨o, ho, r⟩ := st.2; ⟨o, hk t (by simp) o ho, r⟩⟩
  item := fun i s Q E hi st hQ => by
    refine nextOf_tup st.1 st.2 (x := items[i]) (by simp [hi]) fun h' hit' hs' => ?_
    exact hQ _ h' s.toks (by simp [hi]) ⟨hit', st.2.extBut hs'.extBut hne⟩ hs'
  done := fun s Q E st hE => nextOf_tup_end hh st.1 st.2 (by simp) hE
theorem meets_enumT (l : Addr) (items : Array Value) (n : Nat) (dct : Option Addr) (sl : Array (Option Value)) :
    Meets (Builtin.«enumerate.__new__» ⟨[.type "enumerate", .ref l], []⟩) (fun _ R s => s.heap.get? l = some { cls := .type "tuple", dict := dct, data := .seq items n, slots := sl } ∧
      R (.ok (.ret (.ref (s.heap.push { cls := .type "tuple_iterator", data := .fields #[.ref l, .int 0 0] }).objs.size)))
        { s with heap := (s.heap.push { cls := .type "tuple_iterator", data := .fields #[.ref l, .int 0 0] }).push { cls := .type "enumerate", data := .fields #[.none, .bool false, .ref s.heap.objs.size, rawInt 0, .none, .none] } }) :=
  .of_wp fun prog w A R s h => by
    obtain ⟨hp, g, d, tk, os⟩ := s; obtain ⟨hl, h⟩ := h
    have hsub := sub_enumerate
    have hL : Heap.IsTuple (Shared.heap ⟨hp, g, d, tk, os⟩) l items := ⟨_, hl, rfl, n, rfl⟩
    wp_walk using wpAny_loadPart' hl
    refine wpAny_stack_any fun st => wpAny_pure ?_
    split
    · rename_i c _ _ _ _ _
      cases (c == Value.type "enumerate")
      · wp_walk using wpAny_loadPart' hl, wpAny_pyIter_tuple hL
        exact ⟨_, rfl, h⟩
      · wp_walk using wpAny_loadPart' hl, wpAny_pyIter_tuple hL
        exact ⟨_, rfl, h⟩
    · wp_walk using wpAny_loadPart' hl, wpAny_pyIter_tuple hL
      exact ⟨_, rfl, h⟩
theorem call_enumT {l : Addr} {items : Array Value} {Q : Value → Shared → Prop} (hL : IsTup s.heap l items)
    (h : ∀ h', IsEnum h' (s.heap.objs.size + 1) s.heap.objs.size 0 .none → h'.IsTupleIter s.heap.objs.size l 0 → Kp s.heap h' → Q (.ref (s.heap.objs.size + 1)) { s with heap := h' }) :
    wpAny (model prog w) A (call (.type "enumerate") [.ref l]) Q E s := by
  obtain ⟨⟨c, dct, dt, sl⟩, hl, hc, n, hd⟩ := hL
  replace hc : c = .type "tuple" := hc
  replace hd : dt = .seq items n := hd
  subst hc hd
  refine callType_new F.called_enumerate (by decide) (F.typeCall_enumerate_1 _) (F.newCall_enumerate_1 _) (fun obj => F.args_object_init_2 obj _) F.entry_enumerate_new (meets_enumT l items n dct sl) ⟨hl, ?_⟩
  have hz : (s.heap.push { cls := .type "tuple_iterator", data := .fields #[.ref l, .int 0 0] }).objs.size = s.heap.objs.size + 1 := Heap.size_push ..
  show _ ∧ _
  rw [hz]
  have he : IsEnum ((s.heap.push { cls := .type "tuple_iterator", data := .fields #[.ref l, .int 0 0] }).push { cls := .type "enumerate", data := .fields #[.none, .bool false, .ref s.heap.objs.size, rawInt 0, .none, .none] }) (s.heap.objs.size + 1) s.heap.objs.size 0 .none := by
    have := Heap.get?_push_size (s.heap.push { cls := .type "tuple_iterator", data := .fields #[.ref l, .int 0 0] }) (o := { cls := .type "enumerate", data := .fields #[.none, .bool false, .ref s.heap.objs.size, rawInt 0, .none, .none] }) rfl
    rw [hz] at this; exact this
  exact ⟨⟨_, he, rfl⟩, h _ he ⟨_, Heap.get?_push_of_some _ (Heap.get?_push_size _ rfl), rfl, rfl⟩ fun b o x => Heap.get?_push_of_some _ (Heap.get?_push_of_some _ x)⟩
end
end Mine
end
section
set_option maxRecDepth 100000
namespace Mine
open PySem PySem.W PySem.W.X PySem.Calls PyProof.Rows
set_option maxHeartbeats 4000000
def prD (d : PyData × PyData) : PyData := .tuple [d.1, d.2]
section
variable {prog : Program} {w : World} {A : Around} {E : Value → Shared → Prop} {s : Shared} {env : Env} {b : Heap} {Hd : List Addr}
theorem walksTT (hh : A.handled = none) (I ax : Addr) (hne : ax ≠ I) (items : Array Value) (Ts : Nat → Addr) (vals : Nat → Array Value)
    (hit : ∀ j, j < items.size → items[j]? = some (.ref (Ts j))) (hTI : ∀ j, j < items.size → Ts j ≠ I) :
    WalksU prog w A I (I :: ax :: (List.range items.size).map Ts) [I] items.size (fun j v => j < items.size ∧ v = vals j)
      (fun j h => h.IsTupleIter I ax j ∧ h.IsTuple ax items ∧ ∀ k, k < items.size → h.IsTuple (Ts k) (vals k))
      (fun j T h => (j < items.size ∧ T = Ts j) ∧ h.IsTupleIter I ax (j + 1) ∧ h.IsTuple ax items ∧ ∀ k, k < items.size → h.IsTuple (Ts k) (vals k)) where
  sub := fun b hb => by rw [List.mem_singleton.mp hb]; exact .head _
  frame := fun _ _ _ st hk => ⟨let ⟨o, e, r⟩ := st.1; ⟨o, hk I (.head _) o e, r⟩, let ⟨o, e, r⟩ := st.2.1; ⟨o, hk ax (.tail _ (.head _)) o e, r⟩,
    fun k hk' => let ⟨o, e, r⟩ := st.2.2 k hk'; ⟨o, hk (Ts k) (.tail _ (.tail _ (List.mem_map.mpr ⟨k, List.mem_range.mpr hk', rfl⟩))) o e, r⟩⟩
  item := fun i s Q E hi st hQ => by
    refine wpAny_pyNext_tuple_item st.1 st.2.1 (x := .ref (Ts i)) (hit i hi) fun h' hit' hs' => ?_
    have tup : ∀ k, k < items.size → h'.IsTuple (Ts k) (vals k) := fun k hk' => (st.2.2 k hk').extBut hs'.extBut (hTI k hk')
    exact hQ (Ts i) (vals i) h' s.toks ⟨hi, rfl⟩ (tup i hi) ⟨⟨hi, rfl⟩, hit', st.2.1.extBut hs'.extBut hne, tup⟩ fun b o hb e => hs'.extBut b o (fun h => hb (by simp [h])) e
  go := fun _ _ _ _ _ s Q _ hm hQ => letGo_tupleiter hm.2.1 (hQ s.heap hm.2 fun _ _ _ e => e)
  apart := fun j T _ hm hmem => hTI j hm.1.1 (hm.1.2 ▸ List.mem_singleton.mp hmem)
  done := fun s Q E st hQ => wpAny_pyNext_tuple_end hh st.1 st.2.1 (by simp) fun h' he' => hQ h' s.toks fun b o hb e => he' b o (fun h => hb (by simp [h])) e
  self := fun _ _ _ _ st hQ => wpAny_pyIter_tupleiter st.1 hQ
theorem iter2_tup {t : Sem Value} {ds : List (PyData × PyData)} (hh : A.handled = none) (h : Ev prog w A b t (Da Hd (.tuple (ds.map prD)))) : Iter2 prog w A b Hd t ds := fun s Q E kb q =>
  h.use kb fun v h1 k1 kp1 p1 => by
    obtain ⟨ax, vs, rfl, hax, hl, r⟩ := Rp.tup_inv p1
    have hlen : vs.length = ds.length := by rw [r.length, List.length_map]
    have each : ∀ j, j < ds.length → ∃ a va vb, vs[j]? = some (.ref a) ∧ a ∉ Hd ∧ IsTup h1 a #[va, vb] ∧ ∃ d, ds[j]? = some d ∧ Rp Hd h1 va d.1 ∧ Rp Hd h1 vb d.2 := by
      intro j hj
      have hd : ds[j]? = some ds[j] := List.getElem?_eq_getElem hj
      obtain ⟨v, e1, e2⟩ := r.get' (i := j) (d := prD ds[j]) (by rw [List.getElem?_map, hd]; rfl)
      obtain ⟨a, ws, rfl, ha, ht, rv⟩ := Rp.tup_inv e2
      obtain ⟨va, vb, rfl⟩ : ∃ va vb, ws = [va, vb] := by
        have := rv.length
        match ws, this with
        | [a, b], _ => exact ⟨_, _, rfl⟩
      exact ⟨a, va, vb, e1, ha, ht, _, hd, rv.head, rv.tail.head⟩
    let Ts : Nat → Addr := fun j => match vs[j]? with | some (.ref a) => a | _ => 0
    let vals : Nat → Array Value := fun j => match h1.get? (Ts j) with | some o => (match o.data with | .seq xs _ => xs | _ => #[]) | none => #[]
    have hTs : ∀ j, j < ds.length → ∃ va vb, vs[j]? = some (.ref (Ts j)) ∧ Ts j ∉ Hd ∧ IsTup h1 (Ts j) #[va, vb] ∧ vals j = #[va, vb] ∧ ∃ d, ds[j]? = some d ∧ Rp Hd h1 va d.1 ∧ Rp Hd h1 vb d.2 := by
      intro j hj
      obtain ⟨a, va, vb, e1, ha, ht, hd⟩ := each j hj
      have ea : Ts j = a := by show (match vs[j]? with | some (.ref a) => a | _ => 0) = a; rw [e1]
      refine ⟨va, vb, by rw [ea]; exact e1, by rw [ea]; exact ha, by rw [ea]; exact ht, ?_, hd⟩
      obtain ⟨o, eo, hc, n, hdt⟩ := ht
      show (match h1.get? (Ts j) with | some o => (match o.data with | .seq xs _ => xs | _ => #[]) | none => #[]) = _
      rw [ea, eo]
      show (match o.data with | .seq xs _ => xs | _ => #[]) = _
      rw [hdt]
    have hlt : ax < h1.objs.size := by obtain ⟨o, e, _⟩ := hl; exact Heap.lt_size e
    have kpp : Kp h1 (h1.push { cls := .type "tuple_iterator", data := .fields #[.ref ax, .int 0 0] }) := Kp.push _ _
    refine iter_tuple (s := { s with heap := h1, toks := k1 }) hl (q _ [h1.objs.size] _ _ (kp1.trans kpp) (fun a ha => by rw [List.mem_singleton.mp ha]; exact fresh_of kp1 (Nat.le_refl _)) ?_)
    have hsz : vs.toArray.size = ds.length := by rw [List.size_toArray, hlen]
    have W := walksTT (prog := prog) (w := w) (A := A) hh h1.objs.size ax (Nat.ne_of_lt hlt) vs.toArray Ts vals (fun j hj => by
        obtain ⟨va, vb, e, _⟩ := hTs j (by omega)
        simpa using e) (fun j hj => by
        obtain ⟨va, vb, _, _, ⟨o, e, _⟩, _⟩ := hTs j (by omega)
        exact Nat.ne_of_lt (Heap.lt_size e))
    rw [hsz] at W
    refine ⟨_, _, _, _, W, ⟨⟨_, Heap.get?_push_size _ rfl, rfl, rfl⟩, hl.keeps kpp, fun k hk => ?_⟩, fun a ha => ?_, fun i h' st a ha => ?_, fun i vls hp => ?_⟩
    · obtain ⟨va, vb, _, _, ht, ev, _⟩ := hTs k hk
      rw [ev]; exact ht.keeps kpp
    · rcases List.mem_cons.mp ha with rfl | ha
      · exact .inl (.head _)
      · rcases List.mem_cons.mp ha with rfl | ha
        · exact .inr hax
        · obtain ⟨k, hk, rfl⟩ := List.mem_map.mp ha
          obtain ⟨va, vb, _, hn, _⟩ := hTs k (List.mem_range.mp hk)
          exact .inr hn
    · rw [List.mem_singleton.mp ha]
      obtain ⟨⟨o, e, _⟩, _⟩ := st; exact ⟨o, e⟩
    · obtain ⟨hi, rfl⟩ := hp
      obtain ⟨va, vb, _, _, _, ev, d, hd, r1, r2⟩ := hTs i hi
      have hide : ∀ a ∈ [h1.objs.size] ++ Hd, a ∈ Hd ∨ h1.get? a = none := fun a ha => by
        rcases List.mem_cons.mp ha with rfl | ha
        · exact .inr (fresh_of (Kp.refl _) (Nat.le_refl _))
        · exact .inl ha
      exact ⟨va, vb, d, ev, hd, r1.hide kpp hide, r2.hide kpp hide⟩
theorem iter2_enum {f : Str} {p pos : Pos} {e : Expr} {ds : List PyData} (hh : A.handled = none) (hs : Hs Hd b) (hf : Loads env f (.type "enumerate") b) (h : Ev prog w A b (eval e env) (Da Hd (.tuple ds)))
    (he : backTo pos (starEach [e] env) = (false, eval e env) :: backTo pos (starEach [] env) := by rfl) (hp : (backTo pos (starEach [e] env)).any (·.1) = false := by rfl) (hse : starEach [e] env = (false, eval e env) :: starEach [] env := by rfl) (hb : (f == ("__debug__" : Str)) = false := by decide) :
    Iter2 prog w A b Hd (eval (.Call (.Name f p) [e] [] pos) env) (ds.zipIdx.map fun d => (.int d.2, d.1)) := fun s Q E kb q =>
  wpAny_Call_NameR (wpAny_Name (hf _ _ _ _ _ kb (by
    refine PySem.callWith_type hp ?_
    rw [he]
    refine evalArgs_plain ?_
    rw [← he]
    refine (evs_cons (up_da _ _) h evs_nil hse : Evs prog w A b _ [Da Hd (.tuple ds)]) s _ _ kb fun vs h1 k1 kp1 a1 => ?_
    obtain ⟨v, rfl, r⟩ := alls1 a1
    obtain ⟨ax, vs, rfl, hax, hl, rv⟩ := Rp.tup_inv r
    refine call_enumT (s := { s with heap := h1, toks := k1 }) hl fun h2 hE hI kp2 => ?_
    have hlt : ax < h1.objs.size := by obtain ⟨o, e, _⟩ := hl; exact Heap.lt_size e
    have D := draws_tup (prog := prog) (w := w) (A := A.in1) hh h1.objs.size ax (Nat.ne_of_lt hlt) vs.toArray
    have W := (WalksT.enumerateD D (h1.objs.size + 1) (Nat.succ_ne_self _) (fun m => by
      rcases List.mem_cons.mp m with m | m
      · exact absurd m (Nat.succ_ne_self _)
      · exact absurd (List.mem_singleton.mp m) (Nat.ne_of_gt (Nat.lt_succ_of_lt hlt))) (.head _)).toU
    refine W.self 0 _ _ _ ⟨⟨_, hE⟩, hI, hl.keeps kp2⟩ ?_
    have hlen : vs.toArray.size = (ds.zipIdx.map fun d => ((.int d.2, d.1) : PyData × PyData)).length := by rw [List.size_toArray, List.length_map, List.length_zipIdx, rv.length]
    rw [hlen] at W
    refine q _ [h1.objs.size + 1, h1.objs.size] _ _ (kp1.trans kp2) (fun a ha => ?_) ⟨_, _, _, _, W, ⟨⟨_, hE⟩, hI, hl.keeps kp2⟩, fun a ha => ?_, fun i h' st a ha => ?_, fun i vls hp => ?_⟩
    · rcases List.mem_cons.mp ha with rfl | ha
      · exact fresh_of kp1 (Nat.le_succ _)
      · rw [List.mem_singleton.mp ha]; exact fresh_of kp1 (Nat.le_refl _)
    · rcases List.mem_cons.mp ha with rfl | ha
      · exact .inl (.head _)
      · rcases List.mem_cons.mp ha with rfl | ha
        · exact .inl (.tail _ (.head _))
        · rw [List.mem_singleton.mp ha]; exact .inr hax
    · obtain ⟨⟨old, e1⟩, ⟨o, e2, _⟩, _⟩ := st
      rcases List.mem_cons.mp ha with rfl | ha
      · exact ⟨_, e1⟩
      · rw [List.mem_singleton.mp ha]; exact ⟨o, e2⟩
    · obtain ⟨t, x, hx, rfl⟩ := hp
      obtain ⟨d, hd, rd⟩ := rv.get (i := i) (v := x) (by simpa using hx)
      have hide : ∀ a ∈ [h1.objs.size + 1, h1.objs.size] ++ Hd, a ∈ Hd ∨ h1.get? a = none := fun a ha => by
        rcases List.mem_cons.mp ha with rfl | ha
        · exact .inr (fresh_of (Kp.refl _) (Nat.le_succ _))
        · rcases List.mem_cons.mp ha with rfl | ha
          · exact .inr (fresh_of (Kp.refl _) (Nat.le_refl _))
          · exact .inl ha
      refine ⟨_, _, (.int i, d), rfl, ?_, .int _ _, rd.hide kp2 hide⟩
      rw [List.getElem?_map, List.getElem?_zipIdx, hd]
      simp)) hb)
end
end Mine
end
section
set_option maxRecDepth 100000
namespace Mine
open PySem PySem.W PySem.W.X PySem.Calls PyProof.Rows
set_option maxHeartbeats 4000000
def pr2 (p : Int × Str) : PyData × PyData := (.int p.1, .str p.2)
def tabD (t : List (Int × Str)) : PyData := .tuple ((t.map pr2).map prD)
theorem rp_pr {h : Heap} {a : Addr} {i : Int} {t u : Tok} {x : Str} {n : Nat} (e : h.get? a = some { cls := .type "tuple", data := .seq #[.int i t, .str x u] n }) : Rp [] h (.ref a) (prD (pr2 (i, x))) :=
  Rp.tup_mk (vs := [.int i t, .str x u]) nofun ⟨_, e, rfl, _, rfl⟩ (.cons (.int _ _) (.cons (.str _ _) .nil))
def tabs : List (List (Int × Str)) := [[(40960, Str.ofString "l"), (49152, Str.ofString "s"), (32768, Str.ofString "-"), (24576, Str.ofString "b"), (16384, Str.ofString "d"), (8192, Str.ofString "c"), (4096, Str.ofString "p")], [(256, Str.ofString "r")], [(128, Str.ofString "w")], [(2112, Str.ofString "s"), (2048, Str.ofString "S"), (64, Str.ofString "x")], [(32, Str.ofString "r")], [(16, Str.ofString "w")], [(1032, Str.ofString "s"), (1024, Str.ofString "S"), (8, Str.ofString "x")], [(4, Str.ofString "r")], [(2, Str.ofString "w")], [(513, Str.ofString "t"), (512, Str.ofString "T"), (1, Str.ofString "x")]]
theorem tab_rp {w : World} {mg mb : Str → Option Value} {h : Heap} (G : Gd w mg mb h) : Rp [] h (.ref 185) (.tuple (tabs.map tabD)) := by
  have p153 := rp_pr (G.X 153 _ rfl)
  have p154 := rp_pr (G.X 154 _ rfl)
  have p155 := rp_pr (G.X 155 _ rfl)
  have p156 := rp_pr (G.X 156 _ rfl)
  have p157 := rp_pr (G.X 157 _ rfl)
  have p158 := rp_pr (G.X 158 _ rfl)
  have p159 := rp_pr (G.X 159 _ rfl)
  have p161 := rp_pr (G.X 161 _ rfl)
  have p163 := rp_pr (G.X 163 _ rfl)
  have p165 := rp_pr (G.X 165 _ rfl)
  have p166 := rp_pr (G.X 166 _ rfl)
  have p167 := rp_pr (G.X 167 _ rfl)
  have p169 := rp_pr (G.X 169 _ rfl)
  have p171 := rp_pr (G.X 171 _ rfl)
  have p173 := rp_pr (G.X 173 _ rfl)
  have p174 := rp_pr (G.X 174 _ rfl)
  have p175 := rp_pr (G.X 175 _ rfl)
  have p177 := rp_pr (G.X 177 _ rfl)
  have p179 := rp_pr (G.X 179 _ rfl)
  have p181 := rp_pr (G.X 181 _ rfl)
  have p182 := rp_pr (G.X 182 _ rfl)
  have p183 := rp_pr (G.X 183 _ rfl)
  have q160 : Rp [] h (.ref 160) (tabD [(40960, Str.ofString "l"), (49152, Str.ofString "s"), (32768, Str.ofString "-"), (24576, Str.ofString "b"), (16384, Str.ofString "d"), (8192, Str.ofString "c"), (4096, Str.ofString "p")]) := Rp.tup_mk nofun ⟨_, G.X 160 _ rfl, rfl, _, rfl⟩ (.cons p153 ( .cons p154 ( .cons p155 ( .cons p156 ( .cons p157 ( .cons p158 ( .cons p159 (.nil))))))))
  have q162 : Rp [] h (.ref 162) (tabD [(256, Str.ofString "r")]) := Rp.tup_mk nofun ⟨_, G.X 162 _ rfl, rfl, _, rfl⟩ (.cons p161 (.nil))
  have q164 : Rp [] h (.ref 164) (tabD [(128, Str.ofString "w")]) := Rp.tup_mk nofun ⟨_, G.X 164 _ rfl, rfl, _, rfl⟩ (.cons p163 (.nil))
  have q168 : Rp [] h (.ref 168) (tabD [(2112, Str.ofString "s"), (2048, Str.ofString "S"), (64, Str.ofString "x")]) := Rp.tup_mk nofun ⟨_, G.X 168 _ rfl, rfl, _, rfl⟩ (.cons p165 ( .cons p166 ( .cons p167 (.nil))))
  have q170 : Rp [] h (.ref 170) (tabD [(32, Str.ofString "r")]) := Rp.tup_mk nofun ⟨_, G.X 170 _ rfl, rfl, _, rfl⟩ (.cons p169 (.nil))
  have q172 : Rp [] h (.ref 172) (tabD [(16, Str.ofString "w")]) := Rp.tup_mk nofun ⟨_, G.X 172 _ rfl, rfl, _, rfl⟩ (.cons p171 (.nil))
  have q176 : Rp [] h (.ref 176) (tabD [(1032, Str.ofString "s"), (1024, Str.ofString "S"), (8, Str.ofString "x")]) := Rp.tup_mk nofun ⟨_, G.X 176 _ rfl, rfl, _, rfl⟩ (.cons p173 ( .cons p174 ( .cons p175 (.nil))))
  have q178 : Rp [] h (.ref 178) (tabD [(4, Str.ofString "r")]) := Rp.tup_mk nofun ⟨_, G.X 178 _ rfl, rfl, _, rfl⟩ (.cons p177 (.nil))
  have q180 : Rp [] h (.ref 180) (tabD [(2, Str.ofString "w")]) := Rp.tup_mk nofun ⟨_, G.X 180 _ rfl, rfl, _, rfl⟩ (.cons p179 (.nil))
  have q184 : Rp [] h (.ref 184) (tabD [(513, Str.ofString "t"), (512, Str.ofString "T"), (1, Str.ofString "x")]) := Rp.tup_mk nofun ⟨_, G.X 184 _ rfl, rfl, _, rfl⟩ (.cons p181 ( .cons p182 ( .cons p183 (.nil))))
  exact Rp.tup_mk nofun ⟨_, G.X 185 _ rfl, rfl, _, rfl⟩ (.cons q160 ( .cons q162 ( .cons q164 ( .cons q168 ( .cons q170 ( .cons q172 ( .cons q176 ( .cons q178 ( .cons q180 ( .cons q184 (.nil)))))))))))
noncomputable def pk (test : Int → Bool) (dflt : Str) : List (Int × Str) → Str
  | [] => dflt
  | (b, c) :: r => if test b then c else pk test dflt r
theorem pk_at {test : Int → Bool} {dflt : Str} : ∀ {t : List (Int × Str)} {j : Nat} {b : Int} {c : Str}, (∀ k < j, ∀ d, t[k]? = some d → test d.1 = false) → t[j]? = some (b, c) → test b = true → pk test dflt t = c
  | [], j, b, c, _, e, _ => by cases e
  | (b', c') :: t, 0, b, c, _, e, h => by
    cases e
    unfold pk; rw [if_pos h]
  | (b', c') :: t, j + 1, b, c, hk, e, h => by
    have h0 := hk 0 (Nat.succ_pos _) (b', c') rfl
    unfold pk
    rw [if_neg (by rw [h0]; decide)]
    exact pk_at (fun k hk' d hd => hk (k + 1) (Nat.succ_lt_succ hk') d hd) e h
theorem pk_none {test : Int → Bool} {dflt : Str} : ∀ {t : List (Int × Str)}, (∀ k < t.length, ∀ d, t[k]? = some d → test d.1 = false) → pk test dflt t = dflt
  | [], _ => rfl
  | (b', c') :: t, hk => by
    have h0 := hk 0 (Nat.succ_pos _) (b', c') rfl
    unfold pk
    rw [if_neg (by rw [h0]; decide)]
    exact pk_none fun k hk' d hd => hk (k + 1) (Nat.succ_lt_succ hk') d hd
def tst (m : Int) (i : Nat) (b : Int) : Bool := if i = 0 then Builtin.bitAnd m 61440 == b else Builtin.bitAnd m b == b
noncomputable def sgn (m : Int) (i : Nat) : Str := pk (tst m i) (if i = 0 then Str.ofString "?" else Str.ofString "-") (tabs[i]?.getD [])
noncomputable def outs (m : Int) (i : Nat) : List PyData := ((List.range i).map (sgn m)).map PyData.str
theorem outs_succ (m : Int) (i : Nat) : outs m (i + 1) = outs m i ++ [.str (sgn m i)] := by
  unfold outs; rw [List.range_succ, List.map_append, List.map_append]; rfl
noncomputable def modeF (m : Int) : Str := Txt.join (Str.ofString "") ((List.range 10).map (sgn m))
section
variable {prog : Program} {w : World} {mg mb : Str → Option Value} {A : Around} {s : Shared} {b : Heap} {env : Env} {Hd : List Addr} {P : Heap → Value → Prop}
theorem sgn_len (m : Int) (i : Nat) : (sgn m i).length = 1 := by
  have h : ∀ (test : Int → Bool) (dflt : Str) (t : List (Int × Str)), dflt.length = 1 → (∀ p ∈ t, p.2.length = 1) → (pk test dflt t).length = 1 := by
    intro test dflt t hd ht
    induction t with
    | nil => exact hd
    | cons p t ih =>
      obtain ⟨b, c⟩ := p
      unfold pk
      split
      · exact ht (b, c) (.head _)
      · exact ih fun p hp => ht p (.tail _ hp)
  refine h _ _ _ (by split <;> rfl) fun p hp => ?_
  cases e : tabs[i]? with
  | none => rw [e] at hp; cases hp
  | some t =>
    rw [e] at hp
    have ht : t ∈ tabs := List.mem_of_getElem? e
    have all : ∀ t ∈ tabs, ∀ p ∈ t, p.2.length = 1 := by decide
    exact all t ht p hp
theorem filemode_spec (G : Gd w mg mb s.heap) {n : Nat} (R : Rm (n + 2) A) {v : Value} {m : Int} (r : Rp Hd s.heap v (.int m)) : Gives prog w A s (call (.ref 192) [v] []) (Da Hd (.str (modeF m))) := by
  obtain ⟨tk, rfl⟩ := r.int_inv
  refine Gives.imp (P := Da [] (.str (modeF m))) ?_ fun h v _ p => by obtain ⟨t, rfl⟩ := Rp.str_inv p; exact .str _ _
  refine call_fnP (Hd := []) [(Str.ofString "mode", .d (.int m))] (fun _ h => nomatch h) R.room (G.X 192 _ rfl) rfl G.nl (codeRec_of G.X (by rfl)) rfl rfl (by decide) (locs rfl) (sb_cons (v := .int m tk) (Rp.int _ _) sb_nil) ?_
  intro h₁ k L F V Q E q
  have hh : ∀ e, (A.deeper e).handled = none := fun e => R.hh
  have hbig : (100000 : Nat) ≤ sizeLine := by decide
  refine st_open F V own_l ?_
  intro D h2 k2 hD F2 _ _ V2 O2
  have G2 := G.up F2.k0
  have rt : Rp ((D :: [L]) ++ []) h2 (.ref 185) (.tuple (tabs.map tabD)) := (tab_rp G).hide F2.k0 fun a ha => .inr (F2.nw a (by simpa using ha))
  refine st_for2 (x := Str.ofString "index") (y := Str.ofString "table") ((tabs.map tabD).zipIdx.map fun d => (.int d.2, d.1)) (sg [(Str.ofString "mode", .d (.int m)), (Str.ofString "perm", .v (.ref D))]) (outs m) (fun _ => True) (outs m 10) (hh _) F2 V2 (.head _) O2 ?_ (Own.cons own_l) (Own.cons own_l) ?_ (sl (sl_cons (sl_cons sl_nil))) trivial ?_ ?_ ?_
  · intro a ha; exact .tail _ (inl_of a ha)
  · exact iter2_enum (hh _) F2.hs (bltn G2 (by rfl) rfl) (ev_name (glob G2 (by rfl)) (up_da _ _) rt)
  · intro wr i d h3 k3 hwr hd _ F3 V3 O3 Q' E' qn qb
    obtain ⟨tab, ht, rfl⟩ : ∃ tab, tabs[i]? = some tab ∧ d = (.int i, tabD tab) := by
      rw [List.getElem?_map, List.getElem?_zipIdx, List.getElem?_map] at hd
      cases e : tabs[i]? with
      | none => rw [e] at hd; cases hd
      | some tab => rw [e] at hd; simp at hd; exact ⟨tab, rfl, hd.symm⟩
    have hi10 : i < 10 := by
      have := (List.getElem?_eq_some_iff.mp ht).1
      exact this
    have hol : (outs m i).length ≤ sizeLine := by unfold outs; rw [List.length_map, List.length_map, List.length_range]; omega
    refine st_for2 (x := Str.ofString "bit") (y := Str.ofString "char") (tab.map pr2) (sg [(Str.ofString "mode", .d (.int m)), (Str.ofString "perm", .v (.ref D)), (Str.ofString "index", .d (.int i)), (Str.ofString "table", .d (tabD tab))]) (fun _ => outs m i) (fun j => ∀ k < j, ∀ d, tab[k]? = some d → tst m i d.1 = false) (outs m (i + 1)) (hh _) F3 V3 (.head _) O3 ?_ (Own.cons own_l) (Own.cons own_l) (iter2_tup (hh _) (ev_varL V3 rfl)) (sl (sl_cons (sl_cons (sl_cons (sl_cons sl_nil))))) (fun k hk => absurd hk (Nat.not_lt_zero _)) ?_ ?_ ?_
    · intro a ha; exact .tail _ (inl_of a ha)
    · intro wr2 j d h4 k4 hwr2 hd4 jp F4 V4 O4 Q2 E2 qn2 qb2
      obtain ⟨⟨bt, c⟩, htj, rfl⟩ : ∃ p, tab[j]? = some p ∧ pr2 p = d := by
        rw [List.getElem?_map, Option.map_eq_some_iff] at hd4
        exact hd4
      have lss : ∀ {env H h'}, Fv env H h' (upd (upd (sg [(Str.ofString "mode", .d (.int m)), (Str.ofString "perm", .v (.ref D)), (Str.ofString "index", .d (.int i)), (Str.ofString "table", .d (tabD tab))]) (Str.ofString "bit") (.d (pr2 (bt, c)).1)) (Str.ofString "char") (.d (pr2 (bt, c)).2)) → Fv env H h' (sg [(Str.ofString "mode", .d (.int m)), (Str.ofString "perm", .v (.ref D)), (Str.ofString "index", .d (.int i)), (Str.ofString "table", .d (tabD tab))]) := fun V => V.less (sl (sl_cons (sl_cons (sl_cons (sl_cons sl_nil)))))
      have yes : tst m i bt = true → ∀ h7, Ol ((D :: [L]) ++ (wr2 ++ (wr ++ []))) D (outs m i ++ [.str c]) h7 → Ol ((D :: [L]) ++ (wr2 ++ (wr ++ []))) D (outs m (i + 1)) h7 := fun ht7 h7 O7 => by
        have e : sgn m i = c := by unfold sgn; rw [ht]; exact pk_at jp htj ht7
        rw [outs_succ, e]; exact O7
      have no : tst m i bt = false → ∀ h7 k7, Kp h4 h7 → Q2 .next { s with heap := h7, toks := k7 } := fun ht7 h7 k7 kp7 => qn2 h7 k7 kp7.toH (F4.grow kp7) (lss (V4.up kp7)) (O4.hide kp7 fun a ha => .inl ha) (fun k hk d hd => by
        rcases Nat.lt_succ_iff_lt_or_eq.mp hk with hk | rfl
        · exact jp k hk d hd
        · rw [htj] at hd; cases hd; exact ht7)
      refine st_if (β := (i : Int) == 0) (tr_cmp (up_da _ (.int i)) (ev_varL V4 rfl) ev_int fun s' a c _ p1 p2 => g_eqi p1 p2) ?_ ?_
      · intro hb h5 k5 kp5
        have hi0 : i = 0 := by have := beq_iff_eq.mp hb; omega
        have V5 := V4.up kp5
        have G5 := G.up (F4.grow kp5).k0
        refine st_if (β := Builtin.bitAnd m 61440 == bt) (tr_cmp (up_da [] (.int (Builtin.bitAnd m 61440))) (ev_callF (glob G5 (by rfl)) (G5.X 152 _ rfl) rfl (evs_cons (up_da _ (.int m)) (ev_varL V5 rfl) evs_nil) fun s' vs kb a => ?_) (ev_varL V5 rfl) fun s' a c _ p1 p2 => ?_) ?_ ?_
        · obtain ⟨v, rfl, r⟩ := alls1 a
          exact (sifmt_spec (G5.up kb) R.deeper r).imp fun h v _ p => by obtain ⟨t, rfl⟩ := Rp.int_inv p; exact .int _ _
        · obtain ⟨t, rfl⟩ := Rp.int_inv p1; exact g_eqi (.int _ _) p2
        · intro hc h6 k6 kp6
          have V6 := V5.up kp6
          refine st_append (.str c) ((F4.grow kp5).grow kp6) V6 (.head _) (ld_L V6 rfl) ((O4.hide kp5 fun a ha => .inl ha).hide kp6 fun a ha => .inl ha) (ev_varL V6 rfl) hol ?_
          intro h7 k7 F7 kk7 V7 O7
          exact wpAny_execs_cons (wpAny_Break (qb2 h7 k7 (kp5.toH.trans (kp6.toH.trans kk7)) F7 (lss V7) (yes (by unfold tst; rw [if_pos hi0]; exact hc) h7 O7)))
        · intro hc h6 k6 kp6
          exact st_nil (st_nil (st_nil (no (by unfold tst; rw [if_pos hi0]; exact hc) h6 k6 (kp5.trans kp6))))
      · intro hb h5 k5 kp5
        have hi0 : ¬ i = 0 := fun e => by rw [e] at hb; simp at hb
        have V5 := V4.up kp5
        refine st_if (β := Builtin.bitAnd m bt == bt) (tr_cmp (up_da _ (.int (Builtin.bitAnd m bt))) (ev_bin (up_da _ (.int m)) (ev_varL V5 rfl) (ev_varL V5 rfl) fun s' a c _ p1 p2 => g_band p1 p2) (ev_varL V5 rfl) fun s' a c _ p1 p2 => g_eqi p1 p2) ?_ ?_
        · intro hc h6 k6 kp6
          have V6 := V5.up kp6
          refine st_append (.str c) ((F4.grow kp5).grow kp6) V6 (.head _) (ld_L V6 rfl) ((O4.hide kp5 fun a ha => .inl ha).hide kp6 fun a ha => .inl ha) (ev_varL V6 rfl) hol ?_
          intro h7 k7 F7 kk7 V7 O7
          exact wpAny_execs_cons (wpAny_Break (qb2 h7 k7 (kp5.toH.trans (kp6.toH.trans kk7)) F7 (lss V7) (yes (by unfold tst; rw [if_neg hi0]; exact hc) h7 O7)))
        · intro hc h6 k6 kp6
          exact st_nil (st_nil (st_nil (no (by unfold tst; rw [if_neg hi0]; exact hc) h6 k6 (kp5.trans kp6))))
    · intro h4 k4 F4 V4 O4 jp Q2 E2 qn2
      have e : sgn m i = if i = 0 then Str.ofString "?" else Str.ofString "-" := by
        unfold sgn; rw [ht]; exact pk_none (by rw [List.length_map] at jp; exact jp)
      refine st_if (β := (i : Int) == 0) (tr_cmp (up_da _ (.int i)) (ev_varL V4 rfl) ev_int fun s' a c _ p1 p2 => g_eqi p1 p2) ?_ ?_
      · intro hb h5 k5 kp5
        have hi0 : i = 0 := by have := beq_iff_eq.mp hb; omega
        have V5 := V4.up kp5
        refine st_append (.str (Str.ofString "?")) (F4.grow kp5) V5 (.head _) (ld_L V5 rfl) (O4.hide kp5 fun a ha => .inl ha) ev_str hol ?_
        intro h7 k7 F7 kk7 V7 O7
        refine st_nil (st_nil (qn2 h7 k7 (kp5.toH.trans kk7) F7 V7 ?_))
        rw [outs_succ, e, if_pos hi0]; exact O7
      · intro hb h5 k5 kp5
        have hi0 : ¬ i = 0 := fun e => by rw [e] at hb; simp at hb
        have V5 := V4.up kp5
        refine st_append (.str (Str.ofString "-")) (F4.grow kp5) V5 (.head _) (ld_L V5 rfl) (O4.hide kp5 fun a ha => .inl ha) ev_str hol ?_
        intro h7 k7 F7 kk7 V7 O7
        refine st_nil (st_nil (qn2 h7 k7 (kp5.toH.trans kk7) F7 V7 ?_))
        rw [outs_succ, e, if_neg hi0]; exact O7
    · intro h4 k4 kk F4 V4 O4
      exact st_nil (qn h4 k4 kk F4 (V4.less (sl (sl_cons (sl_cons sl_nil)))) O4 trivial)
  · intro h3 k3 F3 V3 O3 _ Q' E' qn
    exact st_nil (qn h3 k3 (KpH.refl _) F3 V3 (by
      have e : ((tabs.map tabD).zipIdx.map fun d => ((.int d.2, d.1) : PyData × PyData)).length = 10 := rfl
      rw [e] at O3; exact O3))
  · intro h3 k3 kk F3 V3 O3
    have ro := O3.rp (H' := []) (fun _ h => nomatch h) (fun h => nomatch h)
    refine st_return (P := Da [] (.str (modeF m))) ?_ fun v h' k' kp' p => q v h' k' (F3.k0.trans kp') p
    refine ev_methS (z := Str.ofString "") (ev_str (Hd := [])) PySem.F.slot_str_join PySem.F.type_str_join (evs_cons (up_da [] _) (ev_name (ld_L V3 rfl) (up_da [] (.list (outs m 10))) ro) evs_nil) fun s' t vs kb av => ?_
    obtain ⟨v, rfl, r⟩ := alls1 av
    refine g_join r (joinOk1 (fun x hx => ?_) (by decide) (by rw [List.length_map, List.length_range]; decide))
    obtain ⟨i, _, rfl⟩ := List.mem_map.mp hx
    rw [sgn_len]; exact Nat.le_refl _
end
end Mine
end
section
set_option maxRecDepth 100000
namespace Mine
open PySem PySem.W PySem.W.X PySem.Calls PyProof.Rows
set_option maxHeartbeats 4000000
section
variable {prog : Program} {w : World} {A : Around} {s : Shared} {env : Env} {Q : Flow → Shared → Prop} {E : Value → Shared → Prop} {rest body orelse : List Stmt} {pos px : Pos} {s₀ b : Heap} {N Hd : List Addr} {σ : Str → Option Vw}
theorem call_iterL {l : Addr} {vs : List Value} {Q : Value → Shared → Prop} {E : Value → Shared → Prop} (hl : s.heap.IsList l vs.toArray)
    (q : ∀ h', Kp s.heap h' → h'.IsListIter s.heap.objs.size l 0 → Q (.ref s.heap.objs.size) { s with heap := h' }) : wpAny (model prog w) A (call (.builtin "iter") [.ref l]) Q E s := by
  refine call_function_entry (by decide +kernel) (by decide +kernel) kdk_entry_iter (kdk_args_iter _) ?_
  unfold Builtin.«iter»
  refine wpAny_bind (wpAny_of_eq (a := [Value.ref l]) (by kernel_rfl) ?_)
  show wpAny _ _ (pyIter (.ref l) >>= _) _ _ _
  refine wpAny_bind (wpAny_pyIter_list hl ?_)
  exact wpAny_pure ⟨_, rfl, q _ (Kp.push _ _) ⟨_, Heap.get?_push_size _ rfl, rfl, rfl⟩⟩
theorem call_nextL {I l : Addr} {i : Nat} {items : Array Value} {x : Value} {Q : Value → Shared → Prop} {E : Value → Shared → Prop} (hit : s.heap.IsListIter I l i) (hl : s.heap.IsList l items) (hx : items[i]? = some x)
    (q : ∀ h', h'.IsListIter I l (i + 1) → Heap.SameBut I s.heap h' → Q x { s with heap := h' }) : wpAny (model prog w) A (call (.builtin "next") [.ref I]) Q E s := by
  refine call_function_entry (by decide +kernel) (by decide +kernel) kdk_entry_next (kdk_args_next _) ?_
  unfold Builtin.«next»
  refine wpAny_bind (wpAny_of_eq (a := [Value.ref I]) (by kernel_rfl) ?_)
  dsimp only
  refine wpAny_bind (wpAny_specialOf (name := Str.ofString "__next__") hit.typeIs slot_listiter_next.lookup ?_)
  refine wpAny_ite_split (fun hab => absurd hab (by decide)) (fun _ => ?_)
  obtain ⟨o, ho, hc, hd⟩ := id hit
  obtain ⟨ol, hol, _, nl, hdl⟩ := id hl
  refine wpAny_bind (wpAny_callSpecial?_slot (name := Str.ofString "__next__") hit.typeIs slot_listiter_next (wpAny_call_entry slot_listiter_next hit.typeIs entry_listiter_next ?_ (args_listiter_next _)))
  show wpAny _ _ (field (.ref I) 0 >>= _) _ _ s
  refine wpAny_bind (wpAny_field ho hd (x := .ref l) rfl ?_)
  refine m_ite_f rfl ?_
  show wpAny _ _ (field (.ref I) 1 >>= _) _ _ s
  refine wpAny_bind (wpAny_field ho hd (x := .int i 0) rfl ?_)
  show wpAny _ _ (seqItems? (.ref l) >>= _) _ _ s
  refine wpAny_bind (wpAny_seqItems hol hdl ?_)
  simp only [Int.toNat_natCast, hx]
  refine wpAny_bind (wpAny_setField ho hd (by simp) (wpAny_pure ⟨x, rfl, ?_⟩))
  refine wpAny_pure ⟨_, rfl, q _ ⟨_, Heap.get?_update_self _ ho (Obj.isFreed_of_fields (Obj.data_mapFields hd _)), (Obj.cls_mapFields ..).trans hc, by rw [Obj.data_mapFields hd]; simp [rawInt]⟩ (Heap.SameBut.update ..)⟩
theorem st_iter {x y f : Str} {py p1 p2 : Pos} {ds : List PyData} (F : FS s₀ N Hd s.heap) (V : Fv env (N ++ Hd) s.heap σ) (o : Own env N x) (hf : Loads env f (.builtin "iter") s.heap) (hy : Ev prog w A s.heap (eval (.Name y py) env) (Da (N ++ Hd) (.list ds)))
    (next : ∀ I l vs h2 k, s.heap.get? I = none → s₀.get? I = none → FS s₀ N (I :: Hd) h2 → Fv env (N ++ I :: Hd) h2 (upd σ x (.v (.ref I))) → h2.IsListIter I l 0 → h2.IsList l vs.toArray → l ∉ N ++ I :: Hd → RpAll (N ++ I :: Hd) h2 vs ds → wpAny (model prog w) A (execs rest env) Q E { s with heap := h2, toks := k })
    (hk : env.scope.kind = .function := by rfl) (hsw : swapsWith (.Call (.Name f p1) [.Name y py] [] p2) (some (.Name x px)) pos.line env = pure false := by rfl)
    (he : backTo p2 (starEach [.Name y py] env) = (false, eval (.Name y py) env) :: backTo p2 (starEach [] env) := by rfl) (hse : starEach [.Name y py] env = (false, eval (.Name y py) env) :: starEach [] env := by rfl) (hp : (backTo p2 (starEach [.Name y py] env)).any (·.1) = false := by rfl) (hb : (f == ("__debug__" : Str)) = false := by decide) :
    wpAny (model prog w) A (execs (.Assign [.Name x px] (.Call (.Name f p1) [.Name y py] [] p2) pos :: rest) env) Q E s := by
  refine wpAny_execs_cons (wpAny_Assign_Name ?_ hsw)
  refine wpAny_Call_NameR (wpAny_Name (hf _ _ _ _ _ (Kp.refl _) ?_) hb)
  refine callWith_builtin hp ?_
  rw [he]
  refine evalArgs_plain ?_
  rw [← he]
  refine (evs_cons (up_da _ _) hy evs_nil hse : Evs prog w A s.heap _ [Da (N ++ Hd) (.list ds)]) s _ _ (Kp.refl _) fun vs h1 k1 kp1 a1 => ?_
  obtain ⟨v, rfl, r⟩ := alls1 a1
  obtain ⟨l, vs, rfl, hln, hl, rv⟩ := Rp.list_inv r
  refine call_iterL (s := { s with heap := h1, toks := k1 }) hl fun h2 kp2 hit => ?_
  have hI1 : h1.get? h1.objs.size = none := fresh_of (Kp.refl _) (Nat.le_refl _)
  have hI : s.heap.get? h1.objs.size = none := fresh_of kp1 (Nat.le_refl _)
  have hI0 : s₀.get? h1.objs.size = none := by
    cases e : s₀.get? h1.objs.size with
    | none => rfl
    | some o => rw [F.k0 _ _ e] at hI; cases hI
  have hide : ∀ a ∈ N ++ h1.objs.size :: Hd, a ∈ N ++ Hd ∨ h1.get? a = none := fun a ha => by
    rcases List.mem_append.mp ha with m | m
    · exact .inl (inl_of a m)
    · rcases List.mem_cons.mp m with rfl | m
      · exact .inr hI1
      · exact .inl (List.mem_append.mpr (.inr m))
  have hlt : l < h1.objs.size := by obtain ⟨o, e, _⟩ := hl; exact Heap.lt_size e
  have F2 : FS s₀ N (h1.objs.size :: Hd) h2 := ⟨F.k0.trans (Kp.trans kp1 kp2), F.nw, fun a ha => by
    rcases List.mem_append.mp ha with m | m
    · exact F.hs.up (Kp.trans kp1 kp2) a (inl_of a m)
    · rcases List.mem_cons.mp m with rfl | m
      · obtain ⟨o, e, _⟩ := hit; exact ⟨o, e⟩
      · exact F.hs.up (Kp.trans kp1 kp2) a (List.mem_append.mpr (.inr m))⟩
  have hln' : l ∉ N ++ h1.objs.size :: Hd := fun m => by
    rcases hide l m with q | q
    · exact hln q
    · obtain ⟨o, e, _⟩ := hl; rw [q] at e; cases e
  have hIN : h1.objs.size ∉ N := fun m => by obtain ⟨o, e⟩ := F.hs _ (inl_of _ m); rw [hI] at e; cases e
  refine put (s := { s with heap := h2, toks := k1 }) (d := .v (.ref h1.objs.size)) (N := N) ((V.up kp1).hide kp2 hide) o (fun a ha => inl_of a ha) rfl (fun h3 k3 kN kq hx V3 => ?_) hk
  refine next h1.objs.size l vs h3 k3 hI hI0 (F2.up kN fun a ha => hx a (F2.hs a (inl_of a ha))) V3 (hit.at fun o e => kN _ o hIN e) (Heap.IsList.at (Heap.IsList.at hl fun o e => kp2 _ o e) fun o e => kN _ o (fun m => hln' (inl_of _ m)) e) hln' ?_
  exact (rv.hide kp2 hide).upN kN
end
end Mine
end
section
set_option maxRecDepth 100000
namespace Mine
open PySem PySem.W PySem.W.X PySem.Calls PyProof.Rows
set_option maxHeartbeats 4000000
/-- an iterator over a list of data, at i -/
def LIt (H : List Addr) (h : Heap) (I : Addr) (i : Nat) (ds : List PyData) : Prop := ∃ l vs, h.IsListIter I l i ∧ h.IsList l (List.toArray vs) ∧ l ∉ H ∧ RpAll H h vs ds
section
variable {prog : Program} {w : World} {A : Around} {s : Shared} {env : Env} {Q : Flow → Shared → Prop} {E : Value → Shared → Prop} {rest body orelse : List Stmt} {pos px : Pos} {s₀ b : Heap} {N Hd H : List Addr} {σ : Str → Option Vw}
theorem LIt.upN {h h' : Heap} {I : Addr} {i : Nat} {ds : List PyData} (x : LIt (N ++ Hd) h I i ds) (hI : I ∉ N) (k : KpH N h h') : LIt (N ++ Hd) h' I i ds := by
  obtain ⟨l, vs, a, b, c, d⟩ := x
  exact ⟨l, vs, a.at fun o e => k _ o hI e, b.at fun o e => k _ o (fun m => c (inl_of _ m)) e, c, d.upN k⟩
theorem LIt.up {h h' : Heap} {I : Addr} {i : Nat} {ds : List PyData} (x : LIt H h I i ds) (k : Kp h h') : LIt H h' I i ds := by
  obtain ⟨l, vs, a, b, c, d⟩ := x
  exact ⟨l, vs, a.at fun o e => k _ o e, b.at fun o e => k _ o e, c, d.up k⟩
theorem st_next {y f itn : Str} {I : Addr} {i : Nat} {ds : List PyData} {d : PyData} {p1 p2 p3 : Pos} (F : FS s₀ N (I :: Hd) s.heap) (V : Fv env (N ++ I :: Hd) s.heap σ) (hI0 : s₀.get? I = none) (hIN : I ∉ N) (hNb : ∀ a ∈ Nb env, a ∈ N) (o : Own env N y)
    (hf : Loads env f (.builtin "next") s.heap) (hi : Loads env itn (.ref I) s.heap) (L : LIt (N ++ I :: Hd) s.heap I i ds) (hd : ds[i]? = some d)
    (next : ∀ h2 k, FS s₀ N (I :: Hd) h2 → Fv env (N ++ I :: Hd) h2 (upd σ y (.d d)) → LIt (N ++ I :: Hd) h2 I (i + 1) ds → wpAny (model prog w) A (execs rest env) Q E { s with heap := h2, toks := k })
    (hk : env.scope.kind = .function := by rfl) (hsw : swapsWith (.Call (.Name f p1) [.Name itn p2] [] p3) (some (.Name y px)) pos.line env = pure false := by rfl)
    (he : backTo p3 (starEach [.Name itn p2] env) = (false, eval (.Name itn p2) env) :: backTo p3 (starEach [] env) := by rfl) (hse : starEach [.Name itn p2] env = (false, eval (.Name itn p2) env) :: starEach [] env := by rfl) (hp : (backTo p3 (starEach [.Name itn p2] env)).any (·.1) = false := by rfl) (hb : (f == ("__debug__" : Str)) = false := by decide) (hb2 : (itn == ("__debug__" : Str)) = false := by decide) :
    wpAny (model prog w) A (execs (.Assign [.Name y px] (.Call (.Name f p1) [.Name itn p2] [] p3) pos :: rest) env) Q E s := by
  refine wpAny_execs_cons (wpAny_Assign_Name ?_ hsw)
  refine wpAny_Call_NameR (wpAny_Name (hf _ _ _ _ _ (Kp.refl _) ?_) hb)
  refine callWith_builtin hp ?_
  rw [he]
  refine evalArgs_plain ?_
  rw [← he]
  refine (evs_cons (up_va _) (ev_nameV hi hb2) evs_nil hse : Evs prog w A s.heap _ [Va (.ref I)]) s _ _ (Kp.refl _) fun vs h1 k1 kp1 a1 => ?_
  obtain ⟨v, rfl, rfl⟩ : ∃ v, vs = [v] ∧ v = .ref I := by
    obtain ⟨v, vs, rfl, e, e2⟩ := a1
    exact ⟨v, by rw [show vs = [] from e2], e⟩
  obtain ⟨l, vs, hit, hl, hln, rv⟩ := L.up kp1
  obtain ⟨x, hx, rx⟩ := rv.get' hd
  refine call_nextL (s := { s with heap := h1, toks := k1 }) hit hl (x := x) (by simpa using hx) fun h2 hit2 hs2 => ?_
  have mI : I ∈ N ++ I :: Hd := List.mem_append.mpr (.inr (.head _))
  have kI : KpH [I] h1 h2 := KpH.same hs2 (.head _)
  have kH : KpH (N ++ I :: Hd) h1 h2 := KpH.same hs2 mI
  have F1 := F.grow kp1
  have F2 : FS s₀ N (I :: Hd) h2 := ⟨fun a o e => kI a o (fun m => by rw [List.mem_singleton.mp m, hI0] at e; cases e) (F1.k0 a o e), F1.nw, fun a ha => by
    by_cases z : a = I
    · subst z; obtain ⟨o, e, _⟩ := hit2; exact ⟨o, e⟩
    · obtain ⟨o, e⟩ := F1.hs a ha; exact ⟨o, kI a o (fun m => z (List.mem_singleton.mp m)) e⟩⟩
  have V2 : Fv env (N ++ I :: Hd) h2 σ := (V.up kp1).upN kI (fun a ha => by rw [List.mem_singleton.mp ha]; exact mI) (fun m => hIN (List.mem_singleton.mp m ▸ hNb _ (.head _))) (fun y c hc m => hIN (List.mem_singleton.mp m ▸ hNb _ (.tail _ (List.mem_map.mpr ⟨_, mem_of_lookup hc, rfl⟩))))
  have L2 : LIt (N ++ I :: Hd) h2 I (i + 1) ds := ⟨l, vs, hit2, hl.at fun o e => kI _ o (fun m => hln (List.mem_singleton.mp m ▸ mI)) e, hln, rv.upH kH⟩
  refine put (s := { s with heap := h2, toks := k1 }) (d := .d d) (N := N) V2 o (fun a ha => inl_of a ha) (rx.upH kH) (fun h3 k3 kN kq hx V3 => ?_) hk
  exact next h3 k3 (F2.up kN fun a ha => hx a (F2.hs a (inl_of a ha))) V3 (L2.upN hIN kN)
theorem st_fold {x y fn itn : Str} {I f : Addr} {o : Obj} {fd : FuncData} {i0 : Nat} {ds : List PyData} (accs : Nat → PyData) {p0 p1 p2 p3 p4 p5 py : Pos} (hh : A.handled = none) (hfo : s₀.get? f = some o) (hfd : o.data = .func fd) (τ : Str → Option Vw)
    (F : FS s₀ N (I :: Hd) s.heap) (V : Fv env (N ++ I :: Hd) s.heap (upd τ y (.d (accs i0)))) (hI0 : s₀.get? I = none) (hIN : I ∉ N) (hIH : I ∉ Hd) (hNb : ∀ a ∈ Nb env, a ∈ N) (ox : Own env N x) (oy : Own env N y)
    (hi : ∀ d, (upd τ y (.d d)) itn = some (.v (.ref I))) (hfn : ∀ d e, (upd (upd τ y (.d d)) x (.d e)) fn = some (.v (.ref f))) (hyx : ∀ d e, (upd (upd τ y (.d d)) x (.d e)) y = some (.d d)) (hback : ∀ d e d', ∀ z u, (upd τ y (.d d')) z = some u → (upd (upd (upd τ y (.d d)) x (.d e)) y (.d d')) z = some u)
    (L : LIt (N ++ I :: Hd) s.heap I i0 ds) (hi0 : i0 ≤ ds.length)
    (step : ∀ i d, i0 ≤ i → ds[i]? = some d → ∀ (s' : Shared) v1 v2, Kp s₀ s'.heap → Rp (N ++ I :: Hd) s'.heap v1 (accs i) → Rp (N ++ I :: Hd) s'.heap v2 d → Gives prog w A s' (call (.ref f) [v1, v2] []) (Da (N ++ I :: Hd) (accs (i + 1))))
    (done : ∀ h' k, FS s₀ N Hd h' → Fv env (N ++ Hd) h' (upd τ y (.d (accs ds.length))) → wpAny (model prog w) A (execs rest env) Q E { s with heap := h', toks := k })
    (lit : env.kindOf itn = some .local := by rfl) (lfn : env.kindOf fn = some .local := by rfl) (ly : env.kindOf y = some .local := by rfl) (lx : env.kindOf x = some .local := by rfl)
    (hk : env.scope.kind = .function := by rfl) (hfs : ∀ v, foldedSetIterable (.Name itn p0) env v = pure v := by intro _; rfl)
    (hsw : swapsWith (.Call (.Name fn p1) [.Name y p2, .Name x p3] [] p4) (some (.Name y py)) p5.line env = pure false := by rfl)
    (he : backTo p4 (starEach [.Name y p2, .Name x p3] env) = (false, eval (.Name y p2) env) :: backTo p4 (starEach [.Name x p3] env) := by rfl) (hse : starEach [.Name y p2, .Name x p3] env = (false, eval (.Name y p2) env) :: starEach [.Name x p3] env := by rfl) (hse2 : starEach [.Name x p3] env = (false, eval (.Name x p3) env) :: starEach [] env := by rfl)
    (hb : (fn == ("__debug__" : Str)) = false := by decide) (hb2 : (itn == ("__debug__" : Str)) = false := by decide) (hb3 : (y == ("__debug__" : Str)) = false := by decide) (hb4 : (x == ("__debug__" : Str)) = false := by decide) :
    wpAny (model prog w) A (execs (.For (.Name x px) (.Name itn p0) [.Assign [.Name y py] (.Call (.Name fn p1) [.Name y p2, .Name x p3] [] p4) p5] [] pos :: rest) env) Q E s := by
  have mI : I ∈ N ++ I :: Hd := List.mem_append.mpr (.inr (.head _))
  refine wpAny_execs_cons (wpAny_For ?_ hfs)
  refine (ev_nameV (ld_L V (hi _) lit hk) hb2).use (Kp.refl _) fun v h1 k1 kp1 e1 => ?_
  obtain rfl : v = .ref I := e1
  have L1 := L.up kp1
  obtain ⟨l1, vs1, hit1, _⟩ := id L1
  refine wpAny_pyIter_listiter (s := { s with heap := h1, toks := k1 }) hit1 ?_
  refine codeAny_forLoop_any (fun n s' => ∃ h' k i, s' = { s with heap := h', toks := k } ∧ i0 ≤ i ∧ i ≤ ds.length ∧ n = ds.length + 1 - i ∧ FS s₀ N (I :: Hd) h' ∧ Fv env (N ++ I :: Hd) h' (upd τ y (.d (accs i))) ∧ LIt (N ++ I :: Hd) h' I i ds) ?_ (ds.length + 1 - i0)
    ⟨h1, k1, i0, rfl, Nat.le_refl _, hi0, rfl, F.grow kp1, V.up kp1, L1⟩
  rintro n s' ⟨h, k, i, rfl, hi1, hi2, rfl, F3, V3, L3⟩
  obtain ⟨l, vs, hit, hl, hln, rv⟩ := L3
  have upF : ∀ {h2}, KpH [I] h h2 → (∃ o, h2.get? I = some o) → FS s₀ N (I :: Hd) h2 := fun kI hx => ⟨fun a o e => kI a o (fun m => by rw [List.mem_singleton.mp m, hI0] at e; cases e) (F3.k0 a o e), F3.nw, fun a ha => by
    by_cases z : a = I
    · subst z; exact hx
    · obtain ⟨o, e⟩ := F3.hs a ha; exact ⟨o, kI a o (fun m => z (List.mem_singleton.mp m)) e⟩⟩
  have upV : ∀ {h2}, KpH [I] h h2 → Fv env (N ++ I :: Hd) h2 (upd τ y (.d (accs i))) := fun kI => V3.upN kI (fun a ha => by rw [List.mem_singleton.mp ha]; exact mI) (fun m => hIN (List.mem_singleton.mp m ▸ hNb _ (.head _))) (fun y c hc m => hIN (List.mem_singleton.mp m ▸ hNb _ (.tail _ (List.mem_map.mpr ⟨_, mem_of_lookup hc, rfl⟩))))
  by_cases hlt : i < ds.length
  · have hd : ds[i]? = some ds[i] := List.getElem?_eq_getElem hlt
    obtain ⟨x', hx', rx⟩ := rv.get' hd
    refine wpAny_pyNext_list_item hit hl (x := x') (by simpa using hx') fun h2 hit2 hs2 => ?_
    have kI : KpH [I] h h2 := KpH.same hs2 (.head _)
    have kH : KpH (N ++ I :: Hd) h h2 := KpH.same hs2 mI
    have F4 := upF kI (let ⟨o, e, _⟩ := hit2; ⟨o, e⟩)
    have L4 : LIt (N ++ I :: Hd) h2 I (i + 1) ds := ⟨l, vs, hit2, hl.at fun o e => kI _ o (fun m => hln (List.mem_singleton.mp m ▸ mI)) e, hln, rv.upH kH⟩
    refine wpAny_of_eq rfl ?_
    refine wpAny_assign_Name (put (s := { s with heap := h2, toks := k }) (d := .d ds[i]) (N := N) (upV kI) ox (fun a ha => inl_of a ha) (rx.upH kH) (fun h3 k3 kN kq hx V5 => ?_) hk)
    have F5 := F4.up kN fun a ha => hx a (F4.hs a (inl_of a ha))
    have L5 := L4.upN hIN kN
    refine st_setd (s := { s with heap := h3, toks := k3 }) (accs (i + 1)) F5 V5 oy (ev_callF (ld_L V5 (hfn _ _) lfn hk) (F5.k0 _ _ hfo) hfd (evs_cons (up_da _ _) (ev_varL V5 (hyx _ _) ly hk hb3) (evs_cons (up_da _ (ds[i])) (ev_varL V5 (by simp only [upd, if_true]) lx hk hb4) evs_nil hse2) hse) (fun s' vs kb av => ?_) he hb) ?_ hk hsw
    · obtain ⟨v1, v2, rfl, r1, r2⟩ := alls2 av
      exact step i _ hi1 hd s' v1 v2 (F5.k0.trans kb) r1 r2
    · intro h6 k6 F6 kN6 kq6 V6
      exact st_nil ⟨ds.length + 1 - (i + 1), by omega, h6, k6, i + 1, rfl, Nat.le_succ_of_le hi1, hlt, rfl, F6, V6.less (hback _ _ _), L5.upN hIN kN6⟩
  · have hin : i = ds.length := by omega
    subst hin
    refine wpAny_pyNext_list_end hh hit hl (by have := rv.length; simp; omega) fun h2 he2 => ?_
    have kI : KpH [I] h h2 := fun a o m e => he2 a o (fun z => m (z ▸ .head _)) e
    have memI : ∀ a, a ∈ N ++ Hd → a ∈ N ++ I :: Hd := fun a m => by
      rcases List.mem_append.mp m with m | m
      · exact inl_of a m
      · exact List.mem_append.mpr (.inr (.tail _ m))
    have nI : ∀ a, a ∈ N ++ Hd → a ∉ [I] := fun a m q => by
      rw [List.mem_singleton.mp q] at m
      rcases List.mem_append.mp m with m | m
      · exact hIN m
      · exact hIH m
    refine st_nil (done h2 k ⟨fun a o e => kI a o (fun m => by rw [List.mem_singleton.mp m, hI0] at e; cases e) (F3.k0 a o e), F3.nw, fun a ha => ?_⟩ ((upV kI).sub memI))
    obtain ⟨o, e⟩ := F3.hs a (memI a ha)
    exact ⟨o, kI a o (nI a ha) e⟩
end
end Mine
end
section
set_option maxRecDepth 100000
namespace Mine
open PySem PySem.W PySem.W.X PySem.Calls PyProof.Rows
set_option maxHeartbeats 4000000
section
variable {prog : Program} {w : World} {mg mb : Str → Option Value} {A : Around} {s : Shared} {Hd : List Addr}
theorem upd_le {τ σ : Str → Option Vw} {y : Str} {d : Vw} (h : ∀ z u, τ z = some u → σ z = some u) : ∀ z u, (upd τ y d) z = some u → (upd σ y d) z = some u := fun z u e => by
  by_cases q : z = y
  · simp only [upd, if_pos q] at e ⊢; exact e
  · simp only [upd, if_neg q] at e ⊢; exact h z u e
theorem upd_back {τ : Str → Option Vw} {x y : Str} (hx : τ x = none) : ∀ (d e d' : PyData) z u, (upd τ y (.d d')) z = some u → (upd (upd (upd τ y (.d d)) x (.d e)) y (.d d')) z = some u := fun d e d' z u h => by
  by_cases q : z = y
  · simp only [upd, if_pos q] at h ⊢; exact h
  · simp only [upd, if_neg q] at h ⊢
    have : z ≠ x := fun c => by rw [c, hx] at h; cases h
    rw [if_neg this]; exact h
theorem reduce2_spec (G : Gd w mg mb s.heap) {n : Nat} (R : Rm (n + 1) A) {f : Addr} {o : Obj} {fd : FuncData} (hfo : s.heap.get? f = some o) (hfd : o.data = .func fd) {v : Value} {ds : List PyData} (r : Rp Hd s.heap v (.list ds)) (hs : Hs Hd s.heap) (accs : Nat → PyData) (h0 : ds[0]? = some (accs 1))
    (step : ∀ A', Rm n A' → ∀ i d, 1 ≤ i → ds[i]? = some d → ∀ (H : List Addr) (s' : Shared) v1 v2, Kp s.heap s'.heap → Rp H s'.heap v1 (accs i) → Rp H s'.heap v2 d → Gives prog w A' s' (call (.ref f) [v1, v2] []) (Da H (accs (i + 1)))) :
    Gives prog w A s (call (.ref 37) [.ref f, v] []) (Da Hd (accs ds.length)) := by
  have hlen : 0 < ds.length := (List.getElem?_eq_some_iff.mp h0).1
  refine call_fn (Hd := Hd) (BP := fun _ bs => bs = [(Str.ofString "function", .ref f), (Str.ofString "sequence", v), (Str.ofString "initial", .ref 29)]) (sg [(Str.ofString "function", .v (.ref f)), (Str.ofString "sequence", .d (.list ds)), (Str.ofString "initial", .v (.ref 29))]) hs R.room (G.X 37 _ rfl) rfl G.nl (codeRec_of G.X (by rfl)) rfl ?_ (by decide) (fun h' bs e => by subst e; exact locs rfl) ?_ ?_
  · intro Q E q
    exact (BindsTo.of_defaults rfl (G.X 30 _ rfl) rfl rfl rfl) _ _ _ _ (q _ s.heap s.toks (Kp.refl _) rfl)
  · intro h' bs kp e x d q
    subst e
    exact sg_all (R := fun x d => ∃ u, [(Str.ofString "function", Value.ref f), (Str.ofString "sequence", v), (Str.ofString "initial", Value.ref 29)].reverse.lookup x = some u ∧ Rv Hd h' u d) (sb_cons (d := .v (.ref f)) (v := .ref f) rfl (sb_cons (d := .d (.list ds)) (v := v) (r.up kp) (sb_cons (d := .v (.ref 29)) (v := .ref 29) rfl sb_nil))) x d q
  intro h₁ k L F V Q E q
  have G1 := G.up F.k0
  refine st_iter F V own_l (bltn G1 (by rfl) rfl) (ev_varL V rfl) ?_
  intro I l vs h2 k2 hI hI0 F2 V2 hit hl hln rv
  have G2 := G.up F2.k0
  have hIN : I ∉ [L] := fun m => by obtain ⟨o, e⟩ := F.hs I (inl_of I m); rw [hI] at e; cases e
  have hIH : I ∉ Hd := fun m => by obtain ⟨o, e⟩ := hs I m; rw [hI0] at e; cases e
  refine st_if (β := true) (tr_cmp (P1 := Va (.ref 29)) (P2 := Va (.ref 29)) (up_va _) (ev_nameV (ld_L V2 rfl)) (ev_nameV (glob G2 (by rfl))) fun s' a c _ p1 p2 => ?_) ?_ ?_
  · obtain rfl : a = _ := p1
    obtain rfl : c = _ := p2
    exact Gives.of fun Q E q => wpAny_is_ref_self (q _ s'.heap s'.toks (Kp.refl _) rfl)
  · intro _ h3 k3 kp3
    have G3 := G2.up kp3
    refine st_try ?_
    refine st_next (d := accs 1) (F2.grow kp3) (V2.up kp3) hI0 hIN (fun a ha => ha) own_l (bltn G3 (by rfl) rfl) (ld_L (V2.up kp3) rfl) (LIt.up ⟨l, vs, hit, hl, hln, rv⟩ kp3) h0 ?_
    intro h4 k4 F4 V4 L4
    refine st_nil ?_
    refine st_nil ?_
    refine st_fold (f := f) accs (R.hh) hfo hfd (sg [(Str.ofString "function", .v (.ref f)), (Str.ofString "it", .v (.ref I))]) F4 (V4.less ?_) hI0 hIN hIH (fun a ha => ha) own_l own_l (fun _ => rfl) (fun _ _ => rfl) (fun _ _ => rfl) ?_ L4 hlen ?_ ?_
    · exact upd_le (sl (sl_cons (sl_cons sl_nil)))
    · exact upd_back rfl
    · intro i d hi hd s' v1 v2 kb r1 r2
      exact step _ R.deeper i d hi hd _ s' v1 v2 kb r1 r2
    · intro h5 k5 F5 V5
      exact st_return (P := Da ([L] ++ Hd) (accs ds.length)) (ev_varL V5 rfl) fun v h' k' kp' p => q v h' k' (F5.k0.trans kp') (p.sub fun a ha => List.mem_append.mpr (.inr ha))
  · intro h; cases h
theorem reduce3_spec (G : Gd w mg mb s.heap) {n : Nat} (R : Rm (n + 1) A) {f : Addr} {o : Obj} {fd : FuncData} (hfo : s.heap.get? f = some o) (hfd : o.data = .func fd) {v u0 : Value} {ds : List PyData} {j0 : Int} (r : Rp Hd s.heap v (.list ds)) (ru : Rp Hd s.heap u0 (.int j0)) (hs : Hs Hd s.heap) (accs : Nat → PyData) (h0 : accs 0 = .int j0)
    (step : ∀ A', Rm n A' → ∀ i d, ds[i]? = some d → ∀ (H : List Addr) (s' : Shared) v1 v2, Kp s.heap s'.heap → Rp H s'.heap v1 (accs i) → Rp H s'.heap v2 d → Gives prog w A' s' (call (.ref f) [v1, v2] []) (Da H (accs (i + 1)))) :
    Gives prog w A s (call (.ref 37) [.ref f, v, u0] []) (Da Hd (accs ds.length)) := by
  obtain ⟨tk, rfl⟩ := ru.int_inv
  refine call_fn (Hd := Hd) (BP := fun _ bs => bs = [(Str.ofString "function", .ref f), (Str.ofString "sequence", v), (Str.ofString "initial", .int j0 tk)]) (sg [(Str.ofString "function", .v (.ref f)), (Str.ofString "sequence", .d (.list ds)), (Str.ofString "initial", .v (.int j0 tk))]) hs R.room (G.X 37 _ rfl) rfl G.nl (codeRec_of G.X (by rfl)) rfl ?_ (by decide) (fun h' bs e => by subst e; exact locs rfl) ?_ ?_
  · intro Q E q
    exact (BindsTo.of_defaults rfl (G.X 30 _ rfl) rfl rfl rfl) _ _ _ _ (q _ s.heap s.toks (Kp.refl _) rfl)
  · intro h' bs kp e x d q
    subst e
    exact sg_all (R := fun x d => ∃ u, [(Str.ofString "function", Value.ref f), (Str.ofString "sequence", v), (Str.ofString "initial", Value.int j0 tk)].reverse.lookup x = some u ∧ Rv Hd h' u d) (sb_cons (d := .v (.ref f)) (v := .ref f) rfl (sb_cons (d := .d (.list ds)) (v := v) (r.up kp) (sb_cons (d := .v (.int j0 tk)) (v := .int j0 tk) rfl sb_nil))) x d q
  intro h₁ k L F V Q E q
  have G1 := G.up F.k0
  refine st_iter F V own_l (bltn G1 (by rfl) rfl) (ev_varL V rfl) ?_
  intro I l vs h2 k2 hI hI0 F2 V2 hit hl hln rv
  have G2 := G.up F2.k0
  have hIN : I ∉ [L] := fun m => by obtain ⟨o, e⟩ := F.hs I (inl_of I m); rw [hI] at e; cases e
  have hIH : I ∉ Hd := fun m => by obtain ⟨o, e⟩ := hs I m; rw [hI0] at e; cases e
  refine st_if (β := false) (tr_cmp (P1 := Va (.int j0 tk)) (P2 := Va (.ref 29)) (up_va _) (ev_nameV (ld_L V2 rfl)) (ev_nameV (glob G2 (by rfl))) fun s' a c _ p1 p2 => ?_) ?_ ?_
  · obtain rfl : a = _ := p1
    obtain rfl : c = _ := p2
    exact Gives.of fun Q E q => wpAny_is_other rfl (by simp) (q _ s'.heap s'.toks (Kp.refl _) rfl)
  · intro h; cases h
  · intro _ h3 k3 kp3
    refine st_setd (.int j0) (F2.grow kp3) (V2.up kp3) own_l ((ev_nameV (ld_L (V2.up kp3) rfl)).imp fun h v _ p => by obtain rfl : v = _ := p; exact .int _ _) ?_
    intro h4 k4 F4 kN4 kq4 V4
    refine st_nil ?_
    rw [← h0] at V4
    refine st_fold (f := f) accs (R.hh) hfo hfd (sg [(Str.ofString "function", .v (.ref f)), (Str.ofString "it", .v (.ref I))]) F4 (V4.less ?_) hI0 hIN hIH (fun a ha => ha) own_l own_l (fun _ => rfl) (fun _ _ => rfl) (fun _ _ => rfl) ?_ ((LIt.up ⟨l, vs, hit, hl, hln, rv⟩ kp3).upN hIN kN4) (Nat.zero_le _) ?_ ?_
    · exact upd_le (sl (sl_cons (sl_cons sl_nil)))
    · exact upd_back rfl
    · intro i d hi hd s' v1 v2 kb r1 r2
      exact step _ R.deeper i d hd _ s' v1 v2 kb r1 r2
    · intro h5 k5 F5 V5
      exact st_return (P := Da ([L] ++ Hd) (accs ds.length)) (ev_varL V5 rfl) fun v h' k' kp' p => q v h' k' (F5.k0.trans kp') (p.sub fun a ha => List.mem_append.mpr (.inr ha))
end
end Mine
end
section
set_option maxRecDepth 100000
namespace Mine
open PySem PySem.W PySem.W.X PySem.Calls PyProof.Rows
set_option maxHeartbeats 4000000
def toldD (p : Str × Str) : PyData := .tuple [.str p.1, .str p.2]
def firstS (x : Str) : Str := Txt.item x 0
def cntS (x : Str) : Int := Txt.count (Txt.slice x (some 1) none) minus
def cmpF (p q : Str × Str) : Int :=
  if ((firstS p.1).cps.toList != (firstS q.1).cps.toList) && [PyData.str (firstS p.1), PyData.str (firstS q.1)].any (fun z => PyData.eqv z (.str dS)) then (if (firstS p.1).cps.toList == dS.cps.toList then -1 else 1)
  else if cntS p.1 != cntS q.1 then cntS p.1 - cntS q.1
  else (if decide (q.2.cps.toList < p.2.cps.toList) then 1 else 0) - (if decide (p.2.cps.toList < q.2.cps.toList) then 1 else 0)
section
variable {prog : Program} {w : World} {mg mb : Str → Option Value} {A : Around} {s : Shared} {Hd : List Addr}
theorem fits0 : fitsSsize 0 = true := by decide
theorem ch0 {x : Str} (h : 0 < x.length) : (Txt.charAt x 0).isSome = true := by
  have e : seqIndex? 0 x.length = some 0 := by unfold seqIndex?; simp; omega
  unfold Txt.charAt
  rw [e]
  show (x.cps[0]?).isSome = true
  rw [Array.getElem?_eq_getElem (by exact h)]; rfl
theorem ev_fst {b : Heap} {env : Env} {H : List Addr} {e : Expr} {k1 k2 : Nat} {p1 p2 p3 p4 : Pos} {x px : Str} (h : Ev prog w A b (eval e env) (Da H (toldD (x, px)))) (hx : 0 < x.length) :
    Ev prog w A b (eval (.Subscript (.Subscript e (.Constant (.int 0) k1 p1) p2) (.Constant (.int 0) k2 p3) p4) env) (Da H (.str (firstS x))) :=
  ev_sub (up_da _ (.str x)) (ev_sub (up_da _ _) h (ev_int (Hd := [])) fun s' a c _ q1 q2 => g_itemT (j := 0) q1 q2 (by decide) (by decide) rfl rfl) (ev_int (Hd := [])) fun s' a c _ q1 q2 => g_itemS q1 q2 fits0 (ch0 hx)
theorem ev_snd {b : Heap} {env : Env} {H : List Addr} {e : Expr} {k1 : Nat} {p1 p2 : Pos} {x px : Str} (h : Ev prog w A b (eval e env) (Da H (toldD (x, px)))) :
    Ev prog w A b (eval (.Subscript e (.Constant (.int 1) k1 p1) p2) env) (Da H (.str px)) :=
  ev_sub (up_da _ _) h (ev_int (Hd := [])) fun s' a c _ q1 q2 => g_itemT (j := 1) q1 q2 (by decide) (by decide) rfl rfl
theorem ev_cnt {b : Heap} {env : Env} {H : List Addr} {e : Expr} {k1 k2 k3 : Nat} {p1 p2 p3 p4 p5 p6 p7 p8 : Pos} {x px : Str} {pl : Sem Bool} (h : Ev prog w A b (eval e env) (Da H (toldD (x, px)))) (hx : x.length ≤ 1000)
    (hse : starEach [.Constant (.str minus) k3 p7] env = (false, eval (.Constant (.str minus) k3 p7) env) :: starEach [] env := by rfl)
    (he : backTo p8 (starEach [.Constant (.str minus) k3 p7] env) = (false, eval (.Constant (.str minus) k3 p7) env) :: backTo p8 (starEach [] env) := by rfl) (hp : (backTo p8 (starEach [.Constant (.str minus) k3 p7] env)).any (·.1) = false := by rfl)
    (hm : eval (.Call (.Attribute (.Subscript (.Subscript e (.Constant (.int 0) k1 p1) p2) (.Slice (some (.Constant (.int 1) k2 p3)) none none p4) p5) (Str.ofString "count") p6) [.Constant (.str minus) k3 p7] [] p8) env = (do
      let ov ← eval (.Subscript (.Subscript e (.Constant (.int 0) k1 p1) p2) (.Slice (some (.Constant (.int 1) k2 p3)) none none p4) p5) env
      standAt p6.atName
      let (f, first) ← holding [ov] (getMethod ov (Str.ofString "count") pl)
      callWith p8 f first (backTo p8 (starEach [.Constant (.str minus) k3 p7] env)) (backToKw p8 (keywordEach [] env))) := by rfl) :
    Ev prog w A b (eval (.Call (.Attribute (.Subscript (.Subscript e (.Constant (.int 0) k1 p1) p2) (.Slice (some (.Constant (.int 1) k2 p3)) none none p4) p5) (Str.ofString "count") p6) [.Constant (.str minus) k3 p7] [] p8) env) (Da H (.int (cntS x))) := by
  have hbig : (100000 : Nat) ≤ sizeLine := by decide
  refine ev_methS (pl := pl) (z := Txt.slice x (some 1) none) (sliceS (ev_sub (up_da _ _) h (ev_int (Hd := [])) fun s' a c _ q1 q2 => g_itemT (j := 0) q1 q2 (by decide) (by decide) rfl rfl) (show partE A b prog w env (some _) (some 1) from ev_int) (show partE A b prog w env none none from trivial) (by omega)) PySem.F.slot_str_count PySem.F.type_str_count (evs_cons (up_da [] (.str minus)) ev_str evs_nil hse) (fun s' t vs kb a => ?_) he hp hm
  obtain ⟨v, rfl, r⟩ := alls1 a
  obtain ⟨u, rfl⟩ := r.str_inv
  exact Gives.of fun Q E q => SC.count (q _ s'.heap _ (Kp.refl _) (.int _ _))
end
end Mine
end
section
set_option maxRecDepth 100000
namespace Mine
open PySem PySem.W PySem.W.X PySem.Calls PyProof.Rows
set_option maxHeartbeats 4000000
section
variable {prog : Program} {w : World} {mg mb : Str → Option Value} {A : Around} {s : Shared} {Hd : List Addr}
theorem ev_last {b : Heap} {env : Env} {H : List Addr} {e1 e2 e3 e4 : Expr} {p1 p2 p3 : Pos} {x y : Str} (h1 : Ev prog w A b (eval e1 env) (Da H (.str x))) (h2 : Ev prog w A b (eval e2 env) (Da H (.str y))) (h3 : Ev prog w A b (eval e3 env) (Da H (.str x))) (h4 : Ev prog w A b (eval e4 env) (Da H (.str y)))
    (m1 : behindInMarks .Gt e2 = false := by with_unfolding_all rfl) (m2 : behindInMarks .Lt e4 = false := by with_unfolding_all rfl) :
    Ev prog w A b (eval (.BinOp (.Compare e1 [.Gt] [e2] p1) .Sub (.Compare e3 [.Lt] [e4] p2) p3) env) (Da [] (.int ((if decide (y.cps.toList < x.cps.toList) then 1 else 0) - (if decide (x.cps.toList < y.cps.toList) then 1 else 0)))) := by
  refine ev_bin (P1 := Va (.bool (decide (y.cps.toList < x.cps.toList)))) (P2 := Va (.bool (decide (x.cps.toList < y.cps.toList)))) (up_va _) (ev_cmp (up_da H (.str x)) h1 h2 (fun s' a c _ p1 p2 => g_gts p1 p2) m1) (ev_cmp (up_da H (.str x)) h3 h4 (fun s' a c _ p1 p2 => g_lts p1 p2) m2) fun s' a c _ q1 q2 => ?_
  generalize decide (y.cps.toList < x.cps.toList) = u at *
  generalize decide (x.cps.toList < y.cps.toList) = v at *
  obtain rfl : a = _ := q1
  obtain rfl : c = _ := q2
  exact g_subb (.bool _) (.bool _)
theorem compared_spec (G : Gd w mg mb s.heap) {n : Nat} (R : Rm (n + 1) A) {v1 v2 : Value} {p q : Str × Str} (r1 : Rp Hd s.heap v1 (toldD p)) (r2 : Rp Hd s.heap v2 (toldD q)) (hs : Hs Hd s.heap) (hp : 0 < p.1.length ∧ p.1.length ≤ 1000 ∧ PyData.strOk (firstS p.1) = true) (hq : 0 < q.1.length ∧ q.1.length ≤ 1000 ∧ PyData.strOk (firstS q.1) = true) :
    Gives prog w A s (call (.ref 209) [v1, v2] []) (Da Hd (.int (cmpF p q))) := by
  obtain ⟨x, px⟩ := p
  obtain ⟨y, py⟩ := q
  refine call_fnP [(Str.ofString "one", .d (toldD (x, px))), (Str.ofString "other", .d (toldD (y, py)))] hs R.room (G.X 209 _ rfl) rfl G.nl (codeRec_of G.X (by rfl)) rfl rfl (by decide) (locs rfl) (sb_cons (v := v1) r1 (sb_cons (v := v2) r2 sb_nil)) ?_
  intro h₁ k L F V Q E qq
  have hbig : (100000 : Nat) ≤ sizeLine := by decide
  refine st_if (β := ((firstS x).cps.toList != (firstS y).cps.toList) && [PyData.str (firstS x), PyData.str (firstS y)].any (fun z => PyData.eqv z (.str dS))) (tr_and2 (tr_cmp (up_da _ (.str (firstS x))) (ev_fst (ev_varL V rfl) hp.1) (ev_fst (ev_varL V rfl) hq.1) fun s' a c _ p1 p2 => g_nes p1 p2) fun _ => tr_cmp (up_da [] (.str dS)) ev_str (ev_list (ds := [.str (firstS x), .str (firstS y)]) F.hs (evs_cons (up_da _ _) (ev_fst (ev_varL V rfl) hp.1) (evs_cons (up_da _ _) (ev_fst (ev_varL V rfl) hq.1) evs_nil)) (by show (2 : Nat) ≤ sizeLine; decide)) fun s' a c _ p1 p2 => g_in p1 p2 ?_ ?_ ?_) ?_ ?_
  · simp only [PyData.canLay0]; kernel_rfl
  · simp only [PyData.canLayAll0, PyData.canLay0, hp.2.2, hq.2.2]; rfl
  · have := R.un
    have e : min (PyData.depthAll [PyData.str (firstS x), PyData.str (firstS y)]) (PyData.str dS).depth ≤ 10 := by simp [PyData.depth, PyData.depthAll]
    show A.units + 3 + 1 + _ < 9900
    omega
  · intro hb h3 k3 kp3
    have V3 := V.up kp3
    have e : cmpF (x, px) (y, py) = if (firstS x).cps.toList == dS.cps.toList then -1 else 1 := by unfold cmpF; rw [if_pos hb]
    rw [e] at qq
    refine st_return (P := Da Hd (.int (if (firstS x).cps.toList == dS.cps.toList then -1 else 1))) (ev_ifexp (β := (firstS x).cps.toList == dS.cps.toList) (tr_cmp (up_da _ (.str (firstS x))) (ev_fst (ev_varL V3 rfl) hp.1) ev_str fun s' a c _ p1 p2 => g_eqs p1 p2) ?_ ?_) fun v h' k' kp' p => qq v h' k' (F.k0.trans (kp3.trans kp')) p
    · intro hc
      rw [hc]
      intro s' kb
      refine Gives.of fun Q E q => wpAny_UnaryOp ((ev_int (Hd := []) (i := 1)) |>.use kb fun v h4 k4 kp4 p4 => ?_)
      obtain ⟨t, rfl⟩ := Rp.int_inv p4
      exact PyProof.Rows.neg_int (q _ h4 _ kp4 (.int _ _))
    · intro hc
      rw [hc]
      exact ev_int
  · intro hb h3 k3 kp3
    have V3 := V.up kp3
    refine st_nil (st_if (β := cntS x != cntS y) (tr_cmp (up_da _ (.int (cntS x))) (ev_cnt (ev_varL V3 rfl) hp.2.1) (ev_cnt (ev_varL V3 rfl) hq.2.1) fun s' a c _ p1 p2 => g_nei p1 p2) ?_ ?_)
    · intro hc h4 k4 kp4
      have V4 := V3.up kp4
      have e : cmpF (x, px) (y, py) = cntS x - cntS y := by unfold cmpF; rw [if_neg (by rw [hb]; decide), if_pos hc]
      rw [e] at qq
      exact st_return (P := Da ([L] ++ Hd) (.int (cntS x - cntS y))) (ev_bin (up_da _ _) (ev_cnt (ev_varL V4 rfl) hp.2.1) (ev_cnt (ev_varL V4 rfl) hq.2.1) fun s' a c _ p1 p2 => g_subi p1 p2) fun v h' k' kp' p => qq v h' k' (F.k0.trans (kp3.trans (kp4.trans kp'))) (p.sub fun a ha => List.mem_append.mpr (.inr ha))
    · intro hc h4 k4 kp4
      have V4 := V3.up kp4
      have e : cmpF (x, px) (y, py) = (if decide (py.cps.toList < px.cps.toList) then 1 else 0) - (if decide (px.cps.toList < py.cps.toList) then 1 else 0) := by unfold cmpF; rw [if_neg (by rw [hb]; decide), if_neg (by rw [hc]; decide)]
      rw [e] at qq
      exact st_nil (st_return (ev_last (ev_snd (ev_varL V4 rfl)) (ev_snd (ev_varL V4 rfl)) (ev_snd (ev_varL V4 rfl)) (ev_snd (ev_varL V4 rfl))) fun v h' k' kp' p => qq v h' k' (F.k0.trans (kp3.trans (kp4.trans kp'))) (by obtain ⟨t, rfl⟩ := Rp.int_inv p; exact .int _ _))
end
end Mine
end
section
set_option maxRecDepth 100000
namespace Mine
open PySem PySem.W PySem.W.X PySem.Calls PyProof.Rows
set_option maxHeartbeats 4000000
abbrev Tb : List Addr := [23, 211]
theorem kkTb (P : Params) {a : Addr} {o : Obj} (e : (KK P).lookup a = some o) : a ∉ Tb := fun m => by
  rcases List.mem_cons.mp m with rfl | m
  · rw [kk23] at e; cases e
  · rw [List.mem_singleton.mp m, kk211] at e; cases e
section
variable {prog : Program} {w : World} {mg mb : Str → Option Value} {A : Around} {s : Shared} {env : Env} {Q : Flow → Shared → Prop} {E : Value → Shared → Prop} {rest body : List Stmt} {pos : Pos}
theorem nsHid {h : Heap} {a : Addr} {m : Str → Option Value} (hn : h.Ns a m) (ha : a ∉ Tb) : (hideAll h Tb).Ns a m := hn.at' fun o e => hideAll_get _ e ha
theorem Gd.hid {h : Heap} (G : Gd w mg mb h) : Gd w mg mb (hideAll h Tb) :=
  ⟨fun a o e => hideAll_get _ (G.X a o e) (kkTb w.params e), nsHid G.g (by decide), nsHid G.b (by decide), let ⟨mc, a, b⟩ := G.nl; ⟨mc, nsHid a (by decide), b⟩, G.bt⟩
theorem st_while {test : Expr} (β : Nat → Bool) (Inv : Nat → Heap → Prop) (n0 : Nat) (h0 : Inv n0 s.heap)
    (ht : ∀ n h, Inv n h → Tr prog w A h (isTrue test env (eval test env)) (β n))
    (turn : ∀ n h h' k, Inv n h → β n = true → Kp h h' → ∀ (Q' : Flow → Shared → Prop) (E' : Value → Shared → Prop), (∀ h2 k2 m, m < n → Inv m h2 → Q' .next { s with heap := h2, toks := k2 }) → wpAny (model prog w) A (execs body env) Q' E' { s with heap := h', toks := k })
    (done : ∀ n h h' k, Inv n h → β n = false → Kp h h' → wpAny (model prog w) A (execs rest env) Q E { s with heap := h', toks := k }) :
    wpAny (model prog w) A (execs (.While test body [] pos :: rest) env) Q E s := by
  refine wpAny_execs_cons (wpAny_While ?_)
  refine codeAny_whileLoop (fun n s' => ∃ h k, s' = { s with heap := h, toks := k } ∧ Inv n h) ?_ n0 ⟨s.heap, s.toks, rfl, h0⟩
  rintro n s' ⟨h, k, rfl, hi⟩
  refine ht n h hi { s with heap := h, toks := k } _ _ (Kp.refl _) fun h' k' kp => ?_
  cases hb : β n with
  | true =>
    rw [if_pos rfl]
    exact turn n h h' k' hi hb kp _ _ fun h2 k2 m hm hi2 => ⟨m, hm, h2, k2, rfl, hi2⟩
  | false =>
    rw [if_neg (by decide)]
    exact st_nil (done n h h' k' hi hb kp)
end
end Mine
end
section
set_option maxRecDepth 100000
namespace Mine
open PySem PySem.W PySem.W.X PySem.Calls PyProof.Rows
set_option maxHeartbeats 4000000
theorem trip_app (l : List Value) (h : TriplesOk l) (a b : Int) (c : Value) : TriplesOk (l ++ [rawInt a, rawInt b, c]) := by
  fun_induction TriplesOk l with
  | case1 => trivial
  | case2 _ _ _ _ _ r ih => exact ih h
  | case3 => exact h.elim
/-- the table of inner codes, the lambda's code in it or not -/
def TabL (N : List Addr) (c P : Addr) (pos : Pos) (q : Str) (h : Heap) : Prop :=
  c ∉ N ∧ P ∉ N ∧ ∃ ps, CodeHd h c P ∧ h.get? P = some (tabObj ps) ∧ TriplesOk ps.toList ∧ (codeAmong pos ps.toList = none ∨ ∃ c', c' ∉ N ∧ codeAmong pos ps.toList = some (.ref c') ∧ h.CodeRec (.ref c') q)
section
variable {prog : Program} {w : World} {mg mb : Str → Option Value} {A : Around} {s : Shared} {env : Env} {Q : Value → Shared → Prop} {E : Value → Shared → Prop}
theorem TabL.up {N : List Addr} {c P : Addr} {pos : Pos} {q : Str} {h h' : Heap} (x : TabL N c P pos q h) (k : Kp h h') : TabL N c P pos q h' := by
  obtain ⟨c1, c2, ps, a, b, d, e⟩ := x
  refine ⟨c1, c2, ps, a.keeps k, k _ _ b, d, ?_⟩
  rcases e with e | ⟨c', n, e, r⟩
  · exact .inl e
  · exact .inr ⟨c', n, e, r.keeps k⟩
theorem TabL.upN {N : List Addr} {c P : Addr} {pos : Pos} {q : Str} {h h' : Heap} (x : TabL N c P pos q h) (k : KpH N h h') : TabL N c P pos q h' := by
  obtain ⟨c1, c2, ps, ⟨o, vs, file, tf, flags, tg, inF, text, tt, a, r0⟩, b, d, e⟩ := x
  refine ⟨c1, c2, ps, ⟨o, vs, file, tf, flags, tg, inF, text, tt, k _ _ c1 a, r0⟩, k _ _ c2 b, d, ?_⟩
  rcases e with e | ⟨c', n, e, r⟩
  · exact .inl e
  · refine .inr ⟨c', n, e, ?_⟩
    obtain ⟨c'', oc, vs, tq, hc, hoc, hdc, hq⟩ := r
    cases hc
    exact ⟨c', oc, vs, tq, rfl, k _ _ n hoc, hdc, hq⟩
theorem m_lam {N : List Addr} {c P bm : Addr} {pos : Pos} {params : Arguments} {body : Expr} {scope : Scope} {cl : List (Str × Addr)} (G : s.heap.Ns mainGlobals mg) (T : TabL N c P pos (env.qual ++ "<lambda>") s.heap) (hN : ∀ a ∈ N, ∃ o, s.heap.get? a = some o) (hdef : defaultsOf params env = ([], [])) (hcl : closureFor scope env = pure cl) (hge : env.globals = mainGlobals) (hc : env.code = .ref c)
    (hbm : mg "__builtins__" = some (.ref bm)) (hbo : s.heap.get? bm = some { cls := .type "module", dict := some builtinsNs }) (hb0 : bm ≠ builtinsNs) (hb1 : bm ≠ mainGlobals) (hbP : bm ≠ P) (hgP : mainGlobals ≠ P)
    (q : ∀ f c' ct h' tk, KpH [P] s.heap h' → s.heap.get? f = none → h'.get? f = some (kla_obj "<lambda>" (env.qual ++ "<lambda>") params body scope cl ((mg "__name__").getD .none) c' ct) → h'.CodeRec (.ref c') (env.qual ++ "<lambda>") → (∃ o, h'.get? P = some o) → TabL N c P pos (env.qual ++ "<lambda>") h' → Q (.ref f) { s with heap := h', toks := tk }) :
    wpAny (model prog w) A (eval (.Lambda params body scope pos) env) Q E s := by
  obtain ⟨nc, nP, ps, C, hP, ht, hf⟩ := T
  have hB : s.heap.BuiltinsAt mg P := ⟨bm, _, hbm, hb0, hb1, hbP, hbo, rfl, rfl, rfl⟩
  refine kla_eval hdef ?_
  rcases hf with hf | ⟨c', nc', hf, hr⟩
  · refine kla_makeFunction hcl hge G hc C hP ht hf hgP hB fun c' ct h' tk hx hge' hlt hrec htab => ?_
    have kx : KpH [P] s.heap (h'.push (kla_obj "<lambda>" (env.qual ++ "<lambda>") params body scope cl ((mg "__name__").getD .none) c' ct)) := fun b o n e => Heap.get?_push_of_some _ (hx b o (fun z => n (z ▸ .head _)) e)
    have fr : s.heap.get? h'.objs.size = none := by
      cases z : s.heap.get? h'.objs.size with
      | none => rfl
      | some o =>
        by_cases zp : h'.objs.size = P
        · rw [← zp] at htab; exact absurd (Heap.lt_size htab) (Nat.lt_irrefl _)
        · exact absurd (Heap.lt_size (hx _ _ zp z)) (Nat.lt_irrefl _)
    have cP : c ≠ P := by obtain ⟨_, _, _, _, _, _, _, _, _, _, _, _, _, _, _, _, _, _, n⟩ := C; exact n
    have l : (ps ++ #[rawInt pos.line, rawInt pos.col, Value.ref c']).toList = ps.toList ++ [rawInt pos.line, rawInt pos.col, .ref c'] := by simp
    refine q _ c' ct _ tk kx fr (Heap.get?_push_size _ rfl) (hrec.push _) ⟨_, Heap.get?_push_of_some _ htab⟩ ⟨nc, nP, _, ?_, Heap.get?_push_of_some _ htab, ?_, .inr ⟨c', (fun m => by obtain ⟨o, e⟩ := hN _ m; exact absurd (Heap.lt_size e) (Nat.not_lt.mpr hge')), ?_, hrec.push _⟩⟩
    · obtain ⟨o, vs, file, tf, flags, tg, inF, text, tt, e, r⟩ := C
      exact ⟨o, vs, file, tf, flags, tg, inF, text, tt, Heap.get?_push_of_some _ (hx _ _ cP e), r⟩
    · rw [l]; exact trip_app _ ht _ _ _
    · rw [l]; exact codeAmong_snoc _ ht hf
  · refine kla_makeFunctionHit hcl hge G hc C hP ht hf hB fun ct h' tk hk hsz => ?_
    have kx : Kp s.heap (h'.push (kla_obj "<lambda>" (env.qual ++ "<lambda>") params body scope cl ((mg "__name__").getD .none) c' ct)) := fun b o e => Heap.get?_push_of_some _ (hk b o e)
    exact q _ c' ct _ tk kx.toH (fresh_of (h' := h') hk (Nat.le_refl _)) (Heap.get?_push_size _ rfl) (hr.keeps kx) ⟨_, kx _ _ hP⟩ (TabL.up ⟨nc, nP, ps, C, hP, ht, .inr ⟨c', nc', hf, hr⟩⟩ kx)
theorem call_lam {P' : Heap → Value → Prop} {f c' : Addr} {name qual : Str} {params : Arguments} {body : Expr} {scope : Scope} {cl : List (Str × Addr)} {pm ct : Value} {args : List Value} {binds : List (Str × Value)} (hroom : A.depth < recursionLimit) (ho : s.heap.get? f = some (kla_obj name qual params body scope cl pm c' ct)) (hcd : s.heap.CodeRec (.ref c') qual) (hlim : s.heap.NoLimit)
    (hbind : bindArgs (kla_fn name qual params body scope cl pm (.ref c') ct) ⟨args, []⟩ = pure binds) (hcell : ∀ x ∈ scope.names, x.2 ≠ .cell) (hloc : ∀ x ∈ binds, scope.names.lookup x.1 = some .local)
    (h : ∀ h₀ L, h₀.Ns L (fun x => binds.reverse.lookup x) → Kp s.heap h₀ → Ev prog w (A.deeper (callEnv (kla_fn name qual params body scope cl pm (.ref c') ct) L f)) h₀ (eval body (callEnv (kla_fn name qual params body scope cl pm (.ref c') ct) L f)) P')
    (hco : scope.isCoroutine = false := by rfl) (hgen : scope.isGenerator = false := by rfl) (hk : scope.kind = .function := by rfl) :
    Gives prog w A s (call (.ref f) args []) P' := Gives.of fun Q E q => wpAny_call (by
  refine kla_callFunE hroom ho rfl hco hgen rfl hcd ?_
  rw [hbind]
  refine wpAny_pure ?_
  refine wpAny_newFunctionEnv hcell hloc (fun h₀ hns₀ hsb₀ => ?_) hk
  have kp : Kp s.heap h₀ := fun b o e => hsb₀.extBut b o (Nat.ne_of_lt (Heap.lt_size e)) (Heap.get?_push_of_some _ e)
  refine ⟨hlim.keeps kp, kla_codeExpr ?_⟩
  refine (h h₀ _ hns₀ kp).use (Kp.refl _) fun v h2 k2 kp2 p2 => ?_
  exact q v h2 _ (Kp.trans kp kp2) p2)
end
end Mine
end
section
set_option maxRecDepth 100000
namespace Mine
open PySem PySem.W PySem.W.X PySem.Calls PyProof.Rows
set_option maxHeartbeats 4000000
def pathF (r : List Nat) : Str := Txt.join slash (r.map nm)
def allR : List (List Nat) := [[]] ++ (List.range 4).map (fun a => [a]) ++ (List.range 4).flatMap (fun a => (List.range 4).map fun b => [a, b]) ++ (List.range 4).flatMap (fun a => (List.range 4).flatMap fun b => (List.range 4).map fun c => [a, b, c])
theorem mem_all {r : List Nat} (h : okR r) : r ∈ allR := by
  obtain ⟨hl, hb⟩ := h
  match r, hl, hb with
  | [], _, _ => simp [allR]
  | [a], _, hb => have := hb a (by simp); simp [allR]; omega
  | [a, b], _, hb => have h1 := hb a (by simp); have h2 := hb b (by simp); simp [allR]; omega
  | [a, b, c], _, hb => have h1 := hb a (by simp); have h2 := hb b (by simp); have h3 := hb c (by simp); exact List.mem_append.mpr (.inr (List.mem_flatMap.mpr ⟨a, List.mem_range.mpr h1, List.mem_flatMap.mpr ⟨b, List.mem_range.mpr h2, List.mem_map.mpr ⟨c, List.mem_range.mpr h3, rfl⟩⟩⟩))
theorem f1 : ∀ r ∈ allR, ∀ i ∈ [1, 2], i < r.length → joinF (pathF (r.take i)) (nm (r[i]?.getD 0)) = pathF (r.take (i + 1)) := by decide +kernel
theorem f2 : ∀ r ∈ allR, r ≠ [] → dirF (pathF r) = if r.length ≤ 1 then Str.ofString "" else pathF (r.take (r.length - 1)) := by decide +kernel
theorem f3 : ∀ r ∈ allR, ∀ r' ∈ allR, pathF r = pathF r' → r = r' := by decide +kernel
theorem f4 : ∀ r ∈ allR, (pathF r).length ≤ 5 := by decide +kernel
theorem f5 : ∀ r ∈ allR, r ≠ [] → (pathF r).cps.toList ≠ [] := by decide +kernel
end Mine
end
section
set_option maxRecDepth 100000
namespace Mine
open PySem PySem.W PySem.W.X PySem.Calls PyProof.Rows
set_option maxHeartbeats 4000000
section
variable {prog : Program} {w : World} {A : Around} {s : Shared} {Hd : List Addr}
theorem g_index {H : List Addr} {a : Addr} {v : Value} {ys : List Str} {k : Str} {j : Nat} (p : Pl H s.heap (.ref a) (ys.map PyData.str)) (r : Rp Hd s.heap v (.str k)) (hj : ys[j]? = some k) (hno : ∀ i < j, ∀ x, ys[i]? = some x → x ≠ k) (hz : ys.length ≤ 1000) :
    Gives prog w A s (call (.builtin "list.index") [.ref a, v] []) (Da Hd (.int j)) := by
  obtain ⟨a', vs, e, _, ⟨n, hp⟩, ra⟩ := p.inv
  cases e
  obtain ⟨t, rfl⟩ := r.str_inv
  have hlen : vs.length = ys.length := by rw [ra.length, List.length_map]
  have hjl : j < ys.length := (List.getElem?_eq_some_iff.mp hj).1
  have at_ : ∀ i x, ys[i]? = some x → ∃ u : Tok, vs[i]? = some (Value.str x u) := fun i x hx => by
    obtain ⟨v, e1, e2⟩ := ra.get' (i := i) (d := .str x) (by rw [List.getElem?_map, hx]; rfl)
    obtain ⟨u, rfl⟩ := e2.str_inv
    exact ⟨u, e1⟩
  refine Gives.of fun Q E q => call_meets PySem.F.slot_list_index ⟨_, hp, rfl⟩ PySem.F.entry_list_index (PySem.F.args_list_index_2 _ _)
    (MeetsSeq.list_index a vs.toArray n (.str k t) (isStrOf k) (fun y hy => eq_isStrOf k t (strs_of ra).1 y (by simpa using hy)) j (by simp; omega) (by omega) ?_ ?_) ⟨hp, q _ s.heap _ (Kp.refl _) (.int _ _)⟩
  · obtain ⟨u, e⟩ := at_ j k hj
    have : vs.toArray[j]'(by simp; omega) = Value.str k u := by
      have h2 := e
      rw [List.getElem?_eq_getElem (by omega)] at h2
      simpa using h2
    rw [this]; simp [isStrOf]
  · intro i hi hlt
    have hil : i < ys.length := by simp at hi; omega
    obtain ⟨u, e⟩ := at_ i ys[i] (List.getElem?_eq_getElem hil)
    have : vs.toArray[i]'hi = Value.str ys[i] u := by
      have h2 := e
      rw [List.getElem?_eq_getElem (by omega)] at h2
      simpa using h2
    rw [this]
    have ne := hno i hlt ys[i] (List.getElem?_eq_getElem hil)
    show (ys[i] == k) = false
    simpa using ne
end
end Mine
end
section
set_option maxRecDepth 100000
namespace Mine
open PySem PySem.W PySem.W.X PySem.Calls PyProof.Rows
set_option maxHeartbeats 4000000
abbrev lamP (a b : Pos) : Arguments := ⟨[], [⟨Str.ofString "given", none, a⟩, ⟨Str.ofString "path", none, b⟩], none, [], [], none, []⟩
abbrev lamB (p1 p2 p3 p4 p5 p6 p7 p8 p9 p10 : Pos) : Expr := .BinOp (.Name (Str.ofString "given") p1) .BitAnd (.Call (.Name (Str.ofString "S_IMODE") p2) [.Subscript (.Name (Str.ofString "modes") p3) (.Call (.Attribute (.Name (Str.ofString "paths") p4) (Str.ofString "index") p5) [.Name (Str.ofString "path") p6] [] p7) p8] [] p9) p10
abbrev lamS : Scope := { kind := .function, names := [(Str.ofString "given", .local), (Str.ofString "path", .local), (Str.ofString "modes", .free), (Str.ofString "paths", .free), (Str.ofString "S_IMODE", .globalImplicit)], isGenerator := false, isCoroutine := false }
section
variable {prog : Program} {w : World} {mg mb : Str → Option Value} {A : Around} {s : Shared} {Hd H : List Addr}
theorem lam_spec (G : Gd w mg mb s.heap) {n : Nat} (R : Rm (n + 1) A) {a b p1 p2 p3 p4 p6 p8 p9 p10 : Pos} {c5 e5 c7 e7 : Nat} {f c' cm cp : Addr} {name qual : Str} {pm ct mv pv v1 v2 : Value} {modes : List Int} {ps : List Str} {g mj : Int} {k : Str} {j : Nat}
    (ho : s.heap.get? f = some (kla_obj name qual (lamP a b) (lamB p1 p2 p3 p4 ⟨201, c5, 201, e5⟩ p6 ⟨201, c7, 201, e7⟩ p8 p9 p10) lamS [(Str.ofString "paths", cp), (Str.ofString "modes", cm)] pm c' ct)) (hcd : s.heap.CodeRec (.ref c') qual)
    (hcm : s.heap.IsCell cm (some mv)) (rm : Rp H s.heap mv (.list (modes.map PyData.int))) (hcp : s.heap.IsCell cp (some pv)) (rp : Pl H s.heap pv (ps.map PyData.str))
    (r1 : Rp Hd s.heap v1 (.int g)) (r2 : Rp Hd s.heap v2 (.str k)) (hj : ps[j]? = some k) (hno : ∀ i < j, ∀ x, ps[i]? = some x → x ≠ k) (hm : modes[j]? = some mj) (hz : ps.length ≤ 1000) :
    Gives prog w A s (call (.ref f) [v1, v2] []) (Da Hd (.int (Builtin.bitAnd g (Builtin.bitAnd mj 4095)))) := by
  have hj1 : j < ps.length := (List.getElem?_eq_some_iff.mp hj).1
  refine call_lam R.room ho hcd G.nl (binds := [(Str.ofString "given", v1), (Str.ofString "path", v2)]) rfl (by decide) (locs rfl) fun h₀ L hn kp => ?_
  have G1 := G.up kp
  refine ev_bin (P2 := Da Hd (.int (Builtin.bitAnd mj 4095))) (up_da Hd (.int g)) (ev_nameD (loads_local hn rfl) (r1.up kp)) (ev_callF (glob G1 (by rfl)) (G1.X 145 _ rfl) rfl (evs_cons (up_da H (.int mj)) (ev_sub (up_da H (.list (modes.map PyData.int))) (ev_nameD (loads_free rfl (hcm.keeps kp)) (rm.up kp)) (P2 := Da [] (.int j)) ?_ fun s' x y _ q1 q2 => g_item q1 q2 (by omega) (by omega) (by rw [Int.toNat_natCast, List.getElem?_map, hm]; rfl)) evs_nil) fun s' vs kb av => ?_) fun s' x y _ q1 q2 => g_band q1 q2
  · refine ev_methL (ev_name (loads_free rfl (hcp.keeps kp)) (up_pl H _) (rp.of (kh_up kp))) PySem.F.slot_list_index PySem.F.type_list_index (evs_cons (up_da Hd (.str k)) (ev_nameD (loads_local hn rfl) (r2.up kp)) evs_nil) fun s' x vs kb pl av => ?_
    obtain ⟨v, rfl, r⟩ := alls1 av
    exact (g_index pl r hj hno hz).imp fun h v _ p => by obtain ⟨t, rfl⟩ := Rp.int_inv p; exact .int _ _
  · obtain ⟨v, rfl, r⟩ := alls1 av
    exact (simode_spec (G1.up kb) R.deeper r).imp fun h v _ p => by obtain ⟨t, rfl⟩ := Rp.int_inv p; exact .int _ _
end
end Mine
end
section
set_option maxRecDepth 100000
namespace Mine
open PySem PySem.W PySem.W.X PySem.Calls PyProof.Rows
set_option maxHeartbeats 4000000
def modeOfR (rows : List (List Nat)) (modes : List Int) (r : List Nat) : Int := modes[rows.idxOf r]?.getD 0
noncomputable def accR (rows : List (List Nat)) (modes : List Int) (r : List Nat) : Nat → Int
  | 0 => 511
  | i + 1 => Builtin.bitAnd (accR rows modes r i) (Builtin.bitAnd (modeOfR rows modes (r.take (i + 1))) 4095)
noncomputable def rightsF (rows : List (List Nat)) (modes : List Int) (k : Nat) : Int := accR rows modes (rows[k]?.getD []) (rows[k]?.getD []).length
noncomputable def toldT (rows : List (List Nat)) (modes : List Int) (k : Nat) : Str × Str :=
  (modeF (Builtin.bitOr (Builtin.bitAnd (modes[k]?.getD 0) 61440) (rightsF rows modes k)), pathF (rows[k]?.getD []))
noncomputable def toldC (rows : List (List Nat)) (modes : List Int) (i j : Nat) : Bool := decide (cmpF (toldT rows modes i) (toldT rows modes j) < 0)
noncomputable def toldOut (rows : List (List Nat)) (modes : List Int) : List PyData := (srt (toldC rows modes) rows.length).toList.map fun i => toldD (toldT rows modes i)
def wayD (r : List Nat) (j : Nat) : PyData := .list ((List.range (j + 1)).map fun t => .str (pathF (r.take (r.length - j + t))))
def pathAcc (r : List Nat) (i : Nat) : PyData := .str (pathF (r.take i))
section
variable {prog : Program} {w : World} {mg mb : Str → Option Value} {A : Around} {s : Shared}
theorem join_row (G : Gd w mg mb s.heap) {Hd : List Addr} {n : Nat} (R : Rm (n + 4) A) {v : Value} {r : List Nat} (rv : Rp Hd s.heap v (eR r)) (hs : Hs Hd s.heap) (hr : okR r) (hne : r ≠ []) :
    Gives prog w A s (call (.ref 37) [.ref 131, v] []) (Da Hd (.str (pathF r))) := by
  have hlen : 0 < r.length := List.length_pos_iff.mpr hne
  have e0 : (r.map eS)[0]? = some (pathAcc r 1) := by
    rw [List.getElem?_map]
    match r, hne with
    | a :: t, _ => rfl
  have fin : pathAcc r (r.map eS).length = .str (pathF r) := by unfold pathAcc; rw [List.length_map, List.take_length]
  rw [← fin]
  refine reduce2_spec (n := n + 3) G R (G.X 131 _ rfl) rfl rv hs (pathAcc r) e0 ?_
  intro A' R' i d hi hd H s' v1 v2 kb r1 r2
  rw [List.getElem?_map, Option.map_eq_some_iff] at hd
  obtain ⟨x, hx, rfl⟩ := hd
  have hil : i < r.length := (List.getElem?_eq_some_iff.mp hx).1
  have hrl := hr.1
  have hj : joinF (pathF (r.take i)) (nm x) = pathF (r.take (i + 1)) := by
    have := f1 r (mem_all hr) i (by simp; omega) hil
    rw [hx] at this; exact this
  unfold pathAcc
  rw [← hj]
  have hx1 : (nm x).length = 1 := rfl
  have hp := f4 (r.take i) (mem_all (okR_take hr i))
  refine Gives.imp (P := Da [] (.str (joinF (pathF (r.take i)) (nm x)))) ?_ fun h v _ p => by obtain ⟨t, rfl⟩ := Rp.str_inv p; exact .str _ _
  obtain ⟨t1, rfl⟩ := Rp.str_inv r1
  obtain ⟨t2, rfl⟩ := Rp.str_inv r2
  exact join_spec (Hd := []) (G.up kb) (R'.le (m := 0 + 1) (by omega)) (.str _ _) (.str _ _) (fun _ h => nomatch h) (by rw [hx1]; omega)
end
end Mine
end
section
set_option maxRecDepth 100000
namespace Mine
open PySem PySem.W PySem.W.X PySem.Calls PyProof.Rows
set_option maxHeartbeats 4000000
def wayL (r : List Nat) (j : Nat) : List PyData := (List.range (j + 1)).map fun t => .str (pathF (r.take (r.length - j + t)))
theorem way0 (r : List Nat) (j : Nat) : (wayL r j)[0]? = some (.str (pathF (r.take (r.length - j)))) := by
  unfold wayL; simp [List.range_succ_eq_map]
theorem way_succ (r : List Nat) (j : Nat) (h : j + 1 ≤ r.length) : [PyData.str (pathF (r.take (r.length - (j + 1))))] ++ wayL r j = wayL r (j + 1) := by
  unfold wayL
  rw [List.range_succ_eq_map (n := j + 1), List.map_cons, List.map_map]
  show _ :: _ = _ :: _
  congr 1
  refine List.map_congr_left fun t _ => ?_
  show PyData.str _ = PyData.str _
  rw [show r.length - (j + 1) + t.succ = r.length - j + t by omega]
theorem way_dir {r : List Nat} {j : Nat} (hr : okR r) (hj : j + 1 < r.length) : dirF (pathF (r.take (r.length - j))) = pathF (r.take (r.length - (j + 1))) := by
  have hl : (r.take (r.length - j)).length = r.length - j := by rw [List.length_take]; omega
  rw [f2 _ (mem_all (okR_take hr _)) (fun e => by rw [e] at hl; simp at hl; omega), if_neg (by omega), hl, List.take_take]
  congr 2; omega
theorem way_end {r : List Nat} {j : Nat} (hr : okR r) (hj : j + 1 = r.length) : dirF (pathF (r.take (r.length - j))) = Str.ofString "" := by
  have hl : (r.take (r.length - j)).length = r.length - j := by rw [List.length_take]; omega
  rw [f2 _ (mem_all (okR_take hr _)) (fun e => by rw [e] at hl; simp at hl; omega), if_pos (by omega)]
section
variable {prog : Program} {w : World} {mg mb : Str → Option Value} {A : Around} {s : Shared} {env : Env} {Q : Flow → Shared → Prop} {E : Value → Shared → Prop} {rest : List Stmt} {pos : Pos} {s₀ : Heap} {N Hd : List Addr} {σ : Str → Option Vw}
theorem st_way {p1 p2 p3 p4 p5 p6 p7 p8 : Pos} {k1 k2 k3 : Nat} {r1 r2 r3 r4 r5 r6 r7 r8 r9 : Pos} {r : List Nat} (G : Gd w mg mb s₀) {n : Nat} (R : Rm (n + 2) A) (hr : okR r) (hne : r ≠ []) (F : FS s₀ N Hd s.heap) (V : Fv env (N ++ Hd) s.heap (upd σ (Str.ofString "way") (.d (.list (wayL r 0))))) (o : Own env N (Str.ofString "way"))
    (hd : ∀ h, Kp s₀ h → Loads env (Str.ofString "dirname") (.ref 138) h) (hl : env.kindOf (Str.ofString "way") = some .local) (hk : env.scope.kind = .function)
    (next : ∀ h k, FS s₀ N Hd h → KpH N s.heap h → Kq s.heap h → Fv env (N ++ Hd) h (upd σ (Str.ofString "way") (.d (.list (wayL r (r.length - 1))))) → wpAny (model prog w) A (execs rest env) Q E { s with heap := h, toks := k }) :
    wpAny (model prog w) A (execs (.While (.Compare (.Call (.Name (Str.ofString "dirname") p1) [.Subscript (.Name (Str.ofString "way") p2) (.Constant (.int 0) k1 p3) p4] [] p5) [.NotEq] [.Constant (.str (Str.ofString "")) k2 p6] p7)
      [.Assign [.Name (Str.ofString "way") r1] (.BinOp (.List [.Call (.Name (Str.ofString "dirname") r2) [.Subscript (.Name (Str.ofString "way") r3) (.Constant (.int 0) k3 r4) r5] [] r6] r7) .Add (.Name (Str.ofString "way") r8) r9) p8] [] pos :: rest) env) Q E s := by
  have hpos : 0 < r.length := List.length_pos_iff.mpr hne
  have hr3 := hr.1
  have hbig : (100000 : Nat) ≤ sizeLine := by decide
  have dir : ∀ {h : Heap} {j : Nat} {q1 q2 q3 q4 q5 : Pos} {k : Nat}, j < r.length → Kp s₀ h → Hs (N ++ Hd) h → Fv env (N ++ Hd) h (upd σ (Str.ofString "way") (.d (.list (wayL r j)))) →
      Ev prog w A h (eval (.Call (.Name (Str.ofString "dirname") q1) [.Subscript (.Name (Str.ofString "way") q2) (.Constant (.int 0) k q3) q4] [] q5) env) (Da (N ++ Hd) (.str (dirF (pathF (r.take (r.length - j)))))) := by
    intro h j q1 q2 q3 q4 q5 k hj kp hs V
    have Gh := G.up kp
    have hp := f4 (r.take (r.length - j)) (mem_all (okR_take hr _))
    refine ev_callF (hd h kp) (Gh.X 138 _ rfl) rfl (evs_cons (up_da _ (.str (pathF (r.take (r.length - j))))) (ev_sub (up_da _ (.list (wayL r j))) (ev_varL V (by simp only [upd, if_true]) hl hk) (ev_int (Hd := [])) fun s' x y _ q1 q2 => g_item q1 q2 (by decide) (by decide) (way0 r j)) evs_nil) fun s' vs kb av => ?_
    obtain ⟨v, rfl, rv⟩ := alls1 av
    exact dirname_spec (n := n + 1) (Gh.up kb) R rv (hs.up kb) (by omega) (Nat.le_trans (Txt.slice_le _ _ _) (by omega))
  refine st_while (fun n => n != 0) (fun n h => ∃ j, j < r.length ∧ n = r.length - 1 - j ∧ FS s₀ N Hd h ∧ KpH N s.heap h ∧ Kq s.heap h ∧ Fv env (N ++ Hd) h (upd σ (Str.ofString "way") (.d (.list (wayL r j))))) (r.length - 1) ⟨0, hpos, rfl, F, KpH.refl _, fun _ _ e _ => e, V⟩ ?_ ?_ ?_
  · rintro n' h ⟨j, hj, rfl, F1, kN, kq, V1⟩
    have hb : ((r.length - 1 - j) != 0) = ((dirF (pathF (r.take (r.length - j)))).cps.toList != (Str.ofString "").cps.toList) := by
      by_cases e : j + 1 = r.length
      · rw [way_end hr e, show r.length - 1 - j = 0 by omega]; rfl
      · rw [way_dir hr (by omega)]
        have hl2 : (r.take (r.length - (j + 1))).length = r.length - (j + 1) := by rw [List.length_take]; omega
        have ne2 : r.take (r.length - (j + 1)) ≠ [] := by
          intro z
          rw [z] at hl2
          simp at hl2
          omega
        have := f5 (r.take (r.length - (j + 1))) (mem_all (okR_take hr _)) ne2
        have h1 : ((r.length - 1 - j) != 0) = true := by simp; omega
        rw [h1]; symm
        rw [show (Str.ofString "").cps.toList = [] from rfl]
        exact bne_iff_ne.mpr this
    rw [hb]
    exact tr_cmp (up_da _ _) (dir hj F1.k0 F1.hs V1) ev_str fun s' x y _ q1 q2 => g_nes q1 q2
  · rintro n' h h' k ⟨j, hj, rfl, F1, kN, kq, V1⟩ hb kp Q' E' q'
    have hj1 : j + 1 < r.length := by
      have : r.length - 1 - j ≠ 0 := by simpa using hb
      omega
    have V2 := V1.up kp
    have F2 := F1.grow kp
    refine st_setd (s := { s with heap := h', toks := k }) (.list (wayL r (j + 1))) F2 V2 o ?_ ?_ hk rfl
    · rw [← way_succ r j (by omega), ← way_dir hr hj1]
      exact ev_bin (up_da _ (.list [.str (dirF (pathF (r.take (r.length - j))))])) (ev_list (ds := [.str _]) F2.hs (evs_cons (up_da _ _) (dir hj F2.k0 F2.hs V2) evs_nil) (by show (1 : Nat) ≤ sizeLine; decide)) (ev_varL V2 (by simp only [upd, if_true]) hl hk) fun s' x y kb q1 q2 => g_addl (F2.hs.up kb) q1 q2 (by unfold wayL; simp; omega)
    · intro h2 k2 F3 kN3 kq3 V3
      refine st_nil (q' h2 k2 (r.length - 1 - (j + 1)) (by omega) ⟨j + 1, hj1, rfl, F3, kN.trans (kp.toH.trans kN3), kq.trans (kp.q.trans kq3), V3.less fun z u e => ?_⟩)
      by_cases c : z = Str.ofString "way"
      · simp only [upd, if_pos c] at e ⊢; exact e
      · simp only [upd, if_neg c] at e ⊢; exact e
  · rintro n' h h' k ⟨j, hj, rfl, F1, kN, kq, V1⟩ hb kp
    have e : j = r.length - 1 := by
      have : r.length - 1 - j = 0 := by simpa using hb
      omega
    subst e
    exact next h' k (F1.grow kp) (kN.trans kp.toH) (kq.trans kp.q) (V1.up kp)
end
end Mine
end
section
set_option maxRecDepth 100000
namespace Mine
open PySem PySem.W PySem.W.X PySem.Calls PyProof.Rows
set_option maxHeartbeats 4000000
theorem way_full {r : List Nat} (hr : r ≠ []) : wayL r (r.length - 1) = (List.range r.length).map fun i => .str (pathF (r.take (i + 1))) := by
  have hp : 0 < r.length := List.length_pos_iff.mpr hr
  unfold wayL
  rw [show r.length - 1 + 1 = r.length by omega]
  refine List.map_congr_left fun t _ => ?_
  rw [show r.length - (r.length - 1) + t = t + 1 by omega]
theorem idx_min {α : Type} [BEq α] [LawfulBEq α] {x : α} : ∀ (l : List α) (i : Nat), i < l.idxOf x → l[i]? ≠ some x
  | [], i, h => by simp
  | a :: l, i, h => by
    rw [List.idxOf_cons] at h
    cases hb : a == x with
    | true => rw [hb] at h; simp at h
    | false =>
      have e : a ≠ x := by simpa using hb
      rw [hb] at h
      cases i with
      | zero => intro z; exact e (by simpa using z)
      | succ i =>
        have h' : i < l.idxOf x := by simpa using h
        simpa using idx_min l i h'
theorem idx_first {rows : List (List Nat)} (hok : ∀ r ∈ rows, okR r) {x : List Nat} (hx : x ∈ rows) : (rows.map pathF)[rows.idxOf x]? = some (pathF x) ∧ ∀ i < rows.idxOf x, ∀ y, (rows.map pathF)[i]? = some y → y ≠ pathF x := by
  have hlt : rows.idxOf x < rows.length := List.idxOf_lt_length_iff.mpr hx
  constructor
  · rw [List.getElem?_map, List.getElem?_eq_getElem hlt, List.getElem_idxOf]; rfl
  · intro i hi y hy e
    rw [List.getElem?_map, Option.map_eq_some_iff] at hy
    obtain ⟨z, hz, rfl⟩ := hy
    have hzm : z ∈ rows := List.mem_of_getElem? hz
    have : z = x := f3 z (mem_all (hok z hzm)) x (mem_all (hok x hx)) e
    subst this
    exact idx_min rows i hi hz
section
variable {prog : Program} {w : World} {mg mb : Str → Option Value} {A : Around} {s : Shared} {env : Env} {Q : Value → Shared → Prop} {E : Value → Shared → Prop} {s₀ : Heap} {N Hd : List Addr} {σ : Str → Option Vw}
theorem rights_spec (G : Gd w mg mb s.heap) {n : Nat} (R : Rm (n + 4) A) (hs : Hs Hd s.heap) {a b p1 p2 p3 p4 p6 p8 p9 p10 : Pos} {c5 e5 c7 e7 : Nat} {f c' cm cp : Addr} {name qual : Str} {pm ct mv pv vw vi : Value} {rows : List (List Nat)} {modes : List Int} {r : List Nat}
    (ho : s.heap.get? f = some (kla_obj name qual (lamP a b) (lamB p1 p2 p3 p4 ⟨201, c5, 201, e5⟩ p6 ⟨201, c7, 201, e7⟩ p8 p9 p10) lamS [(Str.ofString "paths", cp), (Str.ofString "modes", cm)] pm c' ct)) (hcd : s.heap.CodeRec (.ref c') qual)
    (hcm : s.heap.IsCell cm (some mv)) (rm : Rp Hd s.heap mv (.list (modes.map PyData.int))) (hcp : s.heap.IsCell cp (some pv)) (rp : Pl Hd s.heap pv ((rows.map pathF).map PyData.str))
    (rw' : Rp Hd s.heap vw (.list (wayL r (r.length - 1)))) (ri : Rp Hd s.heap vi (.int 511)) (hok : ∀ r ∈ rows, okR r) (hne : r ≠ []) (hcl : ∀ k, 0 < k → k ≤ r.length → r.take k ∈ rows) (hz : rows.length ≤ 63) (hml : modes.length = rows.length) :
    Gives prog w A s (call (.ref 37) [.ref f, vw, vi] []) (Da Hd (.int (accR rows modes r r.length))) := by
  have hl : (wayL r (r.length - 1)).length = r.length := by rw [way_full hne, List.length_map, List.length_range]
  have e : PyData.int (accR rows modes r r.length) = (fun i => PyData.int (accR rows modes r i)) (wayL r (r.length - 1)).length := by rw [hl]
  rw [e]
  refine reduce3_spec (n := n + 3) G R ho rfl rw' ri hs (fun i => PyData.int (accR rows modes r i)) rfl ?_
  intro A' R' i d hd H s' v1 v2 kb r1 r2
  rw [way_full hne, List.getElem?_map, Option.map_eq_some_iff] at hd
  obtain ⟨i', hi', rfl⟩ := hd
  obtain ⟨hi, ei⟩ : i < r.length ∧ i = i' := by
    have h1 := (List.getElem?_eq_some_iff.mp hi').1
    rw [List.length_range] at h1
    rw [List.getElem?_range h1] at hi'
    exact ⟨h1, by cases hi'; rfl⟩
  subst ei
  have hx := hcl (i + 1) (Nat.succ_pos _) hi
  obtain ⟨j1, j2⟩ := idx_first hok hx
  have hjl : rows.idxOf (r.take (i + 1)) < modes.length := by rw [hml]; exact List.idxOf_lt_length_iff.mpr hx
  have hm : modes[rows.idxOf (r.take (i + 1))]? = some (modeOfR rows modes (r.take (i + 1))) := by
    unfold modeOfR; rw [List.getElem?_eq_getElem hjl]; rfl
  exact lam_spec (n := n + 2) (G.up kb) R' (kb _ _ ho) (hcd.keeps kb) (hcm.keeps kb) (rm.up kb) (hcp.keeps kb) (rp.of (kh_up kb)) r1 r2 j1 j2 hm (by rw [List.length_map]; omega)
end
end Mine
end
section
set_option maxRecDepth 100000
namespace Mine
open PySem PySem.W PySem.W.X PySem.Calls PyProof.Rows
set_option maxHeartbeats 4000000
section
variable {prog : Program} {w : World} {mg mb : Str → Option Value} {A : Around} {s : Shared} {env : Env} {Q : Flow → Shared → Prop} {E : Value → Shared → Prop} {rest : List Stmt} {s₀ : Heap} {N Hd M : List Addr} {σ : Str → Option Vw}
theorem st_rights (G : Gd w mg mb s₀) {n : Nat} (R : Rm (n + 4) A) {a b p1 p2 p3 p4 p6 p8 p9 p10 q1 q2 q3 q4 q5 q6 lpos : Pos} {k1 c5 e5 c7 e7 : Nat} {cm cp c : Addr} {rows : List (List Nat)} {modes : List Int} {r : List Nat}
    (F : FS s₀ N Hd s.heap) (V : Fv env (N ++ Hd) s.heap σ) (o : Own env N (Str.ofString "rights")) (hw : σ (Str.ofString "way") = some (.d (.list (wayL r (r.length - 1))))) (hm : σ (Str.ofString "modes") = some (.d (.list (modes.map PyData.int)))) (hp : σ (Str.ofString "paths") = some (.p ((rows.map pathF).map PyData.str)))
    (cm' : env.cells.lookup (Str.ofString "modes") = some cm) (cp' : env.cells.lookup (Str.ofString "paths") = some cp) (hclo : closureFor lamS env = pure [(Str.ofString "paths", cp), (Str.ofString "modes", cm)]) (hge : env.globals = mainGlobals) (hce : env.code = .ref c)
    (T : TabL M c 211 lpos (env.qual ++ "<lambda>") s.heap) (hNM : ∀ a ∈ N, a ∈ M) (hM : ∀ a ∈ M, ∃ o, s.heap.get? a = some o) (h211 : 211 ∈ Hd) (n211 : 211 ∉ N) (hNb : ∀ a ∈ Nb env, a ∈ N) (h0 : s₀.get? 211 = none) (hred : ∀ h, Kp s₀ h → Loads env (Str.ofString "reduce") (.ref 37) h) (lw : env.kindOf (Str.ofString "way") = some .local) (hk : env.scope.kind = .function)
    (hok : ∀ r ∈ rows, okR r) (hne : r ≠ []) (hcl : ∀ k, 0 < k → k ≤ r.length → r.take k ∈ rows) (hz : rows.length ≤ 63) (hml : modes.length = rows.length)
    (next : ∀ h k, FS s₀ N Hd h → KpH (211 :: N) s.heap h → Kq s.heap h → Fv env (N ++ Hd) h (upd σ (Str.ofString "rights") (.d (.int (accR rows modes r r.length)))) → TabL M c 211 lpos (env.qual ++ "<lambda>") h → wpAny (model prog w) A (execs rest env) Q E { s with heap := h, toks := k }) :
    wpAny (model prog w) A (execs (.Assign [.Name (Str.ofString "rights") q1] (.Call (.Name (Str.ofString "reduce") q2) [.Lambda (lamP a b) (lamB p1 p2 p3 p4 ⟨201, c5, 201, e5⟩ p6 ⟨201, c7, 201, e7⟩ p8 p9 p10) lamS lpos, .Name (Str.ofString "way") q3, .Constant (.int 511) k1 q4] [] q5) q6 :: rest) env) Q E s := by
  have mH : 211 ∈ N ++ Hd := List.mem_append.mpr (.inr h211)
  refine wpAny_execs_cons (wpAny_Assign_Name ?_ rfl)
  refine wpAny_Call_NameR (wpAny_Name (hred _ F.k0 _ _ _ _ _ (Kp.refl _) ?_) (by decide))
  have G1 := G.up F.k0
  obtain ⟨oR, fdR, hoR⟩ : ∃ oR fdR, ∀ h, Kp s₀ h → h.get? 37 = some oR ∧ oR.data = .func fdR := ⟨_, _, fun h k => ⟨(G.up k).X 37 _ rfl, rfl⟩⟩
  have he : backTo q5 (starEach [.Lambda (lamP a b) (lamB p1 p2 p3 p4 ⟨201, c5, 201, e5⟩ p6 ⟨201, c7, 201, e7⟩ p8 p9 p10) lamS lpos, .Name (Str.ofString "way") q3, .Constant (.int 511) k1 q4] env) = (false, eval (.Lambda (lamP a b) (lamB p1 p2 p3 p4 ⟨201, c5, 201, e5⟩ p6 ⟨201, c7, 201, e7⟩ p8 p9 p10) lamS lpos) env) :: backTo q5 (starEach [.Name (Str.ofString "way") q3, .Constant (.int 511) k1 q4] env) := rfl
  refine callWith_function_kw (o := oR) (fd := fdR) ?_
  rw [he]
  refine evalArgs_plain ?_
  rw [← he]
  refine spliced_more (m_lam (bm := 4) G1.g T hM rfl hclo hge hce (mg_of G1.X G1.g (by rfl)) (G1.X 4 _ rfl) (by decide) (by decide) (by decide) (by decide) fun f c' ct h1 k1' kx f0 hf hr h211' T1 => ?_) rfl
  have F1 : FS s₀ N Hd h1 := ⟨fun a o e => kx a o (fun m => by rw [List.mem_singleton.mp m, h0] at e; cases e) (F.k0 a o e), F.nw, fun a ha => by
    by_cases z : a = 211
    · subst z; exact h211'
    · obtain ⟨o, e⟩ := F.hs a ha; exact ⟨o, kx a o (fun m => z (List.mem_singleton.mp m)) e⟩⟩
  have V1 : Fv env (N ++ Hd) h1 σ := V.upN kx (fun a ha => by rw [List.mem_singleton.mp ha]; exact mH) (fun m => n211 (List.mem_singleton.mp m ▸ hNb _ (.head _))) (fun y c hc m => n211 (List.mem_singleton.mp m ▸ hNb _ (.tail _ (List.mem_map.mpr ⟨_, mem_of_lookup hc, rfl⟩))))
  have kq1 : Kq s.heap h1 := fun a o e z => kx a o (fun m => by
    obtain ⟨_, _, ps, _, hP, _⟩ := T
    rw [List.mem_singleton.mp m, hP] at e; cases e
    obtain ⟨xs, n, z⟩ := z; cases z) e
  refine ((evs_cons (up_da (N ++ Hd) (.list (wayL r (r.length - 1)))) (ev_varL V1 hw lw hk) (evs_cons (up_da [] (.int 511)) ev_int evs_nil) : Evs prog w A h1 (spliced (backTo q5 (starEach [.Name (Str.ofString "way") q3, .Constant (.int 511) k1 q4] env))) _) { s with heap := h1, toks := k1' } _ _ (Kp.refl _) fun vs h2 k2 kp2 av => ?_)
  obtain ⟨vw, vi, rfl, rw', ri⟩ : ∃ x y, vs = [x, y] ∧ Rp (N ++ Hd) h2 x (.list (wayL r (r.length - 1))) ∧ Rp [] h2 y (.int 511) := by
    obtain ⟨x, vs, rfl, e1, y, vs, rfl, e2, e3⟩ := av
    exact ⟨x, y, by rw [show vs = [] from e3], e1, e2⟩
  have F2 := F1.grow kp2
  have V2 := V1.up kp2
  obtain ⟨mv, hcm, rm⟩ := V2.cell hm cm'
  obtain ⟨pv, hcp, rp⟩ := V2.cell hp cp'
  obtain ⟨ti, rfl⟩ := ri.int_inv
  refine ⟨hoR h2 F2.k0, ?_⟩
  refine (rights_spec (s := { s with heap := h2, toks := k2 }) (G.up F2.k0) R F2.hs (kp2 _ _ hf) (hr.keeps kp2) hcm rm hcp rp rw' (Rp.int _ _) hok hne hcl hz hml).use fun v h3 k3 kp3 p3 => ?_
  refine put (s := { s with heap := h3, toks := k3 }) (d := .d (.int (accR rows modes r r.length))) (N := N) (V2.up kp3) o (fun a ha => inl_of a ha) p3 (fun h4 k4 kN4 kq4 hx4 V4 => ?_) hk
  have F3 := F2.grow kp3
  have kp13 : Kp h1 h3 := Kp.trans kp2 kp3
  refine next h4 k4 (F3.up kN4 fun a ha => hx4 a (F3.hs a (inl_of a ha))) (fun a o m e => kN4 a o (fun z => m (.tail _ z)) (kp13 a o (kx a o (fun z => m (List.mem_singleton.mp z ▸ .head _)) e))) (kq1.trans ((kp13.q).trans kq4)) V4 ?_
  exact (T1.up kp13).upN fun a o m e => kN4 a o (fun z => m (hNM a z)) e
end
end Mine
end
section
set_option maxRecDepth 100000
namespace Mine
open PySem PySem.W PySem.W.X PySem.Calls PyProof.Rows
set_option maxHeartbeats 4000000
theorem app_cps (a b : Str) : (a ++ b).cps.toList = a.cps.toList ++ b.cps.toList := Array.toList_append
theorem app_nil (a : Str) : a ++ Str.ofString "" = a := Str.ext' (by show a.cps ++ #[] = a.cps; simp)
theorem join_cps : ∀ l : List Str, (Txt.join (Str.ofString "") l).cps.toList = l.flatMap fun x => x.cps.toList := fun l => by
  unfold Txt.join
  rw [StrLaws.glued_eq_join]
  induction l with
  | nil => rfl
  | cons x l ih =>
    cases l with
    | nil => show x.cps.toList = _; simp
    | cons y r =>
      show (x ++ Str.ofString "" ++ Str.join (Str.ofString "") (y :: r)).cps.toList = _
      rw [app_nil, app_cps, ih]; rfl
theorem str_ext {a b : Str} (h : a.cps.toList = b.cps.toList) : a = b := Str.ext' (Array.toList_inj.mp h)
theorem join_cons (x : Str) (l : List Str) : Txt.join (Str.ofString "") (x :: l) = x ++ Txt.join (Str.ofString "") l := str_ext (by rw [app_cps, join_cps, join_cps]; rfl)
/-- the count of one sign -/
theorem occ_cnt (x : Str) (c : Nat) (limit : Nat) : ∀ (l : List Nat) (st : Array Nat × Nat), st.fst.size + l.length ≤ limit → l.Pairwise (· < ·) → (∀ i ∈ l, st.snd ≤ i) →
    (forIn l st (StrLaws.occBody x ⟨#[c]⟩ x.length limit)).run.fst.size = st.fst.size + l.countP fun i => x.cps.toList[i]? == some c
  | [], st, _, _, _ => by simp
  | i :: l, st, h1, h2, h3 => by
    obtain ⟨h2a, h2b⟩ := List.pairwise_cons.mp h2
    rw [List.forIn_cons, List.countP_cons]
    unfold StrLaws.occBody
    have hi := StrLaws.subAt_one x c i
    rw [List.length_cons] at h1
    by_cases hc : x.cps.toList[i]? = some c
    · obtain ⟨g1, g2⟩ := hi.mpr hc
      rw [if_pos ⟨⟨⟨by omega, h3 i (.head _)⟩, g1⟩, g2⟩]
      have := occ_cnt x c limit l (st.fst.push i, i + (⟨#[c]⟩ : Str).length) (by rw [Array.size_push]; omega) h2b (fun j hj => h2a j hj)
      rw [if_pos (by rw [hc]; simp)]
      refine Eq.trans this ?_
      show (st.fst.push i).size + _ = _
      rw [Array.size_push]; omega
    · rw [if_neg (fun q => hc (hi.mp ⟨q.1.2, q.2⟩))]
      have := occ_cnt x c limit l st (by omega) h2b (fun j hj => h3 j (.tail _ hj))
      rw [if_neg (by simpa using hc)]
      exact this
theorem countP_range (l : List Nat) (c : Nat) : ∀ n, ((List.range' 0 (l.length + n)).countP fun i => l[i]? == some c) = l.count c := by
  intro n
  rw [← List.range_eq_range']
  induction l with
  | nil =>
    rw [List.count_nil, List.countP_eq_zero]
    intro a _ h
    simp at h
  | cons a l ih =>
    rw [show (a :: l).length + n = (l.length + n) + 1 by simp; omega, List.range_succ_eq_map, List.countP_cons, List.countP_map, List.count_cons]
    have : ((fun i => (a :: l)[i]? == some c) ∘ Nat.succ) = fun i => l[i]? == some c := by funext i; simp
    rw [this, ih]
    simp
theorem count_one (x : Str) (c : Nat) : Txt.count x ⟨#[c]⟩ = (x.cps.toList.count c : Int) := by
  unfold Txt.count
  rw [StrLaws.occ_eq, Array.length_toList, occ_cnt x c (x.length + 1) _ _ (by simp) (List.pairwise_lt_range' ..) (fun i _ => Nat.zero_le _)]
  show ((0 + _ : Nat) : Int) = _
  rw [Nat.zero_add]
  have := countP_range x.cps.toList c 1
  rw [show x.cps.toList.length + 1 = x.length + 1 - 0 from by rw [Array.length_toList]; rfl] at this
  rw [this]
/-- one sign behind another -/
def One (x : Str) : Prop := ∃ c, x = ⟨#[c]⟩
theorem one_of_len {x : Str} (h : x.length = 1) : One x := by
  obtain ⟨⟨l⟩⟩ := x
  match l, h with
  | [a], _ => exact ⟨a, rfl⟩
theorem first_app {k x : Str} (hk : One k) : firstS (k ++ x) = k := by
  obtain ⟨c, rfl⟩ := hk
  have e : (⟨#[c]⟩ ++ x : Str).cps.toList = c :: x.cps.toList := by rw [app_cps]; rfl
  have hl : 0 < (⟨#[c]⟩ ++ x : Str).length := by
    show 0 < (⟨#[c]⟩ ++ x : Str).cps.size
    rw [← Array.length_toList, e]; simp
  unfold firstS Txt.item
  have e0 : seqIndex? 0 (⟨#[c]⟩ ++ x : Str).length = some 0 := by unfold seqIndex?; simp; omega
  unfold Txt.charAt
  rw [e0]
  have : (⟨#[c]⟩ ++ x : Str).cps[0]? = some c := by rw [← Array.getElem?_toList, e]; rfl
  show (⟨#[((⟨#[c]⟩ ++ x : Str).cps[0]?).getD 0]⟩ : Str) = _
  rw [this]; rfl
theorem slice_tail (y : Str) (h : 1 ≤ y.cps.toList.length) : (Txt.slice y (some 1) none).cps.toList = y.cps.toList.drop 1 := by
  have e0 : Txt.slice y (some 1) none = StrLaws.sliceText y (some 1) none := rfl
  have e1 := StrLaws.sliceText_from (x := y) (i := 1) ⟨by decide, by omega⟩
  rw [e0, e1]
  show (y.cps.toList.drop 1).take _ = _
  rw [List.take_of_length_le (by rw [List.length_drop]; omega)]
theorem cnt_app {k x : Str} (hk : One k) : cntS (k ++ x) = (x.cps.toList.count 45 : Int) := by
  obtain ⟨c, rfl⟩ := hk
  have e : (⟨#[c]⟩ ++ x : Str).cps.toList = c :: x.cps.toList := by rw [app_cps]; rfl
  unfold cntS
  rw [show minus = ⟨#[45]⟩ by decide, count_one]
  rw [slice_tail _ (by rw [e, List.length_cons]; omega), e]
  rfl
theorem cnt_in : ∀ {l : List Str}, (∀ x ∈ l, One x) → ((l.flatMap fun x => x.cps.toList).count 45 : Int) = PySem.Spec.countIn (.str minus) (l.map PyData.str)
  | [], _ => rfl
  | x :: l, h => by
    obtain ⟨c, rfl⟩ := h x (.head _)
    rw [List.flatMap_cons, List.count_append, List.map_cons]
    show _ = (if PySem.Spec.same (.str ⟨#[c]⟩) (.str minus) then (1 : Int) else 0) + PySem.Spec.countIn (.str minus) (l.map PyData.str)
    rw [← cnt_in fun y hy => h y (.tail _ hy)]
    have : PySem.Spec.same (.str ⟨#[c]⟩) (.str minus) = decide (c = 45) := by
      have : PySem.Spec.same (.str ⟨#[c]⟩) (.str minus) = ((⟨#[c]⟩ : Str) == minus) := by simp [PySem.Spec.same]
      rw [this, show minus = ⟨#[45]⟩ by decide]
      by_cases e : c = 45
      · subst e; rfl
      · have : (⟨#[c]⟩ : Str) ≠ ⟨#[45]⟩ := fun z => e (by have := congrArg (fun s : Str => s.cps.toList) z; simpa using this)
        simp [e, this]
    rw [this]
    show ((([c] : List Nat).count 45 + _ : Nat) : Int) = _
    by_cases e : c = 45
    · subst e; simp
    · simp [e]
end Mine
end
section
set_option maxRecDepth 100000
namespace Mine
open PySem PySem.W PySem.W.X PySem.Calls PyProof.Rows
set_option maxHeartbeats 4000000
theorem pk_P {P : Str → Prop} {test : Int → Bool} {dflt : Str} (hd : P dflt) : ∀ {t : List (Int × Str)}, (∀ p ∈ t, P p.2) → P (pk test dflt t)
  | [], _ => hd
  | (b, c) :: t, h => by
    unfold pk
    split
    · exact h (b, c) (.head _)
    · exact pk_P hd fun p hp => h p (.tail _ hp)
theorem sgn_P {P : Str → Prop} (h1 : P (Str.ofString "?")) (h2 : P (Str.ofString "-")) (h3 : ∀ t ∈ tabs, ∀ p ∈ t, P p.2) (m : Int) (i : Nat) : P (sgn m i) := by
  refine pk_P (by split <;> assumption) fun p hp => ?_
  cases e : tabs[i]? with
  | none => rw [e] at hp; cases hp
  | some t => rw [e] at hp; exact h3 t (List.mem_of_getElem? e) p hp
theorem sgn_ok (m : Int) (i : Nat) : PyData.strOk (sgn m i) = true := sgn_P (P := fun x => PyData.strOk x = true) (by decide +kernel) (by decide +kernel) (by decide +kernel) m i
theorem modeF_cons (m : Int) : modeF m = sgn m 0 ++ Txt.join (Str.ofString "") ((List.range 9).map fun i => sgn m (i + 1)) := by
  unfold modeF
  rw [show (10 : Nat) = 9 + 1 from rfl, List.range_succ_eq_map, List.map_cons, List.map_map, join_cons]
  rfl
theorem flat_len : ∀ {l : List Str}, (∀ x ∈ l, x.length = 1) → (l.flatMap fun x => x.cps.toList).length = l.length
  | [], _ => rfl
  | x :: l, h => by
    rw [List.flatMap_cons, List.length_append, flat_len fun y hy => h y (.tail _ hy), List.length_cons]
    have : x.cps.toList.length = 1 := by rw [Array.length_toList]; exact h x (.head _)
    omega
theorem modeF_len (m : Int) : (modeF m).length = 10 := by
  show (modeF m).cps.size = 10
  rw [← Array.length_toList]
  unfold modeF
  rw [join_cps, flat_len fun x hx => by obtain ⟨i, _, rfl⟩ := List.mem_map.mp hx; exact sgn_len m i]
  rfl
theorem modeF_fst (m : Int) : firstS (modeF m) = sgn m 0 := by rw [modeF_cons]; exact first_app (one_of_len (sgn_len m 0))
theorem told_ok (rows : List (List Nat)) (modes : List Int) (k : Nat) : 0 < (toldT rows modes k).1.length ∧ (toldT rows modes k).1.length ≤ 1000 ∧ PyData.strOk (firstS (toldT rows modes k).1) = true := by
  unfold toldT
  dsimp only
  rw [modeF_len, modeF_fst]
  exact ⟨by decide, by decide, sgn_ok _ _⟩
end Mine
end
section
set_option maxRecDepth 100000
namespace Mine
open PySem PySem.W PySem.W.X PySem.Calls PyProof.Rows
set_option maxHeartbeats 4000000
section
variable {prog : Program} {w : World} {mg mb : Str → Option Value} {A : Around} {s : Shared} {env : Env} {Q : Flow → Shared → Prop} {E : Value → Shared → Prop} {rest : List Stmt}
theorem st_retSorted {x : Str} {D : Addr} {p1 p2 p3 p4 p5 p6 p7 pos : Pos} (G : Gd w mg mb s.heap) {n : Nat} (R : Rm (n + 9) A) (h23 : s.heap.get? 23 = some (tableObj #[]))
    (ls : Loads env (Str.ofString "sorted") (.builtin "sorted") s.heap) (lx : Loads env x (.ref D) s.heap) (lk : Loads env (Str.ofString "cmp_to_key") (.ref 28) s.heap) (lc : Loads env (Str.ofString "_law_compared") (.ref 209) s.heap) (hx : (x == ("__debug__" : Str)) = false)
    (next : ∀ K C h2 k2, KpH [23] s.heap h2 → (∃ ps', h2.get? 23 = some (tableObj ps')) → KCls K 209 h2 C → wpAny (model prog w) A (call (.builtin "sorted") [.ref D] [(Str.ofString "key", .ref C)]) (fun v s' => Q (.ret v) s') E { s with heap := h2, toks := k2 }) :
    wpAny (model prog w) A (execs (.Return (some (.Call (.Name (Str.ofString "sorted") p1) [.Name x p2] [⟨some (Str.ofString "key"), .Call (.Name (Str.ofString "cmp_to_key") p3) [.Name (Str.ofString "_law_compared") p4] [] p5, p6⟩] p7)) pos :: rest) env) Q E s := by
  refine wpAny_execs_cons ?_
  rw [exec_Return_some]
  refine wpAny_bind (wpAny_standAt (wpAny_bind ?_))
  show wpAny (model prog w) A (do callWith p7 (← eval (.Name (Str.ofString "sorted") p1) env) [] (backTo p7 (starEach [.Name x p2] env)) (backToKw p7 (keywordEach [⟨some (Str.ofString "key"), .Call (.Name (Str.ofString "cmp_to_key") p3) [.Name (Str.ofString "_law_compared") p4] [] p5, p6⟩] env))) _ E s
  refine wpAny_bind (wpAny_Name (ls _ _ _ _ _ (Kp.refl _) ?_) (by decide))
  refine callWith_kw ?_
  refine (evs_cons (up_va (.ref D)) (ev_nameV lx hx) evs_nil) _ _ _ (Kp.refl _) fun vs h1 k1 kp1 a1 => ?_
  obtain ⟨v, rfl, rfl⟩ := alls1 a1
  refine kws_cons ?_
  refine wpAny_Call_NameR (wpAny_Name (lk _ _ _ _ _ kp1 ?_) (by decide))
  obtain ⟨oR, fdR, hoR⟩ : ∃ oR fdR, ∀ h, Kp s.heap h → h.get? 28 = some oR ∧ oR.data = .func fdR := ⟨_, _, fun h k => ⟨(G.up k).X 28 _ rfl, rfl⟩⟩
  refine callWith_function_kw (o := oR) (fd := fdR) ?_
  refine evalArgs_plain ((evs_cons (up_va (.ref 209)) (ev_nameV lc) evs_nil) _ _ _ kp1 fun vs h2 k2 kp2 a2 => ?_)
  obtain ⟨v, rfl, rfl⟩ := alls1 a2
  have kp12 : Kp s.heap h2 := Kp.trans kp1 kp2
  refine ⟨hoR h2 kp12, ?_⟩
  refine cmpkey (s := { s with heap := h2, toks := k2 }) (G.up kp12) R (kp12 _ _ h23) fun K C h3 k3 kH t3 kc => ?_
  refine kws_nil ?_
  exact wpAny_mono (next K C h3 k3 (fun b o m e => kH b o m (kp12 b o e)) t3 kc) (fun v s' q => wpAny_pure q) fun _ _ q => q
theorem rs_of {Hd : List Addr} {h : Heap} : ∀ {vs : List Value} {ps : List (Str × Str)}, RpAll Hd h vs (ps.map toldD) → ∃ rs : List Addr, vs = rs.map Value.ref
  | [], _, _ => ⟨[], rfl⟩
  | v :: vs, [], r => by have := r.length; cases this
  | v :: vs, p :: ps, r => by
    obtain ⟨a, _, rfl, _⟩ := Rp.tup_inv r.head
    obtain ⟨rs, rfl⟩ := rs_of r.tail
    exact ⟨a :: rs, rfl⟩
theorem map_arr (f : Nat → Value) (a : Array Nat) : a.map f = (a.toList.map f).toArray := by rw [← Array.toList_map, Array.toArray_toList]
theorem sortedTold {g : Array GenState} {d : Drawn} {t : Nat} {os : OsState} {h : Heap} {rows : List (List Nat)} {modes : List Int} {K : KDat} {C D : Addr} {H : List Addr} {n : Nat} {Q : Value → Shared → Prop} (G : Gd w mg mb h) (R : Rm (n + 6) A) (k : KCls K 209 h C) (hs : Hs H h) (hz : rows.length ≤ 63) (h2 : 2 ≤ rows.length) (O : Ol H D ((List.range rows.length).map fun k => toldD (toldT rows modes k)) h)
    (q : ∀ D' h' k', Kp h h' → h.get? D' = none → Rp H h' (.ref D') (.list (toldOut rows modes)) → Q (.ref D') ⟨h', g, d, k', os⟩) :
    wpAny (model prog w) A (call (.builtin "sorted") [.ref D] [(Str.ofString "key", .ref C)]) Q E ⟨h, g, d, t, os⟩ := by
  obtain ⟨ys, hp, r⟩ := O
  have r' : RpAll H h ys.toList (((List.range rows.length).map (toldT rows modes)).map toldD) := by rw [List.map_map]; exact r
  obtain ⟨rs, hrs⟩ := rs_of r'
  have hl : rs.length = rows.length := by
    have := r.length
    rw [hrs, List.length_map, List.length_map, List.length_range] at this; exact this
  rw [hrs] at r
  have at_ : ∀ i a, rs[i]? = some a → i < rows.length ∧ Rp H h (.ref a) (toldD (toldT rows modes i)) := fun i a e => by
    have hi : i < rows.length := by rw [← hl]; exact (List.getElem?_eq_some_iff.mp e).1
    obtain ⟨d, e1, e2⟩ := r.get (i := i) (v := .ref a) (by rw [List.getElem?_map, e]; rfl)
    rw [List.getElem?_map, List.getElem?_range hi] at e1
    cases e1
    exact ⟨hi, e2⟩
  refine sortedK (m := n + 1) (n := rows.length) (rs := rs) (c := fun i j => cmpF (toldT rows modes i) (toldT rows modes j)) (Hd := H) k G.nl R (G.X 209 _ rfl) rfl hl.symm h2 (by omega) (by rw [← hrs, Array.toArray_toList]; exact hp.isList) ?_ ?_
  · intro A' R' i j r1 r2 e1 e2 s' kb
    exact compared_spec (G.up kb) R' ((at_ i r1 e1).2.up kb) ((at_ j r2 e2).2.up kb) (hs.up kb) (told_ok ..) (told_ok ..)
  · intro D' h' k' c' kp hD e
    refine q D' h' k' kp hD ?_
    have hDH : D' ∉ H := fun m => by obtain ⟨o, z⟩ := hs D' m; rw [hD] at z; cases z
    have hil : h'.IsList D' ((srt (toldC rows modes) rows.length).toList.map fun i => (rs.map Value.ref).getD i .none).toArray := by
      have ea := map_arr (fun i => (rs.map Value.ref).getD i .none) (srt (fun i j => decide (cmpF (toldT rows modes i) (toldT rows modes j) < 0)) rows.length)
      rw [ea] at e
      exact ⟨_, e, rfl, _, rfl⟩
    refine Rp.list_mk hDH hil ?_
    unfold toldOut
    have all : ∀ i ∈ (srt (toldC rows modes) rows.length).toList, i < rows.length := fun i hi => srt_lt (by omega) i (Array.mem_toList_iff.mp hi)
    generalize (srt (toldC rows modes) rows.length).toList = l at all
    clear hil e
    induction l with
    | nil => exact .nil
    | cons i l ih =>
      have hi := all i (.head _)
      refine .cons ?_ (ih fun j hj => all j (.tail _ hj))
      have e1 : rs[i]? = some (rs[i]'(by omega)) := List.getElem?_eq_getElem (by omega)
      have : (rs.map Value.ref).getD i .none = .ref (rs[i]'(by omega)) := by rw [List.getD_eq_getElem?_getD, List.getElem?_map, e1]; rfl
      show Rp H h' ((rs.map Value.ref).getD i .none) _
      rw [this]
      exact ((at_ i _ e1).2).up kp
end
end Mine
end
section
set_option maxRecDepth 100000
namespace Mine
open PySem PySem.W PySem.W.X PySem.Calls PyProof.Rows
set_option maxHeartbeats 4000000
section
variable {prog : Program} {w : World} {mg mb : Str → Option Value} {A : Around} {s : Shared}
def decS : PyData → Nat
  | .str x => (x.cps[0]?.getD 97) - 97
  | _ => 0
def decR : PyData → List Nat
  | .list l => l.map decS
  | _ => []
theorem decR_eR (r : List Nat) : decR (eR r) = r := by
  show (r.map eS).map decS = r
  rw [List.map_map]
  refine (List.map_congr_left (g := id) fun i _ => ?_).trans (List.map_id _)
  show (97 + i) - 97 = i
  omega
theorem rows_dec (rows : List (List Nat)) : (((rows.map eR).filter fun _ => true).map fun d => PyData.str (pathF (decR d))) = (rows.map pathF).map PyData.str := by
  rw [List.filter_eq_self.mpr (fun _ _ => rfl), List.map_map, List.map_map]
  exact List.map_congr_left fun r _ => by show PyData.str (pathF (decR (eR r))) = _; rw [decR_eR]; rfl
theorem allsVD {h : Heap} {v : Value} {d : PyData} {H : List Addr} {vs : List Value} (a : Alls [Va v, Da H d] h vs) : ∃ x y, vs = [x, y] ∧ Va v h x ∧ Rp H h y d := by
  obtain ⟨x, vs, rfl, e1, y, vs, rfl, e2, e3⟩ := a
  exact ⟨x, y, by rw [show vs = [] from e3], e1, e2⟩
abbrev nOf {env : Env} {H : List Addr} {h : Heap} {σ : Str → Option Vw} (_ : Fv env H h σ) (D : Addr) : List Addr := D :: Nb env
abbrev toldSg (rows : List (List Nat)) (modes : List Int) (D : Addr) : Str → Option Vw := sg [(Str.ofString "rows", .d (.list (rows.map eR))), (Str.ofString "modes", .d (.list (modes.map PyData.int))), (Str.ofString "paths", .p ((rows.map pathF).map PyData.str)), (Str.ofString "told", .v (.ref D))]
structure TInv (env : Env) (s₀ : Heap) (D : Addr) (h4 : Heap) (rows : List (List Nat)) (modes : List Int) (I : Addr) (i : Nat) (h : Heap) : Prop where
  F : FS s₀ (D :: Nb env) (I :: Tb) h
  V : Fv env ((D :: Nb env) ++ I :: Tb) h (toldSg rows modes D)
  O : Ol ((D :: Nb env) ++ I :: Tb) D ((List.range i).map fun k => toldD (toldT rows modes k)) h
  T : TabL (I :: D :: Nb env) 213 211 ⟨201, 24, 201, 85⟩ (env.qual ++ "<lambda>") h
  k : KpH (211 :: D :: Nb env) h4 h
abbrev invOf {env : Env} {H : List Addr} {h : Heap} {σ : Str → Option Vw} (_ : Fv env H h σ) (s₀ : Heap) (D : Addr) (h4 : Heap) (rows : List (List Nat)) (modes : List Int) : Addr → Nat → Heap → Prop := TInv env s₀ D h4 rows modes
theorem told_spec (G : Gd w mg mb s.heap) {n : Nat} (R : Rm (n + 12) A) (t23 : s.heap.get? 23 = some (tableObj #[])) (t211 : s.heap.get? 211 = some (tableObj #[])) {v1 v2 : Value} {rows : List (List Nat)} {modes : List Int} (r1 : Rp Tb s.heap v1 (.list (rows.map eR))) (r2 : Rp Tb s.heap v2 (.list (modes.map PyData.int)))
    (hok : ∀ r ∈ rows, okR r ∧ r ≠ []) (hcl : ∀ r ∈ rows, ∀ k, 0 < k → k ≤ r.length → r.take k ∈ rows) (hz : rows.length ≤ 63) (h2 : 2 ≤ rows.length) (hml : modes.length = rows.length) {Q : Value → Shared → Prop} {E : Value → Shared → Prop}
    (q : ∀ D h' k, KpH Tb s.heap h' → (∃ ps, h'.get? 23 = some (tableObj ps)) → (∃ ps, h'.get? 211 = some (tableObj ps)) → Rp Tb h' (.ref D) (.list (toldOut rows modes)) → Q (.ref D) { s with heap := h', toks := k }) :
    wpAny (model prog w) A (call (.ref 214) [v1, v2]) Q E s := by
  have o1 := G.X 214 _ rfl
  have hs : Hs Tb s.heap := fun a ha => by
    rcases List.mem_cons.mp ha with rfl | ha
    · exact ⟨_, t23⟩
    · rw [List.mem_singleton.mp ha]; exact ⟨_, t211⟩
  refine call_fnR [(Str.ofString "rows", .d (.list (rows.map eR))), (Str.ofString "modes", .d (.list (modes.map PyData.int)))] hs R.room o1 rfl G.nl ?_ rfl rfl ?_ ?_ ?_ ?_ ?_
  · exact codeRec_of G.X (by rfl)
  · exact rfl
  · intro L x hx
    change x ∈ [(_, _), (_, _)] at hx
    simp only [List.mem_cons, List.not_mem_nil, or_false] at hx
    rcases hx with rfl | rfl
    · exact .inl rfl
    · exact .inr ⟨rfl, rfl⟩
  · intro L p hp
    change p ∈ [(_, _), (_, _)] at hp
    simp only [List.mem_cons, List.not_mem_nil, or_false] at hp
    rcases hp with rfl | rfl <;> rfl
  · exact sc_cons r1 (fun L => .inl ⟨rfl, rfl, rfl⟩) (sc_cons r2 (fun L => .inr ⟨rfl, rfl⟩) sc_nil)
  intro h₁ k L F' V Q' E' qq
  have hh : ∀ e, (A.deeper e).handled = none := fun e => R.hh
  have hbig : (100000 : Nat) ≤ sizeLine := by decide
  have G0 := G.hid
  have nwF : ∀ a ∈ Nb (callEnvC _ L 214), (hideAll s.heap Tb).get? a = none := fun a ha => by
    cases e : (hideAll s.heap Tb).get? a with
    | none => rfl
    | some o => have := F'.nw a ha; rw [of_hideAll _ e] at this; cases this
  have F : FS (hideAll s.heap Tb) (Nb (callEnvC _ L 214)) Tb h₁ := ⟨Kp.trans (hid_le Tb s.heap) F'.k0, nwF, F'.hs⟩
  have G1 := G0.up F.k0
  have T23 : h₁.get? 23 = some (tableObj #[]) := F'.k0 _ _ t23
  have T211 : h₁.get? 211 = some (tableObj #[]) := F'.k0 _ _ t211
  have nb : ∀ a, (∃ o, s.heap.get? a = some o) → a ∉ Nb (callEnvC _ L 214) := fun a ⟨o, e⟩ m => by have := F'.nw a m; rw [this] at e; cases e
  have k01 : Kp s.heap h₁ := F'.k0
  clear F'
  refine st_setP ((rows.map pathF).map PyData.str) F V own_c ?_ ?_
  · rw [← rows_dec rows]
    refine ev_compF (fun d => PyData.str (pathF (decR d))) (fun _ => true) V F.hs (iter_list (hh _) (ev_varL V rfl)) (by rw [List.length_map]; omega) ?_ ?_ rfl ?_
    · intro C b' H d hd ext V' s' Q2 E2 kb q2
      rw [List.forIn_nil]; exact wpAny_pure (q2 s'.heap s'.toks (Kp.refl _))
    · intro C b' H d hd _ ext V'
      obtain ⟨r, hr, rfl⟩ := List.mem_map.mp hd
      rw [decR_eR]
      have Gb := G1.up ext.kp
      refine ev_callF (glob Gb (by rfl)) (Gb.X 37 _ rfl) rfl (evs_cons (up_va (.ref 131)) (ev_nameV (glob Gb (by rfl))) (evs_cons (up_da H (eR r)) (ev_varL V' rfl) evs_nil)) fun s' vs kb av => ?_
      obtain ⟨x1, x2, rfl, e1, e2⟩ := allsVD av
      obtain rfl : x1 = _ := e1
      exact join_row (n := n + 7) (Gb.up kb) R.deeper e2 (ext.hs.up kb) (hok r hr).1 (hok r hr).2
    · intro y c h
      cases h
  intro h3 k3 F3 kN3 kq3 V3
  refine st_open F3 V3 own_l ?_
  intro D h4 k4 hD F4 kN4 kq4 V4 O4
  refine st_for (N := 211 :: nOf V4 D) (Hd := Tb) (ds := dsN rows.length) (invOf V4 (hideAll s.heap Tb) D h4 rows modes) ?_ ?_ ?_ ?_ ?_ ?_
  · intro a ha
    rcases List.mem_cons.mp ha with rfl | ha
    · exact F4.hs 211 (List.mem_append.mpr (.inr (by decide)))
    · exact F4.hs a (inl_of a ha)
  · have G4 := G0.up F4.k0
    have hide : ∀ b, b ∈ 211 :: (nOf V4 D ++ Tb) → b ∈ (nOf V4 D ++ Tb) := fun b m => by
      rcases List.mem_cons.mp m with rfl | m
      · exact List.mem_append.mpr (.inr (by decide))
      · exact m
    refine iter_rangeN (hh _) (ev_callT (bltn G4 (by rfl) rfl) (evs_cons (up_da [] (.int rows.length)) (ev_callB (bltn G4 (by rfl) rfl) (evs_cons (up_pl _ _) (ev_varPC V4 rfl) evs_nil) fun s' vs kb a => ?_) evs_nil) fun s' vs kb a => ?_) (by omega)
    · obtain ⟨v, vs, rfl, e1, e2⟩ := a
      obtain rfl : vs = [] := e2
      refine (g_lenL e1.1 (by simp; omega)).imp fun _ _ _ p => ?_
      rw [List.length_map, List.length_map] at p
      exact Rp.sub p (fun _ h => nomatch h)
    · obtain ⟨v, rfl, r⟩ := alls1 a
      exact g_range1 r
  · intro I h' kp hI hx
    have hide : ∀ a ∈ nOf V4 D ++ I :: Tb, a ∈ nOf V4 D ++ Tb ∨ h4.get? a = none := fun a ha => by
      rcases List.mem_append.mp ha with m | m
      · exact .inl (inl_of a m)
      · rcases List.mem_cons.mp m with rfl | m
        · exact .inr hI
        · exact .inl (List.mem_append.mpr (.inr m))
    refine ⟨⟨F4.k0.trans kp, F4.nw, fun a ha => ?_⟩, (V4.less (sl (sl_cons (sl_cons (sl_cons (sl_cons sl_nil)))))).hide kp hide, O4.hide kp hide, ?_, kp.toH⟩
    · rcases List.mem_append.mp ha with m | m
      · exact F4.hs.up kp a (inl_of a m)
      · rcases List.mem_cons.mp m with rfl | m
        · exact hx
        · exact F4.hs.up kp a (List.mem_append.mpr (.inr m))
    · have n1 := nb 211 ⟨_, t211⟩
      have n2 := nb 213 ⟨_, G.X 213 _ rfl⟩
      have e3 : h3.get? 211 = some (tableObj #[]) := kN3 _ _ n1 T211
      have f3' := kN3 213 _ n2 (k01 _ _ (G.X 213 _ rfl))
      have d1 : (211 : Addr) ≠ D := fun z => by rw [← z, e3] at hD; cases hD
      have d2 : (213 : Addr) ≠ D := fun z => by rw [← z, f3'] at hD; cases hD
      have i1 : (211 : Addr) ≠ I := fun z => by have := kN4 _ _ n1 e3; rw [z, hI] at this; cases this
      have i2 : (213 : Addr) ≠ I := fun z => by have := kN4 213 _ n2 f3'; rw [z, hI] at this; cases this
      have e4 := kp _ _ (kN4 _ _ n1 e3)
      have f4' := kp _ _ (kN4 213 _ n2 f3')
      refine ⟨fun m => ?_, fun m => ?_, #[], ⟨_, _, _, _, _, _, _, _, _, f4', rfl, rfl, rfl, rfl, rfl, rfl, rfl, rfl, by decide⟩, e4, trivial, .inl rfl⟩
      · rcases List.mem_cons.mp m with z | m
        · exact i2 z
        rcases List.mem_cons.mp m with z | z
        · exact d2 z
        · exact n2 z
      · rcases List.mem_cons.mp m with z | m
        · exact i1 z
        rcases List.mem_cons.mp m with z | z
        · exact d1 z
        · exact n1 z
  · rintro I i h h' hI ⟨F5, V5, O5, T5, k5⟩ kI hx
    have nI : ∀ a ∈ nOf V4 D ++ Tb, a ≠ I := fun a ha z => by obtain ⟨o, e⟩ := F4.hs a ha; rw [z, hI] at e; cases e
    have mI : I ∈ nOf V4 D ++ I :: Tb := List.mem_append.mpr (.inr (.head _))
    have i0 : ∀ a o, (hideAll s.heap Tb).get? a = some o → a ∉ [I] := fun a o e m => by
      have := F4.k0 a o e
      rw [List.mem_singleton.mp m, hI] at this; cases this
    have old : ∀ a o, h4.get? a = some o → a ∉ [I] := fun a o e m => by rw [List.mem_singleton.mp m, hI] at e; cases e
    refine ⟨⟨fun a o e => kI a o (i0 a o e) (F5.k0 a o e), F5.nw, fun a ha => ?_⟩, V5.upN kI (fun a ha => by rw [List.mem_singleton.mp ha]; exact mI) (fun m => nI _ (inl_of _ (.tail _ (.head _))) (List.mem_singleton.mp m)) (fun y c hc m => nI c (inl_of _ (.tail _ (.tail _ (List.mem_map.mpr ⟨_, mem_of_lookup hc, rfl⟩)))) (List.mem_singleton.mp m)), ?_, ?_, fun a o m e => ?_⟩
    · by_cases z : a = I
      · subst z; exact hx
      · obtain ⟨o, e⟩ := F5.hs a ha; exact ⟨o, kI a o (fun m => z (List.mem_singleton.mp m)) e⟩
    · obtain ⟨ys, hp, r⟩ := O5
      exact ⟨ys, hp.at fun o e => kI _ _ (fun m => nI D (inl_of _ (.head _)) (List.mem_singleton.mp m)) e, r.upH fun b o n e => kI b o (fun m => n (List.mem_singleton.mp m ▸ mI)) e⟩
    · exact T5.upN fun a o m e => kI a o (fun z => m (List.mem_singleton.mp z ▸ .head _)) e
    · exact kI a o (old a o e) (k5 a o m e)
  · rintro I i d v h k Q2 E2 hI hd ⟨F5, V5, O5, T5, k5⟩ rv hx qn
    obtain ⟨hi, rfl⟩ := range_get hd
    have hri : rows[i]? = some rows[i] := List.getElem?_eq_getElem hi
    have okri := hok _ (List.getElem_mem hi)
    have rv' : Rp (nOf V4 D ++ I :: Tb) h v (.int i) := rv.sub fun a ha => .tail _ ha
    refine wpAny_assign_Name (put (s := { s with heap := h, toks := k }) (d := .d (.int i)) (N := nOf V4 D) V5 (Own.cons own_l) (fun a ha => inl_of a ha) rv' (fun h6 k6 kN6 kq6 hx6 V6 => ?_) rfl)
    have F6 := F5.up kN6 fun a ha => hx6 a (F5.hs a (inl_of a ha))
    have O6 := O5.up kN6 inl_of kq6
    have G6 := G0.up F6.k0
    refine st_setd (s := { s with heap := h6, toks := k6 }) (.list (wayL rows[i] 0)) F6 V6 (Own.cons own_l) ?_ ?_
    · have ew : wayL rows[i] 0 = [.str (pathF rows[i])] := by
        unfold wayL
        show [PyData.str (pathF (rows[i].take (rows[i].length - 0 + 0)))] = _
        rw [Nat.sub_zero, Nat.add_zero, List.take_length]
      rw [ew]
      exact ev_list (ds := [_]) F6.hs (evs_cons (up_da _ _) (ev_sub (up_da _ (.list ((rows.map pathF).map PyData.str))) (Ev.imp (ev_varPC V6 rfl) fun _ _ _ p => p.1) (ev_varL V6 rfl) fun s' x y _ q1 q2 => g_item q1 q2 (by omega) (by omega) (by rw [Int.toNat_natCast, List.getElem?_map, List.getElem?_map, hri]; rfl)) evs_nil) (by show (1 : Nat) ≤ sizeLine; decide)
    intro h7 k7 F7 kN7 kq7 V7
    have O7 := O6.up kN7 inl_of kq7
    refine st_way (r := rows[i]) G0 (n := n + 9) R.deeper okri.1 okri.2 F7 V7 (Own.cons own_l) (fun h kp => glob (G0.up kp) (by rfl)) rfl rfl ?_
    intro h8 k8 F8 kN8 kq8 V8
    have O8 := O7.up kN8 inl_of kq8
    have toM : ∀ {g g' : Heap}, KpH (nOf V4 D) g g' → KpH (I :: nOf V4 D) g g' := fun k a o m e => k a o (fun z => m (.tail _ z)) e
    have to2 : ∀ {g g' : Heap}, KpH (nOf V4 D) g g' → KpH (211 :: nOf V4 D) g g' := fun k a o m e => k a o (fun z => m (.tail _ z)) e
    have T8 := ((T5.upN (toM kN6)).upN (toM kN7)).upN (toM kN8)
    have n211 : 211 ∉ nOf V4 D := fun m => T8.2.1 (.tail _ m)
    have hide : ∀ b, b ∈ 211 :: nOf V4 D → b ∈ nOf V4 D ++ I :: Tb := fun b m => by
      rcases List.mem_cons.mp m with rfl | m
      · exact List.mem_append.mpr (.inr (.tail _ (.tail _ (.head _))))
      · exact inl_of b m
    refine st_rights (s := { s with heap := h8, toks := k8 }) (M := I :: nOf V4 D) (r := rows[i]) (rows := rows) (modes := modes) G0 (n := n + 7) R.deeper F8 V8 (Own.cons own_l) rfl rfl rfl rfl rfl (by kernel_rfl) rfl rfl T8 (fun a ha => .tail _ ha) (fun a ha => ?_) (.tail _ (.tail _ (.head _))) n211 (fun a ha => .tail _ ha) (hideAll_none _ (by decide)) (fun h kp => glob (G0.up kp) (by rfl)) rfl rfl (fun r hr => (hok r hr).1) okri.2 (hcl _ (List.getElem_mem hi)) hz hml ?_
    · rcases List.mem_cons.mp ha with rfl | m
      · exact F8.hs _ (List.mem_append.mpr (.inr (.head _)))
      · exact F8.hs a (inl_of a m)
    intro h9 k9 F9 kN9 kq9 V9 T9
    have O9 := O8.up kN9 hide kq9
    have G9 := G0.up F9.k0
    have hmi : modes[i]? = some (modes[i]?.getD 0) := by rw [List.getElem?_eq_getElem (by omega)]; rfl
    have er : accR rows modes rows[i] rows[i].length = rightsF rows modes i := by unfold rightsF; rw [hri]; rfl
    rw [er] at V9
    have ep : pathF rows[i] = (toldT rows modes i).2 := by unfold toldT; rw [hri]; rfl
    refine st_append (s := { s with heap := h9, toks := k9 }) (toldD (toldT rows modes i)) F9 V9 (.head _) (ld_L V9 rfl) O9 ?_ ?_ ?_
    · refine ev_tuple (ds := [_, _]) F9.hs (evs_cons (up_da _ _) ?_ (evs_cons (up_da _ _) ?_ evs_nil)) (by show (2 : Nat) ≤ sizeLine; decide)
      · refine ev_callF (glob G9 (by rfl)) (G9.X 192 _ rfl) rfl (evs_cons (up_da (nOf V4 D ++ I :: Tb) (.int (Builtin.bitOr (Builtin.bitAnd (modes[i]?.getD 0) 61440) (rightsF rows modes i)))) ?_ evs_nil) fun s' vs kb av => ?_
        · refine ev_bin (up_da (nOf V4 D ++ I :: Tb) (.int (Builtin.bitAnd (modes[i]?.getD 0) 61440))) (ev_callF (glob G9 (by rfl)) (G9.X 152 _ rfl) rfl (evs_cons (up_da (nOf V4 D ++ I :: Tb) (.int (modes[i]?.getD 0))) (ev_sub (up_da _ (.list (modes.map PyData.int))) (ev_varC V9 rfl) (ev_varL V9 rfl) fun s' x y _ q1 q2 => g_item q1 q2 (by omega) (by omega) (by rw [Int.toNat_natCast, List.getElem?_map, hmi]; rfl)) evs_nil) fun s' vs kb av => ?_) (ev_varL V9 rfl) fun s' x y _ q1 q2 => g_bor q1 q2
          obtain ⟨v, rfl, r⟩ := alls1 av
          exact sifmt_spec (n := n + 11) (G9.up kb) R.deeper r
        · obtain ⟨v, rfl, r⟩ := alls1 av
          exact filemode_spec (n := n + 9) (G9.up kb) R.deeper r
      · rw [← ep]
        exact ev_sub (up_da _ (.list ((rows.map pathF).map PyData.str))) (Ev.imp (ev_varPC V9 rfl) fun _ _ _ p => p.1) (ev_varL V9 rfl) fun s' x y _ q1 q2 => g_item q1 q2 (by omega) (by omega) (by rw [Int.toNat_natCast, List.getElem?_map, List.getElem?_map, hri]; rfl)
    · rw [List.length_map, List.length_range]; omega
    intro h10 k10 F10 kN10 V10 O10
    refine st_nil (qn h10 k10 ((to2 kN6).trans ((to2 kN7).trans ((to2 kN8).trans (kN9.trans (to2 kN10))))) ⟨F10, V10.less (sl (sl_cons (sl_cons (sl_cons (sl_cons sl_nil))))), ?_, T9.upN (toM kN10), k5.trans ((to2 kN6).trans ((to2 kN7).trans ((to2 kN8).trans (kN9.trans (to2 kN10)))))⟩)
    rw [List.range_succ, List.map_append]
    exact O10
  · rintro I h h' k hI ⟨F5, V5, O5, T5, k5⟩ kI
    have lenN : (dsN rows.length).length = rows.length := by rw [List.length_map, List.length_range]
    rw [lenN] at O5
    have nI : ∀ a ∈ nOf V4 D ++ Tb, a ≠ I := fun a ha z => by obtain ⟨o, e⟩ := F4.hs a ha; rw [z, hI] at e; cases e
    have mI : I ∈ nOf V4 D ++ I :: Tb := List.mem_append.mpr (.inr (.head _))
    have i0 : ∀ a o, (hideAll s.heap Tb).get? a = some o → a ∉ [I] := fun a o e m => by
      have := F4.k0 a o e
      rw [List.mem_singleton.mp m, hI] at this; cases this
    have hI' : ∀ {a o}, a ≠ I → h.get? a = some o → h'.get? a = some o := fun {a o} n e => kI a o (fun m => n (List.mem_singleton.mp m)) e
    have sub : ∀ a ∈ nOf V4 D ++ Tb, a ∈ nOf V4 D ++ I :: Tb := fun a ha => by
      rcases List.mem_append.mp ha with m | m
      · exact inl_of a m
      · exact List.mem_append.mpr (.inr (.tail _ m))
    have F6 : FS (hideAll s.heap Tb) (nOf V4 D) Tb h' := ⟨fun a o e => kI a o (i0 a o e) (F5.k0 a o e), F5.nw, fun a ha => by obtain ⟨o, e⟩ := F5.hs a (sub a ha); exact ⟨o, hI' (nI a ha) e⟩⟩
    have V6 := (V5.upN kI (fun a ha => by rw [List.mem_singleton.mp ha]; exact mI) (fun m => nI _ (inl_of _ (.tail _ (.head _))) (List.mem_singleton.mp m)) (fun y c hc m => nI c (inl_of _ (.tail _ (.tail _ (List.mem_map.mpr ⟨_, mem_of_lookup hc, rfl⟩)))) (List.mem_singleton.mp m))).sub sub
    have nD := nI D (inl_of _ (.head _))
    have T6 := T5.upN fun a o m e => kI a o (fun z => m (List.mem_singleton.mp z ▸ .head _)) e
    have n1 := nb 23 ⟨_, t23⟩
    have e3 : h3.get? 23 = some (tableObj #[]) := kN3 _ _ n1 T23
    have d1 : (23 : Addr) ≠ D := fun z => by rw [← z, e3] at hD; cases hD
    have e4 := kN4 _ _ n1 e3
    have e5 := hI' (nI 23 (List.mem_append.mpr (.inr (.head _)))) (k5 23 _ (fun m => by
      rcases List.mem_cons.mp m with z | m
      · cases z
      rcases List.mem_cons.mp m with z | m
      · exact d1 z
      · exact n1 m) e4)
    have G6 := G0.up F6.k0
    obtain ⟨ys, hp, ry⟩ := O5
    have hp6 : h'.PlainList D ys := hp.at fun o e => hI' nD e
    have ry6 : RpAll (nOf V4 D ++ Tb) h' ys.toList ((List.range rows.length).map fun k => toldD (toldT rows modes k)) := RpAll.sub (ry.upH fun b o n e => kI b o (fun m => n (List.mem_singleton.mp m ▸ mI)) e) sub
    refine st_retSorted (s := { s with heap := h', toks := k }) G6 (n := n + 2) R.deeper e5 (bltn G6 (by rfl) rfl) (ld_L V6 rfl) (glob G6 (by rfl)) (glob G6 (by rfl)) (by decide) fun K C h7 k7 kH7 t7 kc => ?_
    have k67 : ∀ {b o}, b ≠ 23 → h'.get? b = some o → h7.get? b = some o := fun {b o} n e => kH7 b o (fun m => n (List.mem_singleton.mp m)) e
    have F7 : Kp (hideAll s.heap Tb) h7 := fun a o e => k67 (fun z => by rw [z, hideAll_none _ (by decide)] at e; cases e) (F6.k0 a o e)
    have H7 : Hs (nOf V4 D ++ Tb) h7 := fun a ha => by
      by_cases z : a = 23
      · rw [z]; exact ⟨_, t7.choose_spec⟩
      · obtain ⟨o, e⟩ := F6.hs a ha; exact ⟨o, k67 z e⟩
    have O7 : Ol (nOf V4 D ++ Tb) D ((List.range rows.length).map fun k => toldD (toldT rows modes k)) h7 := ⟨ys, hp6.at fun o e => k67 (Ne.symm d1) e, ry6.upH fun b o n e => k67 (fun z => n (by rw [z]; exact List.mem_append.mpr (.inr (.head _)))) e⟩
    refine sortedTold (n := n + 5) (G0.up F7) R.deeper kc H7 hz h2 O7 fun D' h8 k8 kp8 hD' rp8 => ?_
    obtain ⟨ps, e211⟩ : ∃ ps, h'.get? 211 = some (tableObj ps) := by obtain ⟨_, _, ps, _, e, _⟩ := T6; exact ⟨ps, e⟩
    exact qq _ _ (q D' h8 k8 (fun b o m e => kp8 _ _ (F7 b o (hideAll_get _ e m))) (let ⟨p, e⟩ := t7; ⟨p, kp8 _ _ e⟩) ⟨ps, kp8 _ _ (k67 (by decide) e211)⟩ (rp8.sub fun a ha => List.mem_append.mpr (.inr ha)))
end
end Mine
end
section
set_option maxRecDepth 100000
namespace Mine
open PySem PySem.W PySem.W.X PySem.Calls PyProof.Rows
set_option maxHeartbeats 4000000
theorem ints_of {Hd : List Addr} {h : Heap} : ∀ {vs : List Value} {ns : List Int}, RpAll Hd h vs (ns.map PyData.int) → IntsAre vs ns
  | [], [], _ => .nil
  | [], _ :: _, r => by have := r.length; cases this
  | _ :: _, [], r => by have := r.length; cases this
  | v :: vs, n :: ns, r => by
    obtain ⟨t, rfl⟩ := Rp.int_inv r.head
    exact .cons n t (ints_of r.tail)
section
variable {prog : Program} {w : World} {mg mb : Str → Option Value} {A : Around} {s : Shared} {env : Env} {Q : Flow → Shared → Prop} {E : Value → Shared → Prop} {rest : List Stmt} {Hd : List Addr}
theorem g_sum {v : Value} {ns : List Int} (hh : A.handled = none) (r : Rp Hd s.heap v (.list (ns.map PyData.int))) : Gives prog w A s (call (.builtin "sum") [v] []) (Da Hd (.int ns.sum)) := by
  obtain ⟨a, vs, rfl, _, hl, ra⟩ := r.list_inv
  have hi := ints_of ra
  obtain ⟨xs, e⟩ := hi.allInts.items
  refine Gives.of fun Q E q => sum_intListG hh (xs := xs) (by rw [← e]; exact hl) fun h' tk t' k => ?_
  have en : preSum (numAt xs) xs.size = ns.sum := by
    rw [preSum_eq, List.take_of_length_le (by simp)]
    have h1 := nums_intItems xs
    rw [← e, show vs.toArray.toList = vs from rfl, hi.numsOf] at h1
    rw [← h1]
  rw [en]
  exact q _ h' tk k (.int _ _)
theorem st_retEq {f : Str} {p1 p2 p3 p4 p5 pos : Pos} {x y : Str} {e2 : Expr} {fa : Addr} {oR : Obj} {fdR : FuncData} {d1 d2 : PyData} (hf : Loads env f (.ref fa) s.heap) (hfo : ∀ h, Kp s.heap h → h.get? fa = some oR ∧ oR.data = .func fdR) (hx : Ev prog w A s.heap (eval (.Name x p2) env) (Da Hd d1)) (hy : Ev prog w A s.heap (eval (.Name y p3) env) (Da Hd d2))
    (spec : ∀ h k v1 v2, Kp s.heap h → Rp Hd h v1 d1 → Rp Hd h v2 d2 → wpAny (model prog w) A (call (.ref fa) [v1, v2]) (fun v s1 => wpAny (model prog w) A (eval e2 env) (fun y s2 => wpAny (model prog w) A (compareOp .Eq v y) (fun r s3 => Q (.ret r) s3) E s2) E s1) E { s with heap := h, toks := k })
    (hm : behindInMarks .Eq e2 = false := by with_unfolding_all rfl) (hb : (f == ("__debug__" : Str)) = false := by decide) :
    wpAny (model prog w) A (execs (.Return (some (.Compare (.Call (.Name f p1) [.Name x p2, .Name y p3] [] p4) [.Eq] [e2] p5)) pos :: rest) env) Q E s := by
  refine wpAny_execs_cons ?_
  rw [exec_Return_some]
  refine wpAny_bind (wpAny_standAt (wpAny_bind ?_))
  refine wpAny_Compare1 ?_ hm
  refine wpAny_Call_NameR (wpAny_Name (hf _ _ _ _ _ (Kp.refl _) ?_) hb)
  refine callWith_function_kw (o := oR) (fd := fdR) ?_
  refine evalArgs_plain ((evs_cons (up_da Hd d1) hx (evs_cons (up_da Hd d2) hy evs_nil)) _ _ _ (Kp.refl _) fun vs h1 k1 kp1 a1 => ?_)
  obtain ⟨v1, vs, rfl, e1, v2, vs, rfl, e2', e3⟩ := a1
  obtain rfl : vs = [] := e3
  exact ⟨hfo h1 kp1, wpAny_mono (spec h1 k1 v1 v2 kp1 e1 e2') (fun v s1 g1 => wpAny_mono g1 (fun y s2 g2 => wpAny_mono g2 (fun r s3 q => wpAny_pure q) fun _ _ q => q) fun _ _ q => q) fun _ _ q => q⟩
end
end Mine
end
section
set_option maxRecDepth 100000
namespace Mine
open PySem PySem.W PySem.W.X PySem.Calls PyProof.Rows
set_option maxHeartbeats 4000000
theorem take_clip4 (xs : List PyData) : (xs.drop ((none : Option Int).elim 0 (clipAt xs.length))).take ((some (4 : Int)).elim xs.length (clipAt xs.length) - (none : Option Int).elim 0 (clipAt xs.length)) = xs.take 4 := by
  simp only [Option.elim_none, Option.elim_some, List.drop_zero, Nat.sub_zero]
  have h := clipAt_cast xs.length (4 : Int)
  rw [if_neg (by omega)] at h
  by_cases hk : 4 ≤ xs.length
  · congr 1; omega
  · have h1 : xs.length ≤ clipAt xs.length (4 : Int) := by omega
    rw [List.take_of_length_le h1, List.take_of_length_le (by omega : xs.length ≤ 4)]
section
variable {prog : Program} {w : World} {mg mb : Str → Option Value} {A : Around} {s : Shared} {Q : Value → Shared → Prop} {E : Value → Shared → Prop}
theorem ev_take4 {b : Heap} {env : Env} {H : List Addr} {e : Expr} {k : Nat} {p1 p2 p3 : Pos} {ns : List Int} (hs : Hs H b) (h : Ev prog w A b (eval e env) (Da H (.list (ns.map PyData.int)))) (hz : ns.length ≤ 63) :
    Ev prog w A b (eval (.Subscript e (.Slice none (some (.Constant (.int 4) k p1)) none p2) p3) env) (Da H (.list ((ns.take 4).map PyData.int))) := by
  have hbig : (100000 : Nat) ≤ sizeLine := by decide
  have := sliceL (lower := none) (upper := some (.Constant (.int 4) k p1)) (p := p2) (pos := p3) (lo := none) (hi := some 4) hs h trivial ev_int (by rw [List.length_map]; omega)
  rw [take_clip4, ← List.map_take] at this
  exact this
abbrev hOf {env : Env} {H : List Addr} {h : Heap} {σ : Str → Option Vw} (_ : Fv env H h σ) : List Addr := H
theorem law_spec (G : Gd w mg mb s.heap) {n : Nat} (R : Rm (n + 13) A) (t23 : s.heap.get? 23 = some (tableObj #[])) (t211 : s.heap.get? 211 = some (tableObj #[])) {v : Value} {ns : List Int} (r : Rp Tb s.heap v (.list (ns.map PyData.int))) (hn : ns.length ≤ 63)
    {rows : List (List Nat)} {modes : List Int} (hrows : rowsF (ns.take 4) = rows) (hmodes : modesF rows (ns.take 4).sum = modes) (hok : ∀ r ∈ rows, okR r ∧ r ≠ []) (hcl : ∀ r ∈ rows, ∀ k, 0 < k → k ≤ r.length → r.take k ∈ rows) (hz : rows.length ≤ 63) (h2l : 2 ≤ rows.length) (hml : modes.length = rows.length) (hmo : ∀ m ∈ modes, okM m)
    (eq : toldOut rows modes = dueOut rows modes) (hlay : (PyData.list (dueOut rows modes)).canLay0 = true) (hdep : (PyData.list (dueOut rows modes)).depth ≤ 10) (heqv : PyData.eqv (.list (dueOut rows modes)) (.list (dueOut rows modes)) = true)
    (q : ∀ h' k, KpH Tb s.heap h' → (∃ ps, h'.get? 23 = some (tableObj ps)) → (∃ ps, h'.get? 211 = some (tableObj ps)) → Q (.bool true) { s with heap := h', toks := k }) :
    wpAny (model prog w) A (call (.ref 226) [v]) Q E s := by
  have o1 := G.X 226 _ rfl
  have hs : Hs Tb s.heap := fun a ha => by
    rcases List.mem_cons.mp ha with rfl | ha
    · exact ⟨_, t23⟩
    · rw [List.mem_singleton.mp ha]; exact ⟨_, t211⟩
  refine call_fnR [(Str.ofString "script", .d (.list (ns.map PyData.int)))] hs R.room o1 rfl G.nl ?_ rfl rfl ?_ ?_ ?_ ?_ ?_
  · exact codeRec_of G.X (by rfl)
  · exact rfl
  · intro L x hx; rw [List.mem_singleton.mp hx]; exact .inl rfl
  · intro L p hp
    change p ∈ [] at hp
    cases hp
  · exact sc_cons r (fun L => .inl ⟨rfl, rfl, rfl⟩) sc_nil
  intro h₁ k L F' V Q' E' qq
  have G0 := G.hid
  have nwF : ∀ a ∈ Nb (callEnvC _ L 226), (hideAll s.heap Tb).get? a = none := fun a ha => by
    cases e : (hideAll s.heap Tb).get? a with
    | none => rfl
    | some o => have := F'.nw a ha; rw [of_hideAll _ e] at this; cases this
  have F : FS (hideAll s.heap Tb) (Nb (callEnvC _ L 226)) Tb h₁ := ⟨Kp.trans (hid_le Tb s.heap) F'.k0, nwF, F'.hs⟩
  have G1 := G0.up F.k0
  have T23 : h₁.get? 23 = some (tableObj #[]) := F'.k0 _ _ t23
  have T211 : h₁.get? 211 = some (tableObj #[]) := F'.k0 _ _ t211
  have nb : ∀ a, (∃ o, s.heap.get? a = some o) → a ∉ Nb (callEnvC _ L 226) := fun a ⟨o, e⟩ m => by have := F'.nw a m; rw [this] at e; cases e
  have n23 := nb 23 ⟨_, t23⟩
  have n211 := nb 211 ⟨_, t211⟩
  clear F' nb
  refine st_setd (.list (rows.map eR)) F V own_l ?_ ?_
  · rw [← hrows]
    refine ev_callF (glob G1 (by rfl)) (G1.X 197 _ rfl) rfl (evs_cons (up_da (hOf V) (.list ((ns.take 4).map PyData.int))) (ev_take4 F.hs (ev_varL V rfl) hn) evs_nil) fun s' vs kb av => ?_
    obtain ⟨v, rfl, rv⟩ := alls1 av
    exact rows_spec (n := n + 11) (G1.up kb) R.deeper rv (F.hs.up kb) (by rw [List.length_take]; omega)
  intro h2 k2 F2 kN2 kq2 V2
  have G2 := G0.up F2.k0
  refine st_setd (s := { s with heap := h2, toks := k2 }) (.list (modes.map PyData.int)) F2 V2 own_l ?_ ?_
  · rw [← hmodes]
    refine ev_callF (glob G2 (by rfl)) (G2.X 202 _ rfl) rfl (evs_cons (up_da (hOf V2) (.list (rows.map eR))) (ev_varL V2 rfl) (evs_cons (up_da (hOf V2) (.int (ns.take 4).sum)) (ev_callB (bltn G2 (by rfl) rfl) (evs_cons (up_da (hOf V2) (.list ((ns.take 4).map PyData.int))) (ev_take4 F2.hs (ev_varL V2 rfl) hn) evs_nil) fun s' vs kb av => ?_) evs_nil)) fun s' vs kb av => ?_
    · obtain ⟨v, rfl, rv⟩ := alls1 av
      exact g_sum R.hh rv
    · obtain ⟨v1, vs, rfl, e1, v2, vs, rfl, e2, e3⟩ := av
      obtain rfl : vs = [] := e3
      exact modes_spec (n := n + 11) (G2.up kb) R.deeper e1 e2 (F2.hs.up kb) (fun r hr => (hok r hr).1) (by omega)
  intro h3 k3 F3 kN3 kq3 V3
  have G3 := G0.up F3.k0
  obtain ⟨oR, fdR, hoR⟩ : ∃ oR fdR, ∀ h, Kp h3 h → h.get? 214 = some oR ∧ oR.data = .func fdR := ⟨_, _, fun h k => ⟨(G3.up k).X 214 _ rfl, rfl⟩⟩
  have e23 := kN3 _ _ n23 (kN2 _ _ n23 T23)
  have e211 := kN3 _ _ n211 (kN2 _ _ n211 T211)
  refine st_retEq (s := { s with heap := h3, toks := k3 }) (Hd := hOf V3) (d1 := .list (rows.map eR)) (d2 := .list (modes.map PyData.int)) (glob G3 (by rfl)) hoR (ev_varL V3 rfl) (ev_varL V3 rfl) ?_
  intro h4 k4 v1 v2 kp4 r1 r2
  have sub : ∀ a ∈ Tb, a ∈ hOf V3 := fun a ha => List.mem_append.mpr (.inr ha)
  have F4 := F3.grow kp4
  refine told_spec (s := { s with heap := h4, toks := k4 }) (n := n) (G3.up kp4) R.deeper (kp4 _ _ e23) (kp4 _ _ e211) (r1.sub sub) (r2.sub sub) hok hcl hz h2l hml ?_
  intro D h5 k5 kH5 t23' t211' r5
  have nT : ∀ a, a ∉ Tb → ∀ o, h4.get? a = some o → h5.get? a = some o := fun a m o e => kH5 a o m e
  have V5 := (V3.up kp4).upN kH5 sub (fun m => by
    rcases List.mem_cons.mp m with z | z
    · exact n23 (z ▸ .head _)
    · exact n211 (List.mem_singleton.mp z ▸ .head _)) (fun y c hc m => by
    rcases List.mem_cons.mp m with z | z
    · exact n23 (z ▸ .tail _ (List.mem_map.mpr ⟨_, mem_of_lookup hc, rfl⟩))
    · exact n211 (List.mem_singleton.mp z ▸ .tail _ (List.mem_map.mpr ⟨_, mem_of_lookup hc, rfl⟩)))
  have K5 : Kp (hideAll s.heap Tb) h5 := fun a o e => nT a (fun m => by rw [hideAll_none _ m] at e; cases e) o (F4.k0 a o e)
  have G5 := G0.up K5
  have H5 : Hs (hOf V3) h5 := fun a ha => by
    by_cases m : a ∈ Tb
    · rcases List.mem_cons.mp m with z | z
      · rw [z]; exact ⟨_, t23'.choose_spec⟩
      · rw [List.mem_singleton.mp z]; exact ⟨_, t211'.choose_spec⟩
    · obtain ⟨o, e⟩ := F4.hs a ha; exact ⟨o, nT a m o e⟩
  refine (ev_callF (P := Da (hOf V3) (.list (dueOut rows modes))) (glob G5 (by rfl)) (G5.X 219 _ rfl) rfl (evs_cons (up_da (hOf V3) (.list (rows.map eR))) (ev_varL V5 rfl) (evs_cons (up_da (hOf V3) (.list (modes.map PyData.int))) (ev_varL V5 rfl) evs_nil)) fun s' vs kb av => ?_).use (Kp.refl _) fun y h6 k6 kp6 r6 => ?_
  · obtain ⟨v1, vs, rfl, e1, v2, vs, rfl, e2, e3⟩ := av
    obtain rfl : vs = [] := e3
    exact due_spec (n := n + 7) (G5.up kb) R.deeper e1 e2 (H5.up kb) (fun r hr => (hok r hr).1) hz hml hmo h2l
  rw [eq] at r5
  have r5' : Rp Tb h6 (.ref D) (.list (dueOut rows modes)) := r5.up kp6
  refine (g_eqd (s := { s with heap := h6, toks := k6 }) r5' r6 hlay hlay ?_).use fun v h7 k7 kp7 p7 => ?_
  · have := R.un
    show A.units + 3 + min _ _ < 9900
    omega
  obtain rfl : v = .bool _ := p7
  rw [heqv]
  exact qq _ _ (q h7 k7 (fun b o m e => kp7 _ _ (kp6 _ _ (K5 b o (hideAll_get _ e m)))) (let ⟨p, e⟩ := t23'; ⟨p, kp7 _ _ (kp6 _ _ e)⟩) (let ⟨p, e⟩ := t211'; ⟨p, kp7 _ _ (kp6 _ _ e)⟩))
end
end Mine
end
section
set_option maxRecDepth 100000
namespace Mine
open PySem PySem.W PySem.W.X PySem.Calls PyProof.Rows
set_option maxHeartbeats 4000000
theorem mem_new {rows : List (List Nat)} {row r : List Nat} : r ∈ newOf rows row ↔ ∃ j, j < row.length ∧ row.take (j + 1) ∉ rows ∧ r = row.take (j + 1) := by
  unfold newOf
  constructor
  · intro h
    obtain ⟨k, hk, rfl⟩ := List.mem_map.mp h
    obtain ⟨h1, h2⟩ := List.mem_filter.mp hk
    obtain ⟨j, hj, rfl⟩ := List.mem_map.mp h1
    exact ⟨j, List.mem_range.mp hj, by simpa using h2, rfl⟩
  · rintro ⟨j, hj, hn, rfl⟩
    exact List.mem_map.mpr ⟨j + 1, List.mem_filter.mpr ⟨List.mem_map.mpr ⟨j, List.mem_range.mpr hj, rfl⟩, by simpa using hn⟩, rfl⟩
structure RowsOk (rows : List (List Nat)) : Prop where
  ne : ∀ r ∈ rows, r ≠ []
  cl : ∀ r ∈ rows, ∀ k, 0 < k → k ≤ r.length → r.take k ∈ rows
  nd : rows.Nodup
theorem nd_new (rows : List (List Nat)) (row : List Nat) : (newOf rows row).Nodup := by
  unfold newOf
  rw [List.Nodup, List.pairwise_map]
  refine List.Pairwise.filter _ ?_
  rw [List.pairwise_map]
  refine List.Pairwise.imp_of_mem ?_ List.pairwise_lt_range
  intro a b ha hb hlt e
  have h2 := List.mem_range.mp hb
  have := congrArg List.length e
  rw [List.length_take, List.length_take] at this
  omega
theorem ok_add {rows : List (List Nat)} (h : RowsOk rows) (row : List Nat) : RowsOk (addRow rows row) := by
  refine ⟨fun r hr => ?_, fun r hr k h0 hk => ?_, ?_⟩
  · rcases List.mem_append.mp hr with m | m
    · exact h.ne r m
    · obtain ⟨j, hj, _, rfl⟩ := mem_new.mp m
      intro e
      have hl : (row.take (j + 1)).length = j + 1 := by rw [List.length_take]; omega
      rw [e] at hl
      cases hl
  · rcases List.mem_append.mp hr with m | m
    · exact List.mem_append.mpr (.inl (h.cl r m k h0 hk))
    · obtain ⟨j, hj, _, rfl⟩ := mem_new.mp m
      rw [List.length_take] at hk
      obtain ⟨i, rfl⟩ : ∃ i, k = i + 1 := ⟨k - 1, by omega⟩
      rw [List.take_take, show min (i + 1) (j + 1) = i + 1 by omega]
      by_cases hm : row.take (i + 1) ∈ rows
      · exact List.mem_append.mpr (.inl hm)
      · exact List.mem_append.mpr (.inr (mem_new.mpr ⟨i, by omega, hm, rfl⟩))
  · refine List.nodup_append.mpr ⟨h.nd, nd_new _ _, fun a ha b hb e => ?_⟩
    subst e
    obtain ⟨j, _, hn, rfl⟩ := mem_new.mp hb
    exact hn ha
theorem ok_fold : ∀ (l : List (List Nat)) {acc : List (List Nat)}, RowsOk acc → RowsOk (l.foldl addRow acc)
  | [], _, h => h
  | x :: l, _, h => ok_fold l (ok_add h x)
theorem len_fold : ∀ (l : List (List Nat)) (acc : List (List Nat)), acc.length ≤ (l.foldl addRow acc).length
  | [], _ => Nat.le_refl _
  | x :: l, acc => by
    refine Nat.le_trans ?_ (len_fold l (addRow acc x))
    unfold addRow
    rw [List.length_append]; omega
theorem rows_ok (ns : List Int) : RowsOk (rowsF ns) := ok_fold _ ⟨nofun, nofun, .nil⟩
theorem rows_okR (ns : List Int) : ∀ r ∈ rowsF ns, okR r := (okR_fold _ [] (okR_seed ns) nofun).1
theorem rows_len (ns : List Int) (h : ns.length ≤ 4) : (rowsF ns).length ≤ 63 := by
  have := (okR_fold (seedR ns) [] (okR_seed ns) nofun).2
  have e : (seedR ns).length = 3 + ns.length := by unfold seedR; simp; omega
  rw [e] at this
  unfold rowsF
  simp at this ⊢
  omega
theorem rows_two (ns : List Int) : 2 ≤ (rowsF ns).length := by
  unfold rowsF seedR
  rw [List.cons_append, List.foldl_cons]
  exact Nat.le_trans (by decide) (len_fold _ _)
theorem modes_len (rows : List (List Nat)) (t : Int) : (modesF rows t).length = rows.length := by unfold modesF; rw [List.length_map, List.length_range]
/-- the kind and the rest of a mode -/
def kindN (rows : List (List Nat)) (k : Nat) : Nat := if isDir rows k then 16384 else [32768, 40960, 4096][k % 3]?.getD 0
def restN (t : Int) (k : Nat) : Nat := ((492 - 19 * (k : Int) - t).fmod 512).toNat
def kinds : List Nat := [16384, 32768, 40960, 4096]
theorem kind_mem (rows : List (List Nat)) (k : Nat) : kindN rows k ∈ kinds := by
  unfold kindN
  split
  · decide
  · rcases (by omega : k % 3 = 0 ∨ k % 3 = 1 ∨ k % 3 = 2) with e | e | e <;> rw [e] <;> decide
theorem rest_lt (t : Int) (k : Nat) : restN t k < 512 := by
  have h1 := Int.fmod_nonneg_of_pos (492 - 19 * (k : Int) - t) (b := 512) (by decide)
  have h2 := Int.fmod_lt_of_pos (492 - 19 * (k : Int) - t) (b := 512) (by decide)
  unfold restN
  omega
theorem mode_nat (rows : List (List Nat)) (t : Int) (k : Nat) : modeAt rows t k = ((kindN rows k + restN t k : Nat) : Int) := by
  unfold modeAt kindAt kindN restN
  have h1 := Int.fmod_nonneg_of_pos (492 - 19 * (k : Int) - t) (b := 512) (by decide)
  have e : (if isDir rows k = true then (16384 : Int) else [32768, 40960, 4096][k % 3]?.getD 0) = ((if isDir rows k = true then 16384 else [32768, 40960, 4096][k % 3]?.getD 0 : Nat) : Int) := by
    split
    · rfl
    · rcases (by omega : k % 3 = 0 ∨ k % 3 = 1 ∨ k % 3 = 2) with e | e | e <;> rw [e] <;> rfl
  rw [e, Int.natCast_add, Int.toNat_of_nonneg h1]
theorem modes_get (rows : List (List Nat)) (t : Int) {k : Nat} (h : k < rows.length) : (modesF rows t)[k]? = some ((kindN rows k + restN t k : Nat) : Int) := by
  unfold modesF
  rw [List.getElem?_map, List.getElem?_range h, ← mode_nat]; rfl
theorem modes_okM (rows : List (List Nat)) (t : Int) : ∀ m ∈ modesF rows t, okM m := fun m hm => by
  obtain ⟨k, hk, rfl⟩ := List.mem_map.mp hm
  have hr := rest_lt t k
  rw [mode_nat]
  have hk := kind_mem rows k
  generalize kindN rows k = a at hk
  generalize restN t k = x at hr
  have e : ((a + x : Nat) : Int).fdiv 4096 = (((a + x) / 4096 : Nat) : Int) := by
    rw [Int.fdiv_eq_ediv_of_nonneg _ (by decide)]; omega
  unfold okM
  rw [e]
  simp only [kinds, List.mem_cons, List.not_mem_nil, or_false] at hk
  omega
end Mine
end
section
set_option maxRecDepth 100000
namespace Mine
open PySem PySem.W PySem.W.X PySem.Calls PyProof.Rows
set_option maxHeartbeats 4000000
theorem band_nat (a b : Nat) : Builtin.bitAnd (a : Int) (b : Int) = ((a &&& b : Nat) : Int) := by
  unfold Builtin.bitAnd
  rw [decide_eq_true (Int.natCast_nonneg a), decide_eq_true (Int.natCast_nonneg b)]
  rfl
theorem bnot_nat (a : Nat) : Builtin.bitNot (Builtin.bitNot (a : Int)) = (a : Int) := by unfold Builtin.bitNot; omega
theorem bnot_neg (a : Nat) : ¬ 0 ≤ Builtin.bitNot (a : Int) := by unfold Builtin.bitNot; omega
theorem bor_nat (a b : Nat) : Builtin.bitOr (a : Int) (b : Int) = ((a ||| b : Nat) : Int) := by
  unfold Builtin.bitOr Builtin.bitAnd
  rw [decide_eq_false (bnot_neg a), decide_eq_false (bnot_neg b)]
  show Builtin.bitNot (Builtin.bitNot _) = _
  rw [bnot_nat a, bnot_nat b, bnot_nat]
  rfl
def modeN (rows : List (List Nat)) (t : Int) (k : Nat) : Nat := kindN rows k + restN t k
theorem modeOf_nat {rows : List (List Nat)} {t : Int} {r : List Nat} (h : r ∈ rows) : modeOfR rows (modesF rows t) r = (modeN rows t (rows.idxOf r) : Int) := by
  unfold modeOfR modeN
  rw [modes_get rows t (List.idxOf_lt_length_iff.mpr h)]; rfl
theorem bit511 : ∀ b < 9, Nat.testBit 511 b = true := by decide
theorem bit4095 : ∀ b < 9, Nat.testBit 4095 b = true := by decide
theorem acc_nat {rows : List (List Nat)} {t : Int} {r : List Nat} : ∀ i, (∀ j < i, r.take (j + 1) ∈ rows) → ∃ a : Nat, accR rows (modesF rows t) r i = (a : Int) ∧ a < 512 ∧ ∀ b < 9, a.testBit b = (List.range i).all fun j => (modeN rows t (rows.idxOf (r.take (j + 1)))).testBit b
  | 0, _ => ⟨511, rfl, by decide, fun b hb => by rw [bit511 b hb]; rfl⟩
  | i + 1, h => by
    obtain ⟨a, e, hl, hb⟩ := acc_nat (t := t) i fun j hj => h j (Nat.lt_succ_of_lt hj)
    refine ⟨a &&& (modeN rows t (rows.idxOf (r.take (i + 1))) &&& 4095), ?_, Nat.lt_of_le_of_lt Nat.and_le_left hl, fun b hb9 => ?_⟩
    · show Builtin.bitAnd (accR rows (modesF rows t) r i) (Builtin.bitAnd (modeOfR rows (modesF rows t) (r.take (i + 1))) 4095) = _
      rw [e, modeOf_nat (h i (Nat.lt_succ_self i)), show (4095 : Int) = ((4095 : Nat) : Int) from rfl, band_nat, band_nat]
    · rw [Nat.testBit_and, Nat.testBit_and, hb b hb9, bit4095 b hb9, Bool.and_true, List.range_succ, List.all_append]
      simp
/-- one place of the table -/
theorem tst_bit (m i k : Nat) (hi : i ≠ 0) : tst (m : Int) i ((2 ^ k : Nat) : Int) = m.testBit k := by
  unfold tst
  rw [if_neg hi, band_nat]
  cases h : m.testBit k with
  | true =>
    have e : m &&& 2 ^ k = 2 ^ k := by
      refine Nat.eq_of_testBit_eq fun j => ?_
      rw [Nat.testBit_and, Nat.testBit_two_pow]
      by_cases q : k = j
      · subst q; rw [h]; simp
      · simp [q]
    rw [e]; simp
  | false =>
    simp only [beq_eq_false_iff_ne, ne_eq]
    intro e
    have e' : m &&& 2 ^ k = 2 ^ k := by exact_mod_cast e
    have := congrArg (fun x => Nat.testBit x k) e'
    simp only [Nat.testBit_and, h, Bool.false_and, Nat.testBit_two_pow_self] at this
    cases this
theorem tst_no (m i b t : Nat) (hi : i ≠ 0) (hb : b.testBit t = true) (hm : m.testBit t = false) : tst (m : Int) i (b : Int) = false := by
  unfold tst
  rw [if_neg hi, band_nat]
  simp only [beq_eq_false_iff_ne, ne_eq]
  intro e
  have e' : m &&& b = b := by exact_mod_cast e
  have := congrArg (fun x => Nat.testBit x t) e'
  simp only [Nat.testBit_and, hm, hb, Bool.false_and] at this
  cases this
theorem sgn1 {m i k : Nat} {c : Str} (hi : i ≠ 0) (ht : tabs[i]?.getD [] = [(((2 ^ k : Nat) : Int), c)]) : sgn m i = if m.testBit k then c else minus := by
  unfold sgn
  rw [ht]
  unfold pk
  rw [tst_bit _ _ _ hi]
  unfold pk
  rw [if_neg hi]
theorem sgn3 {m i k b1 b2 t : Nat} {c1 c2 c : Str} (hi : i ≠ 0) (ht : tabs[i]?.getD [] = [((b1 : Int), c1), ((b2 : Int), c2), (((2 ^ k : Nat) : Int), c)]) (h1 : b1.testBit t = true) (h2 : b2.testBit t = true) (hm : m.testBit t = false) : sgn m i = if m.testBit k then c else minus := by
  unfold sgn
  rw [ht]
  unfold pk
  rw [tst_no _ _ _ _ hi h1 hm, if_neg (by decide)]
  unfold pk
  rw [tst_no _ _ _ _ hi h2 hm, if_neg (by decide)]
  unfold pk
  rw [tst_bit _ _ _ hi]
  unfold pk
  rw [if_neg hi]
theorem sgn_bit {m : Nat} (h9 : m.testBit 9 = false) (h10 : m.testBit 10 = false) (h11 : m.testBit 11 = false) : ∀ i < 9, sgn m (i + 1) = if m.testBit (8 - i) then Txt.item (Str.ofString "rwx") ((i % 3 : Nat) : Int) else minus := by
  have r0 : Txt.item (Str.ofString "rwx") ((0 : Nat) : Int) = Str.ofString "r" := by decide
  have r1 : Txt.item (Str.ofString "rwx") ((1 : Nat) : Int) = Str.ofString "w" := by decide
  have r2 : Txt.item (Str.ofString "rwx") ((2 : Nat) : Int) = Str.ofString "x" := by decide
  intro i hi
  match i, hi with
  | 0, _ => exact (sgn1 (k := 8) (by decide) rfl).trans (by rw [r0])
  | 1, _ => exact (sgn1 (k := 7) (by decide) rfl).trans (by rw [r1])
  | 2, _ => exact (sgn3 (k := 6) (b1 := 2112) (b2 := 2048) (t := 11) (by decide) rfl (by decide) (by decide) h11).trans (by rw [r2])
  | 3, _ => exact (sgn1 (k := 5) (by decide) rfl).trans (by rw [r0])
  | 4, _ => exact (sgn1 (k := 4) (by decide) rfl).trans (by rw [r1])
  | 5, _ => exact (sgn3 (k := 3) (b1 := 1032) (b2 := 1024) (t := 10) (by decide) rfl (by decide) (by decide) h10).trans (by rw [r2])
  | 6, _ => exact (sgn1 (k := 2) (by decide) rfl).trans (by rw [r0])
  | 7, _ => exact (sgn1 (k := 1) (by decide) rfl).trans (by rw [r1])
  | 8, _ => exact (sgn3 (k := 0) (b1 := 513) (b2 := 512) (t := 9) (by decide) rfl (by decide) (by decide) h9).trans (by rw [r2])
theorem k1 : ∀ kd ∈ kinds, ∀ x < 512, (kd + x) &&& 61440 = kd := by decide +kernel
theorem k2 : ∀ kd ∈ kinds, ∀ a < 512, (kd ||| a) &&& 61440 = kd := by decide +kernel
theorem k3 : ∀ kd ∈ kinds, ∀ b < 12, kd.testBit b = false := by decide +kernel
theorem sgn_kind {m kd x : Nat} (h : m &&& 61440 = kd) (hk : kd ∈ kinds) (hx : x < 512) : sgn m 0 = kindS ((kd + x : Nat) : Int) := by
  have e : tst (m : Int) 0 = fun b => ((kd : Nat) : Int) == b := by
    funext b
    unfold tst
    rw [if_pos rfl, show (61440 : Int) = ((61440 : Nat) : Int) from rfl, band_nat, h]
  have d : ((kd + x : Nat) : Int).fdiv 4096 = (((kd + x) / 4096 : Nat) : Int) := by
    rw [Int.fdiv_eq_ediv_of_nonneg _ (by decide)]; omega
  unfold sgn kindS
  rw [e, d]
  simp only [kinds, List.mem_cons, List.not_mem_nil, or_false] at hk
  rcases hk with rfl | rfl | rfl | rfl
  · rw [show (16384 + x) / 4096 = 4 by omega]; decide
  · rw [show (32768 + x) / 4096 = 8 by omega]; decide
  · rw [show (40960 + x) / 4096 = 10 by omega]; decide
  · rw [show (4096 + x) / 4096 = 1 by omega]; decide
end Mine
end
section
set_option maxRecDepth 100000
namespace Mine
open PySem PySem.W PySem.W.X PySem.Calls PyProof.Rows
set_option maxHeartbeats 4000000
theorem bit_clear (M b : Nat) : (((M : Int).fdiv (2 ^ b)).fmod 2 == 0) = !M.testBit b := by
  have e : ((M : Int).fdiv (2 ^ b)).fmod 2 = ((M / 2 ^ b % 2 : Nat) : Int) := by
    rw [show (2 ^ b : Int) = ((2 ^ b : Nat) : Int) by push_cast; rfl, Int.fdiv_eq_ediv_of_nonneg _ (Int.natCast_nonneg _), Int.fmod_eq_emod_of_nonneg _ (by decide)]
    rfl
  rw [e, Nat.testBit_eq_decide_div_mod_eq]
  have : M / 2 ^ b % 2 < 2 := Nat.mod_lt _ (by decide)
  rcases (by omega : M / 2 ^ b % 2 = 0 ∨ M / 2 ^ b % 2 = 1) with q | q <;> rw [q] <;> rfl
section
variable {rows : List (List Nat)} {t : Int} {k : Nat}
theorem above_any (R : RowsOk rows) (hk : k < rows.length) (b : Nat) : ((aboveF rows (modesF rows t) k).any fun m => (m.fdiv (2 ^ b)).fmod 2 == 0) = !((List.range (rows[k]).length).all fun j => (modeN rows t (rows.idxOf ((rows[k]).take (j + 1)))).testBit b) := by
  have hrk : rows[k]?.getD [] = rows[k] := by rw [List.getElem?_eq_getElem hk]; rfl
  rw [Bool.eq_iff_iff, List.any_eq_true, Bool.not_eq_true', ← Bool.not_eq_true, List.all_eq_true]
  constructor
  · rintro ⟨m, hm, hb⟩ hall
    unfold aboveF at hm
    obtain ⟨j, hj, rfl⟩ := List.mem_map.mp hm
    obtain ⟨h1, h2⟩ := List.mem_filter.mp hj
    have hjl := List.mem_range.mp h1
    have hrj : rows[j]?.getD [] = rows[j] := by rw [List.getElem?_eq_getElem hjl]; rfl
    rw [hrk, hrj] at h2
    have h2 : (rows[k]).take (rows[j]).length = rows[j] := of_decide_eq_true h2
    have hne : 0 < (rows[j]).length := List.length_pos_iff.mpr (R.ne _ (List.getElem_mem hjl))
    have hle : (rows[j]).length ≤ (rows[k]).length := by have := congrArg List.length h2; rw [List.length_take] at this; omega
    have := hall ((rows[j]).length - 1) (List.mem_range.mpr (by omega))
    rw [show (rows[j]).length - 1 + 1 = (rows[j]).length by omega, h2, R.nd.idxOf_getElem] at this
    rw [modes_get rows t hjl] at hb
    change ((((modeN rows t j : Nat) : Int).fdiv (2 ^ b)).fmod 2 == 0) = true at hb
    rw [bit_clear, this] at hb
    cases hb
  · intro hno
    obtain ⟨j, hj, hb⟩ : ∃ j, j < (rows[k]).length ∧ (modeN rows t (rows.idxOf ((rows[k]).take (j + 1)))).testBit b = false := by
      refine Classical.byContradiction fun h => hno fun j hj => ?_
      cases e : (modeN rows t (rows.idxOf ((rows[k]).take (j + 1)))).testBit b with
      | true => rfl
      | false => exact absurd ⟨j, List.mem_range.mp hj, e⟩ h
    have hm := R.cl _ (List.getElem_mem hk) (j + 1) (Nat.succ_pos _) hj
    have hi := List.idxOf_lt_length_iff.mpr hm
    have hg : rows[rows.idxOf ((rows[k]).take (j + 1))]?.getD [] = (rows[k]).take (j + 1) := by rw [List.getElem?_eq_getElem hi]; exact List.getElem_idxOf hi
    refine ⟨_, List.mem_map.mpr ⟨rows.idxOf ((rows[k]).take (j + 1)), List.mem_filter.mpr ⟨List.mem_range.mpr hi, ?_⟩, rfl⟩, ?_⟩
    · rw [hrk, hg]
      refine decide_eq_true ?_
      rw [List.length_take, Nat.min_eq_left hj]
    · rw [modes_get rows t hi]
      show ((((modeN rows t _ : Nat) : Int).fdiv (2 ^ b)).fmod 2 == 0) = true
      rw [bit_clear, hb]; rfl
theorem told_due (R : RowsOk rows) (hk : k < rows.length) : toldT rows (modesF rows t) k = ((dueT rows (modesF rows t) k).2.2.2, (dueT rows (modesF rows t) k).2.2.1) := by
  have hrk : rows[k]?.getD [] = rows[k] := by rw [List.getElem?_eq_getElem hk]; rfl
  obtain ⟨a, ea, ha, hb⟩ := acc_nat (rows := rows) (t := t) (r := rows[k]) (rows[k]).length fun j hj => R.cl _ (List.getElem_mem hk) (j + 1) (Nat.succ_pos _) hj
  have hkd := kind_mem rows k
  have hx := rest_lt t k
  have em : (modesF rows t)[k]?.getD 0 = ((kindN rows k + restN t k : Nat) : Int) := by rw [modes_get rows t hk]; rfl
  have e1 : Builtin.bitOr (Builtin.bitAnd ((modesF rows t)[k]?.getD 0) 61440) (rightsF rows (modesF rows t) k) = ((kindN rows k ||| a : Nat) : Int) := by
    unfold rightsF
    rw [hrk, ea, em, show (61440 : Int) = ((61440 : Nat) : Int) from rfl, band_nat, k1 _ hkd _ hx, bor_nat]
  unfold toldT dueT
  dsimp only
  rw [e1, em]
  refine Prod.ext ?_ rfl
  show modeF _ = _ ++ _
  have bit : ∀ b < 12, (kindN rows k ||| a).testBit b = a.testBit b := fun b hb12 => by rw [Nat.testBit_or, k3 _ hkd b hb12, Bool.false_or]
  have hi : ∀ b, 9 ≤ b → a.testBit b = false := fun b h9 => Nat.testBit_lt_two_pow (Nat.lt_of_lt_of_le ha (show 2 ^ 9 ≤ 2 ^ b from Nat.pow_le_pow_right (by decide) h9))
  rw [modeF_cons, sgn_kind (k2 _ hkd a ha) hkd hx]
  congr 2
  unfold signsF
  refine List.map_congr_left fun i hi9 => ?_
  have hi9 := List.mem_range.mp hi9
  rw [sgn_bit ((bit 9 (by decide)).trans (hi 9 (by decide))) ((bit 10 (by decide)).trans (hi 10 (by decide))) ((bit 11 (by decide)).trans (hi 11 (by decide))) i hi9, bit _ (by omega), hb _ (by omega)]
  unfold signOf
  rw [above_any R hk]
  cases (List.range (rows[k]).length).all fun j => (modeN rows t (rows.idxOf ((rows[k]).take (j + 1)))).testBit (8 - i) <;> rfl
end
end Mine
end
section
set_option maxRecDepth 100000
namespace Mine
open PySem PySem.W PySem.W.X PySem.Calls PyProof.Rows
set_option maxHeartbeats 200000
def ksigns : List Str := [Str.ofString "d", Str.ofString "-", Str.ofString "l", Str.ofString "p"]
theorem kindS_mem (m : Int) : kindS m ∈ ksigns := by
  unfold kindS
  split
  · exact .head _
  split
  · exact .tail _ (.head _)
  split
  · exact .tail _ (.tail _ (.head _))
  · exact .tail _ (.tail _ (.tail _ (.head _)))
theorem kcond : ∀ a ∈ ksigns, ∀ b ∈ ksigns, ((a.cps.toList != b.cps.toList) && [PyData.str a, PyData.str b].any (fun z => PyData.eqv z (.str dS))) = ((a.cps.toList == dS.cps.toList) != (b.cps.toList == dS.cps.toList)) := by decide +kernel
theorem two_gen {p q : Bool} {R : Int} {T : Bool} (h : decide (R < 0) = T) : decide ((if (p != q) = true then (if p = true then (-1 : Int) else 1) else R) < 0) = (if PyData.eqv (.bool (!p)) (.bool (!q)) then T else decide ((if (!p) then 1 else 0 : Int) < (if (!q) then 1 else 0))) := by
  cases p <;> cases q <;> first | exact h | rfl
theorem cmp_gen {a b : Str} (ha : a ∈ ksigns) (hb : b ∈ ksigns) {x y : Str × Str} (fx : firstS x.1 = a) (fy : firstS y.1 = b) (h : x.2 = y.2 → x.1 = y.1) :
    decide (cmpF x y < 0) = t4lt (a.cps.toList != dS.cps.toList, cntS x.1, x.2, x.1) (b.cps.toList != dS.cps.toList, cntS y.1, y.2, y.1) := by
  unfold cmpF t4lt
  rw [fx, fy, kcond a ha b hb]
  refine two_gen ?_
  show decide ((if (!(cntS x.1 == cntS y.1)) = true then cntS x.1 - cntS y.1 else (if decide (y.2.cps.toList < x.2.cps.toList) = true then 1 else 0) - (if decide (x.2.cps.toList < y.2.cps.toList) = true then 1 else 0)) < 0) =
      (if (cntS x.1 == cntS y.1) = true then (if decide (x.2 = y.2) = true then (if decide (x.1 = y.1) = true then false else decide (x.1.cps.toList < y.1.cps.toList)) else decide (x.2.cps.toList < y.2.cps.toList)) else decide (cntS x.1 < cntS y.1))
  · by_cases hc : cntS x.1 = cntS y.1
    · rw [hc]
      simp only [beq_self_eq_true, Bool.not_true, Bool.false_eq_true, if_false, if_true]
      by_cases hp : x.2 = y.2
      · rw [h hp, hp]
        simp
      · simp only [hp, decide_false, Bool.false_eq_true, if_false, decide_eq_true_eq]
        by_cases h1 : x.2.cps.toList < y.2.cps.toList
        · have h2 := List.lt_asymm h1
          simp [h1, h2]
        · by_cases h3 : y.2.cps.toList < x.2.cps.toList <;> simp [h1, h3]
    · have e : (cntS x.1 == cntS y.1) = false := by simpa using hc
      rw [e]
      simp only [Bool.not_false, if_true, Bool.false_eq_true, if_false]
      by_cases hl : cntS x.1 < cntS y.1
      · rw [decide_eq_true hl, decide_eq_true (by omega)]
      · rw [decide_eq_false hl, decide_eq_false (by omega)]
section
variable {rows : List (List Nat)} {t : Int} {i j k : Nat}
theorem due_text (modes : List Int) : (dueT rows modes k).2.2.2 = kindS (modes[k]?.getD 0) ++ Txt.join (Str.ofString "") (signsF (aboveF rows modes k)) := by unfold dueT; rfl
theorem due_num (modes : List Int) : (dueT rows modes k).2.1 = PySem.Spec.countIn (.str minus) ((signsF (aboveF rows modes k)).map PyData.str) := by unfold dueT; rfl
theorem due_path (modes : List Int) : (dueT rows modes k).2.2.1 = pathF (rows[k]?.getD []) := by unfold dueT; rfl
theorem due_kind (modes : List Int) : (dueT rows modes k).1 = ((kindS (modes[k]?.getD 0)).cps.toList != dS.cps.toList) := by unfold dueT; rfl
theorem due_first (modes : List Int) : firstS (dueT rows modes k).2.2.2 = kindS (modes[k]?.getD 0) := by
  rw [due_text]
  exact first_app (one_of_len (kind_len _))
theorem due_cnt (modes : List Int) : cntS (dueT rows modes k).2.2.2 = (dueT rows modes k).2.1 := by
  rw [due_text, due_num, cnt_app (one_of_len (kind_len _)), join_cps]
  exact cnt_in fun x hx => one_of_len (sign_one _ x hx)
theorem comp_eq (R : RowsOk rows) (hok : ∀ r ∈ rows, okR r) (hi : i < rows.length) (hj : j < rows.length) : toldC rows (modesF rows t) i j = dueC rows (modesF rows t) i j := by
  have g : ∀ k, firstS ((dueT rows (modesF rows t) k).2.2.2, (dueT rows (modesF rows t) k).2.2.1).1 = kindS ((modesF rows t)[k]?.getD 0) := fun k => due_first (modesF rows t)
  have key := cmp_gen (kindS_mem ((modesF rows t)[i]?.getD 0)) (kindS_mem ((modesF rows t)[j]?.getD 0)) (g i) (g j) fun h => ?_
  · unfold toldC dueC
    rw [told_due R hi, told_due R hj, key]
    dsimp only
    rw [due_cnt, due_cnt, ← due_kind, ← due_kind]
  · have h : (dueT rows (modesF rows t) i).2.2.1 = (dueT rows (modesF rows t) j).2.2.1 := h
    rw [due_path, due_path, List.getElem?_eq_getElem hi, List.getElem?_eq_getElem hj] at h
    have h' := f3 _ (mem_all (hok _ (List.getElem_mem hi))) _ (mem_all (hok _ (List.getElem_mem hj))) h
    have : i = j := (List.getElem?_inj hi R.nd).mp (by rw [List.getElem?_eq_getElem hi, List.getElem?_eq_getElem hj, h'])
    rw [this]
theorem out_eq (R : RowsOk rows) (hok : ∀ r ∈ rows, okR r) (h2 : 2 ≤ rows.length) : toldOut rows (modesF rows t) = dueOut rows (modesF rows t) := by
  unfold toldOut dueOut
  rw [srt_congr (by omega) fun i j hi hj => comp_eq R hok hi hj]
  refine List.map_congr_left fun i hi => ?_
  have := srt_lt (by omega) i (Array.mem_toList_iff.mp hi)
  rw [told_due R this]; rfl
theorem text_ok : ∀ {l : List Str}, (∀ x ∈ l, PyData.strOk x = true) → PyData.strOk (Txt.join (Str.ofString "") l) = true := fun {l} h => by
  unfold PyData.strOk
  rw [← Array.all_toList, join_cps, List.all_eq_true]
  intro c hc
  obtain ⟨x, hx, hm⟩ := List.mem_flatMap.mp hc
  have := h x hx
  unfold PyData.strOk at this
  rw [← Array.all_toList, List.all_eq_true] at this
  exact this c hm
theorem f6 : ∀ r ∈ allR, PyData.strOk (pathF r) = true := by decide +kernel
def pairLike : PyData → Prop
  | .tuple [.str a, .str b] => PyData.strOk a = true ∧ PyData.strOk b = true
  | _ => False
theorem pair_all : ∀ {l : List PyData}, (∀ d ∈ l, pairLike d) → PyData.canLayAll0 l = true ∧ PyData.depthAll l ≤ 1 ∧ PyData.eqvAll l l = true
  | [], _ => ⟨rfl, Nat.zero_le _, rfl⟩
  | d :: l, h => by
    obtain ⟨i1, i2, i3⟩ := pair_all fun e he => h e (.tail _ he)
    have hd := h d (.head _)
    match d, hd with
    | .tuple [.str a, .str b], hd =>
      refine ⟨?_, ?_, ?_⟩
      · simp only [PyData.canLayAll0, PyData.canLay0, hd.1, hd.2, i1]; rfl
      · simp only [PyData.depthAll, PyData.depth]; omega
      · simp only [PyData.eqvAll, PyData.eqv, i3]; simp
theorem out_pair (hok : ∀ r ∈ rows, okR r) (h2 : 2 ≤ rows.length) (modes : List Int) : ∀ d ∈ dueOut rows modes, pairLike d := fun d hd => by
  unfold dueOut at hd
  obtain ⟨i, hi, rfl⟩ := List.mem_map.mp hd
  have hl := srt_lt (by omega) i (Array.mem_toList_iff.mp hi)
  refine ⟨?_, ?_⟩
  · show PyData.strOk (kindS _ ++ Txt.join (Str.ofString "") (signsF _)) = true
    rw [← join_cons]
    refine text_ok fun x hx => ?_
    rcases List.mem_cons.mp hx with rfl | hx
    · have := kindS_mem (modes[i]?.getD 0)
      generalize kindS (modes[i]?.getD 0) = y at this
      have all : ∀ y ∈ ksigns, PyData.strOk y = true := by decide +kernel
      exact all y this
    · obtain ⟨j, hj, rfl⟩ := List.mem_map.mp hx
      unfold signOf
      split
      · decide +kernel
      · rcases (by omega : j % 3 = 0 ∨ j % 3 = 1 ∨ j % 3 = 2) with e | e | e <;> rw [e] <;> decide +kernel
  · show PyData.strOk (pathF (rows[i]?.getD [])) = true
    rw [List.getElem?_eq_getElem hl]
    exact f6 _ (mem_all (hok _ (List.getElem_mem hl)))
end
end Mine
end
section
open PySem PySem.W PySem.W.X PyProof.Rows
set_option maxRecDepth 100000
namespace Mine
set_option maxHeartbeats 4000000
theorem ints_rp {Hd : List Addr} {h : Heap} : ∀ {vs : List Value} {ns : List Int}, IntsAre vs ns → RpAll Hd h vs (ns.map PyData.int)
  | _, _, .nil => .nil
  | _, _, .cons n t r => .cons (.int n t) (ints_rp r)
theorem mem_look {a : Nat} {o : Obj} : ∀ {l : List (Nat × Obj)}, l.lookup a = some o → (a, o) ∈ l
  | [], e => by cases e
  | (k, v) :: l, e => by
    rw [List.lookup_cons] at e
    cases hb : a == k with
    | true => simp only [hb] at e; cases e; rw [eq_of_beq hb]; exact .head _
    | false => simp only [hb] at e; exact .tail _ (mem_look e)
theorem look_filter {p : Nat → Bool} {a : Nat} {o : Obj} : ∀ {l : List (Nat × Obj)}, (l.filter fun x => p x.1).lookup a = some o → l.lookup a = some o
  | [], e => e
  | (k, v) :: l, e => by
    rw [List.filter_cons] at e
    cases hk : p k with
    | true =>
      simp only [hk, if_true] at e
      rw [List.lookup_cons] at e ⊢
      cases hb : a == k with
      | true => simp only [hb] at e ⊢; exact e
      | false => simp only [hb] at e ⊢; exact look_filter e
    | false =>
      simp only [hk, Bool.false_eq_true, if_false] at e
      have hm := (List.mem_filter.mp (mem_look e)).2
      rw [List.lookup_cons]
      cases hb : a == k with
      | true =>
        rw [eq_of_beq hb] at hm
        simp only at hm
        rw [hk] at hm; cases hm
      | false => exact look_filter e
theorem kk_in {P : Params} {h : Heap} (X : (KL P).In h) : (KK P).In h := fun a o e => X a o (look_filter (p := fun k => !(Nat.beq k 23 || Nat.beq k 211)) e)
theorem walk {prog : Program} {w : World} {mg mb : Str → Option Value} {s : Shared} {a : Addr} {vs : List Value} {ns : List Int} {Q : Value → Shared → Prop} {E : Value → Shared → Prop} (X : (KL w.params).In s.heap) (g : s.heap.Ns mainGlobals mg) (b : s.heap.Ns builtinsNs mb) (nl : s.heap.NoLimit) (bt : ∀ x : Str, x ≠ "__name__" → mb x = bootBuiltins x)
    (hl : s.heap.IsList a vs.toArray) (hi : IntsAre vs ns) (hn : ns.length ≤ 63) (q : ∀ h' k, OldK s.heap h' → Q (.bool true) { s with heap := h', toks := k }) :
    wpAny (model prog w) callerA (call (.ref 226) [.ref a]) Q E s := by
  have G : Gd w mg mb s.heap := ⟨kk_in X, g, b, nl, bt⟩
  have t23 : s.heap.get? 23 = some (tableObj #[]) := X 23 _ rfl
  have t211 : s.heap.get? 211 = some (tableObj #[]) := X 211 _ rfl
  have o27 := G.X 27 _ rfl
  have o213 := G.X 213 _ rfl
  have haT : a ∉ Tb := fun m => by
    obtain ⟨o, e, hc, _⟩ := hl
    rcases List.mem_cons.mp m with z | m
    · rw [z, t23] at e; cases e; cases hc
    · rw [List.mem_singleton.mp m, t211] at e; cases e; cases hc
  have hok := rows_ok (ns.take 4)
  have hokR := rows_okR (ns.take 4)
  have h4 : (ns.take 4).length ≤ 4 := by rw [List.length_take]; omega
  have h2 := rows_two (ns.take 4)
  have hp := pair_all (out_pair hokR h2 (modesF (rowsF (ns.take 4)) (ns.take 4).sum))
  refine law_spec (n := 100) G ⟨rfl, by decide, by decide⟩ t23 t211 (Rp.list_mk haT hl (ints_rp hi)) hn rfl rfl (fun r hr => ⟨hokR r hr, hok.ne r hr⟩) hok.cl (rows_len _ h4) h2 (modes_len _ _) (modes_okM _ _) (out_eq hok hokR h2) ?_ ?_ ?_ fun h' k kH e23 e211 => ?_
  · simp only [PyData.canLay0]; exact hp.1
  · simp only [PyData.depth]; have := hp.2.1; omega
  · simp only [PyData.eqv]; exact hp.2.2
  obtain ⟨p1, e23⟩ := e23
  obtain ⟨p2, e211⟩ := e211
  refine q h' k ⟨fun b o e => ?_, fun b o e => ?_⟩
  · by_cases m : b ∈ Tb
    · rcases List.mem_cons.mp m with z | m
      · subst z
        rw [t23] at e; cases e
        exact .inr (.inl ⟨⟨27, _, _, o27, rfl, rfl, rfl⟩, rfl, #[], p1, rfl, by rw [e23]; simp [tableObj]⟩)
      · rw [List.mem_singleton.mp m] at e ⊢
        rw [t211] at e; cases e
        exact .inr (.inl ⟨⟨213, _, _, o213, rfl, rfl, rfl⟩, rfl, #[], p2, rfl, by rw [e211]; simp [tableObj]⟩)
    · exact .inl (kH b o m e)
  · by_cases m : b ∈ Tb
    · rcases List.mem_cons.mp m with z | m
      · rw [z]; exact ⟨_, e23⟩
      · rw [List.mem_singleton.mp m]; exact ⟨_, e211⟩
    · exact ⟨o, kH b o m e⟩
end Mine
end
set_option maxRecDepth 100000
set_option maxHeartbeats 8000000
open PySem PySem.W PySem.W.X PySem.Calls PyProof.Rows
theorem Mine.said : PySem.Challenge.rw_pd0103_01.wellSaid = true := by
  rw [PySem.W.Fast.te9446332074065402090]
  kernel_rfl
theorem PySem.Challenge.cw_pd0103_01_holds : PySem.Challenge.rw_pd0103_01.Holds := by
  refine holds_law Mine.said fun k1 => ?_
  refine PySem.W.holds_open (q := Mine.qv) (loose := Mine.loo) (Xt := fun s => recOk [] s) (XP := fun _ _ => True) (Yf := fun s => Mine.asL.map s.heap.get?) (Ya := fun w => (Mine.KL w.params).map fun p : Addr × Obj => some p.2) (YP := InK Mine.KL) (N := 3186) Mine.left_law (InK.of Mine.asL_eq) InK.keeps (fun _ _ => trivial) (fun _ _ _ _ _ => trivial) (by rfl) (by rfl) (by rfl) (fun s e => recFacts_of e) (by rfl) k1 (by decide +kernel) ⟨rfl, rfl, rfl, rfl, rfl, by decide +kernel⟩ ⟨[.list [.int 3, .int 1]], by decide +kernel, by decide +kernel⟩ ?_
  intro w s₀ s₁ mg mb G Y fa o pm cd doc dV kV ho hd hcd hD hmg hg args vals as hpre hlay hrd hwl hlo
  have KX : (Mine.KL w.params).In s₁.heap := Y
  refine Ground.open G ?_
  intro T B D TE TW
  clear B D TE TW hd hcd hD ho G Y
  wrow_args hpre hlay hrd hwl hlo
  rename_i ns _ _ _ _ _ _ _ l vs _ hl _ _ _ hi _ hn _
  have hfa : mg (Str.ofString "law") = some (.ref 226) := mg_of KX T.g (by rfl)
  have e : (Value.ref fa) = .ref 226 := Option.some.inj (hmg.symm.trans hfa)
  rw [e]
  refine Mine.walk KX T.g T.b T.nolimit T.builtins hl hi (by omega) fun h' k K => ?_
  exact ⟨.inl ⟨.bool true, .bool true, [], rfl, fun cls => rfl, .bool true, by kernel_rfl, fun _ => ⟨.nil, nofun⟩⟩, K, rfl, .of_eq hg⟩
