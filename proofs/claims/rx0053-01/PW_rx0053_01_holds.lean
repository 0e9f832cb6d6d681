import PyProof.Rows.All
import Wide.All
import OpenK.AllK
import Wide.FinOn
import Lean
import PySem.Challenge.RW_rx0053_01
set_option Elab.async false
set_option rowWalk.seconds 0
set_option compiler.extract_closed false
set_option linter.all false
section
open PySem PySem.W PyProof.Rows
set_option maxRecDepth 100000
set_option maxHeartbeats 0
namespace Mine
noncomputable def bodyN (i : Nat) : List Stmt := match PySem.Challenge.pw_rx0053_01.main.body[i]? with
  | some (.FunctionDef (body := b) ..) => b
  | _ => []
noncomputable def scopeN (i : Nat) : Scope := match PySem.Challenge.pw_rx0053_01.main.body[i]? with
  | some (.FunctionDef (scope := b) ..) => b
  | _ => { kind := .function, names := [], isGenerator := false, isCoroutine := false, more := [] }
noncomputable def paramsN (i : Nat) : Arguments := match PySem.Challenge.pw_rx0053_01.main.body[i]? with
  | some (.FunctionDef (args := b) ..) => b
  | _ => { posonlyargs := [], args := [], vararg := none, kwonlyargs := [], kw_defaults := [], kwarg := none, defaults := [] }
noncomputable abbrev bx2 : { l : List Stmt // bodyN 2 = l } := by
  refine ⟨?l, ?h⟩
  case h => conv => lhs; whnf
noncomputable abbrev b2 : List Stmt := bx2.1
noncomputable abbrev sx2 : { l : Scope // scopeN 2 = l } := by
  refine ⟨?l, ?h⟩
  case h => conv => lhs; whnf
noncomputable abbrev s2 : Scope := sx2.1
noncomputable abbrev px2 : { l : Arguments // paramsN 2 = l } := by
  refine ⟨?l, ?h⟩
  case h => conv => lhs; whnf
noncomputable abbrev p2 : Arguments := px2.1
noncomputable abbrev bx3 : { l : List Stmt // bodyN 3 = l } := by
  refine ⟨?l, ?h⟩
  case h => conv => lhs; whnf
noncomputable abbrev b3 : List Stmt := bx3.1
noncomputable abbrev sx3 : { l : Scope // scopeN 3 = l } := by
  refine ⟨?l, ?h⟩
  case h => conv => lhs; whnf
noncomputable abbrev s3 : Scope := sx3.1
noncomputable abbrev px3 : { l : Arguments // paramsN 3 = l } := by
  refine ⟨?l, ?h⟩
  case h => conv => lhs; whnf
noncomputable abbrev p3 : Arguments := px3.1
noncomputable abbrev bx4 : { l : List Stmt // bodyN 4 = l } := by
  refine ⟨?l, ?h⟩
  case h => conv => lhs; whnf
noncomputable abbrev b4 : List Stmt := bx4.1
noncomputable abbrev sx4 : { l : Scope // scopeN 4 = l } := by
  refine ⟨?l, ?h⟩
  case h => conv => lhs; whnf
noncomputable abbrev s4 : Scope := sx4.1
noncomputable abbrev px4 : { l : Arguments // paramsN 4 = l } := by
  refine ⟨?l, ?h⟩
  case h => conv => lhs; whnf
noncomputable abbrev p4 : Arguments := px4.1
noncomputable abbrev bx5 : { l : List Stmt // bodyN 5 = l } := by
  refine ⟨?l, ?h⟩
  case h => conv => lhs; whnf
noncomputable abbrev b5 : List Stmt := bx5.1
noncomputable abbrev sx5 : { l : Scope // scopeN 5 = l } := by
  refine ⟨?l, ?h⟩
  case h => conv => lhs; whnf
noncomputable abbrev s5 : Scope := sx5.1
noncomputable abbrev px5 : { l : Arguments // paramsN 5 = l } := by
  refine ⟨?l, ?h⟩
  case h => conv => lhs; whnf
noncomputable abbrev p5 : Arguments := px5.1
noncomputable abbrev bx8 : { l : List Stmt // bodyN 8 = l } := by
  refine ⟨?l, ?h⟩
  case h => conv => lhs; whnf
noncomputable abbrev b8 : List Stmt := bx8.1
noncomputable abbrev sx8 : { l : Scope // scopeN 8 = l } := by
  refine ⟨?l, ?h⟩
  case h => conv => lhs; whnf
noncomputable abbrev s8 : Scope := sx8.1
noncomputable abbrev px8 : { l : Arguments // paramsN 8 = l } := by
  refine ⟨?l, ?h⟩
  case h => conv => lhs; whnf
noncomputable abbrev p8 : Arguments := px8.1
noncomputable abbrev bx11 : { l : List Stmt // bodyN 11 = l } := by
  refine ⟨?l, ?h⟩
  case h => conv => lhs; whnf
noncomputable abbrev b11 : List Stmt := bx11.1
noncomputable abbrev sx11 : { l : Scope // scopeN 11 = l } := by
  refine ⟨?l, ?h⟩
  case h => conv => lhs; whnf
noncomputable abbrev s11 : Scope := sx11.1
noncomputable abbrev px11 : { l : Arguments // paramsN 11 = l } := by
  refine ⟨?l, ?h⟩
  case h => conv => lhs; whnf
noncomputable abbrev p11 : Arguments := px11.1
noncomputable abbrev bx13 : { l : List Stmt // bodyN 13 = l } := by
  refine ⟨?l, ?h⟩
  case h => conv => lhs; whnf
noncomputable abbrev b13 : List Stmt := bx13.1
noncomputable abbrev sx13 : { l : Scope // scopeN 13 = l } := by
  refine ⟨?l, ?h⟩
  case h => conv => lhs; whnf
noncomputable abbrev s13 : Scope := sx13.1
noncomputable abbrev px13 : { l : Arguments // paramsN 13 = l } := by
  refine ⟨?l, ?h⟩
  case h => conv => lhs; whnf
noncomputable abbrev p13 : Arguments := px13.1
noncomputable abbrev bx14 : { l : List Stmt // bodyN 14 = l } := by
  refine ⟨?l, ?h⟩
  case h => conv => lhs; whnf
noncomputable abbrev b14 : List Stmt := bx14.1
noncomputable abbrev sx14 : { l : Scope // scopeN 14 = l } := by
  refine ⟨?l, ?h⟩
  case h => conv => lhs; whnf
noncomputable abbrev s14 : Scope := sx14.1
noncomputable abbrev px14 : { l : Arguments // paramsN 14 = l } := by
  refine ⟨?l, ?h⟩
  case h => conv => lhs; whnf
noncomputable abbrev p14 : Arguments := px14.1
noncomputable abbrev bx16 : { l : List Stmt // bodyN 16 = l } := by
  refine ⟨?l, ?h⟩
  case h => conv => lhs; whnf
noncomputable abbrev b16 : List Stmt := bx16.1
noncomputable abbrev sx16 : { l : Scope // scopeN 16 = l } := by
  refine ⟨?l, ?h⟩
  case h => conv => lhs; whnf
noncomputable abbrev s16 : Scope := sx16.1
noncomputable abbrev px16 : { l : Arguments // paramsN 16 = l } := by
  refine ⟨?l, ?h⟩
  case h => conv => lhs; whnf
noncomputable abbrev p16 : Arguments := px16.1
noncomputable abbrev bx37 : { l : List Stmt // bodyN 37 = l } := by
  refine ⟨?l, ?h⟩
  case h => conv => lhs; whnf
noncomputable abbrev b37 : List Stmt := bx37.1
noncomputable abbrev sx37 : { l : Scope // scopeN 37 = l } := by
  refine ⟨?l, ?h⟩
  case h => conv => lhs; whnf
noncomputable abbrev s37 : Scope := sx37.1
noncomputable abbrev px37 : { l : Arguments // paramsN 37 = l } := by
  refine ⟨?l, ?h⟩
  case h => conv => lhs; whnf
noncomputable abbrev p37 : Arguments := px37.1
noncomputable abbrev bx39 : { l : List Stmt // bodyN 39 = l } := by
  refine ⟨?l, ?h⟩
  case h => conv => lhs; whnf
noncomputable abbrev b39 : List Stmt := bx39.1
noncomputable abbrev sx39 : { l : Scope // scopeN 39 = l } := by
  refine ⟨?l, ?h⟩
  case h => conv => lhs; whnf
noncomputable abbrev s39 : Scope := sx39.1
noncomputable abbrev px39 : { l : Arguments // paramsN 39 = l } := by
  refine ⟨?l, ?h⟩
  case h => conv => lhs; whnf
noncomputable abbrev p39 : Arguments := px39.1
noncomputable abbrev bx40 : { l : List Stmt // bodyN 40 = l } := by
  refine ⟨?l, ?h⟩
  case h => conv => lhs; whnf
noncomputable abbrev b40 : List Stmt := bx40.1
noncomputable abbrev sx40 : { l : Scope // scopeN 40 = l } := by
  refine ⟨?l, ?h⟩
  case h => conv => lhs; whnf
noncomputable abbrev s40 : Scope := sx40.1
noncomputable abbrev px40 : { l : Arguments // paramsN 40 = l } := by
  refine ⟨?l, ?h⟩
  case h => conv => lhs; whnf
noncomputable abbrev p40 : Arguments := px40.1
noncomputable abbrev bx41 : { l : List Stmt // bodyN 41 = l } := by
  refine ⟨?l, ?h⟩
  case h => conv => lhs; whnf
noncomputable abbrev b41 : List Stmt := bx41.1
noncomputable abbrev sx41 : { l : Scope // scopeN 41 = l } := by
  refine ⟨?l, ?h⟩
  case h => conv => lhs; whnf
noncomputable abbrev s41 : Scope := sx41.1
noncomputable abbrev px41 : { l : Arguments // paramsN 41 = l } := by
  refine ⟨?l, ?h⟩
  case h => conv => lhs; whnf
noncomputable abbrev p41 : Arguments := px41.1
noncomputable abbrev bx42 : { l : List Stmt // bodyN 42 = l } := by
  refine ⟨?l, ?h⟩
  case h => conv => lhs; whnf
noncomputable abbrev b42 : List Stmt := bx42.1
noncomputable abbrev sx42 : { l : Scope // scopeN 42 = l } := by
  refine ⟨?l, ?h⟩
  case h => conv => lhs; whnf
noncomputable abbrev s42 : Scope := sx42.1
noncomputable abbrev px42 : { l : Arguments // paramsN 42 = l } := by
  refine ⟨?l, ?h⟩
  case h => conv => lhs; whnf
noncomputable abbrev p42 : Arguments := px42.1
noncomputable abbrev bx43 : { l : List Stmt // bodyN 43 = l } := by
  refine ⟨?l, ?h⟩
  case h => conv => lhs; whnf
noncomputable abbrev b43 : List Stmt := bx43.1
noncomputable abbrev sx43 : { l : Scope // scopeN 43 = l } := by
  refine ⟨?l, ?h⟩
  case h => conv => lhs; whnf
noncomputable abbrev s43 : Scope := sx43.1
noncomputable abbrev px43 : { l : Arguments // paramsN 43 = l } := by
  refine ⟨?l, ?h⟩
  case h => conv => lhs; whnf
noncomputable abbrev p43 : Arguments := px43.1
noncomputable abbrev bx44 : { l : List Stmt // bodyN 44 = l } := by
  refine ⟨?l, ?h⟩
  case h => conv => lhs; whnf
noncomputable abbrev b44 : List Stmt := bx44.1
noncomputable abbrev sx44 : { l : Scope // scopeN 44 = l } := by
  refine ⟨?l, ?h⟩
  case h => conv => lhs; whnf
noncomputable abbrev s44 : Scope := sx44.1
noncomputable abbrev px44 : { l : Arguments // paramsN 44 = l } := by
  refine ⟨?l, ?h⟩
  case h => conv => lhs; whnf
noncomputable abbrev p44 : Arguments := px44.1
noncomputable abbrev bx45 : { l : List Stmt // bodyN 45 = l } := by
  refine ⟨?l, ?h⟩
  case h => conv => lhs; whnf
noncomputable abbrev b45 : List Stmt := bx45.1
noncomputable abbrev sx45 : { l : Scope // scopeN 45 = l } := by
  refine ⟨?l, ?h⟩
  case h => conv => lhs; whnf
noncomputable abbrev s45 : Scope := sx45.1
noncomputable abbrev px45 : { l : Arguments // paramsN 45 = l } := by
  refine ⟨?l, ?h⟩
  case h => conv => lhs; whnf
noncomputable abbrev p45 : Arguments := px45.1
noncomputable abbrev bx46 : { l : List Stmt // bodyN 46 = l } := by
  refine ⟨?l, ?h⟩
  case h => conv => lhs; whnf
noncomputable abbrev b46 : List Stmt := bx46.1
noncomputable abbrev sx46 : { l : Scope // scopeN 46 = l } := by
  refine ⟨?l, ?h⟩
  case h => conv => lhs; whnf
noncomputable abbrev s46 : Scope := sx46.1
noncomputable abbrev px46 : { l : Arguments // paramsN 46 = l } := by
  refine ⟨?l, ?h⟩
  case h => conv => lhs; whnf
noncomputable abbrev p46 : Arguments := px46.1
noncomputable abbrev bx47 : { l : List Stmt // bodyN 47 = l } := by
  refine ⟨?l, ?h⟩
  case h => conv => lhs; whnf
noncomputable abbrev b47 : List Stmt := bx47.1
noncomputable abbrev sx47 : { l : Scope // scopeN 47 = l } := by
  refine ⟨?l, ?h⟩
  case h => conv => lhs; whnf
noncomputable abbrev s47 : Scope := sx47.1
noncomputable abbrev px47 : { l : Arguments // paramsN 47 = l } := by
  refine ⟨?l, ?h⟩
  case h => conv => lhs; whnf
noncomputable abbrev p47 : Arguments := px47.1
noncomputable def K : Params → Frag := fun P =>
(nat_lit 2, { cls := .none, data := .dict #[⟨PyData.keyHash P "\x69mport.loaded._sre", .str "\x69mport.loaded._sre" 183, .bool true⟩, ⟨PyData.keyHash P "class._frozen_importlib.BuiltinImporter", .str "class._frozen_importlib.BuiltinImporter" 185, .ref 14⟩, ⟨PyData.keyHash P "watched.\x69mport", .str "watched.\x69mport" 206, .ref 18⟩, ⟨PyData.keyHash P "class._frozen_importlib.ModuleSpec", .str "class._frozen_importlib.ModuleSpec" 216, .ref 22⟩, ⟨PyData.keyHash P "sys.modules.booked-epoch", .str "sys.modules.booked-epoch" 245, .int 3 0⟩, ⟨PyData.keyHash P "\x69mport.later-laid._sre", .str "\x69mport.later-laid._sre" 270, .bool true⟩, ⟨PyData.keyHash P "watched.library", .str "watched.library" 272, .ref 27⟩, ⟨PyData.keyHash P "watched.library-objects", .str "watched.library-objects" 0, .str "\x0c" 0⟩, ⟨PyData.keyHash P "watched.library-deep._sre", .str "watched.library-deep._sre" 273, .str "\x04\x00\x00\x0b\x04\x00\x00\x0b\x04\x00\x00\x03\x04\x00\x00\x0b\x08\x04dict\x02" 0⟩] 9 }) ::
(nat_lit 3, { cls := .type "dict", data := .dict (List.toArray (⟨PyData.keyHash P "__name__", .str "__name__" 165, .str "law_rx0053_01" 641⟩ :: ⟨PyData.keyHash P "__doc__", .str "__doc__" 166, .none⟩ :: ⟨PyData.keyHash P "__package__", .str "__package__" 167, .none⟩ :: ⟨PyData.keyHash P "__loader__", .str "__loader__" 168, .builtin "__main__.__loader__#opaque"⟩ :: ⟨PyData.keyHash P "__spec__", .str "__spec__" 169, .none⟩ :: ⟨PyData.keyHash P "__annotations__", .str "__annotations__" 170, .ref 6⟩ :: ⟨PyData.keyHash P "__builtins__", .str "__builtins__" 171, .ref 4⟩ :: ⟨PyData.keyHash P "__file__", .str "__file__" 173, .str "/claim/cut.py" 172⟩ :: ⟨PyData.keyHash P "__cached__", .str "__cached__" 174, .none⟩ :: ⟨PyData.keyHash P "_sre", .str "_sre" 275, .ref 12⟩ :: ⟨PyData.keyHash P "and_", .str "and_" 291, .ref 38⟩ :: ⟨PyData.keyHash P "or_", .str "or_" 299, .ref 45⟩ :: ⟨PyData.keyHash P "xor", .str "xor" 307, .ref 52⟩ :: ⟨PyData.keyHash P "countOf", .str "countOf" 317, .ref 59⟩ :: ⟨PyData.keyHash P "_twin_re_1", .str "_twin_re_1" 357, .ref 64⟩ :: ⟨PyData.keyHash P "translate", .str "translate" 366, .ref 71⟩ :: ⟨PyData.keyHash P "_special_chars_map", .str "_special_chars_map" 514, .ref 73⟩ :: ⟨PyData.keyHash P "escape", .str "escape" 521, .ref 83⟩ :: ⟨PyData.keyHash P "_translate", .str "_translate" 542, .ref 90⟩ :: ⟨PyData.keyHash P "_join_translated_parts", .str "_join_translated_parts" 555, .ref 97⟩ :: ⟨PyData.keyHash P "S_IFMT", .str "S_IFMT" 564, .ref 104⟩ :: ⟨PyData.keyHash P "S_IFDIR", .str "S_IFDIR" 566, .int 16384 565⟩ :: ⟨PyData.keyHash P "S_IFCHR", .str "S_IFCHR" 568, .int 8192 567⟩ :: ⟨PyData.keyHash P "S_IFBLK", .str "S_IFBLK" 570, .int 24576 569⟩ :: ⟨PyData.keyHash P "S_IFREG", .str "S_IFREG" 572, .int 32768 571⟩ :: ⟨PyData.keyHash P "S_IFIFO", .str "S_IFIFO" 574, .int 4096 573⟩ :: ⟨PyData.keyHash P "S_IFLNK", .str "S_IFLNK" 576, .int 40960 575⟩ :: ⟨PyData.keyHash P "S_IFSOCK", .str "S_IFSOCK" 578, .int 49152 577⟩ :: ⟨PyData.keyHash P "S_ISUID", .str "S_ISUID" 580, .int 2048 579⟩ :: ⟨PyData.keyHash P "S_ISGID", .str "S_ISGID" 582, .int 1024 581⟩ :: ⟨PyData.keyHash P "S_ISVTX", .str "S_ISVTX" 584, .int 512 583⟩ :: ⟨PyData.keyHash P "S_IRUSR", .str "S_IRUSR" 586, .int 256 585⟩ :: ⟨PyData.keyHash P "S_IWUSR", .str "S_IWUSR" 588, .int 128 587⟩ :: ⟨PyData.keyHash P "S_IXUSR", .str "S_IXUSR" 590, .int 64 589⟩ :: ⟨PyData.keyHash P "S_IRGRP", .str "S_IRGRP" 592, .int 32 591⟩ :: ⟨PyData.keyHash P "S_IWGRP", .str "S_IWGRP" 594, .int 16 593⟩ :: ⟨PyData.keyHash P "S_IXGRP", .str "S_IXGRP" 596, .int 8 595⟩ :: ⟨PyData.keyHash P "S_IROTH", .str "S_IROTH" 598, .int 4 597⟩ :: ⟨PyData.keyHash P "S_IWOTH", .str "S_IWOTH" 600, .int 2 599⟩ :: ⟨PyData.keyHash P "S_IXOTH", .str "S_IXOTH" 602, .int 1 601⟩ :: ⟨PyData.keyHash P "_filemode_table", .str "_filemode_table" 628, .ref 137⟩ :: ⟨PyData.keyHash P "filemode", .str "filemode" 640, .ref 144⟩ :: ⟨PyData.keyHash P "_law_drawn", .str "_law_drawn" 654, .ref 151⟩ :: ⟨PyData.keyHash P "_law_hand", .str "_law_hand" 660, .ref 156⟩ :: ⟨PyData.keyHash P "_law_scale", .str "_law_scale" 667, .ref 163⟩ :: ⟨PyData.keyHash P "_law_between", .str "_law_between" 680, .ref 170⟩ :: ⟨PyData.keyHash P "_law_piece", .str "_law_piece" 686, .ref 175⟩ :: ⟨PyData.keyHash P "_law_pattern", .str "_law_pattern" 699, .ref 182⟩ :: ⟨PyData.keyHash P "_law_read", .str "_law_read" 711, .ref 189⟩ :: ⟨PyData.keyHash P "_law_takes", .str "_law_takes" 722, .ref 196⟩ :: ⟨PyData.keyHash P "law", .str "law" 728, .ref 201⟩ :: [])) 51 }) ::
(nat_lit 32, { cls := .type "tuple", data := .seq #[] }) ::
(nat_lit 34, { cls := .type "tuple", data := .seq #[.str "a" 287, .str "b" 288] }) ::
(nat_lit 35, { cls := .type "tuple", data := .seq #[] }) ::
(nat_lit 37, { cls := .type "code", data := .fields #[.str "and_" 284, .str "and_" 285, .str "/claim/cut.py" 286, .int 3 0, .int 2 0, .int 0 0, .int 0 0, .int 3 0, .ref 32, .bool true, .int 276 0, .ref 33, .none, .ref 34, .ref 35, .ref 36, .int 289 0, .int 3 0, .str "/claim/cut.py" 290] }) ::
(nat_lit 38, { cls := .type "function", data := .func { name := "and_", qualname := "and_", params := p2, body := FuncBody.stmts b2, scope := s2, globals := 3, closure := [], defaults := .none, kwdefaults := .none, pyModule := .str "cpy313.operator" 282, code := .ref 37 } }) ::
(nat_lit 39, { cls := .type "tuple", data := .seq #[] }) ::
(nat_lit 41, { cls := .type "tuple", data := .seq #[.str "a" 295, .str "b" 296] }) ::
(nat_lit 42, { cls := .type "tuple", data := .seq #[] }) ::
(nat_lit 44, { cls := .type "code", data := .fields #[.str "or_" 292, .str "or_" 293, .str "/claim/cut.py" 294, .int 5 0, .int 2 0, .int 0 0, .int 0 0, .int 3 0, .ref 39, .bool true, .int 276 0, .ref 40, .none, .ref 41, .ref 42, .ref 43, .int 297 0, .int 5 0, .str "/claim/cut.py" 298] }) ::
(nat_lit 45, { cls := .type "function", data := .func { name := "or_", qualname := "or_", params := p3, body := FuncBody.stmts b3, scope := s3, globals := 3, closure := [], defaults := .none, kwdefaults := .none, pyModule := .str "cpy313.operator" 282, code := .ref 44 } }) ::
(nat_lit 46, { cls := .type "tuple", data := .seq #[] }) ::
(nat_lit 48, { cls := .type "tuple", data := .seq #[.str "a" 303, .str "b" 304] }) ::
(nat_lit 49, { cls := .type "tuple", data := .seq #[] }) ::
(nat_lit 51, { cls := .type "code", data := .fields #[.str "xor" 300, .str "xor" 301, .str "/claim/cut.py" 302, .int 7 0, .int 2 0, .int 0 0, .int 0 0, .int 3 0, .ref 46, .bool true, .int 276 0, .ref 47, .none, .ref 48, .ref 49, .ref 50, .int 305 0, .int 7 0, .str "/claim/cut.py" 306] }) ::
(nat_lit 52, { cls := .type "function", data := .func { name := "xor", qualname := "xor", params := p4, body := FuncBody.stmts b4, scope := s4, globals := 3, closure := [], defaults := .none, kwdefaults := .none, pyModule := .str "cpy313.operator" 282, code := .ref 51 } }) ::
(nat_lit 53, { cls := .type "tuple", data := .seq #[] }) ::
(nat_lit 55, { cls := .type "tuple", data := .seq #[.str "a" 311, .str "b" 312, .str "count" 313, .str "i" 314] }) ::
(nat_lit 56, { cls := .type "tuple", data := .seq #[] }) ::
(nat_lit 58, { cls := .type "code", data := .fields #[.str "countOf" 308, .str "countOf" 309, .str "/claim/cut.py" 310, .int 9 0, .int 2 0, .int 0 0, .int 0 0, .int 3 0, .ref 53, .bool true, .int 276 0, .ref 54, .none, .ref 55, .ref 56, .ref 57, .int 315 0, .int 9 0, .str "/claim/cut.py" 316] }) ::
(nat_lit 59, { cls := .type "function", data := .func { name := "countOf", qualname := "countOf", params := p5, body := FuncBody.stmts b5, scope := s5, globals := 3, closure := [], defaults := .none, kwdefaults := .none, pyModule := .str "cpy313.operator" 282, code := .ref 58 } }) ::
(nat_lit 63, { cls := .type "tuple", data := .seq #[.int 14 0, .int 14 0, .int 4 0, .int 1 0, .int 1 0, .int 9 0, .int 0 0, .int 64 0, .int 0 0, .int 1342177280 0, .int 0 0, .int 0 0, .int 0 0, .int 0 0, .int 0 0, .int 17 0, .int 0 0, .int 13 0, .int 11 0, .int 9 0, .int 0 0, .int 64 0, .int 0 0, .int 1342177280 0, .int 0 0, .int 0 0, .int 0 0, .int 0 0, .int 0 0, .int 17 0, .int 1 0, .int 1 0] }) ::
(nat_lit 64, { cls := .type "re.Pattern", data := .fields #[.str "([&~|])" 321, .int 32 356, .int 1 0, .none, .none, .ref 63, .int 0 0] }) ::
(nat_lit 65, { cls := .type "tuple", data := .seq #[] }) ::
(nat_lit 67, { cls := .type "tuple", data := .seq #[.str "pat" 361, .str "STAR" 362, .str "parts" 363] }) ::
(nat_lit 68, { cls := .type "tuple", data := .seq #[] }) ::
(nat_lit 70, { cls := .type "code", data := .fields #[.str "translate" 358, .str "translate" 359, .str "/claim/cut.py" 360, .int 17 0, .int 1 0, .int 0 0, .int 0 0, .int 3 0, .ref 65, .bool true, .int 276 0, .ref 66, .none, .ref 67, .ref 68, .ref 69, .int 364 0, .int 17 0, .str "/claim/cut.py" 365] }) ::
(nat_lit 71, { cls := .type "function", data := .func { name := "translate", qualname := "translate", params := p8, body := FuncBody.stmts b8, scope := s8, globals := 3, closure := [], defaults := .none, kwdefaults := .none, pyModule := .str "cpy313.fnmatch" 318, code := .ref 70 } }) ::
(nat_lit 73, { cls := .type "dict", data := .dict #[⟨40, .int 40 370, .str "\\(" 374⟩, ⟨41, .int 41 376, .str "\\)" 380⟩, ⟨91, .int 91 382, .str "\\[" 386⟩, ⟨93, .int 93 388, .str "\\]" 392⟩, ⟨123, .int 123 394, .str "\\{" 398⟩, ⟨125, .int 125 400, .str "\\}" 404⟩, ⟨63, .int 63 406, .str "\\?" 410⟩, ⟨42, .int 42 412, .str "\\*" 416⟩, ⟨43, .int 43 418, .str "\\+" 422⟩, ⟨45, .int 45 424, .str "\\-" 428⟩, ⟨124, .int 124 430, .str "\\|" 434⟩, ⟨94, .int 94 436, .str "\\^" 440⟩, ⟨36, .int 36 442, .str "\\$" 446⟩, ⟨92, .int 92 448, .str "\\\\" 452⟩, ⟨46, .int 46 454, .str "\\." 458⟩, ⟨38, .int 38 460, .str "\\&" 464⟩, ⟨126, .int 126 466, .str "\\~" 470⟩, ⟨35, .int 35 472, .str "\\#" 476⟩, ⟨32, .int 32 478, .str "\\ " 482⟩, ⟨9, .int 9 484, .str "\\\t" 488⟩, ⟨10, .int 10 490, .str "\\\n" 494⟩, ⟨13, .int 13 496, .str "\\\x0d" 500⟩, ⟨11, .int 11 502, .str "\\\x0b" 506⟩, ⟨12, .int 12 508, .str "\\\x0c" 512⟩] 24 }) ::
(nat_lit 77, { cls := .type "tuple", data := .seq #[] }) ::
(nat_lit 79, { cls := .type "tuple", data := .seq #[.str "pattern" 518] }) ::
(nat_lit 80, { cls := .type "tuple", data := .seq #[] }) ::
(nat_lit 82, { cls := .type "code", data := .fields #[.str "escape" 515, .str "escape" 516, .str "/claim/cut.py" 517, .int 23 0, .int 1 0, .int 0 0, .int 0 0, .int 3 0, .ref 77, .bool true, .int 276 0, .ref 78, .none, .ref 79, .ref 80, .ref 81, .int 519 0, .int 23 0, .str "/claim/cut.py" 520] }) ::
(nat_lit 83, { cls := .type "function", data := .func { name := "escape", qualname := "escape", params := p11, body := FuncBody.stmts b11, scope := s11, globals := 3, closure := [], defaults := .none, kwdefaults := .none, pyModule := .str "re" 367, code := .ref 82 } }) ::
(nat_lit 84, { cls := .type "tuple", data := .seq #[] }) ::
(nat_lit 86, { cls := .type "tuple", data := .seq #[.str "pat" 527, .str "STAR" 528, .str "QUESTION_MARK" 529, .str "res" 530, .str "add" 531, .str "i" 532, .str "n" 533, .str "c" 534, .str "j" 535, .str "stuff" 536, .str "chunks" 537, .str "k" 538, .str "chunk" 539] }) ::
(nat_lit 87, { cls := .type "tuple", data := .seq #[] }) ::
(nat_lit 89, { cls := .type "code", data := .fields #[.str "_translate" 524, .str "_translate" 525, .str "/claim/cut.py" 526, .int 30 0, .int 3 0, .int 0 0, .int 0 0, .int 3 0, .ref 84, .bool true, .int 276 0, .ref 85, .none, .ref 86, .ref 87, .ref 88, .int 540 0, .int 30 0, .str "/claim/cut.py" 541] }) ::
(nat_lit 90, { cls := .type "function", data := .func { name := "_translate", qualname := "_translate", params := p13, body := FuncBody.stmts b13, scope := s13, globals := 3, closure := [], defaults := .none, kwdefaults := .none, pyModule := .str "cpy313.fnmatch" 522, code := .ref 89 } }) ::
(nat_lit 91, { cls := .type "tuple", data := .seq #[] }) ::
(nat_lit 93, { cls := .type "tuple", data := .seq #[.str "inp" 546, .str "STAR" 547, .str "res" 548, .str "add" 549, .str "i" 550, .str "n" 551, .str "fixed" 552] }) ::
(nat_lit 94, { cls := .type "tuple", data := .seq #[] }) ::
(nat_lit 96, { cls := .type "code", data := .fields #[.str "_join_translated_parts" 543, .str "_join_translated_parts" 544, .str "/claim/cut.py" 545, .int 92 0, .int 2 0, .int 0 0, .int 0 0, .int 3 0, .ref 91, .bool true, .int 276 0, .ref 92, .none, .ref 93, .ref 94, .ref 95, .int 553 0, .int 92 0, .str "/claim/cut.py" 554] }) ::
(nat_lit 97, { cls := .type "function", data := .func { name := "_join_translated_parts", qualname := "_join_translated_parts", params := p14, body := FuncBody.stmts b14, scope := s14, globals := 3, closure := [], defaults := .none, kwdefaults := .none, pyModule := .str "cpy313.fnmatch" 522, code := .ref 96 } }) ::
(nat_lit 98, { cls := .type "tuple", data := .seq #[] }) ::
(nat_lit 100, { cls := .type "tuple", data := .seq #[.str "mode" 561] }) ::
(nat_lit 101, { cls := .type "tuple", data := .seq #[] }) ::
(nat_lit 103, { cls := .type "code", data := .fields #[.str "S_IFMT" 558, .str "S_IFMT" 559, .str "/claim/cut.py" 560, .int 120 0, .int 1 0, .int 0 0, .int 0 0, .int 3 0, .ref 98, .bool true, .int 276 0, .ref 99, .none, .ref 100, .ref 101, .ref 102, .int 562 0, .int 120 0, .str "/claim/cut.py" 563] }) ::
(nat_lit 104, { cls := .type "function", data := .func { name := "S_IFMT", qualname := "S_IFMT", params := p16, body := FuncBody.stmts b16, scope := s16, globals := 3, closure := [], defaults := .none, kwdefaults := .none, pyModule := .str "cpy313.stat" 556, code := .ref 103 } }) ::
(nat_lit 105, { cls := .type "tuple", data := .seq #[.int 40960 575, .str "l" 603] }) ::
(nat_lit 106, { cls := .type "tuple", data := .seq #[.int 49152 577, .str "s" 604] }) ::
(nat_lit 107, { cls := .type "tuple", data := .seq #[.int 32768 571, .str "-" 605] }) ::
(nat_lit 108, { cls := .type "tuple", data := .seq #[.int 24576 569, .str "b" 606] }) ::
(nat_lit 109, { cls := .type "tuple", data := .seq #[.int 16384 565, .str "d" 607] }) ::
(nat_lit 110, { cls := .type "tuple", data := .seq #[.int 8192 567, .str "c" 608] }) ::
(nat_lit 111, { cls := .type "tuple", data := .seq #[.int 4096 573, .str "p" 609] }) ::
(nat_lit 112, { cls := .type "tuple", data := .seq #[.ref 105, .ref 106, .ref 107, .ref 108, .ref 109, .ref 110, .ref 111] }) ::
(nat_lit 113, { cls := .type "tuple", data := .seq #[.int 256 585, .str "r" 610] }) ::
(nat_lit 114, { cls := .type "tuple", data := .seq #[.ref 113] }) ::
(nat_lit 115, { cls := .type "tuple", data := .seq #[.int 128 587, .str "w" 611] }) ::
(nat_lit 116, { cls := .type "tuple", data := .seq #[.ref 115] }) ::
(nat_lit 117, { cls := .type "tuple", data := .seq #[.int 2112 612, .str "s" 613] }) ::
(nat_lit 118, { cls := .type "tuple", data := .seq #[.int 2048 579, .str "S" 614] }) ::
(nat_lit 119, { cls := .type "tuple", data := .seq #[.int 64 589, .str "x" 615] }) ::
(nat_lit 120, { cls := .type "tuple", data := .seq #[.ref 117, .ref 118, .ref 119] }) ::
(nat_lit 121, { cls := .type "tuple", data := .seq #[.int 32 591, .str "r" 616] }) ::
(nat_lit 122, { cls := .type "tuple", data := .seq #[.ref 121] }) ::
(nat_lit 123, { cls := .type "tuple", data := .seq #[.int 16 593, .str "w" 617] }) ::
(nat_lit 124, { cls := .type "tuple", data := .seq #[.ref 123] }) ::
(nat_lit 125, { cls := .type "tuple", data := .seq #[.int 1032 618, .str "s" 619] }) ::
(nat_lit 126, { cls := .type "tuple", data := .seq #[.int 1024 581, .str "S" 620] }) ::
(nat_lit 127, { cls := .type "tuple", data := .seq #[.int 8 595, .str "x" 621] }) ::
(nat_lit 128, { cls := .type "tuple", data := .seq #[.ref 125, .ref 126, .ref 127] }) ::
(nat_lit 129, { cls := .type "tuple", data := .seq #[.int 4 597, .str "r" 622] }) ::
(nat_lit 130, { cls := .type "tuple", data := .seq #[.ref 129] }) ::
(nat_lit 131, { cls := .type "tuple", data := .seq #[.int 2 599, .str "w" 623] }) ::
(nat_lit 132, { cls := .type "tuple", data := .seq #[.ref 131] }) ::
(nat_lit 133, { cls := .type "tuple", data := .seq #[.int 513 624, .str "t" 625] }) ::
(nat_lit 134, { cls := .type "tuple", data := .seq #[.int 512 583, .str "T" 626] }) ::
(nat_lit 135, { cls := .type "tuple", data := .seq #[.int 1 601, .str "x" 627] }) ::
(nat_lit 136, { cls := .type "tuple", data := .seq #[.ref 133, .ref 134, .ref 135] }) ::
(nat_lit 137, { cls := .type "tuple", data := .seq #[.ref 112, .ref 114, .ref 116, .ref 120, .ref 122, .ref 124, .ref 128, .ref 130, .ref 132, .ref 136] }) ::
(nat_lit 138, { cls := .type "tuple", data := .seq #[] }) ::
(nat_lit 140, { cls := .type "tuple", data := .seq #[.str "mode" 632, .str "perm" 633, .str "index" 634, .str "table" 635, .str "bit" 636, .str "char" 637] }) ::
(nat_lit 141, { cls := .type "tuple", data := .seq #[] }) ::
(nat_lit 143, { cls := .type "code", data := .fields #[.str "filemode" 629, .str "filemode" 630, .str "/claim/cut.py" 631, .int 142 0, .int 1 0, .int 0 0, .int 0 0, .int 3 0, .ref 138, .bool true, .int 276 0, .ref 139, .none, .ref 140, .ref 141, .ref 142, .int 638 0, .int 142 0, .str "/claim/cut.py" 639] }) ::
(nat_lit 144, { cls := .type "function", data := .func { name := "filemode", qualname := "filemode", params := p37, body := FuncBody.stmts b37, scope := s37, globals := 3, closure := [], defaults := .none, kwdefaults := .none, pyModule := .str "cpy313.stat" 556, code := .ref 143 } }) ::
(nat_lit 145, { cls := .type "tuple", data := .seq #[] }) ::
(nat_lit 147, { cls := .type "tuple", data := .seq #[.str "numbers" 646, .str "first" 647, .str "base" 648, .str "bound" 649, .str "drawn" 650, .str "x" 651] }) ::
(nat_lit 148, { cls := .type "tuple", data := .seq #[] }) ::
(nat_lit 150, { cls := .type "code", data := .fields #[.str "_law_drawn" 643, .str "_law_drawn" 644, .str "/claim/cut.py" 645, .int 160 0, .int 4 0, .int 0 0, .int 0 0, .int 3 0, .ref 145, .bool true, .int 276 0, .ref 146, .none, .ref 147, .ref 148, .ref 149, .int 652 0, .int 160 0, .str "/claim/cut.py" 653] }) ::
(nat_lit 151, { cls := .type "function", data := .func { name := "_law_drawn", qualname := "_law_drawn", params := p39, body := FuncBody.stmts b39, scope := s39, globals := 3, closure := [], defaults := .none, kwdefaults := .none, pyModule := .str "law_rx0053_01" 641, code := .ref 150 } }) ::
(nat_lit 152, { cls := .type "tuple", data := .seq #[] }) ::
(nat_lit 155, { cls := .type "code", data := .fields #[.str "_law_hand" 655, .str "_law_hand" 656, .str "/claim/cut.py" 657, .int 165 0, .int 3 0, .int 0 0, .int 0 0, .int 3 0, .ref 152, .bool true, .int 276 0, .ref 153, .none, .none, .none, .ref 154, .int 658 0, .int 165 0, .str "/claim/cut.py" 659] }) ::
(nat_lit 156, { cls := .type "function", data := .func { name := "_law_hand", qualname := "_law_hand", params := p40, body := FuncBody.stmts b40, scope := s40, globals := 3, closure := [], defaults := .none, kwdefaults := .none, pyModule := .str "law_rx0053_01" 641, code := .ref 155 } }) ::
(nat_lit 157, { cls := .type "tuple", data := .seq #[] }) ::
(nat_lit 159, { cls := .type "tuple", data := .seq #[.str "place" 664] }) ::
(nat_lit 160, { cls := .type "tuple", data := .seq #[] }) ::
(nat_lit 162, { cls := .type "code", data := .fields #[.str "_law_scale" 661, .str "_law_scale" 662, .str "/claim/cut.py" 663, .int 167 0, .int 1 0, .int 0 0, .int 0 0, .int 3 0, .ref 157, .bool true, .int 276 0, .ref 158, .none, .ref 159, .ref 160, .ref 161, .int 665 0, .int 167 0, .str "/claim/cut.py" 666] }) ::
(nat_lit 163, { cls := .type "function", data := .func { name := "_law_scale", qualname := "_law_scale", params := p41, body := FuncBody.stmts b41, scope := s41, globals := 3, closure := [], defaults := .none, kwdefaults := .none, pyModule := .str "law_rx0053_01" 641, code := .ref 162 } }) ::
(nat_lit 164, { cls := .type "tuple", data := .seq #[] }) ::
(nat_lit 166, { cls := .type "tuple", data := .seq #[.str "scale" 671, .str "one" 672, .str "two" 673, .str "i" 674, .str "j" 675, .str "kept" 676, .str "k" 677] }) ::
(nat_lit 167, { cls := .type "tuple", data := .seq #[] }) ::
(nat_lit 169, { cls := .type "code", data := .fields #[.str "_law_between" 668, .str "_law_between" 669, .str "/claim/cut.py" 670, .int 175 0, .int 3 0, .int 0 0, .int 0 0, .int 3 0, .ref 164, .bool true, .int 276 0, .ref 165, .none, .ref 166, .ref 167, .ref 168, .int 678 0, .int 175 0, .str "/claim/cut.py" 679] }) ::
(nat_lit 170, { cls := .type "function", data := .func { name := "_law_between", qualname := "_law_between", params := p42, body := FuncBody.stmts b42, scope := s42, globals := 3, closure := [], defaults := .none, kwdefaults := .none, pyModule := .str "law_rx0053_01" 641, code := .ref 169 } }) ::
(nat_lit 171, { cls := .type "tuple", data := .seq #[] }) ::
(nat_lit 174, { cls := .type "code", data := .fields #[.str "_law_piece" 681, .str "_law_piece" 682, .str "/claim/cut.py" 683, .int 183 0, .int 3 0, .int 0 0, .int 0 0, .int 3 0, .ref 171, .bool true, .int 276 0, .ref 172, .none, .none, .none, .ref 173, .int 684 0, .int 183 0, .str "/claim/cut.py" 685] }) ::
(nat_lit 175, { cls := .type "function", data := .func { name := "_law_piece", qualname := "_law_piece", params := p43, body := FuncBody.stmts b43, scope := s43, globals := 3, closure := [], defaults := .none, kwdefaults := .none, pyModule := .str "law_rx0053_01" 641, code := .ref 174 } }) ::
(nat_lit 176, { cls := .type "tuple", data := .seq #[] }) ::
(nat_lit 178, { cls := .type "tuple", data := .seq #[.str "one" 690, .str "two" 691, .str "shift" 692, .str "written" 693, .str "place" 694, .str "scale" 695, .str "kept" 696] }) ::
(nat_lit 179, { cls := .type "tuple", data := .seq #[] }) ::
(nat_lit 181, { cls := .type "code", data := .fields #[.str "_law_pattern" 687, .str "_law_pattern" 688, .str "/claim/cut.py" 689, .int 192 0, .int 3 0, .int 0 0, .int 0 0, .int 3 0, .ref 176, .bool true, .int 276 0, .ref 177, .none, .ref 178, .ref 179, .ref 180, .int 697 0, .int 192 0, .str "/claim/cut.py" 698] }) ::
(nat_lit 182, { cls := .type "function", data := .func { name := "_law_pattern", qualname := "_law_pattern", params := p44, body := FuncBody.stmts b44, scope := s44, globals := 3, closure := [], defaults := .none, kwdefaults := .none, pyModule := .str "law_rx0053_01" 641, code := .ref 181 } }) ::
(nat_lit 183, { cls := .type "tuple", data := .seq #[] }) ::
(nat_lit 185, { cls := .type "tuple", data := .seq #[.str "text" 703, .str "sets" 704, .str "spot" 705, .str "last" 706, .str "bars" 707, .str "held" 708] }) ::
(nat_lit 186, { cls := .type "tuple", data := .seq #[] }) ::
(nat_lit 188, { cls := .type "code", data := .fields #[.str "_law_read" 700, .str "_law_read" 701, .str "/claim/cut.py" 702, .int 199 0, .int 1 0, .int 0 0, .int 0 0, .int 3 0, .ref 183, .bool true, .int 276 0, .ref 184, .none, .ref 185, .ref 186, .ref 187, .int 709 0, .int 199 0, .str "/claim/cut.py" 710] }) ::
(nat_lit 189, { cls := .type "function", data := .func { name := "_law_read", qualname := "_law_read", params := p45, body := FuncBody.stmts b45, scope := s45, globals := 3, closure := [], defaults := .none, kwdefaults := .none, pyModule := .str "law_rx0053_01" 641, code := .ref 188 } }) ::
(nat_lit 190, { cls := .type "tuple", data := .seq #[] }) ::
(nat_lit 192, { cls := .type "tuple", data := .seq #[.str "sets" 715, .str "row" 716, .str "k" 717, .str "bars" 718, .str "held" 719] }) ::
(nat_lit 193, { cls := .type "tuple", data := .seq #[] }) ::
(nat_lit 195, { cls := .type "code", data := .fields #[.str "_law_takes" 712, .str "_law_takes" 713, .str "/claim/cut.py" 714, .int 226 0, .int 2 0, .int 0 0, .int 0 0, .int 3 0, .ref 190, .bool true, .int 276 0, .ref 191, .none, .ref 192, .ref 193, .ref 194, .int 720 0, .int 226 0, .str "/claim/cut.py" 721] }) ::
(nat_lit 196, { cls := .type "function", data := .func { name := "_law_takes", qualname := "_law_takes", params := p46, body := FuncBody.stmts b46, scope := s46, globals := 3, closure := [], defaults := .none, kwdefaults := .none, pyModule := .str "law_rx0053_01" 641, code := .ref 195 } }) ::
(nat_lit 197, { cls := .type "tuple", data := .seq #[] }) ::
(nat_lit 200, { cls := .type "code", data := .fields #[.str "law" 723, .str "law" 724, .str "/claim/cut.py" 725, .int 234 0, .int 1 0, .int 0 0, .int 0 0, .int 3 0, .ref 197, .bool true, .int 276 0, .ref 198, .none, .none, .none, .ref 199, .int 726 0, .int 234 0, .str "/claim/cut.py" 727] }) ::
(nat_lit 201, { cls := .type "function", data := .func { name := "law", qualname := "law", params := p47, body := FuncBody.stmts b47, scope := s47, globals := 3, closure := [], defaults := .none, kwdefaults := .none, pyModule := .str "law_rx0053_01" 641, code := .ref 200 } }) :: []
noncomputable def viewN : List Stmt := [0, 2, 3, 4, 5, 7, 8, 10, 11, 13, 14, 16, 17, 18, 19, 20, 21, 22, 23, 24, 25, 26, 27, 28, 29, 30, 31, 32, 33, 34, 35, 36, 37, 39, 40, 41, 42, 43, 44, 45, 46, 47].filterMap fun i => PySem.Challenge.pw_rx0053_01.main.body[i]?
noncomputable def q : Program := { PySem.Challenge.pw_rx0053_01 with main := { PySem.Challenge.pw_rx0053_01.main with body := viewN } }
noncomputable def asT : List Addr := [2, 3, 32, 34, 35, 37, 38, 39, 41, 42, 44, 45, 46, 48, 49, 51, 52, 53, 55, 56, 58, 59, 63, 64, 65, 67, 68, 70, 71, 73, 77, 79, 80, 82, 83, 84, 86, 87, 89, 90, 91, 93, 94, 96, 97, 98, 100, 101, 103, 104, 105, 106, 107, 108, 109, 110, 111, 112, 113, 114, 115, 116, 117, 118, 119, 120, 121, 122, 123, 124, 125, 126, 127, 128, 129, 130, 131, 132, 133, 134, 135, 136, 137, 138, 140, 141, 143, 144, 145, 147, 148, 150, 151, 152, 155, 156, 157, 159, 160, 162, 163, 164, 166, 167, 169, 170, 171, 174, 175, 176, 178, 179, 181, 182, 183, 185, 186, 188, 189, 190, 192, 193, 195, 196, 197, 200, 201]
theorem asE : ∀ P, asT = (K P).map (·.1) := fun _ => by kernel_rfl
noncomputable def lvT : List (Str × WData) := [(Str.ofString "_filemode_table", WData.tuple [WData.tuple [WData.tuple [WData.int 40960, WData.str { cps := #[108] }], WData.tuple [WData.int 49152, WData.str { cps := #[115] }], WData.tuple [WData.int 32768, WData.str { cps := #[45] }], WData.tuple [WData.int 24576, WData.str { cps := #[98] }], WData.tuple [WData.int 16384, WData.str { cps := #[100] }], WData.tuple [WData.int 8192, WData.str { cps := #[99] }], WData.tuple [WData.int 4096, WData.str { cps := #[112] }]], WData.tuple [WData.tuple [WData.int 256, WData.str { cps := #[114] }]], WData.tuple [WData.tuple [WData.int 128, WData.str { cps := #[119] }]], WData.tuple [WData.tuple [WData.int 2112, WData.str { cps := #[115] }], WData.tuple [WData.int 2048, WData.str { cps := #[83] }], WData.tuple [WData.int 64, WData.str { cps := #[120] }]], WData.tuple [WData.tuple [WData.int 32, WData.str { cps := #[114] }]], WData.tuple [WData.tuple [WData.int 16, WData.str { cps := #[119] }]], WData.tuple [WData.tuple [WData.int 1032, WData.str { cps := #[115] }], WData.tuple [WData.int 1024, WData.str { cps := #[83] }], WData.tuple [WData.int 8, WData.str { cps := #[120] }]], WData.tuple [WData.tuple [WData.int 4, WData.str { cps := #[114] }]], WData.tuple [WData.tuple [WData.int 2, WData.str { cps := #[119] }]], WData.tuple [WData.tuple [WData.int 513, WData.str { cps := #[116] }], WData.tuple [WData.int 512, WData.str { cps := #[84] }], WData.tuple [WData.int 1, WData.str { cps := #[120] }]]])]
noncomputable def looseT : List Str := [Str.ofString "_twin_re_1", Str.ofString "_special_chars_map", Str.ofString "_filemode_table"]
noncomputable abbrev HK : Hook := kmHook K asT asE [85]
noncomputable abbrev sees (s : Shared) := (openSeen q looseT (importedModules PySem.Challenge.pw_rx0053_01.main.body) (fun s => xlAt q lvT s && recOk (RowW.records (OpenRow.toRowW PySem.Challenge.rw_rx0053_01.row)) s) true s, HK.obs s)
noncomputable abbrev told (w : World) := (openGood q looseT, HK.val w)
namespace Hp
noncomputable def eF : Obj := { cls := .none, data := .fields #[] }
noncomputable def fR (n : Str) (p : Arguments) (b : List Stmt) (s : Scope) : Obj := { cls := .none, data := .func { name := n, qualname := n, params := p, body := .stmts b, scope := s, globals := 0, closure := [], defaults := .none, kwdefaults := .none } }
noncomputable def X (r18 r27 : Obj) : Params → List Obj := fun P =>
boot_o_0 P ::
{ cls := .type "dict", data := .dict #[⟨PyData.keyHash P "builtins", .str "builtins" 162, .ref 4⟩, ⟨PyData.keyHash P "__main__", .str "__main__" 163, .ref 5⟩, ⟨PyData.keyHash P "_sre", .str "_sre" 244, .ref 12⟩] 3 } ::
boot_o_4 P ::
boot_o_5 P ::
boot_o_6 P ::
boot_o_7 P ::
boot_o_8 P ::
boot_o_9 P ::
boot_o_10 P ::
{ cls := .type "dict", data := .dict #[⟨PyData.keyHash P "__name__", .str "__name__" 247, .str "_sre" 246⟩, ⟨PyData.keyHash P "__doc__", .str "__doc__" 248, .none⟩, ⟨PyData.keyHash P "__package__", .str "__package__" 250, .str "" 249⟩, ⟨PyData.keyHash P "__loader__", .str "__loader__" 251, .builtin "off-the-table:_sre.__loader__:shared#opaque"⟩, ⟨PyData.keyHash P "__spec__", .str "__spec__" 252, .builtin "off-the-table:_sre.__spec__:shared#opaque"⟩, ⟨PyData.keyHash P "compile", .str "compile" 253, .builtin "_sre.compile"⟩, ⟨PyData.keyHash P "template", .str "template" 254, .builtin "off-the-table:_sre.template:shared#opaque"⟩, ⟨PyData.keyHash P "getcodesize", .str "getcodesize" 255, .builtin "off-the-table:_sre.getcodesize:shared#opaque"⟩, ⟨PyData.keyHash P "ascii_iscased", .str "ascii_iscased" 256, .builtin "off-the-table:_sre.ascii_iscased:shared#opaque"⟩, ⟨PyData.keyHash P "unicode_iscased", .str "unicode_iscased" 257, .builtin "off-the-table:_sre.unicode_iscased:shared#opaque"⟩, ⟨PyData.keyHash P "ascii_tolower", .str "ascii_tolower" 258, .builtin "off-the-table:_sre.ascii_tolower:shared#opaque"⟩, ⟨PyData.keyHash P "unicode_tolower", .str "unicode_tolower" 259, .builtin "off-the-table:_sre.unicode_tolower:shared#opaque"⟩, ⟨PyData.keyHash P "MAGIC", .str "MAGIC" 261, .int 20230612 260⟩, ⟨PyData.keyHash P "CODESIZE", .str "CODESIZE" 263, .int 4 262⟩, ⟨PyData.keyHash P "MAXREPEAT", .str "MAXREPEAT" 265, .int 4294967295 264⟩, ⟨PyData.keyHash P "MAXGROUPS", .str "MAXGROUPS" 267, .int 1073741823 266⟩, ⟨PyData.keyHash P "copyright", .str "copyright" 269, .str " SRE 2.2.2 Copyright (c) 1997-2002 by Secret Labs AB " 268⟩] 17 } ::
{ cls := .type "module", dict := some 11 } ::
{ cls := .type "dict", data := .dict #[⟨PyData.keyHash P "__module__", .str "__module__" 189, .str "_frozen_importlib" 186⟩, ⟨PyData.keyHash P "__firstlineno__", .str "__firstlineno__" 190, .int 971 187⟩, ⟨PyData.keyHash P "__doc__", .str "__doc__" 191, .builtin "_frozen_importlib.BuiltinImporter.__doc__:str#opaque"⟩, ⟨PyData.keyHash P "_ORIGIN", .str "_ORIGIN" 192, .str "built-in" 188⟩, ⟨PyData.keyHash P "find_spec", .str "find_spec" 193, .builtin "_frozen_importlib.BuiltinImporter.find_spec#opaque"⟩, ⟨PyData.keyHash P "create_module", .str "create_module" 194, .builtin "_frozen_importlib.BuiltinImporter.create_module#opaque"⟩, ⟨PyData.keyHash P "exec_module", .str "exec_module" 195, .builtin "_frozen_importlib.BuiltinImporter.exec_module#opaque"⟩, ⟨PyData.keyHash P "get_code", .str "get_code" 196, .builtin "_frozen_importlib.BuiltinImporter.get_code#opaque"⟩, ⟨PyData.keyHash P "get_source", .str "get_source" 197, .builtin "_frozen_importlib.BuiltinImporter.get_source#opaque"⟩, ⟨PyData.keyHash P "is_package", .str "is_package" 198, .builtin "_frozen_importlib.BuiltinImporter.is_package#opaque"⟩, ⟨PyData.keyHash P "load_module", .str "load_module" 199, .builtin "_frozen_importlib.BuiltinImporter.load_module#opaque"⟩, ⟨PyData.keyHash P "__static_attributes__", .str "__static_attributes__" 200, .ref 15⟩, ⟨PyData.keyHash P "__dict__", .str "__dict__" 202, .ref 16⟩, ⟨PyData.keyHash P "__weakref__", .str "__weakref__" 204, .ref 17⟩] 14 } ::
{ cls := .type "type", data := .cls { name := "BuiltinImporter", bases := [.type "object"], mro := [.ref 14, .type "object"], ns := 13, qualname := "BuiltinImporter" } } ::
{ cls := .type "tuple", data := .seq #[] } ::
{ cls := .type "getset_descriptor", data := .fields #[.str "__dict__" 201, .ref 14, .builtin "function.__dict__", .builtin "function.__dict__#set"] } ::
{ cls := .type "getset_descriptor", data := .fields #[.str "__weakref__" 203, .ref 14, .builtin "ExceptionGroup.__weakref__", .none] } ::
r18 ::
{ cls := .type "list", data := .seq #[] } ::
{ cls := .type "dict", data := .dict #[⟨PyData.keyHash P "name", .str "name" 208, .str "_sre" 207⟩, ⟨PyData.keyHash P "loader", .str "loader" 209, .ref 14⟩, ⟨PyData.keyHash P "origin", .str "origin" 210, .str "built-in" 184⟩, ⟨PyData.keyHash P "loader_state", .str "loader_state" 211, .none⟩, ⟨PyData.keyHash P "submodule_search_locations", .str "submodule_search_locations" 212, .none⟩, ⟨PyData.keyHash P "_uninitialized_submodules", .str "_uninitialized_submodules" 213, .ref 19⟩, ⟨PyData.keyHash P "_set_fileattr", .str "_set_fileattr" 214, .bool false⟩, ⟨PyData.keyHash P "_cached", .str "_cached" 215, .none⟩, ⟨PyData.keyHash P "_initializing", .str "_initializing" 243, .bool false⟩] 9 } ::
{ cls := .type "dict", data := .dict #[⟨PyData.keyHash P "__module__", .str "__module__" 227, .str "_frozen_importlib" 217⟩, ⟨PyData.keyHash P "__firstlineno__", .str "__firstlineno__" 228, .int 562 218⟩, ⟨PyData.keyHash P "__doc__", .str "__doc__" 229, .builtin "_frozen_importlib.ModuleSpec.__doc__:str#opaque"⟩, ⟨PyData.keyHash P "__init__", .str "__init__" 230, .builtin "_frozen_importlib.ModuleSpec.__init__#opaque"⟩, ⟨PyData.keyHash P "__repr__", .str "__repr__" 231, .builtin "_frozen_importlib.ModuleSpec.__repr__#opaque"⟩, ⟨PyData.keyHash P "__eq__", .str "__eq__" 232, .builtin "_frozen_importlib.ModuleSpec.__eq__#opaque"⟩, ⟨PyData.keyHash P "cached", .str "cached" 233, .builtin "_frozen_importlib.ModuleSpec.cached#opaque"⟩, ⟨PyData.keyHash P "parent", .str "parent" 234, .builtin "_frozen_importlib.ModuleSpec.parent#opaque"⟩, ⟨PyData.keyHash P "has_location", .str "has_location" 235, .builtin "_frozen_importlib.ModuleSpec.has_location#opaque"⟩, ⟨PyData.keyHash P "__static_attributes__", .str "__static_attributes__" 236, .ref 23⟩, ⟨PyData.keyHash P "__dict__", .str "__dict__" 238, .ref 24⟩, ⟨PyData.keyHash P "__weakref__", .str "__weakref__" 240, .ref 25⟩, ⟨PyData.keyHash P "__hash__", .str "__hash__" 241, .none⟩] 13 } ::
{ cls := .type "type", data := .cls { name := "ModuleSpec", bases := [.type "object"], mro := [.ref 22, .type "object"], ns := 21, qualname := "ModuleSpec" } } ::
{ cls := .type "tuple", data := .seq #[.str "_cached" 219, .str "_set_fileattr" 220, .str "_uninitialized_submodules" 221, .str "loader" 222, .str "loader_state" 223, .str "name" 224, .str "origin" 225, .str "submodule_search_locations" 226] } ::
{ cls := .type "getset_descriptor", data := .fields #[.str "__dict__" 237, .ref 22, .builtin "function.__dict__", .builtin "function.__dict__#set"] } ::
{ cls := .type "getset_descriptor", data := .fields #[.str "__weakref__" 239, .ref 22, .builtin "ExceptionGroup.__weakref__", .none] } ::
{ cls := .ref 22, dict := some 20 } ::
r27 ::
{ cls := .type "tuple", data := .seq #[] } ::
{ cls := .none, data := .fields (List.toArray (.int 3 0 :: .int 0 0 :: .ref 37 :: .int 5 0 :: .int 0 0 :: .ref 44 :: .int 7 0 :: .int 0 0 :: .ref 51 :: .int 9 0 :: .int 0 0 :: .ref 58 :: .int 17 0 :: .int 0 0 :: .ref 70 :: .int 23 0 :: .int 0 0 :: .ref 82 :: .int 30 0 :: .int 0 0 :: .ref 89 :: .int 92 0 :: .int 0 0 :: .ref 96 :: .int 120 0 :: .int 0 0 :: .ref 103 :: .int 142 0 :: .int 0 0 :: .ref 143 :: .int 160 0 :: .int 0 0 :: .ref 150 :: .int 165 0 :: .int 0 0 :: .ref 155 :: .int 167 0 :: .int 0 0 :: .ref 162 :: .int 175 0 :: .int 0 0 :: .ref 169 :: .int 183 0 :: .int 0 0 :: .ref 174 :: .int 192 0 :: .int 0 0 :: .ref 181 :: .int 199 0 :: .int 0 0 :: .ref 188 :: .int 226 0 :: .int 0 0 :: .ref 195 :: .int 234 0 :: .int 0 0 :: .ref 200 :: [])) } ::
{ cls := .type "code", data := .fields #[.str "<module>" 277, .str "<module>" 278, .str "/claim/cut.py" 279, .int 1 0, .int 0 0, .int 0 0, .int 0 0, .int 0 0, .ref 28, .bool false, .int 276 0, .ref 29, .none, .none, .none, .none, .int 280 0, .int 1 0, .str "/claim/cut.py" 281] } ::
{ cls := .type "frame", slots := #[some (.ref 30), some (.ref 3), some (.ref 3), none, some (.str "__main__" 164), none, some (.ref 0)] } ::
eF ::
fR "and_" p2 b2 s2 ::
eF ::
fR "or_" p3 b3 s3 ::
eF ::
fR "xor" p4 b4 s4 ::
eF ::
fR "countOf" p5 b5 s5 ::
{ cls := .type "list", data := .seq #[.int 14 323, .int 14 324, .int 4 325, .int 1 326, .int 1 327, .int 9 328, .int 0 329, .int 64 330, .int 0 331, .int 1342177280 332, .int 0 333, .int 0 334, .int 0 335, .int 0 336, .int 0 337, .int 17 338, .int 0 339, .int 13 340, .int 11 341, .int 9 342, .int 0 343, .int 64 344, .int 0 345, .int 1342177280 346, .int 0 347, .int 0 348, .int 0 349, .int 0 350, .int 0 351, .int 17 352, .int 1 353, .int 1 354] } ::
{ cls := .type "dict", data := .dict #[] } ::
{ cls := .type "tuple", data := .seq #[.none, .none] } ::
eF ::
fR "translate" p8 b8 s8 ::
{ cls := .type "bytes_iterator", data := .fields #[.none, .int 24 0] } ::
{ cls := .type "dict", data := .dict #[] 2 } ::
{ cls := .type "tuple", data := .seq #[] } ::
{ cls := .type "StopIteration", data := .fields #[.ref 75, .none, .none, .none, .bool false, .none] } ::
eF ::
fR "escape" p11 b11 s11 ::
eF ::
fR "_translate" p13 b13 s13 ::
eF ::
fR "_join_translated_parts" p14 b14 s14 ::
eF ::
fR "S_IFMT" p16 b16 s16 ::
eF ::
fR "filemode" p37 b37 s37 ::
eF ::
fR "_law_drawn" p39 b39 s39 ::
eF ::
fR "_law_hand" p40 b40 s40 ::
eF ::
fR "_law_scale" p41 b41 s41 ::
eF ::
fR "_law_between" p42 b42 s42 ::
eF ::
fR "_law_piece" p43 b43 s43 ::
eF ::
fR "_law_pattern" p44 b44 s44 ::
eF ::
fR "_law_read" p45 b45 s45 ::
eF ::
fR "_law_takes" p46 b46 s46 ::
eF ::
fR "law" p47 b47 s47 :: []
noncomputable def mrg : Nat → Nat → Frag → List Obj → List Obj
  | n + 1, i, (a, o) :: k, x :: xs => match Nat.beq a i with
    | true => o :: mrg n (i + 1) k (x :: xs)
    | false => x :: mrg n (i + 1) ((a, o) :: k) xs
  | n + 1, i, [], x :: xs => x :: mrg n (i + 1) [] xs
  | n + 1, i, (_, o) :: k, [] => o :: mrg n (i + 1) k []
  | _, _, _, _ => []
noncomputable def cutD (m : Nat) (v : Value) (o : Obj) : Obj := match o.data with
  | .dict es _ => { o with data := .dict (match es.toList.take m with | e :: r => ({ e with val := v } :: r).toArray | [] => #[]) m }
  | _ => o
noncomputable def cutF (k : Nat) (o : Obj) : Obj := match o.data with
  | .fields vs => { o with data := .fields (vs.toList.take k).toArray }
  | _ => o
noncomputable def chg (f : Obj → Obj) : Nat → List Obj → List Obj
  | _, [] => []
  | 0, x :: r => f x :: r
  | n + 1, x :: r => x :: chg f n r
noncomputable def ev : List Obj → List Obj
  | x :: _ :: r => x :: ev r
  | l => l
noncomputable def ofL : Nat → List Obj → BT
  | n + 1, v :: r => .node v (ofL n (ev r)) (ofL n (ev r.tail))
  | _, _ => .nil
noncomputable def T (n m : Nat) (v : Value) (k : Nat) (r18 r27 : Obj) (P : Params) : BT := ofL 9 (chg (cutF k) 29 (chg (cutD m v) 3 ((mrg 202 0 (K P) (X r18 r27 P)).take n)))
noncomputable abbrev pw := PySem.Challenge.pw_rx0053_01
noncomputable abbrev bE : List Stmt := behindTheImports pw
noncomputable abbrev en : Env := { scope := pw.main.scope, locals := mainNs, globals := mainNs, cells := [], code := .ref 30, frame := some 31 }
noncomputable abbrev cE : Code := .body bE en
noncomputable abbrev B : List Frame := [topFrame ⟨0, 0, 0, 0⟩]
noncomputable abbrev S0 (r18 r27 : Obj) (w : World) (os : OsState) : SharedT := ⟨T 28 10 (.str "__main__" 164) 0 r18 r27 w.params, 28, {}, #[], {}, 276, os⟩
noncomputable abbrev Sa (r18 r27 : Obj) (w : World) (os : OsState) : SharedT := ⟨T 32 10 (.str "__main__" 164) 0 r18 r27 w.params, 32, {}, #[], {}, 282, os⟩
noncomputable abbrev S9 (r18 r27 : Obj) (w : World) (os : OsState) : SharedT := ⟨T 72 16 (.str "re" 367) 15 r18 r27 w.params, 72, {}, #[], {}, 369, os⟩
noncomputable abbrev S10 (r18 r27 : Obj) (w : World) (os : OsState) : SharedT := ⟨T 77 17 (.str "re" 367) 15 r18 r27 w.params, 77, {}, #[], {}, 515, os⟩
noncomputable abbrev Sf (r18 r27 : Obj) (w : World) (os : OsState) : SharedT := ⟨T 202 51 (.str "law_rx0053_01" 641) 999 r18 r27 w.params, 202, {}, #[], {}, 729, os⟩
noncomputable abbrev wF (a b : Bool) (w : World) : World := (w.withFollow "special-get-raises" a).withFollow "comprehension-iter-twice" b
noncomputable abbrev go9 (r18 r27 : Obj) (w : World) (os : OsState) : Prop := segRunT treeTable pw w 28 (some (.ref 6)) 1 400 (Sa r18 r27 w os) (piecesOf (bE.take 9) en cE ⟨0, 0, 0, 0⟩ B) = some (.next, S9 r18 r27 w os, cE, ⟨21, 0, 21, 8⟩)
noncomputable abbrev go10 (r18 r27 : Obj) (w : World) (os : OsState) : Prop := segRunT treeTable pw w 28 (some (.ref 6)) 1 1300 (S9 r18 r27 w os) (piecesOf ((bE.drop 9).take 1) en cE ⟨21, 0, 21, 8⟩ B) = some (.next, S10 r18 r27 w os, cE, ⟨22, 0, 22, 18⟩)
noncomputable abbrev goF (r18 r27 : Obj) (w : World) (os : OsState) : Prop := segRunT treeTable pw w 28 (some (.ref 6)) 1 1200 (S10 r18 r27 w os) (piecesOf (bE.drop 10) en cE ⟨22, 0, 22, 18⟩ B) = some (.next, Sf r18 r27 w os, cE, ⟨234, 0, 249, 112⟩)
noncomputable def blank (h : Heap) : Heap := { h with objs := (((h.objs.toList.set 18 default).set 27 default).toArray) }
theorem op (w : World) : (fencedOpening treeTable pw w 4762).map (fun s => (blank s.heap, s.gens, s.drawn, s.toks)) = some ((S0 default default w {}).abs.heap, #[], {}, 276) := by kernel_rfl
theorem sz1 (r18 r27 : Obj) (w : World) (os : OsState) : ((S0 r18 r27 w os).abs.heap.isNs mainGlobals && (S0 r18 r27 w os).abs.gens.size == 0) = true := by kernel_rfl
theorem sz2 (r18 r27 : Obj) (w : World) (os : OsState) : (S0 r18 r27 w os).abs.heap.objs.size = 28 := by kernel_rfl
theorem sz3 (r18 r27 : Obj) (w : World) (os : OsState) : (S0 r18 r27 w os).abs.heap.nsMap mainGlobals "__annotations__" = some (.ref 6) := by kernel_rfl
theorem gP (r18 r27 : Obj) (w : World) (os : OsState) : topGo treeTable pw w 28 (some (.ref 6)) 12 (S0 r18 r27 w os).abs (topStub pw) = some ((Sa r18 r27 w os).abs, ⟨denote treeTable cE, cE, ⟨0, 0, 0, 0⟩, B⟩) := by kernel_rfl
theorem gB (r18 r27 : Obj) (w : World) (os : OsState) : segRun treeTable pw w 28 (some (.ref 6)) 1 1 (Sa r18 r27 w os).abs (blockOf bE en cE ⟨0, 0, 0, 0⟩ B) = some (.next, (Sa r18 r27 w os).abs, cE, ⟨0, 0, 0, 0⟩) := by kernel_rfl
theorem g9 (r18 r27 : Obj) (w : World) (os : OsState) : go9 r18 r27 w os := by kernel_rfl
theorem g00 (r18 r27 : Obj) (w : World) (os : OsState) : go10 r18 r27 (wF false false w) os := by kernel_rfl
theorem g01 (r18 r27 : Obj) (w : World) (os : OsState) : go10 r18 r27 (wF false true w) os := by kernel_rfl
theorem g10 (r18 r27 : Obj) (w : World) (os : OsState) : go10 r18 r27 (wF true false w) os := by kernel_rfl
theorem g11 (r18 r27 : Obj) (w : World) (os : OsState) : go10 r18 r27 (wF true true w) os := by kernel_rfl
theorem gF (r18 r27 : Obj) (w : World) (os : OsState) : goF r18 r27 w os := by kernel_rfl
theorem gE (r18 r27 : Obj) (w : World) (os : OsState) : topRun treeTable pw w 28 (some (.ref 6)) 1849 (Sf r18 r27 w os).abs ⟨doneF .next, cE, ⟨234, 0, 249, 112⟩, B⟩ = some (Sf r18 r27 w os).abs := by kernel_rfl
theorem lk1 (r18 r27 : Obj) (w : World) (os : OsState) : (staticsOk (importedModules pw.main.body) (S0 r18 r27 w os).abs.heap (Sf r18 r27 w os).abs.heap && namesBound pw (Sf r18 r27 w os).abs.heap && gensDone (Sf r18 r27 w os).abs && laidKept (S0 r18 r27 w os).abs.heap (Sf r18 r27 w os).abs.heap) = true := by kernel_rfl
theorem lk2 (r18 r27 : Obj) (w : World) (os : OsState) : sees (Sf r18 r27 w os).abs = told w := by kernel_rfl
theorem gX (r18 r27 : Obj) (w : World) (os : OsState) : go10 r18 r27 w os :=
  byRow2 (P := fun w => go10 r18 r27 w os) "comprehension-iter-twice"
    (fun w => byRow2 (P := fun w => go10 r18 r27 (w.withFollow "comprehension-iter-twice" false) os) "special-get-raises" (fun w => g00 r18 r27 w os) (fun w => g10 r18 r27 w os) w)
    (fun w => byRow2 (P := fun w => go10 r18 r27 (w.withFollow "comprehension-iter-twice" true) os) "special-get-raises" (fun w => g01 r18 r27 w os) (fun w => g11 r18 r27 w os) w) w
theorem cutB : bE = bE.take 9 ++ ((bE.drop 9).take 1 ++ (bE.drop 10 ++ [])) := by kernel_rfl
theorem gT (r18 r27 : Obj) (w : World) (os : OsState) : topRun treeTable pw w 28 (some (.ref 6)) 4762 (S0 r18 r27 w os).abs (topStub pw) = some (Sf r18 r27 w os).abs := by
  have k3 := piece_app (segRun_of (gF r18 r27 w os)) (piece_nil (env := en) (gE r18 r27 w os))
  have k2 := piece_app (segRun_of (gX r18 r27 w os)) k3
  have k1 := piece_app (segRun_of (g9 r18 r27 w os)) k2
  have k0 := piece_block (gB r18 r27 w os) ((congrArg (fun b => topRun treeTable pw w 28 (some (.ref 6)) (400 + (1300 + (1200 + 1849))) (Sa r18 r27 w os).abs (restOf b en cE ⟨0, 0, 0, 0⟩ B)) cutB).trans k1)
  exact (congrArg (fun n => topRun treeTable pw w 28 (some (.ref 6)) n (S0 r18 r27 w os).abs (topStub pw)) (by decide : 4762 = 12 + (1 + (400 + (1300 + (1200 + 1849)))))).trans (go_top (gP r18 r27 w os) k0)
noncomputable abbrev L0 (r18 r27 : Obj) (P : Params) : List Obj := (T 28 10 (.str "__main__" 164) 0 r18 r27 P).list 28
theorem lst (r18 r27 : Obj) (P : Params) : L0 r18 r27 P = ((L0 default default P).set 18 r18).set 27 r27 := by kernel_rfl
theorem len (P : Params) : (L0 default default P).length = 28 := by kernel_rfl
theorem unset {l : List Obj} (h1 : 18 < l.length) (h2 : 27 < l.length) (d : Obj) : ((((l.set 18 d).set 27 d).set 18 l[18]).set 27 l[27]) = l := by
  refine List.ext_getElem (by simp only [List.length_set]) fun i a b => ?_
  simp only [List.getElem_set]
  split
  · subst_vars; rfl
  · split
    · subst_vars; rfl
    · rfl
theorem unbl {h : Heap} {P : Params} (e : blank h = absHeap (T 28 10 (.str "__main__" 164) 0 default default P) 28 {}) : ∃ r18 r27, h = absHeap (T 28 10 (.str "__main__" 164) 0 r18 r27 P) 28 {} := by
  obtain ⟨⟨l⟩, life⟩ := h
  have e1 : (l.set 18 default).set 27 default = L0 default default P := congrArg (fun x : Heap => x.objs.toList) e
  have e2 : life = {} := congrArg Heap.life e
  have n : l.length = 28 := by
    have z := congrArg List.length e1
    simp only [List.length_set] at z
    exact z.trans (len P)
  have n1 : 18 < l.length := by omega
  have n2 : 27 < l.length := by omega
  refine ⟨l[18], l[27], ?_⟩
  show Heap.mk (List.toArray l) life = Heap.mk (List.toArray (L0 l[18] l[27] P)) {}
  rw [lst, ← e1, unset n1 n2, e2]
theorem tF (r18 r27 : Obj) (w : World) (os : OsState) : topFrom treeTable pw w 4762 (S0 r18 r27 w os).abs = some (Sf r18 r27 w os).abs := by
  unfold topFrom
  rw [sz1, sz2, sz3, gT, Option.bind_some, lk1]
theorem fO (w : World) : ∃ r18 r27 os, fencedOpening treeTable pw w 4762 = some (S0 r18 r27 w os).abs := by
  obtain ⟨⟨h, gs, d, k, os⟩, hs, e⟩ := Option.map_eq_some_iff.mp (op w)
  simp only [Prod.mk.injEq] at e
  obtain ⟨e1, rfl, rfl, rfl⟩ := e
  obtain ⟨r18, r27, rfl⟩ := unbl e1
  exact ⟨r18, r27, os, hs⟩
theorem oE (w : World) : ∃ r18 r27 os, openEnds treeTable pw w 4762 = some (Sf r18 r27 w os).abs := by
  obtain ⟨r18, r27, os, hs⟩ := fO w
  refine ⟨r18, r27, os, ?_⟩
  unfold openEnds
  rw [hs, Option.bind_some, tF]
theorem hl : LeftO PySem.Challenge.pw_rx0053_01 q looseT (fun s => xlAt q lvT s && recOk (RowW.records (OpenRow.toRowW PySem.Challenge.rw_rx0053_01.row)) s) (Hook.obs HK) (Hook.val HK) 4762 := fun w => by
  obtain ⟨r18, r27, os, hs⟩ := oE w
  exact (congrArg (Option.map sees) hs).trans (congrArg some (lk2 r18 r27 w os))
end Hp
noncomputable def lawD : DefRec := { name := Str.ofString "law", params := p47, body := b47, scope := s47, pos := { line := 234, col := 0, endLine := 249, endCol := 112 } }
theorem wellSaid : PySem.Challenge.rw_rx0053_01.wellSaid = true := by
  unfold OpenLaw.wellSaid OpenRow.wellSaid OpenRow.partSaid looksOpen
  repeat' (with_reducible refine look_both ?_ ?_)
  all_goals decide +kernel
theorem defLaw : defOf q PySem.Challenge.rw_rx0053_01.row.name = some (lawD, []) := by kernel_rfl
theorem theLaw : PySem.Challenge.pw_rx0053_01.theDef PySem.Challenge.rw_rx0053_01.row.name = some (lawD.params, lawD.body, lawD.scope) := by kernel_rfl
theorem okLaw : (chainsOk q && opensWell PySem.Challenge.pw_rx0053_01 && (frees PySem.Challenge.rw_rx0053_01.row.toRowW && PySem.Challenge.rw_rx0053_01.row.within.isEmpty)) = true := by kernel_rfl
theorem hd (walk : WalkO q looseT (XL q lvT) (kmHook K asT asE [85]).says PySem.Challenge.rw_rx0053_01.row.toRowW lawD [] (fun f vs => PySem.call f vs)) : PySem.Challenge.rw_rx0053_01.Holds := by
  refine holds_law wellSaid fun said => ?_
  refine holds_open (q := q) (loose := looseT) (Xt := fun s => xlAt q lvT s && recOk (RowW.records (OpenRow.toRowW PySem.Challenge.rw_rx0053_01.row)) s) (XP := XL q lvT) (Yf := Hook.obs HK) (Ya := Hook.val HK) (YP := Hook.says HK) (N := 4762) Hp.hl (Hook.of HK) (Hook.keeps HK) (fun s e => xl_of s (Bool.and_eq_true_iff.mp e).1) XL.keeps defLaw theLaw (by rfl) (fun s e => recFacts_of (Bool.and_eq_true_iff.mp e).2) (by rfl) said okLaw ⟨rfl, rfl, rfl, rfl, rfl, by decide +kernel⟩ ?hw walk
  case hw => w_witness2
end Mine
end
section
open PySem PySem.W PyProof.Rows PySem.Calls PySem.Spec
set_option maxRecDepth 100000
namespace Mine


noncomputable abbrev ar (dp un : Nat) (gd : Option (List Code)) (outer : List Env) : Around :=
  { handled := none, depth := dp, frames := some outer, guards := gd, units := un }

noncomputable def Kept (h h' : Heap) : Prop := ∀ b o, h.get? b = some o → h'.get? b = some o

noncomputable def Fn (w : World) (n : Nat) (f : Addr) (args : List Value) (Pre : Heap → Prop) (Post : Value → Heap → Heap → Prop) : Prop :=
  ∀ (dp un : Nat) (gd : Option (List Code)) (outer : List Env) (base : Heap) (s : Shared) (Q E : Value → Shared → Prop)
    (loose : List Str) (mean : ExcName → Option Value) (mg mb : Str → Option Value),
    dp + n < recursionLimit → un + 10 * n < cLine →
    Below (ar dp un gd outer) base outer s.heap → (Mine.K w.params).In s.heap → Top topProg loose mean mg mb s.heap → Pre s.heap →
    (∀ v h' tk', Kept s.heap h' → Post v s.heap h' → Q v { s with heap := h', toks := tk' }) →
    wpAny (model PySem.Challenge.pw_rx0053_01 w) (ar dp un gd outer) (call (.ref f) args) Q E s

noncomputable def Halt (P : Prop) : Prop := P
theorem Halt.out {P : Prop} (h : Halt P) : P := h
theorem Halt.out' {P : Prop} (h : P) : Halt P := h
theorem haltM {P m : Prop} (_ : m) (h : Halt P) : P := h
section
variable {M : Model} {A : Around} {E : Value → Shared → Prop} {s : Shared} {Q : Value → Shared → Prop}
theorem haltST {value slice : PySem.Expr} {x : Str} {t u : Tok} {i : Int} (h : Halt (wpAny M A (subscriptTail value slice (.str x t) (.int i u)) Q E s)) : wpAny M A (subscriptTail value slice (.str x t) (.int i u)) Q E s := h
theorem haltLen {a : Addr} (h : Halt (wpAny M A (call (.builtin "len") [.ref a]) Q E s)) : wpAny M A (call (.builtin "len") [.ref a]) Q E s := h
theorem haltGM {n : Str} {pl : Sem Bool} {R : Value × List Value → Shared → Prop} (h : Halt (wpAny M A (getMethod (.ref 64) n pl) R E s)) : wpAny M A (getMethod (.ref 64) n pl) R E s := h
theorem haltCW {u l : Addr} {pos : Pos} {f : List Value} {a : List (Bool × Sem Value)} {k : List (Option Str × Sem Value)} (_ : @Ne Nat l u) (h : Halt (wpAny M A (callWith pos (.ref u) f a k) Q E s)) : wpAny M A (callWith pos (.ref u) f a k) Q E s := h
theorem haltWI {p : Prop} [Decidable p] {x y : Prop} (h : Halt (WhlIf (decide p) x y)) : WhlIf (decide p) x y := h
theorem haltLE {a j : Str} {n : Nat} {P : Prop} (_ : j.length ≤ 1000) (h : Halt ((a ++ j).length ≤ n ∧ P)) : (a ++ j).length ≤ n ∧ P := h
theorem haltLE2 {a j b : Str} {n : Nat} {P : Prop} (_ : j.length ≤ 1000) (h : Halt ((a ++ j ++ b).length ≤ n ∧ P)) : (a ++ j ++ b).length ≤ n ∧ P := h
end
noncomputable def CutQ (M : Model) (A : Around) (rest : List Stmt) (env : Env) (Q : Flow → Shared → Prop) (E : Value → Shared → Prop) (q : Flow → Shared → Prop) : Prop :=
  (∀ s, wpAny M A (execs rest env) Q E s → q .next s) ∧ ∀ f s, f ≠ .next → Q f s → q f s
section
variable {M : Model} {A : Around} {st : Stmt} {rest : List Stmt} {env : Env} {Q q : Flow → Shared → Prop} {E : Value → Shared → Prop} {s : Shared} {v : Value}
theorem cons_cut (h : ∀ q, CutQ M A rest env Q E q → wpAny M A (exec st env) q E s) : wpAny M A (execs (st :: rest) env) Q E s :=
  wpAny_execs_cons (h _ ⟨fun _ h => h, fun f _ hf h => by cases f <;> first | exact h | exact absurd rfl hf⟩)
theorem one_cut (h : wpAny M A (exec st env) Q E s) : wpAny M A (execs [st] env) Q E s :=
  wpAny_execs_cons (wpAny_mono h (fun f _ h => by cases f <;> first | exact wpAny_execs_nil h | exact h) fun _ _ e => e)
theorem cons_cut5 (g : Array GenState) (d : Drawn) (o : OsState) {h : Heap} {t : Nat} (k : ∀ tk q, CutQ M A rest env Q E q → wpAny M A (exec st env) q E ⟨h, g, d, tk, o⟩) : wpAny M A (execs (st :: rest) env) Q E ⟨h, g, d, t, o⟩ := cons_cut (k t)
theorem one_cut5 (g : Array GenState) (d : Drawn) (o : OsState) {h : Heap} {t : Nat} (k : ∀ tk, wpAny M A (exec st env) Q E ⟨h, g, d, tk, o⟩) : wpAny M A (execs [st] env) Q E ⟨h, g, d, t, o⟩ := one_cut (k t)
theorem CutQ.next (c : CutQ M A rest env Q E q) (h : wpAny M A (execs rest env) Q E s) : q .next s := c.1 s h
theorem CutQ.ret (c : CutQ M A rest env Q E q) (h : Q (.ret v) s) : q (.ret v) s := c.2 _ s nofun h
theorem CutQ.brk (c : CutQ M A rest env Q E q) (h : Q .brk s) : q .brk s := c.2 _ s nofun h
theorem CutQ.cont (c : CutQ M A rest env Q E q) (h : Q .cont s) : q .cont s := c.2 _ s nofun h
end

noncomputable def EndQ (Q : Value → Shared → Prop) (q : Flow → Shared → Prop) : Prop := (∀ v s, Q v s → q (.ret v) s) ∧ ∀ s, Q .none s → q .next s
theorem EndQ.ret {Q : Value → Shared → Prop} {q : Flow → Shared → Prop} {v : Value} {s : Shared} (c : EndQ Q q) (h : Q v s) : q (.ret v) s := c.1 v s h
theorem EndQ.next {Q : Value → Shared → Prop} {q : Flow → Shared → Prop} {s : Shared} (c : EndQ Q q) (h : Q .none s) : q .next s := c.2 s h
section
variable {prog : Program} {w : World} {s : Shared} {base : Heap} {outer : List Env} {K : Frag} {dp un : Nat} {gd : Option (List Code)}
  {R : Result → Shared → Prop} {name qual : Str} {params : Arguments} {body : List Stmt} {scope : Scope} {dV kV doc pm cdv ct oc : Value} {an od : Option Addr} {osl : Array (Option Value)} {f : Addr} {args : Args} {binds : List (Str × Value)}
  {loose : List Str} {mean : ExcName → Option Value} {mg mb : Str → Option Value} {p : Program}

noncomputable def lk : List (Str × Value) → Str → Option Value
  | [] => fun _ => none
  | (x, v) :: r => fun y => if y = x then some v else lk r y
theorem lk_eq : ∀ l : List (Str × Value), (fun y => l.lookup y) = lk l
  | [] => rfl
  | (x, v) :: r => by
    funext y
    rw [List.lookup_cons]
    show _ = if y = x then some v else lk r y
    rw [← lk_eq r]
    by_cases h : y = x
    · rw [if_pos h, h]; simp
    · rw [if_neg h]
      have : (y == x) = false := by simpa using h
      rw [this]

theorem enter_plain (X : K.In s.heap) (T : Top p loose mean mg mb s.heap)
    (ho : K.lookup f = some ⟨oc, od, .func (fnOf name qual params body scope dV kV doc pm an cdv ct), osl⟩) (hcd : codeIn K cdv qual = true) (hroom : dp < recursionLimit)
    (hbind : BindsTo s (fnOf name qual params body scope dV kV doc pm an cdv ct) args binds) (hloc : ∀ y ∈ binds, scope.names.lookup y.1 = some .local)
    (h : ∀ L' h₁, Fr s.heap L' h₁ (lk binds.reverse) → News s.heap L' h₁ [] →
      wpAny (model prog w) ((ar dp un gd outer).deeper (envOf qual scope L' f cdv)) (execs body (envOf qual scope L' f cdv))
        (fun fl s' => R (.ok (.ret (match fl with | .ret v => v | _ => .none))) s')
        (fun e s' => wpAny (model prog w) ((ar dp un gd outer).deeper (envOf qual scope L' f cdv)) (leaving (envOf qual scope L' f cdv) e) (fun _ s'' => R (.error e) s'') (fun e' s'' => R (.error e') s'') s')
        { s with heap := h₁, toks := s.toks + binds.length })
    (hcell : ∀ x ∈ scope.names, x.2 ≠ .cell) (hco : scope.isCoroutine = false) (hgen : scope.isGenerator = false) (hk : scope.kind = .function) :
    codeAny (model prog w) (ar dp un gd outer) (.call (.ref f) args) R s := by
  refine codeAny_call_def (fd := fnOf name qual params body scope dV kV doc pm an cdv ct) (body := body) (binds := binds) hroom (X _ _ ho) rfl T.nolimit (codeRec_of X hcd) rfl hbind hcell hloc (fun h₁ hns hk₁ => ?_) hco hgen hk
  exact h _ h₁ ⟨by rw [← lk_eq]; exact hns, hk₁, Nat.le_refl _⟩ News.nil

theorem enter_cells (X : K.In s.heap) (T : Top p loose mean mg mb s.heap)
    (ho : K.lookup f = some ⟨oc, od, .func (fnOf name qual params body scope dV kV doc pm an cdv ct), osl⟩) (hcd : codeIn K cdv qual = true) (hroom : dp < recursionLimit)
    (hbind : BindsTo s (fnOf name qual params body scope dV kV doc pm an cdv ct) args binds)
    (hkind : (binds.all fun y => scope.names.lookup y.1 == some .local || scope.names.lookup y.1 == some .cell) = true)
    (hnd : ((cellsFrom 0 scope.names []).map (·.1)).Nodup)
    (h : ∀ L' h₁ tk cells, Fr s.heap L' h₁ (bindL (envOfC qual scope L' f cdv).kindOf binds fun _ => none) → News s.heap L' h₁ cells →
      CellsAre (bindC (envOfC qual scope L' f cdv).kindOf binds fun _ => none) (cellsFrom (L' + 1) scope.names []) cells →
      wpAny (model prog w) ((ar dp un gd outer).deeper (envOfC qual scope L' f cdv)) (execs body (envOfC qual scope L' f cdv))
        (fun fl s' => R (.ok (.ret (match fl with | .ret v => v | _ => .none))) s')
        (fun e s' => wpAny (model prog w) ((ar dp un gd outer).deeper (envOfC qual scope L' f cdv)) (leaving (envOfC qual scope L' f cdv) e) (fun _ s'' => R (.error e) s'') (fun e' s'' => R (.error e') s'') s')
        { s with heap := h₁, toks := tk })
    (hco : scope.isCoroutine = false) (hgen : scope.isGenerator = false) (hk : scope.kind = .function) :
    codeAny (model prog w) (ar dp un gd outer) (.call (.ref f) args) R s := by
  refine codeAny_call_function hroom (X _ _ ho) rfl hco hgen rfl (codeRec_of X hcd) (hbind _ _ _ _ ?_)
  refine wpAny_newFunctionEnv_cells hk (kindsX hkind _) fun env' he s' x => ?_
  subst he
  refine ⟨T.nolimit.keeps x.toInCall.keep, codeAny_func ?_⟩
  obtain ⟨h₁, tk, rfl, _⟩ := x.done
  have hk₁ := x.toInCall.keep
  obtain ⟨cells, NC, Y⟩ := Cl.news (h₀ := s.heap) (Nat.le_refl _) fun n c hm => ⟨x.cell n c (lookup_of_mem_nodup (cellsFrom_names scope.names 0 (s.heap.objs.size + 1) [] [] rfl ▸ hnd) hm), x.above n c hm⟩
  exact h s.heap.objs.size h₁ tk cells ⟨x.toInCall.ns, hk₁, Nat.le_refl _⟩ (fun p hp => NC p hp) Y

theorem call_plain {f : Addr} {args : List Value} {Q E : Value → Shared → Prop} (X : K.In s.heap) (T : Top p loose mean mg mb s.heap)
    (ho : K.lookup f = some ⟨oc, od, .func (fnOf name qual params body scope dV kV doc pm an cdv ct), osl⟩) (hcd : codeIn K cdv qual = true) (hroom : dp < recursionLimit)
    (hbind : BindsTo s (fnOf name qual params body scope dV kV doc pm an cdv ct) ⟨args, []⟩ binds) (hloc : ∀ y ∈ binds, scope.names.lookup y.1 = some .local)
    (h : ∀ L' h₁ q e tk, EndQ Q q → PassesOwn (model prog w) ((ar dp un gd outer).deeper (envOf qual scope L' f cdv)) (envOf qual scope L' f cdv) e → Fr s.heap L' h₁ (lk binds.reverse) → News s.heap L' h₁ [] →
      wpAny (model prog w) ((ar dp un gd outer).deeper (envOf qual scope L' f cdv)) (execs body (envOf qual scope L' f cdv)) q e { s with heap := h₁, toks := tk })
    (hcell : ∀ x ∈ scope.names, x.2 ≠ .cell) (hco : scope.isCoroutine = false) (hgen : scope.isGenerator = false) (hk : scope.kind = .function) :
    wpAny (model prog w) (ar dp un gd outer) (call (.ref f) args) Q E s :=
  wpAny_call (enter_plain X T ho hcd hroom hbind hloc (fun L' h₁ F N => h L' h₁ _ _ _ ⟨fun _ _ x => x, fun _ x => x⟩ PassesOwn.leaving F N) hcell hco hgen hk)
theorem call_cells {f : Addr} {args : List Value} {Q E : Value → Shared → Prop} (X : K.In s.heap) (T : Top p loose mean mg mb s.heap)
    (ho : K.lookup f = some ⟨oc, od, .func (fnOf name qual params body scope dV kV doc pm an cdv ct), osl⟩) (hcd : codeIn K cdv qual = true) (hroom : dp < recursionLimit)
    (hbind : BindsTo s (fnOf name qual params body scope dV kV doc pm an cdv ct) ⟨args, []⟩ binds)
    (hkind : (binds.all fun y => scope.names.lookup y.1 == some .local || scope.names.lookup y.1 == some .cell) = true)
    (hnd : ((cellsFrom 0 scope.names []).map (·.1)).Nodup)
    (h : ∀ L' h₁ q e tk cells, EndQ Q q → PassesOwn (model prog w) ((ar dp un gd outer).deeper (envOfC qual scope L' f cdv)) (envOfC qual scope L' f cdv) e → Fr s.heap L' h₁ (bindL (envOfC qual scope L' f cdv).kindOf binds fun _ => none) → News s.heap L' h₁ cells →
      CellsAre (bindC (envOfC qual scope L' f cdv).kindOf binds fun _ => none) (cellsFrom (L' + 1) scope.names []) cells →
      wpAny (model prog w) ((ar dp un gd outer).deeper (envOfC qual scope L' f cdv)) (execs body (envOfC qual scope L' f cdv)) q e { s with heap := h₁, toks := tk })
    (hco : scope.isCoroutine = false) (hgen : scope.isGenerator = false) (hk : scope.kind = .function) :
    wpAny (model prog w) (ar dp un gd outer) (call (.ref f) args) Q E s :=
  wpAny_call (enter_cells X T ho hcd hroom hbind hkind hnd (fun L' h₁ tk cells F N Y => h L' h₁ _ _ tk cells ⟨fun _ _ x => x, fun _ x => x⟩ PassesOwn.leaving F N Y) hco hgen hk)
end

section
variable {w : World} {n : Nat} {f : Addr} {args : List Value} {Pre : Heap → Prop} {Post : Value → Heap → Heap → Prop}
  {s : Shared} {h₀ base : Heap} {outer : List Env} {L : Addr} {m : Str → Option Value} {env : Env} {nws : List (Addr × Obj)} {A₀ : Around}
  {loose : List Str} {mean : ExcName → Option Value} {mg mb : Str → Option Value} {Q E : Value → Shared → Prop} {dp un : Nat} {gd : Option (List Code)}

theorem Kept.fr {h h' : Heap} (k : Kept h h') (F : Fr h₀ L h m) : Fr h₀ L h' m := by
  obtain ⟨oL, a1, a2, hL, a3⟩ := F.ns
  exact ⟨⟨oL, a1, a2, k _ _ hL, a3⟩, fun b o e => k _ _ (F.keep b o e), F.above⟩
theorem Kept.nw {h h' : Heap} (k : Kept h h') (N : News h₀ L h nws) : News h₀ L h' nws :=
  fun p hp => ⟨k _ _ (N p hp).1, (N p hp).2.1, (N p hp).2.2⟩
theorem Kept.new {h h' : Heap} (F : Fr h₀ L h m) (k : Kept h h') (N : News h₀ L h nws) {a : Addr} {o : Obj} (hn : h.get? a = none) (ho : h'.get? a = some o) : News h₀ L h' ((a, o) :: nws) := by
  obtain ⟨oL, a1, a2, hL, a3⟩ := F.ns
  intro p hp
  rcases List.mem_cons.mp hp with rfl | hp
  · refine ⟨ho, fun q => ?_, ?_⟩
    · have q' : a = L := q
      rw [q', hL] at hn; cases hn
    · cases q : h₀.get? a with
      | none => rfl
      | some o' => rw [F.keep _ _ q] at hn; cases hn
  · exact Kept.nw k N p hp

theorem Fn.use (S : Fn w n f args Pre Post) (B : Below A₀ base outer h₀) (F : Fr h₀ L s.heap m) (X : (Mine.K w.params).In h₀) (N : News h₀ L s.heap nws) (T : Top topProg loose mean mg mb h₀)
    (hf : env.frame = some L) (hk : env.scope.kind = .function) (hd : dp + n < recursionLimit) (hu : un + 10 * n < cLine) (hpre : Pre s.heap)
    (h : ∀ v h' tk', Fr h₀ L h' m → News h₀ L h' nws → Kept s.heap h' → Post v s.heap h' → Q v { s with heap := h', toks := tk' }) :
    wpAny (model PySem.Challenge.pw_rx0053_01 w) (ar dp un gd (env :: outer)) (call (.ref f) args) Q E s :=
  S dp un gd (env :: outer) base s Q E loose mean mg mb hd hu
    (by
      have b := pushX B F hf hk
      exact ⟨rfl, b.stays, b.frames⟩)
    (X.keeps F.keep) (T.keeps F.keep) hpre fun v h' tk' k p => h v h' tk' (Kept.fr k F) (Kept.nw k N) k p
theorem Fn.use' {k : Nat} (S : Fn w n f args Pre Post) (B : Below (ar dp un gd outer) base outer h₀) (F : Fr h₀ L s.heap m) (X : (Mine.K w.params).In h₀) (N : News h₀ L s.heap nws) (T : Top topProg loose mean mg mb h₀)
    (hf : env.frame = some L) (hk : env.scope.kind = .function) (hd : dp + k < recursionLimit) (hu : un + 10 * k < cLine) (hn : n + 1 ≤ k) (hpre : Pre s.heap)
    (h : ∀ v h' tk', Fr h₀ L h' m → News h₀ L h' nws → Kept s.heap h' → Post v s.heap h' → Q v { s with heap := h', toks := tk' }) :
    wpAny (model PySem.Challenge.pw_rx0053_01 w) ((ar dp un gd outer).deeper env) (call (.ref f) args) Q E s :=
  S (dp + 1) (un + 3) gd (env :: outer) base s Q E loose mean mg mb (by omega) (by omega)
    (by
      have b := pushX B F hf hk
      exact ⟨rfl, b.stays, b.frames⟩)
    (X.keeps F.keep) (T.keeps F.keep) hpre fun v h' tk' k p => h v h' tk' (Kept.fr k F) (Kept.nw k N) k p
end
theorem jnil20 {M : Model} {A : Around} {Q E : Value → Shared → Prop} {s : Shared} {env : Env} {out : Str} (hsz : out.length ≤ 20) (h : Q (.str out s.toks) { s with toks := s.toks + 1 }) :
    wpAny M A (joinParts out (evalEach [] env)) Q E s :=
  joinParts_nilE (joinParts_nil h (Nat.le_trans hsz (by decide)))
end Mine
end
section
open PySem PySem.W PyProof.Rows PySem.Calls PySem.Spec
set_option maxRecDepth 100000
set_option maxHeartbeats 8000000
namespace Mine
noncomputable def Tab (h : Heap) : Prop := ∃ ps, h.get? 85 = some (tabObj ps) ∧ TriplesOk ps.toList
noncomputable def KeptT (h h' : Heap) : Prop := ∀ b o, b ≠ 85 → h.get? b = some o → h'.get? b = some o
noncomputable abbrev hide1 (h : Heap) : Heap := hideAll h [85]
theorem hide1_get {h : Heap} {b : Addr} {o : Obj} (hb : b ≠ 85) (e : h.get? b = some o) : (hide1 h).get? b = some o := hideAll_get _ e (by simpa using hb)
theorem hide1_of {h : Heap} {b : Addr} {o : Obj} (e : (hide1 h).get? b = some o) : h.get? b = some o := of_hideAll _ e
theorem hide1_none {h : Heap} : (hide1 h).get? 85 = none := hideAll_none _ (by simp)
theorem hide1_ne {h : Heap} {b : Addr} {o : Obj} (e : (hide1 h).get? b = some o) : b ≠ 85 := fun q => by rw [q, hide1_none] at e; cases e
theorem hide1_obj {h : Heap} {ps : Array Value} {b : Addr} {o : Obj} (hp : h.get? 85 = some (tabObj ps)) (e : h.get? b = some o) (hn : o.cls ≠ .none ∨ ∀ vs, o.data ≠ .fields vs) : (hide1 h).get? b = some o :=
  hide1_get (fun q => by
    rw [q, hp] at e; cases e
    rcases hn with hn | hn
    · exact hn rfl
    · exact hn _ rfl) e
theorem Frm.ne85 {h₀ h : Heap} {L : Addr} {m : Str → Option Value} {ps : Array Value} (F : Fr h₀ L h m) (hp : h.get? 85 = some (tabObj ps)) : L ≠ 85 := fun q => by
  obtain ⟨oL, a1, a2, hL, hd, r⟩ := F.ns
  rw [q, hp] at hL
  cases hL
  cases hd
noncomputable def FnT (w : World) (n : Nat) (f : Addr) (args : List Value) (Pre : Heap → Prop) (Post : Value → Heap → Heap → Prop) : Prop :=
  ∀ (dp un : Nat) (gd : Option (List Code)) (outer : List Env) (base : Heap) (s : Shared) (Q E : Value → Shared → Prop)
    (loose : List Str) (mean : ExcName → Option Value) (mg mb : Str → Option Value),
    dp + n < recursionLimit → un + 10 * n < cLine → base.get? 85 = none →
    Below (ar dp un gd outer) base outer s.heap → (Mine.K w.params).In s.heap → Top topProg loose mean mg mb s.heap → Tab s.heap → AllBare s.gens → Pre s.heap →
    (∀ v s', KeptT s.heap s'.heap → Tab s'.heap → AllBare s'.gens → s'.os = s.os → Post v s.heap s'.heap → Q v s') →
    wpAny (model PySem.Challenge.pw_rx0053_01 w) (ar dp un gd outer) (call (.ref f) args) Q E s
section
variable {w : World} {n : Nat} {f : Addr} {args : List Value} {Pre : Heap → Prop} {Post : Value → Heap → Heap → Prop}
  {s : Shared} {h₀ base h : Heap} {outer : List Env} {L : Addr} {m : Str → Option Value} {env : Env} {nws : List (Addr × Obj)} {A₀ : Around}
  {loose : List Str} {mean : ExcName → Option Value} {mg mb : Str → Option Value} {Q E : Value → Shared → Prop} {dp un : Nat} {gd : Option (List Code)}
theorem KeptT.fr {h h' : Heap} (k : KeptT h h') (F : Fr h₀ L h m) (hn : h₀.get? 85 = none) (t : Tab h) : Fr h₀ L h' m := by
  obtain ⟨ps, hp, _⟩ := t
  have hL := Frm.ne85 F hp
  obtain ⟨oL, a1, a2, e, a3⟩ := F.ns
  exact ⟨⟨oL, a1, a2, k _ _ hL e, a3⟩, fun b o e => k _ _ (fun q => by rw [q, hn] at e; cases e) (F.keep b o e), F.above⟩
theorem KeptT.nw {h h' : Heap} (k : KeptT h h') (N : News h₀ L h nws) (hn : ∀ p ∈ nws, p.1 ≠ 85) : News h₀ L h' nws :=
  fun p hp => ⟨k _ _ (hn p hp) (N p hp).1, (N p hp).2.1, (N p hp).2.2⟩
theorem fr_hide {h₁ : Heap} (F : Fr s.heap L h₁ m) : Fr (hide1 s.heap) L h₁ m := ⟨F.ns, fun b o e => F.keep b o (hide1_of e), Nat.le_trans (Nat.le_of_eq (hideAll_size _ _)) F.above⟩
theorem news_hide {h₁ : Heap} {ps : Array Value} (F : Fr s.heap L h₁ m) (hp : s.heap.get? 85 = some (tabObj ps)) : News (hide1 s.heap) L h₁ [(85, tabObj ps)] := fun p hm => by
  rw [List.mem_singleton.mp hm]
  exact ⟨F.keep _ _ hp, (Frm.ne85 F (F.keep _ _ hp)).symm, hide1_none⟩
theorem in_hide {K : Frag} (X : K.In h) (hK : K.lookup 85 = none) : K.In (hide1 h) := fun a o e => hide1_get (fun q => by rw [q, hK] at e; cases e) (X a o e)
theorem ns_hide {a : Addr} {mm : Str → Option Value} {ps : Array Value} (hp : h.get? 85 = some (tabObj ps)) (x : h.Ns a mm) : (hide1 h).Ns a mm :=
  let ⟨o, es, ep, e, hd, r⟩ := x; ⟨o, es, ep, hide1_obj hp e (.inr fun vs q => by rw [hd] at q; cases q), hd, r⟩
theorem top_hide {ps : Array Value} (hp : h.get? 85 = some (tabObj ps)) (T : Top topProg loose mean mg mb h) : Top topProg loose mean mg mb (hide1 h) where
  g := ns_hide hp T.g
  b := ns_hide hp T.b
  nolimit := let ⟨mc, a, r⟩ := T.nolimit; ⟨mc, ns_hide hp a, r⟩
  nodigits := let ⟨mc, a, r⟩ := T.nodigits; ⟨mc, ns_hide hp a, r⟩
  fn := fun d hd => absurd (show d ∈ ([] : List DefRec) from hd) List.not_mem_nil
  own := fun o ho => absurd (show o ∈ ([] : List OwnSpec) from ho) List.not_mem_nil
  const := T.const
  free := T.free
  builtins := T.builtins
  tab := fun d hd => absurd (show d ∈ ([] : List DefRec) from hd) List.not_mem_nil
  bmain := let ⟨bm, ob, a1, a2, a3, a4, r⟩ := T.bmain; ⟨bm, ob, a1, a2, hide1_obj hp a3 (.inl (by rw [a4]; simp)), a4, r⟩
  seer := fun e => absurd (show false = true from e) Bool.false_ne_true
theorem below_hide {ps : Array Value} (hp : h.get? 85 = some (tabObj ps)) (hb : base.get? 85 = none) (B : Below A₀ base outer h) : Below A₀ base outer (hide1 h) :=
  ⟨B.stack, fun b o e => hide1_get (fun q => by rw [q, hb] at e; cases e) (B.stays b o e), B.frames.of_keeps fun b o e hn => ⟨o, hide1_obj hp e (.inr hn), rfl⟩⟩
theorem tab_news (N : News h₀ L h nws) {ps : Array Value} (hm : (85, tabObj ps) ∈ nws) (ht : TriplesOk ps.toList) : Tab h := ⟨ps, (N _ hm).1, ht⟩
theorem keptT_fr (F : Fr (hide1 s.heap) L h m) : KeptT s.heap h := fun b o hb e => F.keep b o (hide1_get hb e)

theorem FnT.use' {k : Nat} {ps : Array Value} (S : FnT w n f args Pre Post) (B : Below (ar dp un gd outer) base outer h₀) (hb : base.get? 85 = none) (hn85 : h₀.get? 85 = none) (F : Fr h₀ L s.heap m) (X : (Mine.K w.params).In h₀) (N : News h₀ L s.heap ((85, tabObj ps) :: nws)) (hN : ∀ p ∈ nws, p.1 ≠ 85) (ht : TriplesOk ps.toList) (G : AllBare s.gens) (T : Top topProg loose mean mg mb h₀)
    (hf : env.frame = some L) (hk : env.scope.kind = .function) (hd : dp + k < recursionLimit) (hu : un + 10 * k < cLine) (hn : n + 1 ≤ k) (hpre : Pre s.heap)
    (h : ∀ v s' ps', Fr h₀ L s'.heap m → News h₀ L s'.heap ((85, tabObj ps') :: nws) → TriplesOk ps'.toList → AllBare s'.gens → s'.os = s.os → KeptT s.heap s'.heap → Post v s.heap s'.heap → Q v s') :
    wpAny (model PySem.Challenge.pw_rx0053_01 w) ((ar dp un gd outer).deeper env) (call (.ref f) args) Q E s := by
  have hp := (N (85, tabObj ps) (.head _)).1
  refine S (dp + 1) (un + 3) gd (env :: outer) base s Q E loose mean mg mb (by omega) (by omega) hb
    (by
      have b := pushX B F hf hk
      exact ⟨rfl, b.stays, b.frames⟩)
    (X.keeps F.keep) (T.keeps F.keep) ⟨ps, hp, ht⟩ G hpre fun v s' k t g o p => ?_
  obtain ⟨ps', hp', ht'⟩ := t
  refine h v s' ps' (KeptT.fr k F hn85 ⟨ps, hp, ht⟩) (fun q hq => ?_) ht' g o k p
  rcases List.mem_cons.mp hq with rfl | hq
  · exact ⟨hp', (N _ (.head _)).2.1, hn85⟩
  · exact KeptT.nw k (fun p hp => N p (.tail _ hp)) hN q hq
end
theorem codeHd_tr {w : World} {h : Heap} (X : (Mine.K w.params).In h) : CodeHd h 89 85 :=
  ⟨_, _, _, _, _, _, _, _, _, X 89 _ (by rfl), rfl, rfl, rfl, rfl, rfl, rfl, rfl, rfl, by decide⟩
end Mine
end
section
open PySem PySem.W PyProof.Rows PySem.Calls PySem.Spec
open Sem (wp)
open AutoSeq1 (wpAny_loadPart')
set_option maxRecDepth 100000
namespace Mine
section
variable {prog : Program} {w : World} {A : Around} {E : Value → Shared → Prop} {s : Shared}
theorem next_tup {it t : Addr} {i : Nat} {items : Array Value} {x : Value} {Q : Value → Shared → Prop} (hit : s.heap.IsTupleIter it t i)
    (ht : s.heap.IsTuple t items) (hx : items[i]? = some x)
    (hQ : ∀ h', h'.IsTupleIter it t (i + 1) → Heap.SameBut it s.heap h' → Q x { s with heap := h' }) :
    wpAny (model prog w) A (Builtin.SmallTypes.nextOf (.ref it)) Q E s := by
  obtain ⟨o, ho, hc, hd⟩ := id hit
  obtain ⟨ol, hol, _, nl, hdl⟩ := ht
  unfold Builtin.SmallTypes.nextOf
  refine wpAny_bind (wpAny_callSpecial?_slot (name := Str.ofString "__next__") hit.typeIs F.slot_tuple_iterator_next
    (wpAny_call_entry F.slot_tuple_iterator_next hit.typeIs F.entry_tuple_iterator_next ?_ (F.args_tuple_iterator_next_1 _)))
  show wpAny _ _ (field (.ref it) 0 >>= _) _ _ s
  refine wpAny_bind (wpAny_field ho hd (x := .ref t) rfl ?_)
  show wpAny _ _ (if (Value.ref t == Value.none) = true then _ else _) _ _ s
  rw [if_neg (show ¬ ((Value.ref t == Value.none) = true) from Bool.false_ne_true)]
  show wpAny _ _ (field (.ref it) 1 >>= _) _ _ s
  refine wpAny_bind (wpAny_field ho hd (x := .int i 0) rfl ?_)
  show wpAny _ _ (seqItems? (.ref t) >>= _) _ _ s
  refine wpAny_bind (wpAny_seqItems hol hdl ?_)
  simp only [Int.toNat_natCast, hx]
  refine wpAny_bind (wpAny_setField ho hd (by simp) (wpAny_pure ⟨x, rfl, wpAny_pure (hQ _ ?_ (Heap.SameBut.update ..))⟩))
  exact ⟨_, Heap.get?_update_self _ ho (Obj.isFreed_of_fields (Obj.data_mapFields hd _)), (Obj.cls_mapFields ..).trans hc, by
    rw [Obj.data_mapFields hd]; simp [rawInt]⟩
theorem next_tup_end {it t : Addr} {i : Nat} {items : Array Value} {Q : Value → Shared → Prop} (hh : A.handled = none)
    (hit : s.heap.IsTupleIter it t i) (ht : s.heap.IsTuple t items) (hx : items[i]? = none)
    (hE : ∀ h' e, Heap.ExtBut it s.heap h' → (∃ o, h'.get? e = some o ∧ o.cls = .type "StopIteration") → E (.ref e) { s with heap := h' }) :
    wpAny (model prog w) A (Builtin.SmallTypes.nextOf (.ref it)) Q E s := by
  obtain ⟨o, ho, hc, hd⟩ := id hit
  obtain ⟨ol, hol, _, nl, hdl⟩ := ht
  unfold Builtin.SmallTypes.nextOf
  refine wpAny_bind (wpAny_callSpecial?_slot (name := Str.ofString "__next__") hit.typeIs F.slot_tuple_iterator_next
    (wpAny_call_entry F.slot_tuple_iterator_next hit.typeIs F.entry_tuple_iterator_next ?_ (F.args_tuple_iterator_next_1 _)))
  show wpAny _ _ (field (.ref it) 0 >>= _) _ _ s
  refine wpAny_bind (wpAny_field ho hd (x := .ref t) rfl ?_)
  show wpAny _ _ (if (Value.ref t == Value.none) = true then _ else _) _ _ s
  rw [if_neg (show ¬ ((Value.ref t == Value.none) = true) from Bool.false_ne_true)]
  show wpAny _ _ (field (.ref it) 1 >>= _) _ _ s
  refine wpAny_bind (wpAny_field ho hd (x := .int i 0) rfl ?_)
  show wpAny _ _ (seqItems? (.ref t) >>= _) _ _ s
  refine wpAny_bind (wpAny_seqItems hol hdl ?_)
  simp only [Int.toNat_natCast, hx]
  refine wpAny_bind (wpAny_rule (wpAny_bind (wpAny_setField ho hd (by simp) ?_)))
  show wpAny _ _ (newExc (.type "StopIteration") [] >>= _) _ _ _
  refine wpAny_bind ?_
  simp only [newExc, newTuple]
  refine wpAny_bind (wpAny_newObj_type ?_ (by size_fits))
  refine wpAny_bind (m := firstArgMember _ _) (wpAny_of_eq (a := Value.none) (by first | rfl | (simp only [firstArgMember]; rfl)) ?_)
  refine wpAny_newObj_type ?_ (by size_fits)
  simp only [raiseNew]
  refine wpAny_bind (wpAny_handled ?_)
  first | rw [show A.in1.handled = none from hh] | rw [hh]
  refine wpAny_bind (wpAny_pure (wpAny_throw ?_))
  exact hE _ _ (((Heap.SameBut.update ..).extBut.push _).push _) ⟨_, Heap.get?_push_size _ rfl, rfl⟩
theorem tupleIter_at {h h' : Heap} {it t : Addr} {i : Nat} (x : h.IsTupleIter it t i) (hk : ∀ o, h.get? it = some o → h'.get? it = some o) : h'.IsTupleIter it t i :=
  let ⟨o, ho, r⟩ := x; ⟨o, hk o ho, r⟩
theorem tuple_at {h h' : Heap} {t : Addr} {items : Array Value} (x : h.IsTuple t items) (hk : ∀ o, h.get? t = some o → h'.get? t = some o) : h'.IsTuple t items :=
  let ⟨o, ho, r⟩ := x; ⟨o, hk o ho, r⟩
theorem draws_tup (hh : A.handled = none) (it l : Addr) (hne : l ≠ it) (items : Array Value) :
    Draws prog w A it [it, l] items.size (fun i v => items[i]? = some v) (fun i h => h.IsTupleIter it l i ∧ h.IsTuple l items) where
  live := fun _ _ st => let ⟨o, ho, _⟩ := st.1; ⟨o, ho⟩
  frame := fun _ _ _ st hk => ⟨tupleIter_at st.1 fun o e => hk it (by simp) o e, tuple_at st.2 fun o e => hk l (by simp) o e⟩
  item := fun i s Q E hi st hQ => by
    refine next_tup st.1 st.2 (x := items[i]) (by simp [hi]) fun h' hit' hs' => ?_
    exact hQ _ h' s.toks (by simp [hi]) ⟨hit', st.2.extBut hs'.extBut hne⟩ hs'
  done := fun s Q E st hE => next_tup_end hh st.1 st.2 (by simp) fun h' e he hx => hE h' e he hx
theorem meets_enum_tup (l : Addr) (items : Array Value) (n : Nat) (dct : Option Addr) (sl : Array (Option Value)) :
    Meets (Builtin.«enumerate.__new__» ⟨[.type "enumerate", .ref l], []⟩) (fun _ R s => s.heap.get? l = some { cls := .type "tuple", dict := dct, data := .seq items n, slots := sl } ∧
      R (.ok (.ret (.ref (s.heap.push { cls := .type "tuple_iterator", data := .fields #[.ref l, .int 0 0] }).objs.size)))
        { s with heap := (s.heap.push { cls := .type "tuple_iterator", data := .fields #[.ref l, .int 0 0] }).push { cls := .type "enumerate", data := .fields #[.none, .bool false, .ref s.heap.objs.size, rawInt 0, .none, .none] } }) :=
  .of_wp fun prog w A R s h => by
    obtain ⟨hp, g, d, tk, os⟩ := s; obtain ⟨hl, h⟩ := h
    have hsub := sub_enumerate
    have hL : Heap.IsTuple (Shared.heap ⟨hp, g, d, tk, os⟩) l items := ⟨_, hl, rfl, n, rfl⟩
    wp_walk using wpAny_loadPart' hl
    refine wpAny_stack_any fun st => wpAny_pure ?_
    split
    · rename_i c _ _ _ _ _
      cases (c == Value.type "enumerate")
      · wp_walk using wpAny_loadPart' hl, wpAny_pyIter_tuple hL
        exact ⟨_, rfl, h⟩
      · wp_walk using wpAny_loadPart' hl, wpAny_pyIter_tuple hL
        exact ⟨_, rfl, h⟩
    · wp_walk using wpAny_loadPart' hl, wpAny_pyIter_tuple hL
      exact ⟨_, rfl, h⟩
theorem call_enum_tup {l : Addr} {items : Array Value} {Q : Value → Shared → Prop} (hL : s.heap.IsTuple l items)
    (h : ∀ h', IsEnum h' (s.heap.objs.size + 1) s.heap.objs.size 0 .none → h'.IsTupleIter s.heap.objs.size l 0 → h'.objs.size = s.heap.objs.size + 2 →
      (∀ b o, s.heap.get? b = some o → h'.get? b = some o) → Q (.ref (s.heap.objs.size + 1)) { s with heap := h' }) :
    wpAny (model prog w) A (call (.type "enumerate") [.ref l]) Q E s := by
  obtain ⟨⟨c, dct, dt, sl⟩, hl, hc, n, hd⟩ := hL
  replace hc : c = .type "tuple" := hc
  replace hd : dt = .seq items n := hd
  subst hc hd
  refine callType_new F.called_enumerate (by decide) (F.typeCall_enumerate_1 _) (F.newCall_enumerate_1 _) (fun obj => F.args_object_init_2 obj _) F.entry_enumerate_new
    (meets_enum_tup l items n dct sl) ⟨hl, ?_⟩
  have hz : (s.heap.push { cls := .type "tuple_iterator", data := .fields #[.ref l, .int 0 0] }).objs.size = s.heap.objs.size + 1 := Heap.size_push ..
  show _ ∧ _
  rw [hz]
  have he : IsEnum ((s.heap.push { cls := .type "tuple_iterator", data := .fields #[.ref l, .int 0 0] }).push
      { cls := .type "enumerate", data := .fields #[.none, .bool false, .ref s.heap.objs.size, rawInt 0, .none, .none] }) (s.heap.objs.size + 1) s.heap.objs.size 0 .none := by
    have := Heap.get?_push_size (s.heap.push { cls := .type "tuple_iterator", data := .fields #[.ref l, .int 0 0] })
      (o := { cls := .type "enumerate", data := .fields #[.none, .bool false, .ref s.heap.objs.size, rawInt 0, .none, .none] }) rfl
    rw [hz] at this; exact this
  refine ⟨⟨_, he, rfl⟩, h _ he ⟨_, Heap.get?_push_of_some _ (Heap.get?_push_size _ rfl), rfl, rfl⟩ (by rw [Heap.size_push, hz]) fun b o x => Heap.get?_push_of_some _ (Heap.get?_push_of_some _ x)⟩
end
end Mine
end
section
open PySem PySem.W PyProof.Rows PySem.Calls PySem.Spec
set_option maxRecDepth 100000
namespace Mine
section
variable {prog : Program} {w : World} {A : Around} {E : Value → Shared → Prop} {s : Shared} {env : Env} {h₀ : Heap} {x : Str} {body : List Stmt} {Q : Flow → Shared → Prop}

noncomputable def Holds (_val : Nat → Tok → Value) : Prop := True

noncomputable abbrev turnMap (x y : Str) (fg : List Str) (m₀ : Str → Option Value) (u : Str → Option Value) (a b : Option Value) : Str → Option Value :=
  fun z => if z = x then a else if z = y then b else if fg.contains z = true then u z else m₀ z

noncomputable abbrev KeepsOne (x y : Str) (fg : List Str) (m₀ : Str → Option Value) (news : List (Addr × Obj)) (val : Nat → Tok → Value) (i : Nat) (m : Str → Option Value) (nx : List (Addr × Obj)) : Prop :=
  nx = news ∧ (∃ t, m y = some (val i t)) ∧ ∀ z, z ≠ x → z ≠ y → fg.contains z = false → m z = m₀ z

theorem turnMap_eq {y : Str} {fg : List Str} {m₀ m : Str → Option Value} {a b : Option Value} (hb : m y = b) (hm : ∀ z, z ≠ x → z ≠ y → fg.contains z = false → m z = m₀ z) :
    (fun z => if z = x then a else m z) = turnMap x y fg m₀ m a b := by
  funext z
  unfold turnMap
  by_cases h1 : z = x
  · simp only [h1, if_true]
  · rw [if_neg h1, if_neg h1]
    by_cases h2 : z = y
    · rw [if_pos h2, h2, hb]
    · rw [if_neg h2]
      cases h3 : fg.contains z with
      | true => simp
      | false => simp [hm z h1 h2 h3]

theorem range_one {r : Addr} {a₀ b₀ : Int} {t₀ u₀ v₀ : Tok} {n : Nat} {m₀ : Str → Option Value} {news : List (Addr × Obj)} {y : Str} (fg : List Str) {val : Nat → Tok → Value} (_hv : Holds val)
    (hh : A.handled = none) (hr : IsRange s.heap r a₀ b₀ 1 t₀ u₀ v₀) (hsmall : Builtin.Range.small a₀ b₀ 1 = true) (hn : Builtin.Range.rangeSize a₀ b₀ 1 = (n : Int)) (F : Fr h₀ env.locals s.heap m₀) (N : News h₀ env.locals s.heap news) (hy : ∃ t, m₀ y = some (val 0 t))
    (turn : ∀ (i : Nat) t ta (u : Str → Option Value) h tk own, i < n → OwnOff own (news.map (·.1)) → Fr h₀ env.locals h (turnMap x y fg m₀ u (some (.int (a₀ + (i : Int)) t)) (some (val i ta))) → News h₀ env.locals h (news ++ own) →
      wpAny (model prog w) A (execs body env) (InvPostN h₀ env.locals (KeepsOne x y fg m₀ news val (i + 1)) own (news.map (·.1)) { s with heap := h, toks := tk } Q) E { s with heap := h, toks := tk })
    (done : ∀ (u : Str → Option Value) v t h tk, Fr h₀ env.locals h (turnMap x y fg m₀ u v (some (val n t))) → News h₀ env.locals h news → Q .next { s with heap := h, toks := tk }) :
    wpAny (model prog w) A (pyIter (.ref r)) (fun it s₂ => LoopAtV prog w A h₀ env x body Q E it s₂) E s := by
  refine wpAny_pyIter_range hr hsmall ?_
  have W : Walks prog w A s.heap.objs.size [s.heap.objs.size] [s.heap.objs.size] n (fun i v => i < n ∧ ∃ t, v = .int (a₀ + i * 1) t)
      (fun i h => IsRangeIter h s.heap.objs.size (a₀ + (i : Nat) * 1) ((n : Int) - (i : Nat)) 1) := (Walks.range hh _ a₀ 1 n).bound
  refine loop_invN (KeepsOne x y fg m₀ news val) W ?_ ?_ ?_ ?_ (by show IsRangeIter _ _ _ _ _; rw [hn]; simpa using Heap.get?_push_size _ rfl) (F.push _) (fun p hp => ⟨Heap.get?_push_of_some _ (N p hp).1, (N p hp).2⟩) ⟨rfl, hy, fun _ _ _ _ => rfl⟩ ?_ ?_
  · intro hm
    exact absurd F.ns.lt ((List.mem_singleton.mp hm) ▸ Nat.lt_irrefl _)
  · intro b hb
    rw [List.mem_singleton.mp hb]
    exact next_is_new F
  · intro p hp hI
    exact absurd (Heap.lt_size (N p hp).1) ((List.mem_singleton.mp hI) ▸ Nat.lt_irrefl _)
  · intro p hp hI
    exact absurd (Heap.lt_size (N p hp).1) ((List.mem_singleton.mp hI) ▸ Nat.lt_irrefl _)
  · rintro i v m₁ nx h tk own hi ⟨_, t, rfl⟩ _ hoff ⟨rfl, ⟨ta, ha⟩, hm⟩ F' N'
    rw [turnMap_eq ha hm, Int.mul_one] at F'
    exact turn i t ta m₁ h tk own hi hoff F' N'
  · rintro m₁ nx h tk ⟨rfl, ⟨ta, ha⟩, hm⟩ F' N'
    have e : m₁ = turnMap x y fg m₀ m₁ (m₁ x) (some (val n ta)) := by
      rw [← turnMap_eq ha hm]
      funext z
      by_cases h1 : z = x
      · simp [h1]
      · rw [if_neg h1]
    rw [e] at F'
    exact done m₁ _ ta h tk F' N'
theorem str_is {X Y : Str} {t : Tok} (e : X = Y) : ∃ t', Value.str X t = .str Y t' := ⟨t, by rw [e]⟩
theorem int_is {X Y : Int} {t : Tok} (e : X = Y) : ∃ t', Value.int X t = .int Y t' := ⟨t, by rw [e]⟩
theorem ite_both {c : Prop} [Decidable c] {a b : Prop} (h1 : c → a) (h2 : ¬ c → b) : if c then a else b := by
  by_cases h : c
  · rw [if_pos h]; exact h1 h
  · rw [if_neg h]; exact h2 h
theorem keeps_str {x y : Str} {fg : List Str} {m₀ m' : Str → Option Value} {news : List (Addr × Obj)} {S : Nat → Str} {i : Nat} {X : Str} {t : Tok} (hm : m' y = some (.str X t)) (e : X = S (i + 1)) (hs : ∀ z, z ≠ x → z ≠ y → fg.contains z = false → m' z = m₀ z) :
    KeepsOne x y fg m₀ news (fun n t => Value.str (S n) t) (i + 1) m' news := ⟨rfl, ⟨t, by rw [hm, e]⟩, hs⟩
end
section
variable {prog : Program} {w : World} {A : Around} {E : Value → Shared → Prop} {s : Shared} {value slice : PySem.Expr} {x : PySem.Str} {t u : Tok} {i : Int} {Q : Value → Shared → Prop}
theorem item_at (h0 : 0 ≤ i) (h1 : i < (x.length : Int)) (hn : x.length ≤ 16777216) (h : (Txt.item x i).length = 1 → Q (.str (Txt.item x i) s.toks) { s with toks := s.toks + 1 })
    (hs : subscripted slice false (.str x t) (.int i u) = operate [.str x t, .int i u] (getItem (.str x t) (.int i u)) := by with_unfolding_all rfl)
    (ht : ∀ r, letTemporaryGo value (.str x t) r = pure () := by intro _; with_unfolding_all rfl) :
    wpAny (model prog w) A (subscriptTail value slice (.str x t) (.int i u)) Q E s :=
  item_str (fitsSsize_of (N := 9223372036854775808) (by omega) (by omega) (Int.le_refl _)) (by omega) (by omega) (fun e => h (by omega)) hs ht
end
end Mine
end
section
open PySem PySem.W PyProof.Rows PySem.Calls PySem.Spec
set_option maxRecDepth 100000
namespace Mine
section
variable {prog : Program} {w : World} {A : Around} {E : Value → Shared → Prop} {s : Shared} {env : Env} {h₀ : Heap} {x : Str} {body : List Stmt} {Q : Flow → Shared → Prop}
noncomputable abbrev mapC {σ : Type} (x : Str) (fg : List Str) (ps : σ → List (Str × Value)) (m₀ u : Str → Option Value) (a : Option Value) (c : σ) : Str → Option Value := fun z => if z = x then a else kstB (fun z => if fg.contains z = true then u z else m₀ z) (ps c) z
noncomputable def KeepsC {σ : Type} (x : Str) (fg : List Str) (ps : σ → List (Str × Value)) (m₀ : Str → Option Value) (news : List (Addr × Obj)) (P : Nat → σ → Prop) (i : Nat) (m : Str → Option Value) (nx : List (Addr × Obj)) : Prop :=
  nx = news ∧ ∃ c, P i c ∧ (∀ p ∈ ps c, m p.1 = some p.2) ∧ ∀ z, z ≠ x → fg.contains z = false → (∀ p ∈ ps c, z ≠ p.1) → m z = m₀ z
theorem mapC_eq {σ : Type} {fg : List Str} {ps : σ → List (Str × Value)} {m₀ m : Str → Option Value} {a : Option Value} {c : σ} (hk : ∀ p ∈ ps c, m p.1 = some p.2) (hm : ∀ z, z ≠ x → fg.contains z = false → (∀ p ∈ ps c, z ≠ p.1) → m z = m₀ z) :
    (fun z => if z = x then a else m z) = mapC x fg ps m₀ m a c := by
  funext z
  by_cases h1 : z = x
  · simp only [mapC, h1, if_true]
  · simp only [mapC]
    rw [if_neg h1, if_neg h1]
    refine (kstB_eq hk fun hn => ?_).symm
    cases h3 : fg.contains z with
    | true => simp
    | false => simp [hm z h1 h3 hn]
theorem list_C {σ : Type} {l : Addr} {vs : List Value} {m₀ : Str → Option Value} {news : List (Addr × Obj)} (fg : List Str) (ps : σ → List (Str × Value)) (P : Nat → σ → Prop) (c₀ : σ)
    (hh : A.handled = none) (hl : h₀.IsList l vs.toArray) (F : Fr h₀ env.locals s.heap m₀) (N : News h₀ env.locals s.heap news) (h0 : P 0 c₀) (hk0 : ∀ p ∈ ps c₀, m₀ p.1 = some p.2)
    (turn : ∀ (i : Nat) v c (u : Str → Option Value) h tk own, vs[i]? = some v → P i c → OwnOff own (news.map (·.1)) → Fr h₀ env.locals h (mapC x fg ps m₀ u (some v) c) → News h₀ env.locals h (news ++ own) →
      wpAny (model prog w) A (execs body env) (InvPostN h₀ env.locals (KeepsC x fg ps m₀ news P (i + 1)) own (news.map (·.1)) { s with heap := h, toks := tk } Q) E { s with heap := h, toks := tk })
    (done : ∀ c (u : Str → Option Value) v h tk, P vs.length c → Fr h₀ env.locals h (mapC x fg ps m₀ u v c) → News h₀ env.locals h news → Q .next { s with heap := h, toks := tk }) :
    wpAny (model prog w) A (pyIter (.ref l)) (fun it s₂ => LoopAtV prog w A h₀ env x body Q E it s₂) E s := by
  have hls : s.heap.IsList l vs.toArray := hl.at fun o e => F.keep l o e
  have hlt0 : l < h₀.objs.size := by obtain ⟨_, e, _⟩ := hl; exact Heap.lt_size e
  have hlL : env.locals ≠ l := Nat.ne_of_gt (Nat.lt_of_lt_of_le hlt0 F.above)
  have hlt : l < s.heap.objs.size := by obtain ⟨_, e, _⟩ := hls; exact Heap.lt_size e
  refine wpAny_pyIter_list hls ?_
  refine loop_invN (KeepsC x fg ps m₀ news P) (Walks.list hh s.heap.objs.size l (Nat.ne_of_lt hlt) vs.toArray) ?_ ?_ ?_ ?_ ⟨⟨_, Heap.get?_push_size _ rfl, rfl, rfl⟩, hls.push _⟩ (F.push _) (fun p hp => ⟨Heap.get?_push_of_some _ (N p hp).1, (N p hp).2⟩) ⟨rfl, c₀, h0, hk0, fun _ _ _ _ => rfl⟩ ?_ ?_
  · intro hm
    rcases List.mem_cons.mp hm with e | hm
    · exact absurd F.ns.lt (e ▸ Nat.lt_irrefl _)
    · exact hlL (List.mem_singleton.mp hm)
  · intro b hb
    rw [List.mem_singleton.mp hb]
    exact next_is_new F
  · intro p hp hI
    exact absurd (Heap.lt_size (N p hp).1) ((List.mem_singleton.mp hI) ▸ Nat.lt_irrefl _)
  · intro p hp hI
    rcases List.mem_cons.mp hI with e | hI
    · exact absurd (Heap.lt_size (N p hp).1) (e ▸ Nat.lt_irrefl _)
    · have n := (N p hp).2.2
      obtain ⟨o, e, _⟩ := hl
      rw [List.mem_singleton.mp hI, e] at n
      cases n
  · rintro i v m₁ nx h tk own hi hv _ hoff ⟨rfl, c, hp, hk, hm⟩ F' N'
    rw [mapC_eq hk hm] at F'
    have hv' : vs.toArray[i]? = some v := hv
    exact turn i v c m₁ h tk own (by simpa using hv') hp hoff F' N'
  · rintro m₁ nx h tk ⟨rfl, c, hp, hk, hm⟩ F' N'
    have e : m₁ = mapC x fg ps m₀ m₁ (m₁ x) c := by
      rw [← mapC_eq hk hm]
      funext z
      by_cases h1 : z = x
      · simp [h1]
      · rw [if_neg h1]
    rw [e] at F'
    have hp' : P vs.length c := by simpa using hp
    exact done c m₁ _ h tk hp' F' N'
end
end Mine
end
section
open PySem PySem.W PyProof.Rows PySem.Calls PySem.Spec
set_option maxRecDepth 100000
set_option maxHeartbeats 8000000
namespace Mine
noncomputable abbrev bigA : Around := { handled := none, depth := 900, frames := none, guards := none, units := 9000 }
theorem big_enough {M : Model} {A : Around} {α : Type} {t : Sem α} {Q : α → Shared → Prop} {E : Value → Shared → Prop} {s : Shared} (hh : A.handled = none) (hd : A.depth ≤ 900) (hu : A.units ≤ 9000) (h : wpAny M bigA t Q E s) : wpAny M A t Q E s :=
  fun Γ p hΓ => h Γ p (by
    have h1 : Γ.handled = none := hΓ.1.trans hh
    have h2 := Nat.le_trans hΓ.2.1 hd
    have h3 := Nat.le_trans hΓ.2.2.2.2 hu
    exact And.intro h1 (And.intro h2 (And.intro (fun l e => absurd e (by simp)) (And.intro (fun g e => absurd e (by simp)) h3))))
noncomputable abbrev boundObj (r : Addr) : Obj := { cls := .type "builtin_function_or_method", data := .fields #[.builtin "list.append", .ref r] }
theorem mem_kept {h h' : Heap} {news : List (Addr × Obj)} (D : PySem.W.X.Mem h h' [] news) : Kept h h' := fun b o e => D.keep b o e (by simp [PySem.W.X.away])
theorem xc_bound {s : Shared} {h : Heap} {tk : Nat} {a r : Addr} {o : Obj} (D : PySem.W.X.Mem s.heap h [] [(a, o)]) (e : o = boundObj r) :
    ∃ a', Value.ref a = .ref a' ∧ s.heap.get? a' = none ∧ Kept s.heap h ∧ h.get? a' = some (boundObj r) ∧ ({ heap := h, gens := s.gens, drawn := s.drawn, toks := tk, os := s.os } : Shared) = { s with heap := h, toks := tk } := by
  subst e
  exact ⟨a, rfl, (D.nw _ (.head _)).2, mem_kept D, (D.nw _ (.head _)).1, rfl⟩
section
open PySem.W.X in
local macro_rules | `(tactic| x_close) => `(tactic| exact ⟨_, _, xc_bound (by assumption) (by kernel_rfl)⟩)
theorem run_getattribute (w : World) (s : Shared) (t : Tok) (r : Addr) (its : Array Value) (n : Nat) (ho : s.heap.get? r = some { cls := .type "list", data := .seq its n }) :
    wpAny (model PySem.Challenge.pw_rx0053_01 w) bigA (call (.builtin "list.__getattribute__") [.ref r, .str (Str.ofString "append") t] [])
      (fun v s' => ∃ h tk, ∃ a', v = .ref a' ∧ s.heap.get? a' = none ∧ Kept s.heap h ∧ h.get? a' = some (boundObj r) ∧ s' = { s with heap := h, toks := tk }) (fun _ _ => False) s := by
  x_run
end
noncomputable def sigA : Manifest.Signature := (Manifest.sig_list.lookup (String.ofList ['d', 'n', 'e', 'p', 'p', 'a'].reverse)).get (by decide +kernel)
theorem check_sigA (a b : Value) : Bind.checkArgs "list.append" { sigA with full := s!"{Bind.lastOf "list"}.{Bind.lastOf "list.append"}" } ⟨[a, b], []⟩ = pure () := by kernel_rfl
section
variable {prog : Program} {w : World} {A : Around} {E : Value → Shared → Prop} {s : Shared}
theorem check_append {r : Addr} {its : Array Value} {n : Nat} {x : Value} {Q : Unit → Shared → Prop} (ho : s.heap.get? r = some { cls := .type "list", data := .seq its n }) (h : Q () s) :
    wpAny (model prog w) A (checkBoundCall "list.append" ⟨[.ref r, x], []⟩) Q E s := by
  unfold checkBoundCall
  rw [signature?_of (id := "list.append") (n := ['d', 'n', 'e', 'p', 'p', 'a']) (o := ['t', 's', 'i', 'l']) (by kernel_rfl) F.owner_list]
  have hsig : Manifest.sig_list.lookup (String.ofList ['d', 'n', 'e', 'p', 'p', 'a'].reverse) = some sigA := by unfold sigA; simp
  rw [hsig]
  have hk : builtinKind "list.append" = some .method := by decide +kernel
  simp only [hk]
  rw [if_neg (by decide)]
  have hT : s.TypeIs (.ref r) "list" := ⟨_, ho, rfl⟩
  refine wpAny_bind (wpAny_isInstance (T := "list") (b := false) hT (by rw [isSubtype_type]; kernel_rfl) ?_)
  rw [if_neg (by decide +kernel)]
  refine wpAny_bind ?_
  unfold isType
  refine wpAny_bind (wpAny_mono (wpAny_load (a := r) ho (Q := fun o s' => o = { cls := .type "list", data := .seq its n } ∧ s' = s) ⟨rfl, rfl⟩) (fun o s' q => ?_) fun _ _ e => e)
  obtain ⟨rfl, rfl⟩ := q
  refine wpAny_pure ?_
  dsimp only
  rw [if_neg (by decide)]
  refine wpAny_bind (wpAny_typeOf hT ?_)
  dsimp only
  rw [check_sigA]
  exact wpAny_pure h
theorem bound_call {q r : Addr} {its : Array Value} {n : Nat} {x : Value} {Q : Value → Shared → Prop} (hq : s.heap.get? q = some (boundObj r)) (ho : s.heap.get? r = some { cls := .type "list", data := .seq its n })
    (h : ∀ h', Heap.SameBut r s.heap h' → h'.get? r = some { cls := .type "list", data := .seq (its.push x) (n + 1) } → Q .none { s with heap := h' })
    (hsz : its.size ≤ sizeLine) : wpAny (model prog w) A (call (.ref q) [x]) Q E s := by
  refine wpAny_call (codeAny_of_tree ?_)
  show wpAny _ _ (callAny (.ref q) _) _ _ _
  obtain ⟨hh, g, dr, t, os⟩ := s
  dsimp only at hq ho
  refine nd_load hq ?_
  show wpAny _ _ (do checkBoundCall "list.append" ⟨[.ref r, x], []⟩; again (.builtin "list.append" ⟨[.ref r, x], []⟩)) _ _ _
  refine wpAny_bind (check_append ho ?_)
  refine wpAny_pure ⟨plainId_quiet (by decide +kernel) _, codeAny_builtin entry_list_append ?_⟩
  show wpAny _ _ (updateSeq r (·.push x) >>= fun _ => ret .none) _ _ _
  refine wpAny_bind ?_
  refine wpAny_updateSeq ho rfl (wpAny_pure (h _ (Heap.SameBut.update ..) ?_))
  rw [Heap.get?_update_self _ ho (by rw [mapSeq_push]; rfl), mapSeq_push]
end
theorem getAttr_append {w : World} {A : Around} {E : Value → Shared → Prop} {s : Shared} {r : Addr} {its : Array Value} {n : Nat} {Q : Value → Shared → Prop} (hA : A.handled = none) (hd : A.depth ≤ 900) (hu : A.units ≤ 9000) (ho : s.heap.get? r = some { cls := .type "list", data := .seq its n })
    (h : ∀ h' tk a, s.heap.get? a = none → Kept s.heap h' → h'.get? a = some (boundObj r) → Q (.ref a) { s with heap := h', toks := tk }) : wpAny (model PySem.Challenge.pw_rx0053_01 w) A (getAttr (.ref r) (Str.ofString "append") true) Q E s := by
  obtain ⟨hp, g, d, tk, os⟩ := s
  have hT : ∀ tk', (⟨hp, g, d, tk', os⟩ : Shared).TypeIs (.ref r) "list" := fun _ => ⟨_, ho, rfl⟩
  have f3 := F.slot_list_getattribute.lookup
  have f4 := F.slot_list_getattribute.bind (.ref r)
  have f5 := am_list_getattr_none
  unfold getAttr getAttrBy
  repeat (any_goals (first | assumption | exact hT _ | ((with_reducible show wpAny _ _ (call (Value.builtin "list.__getattribute__") _ _) _ _ _); refine wpAny_mono (big_enough hA hd hu (run_getattribute w _ _ r its n ho)) ?_ (fun _ _ e => e.elim)) | wp_step))
  rintro v s' ⟨h', tk', a', rfl, hn, hk, hb, rfl⟩
  exact wpAny_pure (h h' tk' a' hn hk hb)
section
variable {prog : Program} {w : World} {A : Around} {E : Value → Shared → Prop} {s : Shared} {h₀ : Heap} {L : Addr} {m : Str → Option Value} {news news' : List (Addr × Obj)}
theorem bound_K {q r : Addr} {its : Array Value} {n : Nat} {x : Value} {Q : Value → Shared → Prop} (F : Fr h₀ L s.heap m) (N : News h₀ L s.heap news) (hq : (q, boundObj r) ∈ news) (U : Upd r (listOf its n) (listOf (its.push x) (n + 1)) news news')
    (h : ∀ h', Fr h₀ L h' m → News h₀ L h' news' → Q .none { s with heap := h' }) (hsz : its.size ≤ sizeLine) : wpAny (model prog w) A (call (.ref q) [x]) Q E s := by
  obtain ⟨pre, post, rfl, rfl, a, b⟩ := U.split
  have z := N (r, listOf its n) (List.mem_append.mpr (.inr (.head _)))
  exact bound_call (N _ hq).1 z.1 (fun h' hs ho' => h h' (F.change hs z.2.1 z.2.2) (news_set N a b hs ho')) hsz
theorem getAttr_K {w : World} {r : Addr} {its : Array Value} {n : Nat} {Q : Value → Shared → Prop} (hA : A.handled = none) (hd : A.depth ≤ 900) (hu : A.units ≤ 9000) (F : Fr h₀ L s.heap m) (N : News h₀ L s.heap news) (hr : (r, listOf its n) ∈ news)
    (h : ∀ h' tk a, (∀ p ∈ news, p.1 ≠ a) → Fr h₀ L h' m → News h₀ L h' ((a, boundObj r) :: news) → Q (.ref a) { s with heap := h', toks := tk }) : wpAny (model PySem.Challenge.pw_rx0053_01 w) A (getAttr (.ref r) (Str.ofString "append") true) Q E s := by
  refine getAttr_append hA hd hu (N _ hr).1 fun h' tk a hn hk ho => h h' tk a (fun p hp e => ?_) (Kept.fr hk F) (Kept.new F hk N hn ho)
  have := (N p hp).1
  rw [e, hn] at this
  cases this
noncomputable def AppAt (u : Addr) (h : Heap) : Prop := ∃ r, h.get? u = some (boundObj r)
theorem haltAA {u : Addr} {h : Heap} {P : Prop} (q : Halt (AppAt u h ∧ P)) : AppAt u h ∧ P := q
theorem appAt_of {u r : Addr} {h : Heap} (N : News h₀ L h news) (hm : (u, boundObj r) ∈ news) : AppAt u h := ⟨r, (N _ hm).1⟩
theorem callWith_app {pos : Pos} {u : Addr} {args : List (Bool × Sem Value)} {Q : Value → Shared → Prop} (hplain : args.any (·.1) = false)
    (h : wpAny (model prog w) A (evalArgs (.ref u) true args []) (fun x s₁ => AppAt u s₁.heap ∧ wpAny (model prog w) A (call (.ref u) x.pos x.kw) Q E s₁) E s) : wpAny (model prog w) A (callWith pos (.ref u) [] args []) Q E s := by
  unfold callWith
  refine wpAny_bind (wpAny_holding (wpAny_mono h (fun x s₁ h₁ => wpAny_bind (wpAny_standAt ?_)) fun _ _ x => x))
  obtain ⟨⟨r', ho⟩, hcall⟩ := h₁
  simp only [hplain, List.any_nil, Bool.or_false]
  refine wpAny_bind (m := keeperOf (.ref u)) ?_
  unfold keeperOf
  refine wpAny_bind (wpAny_load ho ?_)
  simp only [boundObj, show (Value.type "builtin_function_or_method" != Value.type "method") = true by decide, show (Value.type "builtin_function_or_method" == Value.type "builtin_function_or_method" || Value.type "builtin_function_or_method" == Value.type "method-wrapper") = true by decide, if_true]
  refine wpAny_pure ?_
  exact wpAny_bind (wpAny_mono hcall (fun r s₂ hr => wpAny_bind (wpAny_holding (wpAny_point (wpAny_pure hr)))) fun _ _ x => x)
theorem callWith_append {pos : Pos} {u r : Addr} {env : Env} {e : Expr} {Q : Value → Shared → Prop} (_N : News h₀ L s.heap news) (_hm : (u, boundObj r) ∈ news)
    (h : wpAny (model prog w) A (spliced (backTo pos (starEach [e] env))) (fun vs s₁ => AppAt u s₁.heap ∧ wpAny (model prog w) A (call (.ref u) vs) Q E s₁) E s)
    (he : starEach [e] env = (false, eval e env) :: starEach [] env := by rfl) :
    wpAny (model prog w) A (callWith pos (.ref u) [] (backTo pos (starEach [e] env)) []) Q E s := by
  rw [he] at h ⊢
  exact callWith_app (by rfl) (evalArgs_plain h)
end
end Mine
end
section
open PySem PySem.W PyProof.Rows PySem.Calls PySem.Spec
set_option maxRecDepth 100000
namespace Mine
open PyProof.Rows.LCg
section
variable {prog : Program} {w : World} {A : Around} {E : Value → Shared → Prop} {s : Shared} {h₀ : Heap} {L : Addr} {m : Str → Option Value} {env : Env}
noncomputable def TurnPv (Pv : Nat → Value → Prop) (news : List (Addr × Obj)) (i : Nat) (y : Value) (news' : List (Addr × Obj)) : Prop := news' = news ∧ Pv i y
theorem rest_P {elt : Expr} {x : Str} {scope : Scope} {cl : List (Str × Addr)} {S : List (Addr × Obj) → Prop} {P : Nat → Value → Prop} {n : Nat} {Fin : List Value → List (Addr × Obj) → Prop} {news : List (Addr × Obj)} (Pv : Nat → Value → Prop) (hS : S news)
    (turn : ∀ i v I oI C oC D m₂ ys h tk (E' : Value → Shared → Prop), i < n → P i v → NsObj oC m₂ → m₂ x = some v → Fr h₀ L h m → News h₀ L h ((I, oI) :: (C, oC) :: (D, lst ys) :: news) → Off3 I C D news → ((@Ne Nat I C) ∧ (@Ne Nat I D) ∧ (@Ne Nat C D)) →
      wpAny (model prog w) A (eval elt (compEnvC scope cl C env)) (CompEnd h₀ L m { s with heap := h, toks := tk } I oI C oC D (lst ys) S (TurnPv Pv news i)) E' { s with heap := h, toks := tk })
    (fin : ∀ ys : List Value, ys.length = n → (∀ (i : Nat) y, ys[i]? = some y → Pv i y) → Fin ys news) : CompRest prog w A h₀ L m env elt x scope cl s S P Fin n 0 [] news := by
  have key : ∀ (j i : Nat) (ys : List Value), i + j = n → ys.length = i → (∀ (k : Nat) y, ys[k]? = some y → Pv k y) → CompRest prog w A h₀ L m env elt x scope cl s S P Fin j i ys news := by
    intro j
    induction j with
    | zero => exact fun i ys hi hl hy => CompRest.zero (fin ys (by omega) hy)
    | succ j ih =>
      intro i ys hi hl hy
      refine CompRest.succ ?_
      intro v I oI C oC D m₂ h tk E' hP hC hx F N off ne
      refine wpAny_mono (turn i v I oI C oC D m₂ ys h tk E' (by omega) hP hC hx F N off ne) (fun y s₂ hq => ?_) fun _ _ e => e
      obtain ⟨h', tk', nw, e, F', N', off', hS', hn, hp⟩ := hq
      rw [hn] at N' off'
      refine ⟨h', tk', news, e, F', N', off', hS, ih (i + 1) _ (by omega) (by simp [hl]) fun k z hz => ?_⟩
      rcases Nat.lt_or_ge k ys.length with q | q
      · rw [List.getElem?_append_left q] at hz
        exact hy k z hz
      · rw [List.getElem?_append_right q] at hz
        have hk : k = ys.length := by
          rcases Nat.lt_or_ge (k - ys.length) 1 with u | u
          · omega
          · rw [List.getElem?_eq_none (by simpa using u)] at hz; cases hz
        subst hk
        rw [Nat.sub_self] at hz
        have : y = z := by simpa using hz
        subst this
        rw [hl]
        exact hp
  exact key n 0 [] (by omega) rfl fun k y h => by simp at h
theorem three_of {ys : List Value} (h : ys.length = 3) : ∃ a b c, ys = [a, b, c] := by
  match ys, h with
  | [a, b, c], _ => exact ⟨a, b, c, rfl⟩
end
end Mine
end
section
open PySem PySem.W PyProof.Rows PySem.Calls PySem.Spec
set_option maxRecDepth 100000
namespace Mine
open PyProof.Rows.LCg
section
variable {prog : Program} {w : World} {A : Around} {E : Value → Shared → Prop} {s : Shared} {h₀ : Heap} {L : Addr} {m : Str → Option Value} {env : Env}
noncomputable def SrcStep (prog : Program) (w : World) (A : Around) (h₀ : Heap) (L : Addr) (m : Str → Option Value) (env : Env) (elt : Expr) (x : Str) (scope : Scope) (cl : List (Str × Addr)) (Fin : Shared → List Value → List (Addr × Obj) → Prop) (xv : Value) (s₁ : Shared) : Prop :=
  ∃ r a b c t u v n news, xv = .ref r ∧ A.handled = none ∧ Fr h₀ L s₁.heap m ∧ News h₀ L s₁.heap news ∧ IsRange s₁.heap r a b c t u v ∧ Builtin.Range.small a b c = true ∧ Builtin.Range.rangeSize a b c = ((n : Nat) : Int) ∧ n ≤ sizeLine ∧
    ∀ s₂ : Shared, (∃ h, s₂ = { s₁ with heap := h }) → CompRest prog w A h₀ L m env elt x scope cl s₂ (fun _ => True) (fun i v => i < n ∧ ∃ t, v = .int (a + i * c) t) (Fin s₂) n 0 [] news
theorem ListComp_R {elt iter : Expr} {x : Str} {px : Pos} {scope : Scope} {cl : List (Str × Addr)} {pos : Pos} {Q : Value → Shared → Prop} (F₀ : Fr h₀ L s.heap m)
    (hclos : closureFor scope env = pure cl) (hcell : ∀ y ∈ scope.names, y.2 ≠ .cell) (hkind : scope.kind = .function)
    (hnames : ∀ y ∈ scope.names, y.2 = .local → scope.names.lookup y.1 = some .local) (hx : scope.names.lookup x = some .local)
    (h : wpAny (model prog w) A (eval iter env) (SrcStep prog w A h₀ L m env elt x scope cl (fun s₂ => FinE h₀ L m s₂ Q)) E s)
    (hs : ∀ x, foldedSetIterable iter env x = pure x := by intro _; rfl) :
    wpAny (model prog w) A (eval (.ListComp elt [⟨.Name x px, iter, [], 0⟩] scope pos) env) Q E s := by
  rw [eval_ListComp]
  refine wpAny_comprehension_free (use := none) rfl hs hclos hkind hnames (wpAny_mono h (fun xv s₁ h₁ => ?_) fun _ _ e => e)
  obtain ⟨r, a, b, c, t, u, v, n, news, rfl, hh, F, N, hr, hsm, hn, hsz, R⟩ := h₁
  refine wpAny_pyIter_range hr hsm ?_
  have W : Walks prog w A s₁.heap.objs.size [s₁.heap.objs.size] [s₁.heap.objs.size] n (fun i v => i < n ∧ ∃ t, v = .int (a + i * c) t)
      (fun i h => IsRangeIter h s₁.heap.objs.size (a + (i : Nat) * c) ((n : Int) - (i : Nat)) c) := (Walks.range hh _ a c n).bound
  refine block_U W hsz (fun i h st => ⟨_, st⟩) (fun i h h' o nw st e e' _ _ _ => ?_) hcell hkind hx (by show IsRangeIter _ _ _ _ _; rw [hn]; simpa using Heap.get?_push_size _ rfl) (fun b hb => ?_)
    (F.keeps fun _ _ e => Heap.get?_push_of_some _ e) (N.grown fun _ _ e => Heap.get?_push_of_some _ e) (Nat.ne_of_lt F.ns.lt) (next_is_new F) (fun p hp => Nat.ne_of_lt (Heap.lt_size (N p hp).1)) trivial (R _ ⟨_, rfl⟩) ?_
  · have st' : h.get? s₁.heap.objs.size = some _ := st
    show h'.get? s₁.heap.objs.size = some _
    rw [e', ← e]; exact st'
  · rw [List.mem_singleton.mp hb]
    show s₁.heap.objs.size < (s₁.heap.push _).objs.size
    rw [Heap.size_push]; exact Nat.lt_succ_self _
  · intro D C h tk m' ys news' F' N' o1 hn hC₀ hD₀ hCL hDL hCD offC fin
    refine ⟨m', hn, fun h'' hs'' => fin D h'' tk (F'.change hs'' hCL hC₀) (fun p hp => ?_) o1⟩
    refine ⟨hs''.extBut _ _ ?_ (N' p hp).1, (N' p hp).2⟩
    rcases List.mem_cons.mp hp with rfl | hp
    · exact Ne.symm hCD
    · exact offC p hp
noncomputable def TurnInt (news : List (Addr × Obj)) (y : Value) (news' : List (Addr × Obj)) : Prop := news' = news ∧ ∃ n t, y = .int n t
theorem ints_snoc {n : Int} {t : Tok} : ∀ {vs : List Value} {ns : List Int}, IntsAre vs ns → IntsAre (vs ++ [.int n t]) (ns ++ [n])
  | _, _, .nil => .cons n t .nil
  | _, _, .cons k u h => .cons k u (ints_snoc h)
theorem rest_ints {elt : Expr} {x : Str} {scope : Scope} {cl : List (Str × Addr)} {P : Nat → Value → Prop} {n : Nat} {Fin : List Value → List (Addr × Obj) → Prop} {news : List (Addr × Obj)}
    (turn : ∀ i v I oI C oC D m₂ ys h tk (E' : Value → Shared → Prop), P i v → NsObj oC m₂ → m₂ x = some v → Fr h₀ L h m → News h₀ L h ((I, oI) :: (C, oC) :: (D, lst ys) :: news) → Off3 I C D news → ((@Ne Nat I C) ∧ (@Ne Nat I D) ∧ (@Ne Nat C D)) →
      wpAny (model prog w) A (eval elt (compEnvC scope cl C env)) (CompEnd h₀ L m { s with heap := h, toks := tk } I oI C oC D (lst ys) (fun _ => True) (TurnInt news)) E' { s with heap := h, toks := tk })
    (fin : ∀ ys ns, IntsAre ys ns → Fin ys news) : CompRest prog w A h₀ L m env elt x scope cl s (fun _ => True) P Fin n 0 [] news := by
  have key : ∀ (j i : Nat) (ys : List Value) (ns : List Int), IntsAre ys ns → CompRest prog w A h₀ L m env elt x scope cl s (fun _ => True) P Fin j i ys news := by
    intro j
    induction j with
    | zero => exact fun i ys ns hy => CompRest.zero (fin ys ns hy)
    | succ j ih =>
      intro i ys ns hy
      refine CompRest.succ ?_
      intro v I oI C oC D m₂ h tk E' hP hC hx F N off ne
      refine wpAny_mono (turn i v I oI C oC D m₂ ys h tk E' hP hC hx F N off ne) (fun y s₂ hq => ?_) fun _ _ e => e
      obtain ⟨h', tk', nw, e, F', N', off', hS, hn, k, t, rfl⟩ := hq
      rw [hn] at N' off'
      exact ⟨h', tk', news, e, F', N', off', hS, ih (i + 1) _ _ (ints_snoc hy)⟩
  exact key n 0 [] [] .nil
end
theorem step4 : ∀ h : Nat, h < 4 → ∀ b : Nat, b < 17 → Builtin.Range.small (h : Int) (b : Int) 4 = true ∧ Builtin.Range.rangeSize (h : Int) (b : Int) 4 = (((b - h + 3) / 4 : Nat) : Int) := by decide
end Mine
end
section
open PySem PySem.W PyProof.Rows PySem.Calls PySem.Spec
set_option maxRecDepth 100000
namespace Mine
open PyProof.Rows.LCt PyProof.Rows.LCg
section
variable {prog : Program} {w : World} {A : Around} {E : Value → Shared → Prop} {s : Shared} {h₀ : Heap} {L : Addr} {m : Str → Option Value} {env : Env}
noncomputable def SrcS (prog : Program) (w : World) (A : Around) (h₀ : Heap) (L : Addr) (m : Str → Option Value) (env : Env) (ct elt : Expr) (x : Str) (scope : Scope) (cl : List (Str × Addr)) (Fin : Shared → List Value → List (Addr × Obj) → Prop) (xv : Value) (s₁ : Shared) : Prop :=
  ∃ (y : Str) (t : Tok) (news : List (Addr × Obj)), xv = .str y t ∧ A.handled = none ∧ Fr h₀ L s₁.heap m ∧ News h₀ L s₁.heap news ∧ y.cps.all (· < 128) = true ∧ y.cps.size ≤ sizeLine ∧
    ∀ s₂ : Shared, (∃ h, s₂ = { s₁ with heap := h }) → CompRestT prog w A h₀ L m env ct elt x scope cl s₂ (fun _ => True) (SignAt y) (Fin s₂) y.cps.size 0 [] news

theorem ListComp_S {ct elt iter : Expr} {x : Str} {px : Pos} {scope : Scope} {cl : List (Str × Addr)} {pos : Pos} {Q : Value → Shared → Prop} (F₀ : Fr h₀ L s.heap m)
    (hclos : closureFor scope env = pure cl) (hcell : ∀ y ∈ scope.names, y.2 ≠ .cell) (hkind : scope.kind = .function)
    (hnames : ∀ y ∈ scope.names, y.2 = .local → scope.names.lookup y.1 = some .local) (hx : scope.names.lookup x = some .local)
    (h : wpAny (model prog w) A (eval iter env) (SrcS prog w A h₀ L m env ct elt x scope cl (fun s₂ => FinE h₀ L m s₂ Q)) E s)
    (hs : ∀ x, foldedSetIterable iter env x = pure x := by intro _; rfl) :
    wpAny (model prog w) A (eval (.ListComp elt [⟨.Name x px, iter, [ct], 0⟩] scope pos) env) Q E s := by
  rw [eval_ListComp]
  refine wpAny_comprehension_free (use := none) rfl hs hclos hkind hnames (wpAny_mono h (fun xv s₁ h₁ => ?_) fun _ _ e => e)
  obtain ⟨y, t, news, rfl, hh, F, N, ha, hsz, R⟩ := h₁
  refine wpAny_pyIter_ascii ha ?_
  refine block_T (Walks.strAscii hh s₁.heap.objs.size y t) hsz (fun i h st => by obtain ⟨o, e, _⟩ := st; exact ⟨o, e⟩)
    (fun i h h' o nw st e e' _ _ _ => by
      obtain ⟨o', e2, r⟩ := st
      rw [e] at e2
      cases e2
      exact ⟨o, e', r⟩) hcell hkind hx ⟨_, Heap.get?_push_size _ rfl, rfl, rfl⟩ (fun b hb => ?_)
    (F.keeps fun _ _ e => Heap.get?_push_of_some _ e) (N.grown fun _ _ e => Heap.get?_push_of_some _ e) (Nat.ne_of_lt F.ns.lt) (next_is_new F) (fun p hp => Nat.ne_of_lt (Heap.lt_size (N p hp).1)) trivial (R _ ⟨_, rfl⟩) ?_
  · rw [List.mem_singleton.mp hb]
    show s₁.heap.objs.size < (s₁.heap.push _).objs.size
    rw [Heap.size_push]; exact Nat.lt_succ_self _
  · intro D C h tk m' ys news' F' N' o1 hn hC₀ hD₀ hCL hDL hCD offC fin
    refine ⟨m', hn, fun h'' hs'' => fin D h'' tk (F'.change hs'' hCL hC₀) (fun p hp => ?_) o1⟩
    refine ⟨hs''.extBut _ _ ?_ (N' p hp).1, (N' p hp).2⟩
    rcases List.mem_cons.mp hp with rfl | hp
    · exact Ne.symm hCD
    · exact offC p hp

theorem strs_snoc {y : Str} {t : Tok} : ∀ {vs : List Value} {ys : List Str}, StrsAre vs ys → StrsAre (vs ++ [.str y t]) (ys ++ [y])
  | _, _, .nil => .cons y t .nil
  | _, _, .cons z u h => .cons z u (strs_snoc h)

noncomputable def TurnYes (news : List (Addr × Obj)) (b : Bool) (c : Nat) (y : Value) (news' : List (Addr × Obj)) : Prop := news' = news ∧ b = true ∧ ∃ t, y = .str ⟨#[c]⟩ t
noncomputable def TurnNo (news : List (Addr × Obj)) (b : Bool) (news' : List (Addr × Obj)) : Prop := news' = news ∧ b = false

noncomputable def KeepsSigns (_k : Nat → Bool) : Prop := True

theorem signs_rest {ct elt : Expr} {v : Str} {scope : Scope} {cl : List (Str × Addr)} {x : Str} (keep : Nat → Bool) {Fin : List Value → List (Addr × Obj) → Prop} {news : List (Addr × Obj)}
    (turn : ∀ (i c : Nat) u I oI C oC D m₂ ys h tk (E' : Value → Shared → Prop), x.cps[i]? = some c → NsObj oC m₂ → m₂ v = some (.str ⟨#[c]⟩ u) → Fr h₀ L h m → News h₀ L h ((I, oI) :: (C, oC) :: (D, lst ys) :: news) → Off3 I C D news → ((@Ne Nat I C) ∧ (@Ne Nat I D) ∧ (@Ne Nat C D)) →
      wpAny (model prog w) A (isTrue ct (compEnvC scope cl C env) (eval ct (compEnvC scope cl C env))) (fun b s' => if b = true then wpAny (model prog w) A (eval elt (compEnvC scope cl C env)) (CompEnd h₀ L m { s with heap := h, toks := tk } I oI C oC D (lst ys) (fun _ => True) (TurnYes news (keep c) c)) E' s'
        else CompEnd h₀ L m { s with heap := h, toks := tk } I oI C oC D (lst ys) (fun _ => True) (fun _ news' => TurnNo news (keep c) news') Value.none s') E' { s with heap := h, toks := tk })
    (fin : ∀ ys, StrsAre ys ((x.cps.toList.filter keep).map fun c => ⟨#[c]⟩) → Fin ys news) : CompRestT prog w A h₀ L m env ct elt v scope cl s (fun _ => True) (SignAt x) Fin x.cps.size 0 [] news := by
  have key : ∀ (j i : Nat) (ys : List Value), i + j = x.cps.size → StrsAre ys (((x.cps.toList.take i).filter keep).map fun c => ⟨#[c]⟩) → CompRestT prog w A h₀ L m env ct elt v scope cl s (fun _ => True) (SignAt x) Fin j i ys news := by
    intro j
    induction j with
    | zero =>
      intro i ys hi hy
      have e : x.cps.toList.take i = x.cps.toList := List.take_of_length_le (by simp; omega)
      rw [e] at hy
      exact fin ys hy
    | succ j ih =>
      intro i ys hi hy
      refine CompRestT.succ ?_
      rintro v' I oI C oC D m₂ h tk E' ⟨c, u, hc, rfl⟩ hC hx F N off ne
      have hs : x.cps.toList.take (i + 1) = x.cps.toList.take i ++ [c] := by
        rw [List.take_add_one]
        have : x.cps.toList[i]? = some c := by simpa using hc
        rw [this]; rfl
      refine wpAny_mono (turn i c u I oI C oC D m₂ ys h tk E' hc hC hx F N off ne) (fun b s₂ hq => ?_) fun _ _ e => e
      cases b with
      | true =>
        simp only [if_true] at hq ⊢
        refine wpAny_mono hq (fun y s₃ hr => ?_) fun _ _ e => e
        obtain ⟨h', tk', nw, e, F', N', off', hS, hn, hk, t, hy'⟩ := hr
        rw [hn] at N' off'
        refine ⟨h', tk', news, e, F', N', off', hS, ?_⟩
        rw [hy']
        refine ih (i + 1) _ (by omega) ?_
        rw [hs, List.filter_append, List.map_append]
        have e1 : (List.filter keep [c]).map (fun c => (⟨#[c]⟩ : Str)) = [⟨#[c]⟩] := by simp [hk]
        rw [e1]
        exact strs_snoc hy
      | false =>
        simp only [Bool.false_eq_true, if_false] at hq ⊢
        obtain ⟨h', tk', nw, e, F', N', off', hS, hn, hk⟩ := hq
        rw [hn] at N' off'
        refine ⟨h', tk', news, e, F', N', off', hS, ih (i + 1) _ (by omega) ?_⟩
        rw [hs, List.filter_append, List.map_append]
        have e1 : (List.filter keep [c]).map (fun c => (⟨#[c]⟩ : Str)) = [] := by simp [hk]
        rw [e1, List.append_nil]
        exact hy
  exact key _ 0 [] (by omega) (by simp only [List.take_zero, List.filter_nil, List.map_nil]; exact .nil)
theorem txt_join_ones (l : List Nat) : Txt.join (Str.ofString "") (l.map fun k => (⟨#[k]⟩ : Str)) = ⟨l.toArray⟩ := by
  rw [eq_of_beq (join_closes (sep := Str.ofString "") (sep' := ⟨#[]⟩) (by decide +kernel)), join_ones]
theorem sum_ones : ∀ l : List Nat, ((l.map fun k => (⟨#[k]⟩ : Str)).map (·.length)).sum = l.length
  | [] => rfl
  | k :: r => by
    simp only [List.map_cons, List.sum_cons, List.length_cons]
    rw [sum_ones r]
    show 1 + r.length = r.length + 1
    omega
theorem join_signs {D : Addr} {items : Array Value} {l : List Nat} {t : Tok} {Q : Value → Shared → Prop} (hl : s.heap.IsList D items) (hi : StrsAre items.toList (l.map fun c => ⟨#[c]⟩)) (hn : l.length ≤ 1000)
    (h : ∀ t' k, Q (.str ⟨l.toArray⟩ t') { s with toks := k }) : wpAny (model prog w) A (call (.builtin "str.join") [.str (Str.ofString "") t, .ref D]) Q E s := by
  refine join_list hl hi ?_ fun t' k => ?_
  · rw [sum_ones]
    have e : (Str.ofString "").length = 0 := by decide +kernel
    rw [e, Nat.mul_zero]
    omega
  · rw [txt_join_ones]; exact h t' k
theorem signs_rest' {ct elt : Expr} {v : Str} {scope : Scope} {cl : List (Str × Addr)} {x : Str} {keep : Nat → Bool} (_hk : KeepsSigns keep) {Fin : List Value → List (Addr × Obj) → Prop} {news : List (Addr × Obj)}
    (turn : ∀ (i c : Nat) u I oI C oC D m₂ ys h tk (E' : Value → Shared → Prop), x.cps[i]? = some c → NsObj oC m₂ → m₂ v = some (.str ⟨#[c]⟩ u) → Fr h₀ L h m → News h₀ L h ((I, oI) :: (C, oC) :: (D, lst ys) :: news) → Off3 I C D news → ((@Ne Nat I C) ∧ (@Ne Nat I D) ∧ (@Ne Nat C D)) →
      wpAny (model prog w) A (isTrue ct (compEnvC scope cl C env) (eval ct (compEnvC scope cl C env))) (fun b s' => if b = true then wpAny (model prog w) A (eval elt (compEnvC scope cl C env)) (CompEnd h₀ L m { s with heap := h, toks := tk } I oI C oC D (lst ys) (fun _ => True) (TurnYes news (keep c) c)) E' s'
        else CompEnd h₀ L m { s with heap := h, toks := tk } I oI C oC D (lst ys) (fun _ => True) (fun _ news' => TurnNo news (keep c) news') Value.none s') E' { s with heap := h, toks := tk })
    (fin : ∀ ys, StrsAre ys ((x.cps.toList.filter keep).map fun c => ⟨#[c]⟩) → Fin ys news) : CompRestT prog w A h₀ L m env ct elt v scope cl s (fun _ => True) (SignAt x) Fin x.cps.size 0 [] news := signs_rest keep turn fin
end
end Mine
end
section
open PySem PySem.W PyProof.Rows PySem.Calls PySem.Spec
set_option maxRecDepth 100000
namespace Mine
theorem slot_str_translate : Slot "str" "translate" "str.translate" :=
  .of (owner := "str") (n := "translate") (by rw [typeLookup_type, builtinLookup_eq_fast]; kernel_rfl) (by decide +kernel) (by decide +kernel) (by decide +kernel)
    (by first | exact .inl (by decide +kernel) | exact .inr (by decide +kernel)) (by rw [isSubtype_type]; kernel_rfl)
theorem type_str_translate : typeOf (.builtin "str.translate") = pure (.type "method_descriptor") := by show builtinType _ = _; rw [builtinType_eq_fast]; kernel_rfl
theorem entry_str_translate : entryFor table "str.translate" = some Builtin.«str.translate» := entryFor_of_tree (by kernel_rfl)
section
variable {prog : Program} {w : World} {A : Around} {E : Value → Shared → Prop} {s : Shared}
theorem method_translate {x : Str} {t : Tok} {pl : Sem Bool} {Q : Value × List Value → Shared → Prop} (h : Q (.builtin "str.translate", [.str x t]) s) :
    wpAny (model prog w) A (getMethod (.str x t) (Str.ofString "translate") pl) Q E s := by
  with_reducible exact GM.of (.str x t) (typeIs_str _ _ _) slot_str_translate type_str_translate GM.noRef h

theorem lookup_keep {d : Addr} {f : Int → Option Value} {c : Nat} {Q : Builtin.Str.Mapped → Shared → Prop} (hh : A.handled = none) (hd : (d == sysModules) = false) (hm : s.heap.MapOf (intKind prog w) d f) (hv : f (c : Int) = none)
    (h : ∀ h' tk, Kept s.heap h' → Q .keep { s with heap := h', toks := tk }) : wpAny (model prog w) A (Builtin.Str.tableLookup (.ref d) c) Q E s := by
  unfold Builtin.Str.tableLookup
  refine wpAny_bind (wpAny_attempt ?_)
  refine wpAny_bind (wpAny_mkInt ?_)
  refine wpAny_getItem_missing_of (intKind_is _ _ _ _) hd hh hm hv fun h' e hx => ?_
  obtain ⟨ob, t, ho, hc, hdt⟩ := hx.there
  refine wpAny_bind (wpAny_isInstance (T := "KeyError") (b := true) ⟨ob, ho, hc⟩ (by rw [isSubtype_type]; kernel_rfl) ?_)
  exact wpAny_bind (wpAny_rule (wpAny_pure (h h' _ hx.keeps)))
theorem wpAny_asInt_str {x : Str} {u : Tok} {Q : Option Int → Shared → Prop} (h : Q none s) : wpAny (model prog w) A (asInt? (.str x u)) Q E s := by
  show wpAny _ _ (do notAStandIn (.str x u); pure none) Q E s
  unfold notAStandIn
  exact wpAny_bind (wpAny_pure (wpAny_pure h))
theorem lookup_text {d : Addr} {f : Int → Option Value} {c : Nat} {x : Str} {u : Tok} {Q : Builtin.Str.Mapped → Shared → Prop} (hm : s.heap.MapOf (intKind prog w) d f) (hv : f (c : Int) = some (.str x u))
    (h : ∀ tk, Q (.text x) { s with toks := tk }) : wpAny (model prog w) A (Builtin.Str.tableLookup (.ref d) c) Q E s := by
  unfold Builtin.Str.tableLookup
  refine wpAny_bind (wpAny_attempt ?_)
  refine wpAny_bind (wpAny_mkInt ?_)
  refine wpAny_getItem_of (intKind_is _ _ _ _) (s := { s with toks := s.toks + 1 }) hm hv ?_
  dsimp only
  refine wpAny_bind (wpAny_asInt_str ?_)
  exact wpAny_bind (wpAny_pure (wpAny_pure (h _)))
theorem translate_one {d : Addr} {c : Nat} {t : Tok} {P : Fin → Shared → Prop} (hc : c < 128)
    (h : wpAny (model prog w) A (Builtin.Str.tableLookup (.ref d) c) (fun r s₁ => match r with
      | .keep => wpAny (model prog w) A (retStr ⟨#[c]⟩) P E s₁
      | .text x => x.length = 2 ∧ wpAny (model prog w) A (Builtin.Str.tableLookup (.ref d) c) (fun r s₂ => r = .text x ∧ wpAny (model prog w) A (retStr x) P E s₂) E s₁
      | _ => False) E s) : wpAny (model prog w) A (Builtin.«str.translate» ⟨[.str ⟨#[c]⟩ t, .ref d], []⟩) P E s := by
  unfold Builtin.«str.translate» Builtin.Str.strOneArg
  refine wpAny_bind (wpAny_bind ?_)
  show wpAny _ _ (pure (Value.str ⟨#[c]⟩ t, Value.ref d)) _ _ _
  refine wpAny_pure ?_
  dsimp only
  refine wpAny_bind ?_
  show wpAny _ _ (pure (⟨#[c]⟩ : Str)) _ _ _
  refine wpAny_pure (wpAny_pure ?_)
  dsimp only
  show wpAny _ _ (if ((1 : Nat) == 0) = true then _ else _) _ _ _
  rw [if_neg (by decide)]
  simp only [List.forIn_toArray, List.forIn_cons, List.forIn_nil]
  have hall : (#[c].all fun x => decide (x < 128)) = true := by simp [hc]
  have htl : Builtin.Str.tooLong 0 = false := by decide +kernel
  simp only [hall, htl, if_true, Bool.false_eq_true, if_false, List.lookup_nil]
  refine wpAny_bind (wpAny_bind (wpAny_bind (wpAny_mono h (fun r s₁ h₁ => ?_) fun _ _ e => e)))
  cases r with
  | keep =>
    refine wpAny_bind (wpAny_pure (wpAny_pure (wpAny_pure ?_)))
    dsimp only
    have h2 : Builtin.Str.tooLong (0 + 1) = false := by decide +kernel
    simp only [h2, Bool.false_eq_true, if_false]
    have e : (⟨[(⟨#[c]⟩ : Str)].reverse.foldl (fun acc p => acc ++ p.cps) #[]⟩ : Str) = ⟨#[c]⟩ := by simp
    rw [e]
    exact h₁
  | text x =>
    obtain ⟨hx, h₁⟩ := h₁
    have h1 : (x.length == 1 && x.cps.all fun x => decide (x < 128)) = false := by rw [hx]; rfl
    simp only [h1, Bool.false_eq_true, if_false]
    refine wpAny_bind (wpAny_pure ?_)
    refine wpAny_bind (wpAny_rule (wpAny_bind (wpAny_mono h₁ (fun r s₂ h₂ => ?_) fun _ _ e => e)))
    obtain ⟨rfl, h₂⟩ := h₂
    refine wpAny_pure (wpAny_pure ?_)
    dsimp only
    have h2 : Builtin.Str.tooLong (0 + x.length) = false := by rw [hx]; decide +kernel
    simp only [h2, Bool.false_eq_true, if_false]
    have e : (⟨[x].reverse.foldl (fun acc p => acc ++ p.cps) #[]⟩ : Str) = x := by simp
    rw [e]
    exact h₂
  | drop => exact h₁.elim
  | char => exact h₁.elim
theorem args_str_translate (a b : Value) : argsOk "str.translate" ⟨[a, b], []⟩ := by
  unfold argsOk; rw [signature?_of (id := "str.translate") (n := ['e', 't', 'a', 'l', 's', 'n', 'a', 'r', 't']) (o := ['r', 't', 's']) (by kernel_rfl) F.owner_str]; kernel_rfl
end
end Mine
end
section
open PySem PySem.W PyProof.Rows PySem.Calls PySem.Spec
set_option maxRecDepth 100000
namespace Mine
section
variable {prog : Program} {w : World} {A : Around} {E : Value → Shared → Prop} {s : Shared} {env : Env} {h₀ : Heap} {x : Str} {body : List Stmt} {Q : Flow → Shared → Prop}
noncomputable abbrev KeepsP (x : Str) (fg : List Str) (m₀ : Str → Option Value) (news : List (Addr × Obj)) (P : Nat → Prop) (i : Nat) (m : Str → Option Value) (nx : List (Addr × Obj)) : Prop :=
  nx = news ∧ P i ∧ ∀ z, z ≠ x → fg.contains z = false → m z = m₀ z
noncomputable abbrev mapP (x : Str) (fg : List Str) (m₀ u : Str → Option Value) (a : Option Value) : Str → Option Value := fun z => if z = x then a else if fg.contains z = true then u z else m₀ z
theorem mapP_eq {fg : List Str} {m₀ m : Str → Option Value} {a : Option Value} (hm : ∀ z, z ≠ x → fg.contains z = false → m z = m₀ z) : (fun z => if z = x then a else m z) = mapP x fg m₀ m a := by
  funext z
  by_cases h1 : z = x
  · simp only [mapP, h1, if_true]
  · simp only [mapP]
    rw [if_neg h1, if_neg h1]
    cases h3 : fg.contains z with
    | true => simp
    | false => simp [hm z h1 h3]
theorem range_P {r : Addr} {b₀ : Int} {t₀ u₀ v₀ : Tok} {n : Nat} {m₀ : Str → Option Value} {news : List (Addr × Obj)} (fg : List Str) (P : Nat → Prop)
    (hh : A.handled = none) (hr : IsRange s.heap r 0 b₀ 1 t₀ u₀ v₀) (hsmall : Builtin.Range.small 0 b₀ 1 = true) (hn : Builtin.Range.rangeSize 0 b₀ 1 = (n : Int)) (F : Fr h₀ env.locals s.heap m₀) (N : News h₀ env.locals s.heap news) (h0 : P 0)
    (turn : ∀ (i : Nat) t (u : Str → Option Value) h tk own, i < n → P i → OwnOff own (news.map (·.1)) → Fr h₀ env.locals h (mapP x fg m₀ u (some (.int (i : Int) t))) → News h₀ env.locals h (news ++ own) →
      wpAny (model prog w) A (execs body env) (InvPostN h₀ env.locals (KeepsP x fg m₀ news P (i + 1)) own (news.map (·.1)) { s with heap := h, toks := tk } Q) E { s with heap := h, toks := tk })
    (done : ∀ (u : Str → Option Value) v h tk, P n → Fr h₀ env.locals h (mapP x fg m₀ u v) → News h₀ env.locals h news → Q .next { s with heap := h, toks := tk }) :
    wpAny (model prog w) A (pyIter (.ref r)) (fun it s₂ => LoopAtV prog w A h₀ env x body Q E it s₂) E s := by
  refine wpAny_pyIter_range hr hsmall ?_
  have W : Walks prog w A s.heap.objs.size [s.heap.objs.size] [s.heap.objs.size] n (fun i v => i < n ∧ ∃ t, v = .int (0 + i * 1) t)
      (fun i h => IsRangeIter h s.heap.objs.size (0 + (i : Nat) * 1) ((n : Int) - (i : Nat)) 1) := (Walks.range hh _ 0 1 n).bound
  refine loop_invN (KeepsP x fg m₀ news P) W ?_ ?_ ?_ ?_ (by show IsRangeIter _ _ _ _ _; rw [hn]; simpa using Heap.get?_push_size _ rfl) (F.push _) (fun p hp => ⟨Heap.get?_push_of_some _ (N p hp).1, (N p hp).2⟩) ⟨rfl, h0, fun _ _ _ => rfl⟩ ?_ ?_
  · intro hm
    exact absurd F.ns.lt ((List.mem_singleton.mp hm) ▸ Nat.lt_irrefl _)
  · intro b hb
    rw [List.mem_singleton.mp hb]
    exact next_is_new F
  · intro p hp hI
    exact absurd (Heap.lt_size (N p hp).1) ((List.mem_singleton.mp hI) ▸ Nat.lt_irrefl _)
  · intro p hp hI
    exact absurd (Heap.lt_size (N p hp).1) ((List.mem_singleton.mp hI) ▸ Nat.lt_irrefl _)
  · rintro i v m₁ nx h tk own hi ⟨_, t, rfl⟩ _ hoff ⟨rfl, hp, hm⟩ F' N'
    rw [mapP_eq hm, Int.mul_one, Int.zero_add] at F'
    exact turn i t m₁ h tk own hi hp hoff F' N'
  · rintro m₁ nx h tk ⟨rfl, hp, hm⟩ F' N'
    have e : m₁ = mapP x fg m₀ m₁ (m₁ x) := by
      rw [← mapP_eq hm]
      funext z
      by_cases h1 : z = x
      · simp [h1]
      · rw [if_neg h1]
    rw [e] at F'
    exact done m₁ _ h tk hp F' N'
end
end Mine
end
section
open PySem PySem.W PyProof.Rows PySem.Calls PySem.Spec
set_option maxRecDepth 100000
set_option maxHeartbeats 8000000
namespace Mine
noncomputable def TurnPost (P : Nat → Shared → Prop) (r : Nat) (Q : Flow → Shared → Prop) (f : Flow) (s : Shared) : Prop :=
  match f with
  | .next => ∃ r', r = r' + 1 ∧ P r' s
  | .cont => ∃ r', r = r' + 1 ∧ P r' s
  | .brk => Q .next s
  | .ret v => Q (.ret v) s
section
variable {prog : Program} {w : World} {A : Around} {E : Value → Shared → Prop} {env : Env} {test : Expr} {body orelse : List Stmt} {Q : Flow → Shared → Prop}
theorem whl_ind (P : Nat → Shared → Prop)
    (turn : ∀ r s, P r s → wpAny (model prog w) A (isTrue test env (eval test env)) (fun b s₂ => WhlIf b (wpAny (model prog w) A (execs body env) (TurnPost P r Q) E s₂) (wpAny (model prog w) A (execs orelse env) Q E s₂)) E s)
    (hE : PassesOwn (model prog w) A env E) : ∀ r s, P r s → WhlRest prog w A E env test body orelse Q (r + 1) s := by
  have key : ∀ r s, P r s → (∀ r' s', r = r' + 1 → P r' s' → WhlRest prog w A E env test body orelse Q r s') → WhlRest prog w A E env test body orelse Q (r + 1) s := by
    intro r s hp ih
    refine whl_turn hE (wpAny_mono (turn r s hp) (fun b s₂ h => ?_) fun _ _ x => x)
    cases b with
    | false => exact WhlIf.no rfl (by unfold WhlIf at h; rw [if_neg Bool.false_ne_true] at h; exact h)
    | true =>
      refine WhlIf.yes rfl ?_
      unfold WhlIf at h
      rw [if_pos rfl] at h
      refine wpAny_mono h (fun f s₃ h₃ => ?_) fun _ _ x => x
      cases f with
      | next =>
        obtain ⟨r', e, h⟩ := h₃
        exact ih r' _ e h
      | cont =>
        obtain ⟨r', e, h⟩ := h₃
        exact ih r' _ e h
      | brk => exact h₃
      | ret v => exact h₃
  intro r
  induction r with
  | zero => exact fun s hp => key 0 s hp fun r' s' e => absurd e (by omega)
  | succ r ih =>
    refine fun s hp => key (r + 1) s hp fun r' s' e h => ?_
    have q : r' = r := by omega
    subst q
    exact ih s' h
end
noncomputable def At (x : Str) (i : Nat) (p : List Nat) : Prop := ∀ d c, p[d]? = some c → x.cps[i + d]? = some c
theorem At.item {x : Str} {i : Nat} {p : List Nat} (H : At x i p) (d : Nat) {k : Int} {c : Nat} (e : k = (i : Int) + d) (h : p[d]? = some c) : Txt.item x k = ⟨#[c]⟩ := by
  have hh := H d c h
  have ek : k = ((i + d : Nat) : Int) := by omega
  subst ek
  have hlt : i + d < x.cps.size := by
    rcases Nat.lt_or_ge (i + d) x.cps.size with q | q
    · exact q
    · rw [Array.getElem?_eq_none q] at hh; cases hh
  unfold Txt.item Txt.charAt
  rw [seqIndex_of (by omega) (by show ((i + d : Nat) : Int) < (x.cps.size : Int); omega)]
  show (⟨#[((x.cps[(((i + d : Nat) : Int)).toNat]?)).getD 0]⟩ : Str) = _
  rw [Int.toNat_natCast, hh]
  rfl
open PySem.Builtin.Str in
theorem slice_idx {a b n : Nat} (h1 : a ≤ b) (h2 : b ≤ n) : strSliceIndices (some (a : Int)) (some (b : Int)) 1 n = (List.range (b - a)).map (a + ·) := by
  unfold strSliceIndices sliceRange
  have q1 : ¬ ((a : Int) < 0) := by omega
  have q2 : ¬ ((b : Int) < 0) := by omega
  simp only [show (1 : Int) > 0 by decide, if_true, q1, q2, if_false]
  have e1 : max 0 (min (a : Int) (n : Int)) = a := by omega
  have e2 : max 0 (min (b : Int) (n : Int)) = b := by omega
  rw [e1, e2]
  have e3 : (if (a : Int) < b then ((b : Int) - a + 1 - 1) / 1 else 0).toNat = b - a := by
    split <;> (try rw [Int.ediv_one]) <;> omega
  rw [e3]
  refine List.map_congr_left fun k _ => ?_
  omega
theorem slice_eq {x : Str} {a b : Nat} (h1 : a ≤ b) (h2 : b ≤ x.length) : Txt.slice x (some (a : Int)) (some (b : Int)) = ⟨((x.cps.toList.drop a).take (b - a)).toArray⟩ := by
  have hx : x.length = x.cps.toList.length := (Array.length_toList).symm
  unfold Txt.slice
  rw [slice_idx h1 h2]
  split
  · rename_i h
    simp only [beq_self_eq_true, Bool.true_and, List.length_map, List.length_range, beq_iff_eq] at h
    have ha : a = 0 := by omega
    subst ha
    have hb : b - 0 = x.cps.toList.length := by omega
    rw [hb, List.drop_zero, List.take_length]
  · congr 1
    congr 1
    apply List.ext_getElem?
    intro k
    have e : ∀ l : List Nat, (∀ j ∈ l, j < x.cps.toList.length) → l.filterMap (x.cps[·]?) = l.map fun j => x.cps.toList.getD j 0 := by
      intro l hl
      induction l with
      | nil => rfl
      | cons j r ih =>
        have hj := hl j (.head _)
        have e1 : x.cps[j]? = some (x.cps.toList.getD j 0) := by
          rw [← Array.getElem?_toList, List.getD_eq_getElem?_getD, List.getElem?_eq_getElem hj]; rfl
        rw [List.filterMap_cons, e1, List.map_cons, ih fun j hj => hl j (.tail _ hj)]
    rw [e _ (fun j hj => by obtain ⟨k, hk, rfl⟩ := List.mem_map.mp hj; have := List.mem_range.mp hk; omega)]
    rw [List.map_map, List.getElem?_map, List.getElem?_take, List.getElem?_drop]
    by_cases hk : k < b - a
    · rw [List.getElem?_range hk, if_pos hk]
      show some (x.cps.toList.getD (a + k) 0) = _
      rw [List.getD_eq_getElem?_getD, List.getElem?_eq_getElem (by omega)]; rfl
    · rw [if_neg hk, List.getElem?_eq_none (by rw [List.length_range]; omega)]; rfl
theorem At.slice {x : Str} {i : Nat} {p : List Nat} (H : At x i p) {a b : Nat} {l u : Int} (el : l = (i : Int) + a) (eu : u = (i : Int) + b) (h1 : a ≤ b) (h2 : b ≤ p.length) (hx : i + b ≤ x.length) : Txt.slice x (some l) (some u) = ⟨((p.drop a).take (b - a)).toArray⟩ := by
  rw [el, eu, show ((i : Int) + a) = ((i + a : Nat) : Int) by omega, show ((i : Int) + b) = ((i + b : Nat) : Int) by omega, slice_eq (by omega) hx]
  congr 2
  apply List.ext_getElem?
  intro k
  rw [List.getElem?_take, List.getElem?_take, show i + b - (i + a) = b - a by omega]
  by_cases hk : k < b - a
  · rw [if_pos hk, if_pos hk, List.getElem?_drop, List.getElem?_drop]
    have hp : p[a + k]? = some (p[a + k]'(by omega)) := List.getElem?_eq_getElem (by omega)
    rw [hp, show i + a + k = i + (a + k) by omega, Array.getElem?_toList]
    exact H _ _ hp
  · rw [if_neg hk, if_neg hk]
end Mine
end
section
open PySem PySem.W PyProof.Rows PySem.Calls PySem.Spec
set_option maxRecDepth 100000
set_option maxHeartbeats 8000000
namespace Mine
section
variable {prog : Program} {w : World} {A : Around} {E : Value → Shared → Prop} {s : Shared} {h₀ : Heap} {L : Addr} {m mg : Str → Option Value} {nws : List (Addr × Obj)} {bm : Addr} {ob : Obj}
theorem gen_one {env : Env} {elt iter : Expr} {x : Str} {px : Pos} {scope : Scope} {cl : List (Str × Addr)} {pos : Pos} {Q : Value → Shared → Prop}
    (C : CodeHd h₀ 89 85) (M : BMod h₀ env.globals mg bm ob) (hlim : h₀.NoLimit) (hcode : env.code = .ref 89)
    (hh : A.handled = none) (hco : scope.isCoroutine = false) (hclos : closureFor scope env = pure cl) (hcell : ∀ y ∈ scope.names, y.2 ≠ .cell) (h0 : scope.names.lookup (".0" : Str) = some NameKind.local)
    (hx : scope.names.lookup x = some .local) (hkind : scope.kind = .function) (hroom : A.depth < recursionLimit) (hs : ∀ x, genFold iter env x = pure x)
    (h : wpAny (model prog w) A (eval iter env) (fun xv s₁ => ∃ l v ps, xv = .ref l ∧ s₁.heap.IsList l #[v] ∧ Fr h₀ L s₁.heap m ∧ News h₀ L s₁.heap ((85, tabObj ps) :: nws) ∧ TriplesOk ps.toList ∧ h₀.get? 85 = none ∧ (∀ p ∈ nws, p.1 ≠ 85) ∧ AllBare s₁.gens ∧ ∃ F : Value → Prop,
        (∀ (A' : Around) E' (t : Shared) Cf m₂ code, A'.handled = none → t.heap.Ns Cf m₂ → m₂ x = some v → wpAny (model prog w) A' (eval elt (genEnv scope cl Cf code builtinsNs env)) (fun y s₃ => F y ∧ Keeps t s₃) E' t) ∧
        (∀ a K s₅ ps', Fr h₀ L s₅.heap m → News h₀ L s₅.heap ((85, tabObj ps') :: nws) → TriplesOk ps'.toList → AllBare s₅.gens → s₅.os = s₁.os → L ≤ K → (∀ p ∈ (85, tabObj ps') :: nws, p.1 ≤ K) → Gen prog w A K a 1 (fun _ y => F y) s₅ → Q (.ref a) s₅)) E s) :
    wpAny (model prog w) A (eval (.GeneratorExp elt [⟨.Name x px, iter, [], 0⟩] scope pos) env) Q E s := by
  refine wpAny_GeneratorExp_walksQ hh hco hclos hcell h0 hx hkind hroom (wpAny_mono h (fun xv s₁ h₁' => ?_) fun _ _ e => e) hs
  obtain ⟨l, v, ps, rfl, hl, F₁, N₁, ht, h85, hn, G₁, F, hq, hQ⟩ := h₁'
  have hp := (N₁ (85, tabObj ps) (.head _)).1
  have hll : l < s₁.heap.objs.size := by obtain ⟨_, e, _⟩ := hl; exact Heap.lt_size e
  have hl85 : l ≠ 85 := fun e => by
    obtain ⟨o, ho, hc, _⟩ := hl
    rw [e, hp] at ho; cases ho; exact absurd hc (by simp)
  have hLs : L < s₁.heap.objs.size := F₁.ns.lt
  have h85s : 85 < s₁.heap.objs.size := Heap.lt_size hp
  have hL85 : L ≠ 85 := Frm.ne85 F₁ hp
  -- what stands after the code is fetched
  have rest : ∀ (code : Value) (h₃ : Heap) (tk₃ : Nat) (ps' : Array Value), Heap.ExtBut 85 (s₁.heap.push { cls := .type "list_iterator", data := .fields #[.ref l, .int 0 0] }) h₃ → (s₁.heap.push { cls := .type "list_iterator", data := .fields #[.ref l, .int 0 0] }).objs.size ≤ h₃.objs.size →
      h₃.get? 85 = some (tabObj ps') → TriplesOk ps'.toList →
      wpAny (model prog w) A (builtinsFor env.globals env.builtins) (fun bi s₄ =>
        ∃ I fp wr n₀ P St₀ pz F', Value.ref s₁.heap.objs.size = .ref I ∧ (∀ A' : Around, A'.handled = none → Walks prog w A' I fp wr n₀ P St₀) ∧ St₀ 0 s₄.heap ∧ (∀ b ∈ fp, b < s₄.heap.objs.size) ∧ s₄.heap.NoLimit ∧ cStatics ∉ wr ∧
          (∀ href : Heap, (∀ b o, s₄.heap.get? b = some o → href.get? b = some o) →
            QuietGen prog w (genEnv scope cl s₄.heap.objs.size code bi env) x [] elt (List.range s₄.heap.objs.size) wr P pz F' href) ∧
          (∀ a h₅ tk gs, gs.bare = true → s₄.heap.objs.size < a → h₅.objs.size = a + 1 → (∀ b o, s₄.heap.get? b = some o → h₅.get? b = some o) →
            WalksS prog w A.in4 a (a :: s₄.heap.objs.size :: List.range s₄.heap.objs.size) (s₄.heap.objs.size :: wr) (GenOnlyQ s₄.gens.size) (passing pz n₀ 0).length
              (fun j y => ∃ i, (passing pz n₀ 0)[j]? = some i ∧ F' i y) (GenAt prog w A.in4 a s₄.gens.size s₄.heap.objs.size (List.range s₄.heap.objs.size) wr pz n₀ F') →
            GenAt prog w A.in4 a s₄.gens.size s₄.heap.objs.size (List.range s₄.heap.objs.size) wr pz n₀ F' 0 { s₄ with gens := s₄.gens.push gs, toks := tk, heap := h₅ } →
            Q (.ref a) { s₄ with gens := s₄.gens.push gs, toks := tk, heap := h₅ })) E { s₁ with heap := h₃, toks := tk₃ } := by
    intro code h₃ tk₃ ps' hx₃ hsz hp' ht'
    have keep3 : ∀ b o, h₀.get? b = some o → h₃.get? b = some o := fun b o e => hx₃ b o (fun q => by rw [q, h85] at e; cases e) (Heap.get?_push_of_some _ (F₁.keep b o e))
    have M₃ : BMod h₃ env.globals mg bm ob := M.keeps keep3
    have F₃ : Fr h₀ L h₃ m := by
      obtain ⟨oL, a1, a2, e, a3⟩ := F₁.ns
      exact ⟨⟨oL, a1, a2, hx₃ _ _ hL85 (Heap.get?_push_of_some _ e), a3⟩, keep3, F₁.above⟩
    have N₃ : News h₀ L h₃ ((85, tabObj ps') :: nws) := fun q hq' => by
      rcases List.mem_cons.mp hq' with rfl | hq'
      · exact ⟨hp', hL85.symm, h85⟩
      · have n := N₁ q (.tail _ hq')
        exact ⟨hx₃ _ _ (hn q hq') (Heap.get?_push_of_some _ n.1), n.2⟩
    have hlim₃ : h₃.NoLimit := hlim.keeps keep3
    rw [Heap.size_push] at hsz
    refine wpAny_builtinsFor M₃.ns M₃.name M₃.ne M₃.obj M₃.cls M₃.dict M₃.data ?_
    have hne : s₁.heap.objs.size ≠ 85 := Nat.ne_of_gt h85s
    have hst : h₃.get? s₁.heap.objs.size = some { cls := .type "list_iterator", data := .fields #[.ref l, .int 0 0] } := hx₃ _ _ hne (Heap.get?_push_size _ rfl)
    have hl3 : h₃.IsList l #[v] := by
      obtain ⟨o, e, r⟩ := hl
      exact ⟨o, hx₃ _ _ hl85 (Heap.get?_push_of_some _ e), r⟩
    have hcs : cStatics < s₁.heap.objs.size := by
      obtain ⟨_, hns, _⟩ := hlim
      obtain ⟨o, es, ep, ho, _⟩ := hns
      exact Heap.lt_size (F₁.keep _ _ ho)
    refine ⟨s₁.heap.objs.size, [s₁.heap.objs.size, l], [s₁.heap.objs.size], 1, _, _, fun _ => true, fun _ y => F y, rfl, (fun A' hA => Walks.list hA _ _ (Nat.ne_of_lt hll) #[v]), ⟨⟨_, hst, rfl, rfl⟩, hl3⟩, ?_, hlim₃, ?_, ?_, ?_⟩
    · intro b hb
      show b < h₃.objs.size
      rcases List.mem_cons.mp hb with rfl | hb
      · exact hsz
      · rcases List.mem_cons.mp hb with rfl | hb
        · exact Nat.lt_trans hll hsz
        · cases hb
    · intro hm
      rcases List.mem_cons.mp hm with e | hm
      · exact absurd hcs (by rw [e]; exact Nat.lt_irrefl _)
      · cases hm
    · intro href _
      refine ⟨fun A' E' i v' s₂ m₂ hA hP hns hm _ => wpAny_pure ⟨rfl, _, _, rfl, fun _ _ e => e⟩, fun A' E' i v' s₂ m₂ hA hP _ hns hm _ => ?_⟩
      have hv : v' = v := by
        have hP' : (#[v] : Array Value)[i]? = some v' := hP
        cases i with
        | zero => simpa using hP'.symm
        | succ k => simp at hP'
      subst hv
      exact hq A' E' s₂ _ m₂ _ hA hns hm
    · intro a h₅ tk gs hgb hag hsz₅ hk₅ W hat
      have hag' : h₃.objs.size < a := hag
      refine hQ a (s₁.heap.objs.size - 1) _ ps' (F₃.keeps hk₅) (fun q hq' => ⟨hk₅ _ _ (N₃ q hq').1, (N₃ q hq').2⟩) ht' (G₁.push hgb) rfl (Nat.le_sub_one_of_lt hLs) (fun q hq' => by
        rcases List.mem_cons.mp hq' with rfl | hq'
        · exact Nat.le_sub_one_of_lt h85s
        · exact Nat.le_sub_one_of_lt (Heap.lt_size (N₁ q (.tail _ hq')).1)) ?_
      have X : Gen prog w A (s₁.heap.objs.size - 1) a 1 (fun j y => ∃ i, (passing (fun _ => true) 1 0)[j]? = some i ∧ F y) { { s₁ with heap := h₃, toks := tk₃ } with gens := s₁.gens.push gs, toks := tk, heap := h₅ } := by
        refine ⟨_, _, _, _, W, hat, (fun i s' st => st.1.typeIs), List.mem_cons_self, ?_, ?_⟩
        · intro b hb
          show b < h₅.objs.size
          rw [hsz₅]
          rcases List.mem_cons.mp hb with rfl | hb
          · exact Nat.lt_succ_self _
          · rcases List.mem_cons.mp hb with rfl | hb
            · exact Nat.lt_succ_of_lt hag
            · exact Nat.lt_succ_of_lt (Nat.lt_trans (List.mem_range.mp hb) hag)
        · intro b hb
          have h1 : s₁.heap.objs.size - 1 < s₁.heap.objs.size := Nat.sub_one_lt (Nat.ne_of_gt (Nat.lt_of_le_of_lt (Nat.zero_le _) hLs))
          rcases List.mem_cons.mp hb with rfl | hb
          · exact Nat.lt_trans h1 hsz
          · rcases List.mem_cons.mp hb with rfl | hb
            · exact h1
            · cases hb
      exact X.imp fun j y hy => hy.choose_spec.2
  refine wpAny_pyIter_list hl ⟨(hlim.keeps F₁.keep).push _, ?_⟩
  have hpp : (s₁.heap.push { cls := .type "list_iterator", data := .fields #[.ref l, .int 0 0] }).get? 85 = some (tabObj ps) := Heap.get?_push_of_some _ hp
  have CP : CodeHd (s₁.heap.push { cls := .type "list_iterator", data := .fields #[.ref l, .int 0 0] }) 89 85 := (C.keeps F₁.keep).keeps fun _ _ e => Heap.get?_push_of_some _ e
  cases hc : codeAmong pos ps.toList with
  | none =>
    refine wpAny_genexprCodeX hcode (CP.code hpp ht) (CP.tab hpp) hc fun c' h₃ tk₃ hx₃ hge hlt hcode₃ _ htab₃ _ => ?_
    exact rest (.ref c') h₃ tk₃ _ hx₃ (Nat.le_trans hge (Nat.le_of_lt hlt)) htab₃.2 (by rw [Array.toList_append]; exact TriplesOk_snoc _ _ _ _ ht)
  | some cv =>
    refine wpAny_genexprCode_hit hcode (CP.code hpp ht) hc ?_
    exact rest cv _ _ ps (fun _ _ _ e => e) (Nat.le_refl _) hpp ht
theorem join_gen1 {sep f : Str} {t : Tok} {a K : Addr} {Q : Value → Shared → Prop} (F : Fr h₀ L s.heap m) (N : News h₀ L s.heap nws) (G : AllBare s.gens) (X : Gen prog w A K a 1 (fun _ y => ∃ u, y = .str f u) s) (hLK : L ≤ K) (hK : ∀ p ∈ nws, p.1 ≤ K)
    (hf : f.length ≤ 1000) (hs : sep.length ≤ 10)
    (hQ : ∀ s' t', Fr h₀ L s'.heap m → News h₀ L s'.heap nws → AllBare s'.gens → s'.os = s.os → Q (.str f t') s') :
    wpAny (model prog w) A (call (.builtin "str.join") [.str sep t, .ref a]) Q E s := by
  have e : (List.range 1).map (fun _ => f) = [f] := rfl
  have ej : Txt.join sep [f] = f := by
    have := eq_of_beq (join_closes (sep := sep) (sep' := sep) (ys := [f]) rfl)
    rw [this]; rfl
  refine join_rowsK F G X hLK (fun _ => f) (fun j v hv => hv) ?_ (fun s' t' F' G' ho hk => ?_) (by decide)
  · rw [e]
    exact joinOk_of_weight (by simp only [List.map_cons, List.map_nil, List.sum_cons, List.sum_nil, List.length_cons, List.length_nil]; omega) (by omega)
  · rw [e, ej]
    exact hQ s' t' F' (fun p hp => ⟨hk _ _ (hK p hp) (N p hp).1, (N p hp).2⟩) G' ho
end
end Mine
end
section
open PySem PySem.W PyProof.Rows PySem.Calls PySem.Spec
set_option maxRecDepth 100000
set_option maxHeartbeats 8000000
namespace Mine
section
variable {M : Model} {A : Around} {E : Value → Shared → Prop} {s : Shared} {h₀ : Heap} {L : Addr} {m mg mb : Str → Option Value} {nws : List (Addr × Obj)} {ps : Array Value}
  {p : Program} {loose : List Str} {mean : ExcName → Option Value} {params : Arguments} {body : Expr} {scope : Scope} {pos : Pos} {clos : List (Str × Addr)} {env : Env}
theorem lam_any {Q : Value → Shared → Prop} (C : CodeHd h₀ 89 85) (F : Fr h₀ L s.heap m) (N : News h₀ L s.heap ((85, tabObj ps) :: nws)) (h85 : h₀.get? 85 = none) (hn : ∀ p ∈ nws, p.1 ≠ 85) (ht : TriplesOk ps.toList) (T : Top p loose mean mg mb h₀)
    (hdef : defaultsOf params env = ([], [])) (hge : env.globals = mainGlobals) (hcode : env.code = .ref 89) (hcl : closureFor scope env = pure clos)
    (h : ∀ f fd h' tk ps', TriplesOk ps'.toList → (∀ p ∈ (85, tabObj ps) :: nws, p.1 ≠ f) → Fr h₀ L h' m → News h₀ L h' ((85, tabObj ps') :: (f, { cls := .type "function", data := .func fd }) :: nws) → Q (.ref f) { s with heap := h', toks := tk }) :
    wpAny M A (eval (.Lambda params body scope pos) env) Q E s := by
  refine kla_eval hdef ?_
  have hp := N (85, tabObj ps) (.head _)
  have hgs := T.g.keeps F.keep
  obtain ⟨bm, ob, b1, b2, b3, b4, b5, b6⟩ := T.bmain
  have hgP : mainGlobals ≠ 85 := fun q => by
    obtain ⟨o, es, ep, e, hd, _⟩ := hgs
    rw [q, hp.1] at e; cases e; cases hd
  have hbP : bm ≠ 85 := fun q => by
    have e := F.keep _ _ b3
    rw [q, hp.1] at e; cases e; cases b4
  have hbG : bm ≠ mainGlobals := fun q => by
    obtain ⟨o, es, ep, e, hd, _⟩ := T.g
    rw [q, e] at b3; cases b3; rw [hd] at b6; cases b6
  have fresh : ∀ b, L < b → h₀.get? b = none := fun b hb => Heap.get?_none_of_le (Nat.le_trans F.above (Nat.le_of_lt hb))
  have hLs : L < s.heap.objs.size := F.ns.lt
  cases hc : codeAmong pos ps.toList with
  | none =>
    refine kla_makeFunction (mg := mg) hcl hge hgs hcode (C.keeps F.keep) hp.1 ht hc hgP ⟨bm, ob, b1, b2, hbG, hbP, F.keep _ _ b3, b4, b5, b6⟩ fun c' ctv h' tk hx hge hlt hrec htb => ?_
    have old : ∀ b o, h₀.get? b = some o → h'.get? b = some o := fun b o e => hx b o (fun q => by rw [q, h85] at e; cases e) (F.keep b o e)
    have hss : s.heap.objs.size < h'.objs.size := Nat.lt_of_le_of_lt hge hlt
    have hL' : L < h'.objs.size := Nat.lt_trans hLs hss
    have key : ∀ fd, Q (.ref h'.objs.size) { s with heap := h'.push { cls := .type "function", data := .func fd }, toks := tk } := by
     intro fd
     refine h h'.objs.size fd _ tk (ps ++ #[rawInt pos.line, rawInt pos.col, .ref c']) (by rw [Array.toList_append]; exact TriplesOk_snoc _ _ _ _ ht) (fun q hq e => ?_) ⟨(F.ns.extBut hx hp.2.1.symm).push _, fun b o e => Heap.get?_push_of_some _ (old b o e), F.above⟩ (fun q hq => ?_)
     · have := Heap.lt_size (N q hq).1
       exact absurd (Nat.lt_trans this hss) (by rw [e]; exact Nat.lt_irrefl _)
     · rcases List.mem_cons.mp hq with rfl | hq
       · exact ⟨Heap.get?_push_of_some _ htb, hp.2⟩
       · rcases List.mem_cons.mp hq with rfl | hq
         · exact ⟨Heap.get?_push_size _ rfl, Nat.ne_of_gt hL', fresh _ hL'⟩
         · have n := N q (.tail _ hq)
           exact ⟨Heap.get?_push_of_some _ (hx _ _ (hn q hq) n.1), n.2⟩
    exact key _
  | some cv =>
    refine kla_makeFunctionHit (mg := mg) hcl hge hgs hcode (C.keeps F.keep) hp.1 ht hc ⟨bm, ob, b1, b2, hbG, hbP, F.keep _ _ b3, b4, b5, b6⟩ fun ctv h' tk hk hsz => ?_
    have hL' : L < h'.objs.size := Nat.lt_of_lt_of_le hLs hsz
    have key : ∀ fd, Q (.ref h'.objs.size) { s with heap := h'.push { cls := .type "function", data := .func fd }, toks := tk } := by
     intro fd
     refine h h'.objs.size fd _ tk ps ht (fun q hq e => ?_) ⟨(F.ns.keeps hk).push _, fun b o e => Heap.get?_push_of_some _ (hk b o (F.keep b o e)), F.above⟩ (fun q hq => ?_)
     · have := Heap.lt_size (N q hq).1
       exact absurd (Nat.lt_of_lt_of_le this hsz) (by rw [e]; exact Nat.lt_irrefl _)
     · rcases List.mem_cons.mp hq with rfl | hq
       · exact ⟨Heap.get?_push_of_some _ (hk _ _ hp.1), hp.2⟩
       · rcases List.mem_cons.mp hq with rfl | hq
         · exact ⟨Heap.get?_push_size _ rfl, Nat.ne_of_gt hL', fresh _ hL'⟩
         · have n := N q (.tail _ hq)
           exact ⟨Heap.get?_push_of_some _ (hk _ _ n.1), n.2⟩
    exact key _
end
end Mine
end
section
open PySem PySem.W PyProof.Rows PySem.Calls PySem.Spec
set_option maxRecDepth 100000
set_option maxHeartbeats 8000000
namespace Mine
theorem slot_sub : Slot "re.Pattern" "sub" "re.Pattern.sub" :=
  .of (owner := "re.Pattern") (n := "sub") (by rw [typeLookup_type, builtinLookup_eq_fast]; kernel_rfl) (by decide +kernel) (by decide +kernel) (by decide +kernel)
    (by first | exact .inl (by decide +kernel) | exact .inr (by decide +kernel)) (by rw [isSubtype_type]; kernel_rfl)
theorem type_sub : typeOf (.builtin "re.Pattern.sub") = pure (.type "method_descriptor") := by show builtinType _ = _; rw [builtinType_eq_fast]; kernel_rfl
theorem xc_text {s : Shared} {h : Heap} {tk : Nat} {news : List (Addr × Obj)} {t : Tok} {x y : Str} (D : PySem.W.X.Mem s.heap h [] news) (e : x = y) :
    ∃ t', Value.str x t = .str y t' ∧ Kept s.heap h ∧ ({ heap := h, gens := s.gens, drawn := s.drawn, toks := tk, os := s.os } : Shared) = { s with heap := h, toks := tk } :=
  ⟨t, by rw [e], fun b o e => D.keep b o e (by simp [PySem.W.X.away]), rfl⟩
section
local macro_rules | `(tactic| x_close) => `(tactic| exact ⟨_, _, xc_text (by assumption) (by kernel_rfl)⟩)
noncomputable def SubOk (x : List Nat) : Prop := ∀ (w : World) (s : Shared) (t : Tok) (f : Addr) (fd : FuncData) (_ : (Mine.K w.params).In s.heap) (_ : s.heap.get? f = some { cls := .type "function", data := .func fd }),
    wpAny (model PySem.Challenge.pw_rx0053_01 w) bigA (call (.builtin "re.Pattern.sub") [.ref 64, .ref f, .str ⟨x.toArray⟩ t])
      (fun v s' => ∃ h tk, ∃ t', v = .str ⟨x.toArray⟩ t' ∧ Kept s.heap h ∧ s' = { s with heap := h, toks := tk }) (fun _ _ => False) s
theorem sub_0 : SubOk [115, 120] := by
  intro w s t f fd X ho
  x_run
theorem sub_1 : SubOk [115, 83] := by
  intro w s t f fd X ho
  x_run
theorem sub_2 : SubOk [116, 120] := by
  intro w s t f fd X ho
  x_run
theorem sub_3 : SubOk [116, 84] := by
  intro w s t f fd X ho
  x_run
theorem sub_4 : SubOk [33, 115, 83] := by
  intro w s t f fd X ho
  x_run
theorem sub_5 : SubOk [33, 115, 120] := by
  intro w s t f fd X ho
  x_run
theorem sub_6 : SubOk [33, 116, 84] := by
  intro w s t f fd X ho
  x_run
theorem sub_7 : SubOk [33, 116, 120] := by
  intro w s t f fd X ho
  x_run
theorem sub_8 : SubOk [114, 92, 45] := by
  intro w s t f fd X ho
  x_run
theorem sub_9 : SubOk [119, 92, 45] := by
  intro w s t f fd X ho
  x_run
theorem sub_10 : SubOk [120, 92, 45] := by
  intro w s t f fd X ho
  x_run
theorem sub_11 : SubOk [83, 92, 45] := by
  intro w s t f fd X ho
  x_run
theorem sub_12 : SubOk [84, 92, 45] := by
  intro w s t f fd X ho
  x_run
theorem sub_13 : SubOk [120, 83, 115, 92, 45] := by
  intro w s t f fd X ho
  x_run
theorem sub_14 : SubOk [120, 84, 116, 92, 45] := by
  intro w s t f fd X ho
  x_run
theorem sub_15 : SubOk [33, 83, 92, 45] := by
  intro w s t f fd X ho
  x_run
theorem sub_16 : SubOk [33, 120, 92, 45] := by
  intro w s t f fd X ho
  x_run
theorem sub_17 : SubOk [33, 84, 92, 45] := by
  intro w s t f fd X ho
  x_run
noncomputable def subsOf : List (List Nat) := [[115, 120], [115, 83], [116, 120], [116, 84], [33, 115, 83], [33, 115, 120], [33, 116, 84], [33, 116, 120], [114, 92, 45], [119, 92, 45], [120, 92, 45], [83, 92, 45], [84, 92, 45], [120, 83, 115, 92, 45], [120, 84, 116, 92, 45], [33, 83, 92, 45], [33, 120, 92, 45], [33, 84, 92, 45]]
theorem sub_ok {x : List Nat} (h : x ∈ subsOf) : SubOk x := by
  unfold subsOf at h
  simp only [List.mem_cons, List.not_mem_nil, or_false] at h
  rcases h with rfl | rfl | rfl | rfl | rfl | rfl | rfl | rfl | rfl | rfl | rfl | rfl | rfl | rfl | rfl | rfl | rfl | rfl
  · exact sub_0
  · exact sub_1
  · exact sub_2
  · exact sub_3
  · exact sub_4
  · exact sub_5
  · exact sub_6
  · exact sub_7
  · exact sub_8
  · exact sub_9
  · exact sub_10
  · exact sub_11
  · exact sub_12
  · exact sub_13
  · exact sub_14
  · exact sub_15
  · exact sub_16
  · exact sub_17
end
section
variable {w : World} {A : Around} {E : Value → Shared → Prop} {s : Shared} {h₀ : Heap} {L : Addr} {m : Str → Option Value} {nws : List (Addr × Obj)}
theorem attrs_pattern : PlainAttrs "re.Pattern" :=
  ⟨⟨"object.__getattribute__", by rw [typeLookup_type, builtinLookup_eq_fast]; kernel_rfl, by decide +kernel⟩, by rw [typeLookup_type, builtinLookup_eq_fast]; kernel_rfl⟩
theorem method_sub {pl : Sem Bool} {Q : Value × List Value → Shared → Prop} (X : (Mine.K w.params).In s.heap) (h : Q (.builtin "re.Pattern.sub", [.ref 64]) s) :
    wpAny (model PySem.Challenge.pw_rx0053_01 w) A (getMethod (.ref 64) (Str.ofString "sub") pl) Q E s := by
  have ho := X 64 _ (by rfl)
  exact getMethod_builtin ⟨_, ho, rfl⟩ attrs_pattern slot_sub type_sub (fun a e => by cases e; exact ⟨_, ho, rfl⟩) h
theorem sub_K {x : List Nat} {y : Str} {f : Addr} {fd : FuncData} {t : Tok} {Q : Value → Shared → Prop} (hx : x ∈ subsOf) (ey : y = ⟨x.toArray⟩) (hA : A.handled = none) (hd : A.depth ≤ 900) (hu : A.units ≤ 9000) (X : (Mine.K w.params).In h₀) (F : Fr h₀ L s.heap m) (N : News h₀ L s.heap nws) (hf : (f, { cls := .type "function", data := .func fd }) ∈ nws)
    (h : ∀ h' tk t', Fr h₀ L h' m → News h₀ L h' nws → Q (.str ⟨x.toArray⟩ t') { s with heap := h', toks := tk }) :
    wpAny (model PySem.Challenge.pw_rx0053_01 w) A (call (.builtin "re.Pattern.sub") [.ref 64, .ref f, .str y t]) Q E s := by
  subst ey
  refine wpAny_mono (big_enough hA hd hu (sub_ok hx w s t f fd (X.keeps F.keep) (N _ hf).1)) (fun v s' hv => ?_) (fun _ _ e => e.elim)
  obtain ⟨h', tk, t', rfl, k, rfl⟩ := hv
  exact h h' tk t' (Kept.fr k F) (Kept.nw k N)
end
end Mine
end
section
open PySem PySem.W PyProof.Rows PySem.Calls PySem.Spec
set_option maxRecDepth 100000
set_option maxHeartbeats 8000000
namespace Mine
open PySem.Builtin PySem.Builtin.Str
noncomputable def findIn (x y : Str) (lo hi : Nat) : Int := match occurrences x y lo (min hi x.length) 1 with | k :: _ => (k : Int) | [] => -1
theorem gives_find4 (x y : Str) (lo hi : Nat) (t u v z : Tok) : Gives (Builtin.«str.find» ⟨[.str x t, .str y u, .int (lo : Int) v, .int (hi : Int) z], []⟩) (.int (findIn x y lo hi)) := by
  have e1 : (max 0 (if (lo : Int) < 0 then (lo : Int) + x.length else (lo : Int))).toNat = lo := by
    have q : ¬ ((lo : Int) < 0) := by omega
    rw [if_neg q]; omega
  have e2 : (max 0 (if (hi : Int) < 0 then (hi : Int) + x.length else (hi : Int))).toNat = hi := by
    have q : ¬ ((hi : Int) < 0) := by omega
    rw [if_neg q]; omega
  show Gives (match occurrences x y (max 0 (if (lo : Int) < 0 then (lo : Int) + x.length else (lo : Int))).toNat (min (max 0 (if (hi : Int) < 0 then (hi : Int) + x.length else (hi : Int))).toNat x.length) 1 with | k :: _ => retInt k | [] => (do rule "str.find.not-found"; retInt (-1))) _
  rw [e1, e2]
  unfold findIn
  cases occurrences x y lo (min hi x.length) 1 with
  | nil => exact .rule (.of_eq rfl)
  | cons k _ => exact .of_eq rfl
section
variable {prog : Program} {w : World} {A : Around} {E : Value → Shared → Prop} {s : Shared} {x y : Str} {t u v z : Tok} {Q : Value → Shared → Prop}
theorem call_find4 {lo hi : Nat} {a b : Int} (ea : a = (lo : Int)) (eb : b = (hi : Int)) (hq : Q (.int (findIn x y lo hi) s.toks) { s with toks := s.toks + 1 }) : wpAny (model prog w) A (call (.builtin "str.find") [.str x t, .str y u, .int a v, .int b z]) Q E s := by
  subst ea; subst eb
  exact call_gives F.slot_str_find (typeIs_str _ _ _) F.entry_str_find (F.args_str_find_4 _ _ _ _) (gives_find4 x y lo hi t u v z) hq
end
theorem findIn_none {x y : Str} {lo hi : Nat} (h : hi < lo) : findIn x y lo hi = -1 := by
  have e : min hi x.length + 1 - lo = 0 := by omega
  unfold findIn
  rw [StrLaws.occ_eq, e]
  rfl
theorem findIn_here {x : Str} {c lo hi : Nat} (d : Nat) (hd : x.cps[lo + d]? = some c) (hlt : lo + d < hi) (hno : ∀ k, k < d → ∃ a, x.cps[lo + k]? = some a ∧ a ≠ c) : findIn x ⟨#[c]⟩ lo hi = ((lo + d : Nat) : Int) := by
  have hx : lo + d < x.length := by
    rcases Nat.lt_or_ge (lo + d) x.cps.size with q | q
    · exact q
    · rw [Array.getElem?_eq_none q] at hd; cases hd
  have e1 : (⟨#[c]⟩ : Str).length = 1 := rfl
  have sub1 : ∀ i, StrLaws.At x ⟨#[c]⟩ (min hi x.length) i ↔ i < hi ∧ x.cps[i]? = some c := by
    intro i
    have q := StrLaws.subAt_one x c i
    unfold StrLaws.At
    rw [e1] at q ⊢
    rw [Array.getElem?_toList] at q
    constructor
    · rintro ⟨a, b⟩
      exact ⟨by omega, q.mp ⟨by omega, b⟩⟩
    · rintro ⟨a, b⟩
      have := q.mpr b
      exact ⟨by omega, this.2⟩
  unfold findIn
  rw [StrLaws.occ_eq]
  rcases StrLaws.occ_first x ⟨#[c]⟩ (min hi x.length) 1 (Nat.le_refl 1) (List.range' lo (min hi x.length + 1 - lo)) lo (fun i hi => by have := List.mem_range'_1.mp hi; omega) with ⟨h0, hn⟩ | ⟨pre, a, post, e, h0, ha, hn⟩
  · exact absurd ((sub1 (lo + d)).mpr ⟨hlt, hd⟩) (hn _ (by rw [List.mem_range'_1]; omega))
  · have hs := StrLaws.range'_split_from e
    have ha' := (sub1 a).mp ha
    have hal : lo ≤ a := hs.1
    have hge : lo + d ≤ a := by
      rcases Nat.lt_or_ge a (lo + d) with q | q
      · obtain ⟨b, hb, hne⟩ := hno (a - lo) (by omega)
        rw [show lo + (a - lo) = a by omega, ha'.2] at hb
        exact absurd (Option.some.inj hb).symm hne
      · exact q
    have hle : a ≤ lo + d := by
      rcases Nat.lt_or_ge (lo + d) a with q | q
      · exact absurd ((sub1 (lo + d)).mpr ⟨hlt, hd⟩) (hn _ (hs.2 (lo + d) (by omega) q))
      · exact q
    have hq : a = lo + d := by omega
    subst hq
    generalize (forIn (List.range' lo (min hi x.length + 1 - lo)) ((#[] : Array Nat), lo) (StrLaws.occBody x ⟨#[c]⟩ (min hi x.length) 1)).run.fst = arr at h0
    have h1 : arr.toList[0]? = some (lo + d) := by simpa using h0
    cases hL : arr.toList with
    | nil => rw [hL] at h1; cases h1
    | cons b t =>
      rw [hL] at h1
      have : b = lo + d := by simpa using h1
      subst this
      rfl
section
variable {prog : Program} {w : World} {A : Around} {E : Value → Shared → Prop} {s : Shared} {x y z : Str} {t u v : Tok} {Q : Value → Shared → Prop}
theorem replace_none (hc : (occurrences x y 0 x.length (x.length + 1)).isEmpty = true) (hq : Q (.str x t) s) : wpAny (model prog w) A (call (.builtin "str.replace") [.str x t, .str y u, .str z v]) Q E s := by
  have hc' : ((occurrences x y 0 x.length (x.length + 1)).isEmpty || (y.length == 0 && z.length == 0)) = true := by rw [hc]; rfl
  refine call_gives F.slot_str_replace (typeIs_str _ _ _) F.entry_str_replace (F.args_str_replace_3 _ _ _) (gives_str_replace x y z t u v fun e => by rw [hc'] at e; cases e) ?_
  rw [hc']
  simp only [if_true]
  exact hq
theorem replace_to {r : Str} (hu : u ≠ 0) (hv : v ≠ 0) (huv : u ≠ v) (hyz : (y == z) = false) (hx : x.length ≤ 1000) (hz : z.length ≤ 14) (hr : Txt.replace x y z = r)
    (hq : ∀ t' k, Q (.str r t') { s with toks := k }) : wpAny (model prog w) A (call (.builtin "str.replace") [.str x t, .str y u, .str z v]) Q E s := by
  subst hr
  exact SC.replaceW hu hv huv hyz (by omega) hz hq
end
end Mine
end
section
open PySem PySem.W PyProof.Rows PySem.Calls PySem.Spec
set_option maxRecDepth 100000
set_option maxHeartbeats 8000000
namespace Mine
theorem xc_obj {s : Shared} {h : Heap} {tk : Nat} {a : Addr} {news : List (Addr × Obj)} (D : PySem.W.X.Mem s.heap h [] news) :
    ∃ a', Value.ref a = .ref a' ∧ Kept s.heap h ∧ ({ heap := h, gens := s.gens, drawn := s.drawn, toks := tk, os := s.os } : Shared) = { s with heap := h, toks := tk } :=
  ⟨a, rfl, fun b o e => D.keep b o e (by simp [PySem.W.X.away]), rfl⟩
section
open PySem.W.X in
local macro_rules | `(tactic| x_close) => `(tactic| exact ⟨_, _, xc_obj (by assumption)⟩)
theorem run_object (w : World) (s : Shared) :
    wpAny (model PySem.Challenge.pw_rx0053_01 w) bigA (call (.type "object") [])
      (fun v s' => ∃ h tk, ∃ a', v = .ref a' ∧ Kept s.heap h ∧ s' = { s with heap := h, toks := tk }) (fun _ _ => False) s := by
  x_run
end
section
variable {w : World} {A : Around} {E : Value → Shared → Prop} {s : Shared} {h₀ : Heap} {L : Addr} {m : Str → Option Value} {nws : List (Addr × Obj)}
theorem object_K {Q : Value → Shared → Prop} (hA : A.handled = none) (hd : A.depth ≤ 900) (hu : A.units ≤ 9000) (F : Fr h₀ L s.heap m) (N : News h₀ L s.heap nws)
    (h : ∀ h' tk a, Fr h₀ L h' m → News h₀ L h' nws → Q (.ref a) { s with heap := h', toks := tk }) : wpAny (model PySem.Challenge.pw_rx0053_01 w) A (call (.type "object") []) Q E s := by
  refine wpAny_mono (big_enough hA hd hu (run_object w s)) (fun v s' hv => ?_) (fun _ _ e => e.elim)
  obtain ⟨h', tk, a, rfl, k, rfl⟩ := hv
  exact h h' tk a (Kept.fr k F) (Kept.nw k N)
end
end Mine
end
section
open PySem PySem.W PyProof.Rows PySem.Calls PySem.Spec
set_option maxRecDepth 100000
namespace Mine
open PySem.Builtin.Str
theorem idx_none (b n : Nat) : strSliceIndices none (some (b : Int)) 1 n = strSliceIndices (some ((0 : Nat) : Int)) (some (b : Int)) 1 n := by
  unfold strSliceIndices
  have e : max (0 : Int) (min (if ((0 : Nat) : Int) < 0 then ((0 : Nat) : Int) + (n : Int) else ((0 : Nat) : Int)) (n : Int)) = 0 := by
    rw [if_neg (by omega)]; omega
  simp only [show (1 : Int) > 0 by decide, if_true]
  rw [e]
theorem idx_tail (k n : Nat) (h : k ≤ n) (hk : 0 < k) : strSliceIndices (some (-(k : Int))) none 1 n = strSliceIndices (some ((n - k : Nat) : Int)) (some (n : Int)) 1 n := by
  unfold strSliceIndices
  have e1 : max (0 : Int) (min (if (-(k : Int)) < 0 then (-(k : Int)) + (n : Int) else (-(k : Int))) (n : Int)) = ((n - k : Nat) : Int) := by
    rw [if_pos (by omega)]; omega
  have e2 : max (0 : Int) (min (if ((n - k : Nat) : Int) < 0 then ((n - k : Nat) : Int) + (n : Int) else ((n - k : Nat) : Int)) (n : Int)) = ((n - k : Nat) : Int) := by
    rw [if_neg (by omega)]; omega
  have e3 : max (0 : Int) (min (if (n : Int) < 0 then (n : Int) + (n : Int) else (n : Int)) (n : Int)) = (n : Int) := by
    rw [if_neg (by omega)]; omega
  simp only [show (1 : Int) > 0 by decide, if_true]
  rw [e1, e2, e3]
theorem idx_from (a n : Nat) : strSliceIndices (some (a : Int)) none 1 n = strSliceIndices (some (a : Int)) (some (n : Int)) 1 n := by
  unfold strSliceIndices
  have e3 : max (0 : Int) (min (if (n : Int) < 0 then (n : Int) + (n : Int) else (n : Int)) (n : Int)) = (n : Int) := by
    rw [if_neg (by omega)]; omega
  simp only [show (1 : Int) > 0 by decide, if_true]
  rw [e3]
theorem slice_take {x : Str} {b : Nat} (h : b ≤ x.length) : Txt.slice x none (some (b : Int)) = ⟨(x.cps.toList.take b).toArray⟩ := by
  have e : Txt.slice x none (some (b : Int)) = Txt.slice x (some ((0 : Nat) : Int)) (some (b : Int)) := by
    unfold Txt.slice
    rw [idx_none]
  rw [e, slice_eq (Nat.zero_le _) h]
  rfl
theorem slice_last {x : Str} {k : Nat} (h : k ≤ x.length) (hk : 0 < k) : Txt.slice x (some (-(k : Int))) none = ⟨(x.cps.toList.drop (x.length - k)).toArray⟩ := by
  have e : Txt.slice x (some (-(k : Int))) none = Txt.slice x (some ((x.length - k : Nat) : Int)) (some (x.length : Int)) := by
    unfold Txt.slice
    rw [idx_tail k x.length h hk]
  rw [e, slice_eq (by omega) (Nat.le_refl _)]
  congr 2
  refine List.take_of_length_le ?_
  rw [List.length_drop, Array.length_toList]
  show x.length - (x.length - k) ≤ _
  omega
end Mine
end
section
open PySem PySem.W PyProof.Rows PySem.Calls PySem.Spec
set_option maxRecDepth 100000
namespace Mine
section
variable {prog : Program} {w : World} {A : Around} {E : Value → Shared → Prop} {s : Shared} {env : Env} {h₀ : Heap} {body : List Stmt} {Q : Flow → Shared → Prop}
noncomputable def EndK {σ : Type} (h₀ : Heap) (L : Addr) (Led : σ → List (Addr × Obj)) (ps : σ → List (Str × Value)) (P : Nat → σ → Prop) (i : Nat) (c : σ) (own : List (Addr × Obj)) (s₁ : Shared) (f : Flow) (s' : Shared) : Prop :=
  f = .next ∧ ∃ h' tk' m' c' news', s' = { s₁ with heap := h', toks := tk' } ∧ Fr h₀ L h' m' ∧ News h₀ L h' news' ∧ (∀ p ∈ Led c' ++ own, p ∈ news') ∧ (Led c').map (·.1) = (Led c).map (·.1) ∧ P (i + 1) c' ∧ ∀ p ∈ ps c', m' p.1 = some p.2
theorem kstB_self {m : Str → Option Value} {ps : List (Str × Value)} (h : ∀ p ∈ ps, m p.1 = some p.2) : kstB m ps = m := funext fun _ => kstB_eq h fun _ => rfl
theorem enum_C {σ : Type} {elts : List Expr} {k : Nat} {pos : Pos} {t : Addr} {items : Array Value} {m₀ : Str → Option Value} (Led : σ → List (Addr × Obj)) (ps : σ → List (Str × Value)) (P : Nat → σ → Prop) (c₀ : σ)
    (hh : A.handled = none) (ht : h₀.IsTuple t items) (F : Fr h₀ env.locals s.heap m₀) (N : News h₀ env.locals s.heap (Led c₀)) (h0 : P 0 c₀) (hk0 : ∀ p ∈ ps c₀, m₀ p.1 = some p.2)
    (turn : ∀ (i : Nat) x T tt c (u : Str → Option Value) h tk own, items[i]? = some x → P i c → IsTup h T #[.int (i : Int) tt, x] → (∀ p ∈ own, ∀ q ∈ Led c, p.1 ≠ q.1) → Fr h₀ env.locals h (kstB u (ps c)) → News h₀ env.locals h (Led c ++ own) →
      wpAny (model prog w) A (assign (.Tuple elts k pos) env (.ref T)) (fun _ s₃ => wpAny (model prog w) A (execs body env) (EndK h₀ env.locals Led ps P i c own { s with heap := h, toks := tk }) E s₃) E { s with heap := h, toks := tk })
    (done : ∀ c (u : Str → Option Value) h tk, P items.size c → Fr h₀ env.locals h (kstB u (ps c)) → News h₀ env.locals h (Led c) → Q .next { s with heap := h, toks := tk }) :
    wpAny (model prog w) A (call (.type "enumerate") [.ref t]) (fun xv s₁ => wpAny (model prog w) A (pyIter xv) (fun it s₂ => TurnsAt prog w A h₀ env (.Tuple elts k pos) body Q E it s₂) E s₁) E s := by
  have hlt0 : t < h₀.objs.size := by obtain ⟨_, e, _⟩ := ht; exact Heap.lt_size e
  have hts : s.heap.IsTuple t items := tuple_at ht fun o e => F.keep t o e
  have hlt : t < s.heap.objs.size := by obtain ⟨_, e, _⟩ := hts; exact Heap.lt_size e
  have hLs : env.locals < s.heap.objs.size := F.ns.lt
  have hLt : env.locals ≠ t := Nat.ne_of_gt (Nat.lt_of_lt_of_le hlt0 F.above)
  refine call_enum_tup hts fun h' hE hI hsz hk => ?_
  refine wpAny_pyIter_enum hE ?_
  let J : Nat → (Str → Option Value) → List (Addr × Obj) → Prop := fun i m₁ news₁ => ∃ c, news₁ = Led c ∧ P i c ∧ ∀ p ∈ ps c, m₁ p.1 = some p.2
  have W := KTurns.ofWalksU (elts := elts) (k := k) (pos := pos) (WalksT.enumerateD (prog := prog) (w := w) (A := A) (draws_tup (A := A.in1) hh s.heap.objs.size t (Nat.ne_of_lt hlt) items) (s.heap.objs.size + 1) (Nat.succ_ne_self _) (by
    intro hm
    have hb' : s.heap.objs.size + 1 = s.heap.objs.size ∨ s.heap.objs.size + 1 = t := by simpa using hm
    rcases hb' with e | e
    · exact Nat.succ_ne_self _ e
    · exact absurd hlt (by rw [← e]; exact Nat.not_lt.mpr (Nat.le_succ _))) (by simp)).toU
  refine ⟨_, _, _, _, _, _, _, m₀, Led c₀, J, rfl, W, ?_, ?_, ?_, ⟨⟨.none, hE⟩, hI, tuple_at hts fun o e => hk t o e⟩, F.keeps hk, N.grown hk, ⟨c₀, rfl, h0, hk0⟩, ?_, ?_⟩
  · intro hI'
    have hb' : env.locals = s.heap.objs.size + 1 ∨ env.locals = s.heap.objs.size ∨ env.locals = t := by simpa using hI'
    rcases hb' with e | e | e
    · exact ktu_ne 1 hLs e
    · exact Nat.ne_of_lt hLs e
    · exact hLt e
  · intro b hb
    have hb' : b = s.heap.objs.size + 1 ∨ b = s.heap.objs.size := by simpa using hb
    rcases hb' with rfl | rfl
    · exact ktu_new F (Nat.le_add_right _ _)
    · exact ktu_new F (Nat.le_refl _)
  · intro p hp hI'
    have hb' : p.1 = s.heap.objs.size + 1 ∨ p.1 = s.heap.objs.size := by simpa using hI'
    have hlp := Heap.lt_size (N p hp).1
    rcases hb' with e | e
    · exact ktu_ne 1 hlp e
    · exact Nat.ne_of_lt hlp e
  · rintro i v m₁ news₁ h₁ tk₁ own hi hP ⟨c, rfl, hPc, hkc⟩ hoff hown hget hall hst F₁ N₁
    obtain ⟨T, vals, rfl, ⟨tt, x, hx, rfl⟩, hT⟩ := hP
    have hoff' : ∀ p ∈ own, ∀ q ∈ Led c, p.1 ≠ q.1 := fun p hp q hq e => by
      have h1 := hown p hp
      have hb' : p.1 = s.heap.objs.size + 1 ∨ p.1 = s.heap.objs.size ∨ p.1 = t := by simpa using h1
      have h2 := hoff q hq
      have h3 : ¬ (q.1 = s.heap.objs.size + 1 ∨ q.1 = s.heap.objs.size) := by simpa using h2
      rcases hb' with e1 | e1 | e1
      · exact h3 (.inl (e ▸ e1))
      · exact h3 (.inr (e ▸ e1))
      · have n := (N₁ p (List.mem_append_left _ hp)).2.2
        obtain ⟨o, e2, _⟩ := ht
        rw [e1, e2] at n; cases n
    have F₂ : Fr h₀ env.locals h₁ (kstB m₁ (ps c)) := by rw [kstB_self hkc]; exact F₁
    have N₂ : News h₀ env.locals h₁ (Led c ++ own) := fun p hp => by
      rcases List.mem_append.mp hp with hp | hp
      · exact N₁ p (List.mem_append_right _ hp)
      · exact N₁ p (List.mem_append_left _ hp)
    refine wpAny_mono (turn i x T tt c m₁ h₁ tk₁ own (by simpa using hx) hPc hT hoff' F₂ N₂) (fun _ s₃ h₃ => wpAny_mono h₃ (fun f s₄ h₄ => ?_) fun _ _ e => e) fun _ _ e => e
    obtain ⟨rfl, h', tk', m', c', news', rfl, F', N', hm, hadr, hP', hk'⟩ := h₄
    refine LoopStepV.next ⟨rfl, h', tk', m', Led c', rfl, F', fun p hp => N' p (hm p ?_), fun p hp hw => ?_, c', rfl, hP', hk'⟩
    · rcases List.mem_append.mp hp with hp | hp
      · exact List.mem_append_right _ hp
      · exact List.mem_append_left _ hp
    · have h1 : p.1 ∈ (Led c).map (·.1) := by rw [← hadr]; exact List.mem_map.mpr ⟨p, hp, rfl⟩
      obtain ⟨q, hq, e⟩ := List.mem_map.mp h1
      exact hoff q hq (e ▸ hw)
  · rintro h' tk m' news' F' N' _ ⟨c, rfl, hPc, hkc⟩
    exact done c m' h' tk hPc (by rw [kstB_self hkc]; exact F') N'
end
end Mine
end
section
open PySem PySem.W PyProof.Rows PySem.Calls PySem.Spec
set_option maxRecDepth 100000
namespace Mine
section
variable {prog : Program} {w : World} {A : Around} {E : Value → Shared → Prop} {s : Shared} {env : Env} {h₀ : Heap} {target : Expr} {body orelse : List Stmt} {Q : Flow → Shared → Prop}
noncomputable def GoOn (P : Prop) : Prop := P
theorem GoOn.mk {P : Prop} (h : P) : GoOn P := h
noncomputable def ElsePost (Q : Flow → Shared → Prop) (K : Shared → Prop) (f : Flow) (s' : Shared) : Prop :=
  match f with
  | .brk => Q .next s'
  | .ret v => Q (.ret v) s'
  | .next => GoOn (K s')
  | .cont => GoOn (K s')
noncomputable def ElseRest (prog : Program) (w : World) (A : Around) (E : Value → Shared → Prop) (h₀ : Heap) (env : Env) (target : Expr) (body orelse : List Stmt) (Q : Flow → Shared → Prop) (s : Shared) (news : List (Addr × Obj)) : List Value → (Str → Option Value) → Prop
  | [], m => ∀ h tk, Fr h₀ env.locals h m → News h₀ env.locals h news → wpAny (model prog w) A (execs orelse env) Q E { s with heap := h, toks := tk }
  | v :: r, m => ∀ h tk own, Fr h₀ env.locals h m → News h₀ env.locals h (news ++ own) → (∀ p ∈ own, ∀ q ∈ news, p.1 ≠ q.1) →
      wpAny (model prog w) A (assign target env v) (fun _ s₂ => wpAny (model prog w) A (execs body env) (ElsePost Q fun s' => ∃ h' tk' m', s' = { s with heap := h', toks := tk' } ∧ Fr h₀ env.locals h' m' ∧ News h₀ env.locals h' (news ++ own) ∧ ElseRest prog w A E h₀ env target body orelse Q s news r m') E s₂) E { s with heap := h, toks := tk }
theorem For_else_tup {iter : Expr} {pos : Pos} {t : Addr} {vs : List Value} {items : Array Value} {m : Str → Option Value} {news : List (Addr × Obj)} (hh : A.handled = none) (ht9 : h₀.IsTuple t items) (hv9 : vs.toArray = items)
    (hi : ∀ Q' : Value → Shared → Prop, Q' (.ref t) s → wpAny (model prog w) A (eval iter env) Q' E s) (F : Fr h₀ env.locals s.heap m) (N : News h₀ env.locals s.heap news)
    (rest : ElseRest prog w A E h₀ env target body orelse Q s news vs m)
    (hs : ∀ x, foldedSetIterable iter env x = pure x := by intro _; rfl)
    (hE : PassesOwn (model prog w) A env E := by passes_own) :
    wpAny (model prog w) A (exec (.For target iter body orelse pos) env) Q E s := by
  have ht : h₀.IsTuple t vs.toArray := by rw [hv9]; exact ht9
  refine wpAny_For (hi _ ?_) hs
  have hlt0 : t < h₀.objs.size := by obtain ⟨_, e, _⟩ := ht; exact Heap.lt_size e
  have hts : s.heap.IsTuple t vs.toArray := tuple_at ht fun o e => F.keep t o e
  have hlt : t < s.heap.objs.size := by obtain ⟨_, e, _⟩ := hts; exact Heap.lt_size e
  have hLs : env.locals < s.heap.objs.size := F.ns.lt
  have hn0 : h₀.get? s.heap.objs.size = none := ktu_new F (Nat.le_refl _)
  refine wpAny_pyIter_tuple hts ?_
  refine codeAny_forLoop_any
    (fun k s' => ∃ h' tk m' i, s' = { s with heap := h', toks := tk } ∧ h'.IsTupleIter s.heap.objs.size t i ∧ Fr h₀ env.locals h' m' ∧ News h₀ env.locals h' news ∧ i ≤ vs.length ∧ k = vs.length + 1 - i ∧ ElseRest prog w A E h₀ env target body orelse Q s news (vs.drop i) m') ?_ (vs.length + 1)
    ⟨_, s.toks, m, 0, rfl, ⟨_, Heap.get?_push_size _ rfl, rfl, rfl⟩, F.push _, fun p hp => ⟨Heap.get?_push_of_some _ (N p hp).1, (N p hp).2⟩, Nat.zero_le _, rfl, by rw [List.drop_zero]; exact rest⟩
  rintro k s' ⟨h', tk, m', i, rfl, hit, F', N', hi', rfl, R⟩
  have ht' : h'.IsTuple t vs.toArray := tuple_at ht fun o e => F'.keep t o e
  have news_I : ∀ p ∈ news, p.1 ≠ s.heap.objs.size := fun p hp e => absurd (Heap.lt_size (N p hp).1) (by rw [e]; exact Nat.lt_irrefl _)
  have step : ∀ h₁ : Heap, (∀ b o, b ≠ s.heap.objs.size → h'.get? b = some o → h₁.get? b = some o) → Fr h₀ env.locals h₁ m' ∧ News h₀ env.locals h₁ news := fun h₁ hk₁ =>
    ⟨⟨F'.ns.at' fun o e => hk₁ _ o (Nat.ne_of_lt hLs) e, fun b o e => hk₁ b o (fun q => by rw [q, hn0] at e; cases e) (F'.keep b o e), F'.above⟩, fun p hp => ⟨hk₁ _ _ (news_I p hp) (N' p hp).1, (N' p hp).2⟩⟩
  by_cases hl : i < vs.length
  · have hx : vs.toArray[i]? = some vs[i] := by simp [hl]
    have hdrop : vs.drop i = vs[i] :: vs.drop (i + 1) := List.drop_eq_getElem_cons hl
    rw [hdrop] at R
    refine wpAny_pyNext_tuple_item hit ht' hx fun h₁ hit₁ hs₁ => ?_
    obtain ⟨F₁, N₁⟩ := step h₁ fun b o hb e => hs₁.extBut b o hb e
    refine letGo_tupleiter hit₁ ?_
    obtain ⟨oI, hoI, hcI, hdI⟩ := id hit₁
    have NI : News h₀ env.locals h₁ (news ++ [(s.heap.objs.size, oI)]) := fun p hp => by
      rcases List.mem_append.mp hp with hp | hp
      · exact N₁ p hp
      · rw [List.mem_singleton.mp hp]
        exact ⟨hoI, (Nat.ne_of_lt hLs).symm, hn0⟩
    refine wpAny_mono (R h₁ tk [(s.heap.objs.size, oI)] F₁ NI (fun p hp q hq => by rw [List.mem_singleton.mp hp]; exact (news_I q hq).symm)) (fun _ s₂ h₂ => wpAny_passesOwn hE (wpAny_mono h₂ (fun f s₃ h₃ => ?_) fun _ _ e => e)) hE
    have fin : (∃ h' tk' m', s₃ = { s with heap := h', toks := tk' } ∧ Fr h₀ env.locals h' m' ∧ News h₀ env.locals h' (news ++ [(s.heap.objs.size, oI)]) ∧ ElseRest prog w A E h₀ env target body orelse Q s news (vs.drop (i + 1)) m') → ∃ mm, mm < vs.length + 1 - i ∧ ∃ h' tk m' i', s₃ = { s with heap := h', toks := tk } ∧ h'.IsTupleIter s.heap.objs.size t i' ∧ Fr h₀ env.locals h' m' ∧ News h₀ env.locals h' news ∧ i' ≤ vs.length ∧ mm = vs.length + 1 - i' ∧ ElseRest prog w A E h₀ env target body orelse Q s news (vs.drop i') m' := by
      rintro ⟨h₃', tk₃, m₃, rfl, F₃, N₃, R₃⟩
      exact ⟨vs.length + 1 - (i + 1), by omega, h₃', tk₃, m₃, i + 1, rfl, ⟨oI, (N₃ (s.heap.objs.size, oI) (List.mem_append_right _ (.head _))).1, hcI, hdI⟩, F₃, fun p hp => N₃ p (List.mem_append_left _ hp), hl, rfl, R₃⟩
    cases f with
    | ret v => exact h₃
    | brk => exact h₃
    | cont => exact fin h₃
    | next => exact fin h₃
  · have hin : i = vs.length := by omega
    subst hin
    rw [List.drop_length] at R
    refine wpAny_pyNext_tuple_end hh hit ht' (by simp) fun h₁ hs₁ => ?_
    obtain ⟨F₁, N₁⟩ := step h₁ fun b o hb e => hs₁ b o hb e
    exact wpAny_mono (R h₁ tk F₁ N₁) (fun _ _ e => e) hE
end
end Mine
end
section
open PySem PySem.W PyProof.Rows PySem.Calls PySem.Spec
set_option maxRecDepth 100000
namespace Mine
open PyProof.Rows.LCg
noncomputable def TurnEnd (h₀ : Heap) (L : Addr) (m : Str → Option Value) (J : Shared → Prop) (I : Addr) (oI : Obj) (C : Addr) (oC : Obj) (D : Addr) (ys : List Value) (P : List Value → List (Addr × Obj) → Prop) (y : Value) (s₂ : Shared) : Prop :=
  ∃ news', Fr h₀ L s₂.heap m ∧ News h₀ L s₂.heap ((I, oI) :: (C, oC) :: (D, lst ys) :: news') ∧ Off3 I C D news' ∧ J s₂ ∧ P (ys ++ [y]) news'
section
variable {prog : Program} {w : World} {A : Around} {E : Value → Shared → Prop} {s : Shared} {h₀ : Heap} {L : Addr} {m : Str → Option Value} {env : Env}
theorem comp_loop {elt iter : Expr} {x : Str} {px : Pos} {scope : Scope} {cl : List (Str × Addr)} {pos : Pos} {I C D : Addr} {n : Nat} {RR : Result → Shared → Prop} (J : Shared → Prop) (P : Nat → List Value → List (Addr × Obj) → Prop)
    (hh : A.handled = none) (hJ : ∀ (s : Shared) h tk, J s → J { s with heap := h, toks := tk }) (hsz : n ≤ sizeLine) (hx : scope.names.lookup x = some .local) (hkind : scope.kind = .function)
    (hIL : L ≠ I) (hI₀ : h₀.get? I = none) (hCL : C ≠ L) (hC₀ : h₀.get? C = none) (hDL : D ≠ L) (hD₀ : h₀.get? D = none) (hIC : I ≠ C) (hID : I ≠ D) (hCD : C ≠ D)
    (turn : ∀ i ys news oI oC m₂ (s : Shared) t (E' : Value → Shared → Prop), i < n → ys.length = i → P i ys news → J s → NsObj oC m₂ → m₂ x = some (.int (i : Int) t) → Fr h₀ L s.heap m → News h₀ L s.heap ((I, oI) :: (C, oC) :: (D, lst ys) :: news) → Off3 I C D news →
      wpAny (model prog w) A (eval elt (compEnvC scope cl C env)) (TurnEnd h₀ L m J I oI C oC D ys (P (i + 1))) E' s)
    (fin : ∀ ys news (s : Shared) m', ys.length = n → P n ys news → J s → Fr h₀ L s.heap m → News h₀ L s.heap ((D, lst ys) :: news) → Off3 I C D news → s.heap.Ns C m' → RR (.ok .next) s) :
    ∀ (k i : Nat) (s : Shared) ys news m', i + k = n → ys.length = i → P i ys news → J s → IsRangeIter s.heap I ((i : Nat) : Int) ((n : Int) - (i : Nat)) 1 → Fr h₀ L s.heap m → s.heap.Ns C m' → News h₀ L s.heap ((D, lst ys) :: news) → Off3 I C D news →
      codeAny (model prog w) A (.compLoop (.ListComp elt [⟨.Name x px, iter, [], 0⟩] scope pos) 0 (.ref I) (.ref D) (compEnvC scope cl C env)) RR s := by
  intro k i s ys news m' hk hl hP hJs hst F hn N off
  have W : Walks prog w A I [I] [I] n (fun i v => i < n ∧ ∃ t, v = .int (0 + i * 1) t) (fun i h => IsRangeIter h I (0 + (i : Nat) * 1) ((n : Int) - (i : Nat)) 1) := (Walks.range hh I 0 1 n).bound
  refine codeAny_compLoop_tests (fun r s' => ∃ i ys news m', i ≤ n ∧ r = n + 1 - i ∧ ys.length = i ∧ P i ys news ∧ J s' ∧ IsRangeIter s'.heap I ((i : Nat) : Int) ((n : Int) - (i : Nat)) 1 ∧ Fr h₀ L s'.heap m ∧ s'.heap.Ns C m' ∧ News h₀ L s'.heap ((D, lst ys) :: news) ∧ Off3 I C D news) ?_ (n + 1 - i)
    ⟨i, ys, news, m', by omega, rfl, hl, hP, hJs, hst, F, hn, N, off⟩
  clear hk hl hP hJs hst F hn N off k i s ys news m'
  rintro r s ⟨i, ys, news, m', hi, rfl, hl, hP, hJs, hst, F, hn, N, off⟩
  have hst' : IsRangeIter s.heap I (0 + (i : Nat) * 1) ((n : Int) - (i : Nat)) 1 := by rw [Int.mul_one, Int.zero_add]; exact hst
  by_cases hlt : i < n
  · refine W.item i s _ _ hlt hst' fun v h₂ tk₂ hPv hst₂ hk₂ => ?_
    obtain ⟨_, t, rfl⟩ := hPv
    rw [Int.mul_one, Int.zero_add]
    have hst₂' : IsRangeIter h₂ I (((i + 1 : Nat)) : Int) ((n : Int) - (i + 1 : Nat)) 1 := by
      have e : (0 + ((i + 1 : Nat) : Int) * 1) = ((i + 1 : Nat) : Int) := by omega
      have := hst₂
      rw [e] at this
      exact this
    refine wpAny_assign_Name (wpAny_storeName_local (lookup_relabel_local hx) (hn.at' fun o e => hk₂ _ o (by simpa using Ne.symm hIC) e) (fun h₃ hn₃ hs₃ => ?_) (by simp [compEnvC, relabel, hkind]))
    refine wpAny_tests_nil ?_
    simp only [if_true]
    obtain ⟨oC, heC, hoC⟩ := ns_obj hn₃
    obtain ⟨oI, hI₂, hoI⟩ : ∃ oI, h₂.get? I = some oI ∧ ∀ h : Heap, h.get? I = some oI → IsRangeIter h I (((i + 1 : Nat)) : Int) ((n : Int) - (i + 1 : Nat)) 1 := ⟨_, hst₂', fun _ e => e⟩
    have hI₃ : h₃.get? I = some oI := hs₃.extBut _ _ hIC hI₂
    have F₃ : Fr h₀ L h₃ m := (fr_but F hk₂ hIL hI₀).change hs₃ hCL hC₀
    have off3 := off.mem
    have N₂ : News h₀ L h₂ ((D, lst ys) :: news) := news_but N hk₂ fun p hp => by
      rcases List.mem_cons.mp hp with rfl | hp
      · exact Ne.symm hID
      · exact (off3 p hp).1
    refine wpAny_mono (turn i ys news oI oC _ _ t _ hlt hl hP (hJ s h₃ _ hJs) hoC (by simp) F₃ (fun p hp => ?_) off) (fun y s₄ h₄ => ?_) fun _ _ e => e
    · rcases List.mem_cons.mp hp with rfl | hp
      · exact ⟨hI₃, Ne.symm hIL, hI₀⟩
      · rcases List.mem_cons.mp hp with rfl | hp
        · exact ⟨heC, hCL, hC₀⟩
        · have z := N₂ p hp
          refine ⟨hs₃.extBut _ _ ?_ z.1, z.2⟩
          rcases List.mem_cons.mp hp with rfl | hp
          · exact hCD.symm
          · exact (off3 p hp).2.1
    · obtain ⟨news', F₄, N₄, off₄, hJ₄, hP₄⟩ := h₄
      have zI := (N₄ _ (.head _)).1
      have zC := (N₄ _ (.tail _ (.head _))).1
      have zD := (N₄ _ (.tail _ (.tail _ (.head _)))).1
      refine append_at (hsz := by show ys.toArray.size ≤ sizeLine; rw [List.size_toArray, hl]; exact Nat.le_trans hi hsz) zD fun h₅ hs₅ hD₅ => ?_
      have off4 := off₄.mem
      refine ⟨n + 1 - (i + 1), by omega, i + 1, ys ++ [y], news', _, by omega, rfl, by simp [hl], hP₄, ?_, ?_, F₄.change hs₅ hDL hD₀, (hoC.ns zC).sameBut hs₅ hCD, fun p hp => ?_, off₄⟩
      · exact hJ s₄ h₅ _ hJ₄
      · exact hoI _ (hs₅.extBut _ _ hID zI)
      · rcases List.mem_cons.mp hp with rfl | hp
        · exact ⟨hD₅.trans (congrArg some (lst_snoc ys y)), hDL, hD₀⟩
        · exact ⟨hs₅.extBut _ _ (off4 p hp).2.2 (N₄ p (.tail _ (.tail _ (.tail _ hp)))).1, (N₄ p (.tail _ (.tail _ (.tail _ hp)))).2⟩
  · obtain rfl : i = n := by omega
    refine W.done s _ _ hst' fun h₂ tk₂ hk₂ => ?_
    have off3 := off.mem
    refine fin ys news _ m' hl hP (hJ s h₂ _ hJs) (fr_but F hk₂ hIL hI₀) (news_but N hk₂ fun p hp => ?_) off (hn.at' fun o e => hk₂ _ o (by simpa using Ne.symm hIC) e)
    rcases List.mem_cons.mp hp with rfl | hp
    · exact Ne.symm hID
    · exact (off3 p hp).1
noncomputable def SrcG (prog : Program) (w : World) (A : Around) (h₀ : Heap) (L : Addr) (m : Str → Option Value) (env : Env) (elt : Expr) (x : Str) (scope : Scope) (cl : List (Str × Addr)) (J : Shared → Prop) (P : Nat → List Value → List (Addr × Obj) → Prop) (n : Nat) (y : Str) (Q : Flow → Shared → Prop) (xv : Value) (s₁ : Shared) : Prop :=
  ∃ r t u v news, xv = .ref r ∧ A.handled = none ∧ Fr h₀ L s₁.heap m ∧ News h₀ L s₁.heap news ∧ IsRange s₁.heap r 0 (n : Int) 1 t u v ∧ Builtin.Range.small 0 (n : Int) 1 = true ∧ J s₁ ∧ P 0 [] news ∧
      ∀ I C D : Addr, (@Ne Nat I C) → (@Ne Nat I D) → (@Ne Nat C D) → 
      (∀ i ys news oI oC m₂ (s : Shared) t (E' : Value → Shared → Prop), i < n → ys.length = i → P i ys news → J s → NsObj oC m₂ → m₂ x = some (.int (i : Int) t) → Fr h₀ L s.heap m → News h₀ L s.heap ((I, oI) :: (C, oC) :: (D, lst ys) :: news) → Off3 I C D news →
        wpAny (model prog w) A (eval elt (compEnvC scope cl C env)) (TurnEnd h₀ L m J I oI C oC D ys (P (i + 1))) E' s) ∧
      (∀ ys news (s : Shared), ys.length = n → P n ys news → J s → Fr h₀ L s.heap (fun z => if z = y then some (.ref D) else m z) → News h₀ L s.heap ((D, lst ys) :: news) → Off1 D news → Q .next s)
theorem Assign_comp {elt iter : Expr} {x y : Str} {px py : Pos} {scope : Scope} {cl : List (Str × Addr)} {pos spos : Pos} {Q : Flow → Shared → Prop} {n : Nat} (J : Shared → Prop) (P : Nat → List Value → List (Addr × Obj) → Prop)
    (hJ : ∀ (s : Shared) h tk, J s → J { s with heap := h, toks := tk }) (F₀ : Fr h₀ L s.heap m) (hsz : n ≤ sizeLine) (hLe : env.locals = L)
    (hsw : swapsWith (.ListComp elt [⟨.Name x px, iter, [], 0⟩] scope pos) (some (.Name y py)) spos.line env = pure true)
    (hclos : closureFor scope env = pure cl) (hcell : ∀ z ∈ scope.names, z.2 ≠ .cell) (hkind : scope.kind = .function)
    (hnames : ∀ z ∈ scope.names, z.2 = .local → scope.names.lookup z.1 = some .local) (hx : scope.names.lookup x = some .local)
    (hy : env.kindOf y = some .local) (hp : (env.scope.kind == .class || (env.scope.kind == .module && env.locals != env.globals)) = false)
    (h : wpAny (model prog w) A (eval iter env) (SrcG prog w A h₀ L m env elt x scope cl J P n y Q) E s)
    (hs : ∀ x, foldedSetIterable iter env x = pure x := by intro _; rfl) :
    wpAny (model prog w) A (exec (.Assign [.Name y py] (.ListComp elt [⟨.Name x px, iter, [], 0⟩] scope pos) spos) env) Q E s := by
  subst hLe
  rw [exec_Assign_Name_used _ _ _ _ hsw]
  refine wpAny_bind (wpAny_standAt (wpAny_bind ?_))
  show wpAny _ A (do let _ ← comprehension (.ListComp elt [⟨.Name x px, iter, [], 0⟩] scope pos) scope env _ (newList []) false (eval iter env) (some (assign (.Name y py) env))) _ _ s
  refine wpAny_bind (wpAny_mono (wpAny_comprehension_free (use := some (assign (.Name y py) env)) (Q := fun _ s' => Q .next s') rfl hs hclos hkind hnames
    (wpAny_mono h (fun xv s₁ h₁ => ?_) fun _ _ e => e)) (fun _ s' hq => wpAny_pure (wpAny_pure hq)) fun _ _ e => e)
  obtain ⟨r, t, u, v, news, rfl, hh, F, N, hr, hsm, hJ₁, hP₁, R⟩ := h₁
  refine wpAny_pyIter_range hr hsm ?_
  have hn : Builtin.Range.rangeSize 0 (n : Int) 1 = ((n : Nat) : Int) := by rw [rangeSize_nat]; omega
  refine wpAny_newObj_type (wpAny_newFunctionEnv hcell (by intro y hy; simp at hy) (fun h₁ hns₁ hsb₁ => ?_) hkind)
  dsimp only at hns₁ hsb₁ ⊢
  rw [hn] at hns₁ hsb₁ ⊢
  generalize hH1 : s₁.heap.push { cls := .type "range_iterator", data := .fields #[rawInt 0, rawInt (n : Int), rawInt 1] } = H1 at hns₁ hsb₁ ⊢
  generalize hH2 : H1.push { cls := .type "list", dict := none, data := .seq ([] : List Value).toArray } = H2 at hns₁ hsb₁ ⊢
  have z1 : H1.objs.size = s₁.heap.objs.size + 1 := by rw [← hH1, Heap.size_push]
  have z2 : H2.objs.size = s₁.heap.objs.size + 1 + 1 := by rw [← hH2, Heap.size_push, z1]
  have fresh₀ : ∀ a : Nat, s₁.heap.objs.size ≤ a → h₀.get? a = none := fun a ha => by
    cases e : h₀.get? a with
    | none => rfl
    | some o' => exact absurd (Heap.lt_size (F.keep a o' e)) (Nat.not_lt.mpr ha)
  have hLlt : @LT.lt Nat _ env.locals s₁.heap.objs.size := F.ns.lt
  have gt2 : ∀ b : Nat, b < s₁.heap.objs.size + 1 + 1 → b ≠ H2.objs.size := fun b hb => by omega
  have old1 : ∀ b o, s₁.heap.get? b = some o → H1.get? b = some o := fun b o e => by rw [← hH1]; exact Heap.get?_push_of_some _ e
  have old2 : ∀ b o, H1.get? b = some o → H2.get? b = some o := fun b o e => by rw [← hH2]; exact Heap.get?_push_of_some _ e
  have old3 : ∀ b o, H2.get? b = some o → h₁.get? b = some o := fun b o e => hsb₁.extBut b o (Nat.ne_of_lt (Heap.lt_size e)) (Heap.get?_push_of_some _ e)
  have hI : h₁.get? s₁.heap.objs.size = some _ := old3 _ _ (old2 _ _ (by rw [← hH1]; exact Heap.get?_push_size _ rfl))
  have hD : h₁.get? H1.objs.size = some (lst []) := old3 _ _ (by rw [← hH2]; exact Heap.get?_push_size _ rfl)
  have lts : ∀ p ∈ news, @LT.lt Nat _ p.1 s₁.heap.objs.size := fun p hp => Heap.lt_size (N p hp).1
  have hIC : @Ne Nat s₁.heap.objs.size H2.objs.size := by omega
  have hID : @Ne Nat s₁.heap.objs.size H1.objs.size := by omega
  have hCD : @Ne Nat H2.objs.size H1.objs.size := by omega
  have hCL : @Ne Nat H2.objs.size env.locals := by omega
  have hDL : @Ne Nat H1.objs.size env.locals := by omega
  have hIL : @Ne Nat env.locals s₁.heap.objs.size := by omega
  have hI₀ := fresh₀ s₁.heap.objs.size (Nat.le_refl _)
  have hC₀ := fresh₀ H2.objs.size (by omega)
  have hD₀ := fresh₀ H1.objs.size (by omega)
  obtain ⟨turn, fin⟩ := R s₁.heap.objs.size H2.objs.size H1.objs.size hIC hID hCD
  have loop := comp_loop (prog := prog) (w := w) (A := A) (elt := elt) (iter := iter) (px := px) (cl := cl) (pos := pos) (env := env) (m := m) (RR := fun r s' => compPost (model prog w) A E (some (assign (.Name y py) env)) (fun _ s' => Q .next s') (.ref H1.objs.size) H2.objs.size r s') J P hh hJ hsz hx hkind hIL hI₀ hCL hC₀ hDL hD₀ hIC hID hCD turn
    (fun ys news' s' m' hl hP hJs F' N' off hn' => by
      show wpAny _ A (assign (.Name y py) env (.ref H1.objs.size)) _ _ _
      refine wpAny_assign_Name (wpAny_storeName_local hy F'.ns (fun h₂ hn₂ hs₂ => ?_) hp)
      have hL₀ : h₀.get? env.locals = none := Heap.get?_none_of_le F'.above
      have F₂ : Fr h₀ env.locals h₂ (fun z => if z = y then some (.ref H1.objs.size) else m z) := ⟨hn₂, fun b o e => hs₂.extBut b o (fun q => by rw [q, hL₀] at e; cases e) (F'.keep b o e), F'.above⟩
      refine ⟨m', hn'.sameBut hs₂ hCL, fun h'' hs'' => fin ys news' _ hl hP (hJ s' h'' _ hJs) (F₂.change hs'' hCL hC₀) (fun p hp => ?_) off.one⟩
      have z : h₂.get? p.1 = some p.2 := hs₂.extBut _ _ (N' p hp).2.1 (N' p hp).1
      refine ⟨hs''.extBut _ _ ?_ z, (N' p hp).2⟩
      rcases List.mem_cons.mp hp with rfl | hp
      · exact hCD.symm
      · exact (off.mem p hp).2.1)
    n 0 { s₁ with heap := h₁, toks := s₁.toks + ([] : List (Str × Value)).length } [] news _ (by omega) rfl hP₁ (hJ _ _ _ hJ₁) (by
      show h₁.get? _ = some _
      rw [hI]
      simp) (F.keeps fun b o e => old3 _ _ (old2 _ _ (old1 _ _ e))) hns₁ (fun p hp => by
      rcases List.mem_cons.mp hp with rfl | hp
      · exact ⟨hD, hDL, hD₀⟩
      · exact ⟨old3 _ _ (old2 _ _ (old1 _ _ (N p hp).1)), (N p hp).2⟩) (Off3.of fun p hp => by
      have := lts p hp
      exact ⟨Nat.ne_of_lt this, gt2 _ (by omega), Nat.ne_of_lt (by omega)⟩)
  refine codeAny_compStart_list loop ?_
  have hst : IsRangeIter h₁ s₁.heap.objs.size ((0 : Nat) : Int) ((n : Int) - (0 : Nat)) 1 := by
    show h₁.get? _ = some _
    rw [hI]
    simp
  exact wpAny_pyIter_rangeiter hst loop
end
end Mine
end
section
open PySem PySem.W PyProof.Rows PySem.Calls PySem.Spec
set_option maxRecDepth 100000
namespace Mine
open PyProof.Rows.LCg
noncomputable def Off4 (I C X D : Addr) (l : List (Addr × Obj)) : Prop := ∀ p ∈ l, (@Ne Nat p.1 I) ∧ (@Ne Nat p.1 C) ∧ (@Ne Nat p.1 X) ∧ (@Ne Nat p.1 D)
noncomputable def TurnEndC (h₀ : Heap) (L : Addr) (m : Str → Option Value) (J : Shared → Prop) (I : Addr) (oI : Obj) (C : Addr) (oC : Obj) (X : Addr) (oX : Obj) (D : Addr) (ys : List Value) (P : List Value → List (Addr × Obj) → Prop) (y : Value) (s₂ : Shared) : Prop :=
  ∃ news', Fr h₀ L s₂.heap m ∧ News h₀ L s₂.heap ((I, oI) :: (C, oC) :: (X, oX) :: (D, lst ys) :: news') ∧ Off4 I C X D news' ∧ J s₂ ∧ P (ys ++ [y]) news'
structure SrcW (prog : Program) (w : World) (A : Around) (h₀ : Heap) (L I : Addr) (fp : List Addr) (n : Nat) (Pv : Nat → Value → Prop) (St : Nat → Heap → Prop) (P : Nat → List Value → List (Addr × Obj) → Prop) : Prop where
  W : Walks prog w A I fp [I] n Pv St
  io : ∀ i h, St i h → ∃ o, h.get? I = some o
  st : ∀ i h h' o ys news, St i h → h.get? I = some o → h'.get? I = some o → (∀ b o, h₀.get? b = some o → h'.get? b = some o) → News h₀ L h' news → P i ys news → St i h'
section
variable {prog : Program} {w : World} {A : Around} {E : Value → Shared → Prop} {s : Shared} {h₀ : Heap} {L : Addr} {m : Str → Option Value} {env : Env}
theorem newEnv_comp {scope : Scope} {globals : Addr} {cl : List (Str × Addr)} {qual : Str} {x : Str} {Q : Env → Shared → Prop}
    (hcf : ∀ n acc, cellsFrom n scope.names acc = (x, n) :: acc) (hpc : ∀ h, pushCells h scope.names = h.push { cls := .type "cell", data := .cell none })
    (h : Q { scope := scope, locals := s.heap.objs.size, globals := globals, cells := (x, s.heap.objs.size + 1) :: cl, qual := qual, func := none, code := env.code, frame := env.frame, builtins := env.builtins }
      { s with heap := (s.heap.push { cls := .type "dict", data := .dict #[] }).push { cls := .type "cell", data := .cell none } }) :
    wpAny (model prog w) A (newFunctionEnv scope globals cl [] qual none .none (some env)) Q E s := by
  simp only [newFunctionEnv, Option.isSome_some, if_true]
  refine wpAny_bind (wpAny_alloc ?_)
  refine wpAny_bind (wpAny_layCells _ (fun name kind cells => by cases hkc : kind == NameKind.cell <;> simp [hkc]) _ _ _ _ ?_)
  rw [hcf, hpc]
  rw [List.forIn_nil]
  refine wpAny_bind (wpAny_pure (wpAny_pure ?_))
  have e : (s.heap.push { cls := .type "dict", data := .dict #[] }).objs.size = s.heap.objs.size + 1 := Heap.size_push ..
  dsimp only
  rw [e]
  exact h
theorem isCell_obj {h : Heap} {c : Addr} {v : Option Value} (x : h.IsCell c v) : ∃ o, h.get? c = some o ∧ o.data = .cell v := x
theorem comp_loopC {elt iter : Expr} {x : Str} {px : Pos} {scope : Scope} {cl : List (Str × Addr)} {pos : Pos} {I C X D : Addr} {n : Nat} {fp : List Addr} {RR : Result → Shared → Prop} (J : Shared → Prop) (P : Nat → List Value → List (Addr × Obj) → Prop) {Pv : Nat → Value → Prop} {St : Nat → Heap → Prop}
    (S : SrcW prog w A h₀ L I fp n Pv St P) (hJ : ∀ (s : Shared) h tk, J s → J { s with heap := h, toks := tk }) (hsz : n ≤ sizeLine) (hkind : scope.kind = .function) (hx : (compEnvC scope ((x, X) :: cl) C env).kindOf x = some .cell)
    (hIL : @Ne Nat L I) (hI₀ : h₀.get? I = none) (hCL : @Ne Nat C L) (hC₀ : h₀.get? C = none) (hXL : @Ne Nat X L) (hX₀ : h₀.get? X = none) (hDL : @Ne Nat D L) (hD₀ : h₀.get? D = none) (hIC : @Ne Nat I C) (hIX : @Ne Nat I X) (hID : @Ne Nat I D) (hCX : @Ne Nat C X) (hCD : @Ne Nat C D) (hXD : @Ne Nat X D)
    (hXf : X ∉ fp) (hDf : D ∉ fp)
    (turn : ∀ i v ys news oI oC oX mC (s : Shared) (E' : Value → Shared → Prop), i < n → ys.length = i → Pv i v → P i ys news → J s → oX.data = .cell (some v) → NsObj oC mC → Fr h₀ L s.heap m → News h₀ L s.heap ((I, oI) :: (C, oC) :: (X, oX) :: (D, lst ys) :: news) → Off4 I C X D news →
      wpAny (model prog w) A (eval elt (compEnvC scope ((x, X) :: cl) C env)) (TurnEndC h₀ L m J I oI C oC X oX D ys (P (i + 1))) E' s)
    (fin : ∀ ys news (s : Shared) m', ys.length = n → P n ys news → J s → Fr h₀ L s.heap m → News h₀ L s.heap ((D, lst ys) :: news) → Off4 I C X D news → s.heap.Ns C m' → RR (.ok .next) s) :
    ∀ (s : Shared) ys news m' v₀, ys.length = 0 → P 0 ys news → J s → St 0 s.heap → Fr h₀ L s.heap m → s.heap.Ns C m' → s.heap.IsCell X v₀ → News h₀ L s.heap ((D, lst ys) :: news) → Off4 I C X D news →
      codeAny (model prog w) A (.compLoop (.ListComp elt [⟨.Name x px, iter, [], 0⟩] scope pos) 0 (.ref I) (.ref D) (compEnvC scope ((x, X) :: cl) C env)) RR s := by
  intro s ys news m' v₀ hl hP hJs hst F hn hcX N off
  refine codeAny_compLoop_tests (fun r s' => ∃ i ys news m' v₀, i ≤ n ∧ r = n + 1 - i ∧ ys.length = i ∧ P i ys news ∧ J s' ∧ St i s'.heap ∧ Fr h₀ L s'.heap m ∧ s'.heap.Ns C m' ∧ s'.heap.IsCell X v₀ ∧ News h₀ L s'.heap ((D, lst ys) :: news) ∧ Off4 I C X D news) ?_ (n + 1 - 0)
    ⟨0, ys, news, m', v₀, Nat.zero_le _, rfl, hl, hP, hJs, hst, F, hn, hcX, N, off⟩
  clear hl hP hJs hst F hn N off hcX s ys news m' v₀
  rintro r s ⟨i, ys, news, m', v₀, hi, rfl, hl, hP, hJs, hst, F, hn, hcX, N, off⟩
  by_cases hlt : i < n
  · refine S.W.item i s _ _ hlt hst fun v h₂ tk₂ hPv hst₂ hk₂ => ?_
    have kX : ∀ o, s.heap.get? X = some o → h₂.get? X = some o := fun o e => hk₂ X o (by simpa using hIX.symm) e
    have kC : ∀ o, s.heap.get? C = some o → h₂.get? C = some o := fun o e => hk₂ C o (by simpa using hIC.symm) e
    obtain ⟨oX₀, eX, dX⟩ := isCell_obj hcX
    refine wpAny_assign_Name (wpAny_storeName_cell (c := X) (v₀ := v₀) (by simp [compEnvC, relabel, hkind]) hx (by simp [compEnvC]) ⟨oX₀, kX _ eX, dX⟩ fun h₃ hc₃ hs₃ => ?_)
    refine wpAny_tests_nil ?_
    simp only [if_true]
    have hst₃ : St (i + 1) h₃ := S.W.frame _ _ _ hst₂ fun b hb o e => hs₃.extBut b o (fun q => hXf (by have q' : b = X := q; rw [← q']; exact hb)) e
    obtain ⟨oI, hI₃⟩ := S.io _ _ hst₃
    have hn₃ : h₃.Ns C m' := (hn.at' kC).sameBut hs₃ hCX
    obtain ⟨oC, heC, hoC⟩ := ns_obj hn₃
    obtain ⟨oX, heX, hoX⟩ := isCell_obj hc₃
    have F₃ : Fr h₀ L h₃ m := (fr_but F hk₂ hIL hI₀).change hs₃ hXL hX₀
    have N₂ : News h₀ L h₂ ((D, lst ys) :: news) := news_but N hk₂ fun p hp => by
      rcases List.mem_cons.mp hp with rfl | hp
      · exact hID.symm
      · exact (off p hp).1
    refine wpAny_mono (turn i v ys news oI oC oX m' _ _ hlt hl hPv hP (hJ s h₃ _ hJs) hoX hoC F₃ (fun p hp => ?_) off) (fun y s₄ h₄ => ?_) fun _ _ e => e
    · rcases List.mem_cons.mp hp with rfl | hp
      · exact ⟨hI₃, hIL.symm, hI₀⟩
      · rcases List.mem_cons.mp hp with rfl | hp
        · exact ⟨heC, hCL, hC₀⟩
        · rcases List.mem_cons.mp hp with rfl | hp
          · exact ⟨heX, hXL, hX₀⟩
          · have z := N₂ p hp
            refine ⟨hs₃.extBut _ _ ?_ z.1, z.2⟩
            rcases List.mem_cons.mp hp with rfl | hp
            · exact hXD.symm
            · exact (off p hp).2.2.1
    · obtain ⟨news', F₄, N₄, off₄, hJ₄, hP₄⟩ := h₄
      have zI := (N₄ _ (.head _)).1
      have zC := (N₄ _ (.tail _ (.head _))).1
      have zX := (N₄ _ (.tail _ (.tail _ (.head _)))).1
      have zD := (N₄ _ (.tail _ (.tail _ (.tail _ (.head _))))).1
      have N₄' : News h₀ L s₄.heap news' := fun p hp => N₄ p (.tail _ (.tail _ (.tail _ (.tail _ hp))))
      have hst₄ : St (i + 1) s₄.heap := S.st _ _ _ _ _ _ hst₃ hI₃ zI F₄.keep N₄' hP₄
      refine append_at (hsz := by show ys.toArray.size ≤ sizeLine; rw [List.size_toArray, hl]; exact Nat.le_trans hi hsz) zD fun h₅ hs₅ hD₅ => ?_
      refine ⟨n + 1 - (i + 1), by omega, i + 1, ys ++ [y], news', _, some v, by omega, rfl, by simp [hl], hP₄, ?_, ?_, F₄.change hs₅ hDL hD₀, (hoC.ns zC).sameBut hs₅ hCD, ⟨oX, hs₅.extBut _ _ hXD zX, hoX⟩, fun p hp => ?_, off₄⟩
      · exact hJ s₄ h₅ _ hJ₄
      · exact S.W.frame _ _ _ hst₄ fun b hb o e => hs₅.extBut b o (fun q => hDf (by have q' : b = D := q; rw [← q']; exact hb)) e
      · rcases List.mem_cons.mp hp with rfl | hp
        · exact ⟨hD₅.trans (congrArg some (lst_snoc ys y)), hDL, hD₀⟩
        · exact ⟨hs₅.extBut _ _ (off₄ p hp).2.2.2 (N₄' p hp).1, (N₄' p hp).2⟩
  · obtain rfl : i = n := by omega
    refine S.W.done s _ _ hst fun h₂ tk₂ hk₂ => ?_
    refine fin ys news _ m' hl hP (hJ s h₂ _ hJs) (fr_but F hk₂ hIL hI₀) (news_but N hk₂ fun p hp => ?_) off (hn.at' fun o e => hk₂ _ o (by simpa using hIC.symm) e)
    rcases List.mem_cons.mp hp with rfl | hp
    · exact hID.symm
    · exact (off p hp).1
noncomputable def TurnsC (prog : Program) (w : World) (A : Around) (h₀ : Heap) (L : Addr) (m : Str → Option Value) (env : Env) (elt : Expr) (x : Str) (scope : Scope) (cl : List (Str × Addr)) (J : Shared → Prop) (P : Nat → List Value → List (Addr × Obj) → Prop) (n : Nat) (Pv : Nat → Value → Prop) : Prop :=
  ∀ I C X D i v ys news oI oC oX mC (s : Shared) (E' : Value → Shared → Prop), (@Ne Nat I C) → (@Ne Nat I X) → (@Ne Nat I D) → (@Ne Nat C X) → (@Ne Nat C D) → (@Ne Nat X D) → i < n → ys.length = i → Pv i v → P i ys news → J s → oX.data = .cell (some v) → NsObj oC mC → Fr h₀ L s.heap m →
    News h₀ L s.heap ((I, oI) :: (C, oC) :: (X, oX) :: (D, lst ys) :: news) → Off4 I C X D news → wpAny (model prog w) A (eval elt (compEnvC scope ((x, X) :: cl) C env)) (TurnEndC h₀ L m J I oI C oC X oX D ys (P (i + 1))) E' s
theorem block_C {elt iter : Expr} {x : Str} {px : Pos} {scope : Scope} {cl : List (Str × Addr)} {pos : Pos} {I : Addr} {n : Nat} {fp : List Addr} {s₂ : Shared} {news : List (Addr × Obj)} {RR : Value → Addr → Result → Shared → Prop} (J : Shared → Prop) (P : Nat → List Value → List (Addr × Obj) → Prop) {Pv : Nat → Value → Prop} {St : Nat → Heap → Prop}
    (S : SrcW prog w A h₀ L I fp n Pv St P) (hJ : ∀ (s : Shared) h tk, J s → J { s with heap := h, toks := tk }) (hsz : n ≤ sizeLine) (hkind : scope.kind = .function)
    (hcf : ∀ n acc, cellsFrom n scope.names acc = (x, n) :: acc) (hpc : ∀ h, pushCells h scope.names = h.push { cls := .type "cell", data := .cell none })
    (hx : ∀ C X, (compEnvC scope ((x, X) :: cl) C env).kindOf x = some .cell)
    (hst : St 0 s₂.heap) (hfp : ∀ b ∈ fp, @LT.lt Nat _ b s₂.heap.objs.size) (F : Fr h₀ L s₂.heap m) (N : News h₀ L s₂.heap news) (hIL : @Ne Nat L I) (hI₀ : h₀.get? I = none) (off : ∀ p ∈ news, @Ne Nat p.1 I) (hP : P 0 [] news) (hJs : J s₂)
    (turn : TurnsC prog w A h₀ L m env elt x scope cl J P n Pv)
    (hRR : ∀ D C ys news (s : Shared) m', ys.length = n → P n ys news → J s → Fr h₀ L s.heap m → News h₀ L s.heap ((D, lst ys) :: news) → (∀ p ∈ news, (@Ne Nat p.1 C) ∧ (@Ne Nat p.1 D)) → s.heap.Ns C m' → h₀.get? C = none → (@Ne Nat C L) → (@Ne Nat C D) → RR (.ref D) C (.ok .next) s) :
    wpAny (model prog w) A (newList []) (fun acc s₃ => wpAny (model prog w) A (newFunctionEnv scope env.globals cl [] env.qual none .none (some env)) (fun cenv s₄ =>
      codeAny (model prog w) A (.compStart (.ListComp elt [⟨.Name x px, iter, [], 0⟩] scope pos) 0 (.ref I) acc { cenv with scope := relabel scope env }) (RR acc cenv.locals) s₄) E s₃) E s₂ := by
  refine wpAny_newObj_type (newEnv_comp hcf hpc ?_)
  dsimp only
  generalize hH1 : s₂.heap.push { cls := .type "list", dict := none, data := .seq ([] : List Value).toArray } = H1
  generalize hH2 : H1.push { cls := .type "dict", data := .dict #[] } = H2
  generalize hH3 : H2.push { cls := .type "cell", data := .cell none } = H3
  have z1 : H1.objs.size = s₂.heap.objs.size + 1 := by rw [← hH1, Heap.size_push]
  have z2 : H2.objs.size = s₂.heap.objs.size + 1 + 1 := by rw [← hH2, Heap.size_push, z1]
  have fresh₀ : ∀ a : Nat, s₂.heap.objs.size ≤ a → h₀.get? a = none := fun a ha => by
    cases e : h₀.get? a with
    | none => rfl
    | some o' => exact absurd (Heap.lt_size (F.keep a o' e)) (Nat.not_lt.mpr ha)
  have hLlt : @LT.lt Nat _ L s₂.heap.objs.size := F.ns.lt
  have old1 : ∀ b o, s₂.heap.get? b = some o → H1.get? b = some o := fun b o e => by rw [← hH1]; exact Heap.get?_push_of_some _ e
  have old2 : ∀ b o, H1.get? b = some o → H2.get? b = some o := fun b o e => by rw [← hH2]; exact Heap.get?_push_of_some _ e
  have old3 : ∀ b o, H2.get? b = some o → H3.get? b = some o := fun b o e => by rw [← hH3]; exact Heap.get?_push_of_some _ e
  have old : ∀ b o, s₂.heap.get? b = some o → H3.get? b = some o := fun b o e => old3 _ _ (old2 _ _ (old1 _ _ e))
  have hD : H3.get? s₂.heap.objs.size = some (lst []) := old3 _ _ (old2 _ _ (by rw [← hH1]; exact Heap.get?_push_size _ rfl))
  have hC : H3.Ns H1.objs.size (fun _ => none) := by
    have hc0 := Heap.Ns.new H1 (.type "dict")
    rw [hH2] at hc0
    exact hc0.at' fun o e => old3 _ _ e
  have hX : H3.IsCell H2.objs.size none := ⟨_, by rw [← hH3]; exact Heap.get?_push_size _ rfl, rfl⟩
  have eX : H2.objs.size = H1.objs.size + 1 := by omega
  rw [← eX]
  have lts : ∀ p ∈ news, @LT.lt Nat _ p.1 s₂.heap.objs.size := fun p hp => Heap.lt_size (N p hp).1
  have hIlt := hfp I (S.W.sub I (List.mem_singleton.mpr rfl))
  have hIC : @Ne Nat I H1.objs.size := by omega
  have hIX : @Ne Nat I H2.objs.size := by omega
  have hID : @Ne Nat I s₂.heap.objs.size := by omega
  have hCX : @Ne Nat H1.objs.size H2.objs.size := by omega
  have hCD : @Ne Nat H1.objs.size s₂.heap.objs.size := by omega
  have hXD : @Ne Nat H2.objs.size s₂.heap.objs.size := by omega
  have hCL : @Ne Nat H1.objs.size L := by omega
  have hXL : @Ne Nat H2.objs.size L := by omega
  have hDL : @Ne Nat s₂.heap.objs.size L := by omega
  have hC₀ := fresh₀ H1.objs.size (by omega)
  have hX₀ := fresh₀ H2.objs.size (by omega)
  have hD₀ := fresh₀ s₂.heap.objs.size (Nat.le_refl _)
  have hXf : H2.objs.size ∉ fp := fun hm => by have := hfp _ hm; omega
  have hDf : s₂.heap.objs.size ∉ fp := fun hm => by have := hfp _ hm; omega
  have loop := comp_loopC (prog := prog) (w := w) (A := A) (elt := elt) (iter := iter) (px := px) (cl := cl) (pos := pos) (env := env) (m := m) (RR := RR (.ref s₂.heap.objs.size) H1.objs.size) J P S hJ hsz hkind (hx _ _) hIL hI₀ hCL hC₀ hXL hX₀ hDL hD₀ hIC hIX hID hCX hCD hXD hXf hDf
    (fun i v ys news oI oC oX mC s E' h1 h2 h3 h4 h5 h6 h7 h8 h9 h10 => turn _ _ _ _ i v ys news oI oC oX mC s E' hIC hIX hID hCX hCD hXD h1 h2 h3 h4 h5 h6 h7 h8 h9 h10)
    (fun ys news s m' h1 h2 h3 h4 h5 h6 h7 => hRR _ _ ys news s m' h1 h2 h3 h4 h5 (fun p hp => ⟨(h6 p hp).2.1, (h6 p hp).2.2.2⟩) h7 hC₀ hCL hCD)
    { s₂ with heap := H3 } [] news _ none rfl hP (hJ _ _ _ hJs) (S.W.frame _ _ _ hst fun b _ o e => old b o e) (F.keeps old) hC hX (fun p hp => by
      rcases List.mem_cons.mp hp with rfl | hp
      · exact ⟨hD, hDL, hD₀⟩
      · exact ⟨old _ _ (N p hp).1, (N p hp).2⟩) (fun p hp => by
      have := lts p hp
      exact ⟨off p hp, by omega, by omega, by omega⟩)
  refine codeAny_compStart_list loop ?_
  exact S.W.self 0 _ _ _ (S.W.frame _ _ _ hst fun b _ o e => old b o e) loop
noncomputable def SrcCL (prog : Program) (w : World) (A : Around) (h₀ : Heap) (L : Addr) (m : Str → Option Value) (env : Env) (elt : Expr) (x : Str) (scope : Scope) (cl : List (Str × Addr)) (J : Shared → Prop) (Q : Value → Shared → Prop) (xv : Value) (s₁ : Shared) : Prop :=
  ∃ ax its news P, xv = .ref ax ∧ A.handled = none ∧ Fr h₀ L s₁.heap m ∧ News h₀ L s₁.heap news ∧ its.size ≤ sizeLine ∧ J s₁ ∧ P 0 [] news ∧ (∀ i ys news, P i ys news → SrcAt h₀ ax its news) ∧
    TurnsC prog w A h₀ L m env elt x scope cl J P its.size (fun i v => its[i]? = some v) ∧
    ∀ D ys news (s : Shared), ys.length = its.size → P its.size ys news → J s → Fr h₀ L s.heap m → News h₀ L s.heap ((D, lst ys) :: news) → (∀ p ∈ news, @Ne Nat p.1 D) → Q (.ref D) s
theorem ListComp_CL {elt iter : Expr} {x : Str} {px : Pos} {scope : Scope} {cl : List (Str × Addr)} {pos : Pos} {Q : Value → Shared → Prop} (J : Shared → Prop) (hJ : ∀ (s : Shared) h tk, J s → J { s with heap := h, toks := tk }) (F₀ : Fr h₀ L s.heap m)
    (hclos : closureFor scope env = pure cl) (hkind : scope.kind = .function) (hcf : ∀ n acc, cellsFrom n scope.names acc = (x, n) :: acc) (hpc : ∀ h, pushCells h scope.names = h.push { cls := .type "cell", data := .cell none })
    (hnames : ∀ y ∈ scope.names, y.2 = .local → scope.names.lookup y.1 = some .local) (hx : ∀ C X, (compEnvC scope ((x, X) :: cl) C env).kindOf x = some .cell)
    (h : wpAny (model prog w) A (eval iter env) (SrcCL prog w A h₀ L m env elt x scope cl J Q) E s)
    (hs : ∀ x, foldedSetIterable iter env x = pure x := by intro _; rfl) :
    wpAny (model prog w) A (eval (.ListComp elt [⟨.Name x px, iter, [], 0⟩] scope pos) env) Q E s := by
  rw [eval_ListComp]
  refine wpAny_comprehension_free (use := none) rfl hs hclos hkind hnames (wpAny_mono h (fun xv s₁ h₁ => ?_) fun _ _ e => e)
  obtain ⟨ax, its, news, P, rfl, hh, F, N, hsz, hJ₁, hP, hA, turn, fin⟩ := h₁
  have hl := (hA _ _ _ hP).list F.keep N
  have hlt : @LT.lt Nat _ ax s₁.heap.objs.size := by obtain ⟨_, e, _⟩ := hl; exact Heap.lt_size e
  refine wpAny_pyIter_list hl ?_
  have up : ∀ b o, s₁.heap.get? b = some o → (s₁.heap.push { cls := .type "list_iterator", data := .fields #[.ref ax, .int 0 0] }).get? b = some o := fun b o e => Heap.get?_push_of_some _ e
  have S : SrcW prog w A h₀ L s₁.heap.objs.size [s₁.heap.objs.size, ax] its.size (fun i v => its[i]? = some v) (fun i h => h.IsListIter s₁.heap.objs.size ax i ∧ h.IsList ax its) P :=
    ⟨Walks.list hh s₁.heap.objs.size ax (Nat.ne_of_lt hlt) its, fun i h st => by obtain ⟨o, e, _⟩ := st.1; exact ⟨o, e⟩, fun i h h' o ys nw st e e' k N' p => ⟨by obtain ⟨o', q, r⟩ := st.1; rw [e] at q; cases q; exact ⟨o, e', r⟩, (hA _ _ _ p).list k N'⟩⟩
  refine block_C (RR := fun acc C => compPost (model prog w) A E none Q acc C) (news := news) J P S hJ hsz hkind hcf hpc hx ⟨⟨_, Heap.get?_push_size _ rfl, rfl, rfl⟩, hl.push _⟩ (fun b hb => ?_)
    (F.keeps up) (N.grown up) (Nat.ne_of_lt F.ns.lt) (next_is_new F) (fun p hp => Nat.ne_of_lt (Heap.lt_size (N p hp).1)) hP (hJ s₁ _ _ hJ₁) turn ?_
  · show @LT.lt Nat _ b (s₁.heap.push _).objs.size
    rw [Heap.size_push]
    rcases List.mem_cons.mp hb with rfl | hb
    · exact Nat.lt_succ_self _
    · rw [List.mem_singleton.mp hb]; exact Nat.lt_succ_of_lt hlt
  · intro D C ys news' s' m' hl' hP' hJ' F' N' off hn hC₀ hCL hCD
    refine ⟨m', hn, fun h'' hs'' => fin D ys news' _ hl' hP' (hJ s' h'' _ hJ') (F'.change hs'' hCL hC₀) (fun p hp => ?_) fun p hp => (off p hp).2⟩
    refine ⟨hs''.extBut _ _ ?_ (N' p hp).1, (N' p hp).2⟩
    rcases List.mem_cons.mp hp with rfl | hp
    · exact hCD.symm
    · exact (off p hp).1
noncomputable def SrcCR (prog : Program) (w : World) (A : Around) (h₀ : Heap) (L : Addr) (m : Str → Option Value) (env : Env) (elt : Expr) (x : Str) (scope : Scope) (cl : List (Str × Addr)) (J : Shared → Prop) (Fin : Nat → (Nat → List Value → List (Addr × Obj) → Prop) → Prop) (xv : Value) (s₁ : Shared) : Prop :=
  ∃ r t u v n news P, xv = .ref r ∧ A.handled = none ∧ Fr h₀ L s₁.heap m ∧ News h₀ L s₁.heap news ∧ IsRange s₁.heap r 0 ((n : Nat) : Int) 1 t u v ∧ Builtin.Range.small 0 (n : Int) 1 = true ∧ n ≤ sizeLine ∧ J s₁ ∧ P 0 [] news ∧
    TurnsC prog w A h₀ L m env elt x scope cl J P n (fun i v => ∃ t, v = .int (i : Int) t) ∧ Fin n P
theorem range_src {I : Addr} {n : Nat} {P : Nat → List Value → List (Addr × Obj) → Prop} (hh : A.handled = none) :
    SrcW prog w A h₀ L I [I] n (fun i v => ∃ t, v = .int (i : Int) t) (fun i h => IsRangeIter h I (0 + (i : Nat) * 1) ((n : Int) - (i : Nat)) 1) P :=
  let W := range_walks (prog := prog) (w := w) (I := I) hh 0 n
  ⟨{ sub := W.sub, frame := W.frame, done := W.done, self := W.self,
     item := fun i s Q E hi st hQ => W.item i s Q E hi st fun v h' tk hP => hQ v h' tk (by obtain ⟨t, rfl⟩ := hP; exact ⟨t, by rw [Int.zero_add]⟩) },
   fun i h st => ⟨_, st⟩, fun i h h' o ys nw st e e' _ _ _ => by
    have st' : h.get? I = some _ := st
    show h'.get? I = some _
    rw [e', ← e]; exact st'⟩
noncomputable def FinCE (h₀ : Heap) (L : Addr) (m : Str → Option Value) (J : Shared → Prop) (Q : Value → Shared → Prop) (n : Nat) (P : Nat → List Value → List (Addr × Obj) → Prop) : Prop :=
  ∀ D ys news (s : Shared), ys.length = n → P n ys news → J s → Fr h₀ L s.heap m → News h₀ L s.heap ((D, lst ys) :: news) → (∀ p ∈ news, @Ne Nat p.1 D) → Q (.ref D) s
noncomputable def FinCA (h₀ : Heap) (L : Addr) (m : Str → Option Value) (J : Shared → Prop) (y : Str) (Q : Flow → Shared → Prop) (n : Nat) (P : Nat → List Value → List (Addr × Obj) → Prop) : Prop :=
  ∀ D ys news (s : Shared), ys.length = n → P n ys news → J s → Fr h₀ L s.heap (fun z => if z = y then some (.ref D) else m z) → News h₀ L s.heap ((D, lst ys) :: news) → (∀ p ∈ news, @Ne Nat p.1 D) → Q .next s
theorem ListComp_CR {elt iter : Expr} {x : Str} {px : Pos} {scope : Scope} {cl : List (Str × Addr)} {pos : Pos} {Q : Value → Shared → Prop} (J : Shared → Prop) (hJ : ∀ (s : Shared) h tk, J s → J { s with heap := h, toks := tk }) (F₀ : Fr h₀ L s.heap m)
    (hclos : closureFor scope env = pure cl) (hkind : scope.kind = .function) (hcf : ∀ n acc, cellsFrom n scope.names acc = (x, n) :: acc) (hpc : ∀ h, pushCells h scope.names = h.push { cls := .type "cell", data := .cell none })
    (hnames : ∀ y ∈ scope.names, y.2 = .local → scope.names.lookup y.1 = some .local) (hx : ∀ C X, (compEnvC scope ((x, X) :: cl) C env).kindOf x = some .cell)
    (h : wpAny (model prog w) A (eval iter env) (SrcCR prog w A h₀ L m env elt x scope cl J (FinCE h₀ L m J Q)) E s)
    (hs : ∀ x, foldedSetIterable iter env x = pure x := by intro _; rfl) :
    wpAny (model prog w) A (eval (.ListComp elt [⟨.Name x px, iter, [], 0⟩] scope pos) env) Q E s := by
  rw [eval_ListComp]
  refine wpAny_comprehension_free (use := none) rfl hs hclos hkind hnames (wpAny_mono h (fun xv s₁ h₁ => ?_) fun _ _ e => e)
  obtain ⟨r, t, u, v, n, news, P, rfl, hh, F, N, hr, hsm, hsz, hJ₁, hP, turn, fin⟩ := h₁
  have hn : Builtin.Range.rangeSize 0 (n : Int) 1 = ((n : Nat) : Int) := by rw [rangeSize_nat]; omega
  refine wpAny_pyIter_range hr hsm ?_
  refine block_C (RR := fun acc C => compPost (model prog w) A E none Q acc C) (news := news) J P (range_src hh) hJ hsz hkind hcf hpc hx (by show IsRangeIter _ _ _ _ _; rw [hn]; simpa using Heap.get?_push_size _ rfl) (fun b hb => ?_)
    (F.keeps fun _ _ e => Heap.get?_push_of_some _ e) (N.grown fun _ _ e => Heap.get?_push_of_some _ e) (Nat.ne_of_lt F.ns.lt) (next_is_new F) (fun p hp => Nat.ne_of_lt (Heap.lt_size (N p hp).1)) hP (hJ s₁ _ _ hJ₁) turn ?_
  · rw [List.mem_singleton.mp hb]
    show @LT.lt Nat _ s₁.heap.objs.size (s₁.heap.push _).objs.size
    rw [Heap.size_push]; exact Nat.lt_succ_self _
  · intro D C ys news' s' m' hl' hP' hJ' F' N' off hn hC₀ hCL hCD
    refine ⟨m', hn, fun h'' hs'' => fin D ys news' _ hl' hP' (hJ s' h'' _ hJ') (F'.change hs'' hCL hC₀) (fun p hp => ?_) fun p hp => (off p hp).2⟩
    refine ⟨hs''.extBut _ _ ?_ (N' p hp).1, (N' p hp).2⟩
    rcases List.mem_cons.mp hp with rfl | hp
    · exact hCD.symm
    · exact (off p hp).1
theorem Assign_CR {elt iter : Expr} {x y : Str} {px py : Pos} {scope : Scope} {cl : List (Str × Addr)} {pos spos : Pos} {Q : Flow → Shared → Prop} (J : Shared → Prop) (hJ : ∀ (s : Shared) h tk, J s → J { s with heap := h, toks := tk }) (F₀ : Fr h₀ L s.heap m) (hLe : env.locals = L)
    (hsw : swapsWith (.ListComp elt [⟨.Name x px, iter, [], 0⟩] scope pos) (some (.Name y py)) spos.line env = pure true)
    (hclos : closureFor scope env = pure cl) (hkind : scope.kind = .function) (hcf : ∀ n acc, cellsFrom n scope.names acc = (x, n) :: acc) (hpc : ∀ h, pushCells h scope.names = h.push { cls := .type "cell", data := .cell none })
    (hnames : ∀ y ∈ scope.names, y.2 = .local → scope.names.lookup y.1 = some .local) (hx : ∀ C X, (compEnvC scope ((x, X) :: cl) C env).kindOf x = some .cell)
    (hy : env.kindOf y = some .local) (hp : (env.scope.kind == .class || (env.scope.kind == .module && env.locals != env.globals)) = false)
    (h : wpAny (model prog w) A (eval iter env) (SrcCR prog w A h₀ L m env elt x scope cl J (FinCA h₀ L m J y Q)) E s)
    (hs : ∀ x, foldedSetIterable iter env x = pure x := by intro _; rfl) :
    wpAny (model prog w) A (exec (.Assign [.Name y py] (.ListComp elt [⟨.Name x px, iter, [], 0⟩] scope pos) spos) env) Q E s := by
  subst hLe
  rw [exec_Assign_Name_used _ _ _ _ hsw]
  refine wpAny_bind (wpAny_standAt (wpAny_bind ?_))
  show wpAny _ A (do let _ ← comprehension (.ListComp elt [⟨.Name x px, iter, [], 0⟩] scope pos) scope env _ (newList []) false (eval iter env) (some (assign (.Name y py) env))) _ _ s
  refine wpAny_bind (wpAny_mono (wpAny_comprehension_free (use := some (assign (.Name y py) env)) (Q := fun _ s' => Q .next s') rfl hs hclos hkind hnames
    (wpAny_mono h (fun xv s₁ h₁ => ?_) fun _ _ e => e)) (fun _ s' hq => wpAny_pure (wpAny_pure hq)) fun _ _ e => e)
  obtain ⟨r, t, u, v, n, news, P, rfl, hh, F, N, hr, hsm, hsz, hJ₁, hP, turn, fin⟩ := h₁
  have hn : Builtin.Range.rangeSize 0 (n : Int) 1 = ((n : Nat) : Int) := by rw [rangeSize_nat]; omega
  refine wpAny_pyIter_range hr hsm ?_
  refine block_C (RR := fun acc C => compPost (model prog w) A E (some (assign (.Name y py) env)) (fun _ s' => Q .next s') acc C) (news := news) J P (range_src hh) hJ hsz hkind hcf hpc hx (by show IsRangeIter _ _ _ _ _; rw [hn]; simpa using Heap.get?_push_size _ rfl) (fun b hb => ?_)
    (F.keeps fun _ _ e => Heap.get?_push_of_some _ e) (N.grown fun _ _ e => Heap.get?_push_of_some _ e) (Nat.ne_of_lt F.ns.lt) (next_is_new F) (fun p hp => Nat.ne_of_lt (Heap.lt_size (N p hp).1)) hP (hJ s₁ _ _ hJ₁) turn ?_
  · rw [List.mem_singleton.mp hb]
    show @LT.lt Nat _ s₁.heap.objs.size (s₁.heap.push _).objs.size
    rw [Heap.size_push]; exact Nat.lt_succ_self _
  · intro D C ys news' s' m' hl' hP' hJ' F' N' off hn hC₀ hCL hCD
    show wpAny _ A (assign (.Name y py) env (.ref D)) _ _ _
    refine wpAny_assign_Name (wpAny_storeName_local hy F'.ns (fun h₂ hn₂ hs₂ => ?_) hp)
    have hL₀ : h₀.get? env.locals = none := Heap.get?_none_of_le F'.above
    have F₂ : Fr h₀ env.locals h₂ (fun z => if z = y then some (.ref D) else m z) := ⟨hn₂, fun b o e => hs₂.extBut b o (fun q => by rw [q, hL₀] at e; cases e) (F'.keep b o e), F'.above⟩
    refine ⟨m', hn.sameBut hs₂ hCL, fun h'' hs'' => fin D ys news' _ hl' hP' (hJ s' h'' _ hJ') (F₂.change hs'' hCL hC₀) (fun p hp => ?_) fun p hp => (off p hp).2⟩
    have z : h₂.get? p.1 = some p.2 := hs₂.extBut _ _ (N' p hp).2.1 (N' p hp).1
    refine ⟨hs''.extBut _ _ ?_ z, (N' p hp).2⟩
    rcases List.mem_cons.mp hp with rfl | hp
    · exact hCD.symm
    · exact (off p hp).1
end
end Mine
end
section
open PySem PySem.W PyProof.Rows PySem.Calls PySem.Spec
set_option maxRecDepth 100000
namespace Mine
noncomputable def EndG (s₁ : Shared) (tabs : List (Addr × Addr)) (r : Result) (s' : Shared) : Prop :=
  r = .ok (.ret (.bool true)) ∧ (∀ b o, (ghostOf s₁.heap tabs).get? b = some o → s'.heap.get? b = some o) ∧ s'.os = s₁.os ∧ AllBare s'.gens ∧ GrownAll tabs s'.heap
theorem end_post {M : Model} {A : Around} {cd : Code} {s s₁ : Shared} {cw : ClaimW} {cl : Str → Option Addr} {mean : ExcName → Option Value} {args : List WData} {tabs : List (Addr × Addr)} (hT : TabsAt tabs s₁.heap) (hr : ∀ x, cw.raises args x = false) (hp : cw.post args (.bool true) args = true)
    (h : codeAny M A cd (EndG s₁ tabs) s) : codeAny M A cd (GoodWG cw cl mean args s₁) s := by
  refine codeAny_mono h fun r s' hE => ?_
  obtain ⟨rfl, hk, hos, hb, hgr⟩ := hE
  have look : ∀ b o, s₁.heap.get? b = some o → s'.heap.get? b = some o ∨ (isCodeTable s₁.heap b ∧ o = tabObj #[] ∧ ∃ ps, s'.heap.get? b = some (tabObj ps)) := fun b o e => by
    by_cases hm : b ∈ tabs.map (·.2)
    · obtain ⟨q, hq, rfl⟩ := List.mem_map.mp hm
      obtain ⟨hc, ht⟩ := hT q hq
      rw [ht] at e
      exact .inr ⟨(hc.tab ht).isCodeTable, (Option.some.inj e).symm, hgr.get q hq⟩
    · exact .inl (hk b o (ghost_ne e hm))
  refine ⟨.inl ⟨.bool true, .bool true, [], rfl, hr, ReadsW.bool true, hp, fun _ => ⟨List.nodup_nil, fun a ha => nomatch ha⟩⟩, ⟨fun b o e => ?_, fun b o e => ?_⟩, hos, hb⟩
  · rcases look b o e with h | ⟨h1, rfl, ps, h3⟩
    · exact .inl h
    · exact .inr (.inl ⟨h1, rfl, #[], ps, rfl, by rw [Array.empty_append]; exact h3⟩)
  · rcases look b o e with h | ⟨_, _, ps, h3⟩
    · exact ⟨o, h⟩
    · exact ⟨_, h3⟩
end Mine
end
section
open PySem PySem.W PyProof.Rows
namespace Mine
theorem and_nat (a b : Nat) : Builtin.bitAnd (a : Int) (b : Int) = ((a &&& b : Nat) : Int) := by
  rw [bitAnd_pp (by omega) (by omega)]
  simp
theorem or_nat (a b : Nat) : Builtin.bitOr (a : Int) (b : Int) = ((a ||| b : Nat) : Int) := by
  unfold Builtin.bitOr
  rw [bitAnd_nn (by unfold Builtin.bitNot; omega) (by unfold Builtin.bitNot; omega)]
  have e : ∀ n : Nat, (Builtin.bitNot (Builtin.bitNot (n : Int))) = (n : Int) := fun n => by unfold Builtin.bitNot; omega
  rw [e, e, e]
  simp
theorem or_split (a b : Nat) : a ||| b = (a ^^^ b) + (a &&& b) := by
  induction a using Nat.strongRecOn generalizing b with
  | _ a ih =>
    by_cases h : a = 0
    · subst h; simp
    · have h1 := ih (a / 2) (by omega) (b / 2)
      rw [← Nat.or_div_two, ← Nat.xor_div_two, ← Nat.and_div_two] at h1
      have hm : (a ||| b) % 2 = (a ^^^ b) % 2 + (a &&& b) % 2 := by
        rw [Nat.or_mod_two_pow (n := 1), Nat.xor_mod_two_pow (n := 1), Nat.and_mod_two_pow (n := 1)]
        rcases Nat.mod_two_eq_zero_or_one a with p | p <;> rcases Nat.mod_two_eq_zero_or_one b with q | q <;> rw [show a % 2 ^ 1 = _ from p, show b % 2 ^ 1 = _ from q] <;> rfl
      rw [← Nat.div_add_mod (a ||| b) 2, h1, hm, Nat.mul_add, Nat.add_add_add_comm, Nat.div_add_mod, Nat.div_add_mod]
theorem xor_nat (a b : Nat) : Builtin.bitXor (a : Int) (b : Int) = ((a ^^^ b : Nat) : Int) := by
  unfold Builtin.bitXor
  rw [or_nat, and_nat, or_split]
  omega
theorem and_pow (m i : Nat) : m &&& 2 ^ i = if m.testBit i = true then 2 ^ i else 0 := by
  apply Nat.eq_of_testBit_eq
  intro j
  rw [Nat.testBit_and, Nat.testBit_two_pow]
  by_cases h : i = j
  · subst h
    cases hb : m.testBit i <;> simp
  · cases hb : m.testBit i <;> simp [h, Nat.testBit_two_pow]
theorem mask1 (m i : Nat) {k : Nat} (e : k = 2 ^ i) : (m &&& k = k) ↔ m.testBit i = true := by
  subst e
  rw [and_pow]
  have : 0 < 2 ^ i := Nat.pow_pos (by decide)
  split <;> simp_all <;> omega
theorem mask2 (m i j : Nat) {k : Nat} (e : k = 2 ^ i ||| 2 ^ j) (hi : ∀ p q : Bool, ((if p = true then 2 ^ i else 0) ||| (if q = true then 2 ^ j else 0) = k) ↔ (p = true ∧ q = true)) : (m &&& k = k) ↔ (m.testBit i = true ∧ m.testBit j = true) := by
  conv => lhs; lhs; rw [e]
  rw [Nat.and_or_distrib_left, and_pow, and_pow]
  exact hi _ _
theorem kind_and (m : Nat) (h : m < 65536) : m &&& 61440 = 4096 * (m / 4096) := by
  apply Nat.eq_of_testBit_eq
  intro i
  rw [show (61440 : Nat) = 2 ^ 12 * (2 ^ 4 - 1) by decide, show (4096 : Nat) = 2 ^ 12 by decide, Nat.testBit_and, Nat.testBit_two_pow_mul, Nat.testBit_two_pow_mul, Nat.testBit_two_pow_sub_one, Nat.testBit_div_two_pow]
  by_cases h1 : 12 ≤ i
  · rw [show i - 12 + 12 = i by omega]
    by_cases h2 : i - 12 < 4
    · simp [h1, h2]
    · have : m.testBit i = false := Nat.testBit_lt_two_pow (Nat.lt_of_lt_of_le h (show 2 ^ 16 ≤ 2 ^ i from Nat.pow_le_pow_right (by decide) (by omega)))
      simp [this]
  · simp [h1]
theorem lt_of_bits {m : Nat} (h : ∀ i, 16 ≤ i → m.testBit i = false) : m < 65536 := by
  exact Nat.lt_pow_two_of_testBit (n := 16) m fun i hi => h i hi
theorem high {m i : Nat} (h : m < 65536) (hi : 16 ≤ i) : m.testBit i = false :=
  Nat.testBit_lt_two_pow (Nat.lt_of_lt_of_le h (show 2 ^ 16 ≤ 2 ^ i from Nat.pow_le_pow_right (by decide) hi))
theorem due_bits {a b x : Nat} (ha : a < 65536) (hb : b < 65536) (hx : x < 65536) :
    ((a ^^^ x) &&& (x ^^^ b) = 0) ↔ ∀ i, i < 16 → (x.testBit i = a.testBit i ∨ x.testBit i = b.testBit i) := by
  constructor
  · intro h i _
    have := congrArg (fun n => n.testBit i) h
    simp only [Nat.testBit_and, Nat.testBit_xor, Nat.zero_testBit] at this
    revert this
    cases a.testBit i <;> cases b.testBit i <;> cases x.testBit i <;> simp
  · intro h
    apply Nat.eq_of_testBit_eq
    intro i
    simp only [Nat.testBit_and, Nat.testBit_xor, Nat.zero_testBit]
    by_cases hi : i < 16
    · have := h i hi
      revert this
      cases a.testBit i <;> cases b.testBit i <;> cases x.testBit i <;> simp
    · have hi' : 16 ≤ i := by omega
      simp [high ha hi', high hb hi', high hx hi']
theorem median_bits {a b c x : Nat} (ha : a < 65536) (hb : b < 65536) (hc : c < 65536) (hx : x < 65536) :
    ((a ^^^ x) &&& (x ^^^ b) = 0 ∧ (b ^^^ x) &&& (x ^^^ c) = 0 ∧ (c ^^^ x) &&& (x ^^^ a) = 0) ↔ x = ((a &&& b) ||| (b &&& c)) ||| (c &&& a) := by
  rw [due_bits ha hb hx, due_bits hb hc hx, due_bits hc ha hx]
  constructor
  · rintro ⟨h1, h2, h3⟩
    apply Nat.eq_of_testBit_eq
    intro i
    simp only [Nat.testBit_and, Nat.testBit_or]
    by_cases hi : i < 16
    · have q1 := h1 i hi
      have q2 := h2 i hi
      have q3 := h3 i hi
      revert q1 q2 q3
      cases a.testBit i <;> cases b.testBit i <;> cases c.testBit i <;> cases x.testBit i <;> simp
    · have hi' : 16 ≤ i := by omega
      simp [high ha hi', high hb hi', high hc hi', high hx hi']
  · intro h
    have e : ∀ i, x.testBit i = (((a.testBit i && b.testBit i) || (b.testBit i && c.testBit i)) || (c.testBit i && a.testBit i)) := fun i => by
      rw [h]; simp only [Nat.testBit_and, Nat.testBit_or]
    refine ⟨fun i _ => ?_, fun i _ => ?_, fun i _ => ?_⟩ <;> rw [e] <;> cases a.testBit i <;> cases b.testBit i <;> cases c.testBit i <;> simp
theorem kind_bits {a x : Nat} (ha : a < 65536) (hx : x < 65536) : x / 4096 = a / 4096 ↔ ∀ i, 12 ≤ i → i < 16 → x.testBit i = a.testBit i := by
  constructor
  · intro h i h1 h2
    have := congrArg (fun n => n.testBit (i - 12)) h
    simp only [show (4096 : Nat) = 2 ^ 12 by decide, Nat.testBit_div_two_pow] at this
    rwa [show i - 12 + 12 = i by omega] at this
  · intro h
    apply Nat.eq_of_testBit_eq
    intro i
    rw [show (4096 : Nat) = 2 ^ 12 by decide, Nat.testBit_div_two_pow, Nat.testBit_div_two_pow]
    by_cases hi : i + 12 < 16
    · exact h _ (by omega) hi
    · rw [high ha (by omega), high hx (by omega)]
end Mine
end
open Mine
local macro_rules | `(tactic| passes_own) => `(tactic| assumption)
local macro_rules | `(tactic| walk_at $s:str) => if s.getString == "execs nil" then `(tactic| with_reducible refine PySem.wpAny_execs_nil ?_) else if s.getString == "joinParts" then `(tactic| with_reducible first | refine PyProof.Rows.joinParts_cons ?_ | refine PyProof.Rows.joinParts_consE ?_ | refine Mine.jnil20 (by assumption) ?_) else if s.getString == "ite" then `(tactic| ((fail_if_success k_closed); refine Mine.Halt.out ?_)) else if s.getString == "subscriptTail" then `(tactic| refine Mine.haltST ?_) else Lean.Macro.throwUnsupported
theorem Mine.fillNow : (Mine.K = Mine.K → PySem.Challenge.rw_rx0053_01.Holds) → True := by
  k_fill
  exact fun _ => trivial
theorem Mine.rs_FSmall : True ∧ True := by
  (try (walk1; fail))
  exact ⟨trivial, trivial⟩
section
open PySem PySem.W PyProof.Rows PySem.Calls PySem.Spec
set_option maxRecDepth 100000
set_option maxHeartbeats 8000000
namespace Mine
section
local macro_rules | `(tactic| walk_at $s:str) => if ["KswEnd"].contains s.getString then `(tactic| refine Halt.out ?_) else Lean.Macro.throwUnsupported
theorem and_fn (w : World) (a b : Int) (ta tb : Tok) : Fn w 8 38 [.int a ta, .int b tb] (fun _ => True) (fun v _ _ => ∃ t, v = .int (Builtin.bitAnd a b) t) := by
  unfold Fn
  intro dp un gd outer base s Q E loose mean mg mb hdp hun B' X' T' hpre hret
  obtain ⟨sh, sg, sd, st0, so⟩ := s
  dsimp only at B' X' T' hpre hret
  k_dflt (refine' call_plain (binds := [(Str.ofString "a", .int a ta), (Str.ofString "b", .int b tb)]) ?X ?T ?o ?c ?r ?b ?l ?_ ?c2 ?c3 ?c4 ?c5; (case X => k_asm); (case T => k_asm); (case o => k_is); (case c => k_is); (case r => omega); (case b => exact BindsTo.of_eq rfl); (case l => exact locs rfl); (case c2 => decide); (case c3 => exact rfl); (case c4 => exact rfl); (case c5 => exact rfl); k_whole; intro L' h₁ qE eE tk9 hE hP F' N'; (simp only [List.reverse_cons, List.reverse_nil, List.nil_append, List.cons_append, lk] at F'); (try dsimp only); (try k_fold))
  repeat' (first | (with_reducible first | (refine one_cut5 sg sd so ?_; intro tkC) | (refine cons_cut5 sg sd so ?_; intro tkC qC hC)) | (k_unfold; (try dsimp only)) | walk1 | (with_reducible first | refine CutQ.next (by assumption) ?_ | refine CutQ.ret (by assumption) ?_ | refine CutQ.brk (by assumption) ?_ | refine CutQ.cont (by assumption) ?_ | refine EndQ.ret (by assumption) ?_ | refine EndQ.next (by assumption) ?_) | ((refine Halt.out' ?_); first | ((k_here; (with_reducible show wpAny _ _ (subscriptTail _ _ (Value.str _ _) (Value.int _ _)) _ _ _); (refine item_at (by omega) (by omega) (by omega) ?_); intro kxiE)) | (with_reducible ((show @ite _ _ _ _ _); ((refine ite_both (fun hc => ?_) (fun hc => ?_)); (all_goals (try simp only [beq_iff_eq, decide_eq_true_eq] at hc)))))) | (dsimp only; walk1) | fail "no step")
  all_goals (try dsimp only)
  all_goals (refine hret _ _ _ (fun b o e => Fr.keep (by assumption) b o e) ?_)
  all_goals exact ⟨_, rfl⟩
theorem or_fn (w : World) (a b : Int) (ta tb : Tok) : Fn w 8 45 [.int a ta, .int b tb] (fun _ => True) (fun v _ _ => ∃ t, v = .int (Builtin.bitOr a b) t) := by
  unfold Fn
  intro dp un gd outer base s Q E loose mean mg mb hdp hun B' X' T' hpre hret
  obtain ⟨sh, sg, sd, st0, so⟩ := s
  dsimp only at B' X' T' hpre hret
  k_dflt (refine' call_plain (binds := [(Str.ofString "a", .int a ta), (Str.ofString "b", .int b tb)]) ?X ?T ?o ?c ?r ?b ?l ?_ ?c2 ?c3 ?c4 ?c5; (case X => k_asm); (case T => k_asm); (case o => k_is); (case c => k_is); (case r => omega); (case b => exact BindsTo.of_eq rfl); (case l => exact locs rfl); (case c2 => decide); (case c3 => exact rfl); (case c4 => exact rfl); (case c5 => exact rfl); k_whole; intro L' h₁ qE eE tk9 hE hP F' N'; (simp only [List.reverse_cons, List.reverse_nil, List.nil_append, List.cons_append, lk] at F'); (try dsimp only); (try k_fold))
  repeat' (first | (with_reducible first | (refine one_cut5 sg sd so ?_; intro tkC) | (refine cons_cut5 sg sd so ?_; intro tkC qC hC)) | (k_unfold; (try dsimp only)) | walk1 | (with_reducible first | refine CutQ.next (by assumption) ?_ | refine CutQ.ret (by assumption) ?_ | refine CutQ.brk (by assumption) ?_ | refine CutQ.cont (by assumption) ?_ | refine EndQ.ret (by assumption) ?_ | refine EndQ.next (by assumption) ?_) | ((refine Halt.out' ?_); first | ((k_here; (with_reducible show wpAny _ _ (subscriptTail _ _ (Value.str _ _) (Value.int _ _)) _ _ _); (refine item_at (by omega) (by omega) (by omega) ?_); intro kxiE)) | (with_reducible ((show @ite _ _ _ _ _); ((refine ite_both (fun hc => ?_) (fun hc => ?_)); (all_goals (try simp only [beq_iff_eq, decide_eq_true_eq] at hc)))))) | (dsimp only; walk1) | fail "no step")
  all_goals (try dsimp only)
  all_goals (refine hret _ _ _ (fun b o e => Fr.keep (by assumption) b o e) ?_)
  all_goals exact ⟨_, rfl⟩
theorem xor_fn (w : World) (a b : Int) (ta tb : Tok) : Fn w 8 52 [.int a ta, .int b tb] (fun _ => True) (fun v _ _ => ∃ t, v = .int (Builtin.bitXor a b) t) := by
  unfold Fn
  intro dp un gd outer base s Q E loose mean mg mb hdp hun B' X' T' hpre hret
  obtain ⟨sh, sg, sd, st0, so⟩ := s
  dsimp only at B' X' T' hpre hret
  k_dflt (refine' call_plain (binds := [(Str.ofString "a", .int a ta), (Str.ofString "b", .int b tb)]) ?X ?T ?o ?c ?r ?b ?l ?_ ?c2 ?c3 ?c4 ?c5; (case X => k_asm); (case T => k_asm); (case o => k_is); (case c => k_is); (case r => omega); (case b => exact BindsTo.of_eq rfl); (case l => exact locs rfl); (case c2 => decide); (case c3 => exact rfl); (case c4 => exact rfl); (case c5 => exact rfl); k_whole; intro L' h₁ qE eE tk9 hE hP F' N'; (simp only [List.reverse_cons, List.reverse_nil, List.nil_append, List.cons_append, lk] at F'); (try dsimp only); (try k_fold))
  repeat' (first | (with_reducible first | (refine one_cut5 sg sd so ?_; intro tkC) | (refine cons_cut5 sg sd so ?_; intro tkC qC hC)) | (k_unfold; (try dsimp only)) | walk1 | (with_reducible first | refine CutQ.next (by assumption) ?_ | refine CutQ.ret (by assumption) ?_ | refine CutQ.brk (by assumption) ?_ | refine CutQ.cont (by assumption) ?_ | refine EndQ.ret (by assumption) ?_ | refine EndQ.next (by assumption) ?_) | ((refine Halt.out' ?_); first | ((k_here; (with_reducible show wpAny _ _ (subscriptTail _ _ (Value.str _ _) (Value.int _ _)) _ _ _); (refine item_at (by omega) (by omega) (by omega) ?_); intro kxiE)) | (with_reducible ((show @ite _ _ _ _ _); ((refine ite_both (fun hc => ?_) (fun hc => ?_)); (all_goals (try simp only [beq_iff_eq, decide_eq_true_eq] at hc)))))) | (dsimp only; walk1) | fail "no step")
  all_goals (try dsimp only)
  all_goals (refine hret _ _ _ (fun b o e => Fr.keep (by assumption) b o e) ?_)
  all_goals exact ⟨_, rfl⟩
theorem ifmt_fn (w : World) (a : Int) (ta : Tok) : Fn w 8 104 [.int a ta] (fun _ => True) (fun v _ _ => ∃ t, v = .int (Builtin.bitAnd a 61440) t) := by
  unfold Fn
  intro dp un gd outer base s Q E loose mean mg mb hdp hun B' X' T' hpre hret
  obtain ⟨sh, sg, sd, st0, so⟩ := s
  dsimp only at B' X' T' hpre hret
  k_dflt (refine' call_plain (binds := [(Str.ofString "mode", .int a ta)]) ?X ?T ?o ?c ?r ?b ?l ?_ ?c2 ?c3 ?c4 ?c5; (case X => k_asm); (case T => k_asm); (case o => k_is); (case c => k_is); (case r => omega); (case b => exact BindsTo.of_eq rfl); (case l => exact locs rfl); (case c2 => decide); (case c3 => exact rfl); (case c4 => exact rfl); (case c5 => exact rfl); k_whole; intro L' h₁ qE eE tk9 hE hP F' N'; (simp only [List.reverse_cons, List.reverse_nil, List.nil_append, List.cons_append, lk] at F'); (try dsimp only); (try k_fold))
  repeat' (first | (with_reducible first | (refine one_cut5 sg sd so ?_; intro tkC) | (refine cons_cut5 sg sd so ?_; intro tkC qC hC)) | (k_unfold; (try dsimp only)) | walk1 | (with_reducible first | refine CutQ.next (by assumption) ?_ | refine CutQ.ret (by assumption) ?_ | refine CutQ.brk (by assumption) ?_ | refine CutQ.cont (by assumption) ?_ | refine EndQ.ret (by assumption) ?_ | refine EndQ.next (by assumption) ?_) | ((refine Halt.out' ?_); first | ((k_here; (with_reducible show wpAny _ _ (subscriptTail _ _ (Value.str _ _) (Value.int _ _)) _ _ _); (refine item_at (by omega) (by omega) (by omega) ?_); intro kxiE)) | (with_reducible ((show @ite _ _ _ _ _); ((refine ite_both (fun hc => ?_) (fun hc => ?_)); (all_goals (try simp only [beq_iff_eq, decide_eq_true_eq] at hc)))))) | (dsimp only; walk1) | fail "no step")
  all_goals (try dsimp only)
  all_goals (refine hret _ _ _ (fun b o e => Fr.keep (by assumption) b o e) ?_)
  all_goals exact ⟨_, rfl⟩
end
end Mine
end
theorem Mine.rs_FBtw : True ∧ True := by
  (try (walk1; fail))
  exact ⟨trivial, trivial⟩
section
open PySem PySem.W PyProof.Rows PySem.Calls PySem.Spec
set_option maxRecDepth 100000
set_option maxHeartbeats 8000000
namespace Mine
noncomputable def btwStep (sc : Str) (i j : Int) (acc : Str) (k : Int) : Str :=
  if (Int.fmod k 2 = Int.fmod i 2 ∨ Int.fmod k 2 = Int.fmod j 2) ∧ (Int.fdiv k 2 = Int.fdiv i 2 ∨ Int.fdiv k 2 = Int.fdiv j 2) then acc ++ Txt.item sc k else acc
noncomputable def btwAt (sc : Str) (i j : Int) : Nat → Str
  | 0 => Str.empty
  | n + 1 => btwStep sc i j (btwAt sc i j n) (0 + (n : Int))
theorem btwAt_len (sc : Str) (i j : Int) : ∀ n, (btwAt sc i j n).length ≤ n
  | 0 => Nat.le_refl 0
  | n + 1 => by
    have := btwAt_len sc i j n
    show (btwStep sc i j (btwAt sc i j n) (0 + (n : Int))).length ≤ n + 1
    unfold btwStep
    split
    · rw [Str.length_append]
      have e : (Txt.item sc (0 + (n : Int))).length = 1 := rfl
      omega
    · omega
theorem btw_size {sc : Str} {i j k : Int} {n : Nat} (h : n ≤ 4) : (btwAt sc i j n).length + (Txt.item sc k).length ≤ 16777216 := by
  have := btwAt_len sc i j n
  have e : (Txt.item sc k).length = 1 := rfl
  omega
section
local macro_rules | `(tactic| walk_at $s:str) => if ["KswEnd", "pyIter ref", "binaryOp Add str str", "InvEndN"].contains s.getString then `(tactic| refine Halt.out ?_) else Lean.Macro.throwUnsupported
theorem btw_fn (w : World) (sc one two : Str) (ta tb tc : Tok) (hsc : sc.length ≤ 4) (hsc2 : 2 ≤ sc.length) (h1 : one.length = 1) (h2 : two.length = 1) : Fn w 8 170 [.str sc ta, .str one tb, .str two tc] (fun _ => True) (fun v _ _ => ∃ t, v = .str (btwAt sc (Txt.find sc one) (Txt.find sc two) sc.length) t) := by
  unfold Fn
  intro dp un gd outer base s Q E loose mean mg mb hdp hun B' X' T' hpre hret
  obtain ⟨sh, sg, sd, st0, so⟩ := s
  dsimp only at B' X' T' hpre hret
  k_dflt (refine' call_plain (binds := [(Str.ofString "scale", .str sc ta), (Str.ofString "one", .str one tb), (Str.ofString "two", .str two tc)]) ?X ?T ?o ?c ?r ?b ?l ?_ ?c2 ?c3 ?c4 ?c5; (case X => k_asm); (case T => k_asm); (case o => k_is); (case c => k_is); (case r => omega); (case b => exact BindsTo.of_eq rfl); (case l => exact locs rfl); (case c2 => decide); (case c3 => exact rfl); (case c4 => exact rfl); (case c5 => exact rfl); k_whole; intro L' h₁ qE eE tk9 hE hP F' N'; (simp only [List.reverse_cons, List.reverse_nil, List.nil_append, List.cons_append, lk] at F'); (try dsimp only); (try k_fold))
  have hg : Holds (fun n t => Value.str (btwAt sc (Txt.find sc one) (Txt.find sc two) n) t) := trivial
  repeat' (first | (with_reducible first | (refine one_cut5 sg sd so ?_; intro tkC) | (refine cons_cut5 sg sd so ?_; intro tkC qC hC)) | (k_unfold; (try dsimp only)) | walk1 | (with_reducible first | refine CutQ.next (by assumption) ?_ | refine CutQ.ret (by assumption) ?_ | refine CutQ.brk (by assumption) ?_ | refine CutQ.cont (by assumption) ?_ | refine EndQ.ret (by assumption) ?_ | refine EndQ.next (by assumption) ?_) | ((refine Halt.out' ?_); first | ((with_reducible show InvEndN _ _ _ _ _ _ _); (refine InvEndN.intro (by assumption) (by assumption) (keeps_str (S := fun n => btwAt _ _ _ n) (by with_unfolding_all rfl) (by (show _ = btwStep _ _ _ _ _); unfold btwStep; first | (rw [if_pos (by omega)]; done) | (rw [if_neg (by omega)]; done)) (by intro z hx hy hz; simp [turnMap, hx, hy, hz])) (by rfl) (by (with_unfolding_all ((try simp only [List.nil_append, List.cons_append]); k_allIn))) (by (intro p hp; k_ownIn)))) | ((with_reducible show wpAny _ _ (binaryOp Operator.Add (Value.str _ _) (Value.str _ _)) _ _ _); (refine KOpn.add (btw_size (by omega)) ?_; intro t' k' hl)) | ((with_reducible show wpAny _ _ (pyIter (Value.ref _)) _ _ _); ((rename Fr _ _ _ _ => lF'); (rename News _ _ _ _ => lN'); (rename IsRange _ _ _ _ _ _ _ _ => rgX); (with_unfolding_all refine' range_one (y := Str.ofString "kept") [] (by assumption) (by rfl) (by exact rgX) (by first | exact small_one (by l_bnd) (by l_bnd) (by l_bnd) (by l_bnd) | decide) (by first | exact rangeSize_nat _ _ | rfl) lF' lN' ⟨_, by rfl⟩ (fun i' t' ta' u' h' tk' own' hi' hoff' F' N' => ?_) (fun u' v' t' h' tk' F' N' => ?_)); (all_goals (try clear lF' lN')); (all_goals (try dsimp only at F')); (all_goals (try simp only [List.nil_append, List.cons_append, List.append_nil] at N')))) | ((k_here; (with_reducible show wpAny _ _ (subscriptTail _ _ (Value.str _ _) (Value.int _ _)) _ _ _); (refine item_at (by omega) (by omega) (by omega) ?_); intro kxiE)) | (with_reducible ((show @ite _ _ _ _ _); ((refine ite_both (fun hc => ?_) (fun hc => ?_)); (all_goals (try simp only [beq_iff_eq, decide_eq_true_eq] at hc)))))) | (dsimp only; walk1) | fail "no step")
  all_goals (try dsimp only)
  all_goals (refine hret _ _ _ (fun b o e => Fr.keep (by assumption) b o e) ?_)
  all_goals exact ⟨_, rfl⟩
end
end Mine
end
theorem Mine.rs_FPiece : True ∧ True := by
  (try (walk1; fail))
  exact ⟨trivial, trivial⟩
section
open PySem PySem.W PyProof.Rows PySem.Calls PySem.Spec
set_option maxRecDepth 100000
set_option maxHeartbeats 8000000
namespace Mine
noncomputable def leftOf (sc k : Str) : Str := ⟨(sc.cps.toList.filter fun c => (Builtin.Str.occurrences k ⟨#[c]⟩ 0 k.length 1).isEmpty).toArray⟩
theorem leftOf_len (sc k : Str) : (leftOf sc k).length ≤ sc.length := by
  show (List.filter _ _).toArray.size ≤ sc.cps.size
  rw [List.size_toArray, ← Array.length_toList]
  exact List.length_filter_le _ _
noncomputable def pieceOf (sc k : Str) (b : Int) : Str :=
  if (k.length : Int) = 1 then k else if b = 0 then Str.ofString "[" ++ Txt.slice k (some 1) none ++ Txt.slice k none (some 1) ++ Str.ofString "]"
  else if leftOf sc k = Str.ofString "" then Str.ofString "?" else Str.ofString "[!" ++ Txt.slice (leftOf sc k) (some 1) none ++ Txt.slice (leftOf sc k) none (some 1) ++ Str.ofString "]"
section
local macro_rules | `(tactic| walk_at $s:str) => if ["KswEnd", "eval ListComp"].contains s.getString then `(tactic| refine Halt.out ?_) else Lean.Macro.throwUnsupported
theorem piece_fn (w : World) (sc k : Str) (b : Int) (ta tb tc : Tok) (ha : sc.cps.all (· < 128) = true) (h1 : sc.length ≤ 4) (h2 : k.length ≤ 4) : Fn w 8 175 [.str sc ta, .str k tb, .int b tc] (fun _ => True) (fun v _ _ => ∃ t, v = .str (pieceOf sc k b) t) := by
  unfold Fn
  intro dp un gd outer base s Q E loose mean mg mb hdp hun B' X' T' hpre hret
  obtain ⟨sh, sg, sd, st0, so⟩ := s
  dsimp only at B' X' T' hpre hret
  k_dflt (refine' call_cells (binds := [(Str.ofString "scale", .str sc ta), (Str.ofString "kept", .str k tb), (Str.ofString "barred", .int b tc)]) ?X ?T ?o ?c ?r ?b ?l ?d ?_ ?c3 ?c4 ?c5; (case X => k_asm); (case T => k_asm); (case o => k_is); (case c => k_is); (case r => omega); (case b => exact BindsTo.of_eq rfl); (case l => exact rfl); (case d => decide +kernel); (case c3 => exact rfl); (case c4 => exact rfl); (case c5 => exact rfl); k_whole; intro L' h₁ qE eE tk' cells' hE hP F' N' Y'; k_cells Y'; (try simp only [List.cons_append, List.nil_append] at N'); (try dsimp only); (try k_fold))
  have hks : KeepsSigns (fun c => (Builtin.Str.occurrences k ⟨#[c]⟩ 0 k.length 1).isEmpty) := trivial
  repeat (first | (with_reducible first | (refine one_cut5 sg sd so ?_; intro tkC) | (refine cons_cut5 sg sd so ?_; intro tkC qC hC)) | (k_unfold; (try dsimp only)) | walk1 | (with_reducible first | refine CutQ.next (by assumption) ?_ | refine CutQ.ret (by assumption) ?_ | refine CutQ.brk (by assumption) ?_ | refine CutQ.cont (by assumption) ?_ | refine EndQ.ret (by assumption) ?_ | refine EndQ.next (by assumption) ?_) | ((refine Halt.out' ?_); first | (with_reducible ((show wpAny _ _ (eval (Expr.ListComp _ _ _ _) _) _ _ _); (k_here; k_dflt (refine ListComp_S (F₀ := by k_asm) (by with_unfolding_all rfl) (by decide) (by rfl) (by decide) (by rfl) ?_)))) | ((k_here; (with_reducible show wpAny _ _ (subscriptTail _ _ (Value.str _ _) (Value.int _ _)) _ _ _); (refine item_at (by omega) (by omega) (by omega) ?_); intro kxiE)) | (with_reducible ((show @ite _ _ _ _ _); ((refine ite_both (fun hc => ?_) (fun hc => ?_)); (all_goals (try simp only [beq_iff_eq, decide_eq_true_eq] at hc)))))) | (dsimp only; walk1) | fail "no step")
  · have hq := hc
    dsimp only
    refine hret _ _ _ (fun b o e => Fr.keep (by assumption) b o e) (str_is ?_)
    rw [pieceOf, if_pos hq]
  repeat (first | (with_reducible first | (refine one_cut5 sg sd so ?_; intro tkC) | (refine cons_cut5 sg sd so ?_; intro tkC qC hC)) | (k_unfold; (try dsimp only)) | walk1 | (with_reducible first | refine CutQ.next (by assumption) ?_ | refine CutQ.ret (by assumption) ?_ | refine CutQ.brk (by assumption) ?_ | refine CutQ.cont (by assumption) ?_ | refine EndQ.ret (by assumption) ?_ | refine EndQ.next (by assumption) ?_) | ((refine Halt.out' ?_); first | (with_reducible ((show wpAny _ _ (eval (Expr.ListComp _ _ _ _) _) _ _ _); (k_here; k_dflt (refine ListComp_S (F₀ := by k_asm) (by with_unfolding_all rfl) (by decide) (by rfl) (by decide) (by rfl) ?_)))) | ((k_here; (with_reducible show wpAny _ _ (subscriptTail _ _ (Value.str _ _) (Value.int _ _)) _ _ _); (refine item_at (by omega) (by omega) (by omega) ?_); intro kxiE)) | (with_reducible ((show @ite _ _ _ _ _); ((refine ite_both (fun hc => ?_) (fun hc => ?_)); (all_goals (try simp only [beq_iff_eq, decide_eq_true_eq] at hc)))))) | (dsimp only; walk1) | fail "no step")
  · (try dsimp only)
    refine hret _ _ _ (fun b o e => Fr.keep (by assumption) b o e) (str_is ?_)
    rw [pieceOf, if_neg (by assumption), if_pos (by assumption)]
  repeat (first | (with_reducible first | (refine one_cut5 sg sd so ?_; intro tkC) | (refine cons_cut5 sg sd so ?_; intro tkC qC hC)) | (k_unfold; (try dsimp only)) | walk1 | (with_reducible first | refine CutQ.next (by assumption) ?_ | refine CutQ.ret (by assumption) ?_ | refine CutQ.brk (by assumption) ?_ | refine CutQ.cont (by assumption) ?_ | refine EndQ.ret (by assumption) ?_ | refine EndQ.next (by assumption) ?_) | ((refine Halt.out' ?_); first | (with_reducible ((show wpAny _ _ (eval (Expr.ListComp _ _ _ _) _) _ _ _); (k_here; k_dflt (refine ListComp_S (F₀ := by k_asm) (by with_unfolding_all rfl) (by decide) (by rfl) (by decide) (by rfl) ?_)))) | ((k_here; (with_reducible show wpAny _ _ (subscriptTail _ _ (Value.str _ _) (Value.int _ _)) _ _ _); (refine item_at (by omega) (by omega) (by omega) ?_); intro kxiE)) | (with_reducible ((show @ite _ _ _ _ _); ((refine ite_both (fun hc => ?_) (fun hc => ?_)); (all_goals (try simp only [beq_iff_eq, decide_eq_true_eq] at hc)))))) | (dsimp only; walk1) | fail "no step")
  refine ⟨_, _, _, rfl, by rfl, (by assumption), (by assumption), (by assumption), ?sz, ?rest⟩
  case sz => (show PySem.Str.length _ ≤ _); rw [sizeLine_eq]; omega
  case rest =>
    rintro s₂ ⟨g, rfl⟩
    refine signs_rest' (by assumption) ?turn ?fin
    case turn =>
      intro i9 c9 u9 I9 oI9 C9 oC9 D9 m9 ys9 h9 tk9 E9 hc9 hC9 hx9 F9 N9 off9 ne9
      repeat' (first | (with_reducible first | (refine one_cut5 sg sd so ?_; intro tkC) | (refine cons_cut5 sg sd so ?_; intro tkC qC hC)) | (k_unfold; (try dsimp only)) | walk1 | (with_reducible first | refine CutQ.next (by assumption) ?_ | refine CutQ.ret (by assumption) ?_ | refine CutQ.brk (by assumption) ?_ | refine CutQ.cont (by assumption) ?_ | refine EndQ.ret (by assumption) ?_ | refine EndQ.next (by assumption) ?_) | ((refine Halt.out' ?_); first | (with_reducible ((show wpAny _ _ (eval (Expr.ListComp _ _ _ _) _) _ _ _); (k_here; k_dflt (refine ListComp_S (F₀ := by k_asm) (by with_unfolding_all rfl) (by decide) (by rfl) (by decide) (by rfl) ?_)))) | ((k_here; (with_reducible show wpAny _ _ (subscriptTail _ _ (Value.str _ _) (Value.int _ _)) _ _ _); (refine item_at (by omega) (by omega) (by omega) ?_); intro kxiE)) | (with_reducible ((show @ite _ _ _ _ _); ((refine ite_both (fun hc => ?_) (fun hc => ?_)); (all_goals (try simp only [beq_iff_eq, decide_eq_true_eq] at hc)))))) | (dsimp only; walk1) | fail "no step")
      · have hq := hc
        exact ⟨_, _, _, rfl, F9, N9, off9, trivial, rfl, by simpa using hq, _, rfl⟩
      · have hq := hc
        exact ⟨_, _, _, rfl, F9, N9, off9, trivial, rfl, by simpa using hq⟩
    case fin =>
      intro ys9 hys9
      unfold LCg.FinE
      intro D9 h9 tk9 F9 N9 off9
      repeat (first | (with_reducible first | (refine one_cut5 sg sd so ?_; intro tkC) | (refine cons_cut5 sg sd so ?_; intro tkC qC hC)) | (k_unfold; (try dsimp only)) | walk1 | (with_reducible first | refine CutQ.next (by assumption) ?_ | refine CutQ.ret (by assumption) ?_ | refine CutQ.brk (by assumption) ?_ | refine CutQ.cont (by assumption) ?_ | refine EndQ.ret (by assumption) ?_ | refine EndQ.next (by assumption) ?_) | ((refine Halt.out' ?_); first | (with_reducible ((show wpAny _ _ (eval (Expr.ListComp _ _ _ _) _) _ _ _); (k_here; k_dflt (refine ListComp_S (F₀ := by k_asm) (by with_unfolding_all rfl) (by decide) (by rfl) (by decide) (by rfl) ?_)))) | ((k_here; (with_reducible show wpAny _ _ (subscriptTail _ _ (Value.str _ _) (Value.int _ _)) _ _ _); (refine item_at (by omega) (by omega) (by omega) ?_); intro kxiE)) | (with_reducible ((show @ite _ _ _ _ _); ((refine ite_both (fun hc => ?_) (fun hc => ?_)); (all_goals (try simp only [beq_iff_eq, decide_eq_true_eq] at hc)))))) | (dsimp only; walk1) | fail "no step")
      refine join_signs (News.isList N9 (.head _)) (by simpa using hys9) ?_ ?_
      · have := leftOf_len sc k
        have e : (leftOf sc k).length = (sc.cps.toList.filter fun c => (Builtin.Str.occurrences k ⟨#[c]⟩ 0 k.length 1).isEmpty).length := by
          show (List.toArray _).size = _
          rw [List.size_toArray]
        omega
      intro t9 k9
      have hl9 := leftOf_len sc k
      have e9 : (⟨(sc.cps.toList.filter fun c => (Builtin.Str.occurrences k ⟨#[c]⟩ 0 k.length 1).isEmpty).toArray⟩ : Str) = leftOf sc k := rfl
      rw [e9]
      clear e9 hys9
      generalize hlo : leftOf sc k = lo at hl9 ⊢
      repeat (first | (with_reducible first | (refine one_cut5 sg sd so ?_; intro tkC) | (refine cons_cut5 sg sd so ?_; intro tkC qC hC)) | (k_unfold; (try dsimp only)) | walk1 | (with_reducible first | refine CutQ.next (by assumption) ?_ | refine CutQ.ret (by assumption) ?_ | refine CutQ.brk (by assumption) ?_ | refine CutQ.cont (by assumption) ?_ | refine EndQ.ret (by assumption) ?_ | refine EndQ.next (by assumption) ?_) | ((refine Halt.out' ?_); first | (with_reducible ((show wpAny _ _ (eval (Expr.ListComp _ _ _ _) _) _ _ _); (k_here; k_dflt (refine ListComp_S (F₀ := by k_asm) (by with_unfolding_all rfl) (by decide) (by rfl) (by decide) (by rfl) ?_)))) | ((k_here; (with_reducible show wpAny _ _ (subscriptTail _ _ (Value.str _ _) (Value.int _ _)) _ _ _); (refine item_at (by omega) (by omega) (by omega) ?_); intro kxiE)) | (with_reducible ((show @ite _ _ _ _ _); ((refine ite_both (fun hc => ?_) (fun hc => ?_)); (all_goals (try simp only [beq_iff_eq, decide_eq_true_eq] at hc)))))) | (dsimp only; walk1) | fail "no step")
      · have hq := hc
        (try dsimp only)
        refine hret _ _ _ (fun b o e => Fr.keep (by assumption) b o e) (str_is ?_)
        rw [pieceOf, if_neg (by assumption), if_neg (by assumption), hlo, if_pos hq]
      repeat (first | (with_reducible first | (refine one_cut5 sg sd so ?_; intro tkC) | (refine cons_cut5 sg sd so ?_; intro tkC qC hC)) | (k_unfold; (try dsimp only)) | walk1 | (with_reducible first | refine CutQ.next (by assumption) ?_ | refine CutQ.ret (by assumption) ?_ | refine CutQ.brk (by assumption) ?_ | refine CutQ.cont (by assumption) ?_ | refine EndQ.ret (by assumption) ?_ | refine EndQ.next (by assumption) ?_) | ((refine Halt.out' ?_); first | (with_reducible ((show wpAny _ _ (eval (Expr.ListComp _ _ _ _) _) _ _ _); (k_here; k_dflt (refine ListComp_S (F₀ := by k_asm) (by with_unfolding_all rfl) (by decide) (by rfl) (by decide) (by rfl) ?_)))) | ((k_here; (with_reducible show wpAny _ _ (subscriptTail _ _ (Value.str _ _) (Value.int _ _)) _ _ _); (refine item_at (by omega) (by omega) (by omega) ?_); intro kxiE)) | (with_reducible ((show @ite _ _ _ _ _); ((refine ite_both (fun hc => ?_) (fun hc => ?_)); (all_goals (try simp only [beq_iff_eq, decide_eq_true_eq] at hc)))))) | (dsimp only; walk1) | fail "no step")
      · (try dsimp only)
        refine hret _ _ _ (fun b o e => Fr.keep (by assumption) b o e) (str_is ?_)
        rw [pieceOf, if_neg (by assumption), if_neg (by assumption), hlo, if_neg (by assumption)]
end
end Mine
end
theorem Mine.rs_FScale : True ∧ True := by
  (try (walk1; fail))
  exact ⟨trivial, trivial⟩
section
open PySem PySem.W PyProof.Rows PySem.Calls PySem.Spec
set_option maxRecDepth 100000
set_option maxHeartbeats 8000000
namespace Mine
noncomputable def scaleOf (a : Int) : Str :=
  if a = 3 ∨ a = 6 then Str.ofString "-xSs" else if a = 9 then Str.ofString "-xTt" else if Int.fmod a 3 = 1 then Str.ofString "-r" else Str.ofString "-w"
theorem scaleOf_len (a : Int) : 2 ≤ (scaleOf a).length ∧ (scaleOf a).length ≤ 4 := by
  unfold scaleOf
  split
  · decide +kernel
  · split
    · decide +kernel
    · split <;> decide +kernel
theorem scaleOf_ascii (a : Int) : (scaleOf a).cps.all (· < 128) = true := by
  unfold scaleOf
  split
  · decide +kernel
  · split
    · decide +kernel
    · split <;> decide +kernel
section
local macro_rules | `(tactic| walk_at $s:str) => if ["KswEnd"].contains s.getString then `(tactic| refine Halt.out ?_) else Lean.Macro.throwUnsupported
theorem scale_fn (w : World) (a : Int) (ta : Tok) : Fn w 8 163 [.int a ta] (fun _ => True) (fun v _ _ => ∃ t, v = .str (scaleOf a) t) := by
  unfold Fn
  intro dp un gd outer base s Q E loose mean mg mb hdp hun B' X' T' hpre hret
  obtain ⟨sh, sg, sd, st0, so⟩ := s
  dsimp only at B' X' T' hpre hret
  k_dflt (refine' call_plain (binds := [(Str.ofString "place", .int a ta)]) ?X ?T ?o ?c ?r ?b ?l ?_ ?c2 ?c3 ?c4 ?c5; (case X => k_asm); (case T => k_asm); (case o => k_is); (case c => k_is); (case r => omega); (case b => exact BindsTo.of_eq rfl); (case l => exact locs rfl); (case c2 => decide); (case c3 => exact rfl); (case c4 => exact rfl); (case c5 => exact rfl); k_whole; intro L' h₁ qE eE tk9 hE hP F' N'; (simp only [List.reverse_cons, List.reverse_nil, List.nil_append, List.cons_append, lk] at F'); (try dsimp only); (try k_fold))
  repeat' (first | (with_reducible first | (refine one_cut5 sg sd so ?_; intro tkC) | (refine cons_cut5 sg sd so ?_; intro tkC qC hC)) | (k_unfold; (try dsimp only)) | walk1 | (with_reducible first | refine CutQ.next (by assumption) ?_ | refine CutQ.ret (by assumption) ?_ | refine CutQ.brk (by assumption) ?_ | refine CutQ.cont (by assumption) ?_ | refine EndQ.ret (by assumption) ?_ | refine EndQ.next (by assumption) ?_) | ((refine Halt.out' ?_); first | ((k_here; (with_reducible show wpAny _ _ (subscriptTail _ _ (Value.str _ _) (Value.int _ _)) _ _ _); (refine item_at (by omega) (by omega) (by omega) ?_); intro kxiE)) | (with_reducible ((show @ite _ _ _ _ _); ((refine ite_both (fun hc => ?_) (fun hc => ?_)); (all_goals (try simp only [beq_iff_eq, decide_eq_true_eq] at hc)))))) | (dsimp only; walk1) | fail "no step")
  all_goals (try dsimp only)
  all_goals (refine hret _ _ _ (fun b o e => Fr.keep (by assumption) b o e) ?_)
  all_goals refine str_is ?_
  all_goals unfold scaleOf
  all_goals first
    | (rw [if_pos (by omega)]; done)
    | (rw [if_neg (by omega), if_pos (by omega)]; done)
    | (rw [if_neg (by omega), if_neg (by omega), if_pos (by omega)]; done)
    | (rw [if_neg (by omega), if_neg (by omega), if_neg (by omega)]; done)
end
end Mine
end
theorem Mine.rs_FPat : True ∧ True := by
  (try (walk1; fail))
  exact ⟨trivial, trivial⟩
section
open PySem PySem.W PyProof.Rows PySem.Calls PySem.Spec
set_option maxRecDepth 100000
set_option maxHeartbeats 8000000
namespace Mine
theorem pieceOf_len {sc k : Str} {b : Int} (h1 : sc.length ≤ 4) (h2 : k.length ≤ 4) : (pieceOf sc k b).length ≤ 12 := by
  have hl := leftOf_len sc k
  unfold pieceOf
  have e1 : (Str.ofString "[").length = 1 := by decide +kernel
  have e2 : (Str.ofString "]").length = 1 := by decide +kernel
  have e3 : (Str.ofString "[!").length = 2 := by decide +kernel
  have e4 : (Str.ofString "?").length = 1 := by decide +kernel
  have a1 := Txt.slice_le k (some 1) none
  have a2 := Txt.slice_le k none (some 1)
  have a3 := Txt.slice_le (leftOf sc k) (some 1) none
  have a4 := Txt.slice_le (leftOf sc k) none (some 1)
  split
  · omega
  · split
    · simp only [Str.length_append]; omega
    · split
      · omega
      · simp only [Str.length_append]; omega
noncomputable def patAt (one two : Str) (sh : Int) : Nat → Str
  | 0 => Txt.item one 0
  | n + 1 => patAt one two sh n ++ pieceOf (scaleOf (1 + (n : Int))) (btwAt (scaleOf (1 + (n : Int))) (Txt.find (scaleOf (1 + (n : Int))) (Txt.item one (1 + (n : Int)))) (Txt.find (scaleOf (1 + (n : Int))) (Txt.item two (1 + (n : Int)))) (scaleOf (1 + (n : Int))).length) (Int.fmod (1 + (n : Int) + sh) 2)
theorem patAt_len (one two : Str) (sh : Int) : ∀ n, (patAt one two sh n).length ≤ 1 + 12 * n
  | 0 => Nat.le_refl 1
  | n + 1 => by
    have := patAt_len one two sh n
    have h := scaleOf_len (1 + (n : Int))
    have hb := btwAt_len (scaleOf (1 + (n : Int))) (Txt.find (scaleOf (1 + (n : Int))) (Txt.item one (1 + (n : Int)))) (Txt.find (scaleOf (1 + (n : Int))) (Txt.item two (1 + (n : Int)))) (scaleOf (1 + (n : Int))).length
    have hp := pieceOf_len (sc := scaleOf (1 + (n : Int))) (b := Int.fmod (1 + (n : Int) + sh) 2) h.2 (Nat.le_trans hb h.2)
    show (patAt one two sh n ++ _).length ≤ _
    rw [Str.length_append]
    omega
theorem btw_short (a : Int) (i j : Int) : (btwAt (scaleOf a) i j (scaleOf a).length).length ≤ 4 := Nat.le_trans (btwAt_len _ _ _ _) (scaleOf_len a).2
theorem pat_size {one two : Str} {sh : Int} {n : Nat} {a b i j : Int} (h : n ≤ 9) : (patAt one two sh n).length + (pieceOf (scaleOf a) (btwAt (scaleOf a) i j (scaleOf a).length) b).length ≤ 16777216 := by
  have h1 := patAt_len one two sh n
  have h2 := pieceOf_len (sc := scaleOf a) (b := b) (scaleOf_len a).2 (btw_short a i j)
  omega
section
local macro_rules | `(tactic| walk_at $s:str) => if ["KswEnd", "pyIter ref", "call ref", "binaryOp Add str str", "InvEndN"].contains s.getString then `(tactic| refine Halt.out ?_) else Lean.Macro.throwUnsupported
theorem pattern_fn (w : World) (one two : Str) (sf : Int) (ta tb tc : Tok) (h1 : one.length = 10) (h2 : two.length = 10) : Fn w 16 182 [.str one ta, .str two tb, .int sf tc] (fun _ => True) (fun v _ _ => ∃ t, v = .str (patAt one two sf 9) t) := by
  unfold Fn
  intro dp un gd outer base s Q E loose mean mg mb hdp hun B' X' T' hpre hret
  obtain ⟨sh, sg, sd, st0, so⟩ := s
  dsimp only at B' X' T' hpre hret
  k_dflt (refine' call_plain (binds := [(Str.ofString "one", .str one ta), (Str.ofString "two", .str two tb), (Str.ofString "shift", .int sf tc)]) ?X ?T ?o ?c ?r ?b ?l ?_ ?c2 ?c3 ?c4 ?c5; (case X => k_asm); (case T => k_asm); (case o => k_is); (case c => k_is); (case r => omega); (case b => exact BindsTo.of_eq rfl); (case l => exact locs rfl); (case c2 => decide); (case c3 => exact rfl); (case c4 => exact rfl); (case c5 => exact rfl); k_whole; intro L' h₁ qE eE tk9 hE hP F' N'; (simp only [List.reverse_cons, List.reverse_nil, List.nil_append, List.cons_append, lk] at F'); (try dsimp only); (try k_fold))
  have hg : Holds (fun n t => Value.str (patAt one two sf n) t) := trivial
  repeat (first | (with_reducible first | (refine one_cut5 sg sd so ?_; intro tkC) | (refine cons_cut5 sg sd so ?_; intro tkC qC hC)) | (k_unfold; (try dsimp only)) | walk1 | (with_reducible first | refine CutQ.next (by assumption) ?_ | refine CutQ.ret (by assumption) ?_ | refine CutQ.brk (by assumption) ?_ | refine CutQ.cont (by assumption) ?_ | refine EndQ.ret (by assumption) ?_ | refine EndQ.next (by assumption) ?_) | ((refine Halt.out' ?_); first | ((with_reducible show InvEndN _ _ _ _ _ _ _); (refine InvEndN.intro (by assumption) (by assumption) (keeps_str (S := fun n => patAt _ _ _ n) (by with_unfolding_all rfl) (by rfl) (by intro z hx hy hz; (simp only [List.contains_cons, List.contains_nil, Bool.or_false, Bool.or_eq_false_iff, beq_eq_false_iff_ne] at hz); simp [turnMap, hx, hy, hz])) (by rfl) (by (with_unfolding_all ((try simp only [List.nil_append, List.cons_append]); k_allIn))) (by (intro p hp; k_ownIn)))) | ((with_reducible show wpAny _ _ (binaryOp Operator.Add (Value.str _ _) (Value.str _ _)) _ _ _); (refine KOpn.add (pat_size (by omega)) ?_; intro t' k' hl)) | (with_reducible ((show wpAny _ _ (call (Value.ref _) _) _ _ _); ( k_here; (rename Fr _ _ _ _ => cF); (rename News _ _ _ _ => cN); k_dflt (first | refine Fn.use' (scale_fn _ _ _) (by k_asm) cF (by k_asm) cN (by k_asm) (by rfl) (by rfl) (by assumption) (by assumption) (by decide) trivial ?_ | refine Fn.use' (btw_fn _ _ _ _ _ _ _ (scaleOf_len _).2 (scaleOf_len _).1 (by rfl) (by rfl)) (by k_asm) cF (by k_asm) cN (by k_asm) (by rfl) (by rfl) (by assumption) (by assumption) (by decide) trivial ?_ | refine Fn.use' (piece_fn _ _ _ _ _ _ _ (scaleOf_ascii _) (scaleOf_len _).2 (btw_short _ _ _)) (by k_asm) cF (by k_asm) cN (by k_asm) (by rfl) (by rfl) (by assumption) (by assumption) (by decide) trivial ?_); intro v' h' tk' F' N' K' P'; clear cF cN; (obtain ⟨t', e'⟩ := P'); subst e'))) | ((with_reducible show wpAny _ _ (pyIter (Value.ref _)) _ _ _); ((rename Fr _ _ _ _ => lF'); (rename News _ _ _ _ => lN'); (rename IsRange _ _ _ _ _ _ _ _ => rgX); (with_unfolding_all refine' range_one (y := Str.ofString "written") [Str.ofString "scale", Str.ofString "kept"] (by assumption) (by rfl) (by exact rgX) (by first | exact small_one (by l_bnd) (by l_bnd) (by l_bnd) (by l_bnd) | decide) (by first | exact rangeSize_nat _ _ | rfl) lF' lN' ⟨_, by rfl⟩ (fun i' t' ta' u' h' tk' own' hi' hoff' F' N' => ?_) (fun u' v' t' h' tk' F' N' => ?_)); (all_goals (try clear lF' lN')); (all_goals (try dsimp only at F')); (all_goals (try simp only [List.nil_append, List.cons_append, List.append_nil] at N')))) | ((k_here; (with_reducible show wpAny _ _ (subscriptTail _ _ (Value.str _ _) (Value.int _ _)) _ _ _); (refine item_at (by omega) (by omega) (by omega) ?_); intro kxiE)) | (with_reducible ((show @ite _ _ _ _ _); ((refine ite_both (fun hc => ?_) (fun hc => ?_)); (all_goals (try simp only [beq_iff_eq, decide_eq_true_eq] at hc)))))) | (dsimp only; walk1) | fail "no step")
  all_goals (try dsimp only)
  all_goals (refine hret _ _ _ (fun b o e => Fr.keep (by assumption) b o e) ?_)
  exact str_is rfl
end
end Mine
end
theorem Mine.rs_FEsc : True ∧ True := by
  (try (walk1; fail))
  exact ⟨trivial, trivial⟩
section
open PySem PySem.W PyProof.Rows PySem.Calls PySem.Spec
set_option maxRecDepth 100000
set_option maxHeartbeats 8000000
namespace Mine
noncomputable def Plain (c : Nat) : Prop := c = 83 ∨ c = 84 ∨ (97 ≤ c ∧ c ≤ 122)
noncomputable def intKeys (es : Array DictEntry) : Bool := es.toList.all fun e => match e.key with | .int k _ => e.hash == hashInt k | _ => false
noncomputable def farKeys (es : Array DictEntry) : Bool := es.toList.all fun e => match e.key with | .int k _ => decide (k < 83) || (decide (84 < k) && decide (k < 97)) || decide (122 < k) | _ => false
theorem map_of_lookup {prog : Program} {w : World} {h : Heap} {K : Frag} {a : Addr} {es : Array DictEntry} {n : Nat} {v : Value} (X : K.In h) (hl : K.lookup a = some ⟨.type "dict", none, .dict es n, #[]⟩) (hk : intKeys es = true) (hf : farKeys es = true) (hv : findBy Value.isInt es 45 = some v) :
    ∃ f, h.MapOf (intKind prog w) a f ∧ f 45 = some v ∧ ∀ c : Nat, Plain c → f (c : Int) = none := by
  refine ⟨fun k => findBy Value.isInt es k, ⟨_, es, n, X _ _ hl, ⟨rfl, rfl, rfl⟩, rfl, ?_, fun _ => rfl⟩, hv, ?_⟩
  · intro e he
    have := List.all_eq_true.mp hk e (Array.mem_toList_iff.mpr he)
    split at this
    · rename_i k u hk'
      exact ⟨k, by rw [hk']; exact intKind_is prog w k u, eq_of_beq this⟩
    · cases this
  · intro c hc
    show findBy Value.isInt es (c : Int) = none
    unfold findBy
    have : es.find? (fun e => Value.isInt (c : Int) e.key) = none := by
      rw [← Array.find?_toList, List.find?_eq_none]
      intro e he
      have q := List.all_eq_true.mp hf e he
      split at q
      · rename_i k u hk'
        rw [hk']
        simp only [Bool.or_eq_true, Bool.and_eq_true, decide_eq_true_eq] at q
        intro hi
        obtain ⟨t, ht⟩ := Value.isInt_shape hi
        cases ht
        unfold Plain at hc
        omega
      · cases q
    rw [this]; rfl
theorem map73 {prog : Program} {w : World} {h : Heap} (X : (Mine.K w.params).In h) :
    ∃ f, h.MapOf (intKind prog w) 73 f ∧ f 45 = some (.str (Str.ofString "\\-") 428) ∧ ∀ c : Nat, Plain c → f (c : Int) = none := by
  k_dflt (refine' map_of_lookup X ?l ?k ?b ?a; (case l => k_is))
  case k => decide +kernel
  case b => decide +kernel
  case a => kernel_rfl
section
local macro_rules | `(tactic| walk_at $s:str) => if ["KswEnd", "getMethod str"].contains s.getString then `(tactic| refine Halt.out ?_) else Lean.Macro.throwUnsupported
theorem escape_plain (w : World) (c : Nat) (hc : Plain c) (ta : Tok) : Fn w 8 83 [.str ⟨#[c]⟩ ta] (fun _ => True) (fun v _ _ => ∃ t, v = .str ⟨#[c]⟩ t) := by
  unfold Fn
  intro dp un gd outer base s Q E loose mean mg mb hdp hun B' X' T' hpre hret
  obtain ⟨sh, sg, sd, st0, so⟩ := s
  dsimp only at B' X' T' hpre hret
  k_dflt (refine' call_plain (binds := [(Str.ofString "pattern", .str ⟨#[c]⟩ ta)]) ?X ?T ?o ?c ?r ?b ?l ?_ ?c2 ?c3 ?c4 ?c5; (case X => k_asm); (case T => k_asm); (case o => k_is); (case c => k_is); (case r => omega); (case b => exact BindsTo.of_eq rfl); (case l => exact locs rfl); (case c2 => decide); (case c3 => exact rfl); (case c4 => exact rfl); (case c5 => exact rfl); k_whole; intro L' h₁ qE eE tk9 hE hP F' N'; (simp only [List.reverse_cons, List.reverse_nil, List.nil_append, List.cons_append, lk] at F'); (try dsimp only); (try k_fold))
  repeat (first | (with_reducible first | (refine one_cut5 sg sd so ?_; intro tkC) | (refine cons_cut5 sg sd so ?_; intro tkC qC hC)) | (k_unfold; (try dsimp only)) | walk1 | (with_reducible first | refine CutQ.next (by assumption) ?_ | refine CutQ.ret (by assumption) ?_ | refine CutQ.brk (by assumption) ?_ | refine CutQ.cont (by assumption) ?_ | refine EndQ.ret (by assumption) ?_ | refine EndQ.next (by assumption) ?_) | ((refine Halt.out' ?_); first | ((with_reducible show wpAny _ _ (getMethod (Value.str _ _) _ _) _ _ _); (refine method_translate ?_)) | ((k_here; (with_reducible show wpAny _ _ (subscriptTail _ _ (Value.str _ _) (Value.int _ _)) _ _ _); (refine item_at (by omega) (by omega) (by omega) ?_); intro kxiE)) | (with_reducible ((show @ite _ _ _ _ _); ((refine ite_both (fun hc => ?_) (fun hc => ?_)); (all_goals (try simp only [beq_iff_eq, decide_eq_true_eq] at hc)))))) | (dsimp only; walk1) | fail "no step")
  obtain ⟨f, hm, _, hf⟩ := map73 (prog := PySem.Challenge.pw_rx0053_01) (Frag.In.keeps X' (Fr.keep F'))
  have hc' : c < 128 := by unfold Plain at hc; omega
  refine wpAny_call_entry slot_str_translate (typeIs_str _ _ _) entry_str_translate ?_ (args_str_translate _ _)
  refine translate_one hc' (lookup_keep (by rfl) (by decide) hm (hf c hc) fun h' tk k => ?_)
  refine wpAny_bind (wpAny_mkStr ?_ (by rw [sizeLine_eq]; show 1 ≤ 16777216; decide))
  refine wpAny_pure ⟨_, rfl, ?_⟩
  have F'' := Kept.fr k F'
  clear F'
  (try dsimp only)
  exact EndQ.ret hE (hret _ _ _ (fun b o e => Fr.keep F'' b o e) ⟨_, rfl⟩)
theorem escape_dash (w : World) (ta : Tok) : Fn w 8 83 [.str ⟨#[45]⟩ ta] (fun _ => True) (fun v _ _ => ∃ t, v = .str (Str.ofString "\\-") t) := by
  unfold Fn
  intro dp un gd outer base s Q E loose mean mg mb hdp hun B' X' T' hpre hret
  obtain ⟨sh, sg, sd, st0, so⟩ := s
  dsimp only at B' X' T' hpre hret
  k_dflt (refine' call_plain (binds := [(Str.ofString "pattern", .str ⟨#[45]⟩ ta)]) ?X ?T ?o ?c ?r ?b ?l ?_ ?c2 ?c3 ?c4 ?c5; (case X => k_asm); (case T => k_asm); (case o => k_is); (case c => k_is); (case r => omega); (case b => exact BindsTo.of_eq rfl); (case l => exact locs rfl); (case c2 => decide); (case c3 => exact rfl); (case c4 => exact rfl); (case c5 => exact rfl); k_whole; intro L' h₁ qE eE tk9 hE hP F' N'; (simp only [List.reverse_cons, List.reverse_nil, List.nil_append, List.cons_append, lk] at F'); (try dsimp only); (try k_fold))
  repeat (first | (with_reducible first | (refine one_cut5 sg sd so ?_; intro tkC) | (refine cons_cut5 sg sd so ?_; intro tkC qC hC)) | (k_unfold; (try dsimp only)) | walk1 | (with_reducible first | refine CutQ.next (by assumption) ?_ | refine CutQ.ret (by assumption) ?_ | refine CutQ.brk (by assumption) ?_ | refine CutQ.cont (by assumption) ?_ | refine EndQ.ret (by assumption) ?_ | refine EndQ.next (by assumption) ?_) | ((refine Halt.out' ?_); first | ((with_reducible show wpAny _ _ (getMethod (Value.str _ _) _ _) _ _ _); (refine method_translate ?_)) | ((k_here; (with_reducible show wpAny _ _ (subscriptTail _ _ (Value.str _ _) (Value.int _ _)) _ _ _); (refine item_at (by omega) (by omega) (by omega) ?_); intro kxiE)) | (with_reducible ((show @ite _ _ _ _ _); ((refine ite_both (fun hc => ?_) (fun hc => ?_)); (all_goals (try simp only [beq_iff_eq, decide_eq_true_eq] at hc)))))) | (dsimp only; walk1) | fail "no step")
  obtain ⟨f, hm, hf, _⟩ := map73 (prog := PySem.Challenge.pw_rx0053_01) (Frag.In.keeps X' (Fr.keep F'))
  refine wpAny_call_entry slot_str_translate (typeIs_str _ _ _) entry_str_translate ?_ (args_str_translate _ _)
  refine translate_one (by decide) (lookup_text hm hf fun tk => ⟨by decide +kernel, lookup_text hm hf fun tk2 => ⟨rfl, ?_⟩⟩)
  refine wpAny_bind (wpAny_mkStr ?_ (by rw [sizeLine_eq]; have : (Str.ofString "\\-").length = 2 := by decide +kernel
                                        omega))
  refine wpAny_pure ⟨_, rfl, ?_⟩
  (try dsimp only)
  exact EndQ.ret hE (hret _ _ _ (fun b o e => Fr.keep F' b o e) ⟨_, rfl⟩)
end
end Mine
end
theorem Mine.rs_FJoin : True ∧ True := by
  (try (walk1; fail))
  exact ⟨trivial, trivial⟩
section
open PySem PySem.W PyProof.Rows PySem.Calls PySem.Spec
set_option maxRecDepth 100000
set_option maxHeartbeats 8000000
namespace Mine
noncomputable def joinedOf (ss : List Str) : Str := Str.empty ++ Str.ofString "(?s:" ++ Txt.join (Str.ofString "") ss ++ Str.ofString ")\\Z"
theorem StrsAre.len : ∀ {vs : List Value} {ss : List Str}, StrsAre vs ss → vs.length = ss.length
  | _, _, .nil => rfl
  | _, _, .cons _ _ h => by simp [StrsAre.len h]
theorem StrsAre.at' : ∀ {vs : List Value} {ss : List Str}, StrsAre vs ss → ∀ {i : Nat}, i < vs.length → ∃ x t, vs[i]? = some (.str x t)
  | _, _, .nil, _, h => absurd h (Nat.not_lt_zero _)
  | _, _, .cons y t _, 0, _ => ⟨y, t, rfl⟩
  | _, _, .cons _ _ h, i + 1, hi => by
    obtain ⟨x, t, e⟩ := StrsAre.at' h (i := i) (by simpa using hi)
    exact ⟨x, t, by simpa using e⟩
section
variable {prog : Program} {w : World} {A : Around} {E : Value → Shared → Prop} {s : Shared} {h₀ : Heap} {L : Addr} {m : Str → Option Value}
theorem len_base {l : Addr} {vs : List Value} {Q : Value → Shared → Prop} (F : Fr h₀ L s.heap m) (hl : h₀.IsList l vs.toArray) (hn : vs.length ≤ 1000000)
    (h : ∀ t k, Q (.int (vs.length : Int) t) { s with toks := k }) : wpAny (model prog w) A (call (.builtin "len") [.ref l]) Q E s := by
  refine len_list (hl.at fun o e => F.keep l o e) (by rw [List.size_toArray]; omega) ?_
  have e : ((vs.toArray.size : Nat) : Int) = (vs.length : Int) := by rw [List.size_toArray]
  rw [e]
  exact h _ _
theorem item_base {value slice : PySem.Expr} {l : Addr} {vs : List Value} {k : Nat} {u : Tok} {x : Value} {Q : Value → Shared → Prop} (F : Fr h₀ L s.heap m) (hl : h₀.IsList l vs.toArray) (hx : vs[k]? = some x) (hfit : k < 2 ^ 62) (h : Q x s)
    (hs : subscripted slice false (.ref l) (.int (k : Int) u) = operate [.ref l, .int (k : Int) u] (getItem (.ref l) (.int (k : Int) u)) := by with_unfolding_all rfl) (hg : ∀ r, letTemporaryGo value (.ref l) r = pure () := by intro _; with_unfolding_all rfl) :
    wpAny (model prog w) A (subscriptTail value slice (.ref l) (.int (k : Int) u)) Q E s :=
  item_list (hl.at fun o e => F.keep l o e) (by omega) (by omega) (by simpa using hx) h hs hg
end
theorem fsize {j : Str} (h : j.length ≤ 1000) : {x : Str} → (e : x = Str.empty ++ Str.ofString "(?s:" ++ j ∨ x = Str.empty ++ Str.ofString "(?s:" ++ j ++ Str.ofString ")\\Z" := by first | exact .inl rfl | exact .inr rfl) → x.length ≤ sizeLine
  | _, .inl e => by
    have e1 : (Str.empty ++ Str.ofString "(?s:").length = 4 := by decide +kernel
    rw [e, Str.length_append, e1]; exact Nat.le_trans (m := 1004) (by omega) (by decide)
  | _, .inr e => by
    have e1 : (Str.empty ++ Str.ofString "(?s:").length = 4 := by decide +kernel
    have e2 : (Str.ofString ")\\Z").length = 3 := by decide +kernel
    rw [e, Str.length_append, Str.length_append, e1, e2]; exact Nat.le_trans (m := 1007) (by omega) (by decide)
section
local macro_rules | `(tactic| walk_at $s:str) => if ["KswEnd", "exec While BoolOp", "exec While Compare", "getAttr ref", "subscriptTail Name Name ref", "call ref", "call builtin:str.join", "formatField str", "compareOp IsNot"].contains s.getString then `(tactic| refine Halt.out ?_) else Lean.Macro.throwUnsupported
local macro_rules | `(tactic| walk_at $s:str) => if ["WhlIf"].contains s.getString then `(tactic| refine haltWI ?_) else Lean.Macro.throwUnsupported
local macro_rules | `(tactic| walk_at $s:str) => if ["call builtin:len"].contains s.getString then `(tactic| refine haltLen ?_) else Lean.Macro.throwUnsupported
local macro_rules | `(tactic| walk_at $s:str) => if ["callWith ref"].contains s.getString then `(tactic| refine haltCW (by assumption) ?_) else Lean.Macro.throwUnsupported
local macro_rules | `(tactic| walk_at $s:str) => if ["And"].contains s.getString then `(tactic| refine haltAA ?_) else Lean.Macro.throwUnsupported
local macro_rules | `(tactic| walk_at $s:str) => if ["And"].contains s.getString then `(tactic| first | refine haltLE (by assumption) ?_ | refine haltLE2 (by assumption) ?_) else Lean.Macro.throwUnsupported
set_option maxHeartbeats 1000000 in
theorem join_fn (w : World) (l st : Addr) (vs : List Value) (ss : List Str) (hv : StrsAre vs ss) (hlen : vs.length ≤ 100) (hsum : (ss.map (·.length)).sum ≤ 1000) (hJ : (Txt.join (Str.ofString "") ss).length ≤ 1000) : Fn w 128 97 [.ref l, .ref st] (fun h => h.IsList l vs.toArray) (fun v _ _ => ∃ t, v = .str (joinedOf ss) t) := by
  unfold Fn
  intro dp un gd outer base s Q E loose mean mg mb hdp hun B' X' T' hpre hret
  obtain ⟨sh, sg, sd, st0, so⟩ := s
  dsimp only at B' X' T' hpre hret
  k_dflt (refine' call_plain (binds := [(Str.ofString "inp", .ref l), (Str.ofString "STAR", .ref st)]) ?X ?T ?o ?c ?r ?b ?l ?_ ?c2 ?c3 ?c4 ?c5; (case X => k_asm); (case T => k_asm); (case o => k_is); (case c => k_is); (case r => omega); (case b => exact BindsTo.of_eq rfl); (case l => exact locs rfl); (case c2 => decide); (case c3 => exact rfl); (case c4 => exact rfl); (case c5 => exact rfl); k_whole; intro L' h₁ qE eE tk9 hE hP F' N'; (simp only [List.reverse_cons, List.reverse_nil, List.nil_append, List.cons_append, lk] at F'); (try dsimp only); (try k_fold))
  repeat (first | (with_reducible first | (refine one_cut5 sg sd so ?_; intro tkC) | (refine cons_cut5 sg sd so ?_; intro tkC qC hC)) | (k_unfold; (try dsimp only)) | walk1 | (with_reducible first | refine CutQ.next (by assumption) ?_ | refine CutQ.ret (by assumption) ?_ | refine CutQ.brk (by assumption) ?_ | refine CutQ.cont (by assumption) ?_ | refine EndQ.ret (by assumption) ?_ | refine EndQ.next (by assumption) ?_) | ((refine Halt.out' ?_); first | ((with_reducible show wpAny _ _ (compareOp CmpOp.IsNot _ _) _ _ _); (refine wpAny_isNot_other (by rfl) (by intro x; cases x) ?_)) | (with_reducible ((show _ ∧ _); ((with_reducible show LE.le (Str.length _) sizeLine ∧ _); (refine ⟨fsize (by assumption), ?_⟩)))) | ((with_reducible show wpAny _ _ (formatField (Value.str _ _) _) _ _ _); (refine formatField_str ?_ (Nat.le_trans (by assumption) (by decide)); intro _ _)) | ((with_reducible show wpAny _ _ (call (Value.builtin "str.join") _) _ _ _); (k_here; (rename News _ _ _ _ => cN); (refine join_list (News.isList cN (by k_mem)) (by assumption) (by (have e : (Str.ofString "").length = 0 := (by decide +kernel)); (simp only [e, Nat.mul_zero]); omega) fun t' k' => ?_); clear cN)) | (with_reducible ((show wpAny _ _ (call (Value.ref _) _) _ _ _); ( k_here; (rename Fr _ _ _ _ => cF); (rename News _ _ _ _ => cN); k_dflt (refine bound_K cF cN (by k_mem) (by k_upd) ?_ (Nat.le_trans (m := 100) (by (simp only [List.size_toArray, List.length_take]); omega) (by decide))); intro h' F' N'; clear cF cN))) | (with_reducible ((show _ ∧ _); ((with_reducible show AppAt _ _ ∧ _); k_dflt (refine ⟨appAt_of (by k_asm) (by k_mem), ?_⟩); (try dsimp only [List.nil_append, List.cons_append])))) | (with_reducible ((show wpAny _ _ (callWith _ (Value.ref _) _ _ _) _ _ _); (k_here; k_dflt (refine' callWith_append ?kaN ?kaM ?_; (case kaN => k_asm); (case kaM => k_mem))))) | ((with_reducible show wpAny _ _ (subscriptTail _ _ (Value.ref _) _) _ _ _); (k_here; (refine item_base (by k_asm) (by k_asm) (by assumption) (by omega) ?_))) | (with_reducible ((show @ite _ _ _ _ _); ((refine ite_both (fun hc => ?_) (fun hc => ?_)); (all_goals (try simp only [beq_iff_eq, decide_eq_true_eq] at hc)); (all_goals (try (exfalso; omega)))))) | ((with_reducible show wpAny _ _ (call (Value.builtin "len") [Value.ref _]) _ _ _); (k_here; (with_reducible show wpAny _ _ (call (Value.builtin "len") [Value.ref _]) _ _ _); refine len_base (by k_asm) (by k_asm) (by omega) ?_; intro tN tK)) | (with_reducible ((show wpAny _ _ (getAttr (Value.ref _) _ _) _ _ _); ( k_here; (rename Fr _ _ _ _ => cF); (rename News _ _ _ _ => cN); k_dflt (refine getAttr_K (by rfl) (by have e : recursionLimit = 1000 := rfl; (simp only [depth_deeper]); omega) (by have e : cLine = 9900 := rfl; (simp only [units_deeper]); omega) cF cN (by k_mem) ?_); intro h' tkA aadd hneA F' N'; clear cF cN))) | ((with_reducible show WhlIf _ _ _); (refine WhlIf.no (by simp only [decide_eq_false_iff_not]; omega) ?_)) | (with_reducible ((show wpAny _ _ (exec (Stmt.While (Expr.Compare _ _ _ _) _ _ _) _) _ _ _); (refine whl_start 1 ?_))) | ((k_here; (with_reducible show wpAny _ _ (subscriptTail _ _ (Value.str _ _) (Value.int _ _)) _ _ _); (refine item_at (by omega) (by omega) (by omega) ?_); intro kxiE))) | (dsimp only; walk1) | fail "no step")
  refine Halt.out' ?_
  rename_i lres _ _ _ _ _ _ _ tkI _ _ D _ _ _ _ _ F1 N1
  have hne := hneA
  have hna : @Ne Nat lres aadd := hne _ (.head _)
  have N2 : News _ L' _ [(aadd, boundObj lres), (lres, listOf #[] 0)] := fun p hp => N1 p (List.mem_cons_of_mem _ hp)
  refine ksw_while (σ := Nat × Tok) (fun c => [(aadd, boundObj lres), (lres, listOf (vs.take c.1).toArray c.1)]) (fun c => [(Str.ofString "i", .int (c.1 : Int) c.2)]) (fun _ => True) [] (fun c => c.1 ≤ vs.length) (fun c => vs.length - c.1) (0, tkI) F1 N2 trivial ?_ (Nat.zero_le _) ?_
  · intro p hp
    rw [List.mem_singleton.mp hp]
    rfl
  · rintro ⟨i, ti⟩ u h9 tk9 - hi9 F9 N9
    clear F1 N1 N2
    dsimp only at hi9 N9 F9
    by_cases hlt : i < vs.length
    · obtain ⟨x9, t9, hx9⟩ := StrsAre.at' hv hlt
      repeat (first | (with_reducible first | (refine one_cut5 sg sd so ?_; intro tkC) | (refine cons_cut5 sg sd so ?_; intro tkC qC hC)) | (k_unfold; (try dsimp only)) | walk1 | (with_reducible first | refine CutQ.next (by assumption) ?_ | refine CutQ.ret (by assumption) ?_ | refine CutQ.brk (by assumption) ?_ | refine CutQ.cont (by assumption) ?_ | refine EndQ.ret (by assumption) ?_ | refine EndQ.next (by assumption) ?_) | ((refine Halt.out' ?_); first | ((with_reducible show wpAny _ _ (compareOp CmpOp.IsNot _ _) _ _ _); (refine wpAny_isNot_other (by rfl) (by intro x; cases x) ?_)) | (with_reducible ((show _ ∧ _); ((with_reducible show LE.le (Str.length _) sizeLine ∧ _); (refine ⟨fsize (by assumption), ?_⟩)))) | ((with_reducible show wpAny _ _ (formatField (Value.str _ _) _) _ _ _); (refine formatField_str ?_ (Nat.le_trans (by assumption) (by decide)); intro _ _)) | ((with_reducible show wpAny _ _ (call (Value.builtin "str.join") _) _ _ _); (k_here; (rename News _ _ _ _ => cN); (refine join_list (News.isList cN (by k_mem)) (by assumption) (by (have e : (Str.ofString "").length = 0 := (by decide +kernel)); (simp only [e, Nat.mul_zero]); omega) fun t' k' => ?_); clear cN)) | (with_reducible ((show wpAny _ _ (call (Value.ref _) _) _ _ _); ( k_here; (rename Fr _ _ _ _ => cF); (rename News _ _ _ _ => cN); k_dflt (refine bound_K cF cN (by k_mem) (by k_upd) ?_ (Nat.le_trans (m := 100) (by (simp only [List.size_toArray, List.length_take]); omega) (by decide))); intro h' F' N'; clear cF cN))) | (with_reducible ((show _ ∧ _); ((with_reducible show AppAt _ _ ∧ _); k_dflt (refine ⟨appAt_of (by k_asm) (by k_mem), ?_⟩); (try dsimp only [List.nil_append, List.cons_append])))) | (with_reducible ((show wpAny _ _ (callWith _ (Value.ref _) _ _ _) _ _ _); (k_here; k_dflt (refine' callWith_append ?kaN ?kaM ?_; (case kaN => k_asm); (case kaM => k_mem))))) | ((with_reducible show wpAny _ _ (subscriptTail _ _ (Value.ref _) _) _ _ _); (k_here; (refine item_base (by k_asm) (by k_asm) (by assumption) (by omega) ?_))) | (with_reducible ((show @ite _ _ _ _ _); ((refine ite_both (fun hc => ?_) (fun hc => ?_)); (all_goals (try simp only [beq_iff_eq, decide_eq_true_eq] at hc)); (all_goals (try (exfalso; omega)))))) | ((with_reducible show wpAny _ _ (call (Value.builtin "len") [Value.ref _]) _ _ _); (k_here; (with_reducible show wpAny _ _ (call (Value.builtin "len") [Value.ref _]) _ _ _); refine len_base (by k_asm) (by k_asm) (by omega) ?_; intro tN tK)) | (with_reducible ((show wpAny _ _ (getAttr (Value.ref _) _ _) _ _ _); ( k_here; (rename Fr _ _ _ _ => cF); (rename News _ _ _ _ => cN); k_dflt (refine getAttr_K (by rfl) (by have e : recursionLimit = 1000 := rfl; (simp only [depth_deeper]); omega) (by have e : cLine = 9900 := rfl; (simp only [units_deeper]); omega) cF cN (by k_mem) ?_); intro h' tkA aadd hneA F' N'; clear cF cN))) | ((with_reducible show WhlIf _ _ _); (refine WhlIf.no (by simp only [decide_eq_false_iff_not]; omega) ?_)) | (with_reducible ((show wpAny _ _ (exec (Stmt.While (Expr.Compare _ _ _ _) _ _ _) _) _ _ _); (refine whl_start 1 ?_))) | ((k_here; (with_reducible show wpAny _ _ (subscriptTail _ _ (Value.str _ _) (Value.int _ _)) _ _ _); (refine item_at (by omega) (by omega) (by omega) ?_); intro kxiE))) | (dsimp only; walk1) | fail "no step")
      (rename Fr _ _ _ _ => cF); (rename News _ _ _ _ => cN)
      have e9 : (vs.take i).toArray.push (.str x9 t9) = (vs.take (i + 1)).toArray := by
        have e8 : vs.take (i + 1) = vs.take i ++ [.str x9 t9] := by rw [List.take_add_one, hx9]; rfl
        rw [e8]; simp
      rw [e9] at cN
      (try refine Halt.out' ?_)
      refine ksw_end (i + 1, _) cF cN (fun p hp => hp) trivial (by intro p hp; rw [List.mem_singleton.mp hp]; rfl) (fun z h2 h3 => ?_) (by show i + 1 ≤ _; omega) (by show vs.length - (i + 1) < vs.length - i; omega)
      have h4 : z ≠ Str.ofString "i" := h2 _ (.head _)
      simp [kstB, h4]
    · have e9 : vs.take i = vs := List.take_of_length_le (by omega)
      rw [e9] at N9
      repeat (first | (with_reducible first | (refine one_cut5 sg sd so ?_; intro tkC) | (refine cons_cut5 sg sd so ?_; intro tkC qC hC)) | (k_unfold; (try dsimp only)) | walk1 | (with_reducible first | refine CutQ.next (by assumption) ?_ | refine CutQ.ret (by assumption) ?_ | refine CutQ.brk (by assumption) ?_ | refine CutQ.cont (by assumption) ?_ | refine EndQ.ret (by assumption) ?_ | refine EndQ.next (by assumption) ?_) | ((refine Halt.out' ?_); first | ((with_reducible show wpAny _ _ (compareOp CmpOp.IsNot _ _) _ _ _); (refine wpAny_isNot_other (by rfl) (by intro x; cases x) ?_)) | (with_reducible ((show _ ∧ _); ((with_reducible show LE.le (Str.length _) sizeLine ∧ _); (refine ⟨fsize (by assumption), ?_⟩)))) | ((with_reducible show wpAny _ _ (formatField (Value.str _ _) _) _ _ _); (refine formatField_str ?_ (Nat.le_trans (by assumption) (by decide)); intro _ _)) | ((with_reducible show wpAny _ _ (call (Value.builtin "str.join") _) _ _ _); (k_here; (rename News _ _ _ _ => cN); (refine join_list (News.isList cN (by k_mem)) (by assumption) (by (have e : (Str.ofString "").length = 0 := (by decide +kernel)); (simp only [e, Nat.mul_zero]); omega) fun t' k' => ?_); clear cN)) | (with_reducible ((show wpAny _ _ (call (Value.ref _) _) _ _ _); ( k_here; (rename Fr _ _ _ _ => cF); (rename News _ _ _ _ => cN); k_dflt (refine bound_K cF cN (by k_mem) (by k_upd) ?_ (Nat.le_trans (m := 100) (by (simp only [List.size_toArray, List.length_take]); omega) (by decide))); intro h' F' N'; clear cF cN))) | (with_reducible ((show _ ∧ _); ((with_reducible show AppAt _ _ ∧ _); k_dflt (refine ⟨appAt_of (by k_asm) (by k_mem), ?_⟩); (try dsimp only [List.nil_append, List.cons_append])))) | (with_reducible ((show wpAny _ _ (callWith _ (Value.ref _) _ _ _) _ _ _); (k_here; k_dflt (refine' callWith_append ?kaN ?kaM ?_; (case kaN => k_asm); (case kaM => k_mem))))) | ((with_reducible show wpAny _ _ (subscriptTail _ _ (Value.ref _) _) _ _ _); (k_here; (refine item_base (by k_asm) (by k_asm) (by assumption) (by omega) ?_))) | (with_reducible ((show @ite _ _ _ _ _); ((refine ite_both (fun hc => ?_) (fun hc => ?_)); (all_goals (try simp only [beq_iff_eq, decide_eq_true_eq] at hc)); (all_goals (try (exfalso; omega)))))) | ((with_reducible show wpAny _ _ (call (Value.builtin "len") [Value.ref _]) _ _ _); (k_here; (with_reducible show wpAny _ _ (call (Value.builtin "len") [Value.ref _]) _ _ _); refine len_base (by k_asm) (by k_asm) (by omega) ?_; intro tN tK)) | (with_reducible ((show wpAny _ _ (getAttr (Value.ref _) _ _) _ _ _); ( k_here; (rename Fr _ _ _ _ => cF); (rename News _ _ _ _ => cN); k_dflt (refine getAttr_K (by rfl) (by have e : recursionLimit = 1000 := rfl; (simp only [depth_deeper]); omega) (by have e : cLine = 9900 := rfl; (simp only [units_deeper]); omega) cF cN (by k_mem) ?_); intro h' tkA aadd hneA F' N'; clear cF cN))) | ((with_reducible show WhlIf _ _ _); (refine WhlIf.no (by simp only [decide_eq_false_iff_not]; omega) ?_)) | (with_reducible ((show wpAny _ _ (exec (Stmt.While (Expr.Compare _ _ _ _) _ _ _) _) _ _ _); (refine whl_start 1 ?_))) | ((k_here; (with_reducible show wpAny _ _ (subscriptTail _ _ (Value.str _ _) (Value.int _ _)) _ _ _); (refine item_at (by omega) (by omega) (by omega) ?_); intro kxiE))) | (dsimp only; walk1) | fail "no step")
      all_goals (try dsimp only)
      all_goals (refine hret _ _ _ (fun b o e => Fr.keep (by assumption) b o e) ?_)
      exact ⟨_, rfl⟩
end
end Mine
end
theorem Mine.rs_TTl : True ∧ True := by
  (try (walk1; fail))
  exact ⟨trivial, trivial⟩
section
open PySem PySem.W PyProof.Rows PySem.Calls PySem.Spec
set_option maxRecDepth 100000
set_option maxHeartbeats 8000000
namespace Mine
noncomputable def brksA : List (List Nat × List Nat) := [([115, 120], [91, 115, 120, 93]), ([115, 83], [91, 115, 83, 93]), ([116, 120], [91, 116, 120, 93]), ([116, 84], [91, 116, 84, 93])]
noncomputable def brksB : List (List Nat × List Nat) := [([33, 115, 83], [91, 94, 115, 83, 93]), ([33, 115, 120], [91, 94, 115, 120, 93]), ([33, 116, 84], [91, 94, 116, 84, 93]), ([33, 116, 120], [91, 94, 116, 120, 93])]
noncomputable def brksC : List (List Nat × List Nat) := [([114, 45], [91, 114, 92, 45, 93]), ([119, 45], [91, 119, 92, 45, 93]), ([120, 45], [91, 120, 92, 45, 93]), ([83, 45], [91, 83, 92, 45, 93]), ([84, 45], [91, 84, 92, 45, 93]), ([120, 83, 115, 45], [91, 120, 83, 115, 92, 45, 93]), ([120, 84, 116, 45], [91, 120, 84, 116, 92, 45, 93])]
noncomputable def brksD : List (List Nat × List Nat) := [([33, 83, 45], [91, 94, 83, 92, 45, 93]), ([33, 120, 45], [91, 94, 120, 92, 45, 93]), ([33, 84, 45], [91, 94, 84, 92, 45, 93])]
noncomputable def brks : List (List Nat × List Nat) := brksA ++ brksB ++ brksC ++ brksD
inductive Tr : List Nat → Str → Prop
  | plain (c : Nat) : Plain c → Tr [c] ⟨#[c]⟩
  | dash : Tr [45] (Str.ofString "\\-")
  | any : Tr [63] (Str.ofString ".")
  | brk (x o : List Nat) : (x, o) ∈ brks → Tr (91 :: x ++ [93]) ⟨o.toArray⟩
theorem Tr.pos {p : List Nat} {o : Str} (h : Tr p o) : 0 < p.length := by cases h <;> simp
noncomputable def offs (L : List (List Nat × Str)) (k : Nat) : Nat := ((L.take k).map (·.1)).flatten.length
noncomputable def wholeOf (L : List (List Nat × Str)) : Str := ⟨(L.map (·.1)).flatten.toArray⟩
theorem offs_le (L : List (List Nat × Str)) (k : Nat) : offs L k ≤ (wholeOf L).length := by
  unfold offs wholeOf
  show _ ≤ (List.toArray _).size
  rw [List.size_toArray]
  have e : (L.map (·.1)).flatten = ((L.take k).map (·.1)).flatten ++ ((L.drop k).map (·.1)).flatten := by
    rw [← List.flatten_append, ← List.map_append, List.take_append_drop]
  rw [e, List.length_append]
  omega
theorem offs_end (L : List (List Nat × Str)) : offs L L.length = (wholeOf L).length := by
  unfold offs wholeOf
  rw [List.take_length]
  show _ = (List.toArray _).size
  rw [List.size_toArray]
theorem offs_succ {L : List (List Nat × Str)} {k : Nat} {p : List Nat × Str} (h : L[k]? = some p) : offs L (k + 1) = offs L k + p.1.length := by
  unfold offs
  rw [List.take_add_one, h]
  simp
theorem offs_at {L : List (List Nat × Str)} {k : Nat} {p : List Nat × Str} (h : L[k]? = some p) : At (wholeOf L) (offs L k) p.1 := by
  intro d c hd
  unfold wholeOf offs
  have hk : k < L.length := by
    rcases Nat.lt_or_ge k L.length with q | q
    · exact q
    · rw [List.getElem?_eq_none q] at h; cases h
  have e : (L.map (·.1)).flatten = ((L.take k).map (·.1)).flatten ++ (p.1 ++ ((L.drop (k + 1)).map (·.1)).flatten) := by
    have e1 : L = L.take k ++ p :: L.drop (k + 1) := by
      have e2 : L.drop k = p :: L.drop (k + 1) := by
        rw [List.getElem?_eq_getElem hk] at h
        cases h
        exact List.drop_eq_getElem_cons hk
      rw [← e2, List.take_append_drop]
    conv => lhs; rw [e1]
    simp
  show (List.toArray _)[_]? = _
  rw [List.getElem?_toArray, e, List.getElem?_append_right (Nat.le_add_right _ _), Nat.add_sub_cancel_left, List.getElem?_append_left]
  · exact hd
  · rcases Nat.lt_or_ge d p.1.length with q | q
    · exact q
    · rw [List.getElem?_eq_none q] at hd; cases hd
theorem one_star {a : Nat} : ((⟨#[a]⟩ : Str) = Str.ofString "*") ↔ a = 42 := by rw [show Str.ofString "*" = ⟨#[42]⟩ by decide +kernel]; simp
theorem one_ask {a : Nat} : ((⟨#[a]⟩ : Str) = Str.ofString "?") ↔ a = 63 := by rw [show Str.ofString "?" = ⟨#[63]⟩ by decide +kernel]; simp
theorem one_open {a : Nat} : ((⟨#[a]⟩ : Str) = Str.ofString "[") ↔ a = 91 := by rw [show Str.ofString "[" = ⟨#[91]⟩ by decide +kernel]; simp
theorem one_close {a : Nat} : ((⟨#[a]⟩ : Str) = Str.ofString "]") ↔ a = 93 := by rw [show Str.ofString "]" = ⟨#[93]⟩ by decide +kernel]; simp
theorem one_bang {a : Nat} : ((⟨#[a]⟩ : Str) = Str.ofString "!") ↔ a = 33 := by rw [show Str.ofString "!" = ⟨#[33]⟩ by decide +kernel]; simp
theorem brk_facts {x o : List Nat} (h : (x, o) ∈ brks) : 2 ≤ x.length ∧ x.length ≤ 4 ∧ (∀ d, d < x.length → ∃ a, x[d]? = some a ∧ a ≠ 93) := by
  have e : ∀ q ∈ brks, 2 ≤ q.1.length ∧ q.1.length ≤ 4 ∧ (q.1.all fun a => a != 93) = true := by decide
  obtain ⟨a, b, c⟩ := e _ h
  refine ⟨a, b, fun d hd => ⟨x[d], by simp [hd], ?_⟩⟩
  have := List.all_eq_true.mp c x[d] (List.getElem_mem hd)
  simpa using this
noncomputable def dashed (x : List Nat) : List Nat := x.take (x.length - 1) ++ [92, 45]
noncomputable def midOf (x : List Nat) : List Nat := if x.contains 45 then dashed x else x
theorem factsI : ∀ q ∈ brks, (Builtin.Str.occurrences ⟨q.1.toArray⟩ (Str.ofString "-") 0 (⟨q.1.toArray⟩ : Str).length 1).isEmpty = !q.1.contains 45 := by decide +kernel
theorem factsO : ∀ q ∈ brks, (Builtin.Str.occurrences ⟨q.1.toArray⟩ (Str.ofString "\\") 0 (⟨q.1.toArray⟩ : Str).length ((⟨q.1.toArray⟩ : Str).length + 1)).isEmpty = true := by decide +kernel
theorem factsR : ∀ q ∈ brks, q.1.contains 45 = true → Txt.replace ⟨q.1.toArray⟩ (Str.ofString "-") (Str.ofString "\\-") = ⟨(dashed q.1).toArray⟩ ∧ q.1[q.1.length - 1]? = some 45 ∧ ((q.1.take (q.1.length - 1)).all (fun a => a != 45)) = true ∧ (q.1[0]? = some 33 → 3 ≤ q.1.length) := by decide +kernel
theorem factsM : ∀ q ∈ brks, midOf q.1 ∈ subsOf ∧ (⟨(midOf q.1).toArray⟩ : Str).length ≤ 5 ∧ 2 ≤ (⟨(midOf q.1).toArray⟩ : Str).length ∧ ¬ ((⟨(midOf q.1).toArray⟩ : Str) = Str.ofString "!") := by decide +kernel
theorem factsT : ∀ q ∈ brks, q.1[0]? ≠ some 33 → ¬ (Txt.item ⟨(midOf q.1).toArray⟩ 0 = Str.ofString "!") ∧ ¬ (([Str.ofString "^", Str.ofString "["].any fun y => y == Txt.item ⟨(midOf q.1).toArray⟩ 0) = true) ∧ Str.empty ++ Str.ofString "[" ++ (⟨(midOf q.1).toArray⟩ : Str) ++ Str.ofString "]" = ⟨q.2.toArray⟩ := by decide +kernel
theorem factsB : ∀ q ∈ brks, q.1[0]? = some 33 → Txt.item ⟨(midOf q.1).toArray⟩ 0 = Str.ofString "!" ∧ (Str.ofString "^").length + (Txt.slice ⟨(midOf q.1).toArray⟩ (some 1) none).length ≤ 10 ∧ Str.empty ++ Str.ofString "[" ++ (Str.ofString "^" ++ Txt.slice ⟨(midOf q.1).toArray⟩ (some 1) none) ++ Str.ofString "]" = ⟨q.2.toArray⟩ := by decide +kernel
theorem factsL : ∀ q ∈ brks, (⟨q.2.toArray⟩ : Str).length ≤ 20 := by decide +kernel
theorem dash_ne : (Str.ofString "-" == Str.ofString "\\-") = false := by decide +kernel
theorem dash_len : (Str.ofString "\\-").length ≤ 14 := by decide +kernel
theorem jz1 (o : Nat) : (o : Int) + 1 = (o : Int) + ((1 + 0 : Nat) : Int) := by omega
theorem jz2 (o : Nat) : (o : Int) + 1 + 1 = (o : Int) + ((1 + 1 : Nat) : Int) := by omega
theorem jz3 (o : Nat) : (o : Int) + 1 + 1 = ((o + 2 + 0 : Nat) : Int) := by omega
theorem jz4 (o : Nat) : (o : Int) + 1 + 2 = ((o + 2 + 1 : Nat) : Int) := by omega
theorem jz5 (o d : Nat) : (o : Int) + (d : Int) = ((o + d : Nat) : Int) := by omega
theorem jz6 (o n : Nat) : ((o + n : Nat) : Int) + 3 = ((o + n + 3 : Nat) : Int) := by omega
noncomputable def Shut (P : Prop) : Prop := P
theorem Shut.mk {P : Prop} (h : P) : Shut P := h
theorem join_toks {M : Model} {A : Around} {E : Value → Shared → Prop} {Q : Value → Shared → Prop} {s : Shared} {t : Sem Value} (P : Value → Prop) (h1 : wpAny M A t (fun v s' => Shut (P v ∧ ∃ tk, s' = { s with toks := tk })) E s) (h2 : ∀ v tk, P v → Q v { s with toks := tk }) : wpAny M A t Q E s :=
  wpAny_mono h1 (fun v s' h => by obtain ⟨hp, tk, rfl⟩ := h; exact h2 v tk hp) fun _ _ e => e
noncomputable def JoinMark (_ : Nat) : Prop := True
theorem take_ne {x : List Nat} {n : Nat} (h : ((x.take n).all (fun a => a != 45)) = true) (d : Nat) (hd : d < n) (hx : d < x.length) : ∃ a, x[d]? = some a ∧ a ≠ 45 := by
  refine ⟨x[d], List.getElem?_eq_getElem hx, ?_⟩
  have e : (x.take n)[d]? = some x[d] := by rw [List.getElem?_take, if_pos hd, List.getElem?_eq_getElem hx]
  have := List.all_eq_true.mp h _ (List.mem_of_getElem? e)
  simpa using this
theorem of_dash : Str.ofString "-" = ⟨#[45]⟩ := by decide +kernel
theorem mid_at {x : List Nat} {d : Nat} (h : d < x.length) : (91 :: x ++ [93])[d + 1]? = x[d]? := by
  show (x ++ [93])[d]? = _
  rw [List.getElem?_append_left h]
theorem plain_ne {c : Nat} (h : Plain c) : (⟨#[c]⟩ : Str) ≠ Str.ofString "*" ∧ (⟨#[c]⟩ : Str) ≠ Str.ofString "?" ∧ (⟨#[c]⟩ : Str) ≠ Str.ofString "[" := by
  have e1 : Str.ofString "*" = ⟨#[42]⟩ := by decide +kernel
  have e2 : Str.ofString "?" = ⟨#[63]⟩ := by decide +kernel
  have e3 : Str.ofString "[" = ⟨#[91]⟩ := by decide +kernel
  unfold Plain at h
  rw [e1, e2, e3]
  refine ⟨fun q => ?_, fun q => ?_, fun q => ?_⟩ <;> (simp at q; omega)
section
variable {prog : Program} {w : World} {A : Around} {E : Value → Shared → Prop} {s : Shared} {value slice : PySem.Expr} {x : PySem.Str} {t u : Tok} {i : Int} {Q : Value → Shared → Prop}
theorem item_piece {n : Nat} {p : List Nat} {c : Nat} (H : At x n p) (d : Nat) (e : i = (n : Int) + d) (hd : p[d]? = some c) (hn : x.length ≤ 1000) (h : Q (.str ⟨#[c]⟩ s.toks) { s with toks := s.toks + 1 })
    (hs : subscripted slice false (.str x t) (.int i u) = operate [.str x t, .int i u] (getItem (.str x t) (.int i u)) := by with_unfolding_all rfl)
    (ht : ∀ r, letTemporaryGo value (.str x t) r = pure () := by intro _; with_unfolding_all rfl) :
    wpAny (model prog w) A (subscriptTail value slice (.str x t) (.int i u)) Q E s := by
  have h1 := H d c hd
  have h2 : n + d < x.length := by
    rcases Nat.lt_or_ge (n + d) x.cps.size with q | q
    · exact q
    · rw [Array.getElem?_eq_none q] at h1; cases h1
  refine item_at (by omega) (by omega) (by omega) (fun _ => ?_) hs ht
  rw [H.item d e hd]
  exact h
end
theorem slice_is {prog : Program} {w : World} {A : Around} {E : Value → Shared → Prop} {s : Shared} {value slice : PySem.Expr} {x z : PySem.Str} {t ui uj : Tok} {i j : Int} {h₀ : Heap} {L : Addr} {m : Str → Option Value} {news : List (Addr × Obj)} {Q : Value → Shared → Prop}
    (hF : Fr h₀ L s.heap m) (hN : News h₀ L s.heap news) (e : Txt.slice x (some i) (some j) = z) (hx : x.length ≤ 1000) (h : ∀ h' t' k, Fr h₀ L h' m → News h₀ L h' news → Q (.str z t') { s with heap := h', toks := k })
    (hs : subscripted slice false (.str x t) (.ref s.heap.objs.size) = operate [.ref s.heap.objs.size, .str x t] (getItem (.str x t) (.ref s.heap.objs.size)) := by with_unfolding_all rfl)
    (ht : ∀ r, letTemporaryGo value (.str x t) r = pure () := by intro _; with_unfolding_all rfl) :
    wpAny (model prog w) A (subscriptTail value slice (.str x t) (.ref s.heap.objs.size)) Q E { s with heap := s.heap.push { cls := .type "slice", data := .fields #[.int i ui, .int j uj, .none] } } := by
  subst e
  exact slice_strN_ss hF hN h hs ht (Nat.le_trans hx (by decide))
theorem slice_sn_is {prog : Program} {w : World} {A : Around} {E : Value → Shared → Prop} {s : Shared} {value slice : PySem.Expr} {x : PySem.Str} {t ui : Tok} {i : Int} {h₀ : Heap} {L : Addr} {m : Str → Option Value} {news : List (Addr × Obj)} {Q : Value → Shared → Prop}
    (hF : Fr h₀ L s.heap m) (hN : News h₀ L s.heap news) (hx : x.length ≤ 1000) (h : ∀ h' t' k, Fr h₀ L h' m → News h₀ L h' news → Q (.str (Txt.slice x (some i) none) t') { s with heap := h', toks := k })
    (hs : subscripted slice false (.str x t) (.ref s.heap.objs.size) = operate [.ref s.heap.objs.size, .str x t] (getItem (.str x t) (.ref s.heap.objs.size)) := by with_unfolding_all rfl)
    (ht : ∀ r, letTemporaryGo value (.str x t) r = pure () := by intro _; with_unfolding_all rfl) :
    wpAny (model prog w) A (subscriptTail value slice (.str x t) (.ref s.heap.objs.size)) Q E { s with heap := s.heap.push { cls := .type "slice", data := .fields #[.int i ui, .none, .none] } } :=
  slice_strN_sn hF hN h hs ht (Nat.le_trans hx (by decide))
theorem gen_fr {prog : Program} {w : World} {A : Around} {E : Value → Shared → Prop} {s : Shared} {h₀ : Heap} {L l : Addr} {m mg : Str → Option Value} {nws : List (Addr × Obj)} {bm : Addr} {ob : Obj} {v : Value} {nn : Nat} {ps : Array Value} {env : Env} {elt iter : Expr} {x : Str} {px : Pos} {scope : Scope} {cl : List (Str × Addr)} {pos : Pos} {Q : Value → Shared → Prop}
    (F : Fr h₀ L s.heap m) (N : News h₀ L s.heap ((l, listOf #[v] nn) :: (85, tabObj ps) :: nws)) (hl : l ≠ 85) (hn : ∀ p ∈ nws, p.1 ≠ 85) (ht : TriplesOk ps.toList) (h85 : h₀.get? 85 = none) (G : AllBare s.gens) (Fp : Value → Prop)
    (C : CodeHd h₀ 89 85) (M : BMod h₀ env.globals mg bm ob) (hlim : h₀.NoLimit) (hcode : env.code = .ref 89)
    (hh : A.handled = none) (hco : scope.isCoroutine = false) (hclos : closureFor scope env = pure cl) (hcell : ∀ y ∈ scope.names, y.2 ≠ .cell) (h0 : scope.names.lookup (".0" : Str) = some NameKind.local)
    (hx : scope.names.lookup x = some .local) (hkind : scope.kind = .function) (hroom : A.depth < recursionLimit) (hs : ∀ x, genFold iter env x = pure x)
    (hi : ∀ Q' : Value → Shared → Prop, Q' (.ref l) s → wpAny (model prog w) A (eval iter env) Q' E s)
    (hq : ∀ (A' : Around) E' (t : Shared) Cf m₂ code, A'.handled = none → Fr { objs := #[] } Cf t.heap m₂ → m₂ x = some v → wpAny (model prog w) A' (eval elt (genEnv scope cl Cf code builtinsNs env)) (fun y s₃ => Fp y ∧ Keeps t s₃) E' t)
    (hQ : ∀ a K s₅ ps', Fr h₀ L s₅.heap m → News h₀ L s₅.heap ((85, tabObj ps') :: (l, listOf #[v] nn) :: nws) → TriplesOk ps'.toList → AllBare s₅.gens → s₅.os = s.os → L ≤ K → (∀ p ∈ (85, tabObj ps') :: (l, listOf #[v] nn) :: nws, p.1 ≤ K) → Gen prog w A K a 1 (fun _ y => Fp y) s₅ → Q (.ref a) s₅) :
    wpAny (model prog w) A (eval (.GeneratorExp elt [⟨.Name x px, iter, [], 0⟩] scope pos) env) Q E s := by
  refine gen_one (m := m) (L := L) (nws := (l, listOf #[v] nn) :: nws) C M hlim hcode hh hco hclos hcell h0 hx hkind hroom hs (hi _ ⟨l, v, ps, rfl, News.isList N (.head _), F, fun p hp => N p ?_, ht, h85, fun p hp => ?_, G, Fp, fun A' E' t Cf m₂ code hA hns hm => hq A' E' t Cf m₂ code hA ?_ hm, hQ⟩)
  · rcases List.mem_cons.mp hp with rfl | hp
    · exact .tail _ (.head _)
    · rcases List.mem_cons.mp hp with rfl | hp
      · exact .head _
      · exact .tail _ (.tail _ hp)
  · rcases List.mem_cons.mp hp with rfl | hp
    · exact hl
    · exact hn p hp
  · refine ⟨hns, fun b o e => ?_, Nat.zero_le _⟩
    unfold Heap.get? at e
    simp at e
noncomputable def trM (u : Str → Option Value) (i n : Int) (ti tn : Tok) (aadd lres st : Addr) (pat : Str) (tp tq : Tok) : Str → Option Value :=
  kstB u [(Str.ofString "i", .int i ti), (Str.ofString "n", .int n tn), (Str.ofString "add", .ref aadd), (Str.ofString "res", .ref lres), (Str.ofString "QUESTION_MARK", .str (Str.ofString ".") tq), (Str.ofString "STAR", .ref st), (Str.ofString "pat", .str pat tp)]
theorem trM_of {f : Str → Option Value} {i n : Int} {ti tn : Tok} {aadd lres st : Addr} {pat : Str} {tp tq : Tok} (h : ∀ p ∈ [(Str.ofString "i", Value.int i ti), (Str.ofString "n", .int n tn), (Str.ofString "add", .ref aadd), (Str.ofString "res", .ref lres), (Str.ofString "QUESTION_MARK", .str (Str.ofString ".") tq), (Str.ofString "STAR", .ref st), (Str.ofString "pat", .str pat tp)], f p.1 = some p.2) : trM f i n ti tn aadd lres st pat tp tq = f :=
  funext fun z => kstB_eq h fun _ => rfl
theorem fr_tr {h₀ h : Heap} {L : Addr} {f : Str → Option Value} {i n : Int} {ti tn : Tok} {aadd lres st : Addr} {pat : Str} {tp tq : Tok} (F : Fr h₀ L h f) (hh : ∀ p ∈ [(Str.ofString "i", Value.int i ti), (Str.ofString "n", .int n tn), (Str.ofString "add", .ref aadd), (Str.ofString "res", .ref lres), (Str.ofString "QUESTION_MARK", .str (Str.ofString ".") tq), (Str.ofString "STAR", .ref st), (Str.ofString "pat", .str pat tp)], f p.1 = some p.2) : Fr h₀ L h (trM f i n ti tn aadd lres st pat tp tq) := by
  rw [trM_of hh]; exact F
theorem tr_close {h₀ : Heap} {Lf aadd lres st : Addr} {L : List (List Nat × Str)} {k r : Nat} {p : List Nat} {o : Str} {s s' : Shared} {f : Str → Option Value} {tn tp tq : Tok} {vs : List Value} {ps' : Array Value} {news : List (Addr × Obj)} (hpc : L[k]? = some (p, o)) (hk : k + (r + 1) = L.length)
    (hv : StrsAre vs ((L.take k).map (·.2))) (hvl : vs.length = k) (F : Fr h₀ Lf s'.heap f) (N : News h₀ Lf s'.heap news) (iv : Int) (ti t : Tok) (hf : ∀ q ∈ [(Str.ofString "i", Value.int iv ti), (Str.ofString "n", .int (wholeOf L).length tn), (Str.ofString "add", .ref aadd), (Str.ofString "res", .ref lres), (Str.ofString "QUESTION_MARK", .str (Str.ofString ".") tq), (Str.ofString "STAR", .ref st), (Str.ofString "pat", .str (wholeOf L) tp)], f q.1 = some q.2) (hiv : iv = (offs L k : Int) + p.length)
    (hN : ∀ q ∈ [(85, tabObj ps'), (aadd, boundObj lres), (lres, listOf (vs.toArray.push (.str o t)) (k + 1))], q ∈ news) (ht : TriplesOk ps'.toList) (G : AllBare s'.gens) (ho : s'.os = s.os) :
    ∃ r', r + 1 = r' + 1 ∧ ∃ k vs u ps ti, k + r' = L.length ∧ Fr h₀ Lf s'.heap (trM u (offs L k) (wholeOf L).length ti tn aadd lres st (wholeOf L) tp tq) ∧
      News h₀ Lf s'.heap [(85, tabObj ps), (aadd, boundObj lres), (lres, listOf vs.toArray k)] ∧ TriplesOk ps.toList ∧ StrsAre vs ((L.take k).map (·.2)) ∧ vs.length = k ∧ AllBare s'.gens ∧ s'.os = s.os := by
  refine ⟨r, rfl, k + 1, vs ++ [.str o t], f, ps', ti, by omega, ?_, ?_, ht, ?_, by simp [hvl], G, ho⟩
  · have e : ((offs L (k + 1) : Nat) : Int) = iv := by rw [offs_succ hpc, hiv]; simp
    rw [e]
    exact fr_tr F hf
  · have e : (vs ++ [Value.str o t]).toArray = vs.toArray.push (.str o t) := by simp
    rw [e]
    exact fun q hq => N q (hN q hq)
  · have hta : (L.take (k + 1)).map (·.2) = (L.take k).map (·.2) ++ [o] := by rw [List.take_add_one, hpc]; simp
    rw [hta]
    exact strs_snoc hv
noncomputable def trJ (u : Str → Option Value) (j i n : Int) (tj ti tn : Tok) (aadd lres st : Addr) (pat : Str) (tp tq : Tok) : Str → Option Value :=
  kstB u [(Str.ofString "j", .int j tj), (Str.ofString "i", .int i ti), (Str.ofString "n", .int n tn), (Str.ofString "add", .ref aadd), (Str.ofString "res", .ref lres), (Str.ofString "QUESTION_MARK", .str (Str.ofString ".") tq), (Str.ofString "STAR", .ref st), (Str.ofString "pat", .str pat tp)]
theorem fr_trJ {h₀ h : Heap} {L : Addr} {f : Str → Option Value} {j i n : Int} {tj ti tn : Tok} {aadd lres st : Addr} {pat : Str} {tp tq : Tok} (F : Fr h₀ L h f) (hh : ∀ p ∈ [(Str.ofString "j", Value.int j tj), (Str.ofString "i", Value.int i ti), (Str.ofString "n", .int n tn), (Str.ofString "add", .ref aadd), (Str.ofString "res", .ref lres), (Str.ofString "QUESTION_MARK", .str (Str.ofString ".") tq), (Str.ofString "STAR", .ref st), (Str.ofString "pat", .str pat tp)], f p.1 = some p.2) : Fr h₀ L h (trJ f j i n tj ti tn aadd lres st pat tp tq) := by
  have e : trJ f j i n tj ti tn aadd lres st pat tp tq = f := funext fun z => kstB_eq hh fun _ => rfl
  rw [e]; exact F
noncomputable def trS (u : Str → Option Value) (x : Str) (j n : Int) (tx tj tn : Tok) (aadd lres st : Addr) (pat : Str) (tp tq : Tok) : Str → Option Value :=
  kstB u [(Str.ofString "stuff", .str x tx), (Str.ofString "j", .int j tj), (Str.ofString "n", .int n tn), (Str.ofString "add", .ref aadd), (Str.ofString "res", .ref lres), (Str.ofString "QUESTION_MARK", .str (Str.ofString ".") tq), (Str.ofString "STAR", .ref st), (Str.ofString "pat", .str pat tp)]
theorem fr_trS {h₀ h : Heap} {L : Addr} {f : Str → Option Value} {x : Str} {j n : Int} {tx tj tn : Tok} {aadd lres st : Addr} {pat : Str} {tp tq : Tok} (F : Fr h₀ L h f) (hh : ∀ p ∈ [(Str.ofString "stuff", Value.str x tx), (Str.ofString "j", Value.int j tj), (Str.ofString "n", .int n tn), (Str.ofString "add", .ref aadd), (Str.ofString "res", .ref lres), (Str.ofString "QUESTION_MARK", .str (Str.ofString ".") tq), (Str.ofString "STAR", .ref st), (Str.ofString "pat", .str pat tp)], f p.1 = some p.2) : Fr h₀ L h (trS f x j n tx tj tn aadd lres st pat tp tq) := by
  have e : trS f x j n tx tj tn aadd lres st pat tp tq = f := funext fun z => kstB_eq hh fun _ => rfl
  rw [e]; exact F
section
local macro_rules | `(tactic| walk_at $s:str) => if ["KswEnd", "exec While Compare", "exec While BoolOp", "getAttr ref", "call ref", "call builtin:str.find", "exec While Constant", "eval GeneratorExp", "subscriptTail Name Slice str ref", "inplaceOp Add str str", "call builtin:str.replace", "pyIter ref", "call builtin:str.join", "binaryOp Add str str", "compareOp NotIn str str", "eval Lambda", "call builtin:re.Pattern.sub"].contains s.getString then `(tactic| refine Halt.out ?_) else Lean.Macro.throwUnsupported
local macro_rules | `(tactic| walk_at $s:str) => if ["subscriptTail", "subscriptTail Name Name str int"].contains s.getString then `(tactic| refine haltST ?_) else Lean.Macro.throwUnsupported
local macro_rules | `(tactic| walk_at $s:str) => if ["WhlIf"].contains s.getString then `(tactic| refine haltWI ?_) else Lean.Macro.throwUnsupported
local macro_rules | `(tactic| walk_at $s:str) => if ["callWith ref"].contains s.getString then `(tactic| refine haltCW (by assumption) ?_) else Lean.Macro.throwUnsupported
local macro_rules | `(tactic| walk_at $s:str) => if ["And"].contains s.getString then `(tactic| refine haltAA ?_) else Lean.Macro.throwUnsupported
local macro_rules | `(tactic| walk_at $s:str) => if ["getMethod ref"].contains s.getString then `(tactic| refine haltGM ?_) else Lean.Macro.throwUnsupported
local macro_rules | `(tactic| walk_at $s:str) => if ["exec If"].contains s.getString then `(tactic| ((with_reducible show wpAny _ _ (exec (Stmt.If (Expr.BoolOp _ _ _) _ _ _) _) _ _ _); with_reducible refine haltM (m := JoinMark 1) (by assumption) ?_)) else Lean.Macro.throwUnsupported
local macro_rules | `(tactic| walk_at $s:str) => if ["exec If"].contains s.getString then `(tactic| with_reducible refine haltM (m := JoinMark 2) (by assumption) ?_) else Lean.Macro.throwUnsupported
local macro_rules | `(tactic| walk_at $s:str) => if ["eval IfExp"].contains s.getString then `(tactic| with_reducible refine haltM (m := JoinMark 3) (by assumption) ?_) else Lean.Macro.throwUnsupported
set_option maxHeartbeats 8000000 in
theorem transl_fn (w : World) (st : Addr) (L : List (List Nat × Str)) (tp tq : Tok) (hL : ∀ p ∈ L, Tr p.1 p.2) (hlen : L.length ≤ 100) (hp : (wholeOf L).length ≤ 1000) :
    FnT w 128 90 [.str (wholeOf L) tp, .ref st, .str (Str.ofString ".") tq] (fun h => True) (fun v h h' => ∃ l vs, v = .ref l ∧ h.get? l = none ∧ h'.IsList l vs.toArray ∧ StrsAre vs (L.map (·.2))) := by
  unfold FnT
  intro dp un gd outer base s Q E loose mean mg mb hdp hun hb85 B₀ X₀ T₀ htab G₀ hpre hret
  obtain ⟨ps₀, hps, htp⟩ := htab
  refine wpAny_call ?_
  k_dflt (refine' enter_plain (binds := [(Str.ofString "pat", .str (wholeOf L) tp), (Str.ofString "STAR", .ref st), (Str.ofString "QUESTION_MARK", .str (Str.ofString ".") tq)]) ?X ?T ?o ?c ?r ?b ?l ?_ ?c2 ?c3 ?c4 ?c5; (case X => exact X₀); (case T => exact T₀); (case o => k_is); (case c => k_is); (case r => omega); (case b => exact BindsTo.of_eq rfl); (case l => exact locs rfl); (case c2 => decide); (case c3 => exact rfl); (case c4 => exact rfl); (case c5 => exact rfl); k_whole; intro L' h₁ Fa Na; (simp only [List.reverse_cons, List.reverse_nil, List.nil_append, List.cons_append, lk] at Fa); (try dsimp only); (try k_fold))
  have F' := fr_hide Fa
  have N' := news_hide Fa hps
  have X' := in_hide X₀ (by rfl)
  have T' := top_hide hps T₀
  have B' := below_hide hps hb85 B₀
  have C' := codeHd_tr X'
  clear Fa Na
  repeat (first | (with_reducible first | (refine one_cut5 s.gens s.drawn s.os ?_; intro tkC) | (refine cons_cut5 s.gens s.drawn s.os ?_; intro tkC qC hC)) | (k_unfold; (try dsimp only)) | walk1 | (with_reducible first | refine CutQ.next (by assumption) ?_ | refine CutQ.ret (by assumption) ?_ | refine CutQ.brk (by assumption) ?_ | refine CutQ.cont (by assumption) ?_ | refine EndQ.ret (by assumption) ?_ | refine EndQ.next (by assumption) ?_) | ((refine Halt.out' ?_); first | (with_reducible ((show wpAny _ _ (call (Value.builtin "re.Pattern.sub") _) _ _ _); (k_here; (rename Fr _ _ _ _ => cF); (rename News _ _ _ _ => cN); k_dflt (refine sub_K (by assumption) (by first | assumption | rfl) (by rfl) (by have e : recursionLimit = 1000 := rfl; (simp only [depth_deeper]); omega) (by have e : cLine = 9900 := rfl; (simp only [units_deeper]); omega) (by assumption) cF cN (by k_mem) ?_); intro h' tk' t' F' N'; clear cF cN))) | (with_reducible ((show wpAny _ _ (eval (Expr.Lambda _ _ _ _) _) _ _ _); (k_here; (rename Fr _ _ _ _ => cF); (rename News _ _ _ _ => cN); k_dflt (refine lam_any (by assumption) cF cN hide1_none (by first | assumption | k_all) (by assumption) (by assumption) (by rfl) (by rfl) (by rfl) (by rfl) ?_); intro f' fd' h' tk' ps' hps' hne' F' N'; clear cF cN; (have hg' := gnNe_of hne'); (simp only [GnNe] at hg'); clear hne'))) | (with_reducible ((show wpAny _ _ (getMethod (Value.ref _) _ _) _ _ _); (k_here; (rename Fr _ _ _ _ => cF); k_dflt (refine method_sub (Frag.In.keeps (by assumption) cF.keep) ?_)))) | ((with_reducible show wpAny _ _ (pyIter (Value.ref _)) _ _ _); (krs_unr)) | (with_reducible ((show wpAny _ _ (call (Value.ref _) _) _ _ _); ( k_here; (rename Fr _ _ _ _ => cF); (rename News _ _ _ _ => cN); k_dflt (refine bound_K cF cN (by k_mem) (by k_upd) ?_ (Nat.le_trans (m := 100) (by (simp only [List.size_toArray]); omega) (by decide))); intro h' F' N'; clear cF cN))) | (with_reducible ((show wpAny _ _ (call (Value.ref _) _) _ _ _); ( k_here; (rename Fr _ _ _ _ => cF); (rename News _ _ _ _ => cN); k_dflt (first | refine Fn.use' (escape_plain _ _ (by assumption) _) (by k_asm) cF (by k_asm) cN (by k_asm) (by rfl) (by rfl) (by assumption) (by assumption) (by decide) trivial ?_ | refine Fn.use' (escape_dash _ _) (by k_asm) cF (by k_asm) cN (by k_asm) (by rfl) (by rfl) (by assumption) (by assumption) (by decide) trivial ?_); intro v' h' tk' F' N' K' P'; clear cF cN; (obtain ⟨t', e'⟩ := P'); subst e'))) | (with_reducible ((show _ ∧ _); ((with_reducible show AppAt _ _ ∧ _); k_dflt (refine ⟨appAt_of (by k_asm) (by k_mem), ?_⟩); (try dsimp only [List.nil_append, List.cons_append])))) | (with_reducible ((show wpAny _ _ (callWith _ (Value.ref _) _ _ _) _ _ _); (k_here; k_dflt (refine' callWith_append ?kaN ?kaM ?_; (case kaN => k_asm); (case kaM => k_mem))))) | ((with_reducible show wpAny _ _ (subscriptTail _ _ (Value.str _ _) (Value.int _ _)) _ _ _); (k_dflt (first | refine item_piece (by with_reducible assumption) 0 (by omega) (by first | rfl | with_reducible assumption) (by with_reducible assumption) ?_ | refine item_piece (by with_reducible assumption) 1 (by omega) (by first | rfl | with_reducible assumption) (by with_reducible assumption) ?_ | refine item_piece (by with_reducible assumption) 2 (by omega) (by first | rfl | with_reducible assumption) (by with_reducible assumption) ?_ | refine item_piece (by with_reducible assumption) _ (by rfl) (by with_reducible assumption) (by with_reducible assumption) ?_))) | (with_reducible ((show @ite _ _ _ _ _); ((refine ite_both (fun hc => ?_) (fun hc => ?_)); (all_goals (try simp only [beq_iff_eq, decide_eq_true_eq, Bool.not_eq_true', bne_eq_false_iff_eq, bne_iff_ne, ne_eq, one_star, one_ask, one_open, one_close, one_bang] at hc)); (all_goals (try simp only [Bool.not_not] at hc)); (all_goals (try (exfalso; first | contradiction | k_dflt (first | omega | exact (plain_ne (by assumption)).1 hc | exact (plain_ne (by assumption)).2.1 hc | exact (plain_ne (by assumption)).2.2 hc))))))) | (with_reducible ((show wpAny _ _ (getAttr (Value.ref _) _ _) _ _ _); ( k_here; (rename Fr _ _ _ _ => cF); (rename News _ _ _ _ => cN); k_dflt (refine getAttr_K (by rfl) (by have e : recursionLimit = 1000 := rfl; (simp only [depth_deeper]); omega) (by have e : cLine = 9900 := rfl; (simp only [units_deeper]); omega) cF cN (by k_mem) ?_); intro h' tkA aadd hneA F' N'; clear cF cN))) | ((with_reducible show WhlIf _ _ _); first | (refine WhlIf.no (by simp only [decide_eq_false_iff_not]; omega) ?_) | (refine WhlIf.yes (by simp only [decide_eq_true_eq]; omega) ?_)) | ((k_here; (with_reducible show wpAny _ _ (subscriptTail _ _ (Value.str _ _) (Value.int _ _)) _ _ _); (refine item_at (by omega) (by omega) (by omega) ?_); intro kxiE))) | (dsimp only; walk1) | fail "no step")
  refine Halt.out' ?_
  rename_i lres _ lt1 _ _ _ _ _ tkI _ _ D _ lt2 _ _ _ F1 N1
  have hne := hneA
  have hna : @Ne Nat lres aadd := hne _ (.head _)
  have hnb : @Ne Nat 85 aadd := hne (85, tabObj ps₀) (.tail _ (.head _))
  clear hne lt2
  refine whl_start (L.length + 1) ?_
  refine whl_ind (P := fun r s' => ∃ k vs u ps ti, k + r = L.length ∧ Fr (hide1 s.heap) L' s'.heap (trM u (offs L k) (wholeOf L).length ti (tkI + 1 + 1) aadd lres st (wholeOf L) tp tq) ∧
    News (hide1 s.heap) L' s'.heap [(85, tabObj ps), (aadd, boundObj lres), (lres, listOf vs.toArray k)] ∧ TriplesOk ps.toList ∧ StrsAre vs ((L.take k).map (·.2)) ∧ vs.length = k ∧ AllBare s'.gens ∧ s'.os = s.os) ?turn (by passes_own) L.length _ ?init
  case init =>
    refine ⟨0, [], _, ps₀, tkI, by omega, fr_tr F1 ?_, ?_, htp, .nil, rfl, G₀, rfl⟩
    · (refine List.forall_mem_cons.mpr ⟨rfl, List.forall_mem_cons.mpr ⟨rfl, List.forall_mem_cons.mpr ⟨rfl, List.forall_mem_cons.mpr ⟨rfl, List.forall_mem_cons.mpr ⟨rfl, List.forall_mem_cons.mpr ⟨rfl, List.forall_mem_cons.mpr ⟨rfl, List.forall_mem_nil _⟩⟩⟩⟩⟩⟩⟩)
    · intro p hp
      refine N1 p ?_
      rcases List.mem_cons.mp hp with rfl | hp
      · exact .tail _ (.tail _ (.tail _ (.head _)))
      · rcases List.mem_cons.mp hp with rfl | hp
        · exact .tail _ (.head _)
        · rw [List.mem_singleton.mp hp]
          exact .tail _ (.tail _ (.head _))
  case turn =>
    rintro r s1 ⟨k, vs, u, ps, ti, hk, F9, N9, ht9, hv9, hvl, G9, ho9⟩
    clear F1 N1
    unfold trM at F9
    cases r with
    | zero =>
      have hoff : offs L k = (wholeOf L).length := by rw [← offs_end, show k = L.length by omega]
      repeat (first | (with_reducible first | (refine one_cut5 s1.gens s1.drawn s1.os ?_; intro tkC) | (refine cons_cut5 s1.gens s1.drawn s1.os ?_; intro tkC qC hC)) | (k_unfold; (try dsimp only)) | walk1 | (with_reducible first | refine CutQ.next (by assumption) ?_ | refine CutQ.ret (by assumption) ?_ | refine CutQ.brk (by assumption) ?_ | refine CutQ.cont (by assumption) ?_ | refine EndQ.ret (by assumption) ?_ | refine EndQ.next (by assumption) ?_) | ((refine Halt.out' ?_); first | (with_reducible ((show wpAny _ _ (call (Value.builtin "re.Pattern.sub") _) _ _ _); (k_here; (rename Fr _ _ _ _ => cF); (rename News _ _ _ _ => cN); k_dflt (refine sub_K (by assumption) (by first | assumption | rfl) (by rfl) (by have e : recursionLimit = 1000 := rfl; (simp only [depth_deeper]); omega) (by have e : cLine = 9900 := rfl; (simp only [units_deeper]); omega) (by assumption) cF cN (by k_mem) ?_); intro h' tk' t' F' N'; clear cF cN))) | (with_reducible ((show wpAny _ _ (eval (Expr.Lambda _ _ _ _) _) _ _ _); (k_here; (rename Fr _ _ _ _ => cF); (rename News _ _ _ _ => cN); k_dflt (refine lam_any (by assumption) cF cN hide1_none (by first | assumption | k_all) (by assumption) (by assumption) (by rfl) (by rfl) (by rfl) (by rfl) ?_); intro f' fd' h' tk' ps' hps' hne' F' N'; clear cF cN; (have hg' := gnNe_of hne'); (simp only [GnNe] at hg'); clear hne'))) | (with_reducible ((show wpAny _ _ (getMethod (Value.ref _) _ _) _ _ _); (k_here; (rename Fr _ _ _ _ => cF); k_dflt (refine method_sub (Frag.In.keeps (by assumption) cF.keep) ?_)))) | ((with_reducible show wpAny _ _ (pyIter (Value.ref _)) _ _ _); (krs_unr)) | (with_reducible ((show wpAny _ _ (call (Value.ref _) _) _ _ _); ( k_here; (rename Fr _ _ _ _ => cF); (rename News _ _ _ _ => cN); k_dflt (refine bound_K cF cN (by k_mem) (by k_upd) ?_ (Nat.le_trans (m := 100) (by (simp only [List.size_toArray]); omega) (by decide))); intro h' F' N'; clear cF cN))) | (with_reducible ((show wpAny _ _ (call (Value.ref _) _) _ _ _); ( k_here; (rename Fr _ _ _ _ => cF); (rename News _ _ _ _ => cN); k_dflt (first | refine Fn.use' (escape_plain _ _ (by assumption) _) (by k_asm) cF (by k_asm) cN (by k_asm) (by rfl) (by rfl) (by assumption) (by assumption) (by decide) trivial ?_ | refine Fn.use' (escape_dash _ _) (by k_asm) cF (by k_asm) cN (by k_asm) (by rfl) (by rfl) (by assumption) (by assumption) (by decide) trivial ?_); intro v' h' tk' F' N' K' P'; clear cF cN; (obtain ⟨t', e'⟩ := P'); subst e'))) | (with_reducible ((show _ ∧ _); ((with_reducible show AppAt _ _ ∧ _); k_dflt (refine ⟨appAt_of (by k_asm) (by k_mem), ?_⟩); (try dsimp only [List.nil_append, List.cons_append])))) | (with_reducible ((show wpAny _ _ (callWith _ (Value.ref _) _ _ _) _ _ _); (k_here; k_dflt (refine' callWith_append ?kaN ?kaM ?_; (case kaN => k_asm); (case kaM => k_mem))))) | ((with_reducible show wpAny _ _ (subscriptTail _ _ (Value.str _ _) (Value.int _ _)) _ _ _); (k_dflt (first | refine item_piece (by with_reducible assumption) 0 (by omega) (by first | rfl | with_reducible assumption) (by with_reducible assumption) ?_ | refine item_piece (by with_reducible assumption) 1 (by omega) (by first | rfl | with_reducible assumption) (by with_reducible assumption) ?_ | refine item_piece (by with_reducible assumption) 2 (by omega) (by first | rfl | with_reducible assumption) (by with_reducible assumption) ?_ | refine item_piece (by with_reducible assumption) _ (by rfl) (by with_reducible assumption) (by with_reducible assumption) ?_))) | (with_reducible ((show @ite _ _ _ _ _); ((refine ite_both (fun hc => ?_) (fun hc => ?_)); (all_goals (try simp only [beq_iff_eq, decide_eq_true_eq, Bool.not_eq_true', bne_eq_false_iff_eq, bne_iff_ne, ne_eq, one_star, one_ask, one_open, one_close, one_bang] at hc)); (all_goals (try simp only [Bool.not_not] at hc)); (all_goals (try (exfalso; first | contradiction | k_dflt (first | omega | exact (plain_ne (by assumption)).1 hc | exact (plain_ne (by assumption)).2.1 hc | exact (plain_ne (by assumption)).2.2 hc))))))) | (with_reducible ((show wpAny _ _ (getAttr (Value.ref _) _ _) _ _ _); ( k_here; (rename Fr _ _ _ _ => cF); (rename News _ _ _ _ => cN); k_dflt (refine getAttr_K (by rfl) (by have e : recursionLimit = 1000 := rfl; (simp only [depth_deeper]); omega) (by have e : cLine = 9900 := rfl; (simp only [units_deeper]); omega) cF cN (by k_mem) ?_); intro h' tkA aadd hneA F' N'; clear cF cN))) | ((with_reducible show WhlIf _ _ _); first | (refine WhlIf.no (by simp only [decide_eq_false_iff_not]; omega) ?_) | (refine WhlIf.yes (by simp only [decide_eq_true_eq]; omega) ?_)) | ((k_here; (with_reducible show wpAny _ _ (subscriptTail _ _ (Value.str _ _) (Value.int _ _)) _ _ _); (refine item_at (by omega) (by omega) (by omega) ?_); intro kxiE))) | (dsimp only; walk1) | fail "no step")
      (try dsimp only)
      refine hret _ _ (keptT_fr F9) (tab_news N9 (.head _) ht9) G9 ho9 ⟨lres, vs, rfl, ?_, ?_, ?_⟩
      · have n1 := (N9 (lres, listOf vs.toArray k) (.tail _ (.tail _ (.head _)))).2.2
        cases q : s.heap.get? lres with
        | none => rfl
        | some o =>
          rw [hide1_get (Nat.ne_of_gt lt1) q] at n1
          cases n1
      · exact News.isList N9 (.tail _ (.tail _ (.head _)))
      · rw [show k = L.length by omega, List.take_length] at hv9
        exact hv9
    | succ r =>
      have hnws : ∀ p ∈ [(aadd, boundObj lres), (lres, listOf vs.toArray k)], p.1 ≠ 85 := by
        intro p hp
        rcases List.mem_cons.mp hp with rfl | hp
        · exact hnb.symm
        · rw [List.mem_singleton.mp hp]; exact Nat.ne_of_gt lt1
      have hkL : k < L.length := by omega
      obtain ⟨pc, hpc⟩ : ∃ pc, L[k]? = some pc := ⟨_, List.getElem?_eq_getElem hkL⟩
      have hTr := hL pc (List.mem_of_getElem? hpc)
      have hat := offs_at hpc
      have hsu := offs_succ hpc
      have hle := offs_le L (k + 1)
      have hpos := hTr.pos
      have hoff : offs L k < (wholeOf L).length := by omega
      have hta : (L.take (k + 1)).map (·.2) = (L.take k).map (·.2) ++ [pc.2] := by rw [List.take_add_one, hpc]; simp
      obtain ⟨p, o⟩ := pc
      dsimp only at hTr hat hsu hta
      cases hTr with
      | plain c hc9 =>
        have hc8 := hc9
        unfold Plain at hc8
        repeat (first | (with_reducible first | (refine one_cut5 s1.gens s1.drawn s1.os ?_; intro tkC) | (refine cons_cut5 s1.gens s1.drawn s1.os ?_; intro tkC qC hC)) | (k_unfold; (try dsimp only)) | walk1 | (with_reducible first | refine CutQ.next (by assumption) ?_ | refine CutQ.ret (by assumption) ?_ | refine CutQ.brk (by assumption) ?_ | refine CutQ.cont (by assumption) ?_ | refine EndQ.ret (by assumption) ?_ | refine EndQ.next (by assumption) ?_) | ((refine Halt.out' ?_); first | (with_reducible ((show wpAny _ _ (call (Value.builtin "re.Pattern.sub") _) _ _ _); (k_here; (rename Fr _ _ _ _ => cF); (rename News _ _ _ _ => cN); k_dflt (refine sub_K (by assumption) (by first | assumption | rfl) (by rfl) (by have e : recursionLimit = 1000 := rfl; (simp only [depth_deeper]); omega) (by have e : cLine = 9900 := rfl; (simp only [units_deeper]); omega) (by assumption) cF cN (by k_mem) ?_); intro h' tk' t' F' N'; clear cF cN))) | (with_reducible ((show wpAny _ _ (eval (Expr.Lambda _ _ _ _) _) _ _ _); (k_here; (rename Fr _ _ _ _ => cF); (rename News _ _ _ _ => cN); k_dflt (refine lam_any (by assumption) cF cN hide1_none (by first | assumption | k_all) (by assumption) (by assumption) (by rfl) (by rfl) (by rfl) (by rfl) ?_); intro f' fd' h' tk' ps' hps' hne' F' N'; clear cF cN; (have hg' := gnNe_of hne'); (simp only [GnNe] at hg'); clear hne'))) | (with_reducible ((show wpAny _ _ (getMethod (Value.ref _) _ _) _ _ _); (k_here; (rename Fr _ _ _ _ => cF); k_dflt (refine method_sub (Frag.In.keeps (by assumption) cF.keep) ?_)))) | ((with_reducible show wpAny _ _ (pyIter (Value.ref _)) _ _ _); (krs_unr)) | (with_reducible ((show wpAny _ _ (call (Value.ref _) _) _ _ _); ( k_here; (rename Fr _ _ _ _ => cF); (rename News _ _ _ _ => cN); k_dflt (refine bound_K cF cN (by k_mem) (by k_upd) ?_ (Nat.le_trans (m := 100) (by (simp only [List.size_toArray]); omega) (by decide))); intro h' F' N'; clear cF cN))) | (with_reducible ((show wpAny _ _ (call (Value.ref _) _) _ _ _); ( k_here; (rename Fr _ _ _ _ => cF); (rename News _ _ _ _ => cN); k_dflt (first | refine Fn.use' (escape_plain _ _ (by assumption) _) (by k_asm) cF (by k_asm) cN (by k_asm) (by rfl) (by rfl) (by assumption) (by assumption) (by decide) trivial ?_ | refine Fn.use' (escape_dash _ _) (by k_asm) cF (by k_asm) cN (by k_asm) (by rfl) (by rfl) (by assumption) (by assumption) (by decide) trivial ?_); intro v' h' tk' F' N' K' P'; clear cF cN; (obtain ⟨t', e'⟩ := P'); subst e'))) | (with_reducible ((show _ ∧ _); ((with_reducible show AppAt _ _ ∧ _); k_dflt (refine ⟨appAt_of (by k_asm) (by k_mem), ?_⟩); (try dsimp only [List.nil_append, List.cons_append])))) | (with_reducible ((show wpAny _ _ (callWith _ (Value.ref _) _ _ _) _ _ _); (k_here; k_dflt (refine' callWith_append ?kaN ?kaM ?_; (case kaN => k_asm); (case kaM => k_mem))))) | ((with_reducible show wpAny _ _ (subscriptTail _ _ (Value.str _ _) (Value.int _ _)) _ _ _); (k_dflt (first | refine item_piece (by with_reducible assumption) 0 (by omega) (by first | rfl | with_reducible assumption) (by with_reducible assumption) ?_ | refine item_piece (by with_reducible assumption) 1 (by omega) (by first | rfl | with_reducible assumption) (by with_reducible assumption) ?_ | refine item_piece (by with_reducible assumption) 2 (by omega) (by first | rfl | with_reducible assumption) (by with_reducible assumption) ?_ | refine item_piece (by with_reducible assumption) _ (by rfl) (by with_reducible assumption) (by with_reducible assumption) ?_))) | (with_reducible ((show @ite _ _ _ _ _); ((refine ite_both (fun hc => ?_) (fun hc => ?_)); (all_goals (try simp only [beq_iff_eq, decide_eq_true_eq, Bool.not_eq_true', bne_eq_false_iff_eq, bne_iff_ne, ne_eq, one_star, one_ask, one_open, one_close, one_bang] at hc)); (all_goals (try simp only [Bool.not_not] at hc)); (all_goals (try (exfalso; first | contradiction | k_dflt (first | omega | exact (plain_ne (by assumption)).1 hc | exact (plain_ne (by assumption)).2.1 hc | exact (plain_ne (by assumption)).2.2 hc))))))) | (with_reducible ((show wpAny _ _ (getAttr (Value.ref _) _ _) _ _ _); ( k_here; (rename Fr _ _ _ _ => cF); (rename News _ _ _ _ => cN); k_dflt (refine getAttr_K (by rfl) (by have e : recursionLimit = 1000 := rfl; (simp only [depth_deeper]); omega) (by have e : cLine = 9900 := rfl; (simp only [units_deeper]); omega) cF cN (by k_mem) ?_); intro h' tkA aadd hneA F' N'; clear cF cN))) | ((with_reducible show WhlIf _ _ _); first | (refine WhlIf.no (by simp only [decide_eq_false_iff_not]; omega) ?_) | (refine WhlIf.yes (by simp only [decide_eq_true_eq]; omega) ?_)) | ((k_here; (with_reducible show wpAny _ _ (subscriptTail _ _ (Value.str _ _) (Value.int _ _)) _ _ _); (refine item_at (by omega) (by omega) (by omega) ?_); intro kxiE))) | (dsimp only; walk1) | fail "no step")
        (rename Fr _ _ _ _ => cF); (rename News _ _ _ _ => cN)
        exact tr_close hpc hk hv9 hvl cF cN _ _ _ (by (refine List.forall_mem_cons.mpr ⟨rfl, List.forall_mem_cons.mpr ⟨rfl, List.forall_mem_cons.mpr ⟨rfl, List.forall_mem_cons.mpr ⟨rfl, List.forall_mem_cons.mpr ⟨rfl, List.forall_mem_cons.mpr ⟨rfl, List.forall_mem_cons.mpr ⟨rfl, List.forall_mem_nil _⟩⟩⟩⟩⟩⟩⟩)) (by simp) (fun q hq => hq) ht9 G9 ho9
      | dash =>
        repeat (first | (with_reducible first | (refine one_cut5 s1.gens s1.drawn s1.os ?_; intro tkC) | (refine cons_cut5 s1.gens s1.drawn s1.os ?_; intro tkC qC hC)) | (k_unfold; (try dsimp only)) | walk1 | (with_reducible first | refine CutQ.next (by assumption) ?_ | refine CutQ.ret (by assumption) ?_ | refine CutQ.brk (by assumption) ?_ | refine CutQ.cont (by assumption) ?_ | refine EndQ.ret (by assumption) ?_ | refine EndQ.next (by assumption) ?_) | ((refine Halt.out' ?_); first | (with_reducible ((show wpAny _ _ (call (Value.builtin "re.Pattern.sub") _) _ _ _); (k_here; (rename Fr _ _ _ _ => cF); (rename News _ _ _ _ => cN); k_dflt (refine sub_K (by assumption) (by first | assumption | rfl) (by rfl) (by have e : recursionLimit = 1000 := rfl; (simp only [depth_deeper]); omega) (by have e : cLine = 9900 := rfl; (simp only [units_deeper]); omega) (by assumption) cF cN (by k_mem) ?_); intro h' tk' t' F' N'; clear cF cN))) | (with_reducible ((show wpAny _ _ (eval (Expr.Lambda _ _ _ _) _) _ _ _); (k_here; (rename Fr _ _ _ _ => cF); (rename News _ _ _ _ => cN); k_dflt (refine lam_any (by assumption) cF cN hide1_none (by first | assumption | k_all) (by assumption) (by assumption) (by rfl) (by rfl) (by rfl) (by rfl) ?_); intro f' fd' h' tk' ps' hps' hne' F' N'; clear cF cN; (have hg' := gnNe_of hne'); (simp only [GnNe] at hg'); clear hne'))) | (with_reducible ((show wpAny _ _ (getMethod (Value.ref _) _ _) _ _ _); (k_here; (rename Fr _ _ _ _ => cF); k_dflt (refine method_sub (Frag.In.keeps (by assumption) cF.keep) ?_)))) | ((with_reducible show wpAny _ _ (pyIter (Value.ref _)) _ _ _); (krs_unr)) | (with_reducible ((show wpAny _ _ (call (Value.ref _) _) _ _ _); ( k_here; (rename Fr _ _ _ _ => cF); (rename News _ _ _ _ => cN); k_dflt (refine bound_K cF cN (by k_mem) (by k_upd) ?_ (Nat.le_trans (m := 100) (by (simp only [List.size_toArray]); omega) (by decide))); intro h' F' N'; clear cF cN))) | (with_reducible ((show wpAny _ _ (call (Value.ref _) _) _ _ _); ( k_here; (rename Fr _ _ _ _ => cF); (rename News _ _ _ _ => cN); k_dflt (first | refine Fn.use' (escape_plain _ _ (by assumption) _) (by k_asm) cF (by k_asm) cN (by k_asm) (by rfl) (by rfl) (by assumption) (by assumption) (by decide) trivial ?_ | refine Fn.use' (escape_dash _ _) (by k_asm) cF (by k_asm) cN (by k_asm) (by rfl) (by rfl) (by assumption) (by assumption) (by decide) trivial ?_); intro v' h' tk' F' N' K' P'; clear cF cN; (obtain ⟨t', e'⟩ := P'); subst e'))) | (with_reducible ((show _ ∧ _); ((with_reducible show AppAt _ _ ∧ _); k_dflt (refine ⟨appAt_of (by k_asm) (by k_mem), ?_⟩); (try dsimp only [List.nil_append, List.cons_append])))) | (with_reducible ((show wpAny _ _ (callWith _ (Value.ref _) _ _ _) _ _ _); (k_here; k_dflt (refine' callWith_append ?kaN ?kaM ?_; (case kaN => k_asm); (case kaM => k_mem))))) | ((with_reducible show wpAny _ _ (subscriptTail _ _ (Value.str _ _) (Value.int _ _)) _ _ _); (k_dflt (first | refine item_piece (by with_reducible assumption) 0 (by omega) (by first | rfl | with_reducible assumption) (by with_reducible assumption) ?_ | refine item_piece (by with_reducible assumption) 1 (by omega) (by first | rfl | with_reducible assumption) (by with_reducible assumption) ?_ | refine item_piece (by with_reducible assumption) 2 (by omega) (by first | rfl | with_reducible assumption) (by with_reducible assumption) ?_ | refine item_piece (by with_reducible assumption) _ (by rfl) (by with_reducible assumption) (by with_reducible assumption) ?_))) | (with_reducible ((show @ite _ _ _ _ _); ((refine ite_both (fun hc => ?_) (fun hc => ?_)); (all_goals (try simp only [beq_iff_eq, decide_eq_true_eq, Bool.not_eq_true', bne_eq_false_iff_eq, bne_iff_ne, ne_eq, one_star, one_ask, one_open, one_close, one_bang] at hc)); (all_goals (try simp only [Bool.not_not] at hc)); (all_goals (try (exfalso; first | contradiction | k_dflt (first | omega | exact (plain_ne (by assumption)).1 hc | exact (plain_ne (by assumption)).2.1 hc | exact (plain_ne (by assumption)).2.2 hc))))))) | (with_reducible ((show wpAny _ _ (getAttr (Value.ref _) _ _) _ _ _); ( k_here; (rename Fr _ _ _ _ => cF); (rename News _ _ _ _ => cN); k_dflt (refine getAttr_K (by rfl) (by have e : recursionLimit = 1000 := rfl; (simp only [depth_deeper]); omega) (by have e : cLine = 9900 := rfl; (simp only [units_deeper]); omega) cF cN (by k_mem) ?_); intro h' tkA aadd hneA F' N'; clear cF cN))) | ((with_reducible show WhlIf _ _ _); first | (refine WhlIf.no (by simp only [decide_eq_false_iff_not]; omega) ?_) | (refine WhlIf.yes (by simp only [decide_eq_true_eq]; omega) ?_)) | ((k_here; (with_reducible show wpAny _ _ (subscriptTail _ _ (Value.str _ _) (Value.int _ _)) _ _ _); (refine item_at (by omega) (by omega) (by omega) ?_); intro kxiE))) | (dsimp only; walk1) | fail "no step")
        (rename Fr _ _ _ _ => cF); (rename News _ _ _ _ => cN)
        exact tr_close hpc hk hv9 hvl cF cN _ _ _ (by (refine List.forall_mem_cons.mpr ⟨rfl, List.forall_mem_cons.mpr ⟨rfl, List.forall_mem_cons.mpr ⟨rfl, List.forall_mem_cons.mpr ⟨rfl, List.forall_mem_cons.mpr ⟨rfl, List.forall_mem_cons.mpr ⟨rfl, List.forall_mem_cons.mpr ⟨rfl, List.forall_mem_nil _⟩⟩⟩⟩⟩⟩⟩)) (by simp) (fun q hq => hq) ht9 G9 ho9
      | any =>
        repeat (first | (with_reducible first | (refine one_cut5 s1.gens s1.drawn s1.os ?_; intro tkC) | (refine cons_cut5 s1.gens s1.drawn s1.os ?_; intro tkC qC hC)) | (k_unfold; (try dsimp only)) | walk1 | (with_reducible first | refine CutQ.next (by assumption) ?_ | refine CutQ.ret (by assumption) ?_ | refine CutQ.brk (by assumption) ?_ | refine CutQ.cont (by assumption) ?_ | refine EndQ.ret (by assumption) ?_ | refine EndQ.next (by assumption) ?_) | ((refine Halt.out' ?_); first | (with_reducible ((show wpAny _ _ (call (Value.builtin "re.Pattern.sub") _) _ _ _); (k_here; (rename Fr _ _ _ _ => cF); (rename News _ _ _ _ => cN); k_dflt (refine sub_K (by assumption) (by first | assumption | rfl) (by rfl) (by have e : recursionLimit = 1000 := rfl; (simp only [depth_deeper]); omega) (by have e : cLine = 9900 := rfl; (simp only [units_deeper]); omega) (by assumption) cF cN (by k_mem) ?_); intro h' tk' t' F' N'; clear cF cN))) | (with_reducible ((show wpAny _ _ (eval (Expr.Lambda _ _ _ _) _) _ _ _); (k_here; (rename Fr _ _ _ _ => cF); (rename News _ _ _ _ => cN); k_dflt (refine lam_any (by assumption) cF cN hide1_none (by first | assumption | k_all) (by assumption) (by assumption) (by rfl) (by rfl) (by rfl) (by rfl) ?_); intro f' fd' h' tk' ps' hps' hne' F' N'; clear cF cN; (have hg' := gnNe_of hne'); (simp only [GnNe] at hg'); clear hne'))) | (with_reducible ((show wpAny _ _ (getMethod (Value.ref _) _ _) _ _ _); (k_here; (rename Fr _ _ _ _ => cF); k_dflt (refine method_sub (Frag.In.keeps (by assumption) cF.keep) ?_)))) | ((with_reducible show wpAny _ _ (pyIter (Value.ref _)) _ _ _); (krs_unr)) | (with_reducible ((show wpAny _ _ (call (Value.ref _) _) _ _ _); ( k_here; (rename Fr _ _ _ _ => cF); (rename News _ _ _ _ => cN); k_dflt (refine bound_K cF cN (by k_mem) (by k_upd) ?_ (Nat.le_trans (m := 100) (by (simp only [List.size_toArray]); omega) (by decide))); intro h' F' N'; clear cF cN))) | (with_reducible ((show wpAny _ _ (call (Value.ref _) _) _ _ _); ( k_here; (rename Fr _ _ _ _ => cF); (rename News _ _ _ _ => cN); k_dflt (first | refine Fn.use' (escape_plain _ _ (by assumption) _) (by k_asm) cF (by k_asm) cN (by k_asm) (by rfl) (by rfl) (by assumption) (by assumption) (by decide) trivial ?_ | refine Fn.use' (escape_dash _ _) (by k_asm) cF (by k_asm) cN (by k_asm) (by rfl) (by rfl) (by assumption) (by assumption) (by decide) trivial ?_); intro v' h' tk' F' N' K' P'; clear cF cN; (obtain ⟨t', e'⟩ := P'); subst e'))) | (with_reducible ((show _ ∧ _); ((with_reducible show AppAt _ _ ∧ _); k_dflt (refine ⟨appAt_of (by k_asm) (by k_mem), ?_⟩); (try dsimp only [List.nil_append, List.cons_append])))) | (with_reducible ((show wpAny _ _ (callWith _ (Value.ref _) _ _ _) _ _ _); (k_here; k_dflt (refine' callWith_append ?kaN ?kaM ?_; (case kaN => k_asm); (case kaM => k_mem))))) | ((with_reducible show wpAny _ _ (subscriptTail _ _ (Value.str _ _) (Value.int _ _)) _ _ _); (k_dflt (first | refine item_piece (by with_reducible assumption) 0 (by omega) (by first | rfl | with_reducible assumption) (by with_reducible assumption) ?_ | refine item_piece (by with_reducible assumption) 1 (by omega) (by first | rfl | with_reducible assumption) (by with_reducible assumption) ?_ | refine item_piece (by with_reducible assumption) 2 (by omega) (by first | rfl | with_reducible assumption) (by with_reducible assumption) ?_ | refine item_piece (by with_reducible assumption) _ (by rfl) (by with_reducible assumption) (by with_reducible assumption) ?_))) | (with_reducible ((show @ite _ _ _ _ _); ((refine ite_both (fun hc => ?_) (fun hc => ?_)); (all_goals (try simp only [beq_iff_eq, decide_eq_true_eq, Bool.not_eq_true', bne_eq_false_iff_eq, bne_iff_ne, ne_eq, one_star, one_ask, one_open, one_close, one_bang] at hc)); (all_goals (try simp only [Bool.not_not] at hc)); (all_goals (try (exfalso; first | contradiction | k_dflt (first | omega | exact (plain_ne (by assumption)).1 hc | exact (plain_ne (by assumption)).2.1 hc | exact (plain_ne (by assumption)).2.2 hc))))))) | (with_reducible ((show wpAny _ _ (getAttr (Value.ref _) _ _) _ _ _); ( k_here; (rename Fr _ _ _ _ => cF); (rename News _ _ _ _ => cN); k_dflt (refine getAttr_K (by rfl) (by have e : recursionLimit = 1000 := rfl; (simp only [depth_deeper]); omega) (by have e : cLine = 9900 := rfl; (simp only [units_deeper]); omega) cF cN (by k_mem) ?_); intro h' tkA aadd hneA F' N'; clear cF cN))) | ((with_reducible show WhlIf _ _ _); first | (refine WhlIf.no (by simp only [decide_eq_false_iff_not]; omega) ?_) | (refine WhlIf.yes (by simp only [decide_eq_true_eq]; omega) ?_)) | ((k_here; (with_reducible show wpAny _ _ (subscriptTail _ _ (Value.str _ _) (Value.int _ _)) _ _ _); (refine item_at (by omega) (by omega) (by omega) ?_); intro kxiE))) | (dsimp only; walk1) | fail "no step")
        (rename Fr _ _ _ _ => cF); (rename News _ _ _ _ => cN)
        exact tr_close hpc hk hv9 hvl cF cN _ _ _ (by (refine List.forall_mem_cons.mpr ⟨rfl, List.forall_mem_cons.mpr ⟨rfl, List.forall_mem_cons.mpr ⟨rfl, List.forall_mem_cons.mpr ⟨rfl, List.forall_mem_cons.mpr ⟨rfl, List.forall_mem_cons.mpr ⟨rfl, List.forall_mem_cons.mpr ⟨rfl, List.forall_mem_nil _⟩⟩⟩⟩⟩⟩⟩)) (by simp) (fun q hq => hq) ht9 G9 ho9
      | brk x o hx =>
        obtain ⟨h2x, h4x, hxx⟩ := brk_facts hx
        have hpl : (91 :: x ++ [93]).length = x.length + 2 := by simp
        rw [hpl] at hsu
        have hend : (91 :: x ++ [93])[x.length + 1]? = some 93 := by simp
        have hin : ∀ d, d < x.length → ∃ a, (91 :: x ++ [93])[d + 1]? = some a ∧ a ≠ 93 := fun d hd => by
          obtain ⟨a, ha, hne⟩ := hxx d hd
          refine ⟨a, ?_, hne⟩
          show (x ++ [93])[d]? = some a
          rw [List.getElem?_append_left hd, ha]
        obtain ⟨a, ha, hane⟩ := hin 0 (by omega)
        have ha' : x[0]? = some a := by
          obtain ⟨a', e1, e2⟩ := hxx 0 (by omega)
          rw [show (91 :: x ++ [93])[0 + 1]? = (x ++ [93])[0]? from rfl, List.getElem?_append_left (by omega), e1] at ha
          rw [e1, ha]
        obtain ⟨b, hb, hbne⟩ := hin 1 (by omega)
        simp only [Nat.zero_add] at ha
        obtain ⟨b0, hb0⟩ : ∃ b0 : Nat, (a = 33 ∧ b0 = 1) ∨ (a ≠ 33 ∧ b0 = 0) := by
          by_cases h : a = 33
          · exact ⟨1, .inl ⟨h, rfl⟩⟩
          · exact ⟨0, .inr ⟨h, rfl⟩⟩
        have jm : JoinMark 1 := trivial
        repeat (first | (with_reducible first | (refine one_cut5 s1.gens s1.drawn s1.os ?_; intro tkC) | (refine cons_cut5 s1.gens s1.drawn s1.os ?_; intro tkC qC hC)) | (k_unfold; (try dsimp only)) | walk1 | (with_reducible first | refine CutQ.next (by assumption) ?_ | refine CutQ.ret (by assumption) ?_ | refine CutQ.brk (by assumption) ?_ | refine CutQ.cont (by assumption) ?_ | refine EndQ.ret (by assumption) ?_ | refine EndQ.next (by assumption) ?_) | ((refine Halt.out' ?_); first | (with_reducible ((show wpAny _ _ (call (Value.builtin "re.Pattern.sub") _) _ _ _); (k_here; (rename Fr _ _ _ _ => cF); (rename News _ _ _ _ => cN); k_dflt (refine sub_K (by assumption) (by first | assumption | rfl) (by rfl) (by have e : recursionLimit = 1000 := rfl; (simp only [depth_deeper]); omega) (by have e : cLine = 9900 := rfl; (simp only [units_deeper]); omega) (by assumption) cF cN (by k_mem) ?_); intro h' tk' t' F' N'; clear cF cN))) | (with_reducible ((show wpAny _ _ (eval (Expr.Lambda _ _ _ _) _) _ _ _); (k_here; (rename Fr _ _ _ _ => cF); (rename News _ _ _ _ => cN); k_dflt (refine lam_any (by assumption) cF cN hide1_none (by first | assumption | k_all) (by assumption) (by assumption) (by rfl) (by rfl) (by rfl) (by rfl) ?_); intro f' fd' h' tk' ps' hps' hne' F' N'; clear cF cN; (have hg' := gnNe_of hne'); (simp only [GnNe] at hg'); clear hne'))) | (with_reducible ((show wpAny _ _ (getMethod (Value.ref _) _ _) _ _ _); (k_here; (rename Fr _ _ _ _ => cF); k_dflt (refine method_sub (Frag.In.keeps (by assumption) cF.keep) ?_)))) | ((with_reducible show wpAny _ _ (pyIter (Value.ref _)) _ _ _); (krs_unr)) | (with_reducible ((show wpAny _ _ (call (Value.ref _) _) _ _ _); ( k_here; (rename Fr _ _ _ _ => cF); (rename News _ _ _ _ => cN); k_dflt (refine bound_K cF cN (by k_mem) (by k_upd) ?_ (Nat.le_trans (m := 100) (by (simp only [List.size_toArray]); omega) (by decide))); intro h' F' N'; clear cF cN))) | (with_reducible ((show wpAny _ _ (call (Value.ref _) _) _ _ _); ( k_here; (rename Fr _ _ _ _ => cF); (rename News _ _ _ _ => cN); k_dflt (first | refine Fn.use' (escape_plain _ _ (by assumption) _) (by k_asm) cF (by k_asm) cN (by k_asm) (by rfl) (by rfl) (by assumption) (by assumption) (by decide) trivial ?_ | refine Fn.use' (escape_dash _ _) (by k_asm) cF (by k_asm) cN (by k_asm) (by rfl) (by rfl) (by assumption) (by assumption) (by decide) trivial ?_); intro v' h' tk' F' N' K' P'; clear cF cN; (obtain ⟨t', e'⟩ := P'); subst e'))) | (with_reducible ((show _ ∧ _); ((with_reducible show AppAt _ _ ∧ _); k_dflt (refine ⟨appAt_of (by k_asm) (by k_mem), ?_⟩); (try dsimp only [List.nil_append, List.cons_append])))) | (with_reducible ((show wpAny _ _ (callWith _ (Value.ref _) _ _ _) _ _ _); (k_here; k_dflt (refine' callWith_append ?kaN ?kaM ?_; (case kaN => k_asm); (case kaM => k_mem))))) | ((with_reducible show wpAny _ _ (subscriptTail _ _ (Value.str _ _) (Value.int _ _)) _ _ _); (k_dflt (first | refine item_piece (by with_reducible assumption) 0 (by omega) (by first | rfl | with_reducible assumption) (by with_reducible assumption) ?_ | refine item_piece (by with_reducible assumption) 1 (by omega) (by first | rfl | with_reducible assumption) (by with_reducible assumption) ?_ | refine item_piece (by with_reducible assumption) 2 (by omega) (by first | rfl | with_reducible assumption) (by with_reducible assumption) ?_ | refine item_piece (by with_reducible assumption) _ (by rfl) (by with_reducible assumption) (by with_reducible assumption) ?_))) | (with_reducible ((show @ite _ _ _ _ _); ((refine ite_both (fun hc => ?_) (fun hc => ?_)); (all_goals (try simp only [beq_iff_eq, decide_eq_true_eq, Bool.not_eq_true', bne_eq_false_iff_eq, bne_iff_ne, ne_eq, one_star, one_ask, one_open, one_close, one_bang] at hc)); (all_goals (try simp only [Bool.not_not] at hc)); (all_goals (try (exfalso; first | contradiction | k_dflt (first | omega | exact (plain_ne (by assumption)).1 hc | exact (plain_ne (by assumption)).2.1 hc | exact (plain_ne (by assumption)).2.2 hc))))))) | (with_reducible ((show wpAny _ _ (getAttr (Value.ref _) _ _) _ _ _); ( k_here; (rename Fr _ _ _ _ => cF); (rename News _ _ _ _ => cN); k_dflt (refine getAttr_K (by rfl) (by have e : recursionLimit = 1000 := rfl; (simp only [depth_deeper]); omega) (by have e : cLine = 9900 := rfl; (simp only [units_deeper]); omega) cF cN (by k_mem) ?_); intro h' tkA aadd hneA F' N'; clear cF cN))) | ((with_reducible show WhlIf _ _ _); first | (refine WhlIf.no (by simp only [decide_eq_false_iff_not]; omega) ?_) | (refine WhlIf.yes (by simp only [decide_eq_true_eq]; omega) ?_)) | ((k_here; (with_reducible show wpAny _ _ (subscriptTail _ _ (Value.str _ _) (Value.int _ _)) _ _ _); (refine item_at (by omega) (by omega) (by omega) ?_); intro kxiE))) | (dsimp only; walk1) | fail "no step")
        refine Halt.out' ?_
        rename JoinMark 1 => jm
        clear jm
        refine wpAny_mono (Q := fun fl s' => Shut (fl = .next ∧ ∃ f h tk tj ti jv, jv = (offs L k : Int) + ((1 + b0 : Nat) : Int) ∧ s' = { s1 with heap := h, toks := tk } ∧ Fr (hide1 s.heap) L' h (trJ f jv ((offs L k : Int) + 1) (wholeOf L).length tj ti (tkI + 1 + 1) aadd lres st (wholeOf L) tp tq) ∧ News (hide1 s.heap) L' h [(85, tabObj ps), (aadd, boundObj lres), (lres, listOf vs.toArray k)])) ?J1 ?_ (fun _ _ e => e)
        case J1 =>
          rcases hb0 with ⟨hba, hb⟩ | ⟨hba, hb⟩
          · subst hb
            repeat (first | (with_reducible first | (refine one_cut5 s1.gens s1.drawn s1.os ?_; intro tkC) | (refine cons_cut5 s1.gens s1.drawn s1.os ?_; intro tkC qC hC)) | (k_unfold; (try dsimp only)) | walk1 | (with_reducible first | refine CutQ.next (by assumption) ?_ | refine CutQ.ret (by assumption) ?_ | refine CutQ.brk (by assumption) ?_ | refine CutQ.cont (by assumption) ?_ | refine EndQ.ret (by assumption) ?_ | refine EndQ.next (by assumption) ?_) | ((refine Halt.out' ?_); first | (with_reducible ((show wpAny _ _ (call (Value.builtin "re.Pattern.sub") _) _ _ _); (k_here; (rename Fr _ _ _ _ => cF); (rename News _ _ _ _ => cN); k_dflt (refine sub_K (by assumption) (by first | assumption | rfl) (by rfl) (by have e : recursionLimit = 1000 := rfl; (simp only [depth_deeper]); omega) (by have e : cLine = 9900 := rfl; (simp only [units_deeper]); omega) (by assumption) cF cN (by k_mem) ?_); intro h' tk' t' F' N'; clear cF cN))) | (with_reducible ((show wpAny _ _ (eval (Expr.Lambda _ _ _ _) _) _ _ _); (k_here; (rename Fr _ _ _ _ => cF); (rename News _ _ _ _ => cN); k_dflt (refine lam_any (by assumption) cF cN hide1_none (by first | assumption | k_all) (by assumption) (by assumption) (by rfl) (by rfl) (by rfl) (by rfl) ?_); intro f' fd' h' tk' ps' hps' hne' F' N'; clear cF cN; (have hg' := gnNe_of hne'); (simp only [GnNe] at hg'); clear hne'))) | (with_reducible ((show wpAny _ _ (getMethod (Value.ref _) _ _) _ _ _); (k_here; (rename Fr _ _ _ _ => cF); k_dflt (refine method_sub (Frag.In.keeps (by assumption) cF.keep) ?_)))) | ((with_reducible show wpAny _ _ (pyIter (Value.ref _)) _ _ _); (krs_unr)) | (with_reducible ((show wpAny _ _ (call (Value.ref _) _) _ _ _); ( k_here; (rename Fr _ _ _ _ => cF); (rename News _ _ _ _ => cN); k_dflt (refine bound_K cF cN (by k_mem) (by k_upd) ?_ (Nat.le_trans (m := 100) (by (simp only [List.size_toArray]); omega) (by decide))); intro h' F' N'; clear cF cN))) | (with_reducible ((show wpAny _ _ (call (Value.ref _) _) _ _ _); ( k_here; (rename Fr _ _ _ _ => cF); (rename News _ _ _ _ => cN); k_dflt (first | refine Fn.use' (escape_plain _ _ (by assumption) _) (by k_asm) cF (by k_asm) cN (by k_asm) (by rfl) (by rfl) (by assumption) (by assumption) (by decide) trivial ?_ | refine Fn.use' (escape_dash _ _) (by k_asm) cF (by k_asm) cN (by k_asm) (by rfl) (by rfl) (by assumption) (by assumption) (by decide) trivial ?_); intro v' h' tk' F' N' K' P'; clear cF cN; (obtain ⟨t', e'⟩ := P'); subst e'))) | (with_reducible ((show _ ∧ _); ((with_reducible show AppAt _ _ ∧ _); k_dflt (refine ⟨appAt_of (by k_asm) (by k_mem), ?_⟩); (try dsimp only [List.nil_append, List.cons_append])))) | (with_reducible ((show wpAny _ _ (callWith _ (Value.ref _) _ _ _) _ _ _); (k_here; k_dflt (refine' callWith_append ?kaN ?kaM ?_; (case kaN => k_asm); (case kaM => k_mem))))) | ((with_reducible show wpAny _ _ (subscriptTail _ _ (Value.str _ _) (Value.int _ _)) _ _ _); (k_dflt (first | refine item_piece (by with_reducible assumption) 0 (by omega) (by first | rfl | with_reducible assumption) (by with_reducible assumption) ?_ | refine item_piece (by with_reducible assumption) 1 (by omega) (by first | rfl | with_reducible assumption) (by with_reducible assumption) ?_ | refine item_piece (by with_reducible assumption) 2 (by omega) (by first | rfl | with_reducible assumption) (by with_reducible assumption) ?_ | refine item_piece (by with_reducible assumption) _ (by rfl) (by with_reducible assumption) (by with_reducible assumption) ?_))) | (with_reducible ((show @ite _ _ _ _ _); ((refine ite_both (fun hc => ?_) (fun hc => ?_)); (all_goals (try simp only [beq_iff_eq, decide_eq_true_eq, Bool.not_eq_true', bne_eq_false_iff_eq, bne_iff_ne, ne_eq, one_star, one_ask, one_open, one_close, one_bang] at hc)); (all_goals (try simp only [Bool.not_not] at hc)); (all_goals (try (exfalso; first | contradiction | k_dflt (first | omega | exact (plain_ne (by assumption)).1 hc | exact (plain_ne (by assumption)).2.1 hc | exact (plain_ne (by assumption)).2.2 hc))))))) | (with_reducible ((show wpAny _ _ (getAttr (Value.ref _) _ _) _ _ _); ( k_here; (rename Fr _ _ _ _ => cF); (rename News _ _ _ _ => cN); k_dflt (refine getAttr_K (by rfl) (by have e : recursionLimit = 1000 := rfl; (simp only [depth_deeper]); omega) (by have e : cLine = 9900 := rfl; (simp only [units_deeper]); omega) cF cN (by k_mem) ?_); intro h' tkA aadd hneA F' N'; clear cF cN))) | ((with_reducible show WhlIf _ _ _); first | (refine WhlIf.no (by simp only [decide_eq_false_iff_not]; omega) ?_) | (refine WhlIf.yes (by simp only [decide_eq_true_eq]; omega) ?_)) | ((k_here; (with_reducible show wpAny _ _ (subscriptTail _ _ (Value.str _ _) (Value.int _ _)) _ _ _); (refine item_at (by omega) (by omega) (by omega) ?_); intro kxiE))) | (dsimp only; walk1) | fail "no step")
            (rename Fr _ _ _ _ => cF); (rename News _ _ _ _ => cN)
            (try dsimp only)
            exact Shut.mk ⟨by trivial, _, _, _, _, _, _, jz2 _, rfl, fr_trJ cF (by (refine List.forall_mem_cons.mpr ⟨rfl, ?_⟩; (refine List.forall_mem_cons.mpr ⟨rfl, List.forall_mem_cons.mpr ⟨rfl, List.forall_mem_cons.mpr ⟨rfl, List.forall_mem_cons.mpr ⟨rfl, List.forall_mem_cons.mpr ⟨rfl, List.forall_mem_cons.mpr ⟨rfl, List.forall_mem_cons.mpr ⟨rfl, List.forall_mem_nil _⟩⟩⟩⟩⟩⟩⟩))), cN⟩
          · subst hb
            repeat (first | (with_reducible first | (refine one_cut5 s1.gens s1.drawn s1.os ?_; intro tkC) | (refine cons_cut5 s1.gens s1.drawn s1.os ?_; intro tkC qC hC)) | (k_unfold; (try dsimp only)) | walk1 | (with_reducible first | refine CutQ.next (by assumption) ?_ | refine CutQ.ret (by assumption) ?_ | refine CutQ.brk (by assumption) ?_ | refine CutQ.cont (by assumption) ?_ | refine EndQ.ret (by assumption) ?_ | refine EndQ.next (by assumption) ?_) | ((refine Halt.out' ?_); first | (with_reducible ((show wpAny _ _ (call (Value.builtin "re.Pattern.sub") _) _ _ _); (k_here; (rename Fr _ _ _ _ => cF); (rename News _ _ _ _ => cN); k_dflt (refine sub_K (by assumption) (by first | assumption | rfl) (by rfl) (by have e : recursionLimit = 1000 := rfl; (simp only [depth_deeper]); omega) (by have e : cLine = 9900 := rfl; (simp only [units_deeper]); omega) (by assumption) cF cN (by k_mem) ?_); intro h' tk' t' F' N'; clear cF cN))) | (with_reducible ((show wpAny _ _ (eval (Expr.Lambda _ _ _ _) _) _ _ _); (k_here; (rename Fr _ _ _ _ => cF); (rename News _ _ _ _ => cN); k_dflt (refine lam_any (by assumption) cF cN hide1_none (by first | assumption | k_all) (by assumption) (by assumption) (by rfl) (by rfl) (by rfl) (by rfl) ?_); intro f' fd' h' tk' ps' hps' hne' F' N'; clear cF cN; (have hg' := gnNe_of hne'); (simp only [GnNe] at hg'); clear hne'))) | (with_reducible ((show wpAny _ _ (getMethod (Value.ref _) _ _) _ _ _); (k_here; (rename Fr _ _ _ _ => cF); k_dflt (refine method_sub (Frag.In.keeps (by assumption) cF.keep) ?_)))) | ((with_reducible show wpAny _ _ (pyIter (Value.ref _)) _ _ _); (krs_unr)) | (with_reducible ((show wpAny _ _ (call (Value.ref _) _) _ _ _); ( k_here; (rename Fr _ _ _ _ => cF); (rename News _ _ _ _ => cN); k_dflt (refine bound_K cF cN (by k_mem) (by k_upd) ?_ (Nat.le_trans (m := 100) (by (simp only [List.size_toArray]); omega) (by decide))); intro h' F' N'; clear cF cN))) | (with_reducible ((show wpAny _ _ (call (Value.ref _) _) _ _ _); ( k_here; (rename Fr _ _ _ _ => cF); (rename News _ _ _ _ => cN); k_dflt (first | refine Fn.use' (escape_plain _ _ (by assumption) _) (by k_asm) cF (by k_asm) cN (by k_asm) (by rfl) (by rfl) (by assumption) (by assumption) (by decide) trivial ?_ | refine Fn.use' (escape_dash _ _) (by k_asm) cF (by k_asm) cN (by k_asm) (by rfl) (by rfl) (by assumption) (by assumption) (by decide) trivial ?_); intro v' h' tk' F' N' K' P'; clear cF cN; (obtain ⟨t', e'⟩ := P'); subst e'))) | (with_reducible ((show _ ∧ _); ((with_reducible show AppAt _ _ ∧ _); k_dflt (refine ⟨appAt_of (by k_asm) (by k_mem), ?_⟩); (try dsimp only [List.nil_append, List.cons_append])))) | (with_reducible ((show wpAny _ _ (callWith _ (Value.ref _) _ _ _) _ _ _); (k_here; k_dflt (refine' callWith_append ?kaN ?kaM ?_; (case kaN => k_asm); (case kaM => k_mem))))) | ((with_reducible show wpAny _ _ (subscriptTail _ _ (Value.str _ _) (Value.int _ _)) _ _ _); (k_dflt (first | refine item_piece (by with_reducible assumption) 0 (by omega) (by first | rfl | with_reducible assumption) (by with_reducible assumption) ?_ | refine item_piece (by with_reducible assumption) 1 (by omega) (by first | rfl | with_reducible assumption) (by with_reducible assumption) ?_ | refine item_piece (by with_reducible assumption) 2 (by omega) (by first | rfl | with_reducible assumption) (by with_reducible assumption) ?_ | refine item_piece (by with_reducible assumption) _ (by rfl) (by with_reducible assumption) (by with_reducible assumption) ?_))) | (with_reducible ((show @ite _ _ _ _ _); ((refine ite_both (fun hc => ?_) (fun hc => ?_)); (all_goals (try simp only [beq_iff_eq, decide_eq_true_eq, Bool.not_eq_true', bne_eq_false_iff_eq, bne_iff_ne, ne_eq, one_star, one_ask, one_open, one_close, one_bang] at hc)); (all_goals (try simp only [Bool.not_not] at hc)); (all_goals (try (exfalso; first | contradiction | k_dflt (first | omega | exact (plain_ne (by assumption)).1 hc | exact (plain_ne (by assumption)).2.1 hc | exact (plain_ne (by assumption)).2.2 hc))))))) | (with_reducible ((show wpAny _ _ (getAttr (Value.ref _) _ _) _ _ _); ( k_here; (rename Fr _ _ _ _ => cF); (rename News _ _ _ _ => cN); k_dflt (refine getAttr_K (by rfl) (by have e : recursionLimit = 1000 := rfl; (simp only [depth_deeper]); omega) (by have e : cLine = 9900 := rfl; (simp only [units_deeper]); omega) cF cN (by k_mem) ?_); intro h' tkA aadd hneA F' N'; clear cF cN))) | ((with_reducible show WhlIf _ _ _); first | (refine WhlIf.no (by simp only [decide_eq_false_iff_not]; omega) ?_) | (refine WhlIf.yes (by simp only [decide_eq_true_eq]; omega) ?_)) | ((k_here; (with_reducible show wpAny _ _ (subscriptTail _ _ (Value.str _ _) (Value.int _ _)) _ _ _); (refine item_at (by omega) (by omega) (by omega) ?_); intro kxiE))) | (dsimp only; walk1) | fail "no step")
            (rename Fr _ _ _ _ => cF); (rename News _ _ _ _ => cN)
            (try dsimp only)
            exact Shut.mk ⟨by trivial, _, _, _, _, _, _, jz1 _, rfl, fr_trJ cF (by (refine List.forall_mem_cons.mpr ⟨rfl, ?_⟩; (refine List.forall_mem_cons.mpr ⟨rfl, List.forall_mem_cons.mpr ⟨rfl, List.forall_mem_cons.mpr ⟨rfl, List.forall_mem_cons.mpr ⟨rfl, List.forall_mem_cons.mpr ⟨rfl, List.forall_mem_cons.mpr ⟨rfl, List.forall_mem_cons.mpr ⟨rfl, List.forall_mem_nil _⟩⟩⟩⟩⟩⟩⟩))), cN⟩
        rintro _ _ ⟨rfl, f2, h2, tk2, tj2, ti2, jv, hjv, rfl, F2, N2⟩
        subst hjv
        (try clear F9 N9)
        unfold trJ at F2
        (try dsimp only)
        obtain ⟨c0, hc0, hc0n⟩ : ∃ c0, (91 :: x ++ [93])[1 + b0]? = some c0 ∧ c0 ≠ 93 := by
          rcases hb0 with ⟨hba, hb9⟩ | ⟨hba, hb9⟩
          · subst hb9; exact ⟨b, hb, hbne⟩
          · subst hb9; exact ⟨a, ha, hane⟩
        have hb01 : b0 ≤ 1 := by omega
        clear hb
        repeat (first | (with_reducible first | (refine one_cut5 s1.gens s1.drawn s1.os ?_; intro tkC) | (refine cons_cut5 s1.gens s1.drawn s1.os ?_; intro tkC qC hC)) | (k_unfold; (try dsimp only)) | walk1 | (with_reducible first | refine CutQ.next (by assumption) ?_ | refine CutQ.ret (by assumption) ?_ | refine CutQ.brk (by assumption) ?_ | refine CutQ.cont (by assumption) ?_ | refine EndQ.ret (by assumption) ?_ | refine EndQ.next (by assumption) ?_) | ((refine Halt.out' ?_); first | (with_reducible ((show wpAny _ _ (call (Value.builtin "re.Pattern.sub") _) _ _ _); (k_here; (rename Fr _ _ _ _ => cF); (rename News _ _ _ _ => cN); k_dflt (refine sub_K (by assumption) (by first | assumption | rfl) (by rfl) (by have e : recursionLimit = 1000 := rfl; (simp only [depth_deeper]); omega) (by have e : cLine = 9900 := rfl; (simp only [units_deeper]); omega) (by assumption) cF cN (by k_mem) ?_); intro h' tk' t' F' N'; clear cF cN))) | (with_reducible ((show wpAny _ _ (eval (Expr.Lambda _ _ _ _) _) _ _ _); (k_here; (rename Fr _ _ _ _ => cF); (rename News _ _ _ _ => cN); k_dflt (refine lam_any (by assumption) cF cN hide1_none (by first | assumption | k_all) (by assumption) (by assumption) (by rfl) (by rfl) (by rfl) (by rfl) ?_); intro f' fd' h' tk' ps' hps' hne' F' N'; clear cF cN; (have hg' := gnNe_of hne'); (simp only [GnNe] at hg'); clear hne'))) | (with_reducible ((show wpAny _ _ (getMethod (Value.ref _) _ _) _ _ _); (k_here; (rename Fr _ _ _ _ => cF); k_dflt (refine method_sub (Frag.In.keeps (by assumption) cF.keep) ?_)))) | ((with_reducible show wpAny _ _ (pyIter (Value.ref _)) _ _ _); (krs_unr)) | (with_reducible ((show wpAny _ _ (call (Value.ref _) _) _ _ _); ( k_here; (rename Fr _ _ _ _ => cF); (rename News _ _ _ _ => cN); k_dflt (refine bound_K cF cN (by k_mem) (by k_upd) ?_ (Nat.le_trans (m := 100) (by (simp only [List.size_toArray]); omega) (by decide))); intro h' F' N'; clear cF cN))) | (with_reducible ((show wpAny _ _ (call (Value.ref _) _) _ _ _); ( k_here; (rename Fr _ _ _ _ => cF); (rename News _ _ _ _ => cN); k_dflt (first | refine Fn.use' (escape_plain _ _ (by assumption) _) (by k_asm) cF (by k_asm) cN (by k_asm) (by rfl) (by rfl) (by assumption) (by assumption) (by decide) trivial ?_ | refine Fn.use' (escape_dash _ _) (by k_asm) cF (by k_asm) cN (by k_asm) (by rfl) (by rfl) (by assumption) (by assumption) (by decide) trivial ?_); intro v' h' tk' F' N' K' P'; clear cF cN; (obtain ⟨t', e'⟩ := P'); subst e'))) | (with_reducible ((show _ ∧ _); ((with_reducible show AppAt _ _ ∧ _); k_dflt (refine ⟨appAt_of (by k_asm) (by k_mem), ?_⟩); (try dsimp only [List.nil_append, List.cons_append])))) | (with_reducible ((show wpAny _ _ (callWith _ (Value.ref _) _ _ _) _ _ _); (k_here; k_dflt (refine' callWith_append ?kaN ?kaM ?_; (case kaN => k_asm); (case kaM => k_mem))))) | ((with_reducible show wpAny _ _ (subscriptTail _ _ (Value.str _ _) (Value.int _ _)) _ _ _); (k_dflt (first | refine item_piece (by with_reducible assumption) 0 (by omega) (by first | rfl | with_reducible assumption) (by with_reducible assumption) ?_ | refine item_piece (by with_reducible assumption) 1 (by omega) (by first | rfl | with_reducible assumption) (by with_reducible assumption) ?_ | refine item_piece (by with_reducible assumption) 2 (by omega) (by first | rfl | with_reducible assumption) (by with_reducible assumption) ?_ | refine item_piece (by with_reducible assumption) _ (by rfl) (by with_reducible assumption) (by with_reducible assumption) ?_))) | (with_reducible ((show @ite _ _ _ _ _); ((refine ite_both (fun hc => ?_) (fun hc => ?_)); (all_goals (try simp only [beq_iff_eq, decide_eq_true_eq, Bool.not_eq_true', bne_eq_false_iff_eq, bne_iff_ne, ne_eq, one_star, one_ask, one_open, one_close, one_bang] at hc)); (all_goals (try simp only [Bool.not_not] at hc)); (all_goals (try (exfalso; first | contradiction | k_dflt (first | omega | exact (plain_ne (by assumption)).1 hc | exact (plain_ne (by assumption)).2.1 hc | exact (plain_ne (by assumption)).2.2 hc))))))) | (with_reducible ((show wpAny _ _ (getAttr (Value.ref _) _ _) _ _ _); ( k_here; (rename Fr _ _ _ _ => cF); (rename News _ _ _ _ => cN); k_dflt (refine getAttr_K (by rfl) (by have e : recursionLimit = 1000 := rfl; (simp only [depth_deeper]); omega) (by have e : cLine = 9900 := rfl; (simp only [units_deeper]); omega) cF cN (by k_mem) ?_); intro h' tkA aadd hneA F' N'; clear cF cN))) | ((with_reducible show WhlIf _ _ _); first | (refine WhlIf.no (by simp only [decide_eq_false_iff_not]; omega) ?_) | (refine WhlIf.yes (by simp only [decide_eq_true_eq]; omega) ?_)) | ((k_here; (with_reducible show wpAny _ _ (subscriptTail _ _ (Value.str _ _) (Value.int _ _)) _ _ _); (refine item_at (by omega) (by omega) (by omega) ?_); intro kxiE))) | (dsimp only; walk1) | fail "no step")
        refine Halt.out' ?_
        (rename Fr _ _ _ _ => F2); (rename News _ _ _ _ => N2)
        refine ksw_while (σ := Nat × Tok) (fun _ => [(85, tabObj ps), (aadd, boundObj lres), (lres, listOf vs.toArray k)]) (fun c => [(Str.ofString "j", .int ((offs L k : Int) + (c.1 : Int)) c.2)]) (fun _ => True) [] (fun c => 1 ≤ c.1 ∧ c.1 ≤ x.length + 1) (fun c => x.length + 1 - c.1) (1 + b0, tj2) F2 N2 trivial ?_ ⟨by omega, by omega⟩ ?_
        · intro q hq
          rw [List.mem_singleton.mp hq]
          rfl
        · rintro ⟨d, td⟩ u2 h9 tk9 - ⟨hd1, hd2⟩ F9' N9'
          clear F2 N2 hc0 hc0n
          dsimp only at hd1 hd2 F9' N9'
          by_cases hde : d = x.length + 1
          · rw [← hde] at hend
            repeat (first | (with_reducible first | (refine one_cut5 s1.gens s1.drawn s1.os ?_; intro tkC) | (refine cons_cut5 s1.gens s1.drawn s1.os ?_; intro tkC qC hC)) | (k_unfold; (try dsimp only)) | walk1 | (with_reducible first | refine CutQ.next (by assumption) ?_ | refine CutQ.ret (by assumption) ?_ | refine CutQ.brk (by assumption) ?_ | refine CutQ.cont (by assumption) ?_ | refine EndQ.ret (by assumption) ?_ | refine EndQ.next (by assumption) ?_) | ((refine Halt.out' ?_); first | (with_reducible ((show wpAny _ _ (call (Value.builtin "re.Pattern.sub") _) _ _ _); (k_here; (rename Fr _ _ _ _ => cF); (rename News _ _ _ _ => cN); k_dflt (refine sub_K (by assumption) (by first | assumption | rfl) (by rfl) (by have e : recursionLimit = 1000 := rfl; (simp only [depth_deeper]); omega) (by have e : cLine = 9900 := rfl; (simp only [units_deeper]); omega) (by assumption) cF cN (by k_mem) ?_); intro h' tk' t' F' N'; clear cF cN))) | (with_reducible ((show wpAny _ _ (eval (Expr.Lambda _ _ _ _) _) _ _ _); (k_here; (rename Fr _ _ _ _ => cF); (rename News _ _ _ _ => cN); k_dflt (refine lam_any (by assumption) cF cN hide1_none (by first | assumption | k_all) (by assumption) (by assumption) (by rfl) (by rfl) (by rfl) (by rfl) ?_); intro f' fd' h' tk' ps' hps' hne' F' N'; clear cF cN; (have hg' := gnNe_of hne'); (simp only [GnNe] at hg'); clear hne'))) | (with_reducible ((show wpAny _ _ (getMethod (Value.ref _) _ _) _ _ _); (k_here; (rename Fr _ _ _ _ => cF); k_dflt (refine method_sub (Frag.In.keeps (by assumption) cF.keep) ?_)))) | ((with_reducible show wpAny _ _ (pyIter (Value.ref _)) _ _ _); (krs_unr)) | (with_reducible ((show wpAny _ _ (call (Value.ref _) _) _ _ _); ( k_here; (rename Fr _ _ _ _ => cF); (rename News _ _ _ _ => cN); k_dflt (refine bound_K cF cN (by k_mem) (by k_upd) ?_ (Nat.le_trans (m := 100) (by (simp only [List.size_toArray]); omega) (by decide))); intro h' F' N'; clear cF cN))) | (with_reducible ((show wpAny _ _ (call (Value.ref _) _) _ _ _); ( k_here; (rename Fr _ _ _ _ => cF); (rename News _ _ _ _ => cN); k_dflt (first | refine Fn.use' (escape_plain _ _ (by assumption) _) (by k_asm) cF (by k_asm) cN (by k_asm) (by rfl) (by rfl) (by assumption) (by assumption) (by decide) trivial ?_ | refine Fn.use' (escape_dash _ _) (by k_asm) cF (by k_asm) cN (by k_asm) (by rfl) (by rfl) (by assumption) (by assumption) (by decide) trivial ?_); intro v' h' tk' F' N' K' P'; clear cF cN; (obtain ⟨t', e'⟩ := P'); subst e'))) | (with_reducible ((show _ ∧ _); ((with_reducible show AppAt _ _ ∧ _); k_dflt (refine ⟨appAt_of (by k_asm) (by k_mem), ?_⟩); (try dsimp only [List.nil_append, List.cons_append])))) | (with_reducible ((show wpAny _ _ (callWith _ (Value.ref _) _ _ _) _ _ _); (k_here; k_dflt (refine' callWith_append ?kaN ?kaM ?_; (case kaN => k_asm); (case kaM => k_mem))))) | ((with_reducible show wpAny _ _ (subscriptTail _ _ (Value.str _ _) (Value.int _ _)) _ _ _); (k_dflt (first | refine item_piece (by with_reducible assumption) 0 (by omega) (by first | rfl | with_reducible assumption) (by with_reducible assumption) ?_ | refine item_piece (by with_reducible assumption) 1 (by omega) (by first | rfl | with_reducible assumption) (by with_reducible assumption) ?_ | refine item_piece (by with_reducible assumption) 2 (by omega) (by first | rfl | with_reducible assumption) (by with_reducible assumption) ?_ | refine item_piece (by with_reducible assumption) _ (by rfl) (by with_reducible assumption) (by with_reducible assumption) ?_))) | (with_reducible ((show @ite _ _ _ _ _); ((refine ite_both (fun hc => ?_) (fun hc => ?_)); (all_goals (try simp only [beq_iff_eq, decide_eq_true_eq, Bool.not_eq_true', bne_eq_false_iff_eq, bne_iff_ne, ne_eq, one_star, one_ask, one_open, one_close, one_bang] at hc)); (all_goals (try simp only [Bool.not_not] at hc)); (all_goals (try (exfalso; first | contradiction | k_dflt (first | omega | exact (plain_ne (by assumption)).1 hc | exact (plain_ne (by assumption)).2.1 hc | exact (plain_ne (by assumption)).2.2 hc))))))) | (with_reducible ((show wpAny _ _ (getAttr (Value.ref _) _ _) _ _ _); ( k_here; (rename Fr _ _ _ _ => cF); (rename News _ _ _ _ => cN); k_dflt (refine getAttr_K (by rfl) (by have e : recursionLimit = 1000 := rfl; (simp only [depth_deeper]); omega) (by have e : cLine = 9900 := rfl; (simp only [units_deeper]); omega) cF cN (by k_mem) ?_); intro h' tkA aadd hneA F' N'; clear cF cN))) | ((with_reducible show WhlIf _ _ _); first | (refine WhlIf.no (by simp only [decide_eq_false_iff_not]; omega) ?_) | (refine WhlIf.yes (by simp only [decide_eq_true_eq]; omega) ?_)) | ((k_here; (with_reducible show wpAny _ _ (subscriptTail _ _ (Value.str _ _) (Value.int _ _)) _ _ _); (refine item_at (by omega) (by omega) (by omega) ?_); intro kxiE))) | (dsimp only; walk1) | fail "no step")
            refine Halt.out' ?_
            have hsl : Txt.slice (wholeOf L) (some ((offs L k : Int) + 1)) (some ((offs L k : Int) + (d : Int))) = ⟨x.toArray⟩ := by
              rw [hat.slice (a := 1) (b := d) (by omega) rfl (by omega) (by rw [hpl]; omega) (by omega), hde]
              show (⟨((x ++ [93]).take (x.length + 1 - 1)).toArray⟩ : Str) = _
              rw [Nat.add_sub_cancel, List.take_left]
            have hxl : (⟨x.toArray⟩ : Str).length ≤ 4 := by
              show x.toArray.size ≤ 4
              rw [List.size_toArray]; exact h4x
            (rename Fr _ _ _ _ => F3); (rename News _ _ _ _ => N3)
            with_reducible refine slice_is (s := ⟨_, _, _, _, _⟩) F3 N3 hsl hp ?_
            intro h3 t3 k3 F3' N3'
            clear F3 N3
            have jm : JoinMark 2 := trivial
            repeat (first | (with_reducible first | (refine one_cut5 s1.gens s1.drawn s1.os ?_; intro tkC) | (refine cons_cut5 s1.gens s1.drawn s1.os ?_; intro tkC qC hC)) | (k_unfold; (try dsimp only)) | walk1 | (with_reducible first | refine CutQ.next (by assumption) ?_ | refine CutQ.ret (by assumption) ?_ | refine CutQ.brk (by assumption) ?_ | refine CutQ.cont (by assumption) ?_ | refine EndQ.ret (by assumption) ?_ | refine EndQ.next (by assumption) ?_) | ((refine Halt.out' ?_); first | (with_reducible ((show wpAny _ _ (call (Value.builtin "re.Pattern.sub") _) _ _ _); (k_here; (rename Fr _ _ _ _ => cF); (rename News _ _ _ _ => cN); k_dflt (refine sub_K (by assumption) (by first | assumption | rfl) (by rfl) (by have e : recursionLimit = 1000 := rfl; (simp only [depth_deeper]); omega) (by have e : cLine = 9900 := rfl; (simp only [units_deeper]); omega) (by assumption) cF cN (by k_mem) ?_); intro h' tk' t' F' N'; clear cF cN))) | (with_reducible ((show wpAny _ _ (eval (Expr.Lambda _ _ _ _) _) _ _ _); (k_here; (rename Fr _ _ _ _ => cF); (rename News _ _ _ _ => cN); k_dflt (refine lam_any (by assumption) cF cN hide1_none (by first | assumption | k_all) (by assumption) (by assumption) (by rfl) (by rfl) (by rfl) (by rfl) ?_); intro f' fd' h' tk' ps' hps' hne' F' N'; clear cF cN; (have hg' := gnNe_of hne'); (simp only [GnNe] at hg'); clear hne'))) | (with_reducible ((show wpAny _ _ (getMethod (Value.ref _) _ _) _ _ _); (k_here; (rename Fr _ _ _ _ => cF); k_dflt (refine method_sub (Frag.In.keeps (by assumption) cF.keep) ?_)))) | ((with_reducible show wpAny _ _ (pyIter (Value.ref _)) _ _ _); (krs_unr)) | (with_reducible ((show wpAny _ _ (call (Value.ref _) _) _ _ _); ( k_here; (rename Fr _ _ _ _ => cF); (rename News _ _ _ _ => cN); k_dflt (refine bound_K cF cN (by k_mem) (by k_upd) ?_ (Nat.le_trans (m := 100) (by (simp only [List.size_toArray]); omega) (by decide))); intro h' F' N'; clear cF cN))) | (with_reducible ((show wpAny _ _ (call (Value.ref _) _) _ _ _); ( k_here; (rename Fr _ _ _ _ => cF); (rename News _ _ _ _ => cN); k_dflt (first | refine Fn.use' (escape_plain _ _ (by assumption) _) (by k_asm) cF (by k_asm) cN (by k_asm) (by rfl) (by rfl) (by assumption) (by assumption) (by decide) trivial ?_ | refine Fn.use' (escape_dash _ _) (by k_asm) cF (by k_asm) cN (by k_asm) (by rfl) (by rfl) (by assumption) (by assumption) (by decide) trivial ?_); intro v' h' tk' F' N' K' P'; clear cF cN; (obtain ⟨t', e'⟩ := P'); subst e'))) | (with_reducible ((show _ ∧ _); ((with_reducible show AppAt _ _ ∧ _); k_dflt (refine ⟨appAt_of (by k_asm) (by k_mem), ?_⟩); (try dsimp only [List.nil_append, List.cons_append])))) | (with_reducible ((show wpAny _ _ (callWith _ (Value.ref _) _ _ _) _ _ _); (k_here; k_dflt (refine' callWith_append ?kaN ?kaM ?_; (case kaN => k_asm); (case kaM => k_mem))))) | ((with_reducible show wpAny _ _ (subscriptTail _ _ (Value.str _ _) (Value.int _ _)) _ _ _); (k_dflt (first | refine item_piece (by with_reducible assumption) 0 (by omega) (by first | rfl | with_reducible assumption) (by with_reducible assumption) ?_ | refine item_piece (by with_reducible assumption) 1 (by omega) (by first | rfl | with_reducible assumption) (by with_reducible assumption) ?_ | refine item_piece (by with_reducible assumption) 2 (by omega) (by first | rfl | with_reducible assumption) (by with_reducible assumption) ?_ | refine item_piece (by with_reducible assumption) _ (by rfl) (by with_reducible assumption) (by with_reducible assumption) ?_))) | (with_reducible ((show @ite _ _ _ _ _); ((refine ite_both (fun hc => ?_) (fun hc => ?_)); (all_goals (try simp only [beq_iff_eq, decide_eq_true_eq, Bool.not_eq_true', bne_eq_false_iff_eq, bne_iff_ne, ne_eq, one_star, one_ask, one_open, one_close, one_bang] at hc)); (all_goals (try simp only [Bool.not_not] at hc)); (all_goals (try (exfalso; first | contradiction | k_dflt (first | omega | exact (plain_ne (by assumption)).1 hc | exact (plain_ne (by assumption)).2.1 hc | exact (plain_ne (by assumption)).2.2 hc))))))) | (with_reducible ((show wpAny _ _ (getAttr (Value.ref _) _ _) _ _ _); ( k_here; (rename Fr _ _ _ _ => cF); (rename News _ _ _ _ => cN); k_dflt (refine getAttr_K (by rfl) (by have e : recursionLimit = 1000 := rfl; (simp only [depth_deeper]); omega) (by have e : cLine = 9900 := rfl; (simp only [units_deeper]); omega) cF cN (by k_mem) ?_); intro h' tkA aadd hneA F' N'; clear cF cN))) | ((with_reducible show WhlIf _ _ _); first | (refine WhlIf.no (by simp only [decide_eq_false_iff_not]; omega) ?_) | (refine WhlIf.yes (by simp only [decide_eq_true_eq]; omega) ?_)) | ((k_here; (with_reducible show wpAny _ _ (subscriptTail _ _ (Value.str _ _) (Value.int _ _)) _ _ _); (refine item_at (by omega) (by omega) (by omega) ?_); intro kxiE))) | (dsimp only; walk1) | fail "no step")
            refine Halt.out' ?_
            rename JoinMark 2 => jm
            clear jm
            refine wpAny_mono (Q := fun fl s' => Shut (fl = .next ∧ ∃ f tj tx ps', Fr (hide1 s.heap) L' s'.heap (trS f ⟨(midOf x).toArray⟩ ((offs L k : Int) + (d : Int)) (wholeOf L).length tx tj (tkI + 1 + 1) aadd lres st (wholeOf L) tp tq) ∧ News (hide1 s.heap) L' s'.heap [(85, tabObj ps'), (aadd, boundObj lres), (lres, listOf vs.toArray k)] ∧ TriplesOk ps'.toList ∧ AllBare s'.gens ∧ s'.os = s.os)) ?J2 ?_ (fun _ _ e => e)
            case J2 =>
              refine wpAny_mono (Q := fun fl s' => Shut (fl = .next ∧ ∃ f tj tx ps' nws', Fr (hide1 s.heap) L' s'.heap (trS f ⟨(midOf x).toArray⟩ ((offs L k : Int) + (d : Int)) (wholeOf L).length tx tj (tkI + 1 + 1) aadd lres st (wholeOf L) tp tq) ∧ News (hide1 s.heap) L' s'.heap nws' ∧ (∀ q ∈ [(85, tabObj ps'), (aadd, boundObj lres), (lres, listOf vs.toArray k)], q ∈ nws') ∧ TriplesOk ps'.toList ∧ AllBare s'.gens ∧ s'.os = s.os)) ?J3 ?_ (fun _ _ e => e)
              case J3 =>
                have fI := factsI _ hx
                have fO := factsO _ hx
                dsimp only at fI fO
                clear hpos hta hend hin
                cases hco : x.contains 45 with
                | false =>
                  have em : midOf x = x := by unfold midOf; rw [hco]; rfl
                  rw [hco] at fI
                  rw [em]
                  repeat (first | (with_reducible first | (refine one_cut5 s1.gens s1.drawn s1.os ?_; intro tkC) | (refine cons_cut5 s1.gens s1.drawn s1.os ?_; intro tkC qC hC)) | (k_unfold; (try dsimp only)) | walk1 | (with_reducible first | refine CutQ.next (by assumption) ?_ | refine CutQ.ret (by assumption) ?_ | refine CutQ.brk (by assumption) ?_ | refine CutQ.cont (by assumption) ?_ | refine EndQ.ret (by assumption) ?_ | refine EndQ.next (by assumption) ?_) | ((refine Halt.out' ?_); first | (with_reducible ((show wpAny _ _ (call (Value.builtin "re.Pattern.sub") _) _ _ _); (k_here; (rename Fr _ _ _ _ => cF); (rename News _ _ _ _ => cN); k_dflt (refine sub_K (by assumption) (by first | assumption | rfl) (by rfl) (by have e : recursionLimit = 1000 := rfl; (simp only [depth_deeper]); omega) (by have e : cLine = 9900 := rfl; (simp only [units_deeper]); omega) (by assumption) cF cN (by k_mem) ?_); intro h' tk' t' F' N'; clear cF cN))) | (with_reducible ((show wpAny _ _ (eval (Expr.Lambda _ _ _ _) _) _ _ _); (k_here; (rename Fr _ _ _ _ => cF); (rename News _ _ _ _ => cN); k_dflt (refine lam_any (by assumption) cF cN hide1_none (by first | assumption | k_all) (by assumption) (by assumption) (by rfl) (by rfl) (by rfl) (by rfl) ?_); intro f' fd' h' tk' ps' hps' hne' F' N'; clear cF cN; (have hg' := gnNe_of hne'); (simp only [GnNe] at hg'); clear hne'))) | (with_reducible ((show wpAny _ _ (getMethod (Value.ref _) _ _) _ _ _); (k_here; (rename Fr _ _ _ _ => cF); k_dflt (refine method_sub (Frag.In.keeps (by assumption) cF.keep) ?_)))) | ((with_reducible show wpAny _ _ (pyIter (Value.ref _)) _ _ _); (krs_unr)) | (with_reducible ((show wpAny _ _ (call (Value.ref _) _) _ _ _); ( k_here; (rename Fr _ _ _ _ => cF); (rename News _ _ _ _ => cN); k_dflt (refine bound_K cF cN (by k_mem) (by k_upd) ?_ (Nat.le_trans (m := 100) (by (simp only [List.size_toArray]); omega) (by decide))); intro h' F' N'; clear cF cN))) | (with_reducible ((show wpAny _ _ (call (Value.ref _) _) _ _ _); ( k_here; (rename Fr _ _ _ _ => cF); (rename News _ _ _ _ => cN); k_dflt (first | refine Fn.use' (escape_plain _ _ (by assumption) _) (by k_asm) cF (by k_asm) cN (by k_asm) (by rfl) (by rfl) (by assumption) (by assumption) (by decide) trivial ?_ | refine Fn.use' (escape_dash _ _) (by k_asm) cF (by k_asm) cN (by k_asm) (by rfl) (by rfl) (by assumption) (by assumption) (by decide) trivial ?_); intro v' h' tk' F' N' K' P'; clear cF cN; (obtain ⟨t', e'⟩ := P'); subst e'))) | (with_reducible ((show _ ∧ _); ((with_reducible show AppAt _ _ ∧ _); k_dflt (refine ⟨appAt_of (by k_asm) (by k_mem), ?_⟩); (try dsimp only [List.nil_append, List.cons_append])))) | (with_reducible ((show wpAny _ _ (callWith _ (Value.ref _) _ _ _) _ _ _); (k_here; k_dflt (refine' callWith_append ?kaN ?kaM ?_; (case kaN => k_asm); (case kaM => k_mem))))) | ((with_reducible show wpAny _ _ (subscriptTail _ _ (Value.str _ _) (Value.int _ _)) _ _ _); (k_dflt (first | refine item_piece (by with_reducible assumption) 0 (by omega) (by first | rfl | with_reducible assumption) (by with_reducible assumption) ?_ | refine item_piece (by with_reducible assumption) 1 (by omega) (by first | rfl | with_reducible assumption) (by with_reducible assumption) ?_ | refine item_piece (by with_reducible assumption) 2 (by omega) (by first | rfl | with_reducible assumption) (by with_reducible assumption) ?_ | refine item_piece (by with_reducible assumption) _ (by rfl) (by with_reducible assumption) (by with_reducible assumption) ?_))) | (with_reducible ((show @ite _ _ _ _ _); ((refine ite_both (fun hc => ?_) (fun hc => ?_)); (all_goals (try simp only [beq_iff_eq, decide_eq_true_eq, Bool.not_eq_true', bne_eq_false_iff_eq, bne_iff_ne, ne_eq, one_star, one_ask, one_open, one_close, one_bang] at hc)); (all_goals (try simp only [Bool.not_not] at hc)); (all_goals (try (exfalso; first | contradiction | k_dflt (first | omega | exact (plain_ne (by assumption)).1 hc | exact (plain_ne (by assumption)).2.1 hc | exact (plain_ne (by assumption)).2.2 hc))))))) | (with_reducible ((show wpAny _ _ (getAttr (Value.ref _) _ _) _ _ _); ( k_here; (rename Fr _ _ _ _ => cF); (rename News _ _ _ _ => cN); k_dflt (refine getAttr_K (by rfl) (by have e : recursionLimit = 1000 := rfl; (simp only [depth_deeper]); omega) (by have e : cLine = 9900 := rfl; (simp only [units_deeper]); omega) cF cN (by k_mem) ?_); intro h' tkA aadd hneA F' N'; clear cF cN))) | ((with_reducible show WhlIf _ _ _); first | (refine WhlIf.no (by simp only [decide_eq_false_iff_not]; omega) ?_) | (refine WhlIf.yes (by simp only [decide_eq_true_eq]; omega) ?_)) | ((k_here; (with_reducible show wpAny _ _ (subscriptTail _ _ (Value.str _ _) (Value.int _ _)) _ _ _); (refine item_at (by omega) (by omega) (by omega) ?_); intro kxiE))) | (dsimp only; walk1) | fail "no step")
                  refine Halt.out' ?_
                  refine notIn_str ?_
                  rw [fI]
                  repeat (first | (with_reducible first | (refine one_cut5 s1.gens s1.drawn s1.os ?_; intro tkC) | (refine cons_cut5 s1.gens s1.drawn s1.os ?_; intro tkC qC hC)) | (k_unfold; (try dsimp only)) | walk1 | (with_reducible first | refine CutQ.next (by assumption) ?_ | refine CutQ.ret (by assumption) ?_ | refine CutQ.brk (by assumption) ?_ | refine CutQ.cont (by assumption) ?_ | refine EndQ.ret (by assumption) ?_ | refine EndQ.next (by assumption) ?_) | ((refine Halt.out' ?_); first | (with_reducible ((show wpAny _ _ (call (Value.builtin "re.Pattern.sub") _) _ _ _); (k_here; (rename Fr _ _ _ _ => cF); (rename News _ _ _ _ => cN); k_dflt (refine sub_K (by assumption) (by first | assumption | rfl) (by rfl) (by have e : recursionLimit = 1000 := rfl; (simp only [depth_deeper]); omega) (by have e : cLine = 9900 := rfl; (simp only [units_deeper]); omega) (by assumption) cF cN (by k_mem) ?_); intro h' tk' t' F' N'; clear cF cN))) | (with_reducible ((show wpAny _ _ (eval (Expr.Lambda _ _ _ _) _) _ _ _); (k_here; (rename Fr _ _ _ _ => cF); (rename News _ _ _ _ => cN); k_dflt (refine lam_any (by assumption) cF cN hide1_none (by first | assumption | k_all) (by assumption) (by assumption) (by rfl) (by rfl) (by rfl) (by rfl) ?_); intro f' fd' h' tk' ps' hps' hne' F' N'; clear cF cN; (have hg' := gnNe_of hne'); (simp only [GnNe] at hg'); clear hne'))) | (with_reducible ((show wpAny _ _ (getMethod (Value.ref _) _ _) _ _ _); (k_here; (rename Fr _ _ _ _ => cF); k_dflt (refine method_sub (Frag.In.keeps (by assumption) cF.keep) ?_)))) | ((with_reducible show wpAny _ _ (pyIter (Value.ref _)) _ _ _); (krs_unr)) | (with_reducible ((show wpAny _ _ (call (Value.ref _) _) _ _ _); ( k_here; (rename Fr _ _ _ _ => cF); (rename News _ _ _ _ => cN); k_dflt (refine bound_K cF cN (by k_mem) (by k_upd) ?_ (Nat.le_trans (m := 100) (by (simp only [List.size_toArray]); omega) (by decide))); intro h' F' N'; clear cF cN))) | (with_reducible ((show wpAny _ _ (call (Value.ref _) _) _ _ _); ( k_here; (rename Fr _ _ _ _ => cF); (rename News _ _ _ _ => cN); k_dflt (first | refine Fn.use' (escape_plain _ _ (by assumption) _) (by k_asm) cF (by k_asm) cN (by k_asm) (by rfl) (by rfl) (by assumption) (by assumption) (by decide) trivial ?_ | refine Fn.use' (escape_dash _ _) (by k_asm) cF (by k_asm) cN (by k_asm) (by rfl) (by rfl) (by assumption) (by assumption) (by decide) trivial ?_); intro v' h' tk' F' N' K' P'; clear cF cN; (obtain ⟨t', e'⟩ := P'); subst e'))) | (with_reducible ((show _ ∧ _); ((with_reducible show AppAt _ _ ∧ _); k_dflt (refine ⟨appAt_of (by k_asm) (by k_mem), ?_⟩); (try dsimp only [List.nil_append, List.cons_append])))) | (with_reducible ((show wpAny _ _ (callWith _ (Value.ref _) _ _ _) _ _ _); (k_here; k_dflt (refine' callWith_append ?kaN ?kaM ?_; (case kaN => k_asm); (case kaM => k_mem))))) | ((with_reducible show wpAny _ _ (subscriptTail _ _ (Value.str _ _) (Value.int _ _)) _ _ _); (k_dflt (first | refine item_piece (by with_reducible assumption) 0 (by omega) (by first | rfl | with_reducible assumption) (by with_reducible assumption) ?_ | refine item_piece (by with_reducible assumption) 1 (by omega) (by first | rfl | with_reducible assumption) (by with_reducible assumption) ?_ | refine item_piece (by with_reducible assumption) 2 (by omega) (by first | rfl | with_reducible assumption) (by with_reducible assumption) ?_ | refine item_piece (by with_reducible assumption) _ (by rfl) (by with_reducible assumption) (by with_reducible assumption) ?_))) | (with_reducible ((show @ite _ _ _ _ _); ((refine ite_both (fun hc => ?_) (fun hc => ?_)); (all_goals (try simp only [beq_iff_eq, decide_eq_true_eq, Bool.not_eq_true', bne_eq_false_iff_eq, bne_iff_ne, ne_eq, one_star, one_ask, one_open, one_close, one_bang] at hc)); (all_goals (try simp only [Bool.not_not] at hc)); (all_goals (try (exfalso; first | contradiction | k_dflt (first | omega | exact (plain_ne (by assumption)).1 hc | exact (plain_ne (by assumption)).2.1 hc | exact (plain_ne (by assumption)).2.2 hc))))))) | (with_reducible ((show wpAny _ _ (getAttr (Value.ref _) _ _) _ _ _); ( k_here; (rename Fr _ _ _ _ => cF); (rename News _ _ _ _ => cN); k_dflt (refine getAttr_K (by rfl) (by have e : recursionLimit = 1000 := rfl; (simp only [depth_deeper]); omega) (by have e : cLine = 9900 := rfl; (simp only [units_deeper]); omega) cF cN (by k_mem) ?_); intro h' tkA aadd hneA F' N'; clear cF cN))) | ((with_reducible show WhlIf _ _ _); first | (refine WhlIf.no (by simp only [decide_eq_false_iff_not]; omega) ?_) | (refine WhlIf.yes (by simp only [decide_eq_true_eq]; omega) ?_)) | ((k_here; (with_reducible show wpAny _ _ (subscriptTail _ _ (Value.str _ _) (Value.int _ _)) _ _ _); (refine item_at (by omega) (by omega) (by omega) ?_); intro kxiE))) | (dsimp only; walk1) | fail "no step")
                  refine Halt.out' ?_
                  refine replace_none fO ?_
                  repeat (first | (with_reducible first | (refine one_cut5 s1.gens s1.drawn s1.os ?_; intro tkC) | (refine cons_cut5 s1.gens s1.drawn s1.os ?_; intro tkC qC hC)) | (k_unfold; (try dsimp only)) | walk1 | (with_reducible first | refine CutQ.next (by assumption) ?_ | refine CutQ.ret (by assumption) ?_ | refine CutQ.brk (by assumption) ?_ | refine CutQ.cont (by assumption) ?_ | refine EndQ.ret (by assumption) ?_ | refine EndQ.next (by assumption) ?_) | ((refine Halt.out' ?_); first | (with_reducible ((show wpAny _ _ (call (Value.builtin "re.Pattern.sub") _) _ _ _); (k_here; (rename Fr _ _ _ _ => cF); (rename News _ _ _ _ => cN); k_dflt (refine sub_K (by assumption) (by first | assumption | rfl) (by rfl) (by have e : recursionLimit = 1000 := rfl; (simp only [depth_deeper]); omega) (by have e : cLine = 9900 := rfl; (simp only [units_deeper]); omega) (by assumption) cF cN (by k_mem) ?_); intro h' tk' t' F' N'; clear cF cN))) | (with_reducible ((show wpAny _ _ (eval (Expr.Lambda _ _ _ _) _) _ _ _); (k_here; (rename Fr _ _ _ _ => cF); (rename News _ _ _ _ => cN); k_dflt (refine lam_any (by assumption) cF cN hide1_none (by first | assumption | k_all) (by assumption) (by assumption) (by rfl) (by rfl) (by rfl) (by rfl) ?_); intro f' fd' h' tk' ps' hps' hne' F' N'; clear cF cN; (have hg' := gnNe_of hne'); (simp only [GnNe] at hg'); clear hne'))) | (with_reducible ((show wpAny _ _ (getMethod (Value.ref _) _ _) _ _ _); (k_here; (rename Fr _ _ _ _ => cF); k_dflt (refine method_sub (Frag.In.keeps (by assumption) cF.keep) ?_)))) | ((with_reducible show wpAny _ _ (pyIter (Value.ref _)) _ _ _); (krs_unr)) | (with_reducible ((show wpAny _ _ (call (Value.ref _) _) _ _ _); ( k_here; (rename Fr _ _ _ _ => cF); (rename News _ _ _ _ => cN); k_dflt (refine bound_K cF cN (by k_mem) (by k_upd) ?_ (Nat.le_trans (m := 100) (by (simp only [List.size_toArray]); omega) (by decide))); intro h' F' N'; clear cF cN))) | (with_reducible ((show wpAny _ _ (call (Value.ref _) _) _ _ _); ( k_here; (rename Fr _ _ _ _ => cF); (rename News _ _ _ _ => cN); k_dflt (first | refine Fn.use' (escape_plain _ _ (by assumption) _) (by k_asm) cF (by k_asm) cN (by k_asm) (by rfl) (by rfl) (by assumption) (by assumption) (by decide) trivial ?_ | refine Fn.use' (escape_dash _ _) (by k_asm) cF (by k_asm) cN (by k_asm) (by rfl) (by rfl) (by assumption) (by assumption) (by decide) trivial ?_); intro v' h' tk' F' N' K' P'; clear cF cN; (obtain ⟨t', e'⟩ := P'); subst e'))) | (with_reducible ((show _ ∧ _); ((with_reducible show AppAt _ _ ∧ _); k_dflt (refine ⟨appAt_of (by k_asm) (by k_mem), ?_⟩); (try dsimp only [List.nil_append, List.cons_append])))) | (with_reducible ((show wpAny _ _ (callWith _ (Value.ref _) _ _ _) _ _ _); (k_here; k_dflt (refine' callWith_append ?kaN ?kaM ?_; (case kaN => k_asm); (case kaM => k_mem))))) | ((with_reducible show wpAny _ _ (subscriptTail _ _ (Value.str _ _) (Value.int _ _)) _ _ _); (k_dflt (first | refine item_piece (by with_reducible assumption) 0 (by omega) (by first | rfl | with_reducible assumption) (by with_reducible assumption) ?_ | refine item_piece (by with_reducible assumption) 1 (by omega) (by first | rfl | with_reducible assumption) (by with_reducible assumption) ?_ | refine item_piece (by with_reducible assumption) 2 (by omega) (by first | rfl | with_reducible assumption) (by with_reducible assumption) ?_ | refine item_piece (by with_reducible assumption) _ (by rfl) (by with_reducible assumption) (by with_reducible assumption) ?_))) | (with_reducible ((show @ite _ _ _ _ _); ((refine ite_both (fun hc => ?_) (fun hc => ?_)); (all_goals (try simp only [beq_iff_eq, decide_eq_true_eq, Bool.not_eq_true', bne_eq_false_iff_eq, bne_iff_ne, ne_eq, one_star, one_ask, one_open, one_close, one_bang] at hc)); (all_goals (try simp only [Bool.not_not] at hc)); (all_goals (try (exfalso; first | contradiction | k_dflt (first | omega | exact (plain_ne (by assumption)).1 hc | exact (plain_ne (by assumption)).2.1 hc | exact (plain_ne (by assumption)).2.2 hc))))))) | (with_reducible ((show wpAny _ _ (getAttr (Value.ref _) _ _) _ _ _); ( k_here; (rename Fr _ _ _ _ => cF); (rename News _ _ _ _ => cN); k_dflt (refine getAttr_K (by rfl) (by have e : recursionLimit = 1000 := rfl; (simp only [depth_deeper]); omega) (by have e : cLine = 9900 := rfl; (simp only [units_deeper]); omega) cF cN (by k_mem) ?_); intro h' tkA aadd hneA F' N'; clear cF cN))) | ((with_reducible show WhlIf _ _ _); first | (refine WhlIf.no (by simp only [decide_eq_false_iff_not]; omega) ?_) | (refine WhlIf.yes (by simp only [decide_eq_true_eq]; omega) ?_)) | ((k_here; (with_reducible show wpAny _ _ (subscriptTail _ _ (Value.str _ _) (Value.int _ _)) _ _ _); (refine item_at (by omega) (by omega) (by omega) ?_); intro kxiE))) | (dsimp only; walk1) | fail "no step")
                  (rename Fr _ _ _ _ => cF); (rename News _ _ _ _ => cN)
                  (try dsimp only)
                  exact Shut.mk ⟨by trivial, _, _, _, _, _, fr_trS cF (by (refine List.forall_mem_cons.mpr ⟨rfl, ?_⟩; (refine List.forall_mem_cons.mpr ⟨rfl, List.forall_mem_cons.mpr ⟨rfl, List.forall_mem_cons.mpr ⟨rfl, List.forall_mem_cons.mpr ⟨rfl, List.forall_mem_cons.mpr ⟨rfl, List.forall_mem_cons.mpr ⟨rfl, List.forall_mem_cons.mpr ⟨rfl, List.forall_mem_nil _⟩⟩⟩⟩⟩⟩⟩))), cN, by (intro q hq; (rcases List.mem_cons.mp hq with hq | hq); (rw [hq]; k_mem); (rcases List.mem_cons.mp hq with hq | hq); (rw [hq]; k_mem); (rw [List.mem_singleton.mp hq]; k_mem)), by assumption, G9, ho9⟩
                | true =>
                  have em : midOf x = dashed x := by unfold midOf; rw [hco]; rfl
                  rw [hco] at fI
                  rw [em]
                  obtain ⟨g2, f2, f3, f4⟩ := factsR _ hx hco
                  have g4 := (factsM _ hx).2.1
                  rw [em] at g4
                  dsimp only at g2 f2 f3 f4
                  have hb2 : 2 + b0 ≤ x.length := by
                    rcases hb0 with ⟨hba, hb9⟩ | ⟨hba, hb9⟩
                    · subst hb9; exact f4 (by rw [← hba]; exact ha')
                    · omega
                  have hfind : findIn (wholeOf L) (Str.ofString "-") (offs L k + 2 + b0) (offs L k + d) = ((offs L k + x.length : Nat) : Int) := by
                    rw [of_dash]
                    have e : offs L k + x.length = offs L k + 2 + b0 + (x.length - 2 - b0) := by omega
                    rw [e]
                    refine findIn_here (x.length - 2 - b0) ?_ (by omega) (fun q hq => ?_)
                    · rw [← e]
                      refine hat x.length 45 ?_
                      have := mid_at (x := x) (d := x.length - 1) (by omega)
                      rw [show x.length - 1 + 1 = x.length by omega] at this
                      rw [this, f2]
                    · obtain ⟨a9, h9, n9⟩ := take_ne f3 (q + 1 + b0) (by omega) (by omega)
                      refine ⟨a9, ?_, n9⟩
                      rw [show offs L k + 2 + b0 + q = offs L k + (q + 1 + b0 + 1) by omega]
                      exact hat _ _ ((mid_at (by omega)).trans h9)
                  have hmiss : findIn (wholeOf L) (Str.ofString "-") (offs L k + x.length + 3) (offs L k + d) = -1 := findIn_none (by omega)
                  have hs1 : Txt.slice (wholeOf L) (some ((offs L k : Int) + 1)) (some ((offs L k + x.length : Nat) : Int)) = ⟨(x.take (x.length - 1)).toArray⟩ := by
                    rw [hat.slice (a := 1) (b := x.length) (by omega) (by omega) (by omega) (by rw [hpl]; omega) (by omega)]
                    show (⟨((x ++ [93]).take (x.length - 1)).toArray⟩ : Str) = _
                    rw [List.take_append_of_le_length (by omega)]
                  have hs2 : Txt.slice (wholeOf L) (some (((offs L k + x.length : Nat) : Int) + 1)) (some ((offs L k : Int) + (d : Int))) = ⟨#[]⟩ := by
                    rw [hat.slice (a := d) (b := d) (by omega) rfl (by omega) (by rw [hpl]; omega) (by omega), Nat.sub_self]
                    rfl
                  have hs3 : (⟨(x.take (x.length - 1)).toArray⟩ : Str) ++ Str.ofString "-" = ⟨x.toArray⟩ := by
                    rw [of_dash]
                    show (⟨(x.take (x.length - 1)).toArray ++ #[45]⟩ : Str) = _
                    have e : x = x.take (x.length - 1) ++ [45] := by
                      have e1 := List.take_append_drop (x.length - 1) x
                      have e2 : x.drop (x.length - 1) = [45] := by
                        rw [List.drop_eq_getElem_cons (by omega)]
                        rw [List.getElem?_eq_getElem (by omega)] at f2
                        rw [Option.some.inj f2, List.drop_of_length_le (by omega)]
                      rw [e2] at e1
                      exact e1.symm
                    conv => rhs; rw [e]
                    simp
                  have hz1 : (⟨(x.take (x.length - 1)).toArray⟩ : Str).length + (Str.ofString "-").length ≤ sizeLine := by
                    refine Nat.le_trans (m := 1000) ?_ (by decide)
                    have e1 : (⟨(x.take (x.length - 1)).toArray⟩ : Str).length ≤ x.length := by
                      show (List.toArray _).size ≤ _
                      rw [List.size_toArray, List.length_take]; omega
                    have e2 : (Str.ofString "-").length = 1 := by decide +kernel
                    omega
                  have hxl9 : (⟨x.toArray⟩ : Str).length ≤ 1000 := Nat.le_trans hxl (by decide)
                  have hg9 : (⟨(dashed x).toArray⟩ : Str).length ≤ 1000 := Nat.le_trans g4 (by decide)
                  --have hroom9 : ((ar dp un gd outer).deeper (envOf (Str.ofString "_translate") ⟨.function, [], false, false⟩ L' 90 (.ref 89))).depth < recursionLimit := by have e : recursionLimit = 1000 := rfl; (simp only [depth_deeper]); omega
                  clear hco hx hle hsu hb2 em f2 f3 f4 g4 hsl hxl h2x h4x hxx hpl hpc
                  have jm : JoinMark 3 := trivial
                  repeat (first | (with_reducible first | (refine one_cut5 s1.gens s1.drawn s1.os ?_; intro tkC) | (refine cons_cut5 s1.gens s1.drawn s1.os ?_; intro tkC qC hC)) | (k_unfold; (try dsimp only)) | walk1 | (with_reducible first | refine CutQ.next (by assumption) ?_ | refine CutQ.ret (by assumption) ?_ | refine CutQ.brk (by assumption) ?_ | refine CutQ.cont (by assumption) ?_ | refine EndQ.ret (by assumption) ?_ | refine EndQ.next (by assumption) ?_) | ((refine Halt.out' ?_); first | (with_reducible ((show wpAny _ _ (call (Value.builtin "re.Pattern.sub") _) _ _ _); (k_here; (rename Fr _ _ _ _ => cF); (rename News _ _ _ _ => cN); k_dflt (refine sub_K (by assumption) (by first | assumption | rfl) (by rfl) (by have e : recursionLimit = 1000 := rfl; (simp only [depth_deeper]); omega) (by have e : cLine = 9900 := rfl; (simp only [units_deeper]); omega) (by assumption) cF cN (by k_mem) ?_); intro h' tk' t' F' N'; clear cF cN))) | (with_reducible ((show wpAny _ _ (eval (Expr.Lambda _ _ _ _) _) _ _ _); (k_here; (rename Fr _ _ _ _ => cF); (rename News _ _ _ _ => cN); k_dflt (refine lam_any (by assumption) cF cN hide1_none (by first | assumption | k_all) (by assumption) (by assumption) (by rfl) (by rfl) (by rfl) (by rfl) ?_); intro f' fd' h' tk' ps' hps' hne' F' N'; clear cF cN; (have hg' := gnNe_of hne'); (simp only [GnNe] at hg'); clear hne'))) | (with_reducible ((show wpAny _ _ (getMethod (Value.ref _) _ _) _ _ _); (k_here; (rename Fr _ _ _ _ => cF); k_dflt (refine method_sub (Frag.In.keeps (by assumption) cF.keep) ?_)))) | ((with_reducible show wpAny _ _ (pyIter (Value.ref _)) _ _ _); (krs_unr)) | (with_reducible ((show wpAny _ _ (call (Value.ref _) _) _ _ _); ( k_here; (rename Fr _ _ _ _ => cF); (rename News _ _ _ _ => cN); k_dflt (refine bound_K cF cN (by k_mem) (by k_upd) ?_ (Nat.le_trans (m := 100) (by (simp only [List.size_toArray]); omega) (by decide))); intro h' F' N'; clear cF cN))) | (with_reducible ((show wpAny _ _ (call (Value.ref _) _) _ _ _); ( k_here; (rename Fr _ _ _ _ => cF); (rename News _ _ _ _ => cN); k_dflt (first | refine Fn.use' (escape_plain _ _ (by assumption) _) (by k_asm) cF (by k_asm) cN (by k_asm) (by rfl) (by rfl) (by assumption) (by assumption) (by decide) trivial ?_ | refine Fn.use' (escape_dash _ _) (by k_asm) cF (by k_asm) cN (by k_asm) (by rfl) (by rfl) (by assumption) (by assumption) (by decide) trivial ?_); intro v' h' tk' F' N' K' P'; clear cF cN; (obtain ⟨t', e'⟩ := P'); subst e'))) | (with_reducible ((show _ ∧ _); ((with_reducible show AppAt _ _ ∧ _); k_dflt (refine ⟨appAt_of (by k_asm) (by k_mem), ?_⟩); (try dsimp only [List.nil_append, List.cons_append])))) | (with_reducible ((show wpAny _ _ (callWith _ (Value.ref _) _ _ _) _ _ _); (k_here; k_dflt (refine' callWith_append ?kaN ?kaM ?_; (case kaN => k_asm); (case kaM => k_mem))))) | ((with_reducible show wpAny _ _ (subscriptTail _ _ (Value.str _ _) (Value.int _ _)) _ _ _); (k_dflt (first | refine item_piece (by with_reducible assumption) 0 (by omega) (by first | rfl | with_reducible assumption) (by with_reducible assumption) ?_ | refine item_piece (by with_reducible assumption) 1 (by omega) (by first | rfl | with_reducible assumption) (by with_reducible assumption) ?_ | refine item_piece (by with_reducible assumption) 2 (by omega) (by first | rfl | with_reducible assumption) (by with_reducible assumption) ?_ | refine item_piece (by with_reducible assumption) _ (by rfl) (by with_reducible assumption) (by with_reducible assumption) ?_))) | (with_reducible ((show @ite _ _ _ _ _); ((refine ite_both (fun hc => ?_) (fun hc => ?_)); (all_goals (try simp only [beq_iff_eq, decide_eq_true_eq, Bool.not_eq_true', bne_eq_false_iff_eq, bne_iff_ne, ne_eq, one_star, one_ask, one_open, one_close, one_bang] at hc)); (all_goals (try simp only [Bool.not_not] at hc)); (all_goals (try (exfalso; first | contradiction | k_dflt (first | omega | exact (plain_ne (by assumption)).1 hc | exact (plain_ne (by assumption)).2.1 hc | exact (plain_ne (by assumption)).2.2 hc))))))) | (with_reducible ((show wpAny _ _ (getAttr (Value.ref _) _ _) _ _ _); ( k_here; (rename Fr _ _ _ _ => cF); (rename News _ _ _ _ => cN); k_dflt (refine getAttr_K (by rfl) (by have e : recursionLimit = 1000 := rfl; (simp only [depth_deeper]); omega) (by have e : cLine = 9900 := rfl; (simp only [units_deeper]); omega) cF cN (by k_mem) ?_); intro h' tkA aadd hneA F' N'; clear cF cN))) | ((with_reducible show WhlIf _ _ _); first | (refine WhlIf.no (by simp only [decide_eq_false_iff_not]; omega) ?_) | (refine WhlIf.yes (by simp only [decide_eq_true_eq]; omega) ?_)) | ((k_here; (with_reducible show wpAny _ _ (subscriptTail _ _ (Value.str _ _) (Value.int _ _)) _ _ _); (refine item_at (by omega) (by omega) (by omega) ?_); intro kxiE))) | (dsimp only; walk1) | fail "no step")
                  refine Halt.out' ?_
                  refine notIn_str ?_
                  rw [fI]
                  repeat (first | (with_reducible first | (refine one_cut5 s1.gens s1.drawn s1.os ?_; intro tkC) | (refine cons_cut5 s1.gens s1.drawn s1.os ?_; intro tkC qC hC)) | (k_unfold; (try dsimp only)) | walk1 | (with_reducible first | refine CutQ.next (by assumption) ?_ | refine CutQ.ret (by assumption) ?_ | refine CutQ.brk (by assumption) ?_ | refine CutQ.cont (by assumption) ?_ | refine EndQ.ret (by assumption) ?_ | refine EndQ.next (by assumption) ?_) | ((refine Halt.out' ?_); first | (with_reducible ((show wpAny _ _ (call (Value.builtin "re.Pattern.sub") _) _ _ _); (k_here; (rename Fr _ _ _ _ => cF); (rename News _ _ _ _ => cN); k_dflt (refine sub_K (by assumption) (by first | assumption | rfl) (by rfl) (by have e : recursionLimit = 1000 := rfl; (simp only [depth_deeper]); omega) (by have e : cLine = 9900 := rfl; (simp only [units_deeper]); omega) (by assumption) cF cN (by k_mem) ?_); intro h' tk' t' F' N'; clear cF cN))) | (with_reducible ((show wpAny _ _ (eval (Expr.Lambda _ _ _ _) _) _ _ _); (k_here; (rename Fr _ _ _ _ => cF); (rename News _ _ _ _ => cN); k_dflt (refine lam_any (by assumption) cF cN hide1_none (by first | assumption | k_all) (by assumption) (by assumption) (by rfl) (by rfl) (by rfl) (by rfl) ?_); intro f' fd' h' tk' ps' hps' hne' F' N'; clear cF cN; (have hg' := gnNe_of hne'); (simp only [GnNe] at hg'); clear hne'))) | (with_reducible ((show wpAny _ _ (getMethod (Value.ref _) _ _) _ _ _); (k_here; (rename Fr _ _ _ _ => cF); k_dflt (refine method_sub (Frag.In.keeps (by assumption) cF.keep) ?_)))) | ((with_reducible show wpAny _ _ (pyIter (Value.ref _)) _ _ _); (krs_unr)) | (with_reducible ((show wpAny _ _ (call (Value.ref _) _) _ _ _); ( k_here; (rename Fr _ _ _ _ => cF); (rename News _ _ _ _ => cN); k_dflt (refine bound_K cF cN (by k_mem) (by k_upd) ?_ (Nat.le_trans (m := 100) (by (simp only [List.size_toArray]); omega) (by decide))); intro h' F' N'; clear cF cN))) | (with_reducible ((show wpAny _ _ (call (Value.ref _) _) _ _ _); ( k_here; (rename Fr _ _ _ _ => cF); (rename News _ _ _ _ => cN); k_dflt (first | refine Fn.use' (escape_plain _ _ (by assumption) _) (by k_asm) cF (by k_asm) cN (by k_asm) (by rfl) (by rfl) (by assumption) (by assumption) (by decide) trivial ?_ | refine Fn.use' (escape_dash _ _) (by k_asm) cF (by k_asm) cN (by k_asm) (by rfl) (by rfl) (by assumption) (by assumption) (by decide) trivial ?_); intro v' h' tk' F' N' K' P'; clear cF cN; (obtain ⟨t', e'⟩ := P'); subst e'))) | (with_reducible ((show _ ∧ _); ((with_reducible show AppAt _ _ ∧ _); k_dflt (refine ⟨appAt_of (by k_asm) (by k_mem), ?_⟩); (try dsimp only [List.nil_append, List.cons_append])))) | (with_reducible ((show wpAny _ _ (callWith _ (Value.ref _) _ _ _) _ _ _); (k_here; k_dflt (refine' callWith_append ?kaN ?kaM ?_; (case kaN => k_asm); (case kaM => k_mem))))) | ((with_reducible show wpAny _ _ (subscriptTail _ _ (Value.str _ _) (Value.int _ _)) _ _ _); (k_dflt (first | refine item_piece (by with_reducible assumption) 0 (by omega) (by first | rfl | with_reducible assumption) (by with_reducible assumption) ?_ | refine item_piece (by with_reducible assumption) 1 (by omega) (by first | rfl | with_reducible assumption) (by with_reducible assumption) ?_ | refine item_piece (by with_reducible assumption) 2 (by omega) (by first | rfl | with_reducible assumption) (by with_reducible assumption) ?_ | refine item_piece (by with_reducible assumption) _ (by rfl) (by with_reducible assumption) (by with_reducible assumption) ?_))) | (with_reducible ((show @ite _ _ _ _ _); ((refine ite_both (fun hc => ?_) (fun hc => ?_)); (all_goals (try simp only [beq_iff_eq, decide_eq_true_eq, Bool.not_eq_true', bne_eq_false_iff_eq, bne_iff_ne, ne_eq, one_star, one_ask, one_open, one_close, one_bang] at hc)); (all_goals (try simp only [Bool.not_not] at hc)); (all_goals (try (exfalso; first | contradiction | k_dflt (first | omega | exact (plain_ne (by assumption)).1 hc | exact (plain_ne (by assumption)).2.1 hc | exact (plain_ne (by assumption)).2.2 hc))))))) | (with_reducible ((show wpAny _ _ (getAttr (Value.ref _) _ _) _ _ _); ( k_here; (rename Fr _ _ _ _ => cF); (rename News _ _ _ _ => cN); k_dflt (refine getAttr_K (by rfl) (by have e : recursionLimit = 1000 := rfl; (simp only [depth_deeper]); omega) (by have e : cLine = 9900 := rfl; (simp only [units_deeper]); omega) cF cN (by k_mem) ?_); intro h' tkA aadd hneA F' N'; clear cF cN))) | ((with_reducible show WhlIf _ _ _); first | (refine WhlIf.no (by simp only [decide_eq_false_iff_not]; omega) ?_) | (refine WhlIf.yes (by simp only [decide_eq_true_eq]; omega) ?_)) | ((k_here; (with_reducible show wpAny _ _ (subscriptTail _ _ (Value.str _ _) (Value.int _ _)) _ _ _); (refine item_at (by omega) (by omega) (by omega) ?_); intro kxiE))) | (dsimp only; walk1) | fail "no step")
                  refine Halt.out' ?_
                  rename JoinMark 3 => jm
                  clear jm
                  refine join_toks (fun v => ∃ t, v = .int ((offs L k + 2 + b0 : Nat) : Int) t) ?_ ?_
                  · rcases hb0 with ⟨hba, hb9⟩ | ⟨hba, hb9⟩
                    · subst hb9
                      repeat (first | (with_reducible first | (refine one_cut5 s1.gens s1.drawn s1.os ?_; intro tkC) | (refine cons_cut5 s1.gens s1.drawn s1.os ?_; intro tkC qC hC)) | (k_unfold; (try dsimp only)) | walk1 | (with_reducible first | refine CutQ.next (by assumption) ?_ | refine CutQ.ret (by assumption) ?_ | refine CutQ.brk (by assumption) ?_ | refine CutQ.cont (by assumption) ?_ | refine EndQ.ret (by assumption) ?_ | refine EndQ.next (by assumption) ?_) | ((refine Halt.out' ?_); first | (with_reducible ((show wpAny _ _ (call (Value.builtin "re.Pattern.sub") _) _ _ _); (k_here; (rename Fr _ _ _ _ => cF); (rename News _ _ _ _ => cN); k_dflt (refine sub_K (by assumption) (by first | assumption | rfl) (by rfl) (by have e : recursionLimit = 1000 := rfl; (simp only [depth_deeper]); omega) (by have e : cLine = 9900 := rfl; (simp only [units_deeper]); omega) (by assumption) cF cN (by k_mem) ?_); intro h' tk' t' F' N'; clear cF cN))) | (with_reducible ((show wpAny _ _ (eval (Expr.Lambda _ _ _ _) _) _ _ _); (k_here; (rename Fr _ _ _ _ => cF); (rename News _ _ _ _ => cN); k_dflt (refine lam_any (by assumption) cF cN hide1_none (by first | assumption | k_all) (by assumption) (by assumption) (by rfl) (by rfl) (by rfl) (by rfl) ?_); intro f' fd' h' tk' ps' hps' hne' F' N'; clear cF cN; (have hg' := gnNe_of hne'); (simp only [GnNe] at hg'); clear hne'))) | (with_reducible ((show wpAny _ _ (getMethod (Value.ref _) _ _) _ _ _); (k_here; (rename Fr _ _ _ _ => cF); k_dflt (refine method_sub (Frag.In.keeps (by assumption) cF.keep) ?_)))) | ((with_reducible show wpAny _ _ (pyIter (Value.ref _)) _ _ _); (krs_unr)) | (with_reducible ((show wpAny _ _ (call (Value.ref _) _) _ _ _); ( k_here; (rename Fr _ _ _ _ => cF); (rename News _ _ _ _ => cN); k_dflt (refine bound_K cF cN (by k_mem) (by k_upd) ?_ (Nat.le_trans (m := 100) (by (simp only [List.size_toArray]); omega) (by decide))); intro h' F' N'; clear cF cN))) | (with_reducible ((show wpAny _ _ (call (Value.ref _) _) _ _ _); ( k_here; (rename Fr _ _ _ _ => cF); (rename News _ _ _ _ => cN); k_dflt (first | refine Fn.use' (escape_plain _ _ (by assumption) _) (by k_asm) cF (by k_asm) cN (by k_asm) (by rfl) (by rfl) (by assumption) (by assumption) (by decide) trivial ?_ | refine Fn.use' (escape_dash _ _) (by k_asm) cF (by k_asm) cN (by k_asm) (by rfl) (by rfl) (by assumption) (by assumption) (by decide) trivial ?_); intro v' h' tk' F' N' K' P'; clear cF cN; (obtain ⟨t', e'⟩ := P'); subst e'))) | (with_reducible ((show _ ∧ _); ((with_reducible show AppAt _ _ ∧ _); k_dflt (refine ⟨appAt_of (by k_asm) (by k_mem), ?_⟩); (try dsimp only [List.nil_append, List.cons_append])))) | (with_reducible ((show wpAny _ _ (callWith _ (Value.ref _) _ _ _) _ _ _); (k_here; k_dflt (refine' callWith_append ?kaN ?kaM ?_; (case kaN => k_asm); (case kaM => k_mem))))) | ((with_reducible show wpAny _ _ (subscriptTail _ _ (Value.str _ _) (Value.int _ _)) _ _ _); (k_dflt (first | refine item_piece (by with_reducible assumption) 0 (by omega) (by first | rfl | with_reducible assumption) (by with_reducible assumption) ?_ | refine item_piece (by with_reducible assumption) 1 (by omega) (by first | rfl | with_reducible assumption) (by with_reducible assumption) ?_ | refine item_piece (by with_reducible assumption) 2 (by omega) (by first | rfl | with_reducible assumption) (by with_reducible assumption) ?_ | refine item_piece (by with_reducible assumption) _ (by rfl) (by with_reducible assumption) (by with_reducible assumption) ?_))) | (with_reducible ((show @ite _ _ _ _ _); ((refine ite_both (fun hc => ?_) (fun hc => ?_)); (all_goals (try simp only [beq_iff_eq, decide_eq_true_eq, Bool.not_eq_true', bne_eq_false_iff_eq, bne_iff_ne, ne_eq, one_star, one_ask, one_open, one_close, one_bang] at hc)); (all_goals (try simp only [Bool.not_not] at hc)); (all_goals (try (exfalso; first | contradiction | k_dflt (first | omega | exact (plain_ne (by assumption)).1 hc | exact (plain_ne (by assumption)).2.1 hc | exact (plain_ne (by assumption)).2.2 hc))))))) | (with_reducible ((show wpAny _ _ (getAttr (Value.ref _) _ _) _ _ _); ( k_here; (rename Fr _ _ _ _ => cF); (rename News _ _ _ _ => cN); k_dflt (refine getAttr_K (by rfl) (by have e : recursionLimit = 1000 := rfl; (simp only [depth_deeper]); omega) (by have e : cLine = 9900 := rfl; (simp only [units_deeper]); omega) cF cN (by k_mem) ?_); intro h' tkA aadd hneA F' N'; clear cF cN))) | ((with_reducible show WhlIf _ _ _); first | (refine WhlIf.no (by simp only [decide_eq_false_iff_not]; omega) ?_) | (refine WhlIf.yes (by simp only [decide_eq_true_eq]; omega) ?_)) | ((k_here; (with_reducible show wpAny _ _ (subscriptTail _ _ (Value.str _ _) (Value.int _ _)) _ _ _); (refine item_at (by omega) (by omega) (by omega) ?_); intro kxiE))) | (dsimp only; walk1) | fail "no step")
                      (try dsimp only)
                      exact Shut.mk ⟨int_is (jz4 _), _, rfl⟩
                    · subst hb9
                      repeat (first | (with_reducible first | (refine one_cut5 s1.gens s1.drawn s1.os ?_; intro tkC) | (refine cons_cut5 s1.gens s1.drawn s1.os ?_; intro tkC qC hC)) | (k_unfold; (try dsimp only)) | walk1 | (with_reducible first | refine CutQ.next (by assumption) ?_ | refine CutQ.ret (by assumption) ?_ | refine CutQ.brk (by assumption) ?_ | refine CutQ.cont (by assumption) ?_ | refine EndQ.ret (by assumption) ?_ | refine EndQ.next (by assumption) ?_) | ((refine Halt.out' ?_); first | (with_reducible ((show wpAny _ _ (call (Value.builtin "re.Pattern.sub") _) _ _ _); (k_here; (rename Fr _ _ _ _ => cF); (rename News _ _ _ _ => cN); k_dflt (refine sub_K (by assumption) (by first | assumption | rfl) (by rfl) (by have e : recursionLimit = 1000 := rfl; (simp only [depth_deeper]); omega) (by have e : cLine = 9900 := rfl; (simp only [units_deeper]); omega) (by assumption) cF cN (by k_mem) ?_); intro h' tk' t' F' N'; clear cF cN))) | (with_reducible ((show wpAny _ _ (eval (Expr.Lambda _ _ _ _) _) _ _ _); (k_here; (rename Fr _ _ _ _ => cF); (rename News _ _ _ _ => cN); k_dflt (refine lam_any (by assumption) cF cN hide1_none (by first | assumption | k_all) (by assumption) (by assumption) (by rfl) (by rfl) (by rfl) (by rfl) ?_); intro f' fd' h' tk' ps' hps' hne' F' N'; clear cF cN; (have hg' := gnNe_of hne'); (simp only [GnNe] at hg'); clear hne'))) | (with_reducible ((show wpAny _ _ (getMethod (Value.ref _) _ _) _ _ _); (k_here; (rename Fr _ _ _ _ => cF); k_dflt (refine method_sub (Frag.In.keeps (by assumption) cF.keep) ?_)))) | ((with_reducible show wpAny _ _ (pyIter (Value.ref _)) _ _ _); (krs_unr)) | (with_reducible ((show wpAny _ _ (call (Value.ref _) _) _ _ _); ( k_here; (rename Fr _ _ _ _ => cF); (rename News _ _ _ _ => cN); k_dflt (refine bound_K cF cN (by k_mem) (by k_upd) ?_ (Nat.le_trans (m := 100) (by (simp only [List.size_toArray]); omega) (by decide))); intro h' F' N'; clear cF cN))) | (with_reducible ((show wpAny _ _ (call (Value.ref _) _) _ _ _); ( k_here; (rename Fr _ _ _ _ => cF); (rename News _ _ _ _ => cN); k_dflt (first | refine Fn.use' (escape_plain _ _ (by assumption) _) (by k_asm) cF (by k_asm) cN (by k_asm) (by rfl) (by rfl) (by assumption) (by assumption) (by decide) trivial ?_ | refine Fn.use' (escape_dash _ _) (by k_asm) cF (by k_asm) cN (by k_asm) (by rfl) (by rfl) (by assumption) (by assumption) (by decide) trivial ?_); intro v' h' tk' F' N' K' P'; clear cF cN; (obtain ⟨t', e'⟩ := P'); subst e'))) | (with_reducible ((show _ ∧ _); ((with_reducible show AppAt _ _ ∧ _); k_dflt (refine ⟨appAt_of (by k_asm) (by k_mem), ?_⟩); (try dsimp only [List.nil_append, List.cons_append])))) | (with_reducible ((show wpAny _ _ (callWith _ (Value.ref _) _ _ _) _ _ _); (k_here; k_dflt (refine' callWith_append ?kaN ?kaM ?_; (case kaN => k_asm); (case kaM => k_mem))))) | ((with_reducible show wpAny _ _ (subscriptTail _ _ (Value.str _ _) (Value.int _ _)) _ _ _); (k_dflt (first | refine item_piece (by with_reducible assumption) 0 (by omega) (by first | rfl | with_reducible assumption) (by with_reducible assumption) ?_ | refine item_piece (by with_reducible assumption) 1 (by omega) (by first | rfl | with_reducible assumption) (by with_reducible assumption) ?_ | refine item_piece (by with_reducible assumption) 2 (by omega) (by first | rfl | with_reducible assumption) (by with_reducible assumption) ?_ | refine item_piece (by with_reducible assumption) _ (by rfl) (by with_reducible assumption) (by with_reducible assumption) ?_))) | (with_reducible ((show @ite _ _ _ _ _); ((refine ite_both (fun hc => ?_) (fun hc => ?_)); (all_goals (try simp only [beq_iff_eq, decide_eq_true_eq, Bool.not_eq_true', bne_eq_false_iff_eq, bne_iff_ne, ne_eq, one_star, one_ask, one_open, one_close, one_bang] at hc)); (all_goals (try simp only [Bool.not_not] at hc)); (all_goals (try (exfalso; first | contradiction | k_dflt (first | omega | exact (plain_ne (by assumption)).1 hc | exact (plain_ne (by assumption)).2.1 hc | exact (plain_ne (by assumption)).2.2 hc))))))) | (with_reducible ((show wpAny _ _ (getAttr (Value.ref _) _ _) _ _ _); ( k_here; (rename Fr _ _ _ _ => cF); (rename News _ _ _ _ => cN); k_dflt (refine getAttr_K (by rfl) (by have e : recursionLimit = 1000 := rfl; (simp only [depth_deeper]); omega) (by have e : cLine = 9900 := rfl; (simp only [units_deeper]); omega) cF cN (by k_mem) ?_); intro h' tkA aadd hneA F' N'; clear cF cN))) | ((with_reducible show WhlIf _ _ _); first | (refine WhlIf.no (by simp only [decide_eq_false_iff_not]; omega) ?_) | (refine WhlIf.yes (by simp only [decide_eq_true_eq]; omega) ?_)) | ((k_here; (with_reducible show wpAny _ _ (subscriptTail _ _ (Value.str _ _) (Value.int _ _)) _ _ _); (refine item_at (by omega) (by omega) (by omega) ?_); intro kxiE))) | (dsimp only; walk1) | fail "no step")
                      (try dsimp only)
                      exact Shut.mk ⟨int_is (jz3 _), _, rfl⟩
                  rintro _ tk9 ⟨tq9, rfl⟩
                  clear hb0 ha ha' hat
                  repeat (first | (with_reducible first | (refine one_cut5 s1.gens s1.drawn s1.os ?_; intro tkC) | (refine cons_cut5 s1.gens s1.drawn s1.os ?_; intro tkC qC hC)) | (k_unfold; (try dsimp only)) | walk1 | (with_reducible first | refine CutQ.next (by assumption) ?_ | refine CutQ.ret (by assumption) ?_ | refine CutQ.brk (by assumption) ?_ | refine CutQ.cont (by assumption) ?_ | refine EndQ.ret (by assumption) ?_ | refine EndQ.next (by assumption) ?_) | ((refine Halt.out' ?_); first | (with_reducible ((show wpAny _ _ (call (Value.builtin "re.Pattern.sub") _) _ _ _); (k_here; (rename Fr _ _ _ _ => cF); (rename News _ _ _ _ => cN); k_dflt (refine sub_K (by assumption) (by first | assumption | rfl) (by rfl) (by have e : recursionLimit = 1000 := rfl; (simp only [depth_deeper]); omega) (by have e : cLine = 9900 := rfl; (simp only [units_deeper]); omega) (by assumption) cF cN (by k_mem) ?_); intro h' tk' t' F' N'; clear cF cN))) | (with_reducible ((show wpAny _ _ (eval (Expr.Lambda _ _ _ _) _) _ _ _); (k_here; (rename Fr _ _ _ _ => cF); (rename News _ _ _ _ => cN); k_dflt (refine lam_any (by assumption) cF cN hide1_none (by first | assumption | k_all) (by assumption) (by assumption) (by rfl) (by rfl) (by rfl) (by rfl) ?_); intro f' fd' h' tk' ps' hps' hne' F' N'; clear cF cN; (have hg' := gnNe_of hne'); (simp only [GnNe] at hg'); clear hne'))) | (with_reducible ((show wpAny _ _ (getMethod (Value.ref _) _ _) _ _ _); (k_here; (rename Fr _ _ _ _ => cF); k_dflt (refine method_sub (Frag.In.keeps (by assumption) cF.keep) ?_)))) | ((with_reducible show wpAny _ _ (pyIter (Value.ref _)) _ _ _); (krs_unr)) | (with_reducible ((show wpAny _ _ (call (Value.ref _) _) _ _ _); ( k_here; (rename Fr _ _ _ _ => cF); (rename News _ _ _ _ => cN); k_dflt (refine bound_K cF cN (by k_mem) (by k_upd) ?_ (Nat.le_trans (m := 100) (by (simp only [List.size_toArray]); omega) (by decide))); intro h' F' N'; clear cF cN))) | (with_reducible ((show wpAny _ _ (call (Value.ref _) _) _ _ _); ( k_here; (rename Fr _ _ _ _ => cF); (rename News _ _ _ _ => cN); k_dflt (first | refine Fn.use' (escape_plain _ _ (by assumption) _) (by k_asm) cF (by k_asm) cN (by k_asm) (by rfl) (by rfl) (by assumption) (by assumption) (by decide) trivial ?_ | refine Fn.use' (escape_dash _ _) (by k_asm) cF (by k_asm) cN (by k_asm) (by rfl) (by rfl) (by assumption) (by assumption) (by decide) trivial ?_); intro v' h' tk' F' N' K' P'; clear cF cN; (obtain ⟨t', e'⟩ := P'); subst e'))) | (with_reducible ((show _ ∧ _); ((with_reducible show AppAt _ _ ∧ _); k_dflt (refine ⟨appAt_of (by k_asm) (by k_mem), ?_⟩); (try dsimp only [List.nil_append, List.cons_append])))) | (with_reducible ((show wpAny _ _ (callWith _ (Value.ref _) _ _ _) _ _ _); (k_here; k_dflt (refine' callWith_append ?kaN ?kaM ?_; (case kaN => k_asm); (case kaM => k_mem))))) | ((with_reducible show wpAny _ _ (subscriptTail _ _ (Value.str _ _) (Value.int _ _)) _ _ _); (k_dflt (first | refine item_piece (by with_reducible assumption) 0 (by omega) (by first | rfl | with_reducible assumption) (by with_reducible assumption) ?_ | refine item_piece (by with_reducible assumption) 1 (by omega) (by first | rfl | with_reducible assumption) (by with_reducible assumption) ?_ | refine item_piece (by with_reducible assumption) 2 (by omega) (by first | rfl | with_reducible assumption) (by with_reducible assumption) ?_ | refine item_piece (by with_reducible assumption) _ (by rfl) (by with_reducible assumption) (by with_reducible assumption) ?_))) | (with_reducible ((show @ite _ _ _ _ _); ((refine ite_both (fun hc => ?_) (fun hc => ?_)); (all_goals (try simp only [beq_iff_eq, decide_eq_true_eq, Bool.not_eq_true', bne_eq_false_iff_eq, bne_iff_ne, ne_eq, one_star, one_ask, one_open, one_close, one_bang] at hc)); (all_goals (try simp only [Bool.not_not] at hc)); (all_goals (try (exfalso; first | contradiction | k_dflt (first | omega | exact (plain_ne (by assumption)).1 hc | exact (plain_ne (by assumption)).2.1 hc | exact (plain_ne (by assumption)).2.2 hc))))))) | (with_reducible ((show wpAny _ _ (getAttr (Value.ref _) _ _) _ _ _); ( k_here; (rename Fr _ _ _ _ => cF); (rename News _ _ _ _ => cN); k_dflt (refine getAttr_K (by rfl) (by have e : recursionLimit = 1000 := rfl; (simp only [depth_deeper]); omega) (by have e : cLine = 9900 := rfl; (simp only [units_deeper]); omega) cF cN (by k_mem) ?_); intro h' tkA aadd hneA F' N'; clear cF cN))) | ((with_reducible show WhlIf _ _ _); first | (refine WhlIf.no (by simp only [decide_eq_false_iff_not]; omega) ?_) | (refine WhlIf.yes (by simp only [decide_eq_true_eq]; omega) ?_)) | ((k_here; (with_reducible show wpAny _ _ (subscriptTail _ _ (Value.str _ _) (Value.int _ _)) _ _ _); (refine item_at (by omega) (by omega) (by omega) ?_); intro kxiE))) | (dsimp only; walk1) | fail "no step")
                  refine Halt.out' ?_
                  refine whl_start 2 ?_
                  repeat (first | (with_reducible first | (refine one_cut5 s1.gens s1.drawn s1.os ?_; intro tkC) | (refine cons_cut5 s1.gens s1.drawn s1.os ?_; intro tkC qC hC)) | (k_unfold; (try dsimp only)) | walk1 | (with_reducible first | refine CutQ.next (by assumption) ?_ | refine CutQ.ret (by assumption) ?_ | refine CutQ.brk (by assumption) ?_ | refine CutQ.cont (by assumption) ?_ | refine EndQ.ret (by assumption) ?_ | refine EndQ.next (by assumption) ?_) | ((refine Halt.out' ?_); first | (with_reducible ((show wpAny _ _ (call (Value.builtin "re.Pattern.sub") _) _ _ _); (k_here; (rename Fr _ _ _ _ => cF); (rename News _ _ _ _ => cN); k_dflt (refine sub_K (by assumption) (by first | assumption | rfl) (by rfl) (by have e : recursionLimit = 1000 := rfl; (simp only [depth_deeper]); omega) (by have e : cLine = 9900 := rfl; (simp only [units_deeper]); omega) (by assumption) cF cN (by k_mem) ?_); intro h' tk' t' F' N'; clear cF cN))) | (with_reducible ((show wpAny _ _ (eval (Expr.Lambda _ _ _ _) _) _ _ _); (k_here; (rename Fr _ _ _ _ => cF); (rename News _ _ _ _ => cN); k_dflt (refine lam_any (by assumption) cF cN hide1_none (by first | assumption | k_all) (by assumption) (by assumption) (by rfl) (by rfl) (by rfl) (by rfl) ?_); intro f' fd' h' tk' ps' hps' hne' F' N'; clear cF cN; (have hg' := gnNe_of hne'); (simp only [GnNe] at hg'); clear hne'))) | (with_reducible ((show wpAny _ _ (getMethod (Value.ref _) _ _) _ _ _); (k_here; (rename Fr _ _ _ _ => cF); k_dflt (refine method_sub (Frag.In.keeps (by assumption) cF.keep) ?_)))) | ((with_reducible show wpAny _ _ (pyIter (Value.ref _)) _ _ _); (krs_unr)) | (with_reducible ((show wpAny _ _ (call (Value.ref _) _) _ _ _); ( k_here; (rename Fr _ _ _ _ => cF); (rename News _ _ _ _ => cN); k_dflt (refine bound_K cF cN (by k_mem) (by k_upd) ?_ (Nat.le_trans (m := 100) (by (simp only [List.size_toArray]); omega) (by decide))); intro h' F' N'; clear cF cN))) | (with_reducible ((show wpAny _ _ (call (Value.ref _) _) _ _ _); ( k_here; (rename Fr _ _ _ _ => cF); (rename News _ _ _ _ => cN); k_dflt (first | refine Fn.use' (escape_plain _ _ (by assumption) _) (by k_asm) cF (by k_asm) cN (by k_asm) (by rfl) (by rfl) (by assumption) (by assumption) (by decide) trivial ?_ | refine Fn.use' (escape_dash _ _) (by k_asm) cF (by k_asm) cN (by k_asm) (by rfl) (by rfl) (by assumption) (by assumption) (by decide) trivial ?_); intro v' h' tk' F' N' K' P'; clear cF cN; (obtain ⟨t', e'⟩ := P'); subst e'))) | (with_reducible ((show _ ∧ _); ((with_reducible show AppAt _ _ ∧ _); k_dflt (refine ⟨appAt_of (by k_asm) (by k_mem), ?_⟩); (try dsimp only [List.nil_append, List.cons_append])))) | (with_reducible ((show wpAny _ _ (callWith _ (Value.ref _) _ _ _) _ _ _); (k_here; k_dflt (refine' callWith_append ?kaN ?kaM ?_; (case kaN => k_asm); (case kaM => k_mem))))) | ((with_reducible show wpAny _ _ (subscriptTail _ _ (Value.str _ _) (Value.int _ _)) _ _ _); (k_dflt (first | refine item_piece (by with_reducible assumption) 0 (by omega) (by first | rfl | with_reducible assumption) (by with_reducible assumption) ?_ | refine item_piece (by with_reducible assumption) 1 (by omega) (by first | rfl | with_reducible assumption) (by with_reducible assumption) ?_ | refine item_piece (by with_reducible assumption) 2 (by omega) (by first | rfl | with_reducible assumption) (by with_reducible assumption) ?_ | refine item_piece (by with_reducible assumption) _ (by rfl) (by with_reducible assumption) (by with_reducible assumption) ?_))) | (with_reducible ((show @ite _ _ _ _ _); ((refine ite_both (fun hc => ?_) (fun hc => ?_)); (all_goals (try simp only [beq_iff_eq, decide_eq_true_eq, Bool.not_eq_true', bne_eq_false_iff_eq, bne_iff_ne, ne_eq, one_star, one_ask, one_open, one_close, one_bang] at hc)); (all_goals (try simp only [Bool.not_not] at hc)); (all_goals (try (exfalso; first | contradiction | k_dflt (first | omega | exact (plain_ne (by assumption)).1 hc | exact (plain_ne (by assumption)).2.1 hc | exact (plain_ne (by assumption)).2.2 hc))))))) | (with_reducible ((show wpAny _ _ (getAttr (Value.ref _) _ _) _ _ _); ( k_here; (rename Fr _ _ _ _ => cF); (rename News _ _ _ _ => cN); k_dflt (refine getAttr_K (by rfl) (by have e : recursionLimit = 1000 := rfl; (simp only [depth_deeper]); omega) (by have e : cLine = 9900 := rfl; (simp only [units_deeper]); omega) cF cN (by k_mem) ?_); intro h' tkA aadd hneA F' N'; clear cF cN))) | ((with_reducible show WhlIf _ _ _); first | (refine WhlIf.no (by simp only [decide_eq_false_iff_not]; omega) ?_) | (refine WhlIf.yes (by simp only [decide_eq_true_eq]; omega) ?_)) | ((k_here; (with_reducible show wpAny _ _ (subscriptTail _ _ (Value.str _ _) (Value.int _ _)) _ _ _); (refine item_at (by omega) (by omega) (by omega) ?_); intro kxiE))) | (dsimp only; walk1) | fail "no step")
                  refine Halt.out' ?_
                  refine call_find4 (lo := offs L k + 2 + b0) (hi := offs L k + d) rfl (jz5 _ _) ?_
                  rw [hfind]
                  clear hfind
                  repeat (first | (with_reducible first | (refine one_cut5 s1.gens s1.drawn s1.os ?_; intro tkC) | (refine cons_cut5 s1.gens s1.drawn s1.os ?_; intro tkC qC hC)) | (k_unfold; (try dsimp only)) | walk1 | (with_reducible first | refine CutQ.next (by assumption) ?_ | refine CutQ.ret (by assumption) ?_ | refine CutQ.brk (by assumption) ?_ | refine CutQ.cont (by assumption) ?_ | refine EndQ.ret (by assumption) ?_ | refine EndQ.next (by assumption) ?_) | ((refine Halt.out' ?_); first | (with_reducible ((show wpAny _ _ (call (Value.builtin "re.Pattern.sub") _) _ _ _); (k_here; (rename Fr _ _ _ _ => cF); (rename News _ _ _ _ => cN); k_dflt (refine sub_K (by assumption) (by first | assumption | rfl) (by rfl) (by have e : recursionLimit = 1000 := rfl; (simp only [depth_deeper]); omega) (by have e : cLine = 9900 := rfl; (simp only [units_deeper]); omega) (by assumption) cF cN (by k_mem) ?_); intro h' tk' t' F' N'; clear cF cN))) | (with_reducible ((show wpAny _ _ (eval (Expr.Lambda _ _ _ _) _) _ _ _); (k_here; (rename Fr _ _ _ _ => cF); (rename News _ _ _ _ => cN); k_dflt (refine lam_any (by assumption) cF cN hide1_none (by first | assumption | k_all) (by assumption) (by assumption) (by rfl) (by rfl) (by rfl) (by rfl) ?_); intro f' fd' h' tk' ps' hps' hne' F' N'; clear cF cN; (have hg' := gnNe_of hne'); (simp only [GnNe] at hg'); clear hne'))) | (with_reducible ((show wpAny _ _ (getMethod (Value.ref _) _ _) _ _ _); (k_here; (rename Fr _ _ _ _ => cF); k_dflt (refine method_sub (Frag.In.keeps (by assumption) cF.keep) ?_)))) | ((with_reducible show wpAny _ _ (pyIter (Value.ref _)) _ _ _); (krs_unr)) | (with_reducible ((show wpAny _ _ (call (Value.ref _) _) _ _ _); ( k_here; (rename Fr _ _ _ _ => cF); (rename News _ _ _ _ => cN); k_dflt (refine bound_K cF cN (by k_mem) (by k_upd) ?_ (Nat.le_trans (m := 100) (by (simp only [List.size_toArray]); omega) (by decide))); intro h' F' N'; clear cF cN))) | (with_reducible ((show wpAny _ _ (call (Value.ref _) _) _ _ _); ( k_here; (rename Fr _ _ _ _ => cF); (rename News _ _ _ _ => cN); k_dflt (first | refine Fn.use' (escape_plain _ _ (by assumption) _) (by k_asm) cF (by k_asm) cN (by k_asm) (by rfl) (by rfl) (by assumption) (by assumption) (by decide) trivial ?_ | refine Fn.use' (escape_dash _ _) (by k_asm) cF (by k_asm) cN (by k_asm) (by rfl) (by rfl) (by assumption) (by assumption) (by decide) trivial ?_); intro v' h' tk' F' N' K' P'; clear cF cN; (obtain ⟨t', e'⟩ := P'); subst e'))) | (with_reducible ((show _ ∧ _); ((with_reducible show AppAt _ _ ∧ _); k_dflt (refine ⟨appAt_of (by k_asm) (by k_mem), ?_⟩); (try dsimp only [List.nil_append, List.cons_append])))) | (with_reducible ((show wpAny _ _ (callWith _ (Value.ref _) _ _ _) _ _ _); (k_here; k_dflt (refine' callWith_append ?kaN ?kaM ?_; (case kaN => k_asm); (case kaM => k_mem))))) | ((with_reducible show wpAny _ _ (subscriptTail _ _ (Value.str _ _) (Value.int _ _)) _ _ _); (k_dflt (first | refine item_piece (by with_reducible assumption) 0 (by omega) (by first | rfl | with_reducible assumption) (by with_reducible assumption) ?_ | refine item_piece (by with_reducible assumption) 1 (by omega) (by first | rfl | with_reducible assumption) (by with_reducible assumption) ?_ | refine item_piece (by with_reducible assumption) 2 (by omega) (by first | rfl | with_reducible assumption) (by with_reducible assumption) ?_ | refine item_piece (by with_reducible assumption) _ (by rfl) (by with_reducible assumption) (by with_reducible assumption) ?_))) | (with_reducible ((show @ite _ _ _ _ _); ((refine ite_both (fun hc => ?_) (fun hc => ?_)); (all_goals (try simp only [beq_iff_eq, decide_eq_true_eq, Bool.not_eq_true', bne_eq_false_iff_eq, bne_iff_ne, ne_eq, one_star, one_ask, one_open, one_close, one_bang] at hc)); (all_goals (try simp only [Bool.not_not] at hc)); (all_goals (try (exfalso; first | contradiction | k_dflt (first | omega | exact (plain_ne (by assumption)).1 hc | exact (plain_ne (by assumption)).2.1 hc | exact (plain_ne (by assumption)).2.2 hc))))))) | (with_reducible ((show wpAny _ _ (getAttr (Value.ref _) _ _) _ _ _); ( k_here; (rename Fr _ _ _ _ => cF); (rename News _ _ _ _ => cN); k_dflt (refine getAttr_K (by rfl) (by have e : recursionLimit = 1000 := rfl; (simp only [depth_deeper]); omega) (by have e : cLine = 9900 := rfl; (simp only [units_deeper]); omega) cF cN (by k_mem) ?_); intro h' tkA aadd hneA F' N'; clear cF cN))) | ((with_reducible show WhlIf _ _ _); first | (refine WhlIf.no (by simp only [decide_eq_false_iff_not]; omega) ?_) | (refine WhlIf.yes (by simp only [decide_eq_true_eq]; omega) ?_)) | ((k_here; (with_reducible show wpAny _ _ (subscriptTail _ _ (Value.str _ _) (Value.int _ _)) _ _ _); (refine item_at (by omega) (by omega) (by omega) ?_); intro kxiE))) | (dsimp only; walk1) | fail "no step")
                  refine Halt.out' ?_
                  (rename Fr _ _ _ _ => F4); (rename News _ _ _ _ => N4)
                  with_reducible refine slice_is (s := ⟨_, _, _, _, _⟩) F4 N4 hs1 hp ?_
                  intro h4 t4 k4 F4' N4'
                  clear F4 N4
                  repeat (first | (with_reducible first | (refine one_cut5 s1.gens s1.drawn s1.os ?_; intro tkC) | (refine cons_cut5 s1.gens s1.drawn s1.os ?_; intro tkC qC hC)) | (k_unfold; (try dsimp only)) | walk1 | (with_reducible first | refine CutQ.next (by assumption) ?_ | refine CutQ.ret (by assumption) ?_ | refine CutQ.brk (by assumption) ?_ | refine CutQ.cont (by assumption) ?_ | refine EndQ.ret (by assumption) ?_ | refine EndQ.next (by assumption) ?_) | ((refine Halt.out' ?_); first | (with_reducible ((show wpAny _ _ (call (Value.builtin "re.Pattern.sub") _) _ _ _); (k_here; (rename Fr _ _ _ _ => cF); (rename News _ _ _ _ => cN); k_dflt (refine sub_K (by assumption) (by first | assumption | rfl) (by rfl) (by have e : recursionLimit = 1000 := rfl; (simp only [depth_deeper]); omega) (by have e : cLine = 9900 := rfl; (simp only [units_deeper]); omega) (by assumption) cF cN (by k_mem) ?_); intro h' tk' t' F' N'; clear cF cN))) | (with_reducible ((show wpAny _ _ (eval (Expr.Lambda _ _ _ _) _) _ _ _); (k_here; (rename Fr _ _ _ _ => cF); (rename News _ _ _ _ => cN); k_dflt (refine lam_any (by assumption) cF cN hide1_none (by first | assumption | k_all) (by assumption) (by assumption) (by rfl) (by rfl) (by rfl) (by rfl) ?_); intro f' fd' h' tk' ps' hps' hne' F' N'; clear cF cN; (have hg' := gnNe_of hne'); (simp only [GnNe] at hg'); clear hne'))) | (with_reducible ((show wpAny _ _ (getMethod (Value.ref _) _ _) _ _ _); (k_here; (rename Fr _ _ _ _ => cF); k_dflt (refine method_sub (Frag.In.keeps (by assumption) cF.keep) ?_)))) | ((with_reducible show wpAny _ _ (pyIter (Value.ref _)) _ _ _); (krs_unr)) | (with_reducible ((show wpAny _ _ (call (Value.ref _) _) _ _ _); ( k_here; (rename Fr _ _ _ _ => cF); (rename News _ _ _ _ => cN); k_dflt (refine bound_K cF cN (by k_mem) (by k_upd) ?_ (Nat.le_trans (m := 100) (by (simp only [List.size_toArray]); omega) (by decide))); intro h' F' N'; clear cF cN))) | (with_reducible ((show wpAny _ _ (call (Value.ref _) _) _ _ _); ( k_here; (rename Fr _ _ _ _ => cF); (rename News _ _ _ _ => cN); k_dflt (first | refine Fn.use' (escape_plain _ _ (by assumption) _) (by k_asm) cF (by k_asm) cN (by k_asm) (by rfl) (by rfl) (by assumption) (by assumption) (by decide) trivial ?_ | refine Fn.use' (escape_dash _ _) (by k_asm) cF (by k_asm) cN (by k_asm) (by rfl) (by rfl) (by assumption) (by assumption) (by decide) trivial ?_); intro v' h' tk' F' N' K' P'; clear cF cN; (obtain ⟨t', e'⟩ := P'); subst e'))) | (with_reducible ((show _ ∧ _); ((with_reducible show AppAt _ _ ∧ _); k_dflt (refine ⟨appAt_of (by k_asm) (by k_mem), ?_⟩); (try dsimp only [List.nil_append, List.cons_append])))) | (with_reducible ((show wpAny _ _ (callWith _ (Value.ref _) _ _ _) _ _ _); (k_here; k_dflt (refine' callWith_append ?kaN ?kaM ?_; (case kaN => k_asm); (case kaM => k_mem))))) | ((with_reducible show wpAny _ _ (subscriptTail _ _ (Value.str _ _) (Value.int _ _)) _ _ _); (k_dflt (first | refine item_piece (by with_reducible assumption) 0 (by omega) (by first | rfl | with_reducible assumption) (by with_reducible assumption) ?_ | refine item_piece (by with_reducible assumption) 1 (by omega) (by first | rfl | with_reducible assumption) (by with_reducible assumption) ?_ | refine item_piece (by with_reducible assumption) 2 (by omega) (by first | rfl | with_reducible assumption) (by with_reducible assumption) ?_ | refine item_piece (by with_reducible assumption) _ (by rfl) (by with_reducible assumption) (by with_reducible assumption) ?_))) | (with_reducible ((show @ite _ _ _ _ _); ((refine ite_both (fun hc => ?_) (fun hc => ?_)); (all_goals (try simp only [beq_iff_eq, decide_eq_true_eq, Bool.not_eq_true', bne_eq_false_iff_eq, bne_iff_ne, ne_eq, one_star, one_ask, one_open, one_close, one_bang] at hc)); (all_goals (try simp only [Bool.not_not] at hc)); (all_goals (try (exfalso; first | contradiction | k_dflt (first | omega | exact (plain_ne (by assumption)).1 hc | exact (plain_ne (by assumption)).2.1 hc | exact (plain_ne (by assumption)).2.2 hc))))))) | (with_reducible ((show wpAny _ _ (getAttr (Value.ref _) _ _) _ _ _); ( k_here; (rename Fr _ _ _ _ => cF); (rename News _ _ _ _ => cN); k_dflt (refine getAttr_K (by rfl) (by have e : recursionLimit = 1000 := rfl; (simp only [depth_deeper]); omega) (by have e : cLine = 9900 := rfl; (simp only [units_deeper]); omega) cF cN (by k_mem) ?_); intro h' tkA aadd hneA F' N'; clear cF cN))) | ((with_reducible show WhlIf _ _ _); first | (refine WhlIf.no (by simp only [decide_eq_false_iff_not]; omega) ?_) | (refine WhlIf.yes (by simp only [decide_eq_true_eq]; omega) ?_)) | ((k_here; (with_reducible show wpAny _ _ (subscriptTail _ _ (Value.str _ _) (Value.int _ _)) _ _ _); (refine item_at (by omega) (by omega) (by omega) ?_); intro kxiE))) | (dsimp only; walk1) | fail "no step")
                  refine Halt.out' ?_
                  refine call_find4 (lo := offs L k + x.length + 3) (hi := offs L k + d) (jz6 _ _) (jz5 _ _) ?_
                  rw [hmiss]
                  clear hmiss
                  repeat (first | (with_reducible first | (refine one_cut5 s1.gens s1.drawn s1.os ?_; intro tkC) | (refine cons_cut5 s1.gens s1.drawn s1.os ?_; intro tkC qC hC)) | (k_unfold; (try dsimp only)) | walk1 | (with_reducible first | refine CutQ.next (by assumption) ?_ | refine CutQ.ret (by assumption) ?_ | refine CutQ.brk (by assumption) ?_ | refine CutQ.cont (by assumption) ?_ | refine EndQ.ret (by assumption) ?_ | refine EndQ.next (by assumption) ?_) | ((refine Halt.out' ?_); first | (with_reducible ((show wpAny _ _ (call (Value.builtin "re.Pattern.sub") _) _ _ _); (k_here; (rename Fr _ _ _ _ => cF); (rename News _ _ _ _ => cN); k_dflt (refine sub_K (by assumption) (by first | assumption | rfl) (by rfl) (by have e : recursionLimit = 1000 := rfl; (simp only [depth_deeper]); omega) (by have e : cLine = 9900 := rfl; (simp only [units_deeper]); omega) (by assumption) cF cN (by k_mem) ?_); intro h' tk' t' F' N'; clear cF cN))) | (with_reducible ((show wpAny _ _ (eval (Expr.Lambda _ _ _ _) _) _ _ _); (k_here; (rename Fr _ _ _ _ => cF); (rename News _ _ _ _ => cN); k_dflt (refine lam_any (by assumption) cF cN hide1_none (by first | assumption | k_all) (by assumption) (by assumption) (by rfl) (by rfl) (by rfl) (by rfl) ?_); intro f' fd' h' tk' ps' hps' hne' F' N'; clear cF cN; (have hg' := gnNe_of hne'); (simp only [GnNe] at hg'); clear hne'))) | (with_reducible ((show wpAny _ _ (getMethod (Value.ref _) _ _) _ _ _); (k_here; (rename Fr _ _ _ _ => cF); k_dflt (refine method_sub (Frag.In.keeps (by assumption) cF.keep) ?_)))) | ((with_reducible show wpAny _ _ (pyIter (Value.ref _)) _ _ _); (krs_unr)) | (with_reducible ((show wpAny _ _ (call (Value.ref _) _) _ _ _); ( k_here; (rename Fr _ _ _ _ => cF); (rename News _ _ _ _ => cN); k_dflt (refine bound_K cF cN (by k_mem) (by k_upd) ?_ (Nat.le_trans (m := 100) (by (simp only [List.size_toArray]); omega) (by decide))); intro h' F' N'; clear cF cN))) | (with_reducible ((show wpAny _ _ (call (Value.ref _) _) _ _ _); ( k_here; (rename Fr _ _ _ _ => cF); (rename News _ _ _ _ => cN); k_dflt (first | refine Fn.use' (escape_plain _ _ (by assumption) _) (by k_asm) cF (by k_asm) cN (by k_asm) (by rfl) (by rfl) (by assumption) (by assumption) (by decide) trivial ?_ | refine Fn.use' (escape_dash _ _) (by k_asm) cF (by k_asm) cN (by k_asm) (by rfl) (by rfl) (by assumption) (by assumption) (by decide) trivial ?_); intro v' h' tk' F' N' K' P'; clear cF cN; (obtain ⟨t', e'⟩ := P'); subst e'))) | (with_reducible ((show _ ∧ _); ((with_reducible show AppAt _ _ ∧ _); k_dflt (refine ⟨appAt_of (by k_asm) (by k_mem), ?_⟩); (try dsimp only [List.nil_append, List.cons_append])))) | (with_reducible ((show wpAny _ _ (callWith _ (Value.ref _) _ _ _) _ _ _); (k_here; k_dflt (refine' callWith_append ?kaN ?kaM ?_; (case kaN => k_asm); (case kaM => k_mem))))) | ((with_reducible show wpAny _ _ (subscriptTail _ _ (Value.str _ _) (Value.int _ _)) _ _ _); (k_dflt (first | refine item_piece (by with_reducible assumption) 0 (by omega) (by first | rfl | with_reducible assumption) (by with_reducible assumption) ?_ | refine item_piece (by with_reducible assumption) 1 (by omega) (by first | rfl | with_reducible assumption) (by with_reducible assumption) ?_ | refine item_piece (by with_reducible assumption) 2 (by omega) (by first | rfl | with_reducible assumption) (by with_reducible assumption) ?_ | refine item_piece (by with_reducible assumption) _ (by rfl) (by with_reducible assumption) (by with_reducible assumption) ?_))) | (with_reducible ((show @ite _ _ _ _ _); ((refine ite_both (fun hc => ?_) (fun hc => ?_)); (all_goals (try simp only [beq_iff_eq, decide_eq_true_eq, Bool.not_eq_true', bne_eq_false_iff_eq, bne_iff_ne, ne_eq, one_star, one_ask, one_open, one_close, one_bang] at hc)); (all_goals (try simp only [Bool.not_not] at hc)); (all_goals (try (exfalso; first | contradiction | k_dflt (first | omega | exact (plain_ne (by assumption)).1 hc | exact (plain_ne (by assumption)).2.1 hc | exact (plain_ne (by assumption)).2.2 hc))))))) | (with_reducible ((show wpAny _ _ (getAttr (Value.ref _) _ _) _ _ _); ( k_here; (rename Fr _ _ _ _ => cF); (rename News _ _ _ _ => cN); k_dflt (refine getAttr_K (by rfl) (by have e : recursionLimit = 1000 := rfl; (simp only [depth_deeper]); omega) (by have e : cLine = 9900 := rfl; (simp only [units_deeper]); omega) cF cN (by k_mem) ?_); intro h' tkA aadd hneA F' N'; clear cF cN))) | ((with_reducible show WhlIf _ _ _); first | (refine WhlIf.no (by simp only [decide_eq_false_iff_not]; omega) ?_) | (refine WhlIf.yes (by simp only [decide_eq_true_eq]; omega) ?_)) | ((k_here; (with_reducible show wpAny _ _ (subscriptTail _ _ (Value.str _ _) (Value.int _ _)) _ _ _); (refine item_at (by omega) (by omega) (by omega) ?_); intro kxiE))) | (dsimp only; walk1) | fail "no step")
                  refine Halt.out' ?_
                  (rename Fr _ _ _ _ => F5); (rename News _ _ _ _ => N5)
                  with_reducible refine slice_is (s := ⟨_, _, _, _, _⟩) F5 N5 hs2 hp ?_
                  intro h5 t5 k5 F5' N5'
                  clear F5 N5
                  repeat (first | (with_reducible first | (refine one_cut5 s1.gens s1.drawn s1.os ?_; intro tkC) | (refine cons_cut5 s1.gens s1.drawn s1.os ?_; intro tkC qC hC)) | (k_unfold; (try dsimp only)) | walk1 | (with_reducible first | refine CutQ.next (by assumption) ?_ | refine CutQ.ret (by assumption) ?_ | refine CutQ.brk (by assumption) ?_ | refine CutQ.cont (by assumption) ?_ | refine EndQ.ret (by assumption) ?_ | refine EndQ.next (by assumption) ?_) | ((refine Halt.out' ?_); first | (with_reducible ((show wpAny _ _ (call (Value.builtin "re.Pattern.sub") _) _ _ _); (k_here; (rename Fr _ _ _ _ => cF); (rename News _ _ _ _ => cN); k_dflt (refine sub_K (by assumption) (by first | assumption | rfl) (by rfl) (by have e : recursionLimit = 1000 := rfl; (simp only [depth_deeper]); omega) (by have e : cLine = 9900 := rfl; (simp only [units_deeper]); omega) (by assumption) cF cN (by k_mem) ?_); intro h' tk' t' F' N'; clear cF cN))) | (with_reducible ((show wpAny _ _ (eval (Expr.Lambda _ _ _ _) _) _ _ _); (k_here; (rename Fr _ _ _ _ => cF); (rename News _ _ _ _ => cN); k_dflt (refine lam_any (by assumption) cF cN hide1_none (by first | assumption | k_all) (by assumption) (by assumption) (by rfl) (by rfl) (by rfl) (by rfl) ?_); intro f' fd' h' tk' ps' hps' hne' F' N'; clear cF cN; (have hg' := gnNe_of hne'); (simp only [GnNe] at hg'); clear hne'))) | (with_reducible ((show wpAny _ _ (getMethod (Value.ref _) _ _) _ _ _); (k_here; (rename Fr _ _ _ _ => cF); k_dflt (refine method_sub (Frag.In.keeps (by assumption) cF.keep) ?_)))) | ((with_reducible show wpAny _ _ (pyIter (Value.ref _)) _ _ _); (krs_unr)) | (with_reducible ((show wpAny _ _ (call (Value.ref _) _) _ _ _); ( k_here; (rename Fr _ _ _ _ => cF); (rename News _ _ _ _ => cN); k_dflt (refine bound_K cF cN (by k_mem) (by k_upd) ?_ (Nat.le_trans (m := 100) (by (simp only [List.size_toArray]); omega) (by decide))); intro h' F' N'; clear cF cN))) | (with_reducible ((show wpAny _ _ (call (Value.ref _) _) _ _ _); ( k_here; (rename Fr _ _ _ _ => cF); (rename News _ _ _ _ => cN); k_dflt (first | refine Fn.use' (escape_plain _ _ (by assumption) _) (by k_asm) cF (by k_asm) cN (by k_asm) (by rfl) (by rfl) (by assumption) (by assumption) (by decide) trivial ?_ | refine Fn.use' (escape_dash _ _) (by k_asm) cF (by k_asm) cN (by k_asm) (by rfl) (by rfl) (by assumption) (by assumption) (by decide) trivial ?_); intro v' h' tk' F' N' K' P'; clear cF cN; (obtain ⟨t', e'⟩ := P'); subst e'))) | (with_reducible ((show _ ∧ _); ((with_reducible show AppAt _ _ ∧ _); k_dflt (refine ⟨appAt_of (by k_asm) (by k_mem), ?_⟩); (try dsimp only [List.nil_append, List.cons_append])))) | (with_reducible ((show wpAny _ _ (callWith _ (Value.ref _) _ _ _) _ _ _); (k_here; k_dflt (refine' callWith_append ?kaN ?kaM ?_; (case kaN => k_asm); (case kaM => k_mem))))) | ((with_reducible show wpAny _ _ (subscriptTail _ _ (Value.str _ _) (Value.int _ _)) _ _ _); (k_dflt (first | refine item_piece (by with_reducible assumption) 0 (by omega) (by first | rfl | with_reducible assumption) (by with_reducible assumption) ?_ | refine item_piece (by with_reducible assumption) 1 (by omega) (by first | rfl | with_reducible assumption) (by with_reducible assumption) ?_ | refine item_piece (by with_reducible assumption) 2 (by omega) (by first | rfl | with_reducible assumption) (by with_reducible assumption) ?_ | refine item_piece (by with_reducible assumption) _ (by rfl) (by with_reducible assumption) (by with_reducible assumption) ?_))) | (with_reducible ((show @ite _ _ _ _ _); ((refine ite_both (fun hc => ?_) (fun hc => ?_)); (all_goals (try simp only [beq_iff_eq, decide_eq_true_eq, Bool.not_eq_true', bne_eq_false_iff_eq, bne_iff_ne, ne_eq, one_star, one_ask, one_open, one_close, one_bang] at hc)); (all_goals (try simp only [Bool.not_not] at hc)); (all_goals (try (exfalso; first | contradiction | k_dflt (first | omega | exact (plain_ne (by assumption)).1 hc | exact (plain_ne (by assumption)).2.1 hc | exact (plain_ne (by assumption)).2.2 hc))))))) | (with_reducible ((show wpAny _ _ (getAttr (Value.ref _) _ _) _ _ _); ( k_here; (rename Fr _ _ _ _ => cF); (rename News _ _ _ _ => cN); k_dflt (refine getAttr_K (by rfl) (by have e : recursionLimit = 1000 := rfl; (simp only [depth_deeper]); omega) (by have e : cLine = 9900 := rfl; (simp only [units_deeper]); omega) cF cN (by k_mem) ?_); intro h' tkA aadd hneA F' N'; clear cF cN))) | ((with_reducible show WhlIf _ _ _); first | (refine WhlIf.no (by simp only [decide_eq_false_iff_not]; omega) ?_) | (refine WhlIf.yes (by simp only [decide_eq_true_eq]; omega) ?_)) | ((k_here; (with_reducible show wpAny _ _ (subscriptTail _ _ (Value.str _ _) (Value.int _ _)) _ _ _); (refine item_at (by omega) (by omega) (by omega) ?_); intro kxiE))) | (dsimp only; walk1) | fail "no step")
                  refine Halt.out' ?_
                  refine SBL.iadd (hsz := hz1) ?_
                  intro t6 k6 _
                  rw [hs3]
                  clear hs1 hs2 hs3 hz1
                  repeat (first | (with_reducible first | (refine one_cut5 s1.gens s1.drawn s1.os ?_; intro tkC) | (refine cons_cut5 s1.gens s1.drawn s1.os ?_; intro tkC qC hC)) | (k_unfold; (try dsimp only)) | walk1 | (with_reducible first | refine CutQ.next (by assumption) ?_ | refine CutQ.ret (by assumption) ?_ | refine CutQ.brk (by assumption) ?_ | refine CutQ.cont (by assumption) ?_ | refine EndQ.ret (by assumption) ?_ | refine EndQ.next (by assumption) ?_) | ((refine Halt.out' ?_); first | (with_reducible ((show wpAny _ _ (call (Value.builtin "re.Pattern.sub") _) _ _ _); (k_here; (rename Fr _ _ _ _ => cF); (rename News _ _ _ _ => cN); k_dflt (refine sub_K (by assumption) (by first | assumption | rfl) (by rfl) (by have e : recursionLimit = 1000 := rfl; (simp only [depth_deeper]); omega) (by have e : cLine = 9900 := rfl; (simp only [units_deeper]); omega) (by assumption) cF cN (by k_mem) ?_); intro h' tk' t' F' N'; clear cF cN))) | (with_reducible ((show wpAny _ _ (eval (Expr.Lambda _ _ _ _) _) _ _ _); (k_here; (rename Fr _ _ _ _ => cF); (rename News _ _ _ _ => cN); k_dflt (refine lam_any (by assumption) cF cN hide1_none (by first | assumption | k_all) (by assumption) (by assumption) (by rfl) (by rfl) (by rfl) (by rfl) ?_); intro f' fd' h' tk' ps' hps' hne' F' N'; clear cF cN; (have hg' := gnNe_of hne'); (simp only [GnNe] at hg'); clear hne'))) | (with_reducible ((show wpAny _ _ (getMethod (Value.ref _) _ _) _ _ _); (k_here; (rename Fr _ _ _ _ => cF); k_dflt (refine method_sub (Frag.In.keeps (by assumption) cF.keep) ?_)))) | ((with_reducible show wpAny _ _ (pyIter (Value.ref _)) _ _ _); (krs_unr)) | (with_reducible ((show wpAny _ _ (call (Value.ref _) _) _ _ _); ( k_here; (rename Fr _ _ _ _ => cF); (rename News _ _ _ _ => cN); k_dflt (refine bound_K cF cN (by k_mem) (by k_upd) ?_ (Nat.le_trans (m := 100) (by (simp only [List.size_toArray]); omega) (by decide))); intro h' F' N'; clear cF cN))) | (with_reducible ((show wpAny _ _ (call (Value.ref _) _) _ _ _); ( k_here; (rename Fr _ _ _ _ => cF); (rename News _ _ _ _ => cN); k_dflt (first | refine Fn.use' (escape_plain _ _ (by assumption) _) (by k_asm) cF (by k_asm) cN (by k_asm) (by rfl) (by rfl) (by assumption) (by assumption) (by decide) trivial ?_ | refine Fn.use' (escape_dash _ _) (by k_asm) cF (by k_asm) cN (by k_asm) (by rfl) (by rfl) (by assumption) (by assumption) (by decide) trivial ?_); intro v' h' tk' F' N' K' P'; clear cF cN; (obtain ⟨t', e'⟩ := P'); subst e'))) | (with_reducible ((show _ ∧ _); ((with_reducible show AppAt _ _ ∧ _); k_dflt (refine ⟨appAt_of (by k_asm) (by k_mem), ?_⟩); (try dsimp only [List.nil_append, List.cons_append])))) | (with_reducible ((show wpAny _ _ (callWith _ (Value.ref _) _ _ _) _ _ _); (k_here; k_dflt (refine' callWith_append ?kaN ?kaM ?_; (case kaN => k_asm); (case kaM => k_mem))))) | ((with_reducible show wpAny _ _ (subscriptTail _ _ (Value.str _ _) (Value.int _ _)) _ _ _); (k_dflt (first | refine item_piece (by with_reducible assumption) 0 (by omega) (by first | rfl | with_reducible assumption) (by with_reducible assumption) ?_ | refine item_piece (by with_reducible assumption) 1 (by omega) (by first | rfl | with_reducible assumption) (by with_reducible assumption) ?_ | refine item_piece (by with_reducible assumption) 2 (by omega) (by first | rfl | with_reducible assumption) (by with_reducible assumption) ?_ | refine item_piece (by with_reducible assumption) _ (by rfl) (by with_reducible assumption) (by with_reducible assumption) ?_))) | (with_reducible ((show @ite _ _ _ _ _); ((refine ite_both (fun hc => ?_) (fun hc => ?_)); (all_goals (try simp only [beq_iff_eq, decide_eq_true_eq, Bool.not_eq_true', bne_eq_false_iff_eq, bne_iff_ne, ne_eq, one_star, one_ask, one_open, one_close, one_bang] at hc)); (all_goals (try simp only [Bool.not_not] at hc)); (all_goals (try (exfalso; first | contradiction | k_dflt (first | omega | exact (plain_ne (by assumption)).1 hc | exact (plain_ne (by assumption)).2.1 hc | exact (plain_ne (by assumption)).2.2 hc))))))) | (with_reducible ((show wpAny _ _ (getAttr (Value.ref _) _ _) _ _ _); ( k_here; (rename Fr _ _ _ _ => cF); (rename News _ _ _ _ => cN); k_dflt (refine getAttr_K (by rfl) (by have e : recursionLimit = 1000 := rfl; (simp only [depth_deeper]); omega) (by have e : cLine = 9900 := rfl; (simp only [units_deeper]); omega) cF cN (by k_mem) ?_); intro h' tkA aadd hneA F' N'; clear cF cN))) | ((with_reducible show WhlIf _ _ _); first | (refine WhlIf.no (by simp only [decide_eq_false_iff_not]; omega) ?_) | (refine WhlIf.yes (by simp only [decide_eq_true_eq]; omega) ?_)) | ((k_here; (with_reducible show wpAny _ _ (subscriptTail _ _ (Value.str _ _) (Value.int _ _)) _ _ _); (refine item_at (by omega) (by omega) (by omega) ?_); intro kxiE))) | (dsimp only; walk1) | fail "no step")
                  refine Halt.out' ?_
                  (rename Fr _ _ _ _ => F7); (rename News _ _ _ _ => N7)
                  obtain ⟨bm9, ob9, M9⟩ := bmod_of_top T'
                  rename @LT.lt Nat _ 85 _ ∧ _ => hl19
                  have hl9 := Nat.ne_of_gt hl19.1
                  k_dflt (refine' gen_fr F7 N7 hl9 ?hn ht9 hide1_none G9 (fun y => ∃ u, y = .str ⟨(dashed x).toArray⟩ u) C' M9 T'.nolimit rfl (by rfl) (by rfl) (by rfl) (by decide) (by rfl) (by rfl) (by rfl) ?hr (by intro _; rfl) ?hi ?hq ?hQ)
                  case hr =>
                    clear hlen hp hL hxl9 hg9
                    have e : recursionLimit = 1000 := rfl
                    simp only [depth_deeper]
                    omega
                  case hn => exact hnws
                  case hi =>
                    intro Q7 hQ7
                    repeat (first | (with_reducible first | (refine one_cut5 s1.gens s1.drawn s1.os ?_; intro tkC) | (refine cons_cut5 s1.gens s1.drawn s1.os ?_; intro tkC qC hC)) | (k_unfold; (try dsimp only)) | walk1 | (with_reducible first | refine CutQ.next (by assumption) ?_ | refine CutQ.ret (by assumption) ?_ | refine CutQ.brk (by assumption) ?_ | refine CutQ.cont (by assumption) ?_ | refine EndQ.ret (by assumption) ?_ | refine EndQ.next (by assumption) ?_) | ((refine Halt.out' ?_); first | (with_reducible ((show wpAny _ _ (call (Value.builtin "re.Pattern.sub") _) _ _ _); (k_here; (rename Fr _ _ _ _ => cF); (rename News _ _ _ _ => cN); k_dflt (refine sub_K (by assumption) (by first | assumption | rfl) (by rfl) (by have e : recursionLimit = 1000 := rfl; (simp only [depth_deeper]); omega) (by have e : cLine = 9900 := rfl; (simp only [units_deeper]); omega) (by assumption) cF cN (by k_mem) ?_); intro h' tk' t' F' N'; clear cF cN))) | (with_reducible ((show wpAny _ _ (eval (Expr.Lambda _ _ _ _) _) _ _ _); (k_here; (rename Fr _ _ _ _ => cF); (rename News _ _ _ _ => cN); k_dflt (refine lam_any (by assumption) cF cN hide1_none (by first | assumption | k_all) (by assumption) (by assumption) (by rfl) (by rfl) (by rfl) (by rfl) ?_); intro f' fd' h' tk' ps' hps' hne' F' N'; clear cF cN; (have hg' := gnNe_of hne'); (simp only [GnNe] at hg'); clear hne'))) | (with_reducible ((show wpAny _ _ (getMethod (Value.ref _) _ _) _ _ _); (k_here; (rename Fr _ _ _ _ => cF); k_dflt (refine method_sub (Frag.In.keeps (by assumption) cF.keep) ?_)))) | ((with_reducible show wpAny _ _ (pyIter (Value.ref _)) _ _ _); (krs_unr)) | (with_reducible ((show wpAny _ _ (call (Value.ref _) _) _ _ _); ( k_here; (rename Fr _ _ _ _ => cF); (rename News _ _ _ _ => cN); k_dflt (refine bound_K cF cN (by k_mem) (by k_upd) ?_ (Nat.le_trans (m := 100) (by (simp only [List.size_toArray]); omega) (by decide))); intro h' F' N'; clear cF cN))) | (with_reducible ((show wpAny _ _ (call (Value.ref _) _) _ _ _); ( k_here; (rename Fr _ _ _ _ => cF); (rename News _ _ _ _ => cN); k_dflt (first | refine Fn.use' (escape_plain _ _ (by assumption) _) (by k_asm) cF (by k_asm) cN (by k_asm) (by rfl) (by rfl) (by assumption) (by assumption) (by decide) trivial ?_ | refine Fn.use' (escape_dash _ _) (by k_asm) cF (by k_asm) cN (by k_asm) (by rfl) (by rfl) (by assumption) (by assumption) (by decide) trivial ?_); intro v' h' tk' F' N' K' P'; clear cF cN; (obtain ⟨t', e'⟩ := P'); subst e'))) | (with_reducible ((show _ ∧ _); ((with_reducible show AppAt _ _ ∧ _); k_dflt (refine ⟨appAt_of (by k_asm) (by k_mem), ?_⟩); (try dsimp only [List.nil_append, List.cons_append])))) | (with_reducible ((show wpAny _ _ (callWith _ (Value.ref _) _ _ _) _ _ _); (k_here; k_dflt (refine' callWith_append ?kaN ?kaM ?_; (case kaN => k_asm); (case kaM => k_mem))))) | ((with_reducible show wpAny _ _ (subscriptTail _ _ (Value.str _ _) (Value.int _ _)) _ _ _); (k_dflt (first | refine item_piece (by with_reducible assumption) 0 (by omega) (by first | rfl | with_reducible assumption) (by with_reducible assumption) ?_ | refine item_piece (by with_reducible assumption) 1 (by omega) (by first | rfl | with_reducible assumption) (by with_reducible assumption) ?_ | refine item_piece (by with_reducible assumption) 2 (by omega) (by first | rfl | with_reducible assumption) (by with_reducible assumption) ?_ | refine item_piece (by with_reducible assumption) _ (by rfl) (by with_reducible assumption) (by with_reducible assumption) ?_))) | (with_reducible ((show @ite _ _ _ _ _); ((refine ite_both (fun hc => ?_) (fun hc => ?_)); (all_goals (try simp only [beq_iff_eq, decide_eq_true_eq, Bool.not_eq_true', bne_eq_false_iff_eq, bne_iff_ne, ne_eq, one_star, one_ask, one_open, one_close, one_bang] at hc)); (all_goals (try simp only [Bool.not_not] at hc)); (all_goals (try (exfalso; first | contradiction | k_dflt (first | omega | exact (plain_ne (by assumption)).1 hc | exact (plain_ne (by assumption)).2.1 hc | exact (plain_ne (by assumption)).2.2 hc))))))) | (with_reducible ((show wpAny _ _ (getAttr (Value.ref _) _ _) _ _ _); ( k_here; (rename Fr _ _ _ _ => cF); (rename News _ _ _ _ => cN); k_dflt (refine getAttr_K (by rfl) (by have e : recursionLimit = 1000 := rfl; (simp only [depth_deeper]); omega) (by have e : cLine = 9900 := rfl; (simp only [units_deeper]); omega) cF cN (by k_mem) ?_); intro h' tkA aadd hneA F' N'; clear cF cN))) | ((with_reducible show WhlIf _ _ _); first | (refine WhlIf.no (by simp only [decide_eq_false_iff_not]; omega) ?_) | (refine WhlIf.yes (by simp only [decide_eq_true_eq]; omega) ?_)) | ((k_here; (with_reducible show wpAny _ _ (subscriptTail _ _ (Value.str _ _) (Value.int _ _)) _ _ _); (refine item_at (by omega) (by omega) (by omega) ?_); intro kxiE))) | (dsimp only; walk1) | fail "no step")
                    exact hQ7
                  case hq =>
                    intro A7 E7 t7 C7 m7 code7 hA7 FG7 hm7
                    clear F7 N7
                    repeat (first | ((with_reducible show wpAny _ _ (eval (Expr.Name _ _) _) _ _ _); with_reducible ((with_reducible refine inGen ?_); (rename Fr _ _ _ _ => gF'); with_unfolding_all refine ldVarG gF' (by assumption) ?_)) | (with_reducible first | (refine one_cut5 s1.gens s1.drawn s1.os ?_; intro tkC) | (refine cons_cut5 s1.gens s1.drawn s1.os ?_; intro tkC qC hC)) | (k_unfold; (try dsimp only)) | walk1 | (with_reducible first | refine CutQ.next (by assumption) ?_ | refine CutQ.ret (by assumption) ?_ | refine CutQ.brk (by assumption) ?_ | refine CutQ.cont (by assumption) ?_ | refine EndQ.ret (by assumption) ?_ | refine EndQ.next (by assumption) ?_) | ((refine Halt.out' ?_); first | (with_reducible ((show wpAny _ _ (call (Value.builtin "re.Pattern.sub") _) _ _ _); (k_here; (rename Fr _ _ _ _ => cF); (rename News _ _ _ _ => cN); k_dflt (refine sub_K (by assumption) (by first | assumption | rfl) (by rfl) (by have e : recursionLimit = 1000 := rfl; (simp only [depth_deeper]); omega) (by have e : cLine = 9900 := rfl; (simp only [units_deeper]); omega) (by assumption) cF cN (by k_mem) ?_); intro h' tk' t' F' N'; clear cF cN))) | (with_reducible ((show wpAny _ _ (eval (Expr.Lambda _ _ _ _) _) _ _ _); (k_here; (rename Fr _ _ _ _ => cF); (rename News _ _ _ _ => cN); k_dflt (refine lam_any (by assumption) cF cN hide1_none (by first | assumption | k_all) (by assumption) (by assumption) (by rfl) (by rfl) (by rfl) (by rfl) ?_); intro f' fd' h' tk' ps' hps' hne' F' N'; clear cF cN; (have hg' := gnNe_of hne'); (simp only [GnNe] at hg'); clear hne'))) | (with_reducible ((show wpAny _ _ (getMethod (Value.ref _) _ _) _ _ _); (k_here; (rename Fr _ _ _ _ => cF); k_dflt (refine method_sub (Frag.In.keeps (by assumption) cF.keep) ?_)))) | ((with_reducible show wpAny _ _ (pyIter (Value.ref _)) _ _ _); (krs_unr)) | (with_reducible ((show wpAny _ _ (call (Value.ref _) _) _ _ _); ( k_here; (rename Fr _ _ _ _ => cF); (rename News _ _ _ _ => cN); k_dflt (refine bound_K cF cN (by k_mem) (by k_upd) ?_ (Nat.le_trans (m := 100) (by (simp only [List.size_toArray]); omega) (by decide))); intro h' F' N'; clear cF cN))) | (with_reducible ((show wpAny _ _ (call (Value.ref _) _) _ _ _); ( k_here; (rename Fr _ _ _ _ => cF); (rename News _ _ _ _ => cN); k_dflt (first | refine Fn.use' (escape_plain _ _ (by assumption) _) (by k_asm) cF (by k_asm) cN (by k_asm) (by rfl) (by rfl) (by assumption) (by assumption) (by decide) trivial ?_ | refine Fn.use' (escape_dash _ _) (by k_asm) cF (by k_asm) cN (by k_asm) (by rfl) (by rfl) (by assumption) (by assumption) (by decide) trivial ?_); intro v' h' tk' F' N' K' P'; clear cF cN; (obtain ⟨t', e'⟩ := P'); subst e'))) | (with_reducible ((show _ ∧ _); ((with_reducible show AppAt _ _ ∧ _); k_dflt (refine ⟨appAt_of (by k_asm) (by k_mem), ?_⟩); (try dsimp only [List.nil_append, List.cons_append])))) | (with_reducible ((show wpAny _ _ (callWith _ (Value.ref _) _ _ _) _ _ _); (k_here; k_dflt (refine' callWith_append ?kaN ?kaM ?_; (case kaN => k_asm); (case kaM => k_mem))))) | ((with_reducible show wpAny _ _ (subscriptTail _ _ (Value.str _ _) (Value.int _ _)) _ _ _); (k_dflt (first | refine item_piece (by with_reducible assumption) 0 (by omega) (by first | rfl | with_reducible assumption) (by with_reducible assumption) ?_ | refine item_piece (by with_reducible assumption) 1 (by omega) (by first | rfl | with_reducible assumption) (by with_reducible assumption) ?_ | refine item_piece (by with_reducible assumption) 2 (by omega) (by first | rfl | with_reducible assumption) (by with_reducible assumption) ?_ | refine item_piece (by with_reducible assumption) _ (by rfl) (by with_reducible assumption) (by with_reducible assumption) ?_))) | (with_reducible ((show @ite _ _ _ _ _); ((refine ite_both (fun hc => ?_) (fun hc => ?_)); (all_goals (try simp only [beq_iff_eq, decide_eq_true_eq, Bool.not_eq_true', bne_eq_false_iff_eq, bne_iff_ne, ne_eq, one_star, one_ask, one_open, one_close, one_bang] at hc)); (all_goals (try simp only [Bool.not_not] at hc)); (all_goals (try (exfalso; first | contradiction | k_dflt (first | omega | exact (plain_ne (by assumption)).1 hc | exact (plain_ne (by assumption)).2.1 hc | exact (plain_ne (by assumption)).2.2 hc))))))) | (with_reducible ((show wpAny _ _ (getAttr (Value.ref _) _ _) _ _ _); ( k_here; (rename Fr _ _ _ _ => cF); (rename News _ _ _ _ => cN); k_dflt (refine getAttr_K (by rfl) (by have e : recursionLimit = 1000 := rfl; (simp only [depth_deeper]); omega) (by have e : cLine = 9900 := rfl; (simp only [units_deeper]); omega) cF cN (by k_mem) ?_); intro h' tkA aadd hneA F' N'; clear cF cN))) | ((with_reducible show WhlIf _ _ _); first | (refine WhlIf.no (by simp only [decide_eq_false_iff_not]; omega) ?_) | (refine WhlIf.yes (by simp only [decide_eq_true_eq]; omega) ?_)) | ((k_here; (with_reducible show wpAny _ _ (subscriptTail _ _ (Value.str _ _) (Value.int _ _)) _ _ _); (refine item_at (by omega) (by omega) (by omega) ?_); intro kxiE))) | (dsimp only; walk1) | fail "no step")
                    refine Halt.out' ?_
                    refine replace_none fO ?_
                    repeat (first | ((with_reducible show wpAny _ _ (eval (Expr.Name _ _) _) _ _ _); with_reducible ((with_reducible refine inGen ?_); (rename Fr _ _ _ _ => gF'); with_unfolding_all refine ldVarG gF' (by assumption) ?_)) | (with_reducible first | (refine one_cut5 s1.gens s1.drawn s1.os ?_; intro tkC) | (refine cons_cut5 s1.gens s1.drawn s1.os ?_; intro tkC qC hC)) | (k_unfold; (try dsimp only)) | walk1 | (with_reducible first | refine CutQ.next (by assumption) ?_ | refine CutQ.ret (by assumption) ?_ | refine CutQ.brk (by assumption) ?_ | refine CutQ.cont (by assumption) ?_ | refine EndQ.ret (by assumption) ?_ | refine EndQ.next (by assumption) ?_) | ((refine Halt.out' ?_); first | (with_reducible ((show wpAny _ _ (call (Value.builtin "re.Pattern.sub") _) _ _ _); (k_here; (rename Fr _ _ _ _ => cF); (rename News _ _ _ _ => cN); k_dflt (refine sub_K (by assumption) (by first | assumption | rfl) (by rfl) (by have e : recursionLimit = 1000 := rfl; (simp only [depth_deeper]); omega) (by have e : cLine = 9900 := rfl; (simp only [units_deeper]); omega) (by assumption) cF cN (by k_mem) ?_); intro h' tk' t' F' N'; clear cF cN))) | (with_reducible ((show wpAny _ _ (eval (Expr.Lambda _ _ _ _) _) _ _ _); (k_here; (rename Fr _ _ _ _ => cF); (rename News _ _ _ _ => cN); k_dflt (refine lam_any (by assumption) cF cN hide1_none (by first | assumption | k_all) (by assumption) (by assumption) (by rfl) (by rfl) (by rfl) (by rfl) ?_); intro f' fd' h' tk' ps' hps' hne' F' N'; clear cF cN; (have hg' := gnNe_of hne'); (simp only [GnNe] at hg'); clear hne'))) | (with_reducible ((show wpAny _ _ (getMethod (Value.ref _) _ _) _ _ _); (k_here; (rename Fr _ _ _ _ => cF); k_dflt (refine method_sub (Frag.In.keeps (by assumption) cF.keep) ?_)))) | ((with_reducible show wpAny _ _ (pyIter (Value.ref _)) _ _ _); (krs_unr)) | (with_reducible ((show wpAny _ _ (call (Value.ref _) _) _ _ _); ( k_here; (rename Fr _ _ _ _ => cF); (rename News _ _ _ _ => cN); k_dflt (refine bound_K cF cN (by k_mem) (by k_upd) ?_ (Nat.le_trans (m := 100) (by (simp only [List.size_toArray]); omega) (by decide))); intro h' F' N'; clear cF cN))) | (with_reducible ((show wpAny _ _ (call (Value.ref _) _) _ _ _); ( k_here; (rename Fr _ _ _ _ => cF); (rename News _ _ _ _ => cN); k_dflt (first | refine Fn.use' (escape_plain _ _ (by assumption) _) (by k_asm) cF (by k_asm) cN (by k_asm) (by rfl) (by rfl) (by assumption) (by assumption) (by decide) trivial ?_ | refine Fn.use' (escape_dash _ _) (by k_asm) cF (by k_asm) cN (by k_asm) (by rfl) (by rfl) (by assumption) (by assumption) (by decide) trivial ?_); intro v' h' tk' F' N' K' P'; clear cF cN; (obtain ⟨t', e'⟩ := P'); subst e'))) | (with_reducible ((show _ ∧ _); ((with_reducible show AppAt _ _ ∧ _); k_dflt (refine ⟨appAt_of (by k_asm) (by k_mem), ?_⟩); (try dsimp only [List.nil_append, List.cons_append])))) | (with_reducible ((show wpAny _ _ (callWith _ (Value.ref _) _ _ _) _ _ _); (k_here; k_dflt (refine' callWith_append ?kaN ?kaM ?_; (case kaN => k_asm); (case kaM => k_mem))))) | ((with_reducible show wpAny _ _ (subscriptTail _ _ (Value.str _ _) (Value.int _ _)) _ _ _); (k_dflt (first | refine item_piece (by with_reducible assumption) 0 (by omega) (by first | rfl | with_reducible assumption) (by with_reducible assumption) ?_ | refine item_piece (by with_reducible assumption) 1 (by omega) (by first | rfl | with_reducible assumption) (by with_reducible assumption) ?_ | refine item_piece (by with_reducible assumption) 2 (by omega) (by first | rfl | with_reducible assumption) (by with_reducible assumption) ?_ | refine item_piece (by with_reducible assumption) _ (by rfl) (by with_reducible assumption) (by with_reducible assumption) ?_))) | (with_reducible ((show @ite _ _ _ _ _); ((refine ite_both (fun hc => ?_) (fun hc => ?_)); (all_goals (try simp only [beq_iff_eq, decide_eq_true_eq, Bool.not_eq_true', bne_eq_false_iff_eq, bne_iff_ne, ne_eq, one_star, one_ask, one_open, one_close, one_bang] at hc)); (all_goals (try simp only [Bool.not_not] at hc)); (all_goals (try (exfalso; first | contradiction | k_dflt (first | omega | exact (plain_ne (by assumption)).1 hc | exact (plain_ne (by assumption)).2.1 hc | exact (plain_ne (by assumption)).2.2 hc))))))) | (with_reducible ((show wpAny _ _ (getAttr (Value.ref _) _ _) _ _ _); ( k_here; (rename Fr _ _ _ _ => cF); (rename News _ _ _ _ => cN); k_dflt (refine getAttr_K (by rfl) (by have e : recursionLimit = 1000 := rfl; (simp only [depth_deeper]); omega) (by have e : cLine = 9900 := rfl; (simp only [units_deeper]); omega) cF cN (by k_mem) ?_); intro h' tkA aadd hneA F' N'; clear cF cN))) | ((with_reducible show WhlIf _ _ _); first | (refine WhlIf.no (by simp only [decide_eq_false_iff_not]; omega) ?_) | (refine WhlIf.yes (by simp only [decide_eq_true_eq]; omega) ?_)) | ((k_here; (with_reducible show wpAny _ _ (subscriptTail _ _ (Value.str _ _) (Value.int _ _)) _ _ _); (refine item_at (by omega) (by omega) (by omega) ?_); intro kxiE))) | (dsimp only; walk1) | fail "no step")
                    refine Halt.out' ?_
                    refine replace_to (by simp) (by simp) (by simp) dash_ne hxl9 dash_len g2 ?_
                    intro t8 k8
                    exact ⟨⟨_, rfl⟩, _, _, rfl, fun _ _ e => e⟩
                  case hQ =>
                    intro a7 K7 s7 ps7 F7' N7' ht7 G7 ho7 hLK7 hK7 X7
                    clear F7 N7
                    repeat (first | (with_reducible first | (refine one_cut5 s7.gens s7.drawn s7.os ?_; intro tkC) | (refine cons_cut5 s7.gens s7.drawn s7.os ?_; intro tkC qC hC)) | (k_unfold; (try dsimp only)) | walk1 | (with_reducible first | refine CutQ.next (by assumption) ?_ | refine CutQ.ret (by assumption) ?_ | refine CutQ.brk (by assumption) ?_ | refine CutQ.cont (by assumption) ?_ | refine EndQ.ret (by assumption) ?_ | refine EndQ.next (by assumption) ?_) | ((refine Halt.out' ?_); first | (with_reducible ((show wpAny _ _ (call (Value.builtin "re.Pattern.sub") _) _ _ _); (k_here; (rename Fr _ _ _ _ => cF); (rename News _ _ _ _ => cN); k_dflt (refine sub_K (by assumption) (by first | assumption | rfl) (by rfl) (by have e : recursionLimit = 1000 := rfl; (simp only [depth_deeper]); omega) (by have e : cLine = 9900 := rfl; (simp only [units_deeper]); omega) (by assumption) cF cN (by k_mem) ?_); intro h' tk' t' F' N'; clear cF cN))) | (with_reducible ((show wpAny _ _ (eval (Expr.Lambda _ _ _ _) _) _ _ _); (k_here; (rename Fr _ _ _ _ => cF); (rename News _ _ _ _ => cN); k_dflt (refine lam_any (by assumption) cF cN hide1_none (by first | assumption | k_all) (by assumption) (by assumption) (by rfl) (by rfl) (by rfl) (by rfl) ?_); intro f' fd' h' tk' ps' hps' hne' F' N'; clear cF cN; (have hg' := gnNe_of hne'); (simp only [GnNe] at hg'); clear hne'))) | (with_reducible ((show wpAny _ _ (getMethod (Value.ref _) _ _) _ _ _); (k_here; (rename Fr _ _ _ _ => cF); k_dflt (refine method_sub (Frag.In.keeps (by assumption) cF.keep) ?_)))) | ((with_reducible show wpAny _ _ (pyIter (Value.ref _)) _ _ _); (krs_unr)) | (with_reducible ((show wpAny _ _ (call (Value.ref _) _) _ _ _); ( k_here; (rename Fr _ _ _ _ => cF); (rename News _ _ _ _ => cN); k_dflt (refine bound_K cF cN (by k_mem) (by k_upd) ?_ (Nat.le_trans (m := 100) (by (simp only [List.size_toArray]); omega) (by decide))); intro h' F' N'; clear cF cN))) | (with_reducible ((show wpAny _ _ (call (Value.ref _) _) _ _ _); ( k_here; (rename Fr _ _ _ _ => cF); (rename News _ _ _ _ => cN); k_dflt (first | refine Fn.use' (escape_plain _ _ (by assumption) _) (by k_asm) cF (by k_asm) cN (by k_asm) (by rfl) (by rfl) (by assumption) (by assumption) (by decide) trivial ?_ | refine Fn.use' (escape_dash _ _) (by k_asm) cF (by k_asm) cN (by k_asm) (by rfl) (by rfl) (by assumption) (by assumption) (by decide) trivial ?_); intro v' h' tk' F' N' K' P'; clear cF cN; (obtain ⟨t', e'⟩ := P'); subst e'))) | (with_reducible ((show _ ∧ _); ((with_reducible show AppAt _ _ ∧ _); k_dflt (refine ⟨appAt_of (by k_asm) (by k_mem), ?_⟩); (try dsimp only [List.nil_append, List.cons_append])))) | (with_reducible ((show wpAny _ _ (callWith _ (Value.ref _) _ _ _) _ _ _); (k_here; k_dflt (refine' callWith_append ?kaN ?kaM ?_; (case kaN => k_asm); (case kaM => k_mem))))) | ((with_reducible show wpAny _ _ (subscriptTail _ _ (Value.str _ _) (Value.int _ _)) _ _ _); (k_dflt (first | refine item_piece (by with_reducible assumption) 0 (by omega) (by first | rfl | with_reducible assumption) (by with_reducible assumption) ?_ | refine item_piece (by with_reducible assumption) 1 (by omega) (by first | rfl | with_reducible assumption) (by with_reducible assumption) ?_ | refine item_piece (by with_reducible assumption) 2 (by omega) (by first | rfl | with_reducible assumption) (by with_reducible assumption) ?_ | refine item_piece (by with_reducible assumption) _ (by rfl) (by with_reducible assumption) (by with_reducible assumption) ?_))) | (with_reducible ((show @ite _ _ _ _ _); ((refine ite_both (fun hc => ?_) (fun hc => ?_)); (all_goals (try simp only [beq_iff_eq, decide_eq_true_eq, Bool.not_eq_true', bne_eq_false_iff_eq, bne_iff_ne, ne_eq, one_star, one_ask, one_open, one_close, one_bang] at hc)); (all_goals (try simp only [Bool.not_not] at hc)); (all_goals (try (exfalso; first | contradiction | k_dflt (first | omega | exact (plain_ne (by assumption)).1 hc | exact (plain_ne (by assumption)).2.1 hc | exact (plain_ne (by assumption)).2.2 hc))))))) | (with_reducible ((show wpAny _ _ (getAttr (Value.ref _) _ _) _ _ _); ( k_here; (rename Fr _ _ _ _ => cF); (rename News _ _ _ _ => cN); k_dflt (refine getAttr_K (by rfl) (by have e : recursionLimit = 1000 := rfl; (simp only [depth_deeper]); omega) (by have e : cLine = 9900 := rfl; (simp only [units_deeper]); omega) cF cN (by k_mem) ?_); intro h' tkA aadd hneA F' N'; clear cF cN))) | ((with_reducible show WhlIf _ _ _); first | (refine WhlIf.no (by simp only [decide_eq_false_iff_not]; omega) ?_) | (refine WhlIf.yes (by simp only [decide_eq_true_eq]; omega) ?_)) | ((k_here; (with_reducible show wpAny _ _ (subscriptTail _ _ (Value.str _ _) (Value.int _ _)) _ _ _); (refine item_at (by omega) (by omega) (by omega) ?_); intro kxiE))) | (dsimp only; walk1) | fail "no step")
                    refine Halt.out' ?_
                    (rename Fr _ _ _ _ => F8); (rename News _ _ _ _ => N8)
                    k_dflt (refine join_gen1 F8 N8 G7 X7 hLK7 hK7 hg9 (by decide +kernel) ?_)
                    intro s8 t8 F8' N8' G8 ho8
                    clear F8 N8 X7 hK7 hLK7
                    repeat (first | (with_reducible first | (refine one_cut5 s8.gens s8.drawn s8.os ?_; intro tkC) | (refine cons_cut5 s8.gens s8.drawn s8.os ?_; intro tkC qC hC)) | (k_unfold; (try dsimp only)) | walk1 | (with_reducible first | refine CutQ.next (by assumption) ?_ | refine CutQ.ret (by assumption) ?_ | refine CutQ.brk (by assumption) ?_ | refine CutQ.cont (by assumption) ?_ | refine EndQ.ret (by assumption) ?_ | refine EndQ.next (by assumption) ?_) | ((refine Halt.out' ?_); first | (with_reducible ((show wpAny _ _ (call (Value.builtin "re.Pattern.sub") _) _ _ _); (k_here; (rename Fr _ _ _ _ => cF); (rename News _ _ _ _ => cN); k_dflt (refine sub_K (by assumption) (by first | assumption | rfl) (by rfl) (by have e : recursionLimit = 1000 := rfl; (simp only [depth_deeper]); omega) (by have e : cLine = 9900 := rfl; (simp only [units_deeper]); omega) (by assumption) cF cN (by k_mem) ?_); intro h' tk' t' F' N'; clear cF cN))) | (with_reducible ((show wpAny _ _ (eval (Expr.Lambda _ _ _ _) _) _ _ _); (k_here; (rename Fr _ _ _ _ => cF); (rename News _ _ _ _ => cN); k_dflt (refine lam_any (by assumption) cF cN hide1_none (by first | assumption | k_all) (by assumption) (by assumption) (by rfl) (by rfl) (by rfl) (by rfl) ?_); intro f' fd' h' tk' ps' hps' hne' F' N'; clear cF cN; (have hg' := gnNe_of hne'); (simp only [GnNe] at hg'); clear hne'))) | (with_reducible ((show wpAny _ _ (getMethod (Value.ref _) _ _) _ _ _); (k_here; (rename Fr _ _ _ _ => cF); k_dflt (refine method_sub (Frag.In.keeps (by assumption) cF.keep) ?_)))) | ((with_reducible show wpAny _ _ (pyIter (Value.ref _)) _ _ _); (krs_unr)) | (with_reducible ((show wpAny _ _ (call (Value.ref _) _) _ _ _); ( k_here; (rename Fr _ _ _ _ => cF); (rename News _ _ _ _ => cN); k_dflt (refine bound_K cF cN (by k_mem) (by k_upd) ?_ (Nat.le_trans (m := 100) (by (simp only [List.size_toArray]); omega) (by decide))); intro h' F' N'; clear cF cN))) | (with_reducible ((show wpAny _ _ (call (Value.ref _) _) _ _ _); ( k_here; (rename Fr _ _ _ _ => cF); (rename News _ _ _ _ => cN); k_dflt (first | refine Fn.use' (escape_plain _ _ (by assumption) _) (by k_asm) cF (by k_asm) cN (by k_asm) (by rfl) (by rfl) (by assumption) (by assumption) (by decide) trivial ?_ | refine Fn.use' (escape_dash _ _) (by k_asm) cF (by k_asm) cN (by k_asm) (by rfl) (by rfl) (by assumption) (by assumption) (by decide) trivial ?_); intro v' h' tk' F' N' K' P'; clear cF cN; (obtain ⟨t', e'⟩ := P'); subst e'))) | (with_reducible ((show _ ∧ _); ((with_reducible show AppAt _ _ ∧ _); k_dflt (refine ⟨appAt_of (by k_asm) (by k_mem), ?_⟩); (try dsimp only [List.nil_append, List.cons_append])))) | (with_reducible ((show wpAny _ _ (callWith _ (Value.ref _) _ _ _) _ _ _); (k_here; k_dflt (refine' callWith_append ?kaN ?kaM ?_; (case kaN => k_asm); (case kaM => k_mem))))) | ((with_reducible show wpAny _ _ (subscriptTail _ _ (Value.str _ _) (Value.int _ _)) _ _ _); (k_dflt (first | refine item_piece (by with_reducible assumption) 0 (by omega) (by first | rfl | with_reducible assumption) (by with_reducible assumption) ?_ | refine item_piece (by with_reducible assumption) 1 (by omega) (by first | rfl | with_reducible assumption) (by with_reducible assumption) ?_ | refine item_piece (by with_reducible assumption) 2 (by omega) (by first | rfl | with_reducible assumption) (by with_reducible assumption) ?_ | refine item_piece (by with_reducible assumption) _ (by rfl) (by with_reducible assumption) (by with_reducible assumption) ?_))) | (with_reducible ((show @ite _ _ _ _ _); ((refine ite_both (fun hc => ?_) (fun hc => ?_)); (all_goals (try simp only [beq_iff_eq, decide_eq_true_eq, Bool.not_eq_true', bne_eq_false_iff_eq, bne_iff_ne, ne_eq, one_star, one_ask, one_open, one_close, one_bang] at hc)); (all_goals (try simp only [Bool.not_not] at hc)); (all_goals (try (exfalso; first | contradiction | k_dflt (first | omega | exact (plain_ne (by assumption)).1 hc | exact (plain_ne (by assumption)).2.1 hc | exact (plain_ne (by assumption)).2.2 hc))))))) | (with_reducible ((show wpAny _ _ (getAttr (Value.ref _) _ _) _ _ _); ( k_here; (rename Fr _ _ _ _ => cF); (rename News _ _ _ _ => cN); k_dflt (refine getAttr_K (by rfl) (by have e : recursionLimit = 1000 := rfl; (simp only [depth_deeper]); omega) (by have e : cLine = 9900 := rfl; (simp only [units_deeper]); omega) cF cN (by k_mem) ?_); intro h' tkA aadd hneA F' N'; clear cF cN))) | ((with_reducible show WhlIf _ _ _); first | (refine WhlIf.no (by simp only [decide_eq_false_iff_not]; omega) ?_) | (refine WhlIf.yes (by simp only [decide_eq_true_eq]; omega) ?_)) | ((k_here; (with_reducible show wpAny _ _ (subscriptTail _ _ (Value.str _ _) (Value.int _ _)) _ _ _); (refine item_at (by omega) (by omega) (by omega) ?_); intro kxiE))) | (dsimp only; walk1) | fail "no step")
                    (rename Fr _ _ _ _ => cF); (rename News _ _ _ _ => cN)
                    (try dsimp only)
                    exact Shut.mk ⟨by trivial, _, _, _, _, _, fr_trS cF (by (refine List.forall_mem_cons.mpr ⟨rfl, ?_⟩; (refine List.forall_mem_cons.mpr ⟨rfl, List.forall_mem_cons.mpr ⟨rfl, List.forall_mem_cons.mpr ⟨rfl, List.forall_mem_cons.mpr ⟨rfl, List.forall_mem_cons.mpr ⟨rfl, List.forall_mem_cons.mpr ⟨rfl, List.forall_mem_cons.mpr ⟨rfl, List.forall_mem_nil _⟩⟩⟩⟩⟩⟩⟩))), cN, by (intro q hq; (rcases List.mem_cons.mp hq with hq | hq); (rw [hq]; k_mem); (rcases List.mem_cons.mp hq with hq | hq); (rw [hq]; k_mem); (rw [List.mem_singleton.mp hq]; k_mem)), ht7, G8, by rw [ho8, ho7]; exact ho9⟩
              rintro _ s9 ⟨rfl, f9, tj9, tx9, ps9, nw9, F9, N9, hn9, hps9, G9', ho9'⟩
              exact ⟨rfl, f9, tj9, tx9, ps9, F9, fun p hp => N9 p (hn9 p hp), hps9, G9', ho9'⟩
            obtain ⟨m1, m2, m3, m4⟩ := factsM _ hx
            dsimp only at m1 m2 m3 m4
            rintro _ s9 ⟨rfl, f9, tj9, tx9, ps9, F9, N9, hps9, G9', ho9'⟩
            unfold trS at F9
            (try dsimp only)
            clear G9 ho9 hsl hat ha ha' hpos hta hane hbne
            (try clear F3' N3')
            by_cases hbang : x[0]? = some 33
            · obtain ⟨t1, t2, t3⟩ := factsB _ hx hbang
              dsimp only at t1 t2 t3
              have t9 := factsL _ hx
              dsimp only at t9
              rw [← t3] at t9
              clear hb0
              repeat (first | (with_reducible first | (refine one_cut5 s9.gens s9.drawn s9.os ?_; intro tkC) | (refine cons_cut5 s9.gens s9.drawn s9.os ?_; intro tkC qC hC)) | (k_unfold; (try dsimp only)) | walk1 | (with_reducible first | refine CutQ.next (by assumption) ?_ | refine CutQ.ret (by assumption) ?_ | refine CutQ.brk (by assumption) ?_ | refine CutQ.cont (by assumption) ?_ | refine EndQ.ret (by assumption) ?_ | refine EndQ.next (by assumption) ?_) | ((refine Halt.out' ?_); first | (with_reducible ((show wpAny _ _ (call (Value.builtin "re.Pattern.sub") _) _ _ _); (k_here; (rename Fr _ _ _ _ => cF); (rename News _ _ _ _ => cN); k_dflt (refine sub_K (by assumption) (by first | assumption | rfl) (by rfl) (by have e : recursionLimit = 1000 := rfl; (simp only [depth_deeper]); omega) (by have e : cLine = 9900 := rfl; (simp only [units_deeper]); omega) (by assumption) cF cN (by k_mem) ?_); intro h' tk' t' F' N'; clear cF cN))) | (with_reducible ((show wpAny _ _ (eval (Expr.Lambda _ _ _ _) _) _ _ _); (k_here; (rename Fr _ _ _ _ => cF); (rename News _ _ _ _ => cN); k_dflt (refine lam_any (by assumption) cF cN hide1_none (by first | assumption | k_all) (by assumption) (by assumption) (by rfl) (by rfl) (by rfl) (by rfl) ?_); intro f' fd' h' tk' ps' hps' hne' F' N'; clear cF cN; (have hg' := gnNe_of hne'); (simp only [GnNe] at hg'); clear hne'))) | (with_reducible ((show wpAny _ _ (getMethod (Value.ref _) _ _) _ _ _); (k_here; (rename Fr _ _ _ _ => cF); k_dflt (refine method_sub (Frag.In.keeps (by assumption) cF.keep) ?_)))) | ((with_reducible show wpAny _ _ (pyIter (Value.ref _)) _ _ _); (krs_unr)) | (with_reducible ((show wpAny _ _ (call (Value.ref _) _) _ _ _); ( k_here; (rename Fr _ _ _ _ => cF); (rename News _ _ _ _ => cN); k_dflt (refine bound_K cF cN (by k_mem) (by k_upd) ?_ (Nat.le_trans (m := 100) (by (simp only [List.size_toArray]); omega) (by decide))); intro h' F' N'; clear cF cN))) | (with_reducible ((show wpAny _ _ (call (Value.ref _) _) _ _ _); ( k_here; (rename Fr _ _ _ _ => cF); (rename News _ _ _ _ => cN); k_dflt (first | refine Fn.use' (escape_plain _ _ (by assumption) _) (by k_asm) cF (by k_asm) cN (by k_asm) (by rfl) (by rfl) (by assumption) (by assumption) (by decide) trivial ?_ | refine Fn.use' (escape_dash _ _) (by k_asm) cF (by k_asm) cN (by k_asm) (by rfl) (by rfl) (by assumption) (by assumption) (by decide) trivial ?_); intro v' h' tk' F' N' K' P'; clear cF cN; (obtain ⟨t', e'⟩ := P'); subst e'))) | (with_reducible ((show _ ∧ _); ((with_reducible show AppAt _ _ ∧ _); k_dflt (refine ⟨appAt_of (by k_asm) (by k_mem), ?_⟩); (try dsimp only [List.nil_append, List.cons_append])))) | (with_reducible ((show wpAny _ _ (callWith _ (Value.ref _) _ _ _) _ _ _); (k_here; k_dflt (refine' callWith_append ?kaN ?kaM ?_; (case kaN => k_asm); (case kaM => k_mem))))) | ((with_reducible show wpAny _ _ (subscriptTail _ _ (Value.str _ _) (Value.int _ _)) _ _ _); (k_dflt (first | refine item_piece (by with_reducible assumption) 0 (by omega) (by first | rfl | with_reducible assumption) (by with_reducible assumption) ?_ | refine item_piece (by with_reducible assumption) 1 (by omega) (by first | rfl | with_reducible assumption) (by with_reducible assumption) ?_ | refine item_piece (by with_reducible assumption) 2 (by omega) (by first | rfl | with_reducible assumption) (by with_reducible assumption) ?_ | refine item_piece (by with_reducible assumption) _ (by rfl) (by with_reducible assumption) (by with_reducible assumption) ?_))) | (with_reducible ((show @ite _ _ _ _ _); ((refine ite_both (fun hc => ?_) (fun hc => ?_)); (all_goals (try simp only [beq_iff_eq, decide_eq_true_eq, Bool.not_eq_true', bne_eq_false_iff_eq, bne_iff_ne, ne_eq, one_star, one_ask, one_open, one_close, one_bang] at hc)); (all_goals (try simp only [Bool.not_not] at hc)); (all_goals (try (exfalso; first | contradiction | k_dflt (first | omega | exact (plain_ne (by assumption)).1 hc | exact (plain_ne (by assumption)).2.1 hc | exact (plain_ne (by assumption)).2.2 hc))))))) | (with_reducible ((show wpAny _ _ (getAttr (Value.ref _) _ _) _ _ _); ( k_here; (rename Fr _ _ _ _ => cF); (rename News _ _ _ _ => cN); k_dflt (refine getAttr_K (by rfl) (by have e : recursionLimit = 1000 := rfl; (simp only [depth_deeper]); omega) (by have e : cLine = 9900 := rfl; (simp only [units_deeper]); omega) cF cN (by k_mem) ?_); intro h' tkA aadd hneA F' N'; clear cF cN))) | ((with_reducible show WhlIf _ _ _); first | (refine WhlIf.no (by simp only [decide_eq_false_iff_not]; omega) ?_) | (refine WhlIf.yes (by simp only [decide_eq_true_eq]; omega) ?_)) | ((k_here; (with_reducible show wpAny _ _ (subscriptTail _ _ (Value.str _ _) (Value.int _ _)) _ _ _); (refine item_at (by omega) (by omega) (by omega) ?_); intro kxiE))) | (dsimp only; walk1) | fail "no step")
              refine Halt.out' ?_
              (rename Fr _ _ _ _ => F4); (rename News _ _ _ _ => N4)
              with_reducible refine slice_sn_is (s := ⟨_, _, _, _, _⟩) F4 N4 (Nat.le_trans m2 (by decide)) ?_
              intro h4 t4 k4 F4' N4'
              clear F4 N4
              repeat (first | (with_reducible first | (refine one_cut5 s9.gens s9.drawn s9.os ?_; intro tkC) | (refine cons_cut5 s9.gens s9.drawn s9.os ?_; intro tkC qC hC)) | (k_unfold; (try dsimp only)) | walk1 | (with_reducible first | refine CutQ.next (by assumption) ?_ | refine CutQ.ret (by assumption) ?_ | refine CutQ.brk (by assumption) ?_ | refine CutQ.cont (by assumption) ?_ | refine EndQ.ret (by assumption) ?_ | refine EndQ.next (by assumption) ?_) | ((refine Halt.out' ?_); first | (with_reducible ((show wpAny _ _ (call (Value.builtin "re.Pattern.sub") _) _ _ _); (k_here; (rename Fr _ _ _ _ => cF); (rename News _ _ _ _ => cN); k_dflt (refine sub_K (by assumption) (by first | assumption | rfl) (by rfl) (by have e : recursionLimit = 1000 := rfl; (simp only [depth_deeper]); omega) (by have e : cLine = 9900 := rfl; (simp only [units_deeper]); omega) (by assumption) cF cN (by k_mem) ?_); intro h' tk' t' F' N'; clear cF cN))) | (with_reducible ((show wpAny _ _ (eval (Expr.Lambda _ _ _ _) _) _ _ _); (k_here; (rename Fr _ _ _ _ => cF); (rename News _ _ _ _ => cN); k_dflt (refine lam_any (by assumption) cF cN hide1_none (by first | assumption | k_all) (by assumption) (by assumption) (by rfl) (by rfl) (by rfl) (by rfl) ?_); intro f' fd' h' tk' ps' hps' hne' F' N'; clear cF cN; (have hg' := gnNe_of hne'); (simp only [GnNe] at hg'); clear hne'))) | (with_reducible ((show wpAny _ _ (getMethod (Value.ref _) _ _) _ _ _); (k_here; (rename Fr _ _ _ _ => cF); k_dflt (refine method_sub (Frag.In.keeps (by assumption) cF.keep) ?_)))) | ((with_reducible show wpAny _ _ (pyIter (Value.ref _)) _ _ _); (krs_unr)) | (with_reducible ((show wpAny _ _ (call (Value.ref _) _) _ _ _); ( k_here; (rename Fr _ _ _ _ => cF); (rename News _ _ _ _ => cN); k_dflt (refine bound_K cF cN (by k_mem) (by k_upd) ?_ (Nat.le_trans (m := 100) (by (simp only [List.size_toArray]); omega) (by decide))); intro h' F' N'; clear cF cN))) | (with_reducible ((show wpAny _ _ (call (Value.ref _) _) _ _ _); ( k_here; (rename Fr _ _ _ _ => cF); (rename News _ _ _ _ => cN); k_dflt (first | refine Fn.use' (escape_plain _ _ (by assumption) _) (by k_asm) cF (by k_asm) cN (by k_asm) (by rfl) (by rfl) (by assumption) (by assumption) (by decide) trivial ?_ | refine Fn.use' (escape_dash _ _) (by k_asm) cF (by k_asm) cN (by k_asm) (by rfl) (by rfl) (by assumption) (by assumption) (by decide) trivial ?_); intro v' h' tk' F' N' K' P'; clear cF cN; (obtain ⟨t', e'⟩ := P'); subst e'))) | (with_reducible ((show _ ∧ _); ((with_reducible show AppAt _ _ ∧ _); k_dflt (refine ⟨appAt_of (by k_asm) (by k_mem), ?_⟩); (try dsimp only [List.nil_append, List.cons_append])))) | (with_reducible ((show wpAny _ _ (callWith _ (Value.ref _) _ _ _) _ _ _); (k_here; k_dflt (refine' callWith_append ?kaN ?kaM ?_; (case kaN => k_asm); (case kaM => k_mem))))) | ((with_reducible show wpAny _ _ (subscriptTail _ _ (Value.str _ _) (Value.int _ _)) _ _ _); (k_dflt (first | refine item_piece (by with_reducible assumption) 0 (by omega) (by first | rfl | with_reducible assumption) (by with_reducible assumption) ?_ | refine item_piece (by with_reducible assumption) 1 (by omega) (by first | rfl | with_reducible assumption) (by with_reducible assumption) ?_ | refine item_piece (by with_reducible assumption) 2 (by omega) (by first | rfl | with_reducible assumption) (by with_reducible assumption) ?_ | refine item_piece (by with_reducible assumption) _ (by rfl) (by with_reducible assumption) (by with_reducible assumption) ?_))) | (with_reducible ((show @ite _ _ _ _ _); ((refine ite_both (fun hc => ?_) (fun hc => ?_)); (all_goals (try simp only [beq_iff_eq, decide_eq_true_eq, Bool.not_eq_true', bne_eq_false_iff_eq, bne_iff_ne, ne_eq, one_star, one_ask, one_open, one_close, one_bang] at hc)); (all_goals (try simp only [Bool.not_not] at hc)); (all_goals (try (exfalso; first | contradiction | k_dflt (first | omega | exact (plain_ne (by assumption)).1 hc | exact (plain_ne (by assumption)).2.1 hc | exact (plain_ne (by assumption)).2.2 hc))))))) | (with_reducible ((show wpAny _ _ (getAttr (Value.ref _) _ _) _ _ _); ( k_here; (rename Fr _ _ _ _ => cF); (rename News _ _ _ _ => cN); k_dflt (refine getAttr_K (by rfl) (by have e : recursionLimit = 1000 := rfl; (simp only [depth_deeper]); omega) (by have e : cLine = 9900 := rfl; (simp only [units_deeper]); omega) cF cN (by k_mem) ?_); intro h' tkA aadd hneA F' N'; clear cF cN))) | ((with_reducible show WhlIf _ _ _); first | (refine WhlIf.no (by simp only [decide_eq_false_iff_not]; omega) ?_) | (refine WhlIf.yes (by simp only [decide_eq_true_eq]; omega) ?_)) | ((k_here; (with_reducible show wpAny _ _ (subscriptTail _ _ (Value.str _ _) (Value.int _ _)) _ _ _); (refine item_at (by omega) (by omega) (by omega) ?_); intro kxiE))) | (dsimp only; walk1) | fail "no step")
              refine Halt.out' ?_
              refine KOpn.add (Nat.le_trans t2 (by decide)) ?_
              intro t5 k5 _
              repeat (first | (with_reducible first | (refine one_cut5 s9.gens s9.drawn s9.os ?_; intro tkC) | (refine cons_cut5 s9.gens s9.drawn s9.os ?_; intro tkC qC hC)) | (k_unfold; (try dsimp only)) | walk1 | (with_reducible first | refine CutQ.next (by assumption) ?_ | refine CutQ.ret (by assumption) ?_ | refine CutQ.brk (by assumption) ?_ | refine CutQ.cont (by assumption) ?_ | refine EndQ.ret (by assumption) ?_ | refine EndQ.next (by assumption) ?_) | ((refine Halt.out' ?_); first | (with_reducible ((show wpAny _ _ (call (Value.builtin "re.Pattern.sub") _) _ _ _); (k_here; (rename Fr _ _ _ _ => cF); (rename News _ _ _ _ => cN); k_dflt (refine sub_K (by assumption) (by first | assumption | rfl) (by rfl) (by have e : recursionLimit = 1000 := rfl; (simp only [depth_deeper]); omega) (by have e : cLine = 9900 := rfl; (simp only [units_deeper]); omega) (by assumption) cF cN (by k_mem) ?_); intro h' tk' t' F' N'; clear cF cN))) | (with_reducible ((show wpAny _ _ (eval (Expr.Lambda _ _ _ _) _) _ _ _); (k_here; (rename Fr _ _ _ _ => cF); (rename News _ _ _ _ => cN); k_dflt (refine lam_any (by assumption) cF cN hide1_none (by first | assumption | k_all) (by assumption) (by assumption) (by rfl) (by rfl) (by rfl) (by rfl) ?_); intro f' fd' h' tk' ps' hps' hne' F' N'; clear cF cN; (have hg' := gnNe_of hne'); (simp only [GnNe] at hg'); clear hne'))) | (with_reducible ((show wpAny _ _ (getMethod (Value.ref _) _ _) _ _ _); (k_here; (rename Fr _ _ _ _ => cF); k_dflt (refine method_sub (Frag.In.keeps (by assumption) cF.keep) ?_)))) | ((with_reducible show wpAny _ _ (pyIter (Value.ref _)) _ _ _); (krs_unr)) | (with_reducible ((show wpAny _ _ (call (Value.ref _) _) _ _ _); ( k_here; (rename Fr _ _ _ _ => cF); (rename News _ _ _ _ => cN); k_dflt (refine bound_K cF cN (by k_mem) (by k_upd) ?_ (Nat.le_trans (m := 100) (by (simp only [List.size_toArray]); omega) (by decide))); intro h' F' N'; clear cF cN))) | (with_reducible ((show wpAny _ _ (call (Value.ref _) _) _ _ _); ( k_here; (rename Fr _ _ _ _ => cF); (rename News _ _ _ _ => cN); k_dflt (first | refine Fn.use' (escape_plain _ _ (by assumption) _) (by k_asm) cF (by k_asm) cN (by k_asm) (by rfl) (by rfl) (by assumption) (by assumption) (by decide) trivial ?_ | refine Fn.use' (escape_dash _ _) (by k_asm) cF (by k_asm) cN (by k_asm) (by rfl) (by rfl) (by assumption) (by assumption) (by decide) trivial ?_); intro v' h' tk' F' N' K' P'; clear cF cN; (obtain ⟨t', e'⟩ := P'); subst e'))) | (with_reducible ((show _ ∧ _); ((with_reducible show AppAt _ _ ∧ _); k_dflt (refine ⟨appAt_of (by k_asm) (by k_mem), ?_⟩); (try dsimp only [List.nil_append, List.cons_append])))) | (with_reducible ((show wpAny _ _ (callWith _ (Value.ref _) _ _ _) _ _ _); (k_here; k_dflt (refine' callWith_append ?kaN ?kaM ?_; (case kaN => k_asm); (case kaM => k_mem))))) | ((with_reducible show wpAny _ _ (subscriptTail _ _ (Value.str _ _) (Value.int _ _)) _ _ _); (k_dflt (first | refine item_piece (by with_reducible assumption) 0 (by omega) (by first | rfl | with_reducible assumption) (by with_reducible assumption) ?_ | refine item_piece (by with_reducible assumption) 1 (by omega) (by first | rfl | with_reducible assumption) (by with_reducible assumption) ?_ | refine item_piece (by with_reducible assumption) 2 (by omega) (by first | rfl | with_reducible assumption) (by with_reducible assumption) ?_ | refine item_piece (by with_reducible assumption) _ (by rfl) (by with_reducible assumption) (by with_reducible assumption) ?_))) | (with_reducible ((show @ite _ _ _ _ _); ((refine ite_both (fun hc => ?_) (fun hc => ?_)); (all_goals (try simp only [beq_iff_eq, decide_eq_true_eq, Bool.not_eq_true', bne_eq_false_iff_eq, bne_iff_ne, ne_eq, one_star, one_ask, one_open, one_close, one_bang] at hc)); (all_goals (try simp only [Bool.not_not] at hc)); (all_goals (try (exfalso; first | contradiction | k_dflt (first | omega | exact (plain_ne (by assumption)).1 hc | exact (plain_ne (by assumption)).2.1 hc | exact (plain_ne (by assumption)).2.2 hc))))))) | (with_reducible ((show wpAny _ _ (getAttr (Value.ref _) _ _) _ _ _); ( k_here; (rename Fr _ _ _ _ => cF); (rename News _ _ _ _ => cN); k_dflt (refine getAttr_K (by rfl) (by have e : recursionLimit = 1000 := rfl; (simp only [depth_deeper]); omega) (by have e : cLine = 9900 := rfl; (simp only [units_deeper]); omega) cF cN (by k_mem) ?_); intro h' tkA aadd hneA F' N'; clear cF cN))) | ((with_reducible show WhlIf _ _ _); first | (refine WhlIf.no (by simp only [decide_eq_false_iff_not]; omega) ?_) | (refine WhlIf.yes (by simp only [decide_eq_true_eq]; omega) ?_)) | ((k_here; (with_reducible show wpAny _ _ (subscriptTail _ _ (Value.str _ _) (Value.int _ _)) _ _ _); (refine item_at (by omega) (by omega) (by omega) ?_); intro kxiE))) | (dsimp only; walk1) | fail "no step")
              (rename Fr _ _ _ _ => cF); (rename News _ _ _ _ => cN)
              rw [t3] at cN
              exact tr_close hpc hk hv9 hvl cF cN _ _ _ (by (refine List.forall_mem_cons.mpr ⟨rfl, List.forall_mem_cons.mpr ⟨rfl, List.forall_mem_cons.mpr ⟨rfl, List.forall_mem_cons.mpr ⟨rfl, List.forall_mem_cons.mpr ⟨rfl, List.forall_mem_cons.mpr ⟨rfl, List.forall_mem_cons.mpr ⟨rfl, List.forall_mem_nil _⟩⟩⟩⟩⟩⟩⟩)) (by simp only [hpl]; omega) (by (intro q hq; (rcases List.mem_cons.mp hq with hq | hq); (rw [hq]; k_mem); (rcases List.mem_cons.mp hq with hq | hq); (rw [hq]; k_mem); (rw [List.mem_singleton.mp hq]; k_mem))) (by assumption) G9' ho9'
            · obtain ⟨t1, t2, t3⟩ := factsT _ hx hbang
              dsimp only at t1 t2 t3
              have t9 := factsL _ hx
              dsimp only at t9
              rw [← t3] at t9
              clear hb0
              repeat (first | (with_reducible first | (refine one_cut5 s9.gens s9.drawn s9.os ?_; intro tkC) | (refine cons_cut5 s9.gens s9.drawn s9.os ?_; intro tkC qC hC)) | (k_unfold; (try dsimp only)) | walk1 | (with_reducible first | refine CutQ.next (by assumption) ?_ | refine CutQ.ret (by assumption) ?_ | refine CutQ.brk (by assumption) ?_ | refine CutQ.cont (by assumption) ?_ | refine EndQ.ret (by assumption) ?_ | refine EndQ.next (by assumption) ?_) | ((refine Halt.out' ?_); first | (with_reducible ((show wpAny _ _ (call (Value.builtin "re.Pattern.sub") _) _ _ _); (k_here; (rename Fr _ _ _ _ => cF); (rename News _ _ _ _ => cN); k_dflt (refine sub_K (by assumption) (by first | assumption | rfl) (by rfl) (by have e : recursionLimit = 1000 := rfl; (simp only [depth_deeper]); omega) (by have e : cLine = 9900 := rfl; (simp only [units_deeper]); omega) (by assumption) cF cN (by k_mem) ?_); intro h' tk' t' F' N'; clear cF cN))) | (with_reducible ((show wpAny _ _ (eval (Expr.Lambda _ _ _ _) _) _ _ _); (k_here; (rename Fr _ _ _ _ => cF); (rename News _ _ _ _ => cN); k_dflt (refine lam_any (by assumption) cF cN hide1_none (by first | assumption | k_all) (by assumption) (by assumption) (by rfl) (by rfl) (by rfl) (by rfl) ?_); intro f' fd' h' tk' ps' hps' hne' F' N'; clear cF cN; (have hg' := gnNe_of hne'); (simp only [GnNe] at hg'); clear hne'))) | (with_reducible ((show wpAny _ _ (getMethod (Value.ref _) _ _) _ _ _); (k_here; (rename Fr _ _ _ _ => cF); k_dflt (refine method_sub (Frag.In.keeps (by assumption) cF.keep) ?_)))) | ((with_reducible show wpAny _ _ (pyIter (Value.ref _)) _ _ _); (krs_unr)) | (with_reducible ((show wpAny _ _ (call (Value.ref _) _) _ _ _); ( k_here; (rename Fr _ _ _ _ => cF); (rename News _ _ _ _ => cN); k_dflt (refine bound_K cF cN (by k_mem) (by k_upd) ?_ (Nat.le_trans (m := 100) (by (simp only [List.size_toArray]); omega) (by decide))); intro h' F' N'; clear cF cN))) | (with_reducible ((show wpAny _ _ (call (Value.ref _) _) _ _ _); ( k_here; (rename Fr _ _ _ _ => cF); (rename News _ _ _ _ => cN); k_dflt (first | refine Fn.use' (escape_plain _ _ (by assumption) _) (by k_asm) cF (by k_asm) cN (by k_asm) (by rfl) (by rfl) (by assumption) (by assumption) (by decide) trivial ?_ | refine Fn.use' (escape_dash _ _) (by k_asm) cF (by k_asm) cN (by k_asm) (by rfl) (by rfl) (by assumption) (by assumption) (by decide) trivial ?_); intro v' h' tk' F' N' K' P'; clear cF cN; (obtain ⟨t', e'⟩ := P'); subst e'))) | (with_reducible ((show _ ∧ _); ((with_reducible show AppAt _ _ ∧ _); k_dflt (refine ⟨appAt_of (by k_asm) (by k_mem), ?_⟩); (try dsimp only [List.nil_append, List.cons_append])))) | (with_reducible ((show wpAny _ _ (callWith _ (Value.ref _) _ _ _) _ _ _); (k_here; k_dflt (refine' callWith_append ?kaN ?kaM ?_; (case kaN => k_asm); (case kaM => k_mem))))) | ((with_reducible show wpAny _ _ (subscriptTail _ _ (Value.str _ _) (Value.int _ _)) _ _ _); (k_dflt (first | refine item_piece (by with_reducible assumption) 0 (by omega) (by first | rfl | with_reducible assumption) (by with_reducible assumption) ?_ | refine item_piece (by with_reducible assumption) 1 (by omega) (by first | rfl | with_reducible assumption) (by with_reducible assumption) ?_ | refine item_piece (by with_reducible assumption) 2 (by omega) (by first | rfl | with_reducible assumption) (by with_reducible assumption) ?_ | refine item_piece (by with_reducible assumption) _ (by rfl) (by with_reducible assumption) (by with_reducible assumption) ?_))) | (with_reducible ((show @ite _ _ _ _ _); ((refine ite_both (fun hc => ?_) (fun hc => ?_)); (all_goals (try simp only [beq_iff_eq, decide_eq_true_eq, Bool.not_eq_true', bne_eq_false_iff_eq, bne_iff_ne, ne_eq, one_star, one_ask, one_open, one_close, one_bang] at hc)); (all_goals (try simp only [Bool.not_not] at hc)); (all_goals (try (exfalso; first | contradiction | k_dflt (first | omega | exact (plain_ne (by assumption)).1 hc | exact (plain_ne (by assumption)).2.1 hc | exact (plain_ne (by assumption)).2.2 hc))))))) | (with_reducible ((show wpAny _ _ (getAttr (Value.ref _) _ _) _ _ _); ( k_here; (rename Fr _ _ _ _ => cF); (rename News _ _ _ _ => cN); k_dflt (refine getAttr_K (by rfl) (by have e : recursionLimit = 1000 := rfl; (simp only [depth_deeper]); omega) (by have e : cLine = 9900 := rfl; (simp only [units_deeper]); omega) cF cN (by k_mem) ?_); intro h' tkA aadd hneA F' N'; clear cF cN))) | ((with_reducible show WhlIf _ _ _); first | (refine WhlIf.no (by simp only [decide_eq_false_iff_not]; omega) ?_) | (refine WhlIf.yes (by simp only [decide_eq_true_eq]; omega) ?_)) | ((k_here; (with_reducible show wpAny _ _ (subscriptTail _ _ (Value.str _ _) (Value.int _ _)) _ _ _); (refine item_at (by omega) (by omega) (by omega) ?_); intro kxiE))) | (dsimp only; walk1) | fail "no step")
              (rename Fr _ _ _ _ => cF); (rename News _ _ _ _ => cN)
              rw [t3] at cN
              exact tr_close hpc hk hv9 hvl cF cN _ _ _ (by (refine List.forall_mem_cons.mpr ⟨rfl, List.forall_mem_cons.mpr ⟨rfl, List.forall_mem_cons.mpr ⟨rfl, List.forall_mem_cons.mpr ⟨rfl, List.forall_mem_cons.mpr ⟨rfl, List.forall_mem_cons.mpr ⟨rfl, List.forall_mem_cons.mpr ⟨rfl, List.forall_mem_nil _⟩⟩⟩⟩⟩⟩⟩)) (by simp only [hpl]; omega) (by (intro q hq; (rcases List.mem_cons.mp hq with hq | hq); (rw [hq]; k_mem); (rcases List.mem_cons.mp hq with hq | hq); (rw [hq]; k_mem); (rw [List.mem_singleton.mp hq]; k_mem))) (by assumption) G9' ho9'
          · obtain ⟨e, he, hene⟩ := hin (d - 1) (by omega)
            rw [Nat.sub_add_cancel hd1] at he
            clear ha hend
            repeat (first | (with_reducible first | (refine one_cut5 s1.gens s1.drawn s1.os ?_; intro tkC) | (refine cons_cut5 s1.gens s1.drawn s1.os ?_; intro tkC qC hC)) | (k_unfold; (try dsimp only)) | walk1 | (with_reducible first | refine CutQ.next (by assumption) ?_ | refine CutQ.ret (by assumption) ?_ | refine CutQ.brk (by assumption) ?_ | refine CutQ.cont (by assumption) ?_ | refine EndQ.ret (by assumption) ?_ | refine EndQ.next (by assumption) ?_) | ((refine Halt.out' ?_); first | (with_reducible ((show wpAny _ _ (call (Value.builtin "re.Pattern.sub") _) _ _ _); (k_here; (rename Fr _ _ _ _ => cF); (rename News _ _ _ _ => cN); k_dflt (refine sub_K (by assumption) (by first | assumption | rfl) (by rfl) (by have e : recursionLimit = 1000 := rfl; (simp only [depth_deeper]); omega) (by have e : cLine = 9900 := rfl; (simp only [units_deeper]); omega) (by assumption) cF cN (by k_mem) ?_); intro h' tk' t' F' N'; clear cF cN))) | (with_reducible ((show wpAny _ _ (eval (Expr.Lambda _ _ _ _) _) _ _ _); (k_here; (rename Fr _ _ _ _ => cF); (rename News _ _ _ _ => cN); k_dflt (refine lam_any (by assumption) cF cN hide1_none (by first | assumption | k_all) (by assumption) (by assumption) (by rfl) (by rfl) (by rfl) (by rfl) ?_); intro f' fd' h' tk' ps' hps' hne' F' N'; clear cF cN; (have hg' := gnNe_of hne'); (simp only [GnNe] at hg'); clear hne'))) | (with_reducible ((show wpAny _ _ (getMethod (Value.ref _) _ _) _ _ _); (k_here; (rename Fr _ _ _ _ => cF); k_dflt (refine method_sub (Frag.In.keeps (by assumption) cF.keep) ?_)))) | ((with_reducible show wpAny _ _ (pyIter (Value.ref _)) _ _ _); (krs_unr)) | (with_reducible ((show wpAny _ _ (call (Value.ref _) _) _ _ _); ( k_here; (rename Fr _ _ _ _ => cF); (rename News _ _ _ _ => cN); k_dflt (refine bound_K cF cN (by k_mem) (by k_upd) ?_ (Nat.le_trans (m := 100) (by (simp only [List.size_toArray]); omega) (by decide))); intro h' F' N'; clear cF cN))) | (with_reducible ((show wpAny _ _ (call (Value.ref _) _) _ _ _); ( k_here; (rename Fr _ _ _ _ => cF); (rename News _ _ _ _ => cN); k_dflt (first | refine Fn.use' (escape_plain _ _ (by assumption) _) (by k_asm) cF (by k_asm) cN (by k_asm) (by rfl) (by rfl) (by assumption) (by assumption) (by decide) trivial ?_ | refine Fn.use' (escape_dash _ _) (by k_asm) cF (by k_asm) cN (by k_asm) (by rfl) (by rfl) (by assumption) (by assumption) (by decide) trivial ?_); intro v' h' tk' F' N' K' P'; clear cF cN; (obtain ⟨t', e'⟩ := P'); subst e'))) | (with_reducible ((show _ ∧ _); ((with_reducible show AppAt _ _ ∧ _); k_dflt (refine ⟨appAt_of (by k_asm) (by k_mem), ?_⟩); (try dsimp only [List.nil_append, List.cons_append])))) | (with_reducible ((show wpAny _ _ (callWith _ (Value.ref _) _ _ _) _ _ _); (k_here; k_dflt (refine' callWith_append ?kaN ?kaM ?_; (case kaN => k_asm); (case kaM => k_mem))))) | ((with_reducible show wpAny _ _ (subscriptTail _ _ (Value.str _ _) (Value.int _ _)) _ _ _); (k_dflt (first | refine item_piece (by with_reducible assumption) 0 (by omega) (by first | rfl | with_reducible assumption) (by with_reducible assumption) ?_ | refine item_piece (by with_reducible assumption) 1 (by omega) (by first | rfl | with_reducible assumption) (by with_reducible assumption) ?_ | refine item_piece (by with_reducible assumption) 2 (by omega) (by first | rfl | with_reducible assumption) (by with_reducible assumption) ?_ | refine item_piece (by with_reducible assumption) _ (by rfl) (by with_reducible assumption) (by with_reducible assumption) ?_))) | (with_reducible ((show @ite _ _ _ _ _); ((refine ite_both (fun hc => ?_) (fun hc => ?_)); (all_goals (try simp only [beq_iff_eq, decide_eq_true_eq, Bool.not_eq_true', bne_eq_false_iff_eq, bne_iff_ne, ne_eq, one_star, one_ask, one_open, one_close, one_bang] at hc)); (all_goals (try simp only [Bool.not_not] at hc)); (all_goals (try (exfalso; first | contradiction | k_dflt (first | omega | exact (plain_ne (by assumption)).1 hc | exact (plain_ne (by assumption)).2.1 hc | exact (plain_ne (by assumption)).2.2 hc))))))) | (with_reducible ((show wpAny _ _ (getAttr (Value.ref _) _ _) _ _ _); ( k_here; (rename Fr _ _ _ _ => cF); (rename News _ _ _ _ => cN); k_dflt (refine getAttr_K (by rfl) (by have e : recursionLimit = 1000 := rfl; (simp only [depth_deeper]); omega) (by have e : cLine = 9900 := rfl; (simp only [units_deeper]); omega) cF cN (by k_mem) ?_); intro h' tkA aadd hneA F' N'; clear cF cN))) | ((with_reducible show WhlIf _ _ _); first | (refine WhlIf.no (by simp only [decide_eq_false_iff_not]; omega) ?_) | (refine WhlIf.yes (by simp only [decide_eq_true_eq]; omega) ?_)) | ((k_here; (with_reducible show wpAny _ _ (subscriptTail _ _ (Value.str _ _) (Value.int _ _)) _ _ _); (refine item_at (by omega) (by omega) (by omega) ?_); intro kxiE))) | (dsimp only; walk1) | fail "no step")
            (rename Fr _ _ _ _ => cF); (rename News _ _ _ _ => cN)
            (try refine Halt.out' ?_)
            refine ksw_end (d + 1, _) cF cN (fun p hp => hp) trivial (by intro p hp; rw [List.mem_singleton.mp hp]; rfl) (fun z h2 h3 => ?_) ⟨by omega, by show d + 1 ≤ _; omega⟩ (by show x.length + 1 - (d + 1) < x.length + 1 - d; omega)
            have h4 : z ≠ Str.ofString "j" := h2 _ (.head _)
            simp [kstB, h4]
end
end Mine
end
theorem Mine.rs_TTop : True ∧ True := by
  (try (walk1; fail))
  exact ⟨trivial, trivial⟩
section
open PySem PySem.W PyProof.Rows PySem.Calls PySem.Spec
set_option maxRecDepth 100000
set_option maxHeartbeats 8000000
namespace Mine
section
local macro_rules | `(tactic| walk_at $s:str) => if ["KswEnd", "call ref", "call type:object"].contains s.getString then `(tactic| refine Halt.out ?_) else Lean.Macro.throwUnsupported
theorem isList_news {h₀ h : Heap} {L l : Addr} {o : Obj} {nws : List (Addr × Obj)} {a : Array Value} (N : News h₀ L h nws) (hm : (l, o) ∈ nws) (hc : o.cls = .type "list") (hd : ∃ n, o.data = .seq a n) : h.IsList l a := ⟨o, (N _ hm).1, hc, hd⟩
set_option maxHeartbeats 8000000 in
theorem trtop_fn (w : World) (L : List (List Nat × Str)) (tp : Tok) (hL : ∀ p ∈ L, Tr p.1 p.2) (hlen : L.length ≤ 100) (hp : (wholeOf L).length ≤ 1000)
    (hsum : ((L.map (·.2)).map (·.length)).sum ≤ 1000) (hJ : (Txt.join (Str.ofString "") (L.map (·.2))).length ≤ 1000) :
    FnT w 140 71 [.str (wholeOf L) tp] (fun h => True) (fun v h h' => ∃ t, v = .str (joinedOf (L.map (·.2))) t) := by
  unfold FnT
  intro dp un gd outer base s Q E loose mean mg mb hdp hun hb85 B₀ X₀ T₀ htab G₀ hpre hret
  obtain ⟨ps₀, hps, htp⟩ := htab
  refine wpAny_call ?_
  k_dflt (refine' enter_plain (binds := [(Str.ofString "pat", .str (wholeOf L) tp)]) ?X ?T ?o ?c ?r ?b ?l ?_ ?c2 ?c3 ?c4 ?c5; (case X => exact X₀); (case T => exact T₀); (case o => k_is); (case c => k_is); (case r => omega); (case b => exact BindsTo.of_eq rfl); (case l => exact locs rfl); (case c2 => decide); (case c3 => exact rfl); (case c4 => exact rfl); (case c5 => exact rfl); k_whole; intro L' h₁ Fa Na; (simp only [List.reverse_cons, List.reverse_nil, List.nil_append, List.cons_append, lk] at Fa); (try dsimp only); (try k_fold))
  have F' := fr_hide Fa
  have N' := news_hide Fa hps
  have X' := in_hide X₀ (by rfl)
  have T' := top_hide hps T₀
  have B' := below_hide hps hb85 B₀
  have C' := codeHd_tr X'
  clear Fa Na
  repeat (first | (with_reducible first | (refine one_cut5 sg sd so ?_; intro tkC) | (refine cons_cut5 sg sd so ?_; intro tkC qC hC)) | (k_unfold; (try dsimp only)) | walk1 | (with_reducible first | refine CutQ.next (by assumption) ?_ | refine CutQ.ret (by assumption) ?_ | refine CutQ.brk (by assumption) ?_ | refine CutQ.cont (by assumption) ?_ | refine EndQ.ret (by assumption) ?_ | refine EndQ.next (by assumption) ?_) | ((refine Halt.out' ?_); first | (with_reducible ((show wpAny _ _ (call (Value.type "object") _) _ _ _); (k_here; (rename Fr _ _ _ _ => cF); (rename News _ _ _ _ => cN); k_dflt (refine object_K (by rfl) (by have e : recursionLimit = 1000 := rfl; (simp only [depth_deeper]); omega) (by have e : cLine = 9900 := rfl; (simp only [units_deeper]); omega) cF cN ?_); intro h' tk' a' F' N'; clear cF cN))) | ((k_here; (with_reducible show wpAny _ _ (subscriptTail _ _ (Value.str _ _) (Value.int _ _)) _ _ _); (refine item_at (by omega) (by omega) (by omega) ?_); intro kxiE)) | (with_reducible ((show @ite _ _ _ _ _); ((refine ite_both (fun hc => ?_) (fun hc => ?_)); (all_goals (try simp only [beq_iff_eq, decide_eq_true_eq] at hc)))))) | (dsimp only; walk1) | fail "no step")
  refine Halt.out' ?_
  (rename Fr _ _ _ _ => F2); (rename News _ _ _ _ => N2)
  k_dflt (refine FnT.use' (k := 140) (transl_fn w _ L _ _ hL hlen hp) B' hb85 hide1_none F2 X' N2 (fun p hp => nomatch hp) htp G₀ T' (by rfl) (by rfl) hdp hun (by decide) trivial ?_)
  rintro v9 s9 ps9 F9 N9 hps9 G9 ho9 hk9 ⟨l9, vs9, rfl, hn9, hl9, hv9⟩
  obtain ⟨o9, e9, hc9, hd9⟩ := hl9
  have hlen9 : vs9.length ≤ 100 := by rw [Mine.StrsAre.len hv9, List.length_map]; exact hlen
  have N10 : News (hide1 s.heap) L' s9.heap [(l9, o9), (85, tabObj ps9)] := fun p hp => by
    rcases List.mem_cons.mp hp with rfl | hp
    · refine ⟨e9, fun q => ?_, ?_⟩
      · have q' : l9 = L' := q
        obtain ⟨oL, a1, a2, hL2, r⟩ := F2.ns
        have hL2' := hL2
        rw [q', hL2] at hn9
        cases hn9
      · cases q : (hide1 s.heap).get? l9 with
        | none => rfl
        | some o' =>
          have := F2.keep _ _ q
          rw [hn9] at this; cases this
    · exact N9 p hp
  clear N9 N2 F2
  repeat (first | (with_reducible first | (refine one_cut5 sg sd so ?_; intro tkC) | (refine cons_cut5 sg sd so ?_; intro tkC qC hC)) | (k_unfold; (try dsimp only)) | walk1 | (with_reducible first | refine CutQ.next (by assumption) ?_ | refine CutQ.ret (by assumption) ?_ | refine CutQ.brk (by assumption) ?_ | refine CutQ.cont (by assumption) ?_ | refine EndQ.ret (by assumption) ?_ | refine EndQ.next (by assumption) ?_) | ((refine Halt.out' ?_); first | (with_reducible ((show wpAny _ _ (call (Value.type "object") _) _ _ _); (k_here; (rename Fr _ _ _ _ => cF); (rename News _ _ _ _ => cN); k_dflt (refine object_K (by rfl) (by have e : recursionLimit = 1000 := rfl; (simp only [depth_deeper]); omega) (by have e : cLine = 9900 := rfl; (simp only [units_deeper]); omega) cF cN ?_); intro h' tk' a' F' N'; clear cF cN))) | ((k_here; (with_reducible show wpAny _ _ (subscriptTail _ _ (Value.str _ _) (Value.int _ _)) _ _ _); (refine item_at (by omega) (by omega) (by omega) ?_); intro kxiE)) | (with_reducible ((show @ite _ _ _ _ _); ((refine ite_both (fun hc => ?_) (fun hc => ?_)); (all_goals (try simp only [beq_iff_eq, decide_eq_true_eq] at hc)))))) | (dsimp only; walk1) | fail "no step")
  refine Halt.out' ?_
  (rename Fr _ _ _ _ => F3); (rename News _ _ _ _ => N3)
  k_dflt (refine Fn.use' (k := 140) (join_fn w l9 _ vs9 (L.map (·.2)) hv9 hlen9 hsum hJ) B' F3 X' N3 T' (by rfl) (by rfl) hdp hun (by decide) (isList_news N3 (.head _) hc9 hd9) ?_)
  rintro v10 h10 tk10 F10 N11 K10 ⟨t10, rfl⟩
  clear F3 N3
  repeat (first | (with_reducible first | (refine one_cut5 sg sd so ?_; intro tkC) | (refine cons_cut5 sg sd so ?_; intro tkC qC hC)) | (k_unfold; (try dsimp only)) | walk1 | (with_reducible first | refine CutQ.next (by assumption) ?_ | refine CutQ.ret (by assumption) ?_ | refine CutQ.brk (by assumption) ?_ | refine CutQ.cont (by assumption) ?_ | refine EndQ.ret (by assumption) ?_ | refine EndQ.next (by assumption) ?_) | ((refine Halt.out' ?_); first | (with_reducible ((show wpAny _ _ (call (Value.type "object") _) _ _ _); (k_here; (rename Fr _ _ _ _ => cF); (rename News _ _ _ _ => cN); k_dflt (refine object_K (by rfl) (by have e : recursionLimit = 1000 := rfl; (simp only [depth_deeper]); omega) (by have e : cLine = 9900 := rfl; (simp only [units_deeper]); omega) cF cN ?_); intro h' tk' a' F' N'; clear cF cN))) | ((k_here; (with_reducible show wpAny _ _ (subscriptTail _ _ (Value.str _ _) (Value.int _ _)) _ _ _); (refine item_at (by omega) (by omega) (by omega) ?_); intro kxiE)) | (with_reducible ((show @ite _ _ _ _ _); ((refine ite_both (fun hc => ?_) (fun hc => ?_)); (all_goals (try simp only [beq_iff_eq, decide_eq_true_eq] at hc)))))) | (dsimp only; walk1) | fail "no step")
  (try dsimp only)
  exact hret _ _ (keptT_fr F10) (tab_news N11 (.tail _ (.head _)) hps9) G9 ho9 ⟨_, rfl⟩
end
end Mine
end
theorem Mine.rs_FRd : True ∧ True := by
  (try (walk1; fail))
  exact ⟨trivial, trivial⟩
section
open PySem PySem.W PyProof.Rows PySem.Calls PySem.Spec
set_option maxRecDepth 100000
set_option maxHeartbeats 8000000
namespace Mine
noncomputable def scan : List Nat → List Nat → Option (List Nat)
  | [], _ => none
  | c :: r, acc => if c = 93 then (if r = [] then some acc else none) else if c = 92 then (match r with | e :: r' => scan r' (acc ++ [e]) | [] => none) else scan r (acc ++ [c])
inductive Rd : List Nat → Bool × List Nat → Prop
  | plain (c : Nat) : c ≠ 91 → c ≠ 46 → c ≠ 92 → Rd [c] (false, [c])
  | esc (c : Nat) : Rd [92, c] (false, [c])
  | dot : Rd [46] (true, [])
  | brk (c : Nat) (r held : List Nat) : ((c == 94) = true → scan r [] = some held) → ((c == 94) = false → scan (c :: r) [] = some held) → r.length ≤ 100 → Rd (91 :: c :: r) (c == 94, held)
noncomputable def offR (R : List (List Nat × (Bool × List Nat))) (k : Nat) : Nat := 4 + ((R.take k).map Prod.fst).flatten.length
noncomputable def textOf (R : List (List Nat × (Bool × List Nat))) : Str := ⟨([40, 63, 115, 58] ++ ((R.map Prod.fst).flatten ++ [41, 92, 90])).toArray⟩
theorem textOf_len (R : List (List Nat × (Bool × List Nat))) : (textOf R).length = (R.map Prod.fst).flatten.length + 7 := by
  show (List.toArray _).size = _
  rw [List.size_toArray, List.length_append, List.length_append]
  simp only [List.length_cons, List.length_nil]
  omega
theorem flat_split (R : List (List Nat × (Bool × List Nat))) (k : Nat) : (R.map Prod.fst).flatten = ((R.take k).map Prod.fst).flatten ++ ((R.drop k).map Prod.fst).flatten := by
  rw [← List.flatten_append, ← List.map_append, List.take_append_drop]
theorem offR_le (R : List (List Nat × (Bool × List Nat))) (k : Nat) : offR R k + 3 ≤ (textOf R).length := by
  rw [textOf_len]
  unfold offR
  rw [flat_split R k, List.length_append]
  omega
theorem offR_end (R : List (List Nat × (Bool × List Nat))) : offR R R.length + 3 = (textOf R).length := by
  rw [textOf_len]
  unfold offR
  rw [List.take_length]
  omega
theorem offR_succ {R : List (List Nat × (Bool × List Nat))} {k : Nat} {p : List Nat × (Bool × List Nat)} (h : R[k]? = some p) : offR R (k + 1) = offR R k + p.1.length := by
  unfold offR
  rw [List.take_add_one, h]
  simp
  omega
theorem offR_at {R : List (List Nat × (Bool × List Nat))} {k : Nat} {p : List Nat × (Bool × List Nat)} (h : R[k]? = some p) : At (textOf R) (offR R k) p.1 := by
  intro d c hd
  unfold textOf offR
  have hk : k < R.length := by
    rcases Nat.lt_or_ge k R.length with q | q
    · exact q
    · rw [List.getElem?_eq_none q] at h; cases h
  have e : (R.map Prod.fst).flatten = ((R.take k).map Prod.fst).flatten ++ (p.1 ++ ((R.drop (k + 1)).map Prod.fst).flatten) := by
    have e1 : R = R.take k ++ p :: R.drop (k + 1) := by
      have e2 : R.drop k = p :: R.drop (k + 1) := by
        rw [List.getElem?_eq_getElem hk] at h
        cases h
        exact List.drop_eq_getElem_cons hk
      rw [← e2, List.take_append_drop]
    conv => lhs; rw [e1]
    simp
  show (List.toArray _)[_]? = _
  rw [List.getElem?_toArray, e, List.getElem?_append_right (by simp only [List.length_cons, List.length_nil]; omega)]
  have e4 : [40, 63, 115, 58].length = 4 := rfl
  rw [e4, show 4 + ((R.take k).map Prod.fst).flatten.length + d - 4 = ((R.take k).map Prod.fst).flatten.length + d by omega, List.append_assoc, List.getElem?_append_right (Nat.le_add_right _ _), Nat.add_sub_cancel_left, List.append_assoc, List.getElem?_append_left]
  · exact hd
  · rcases Nat.lt_or_ge d p.1.length with q | q
    · exact q
    · rw [List.getElem?_eq_none q] at hd; cases hd
noncomputable def SetObj (d : Bool × List Nat) (o : Obj) : Prop := ∃ t n, o = { cls := .type "tuple", data := .seq #[.bool d.1, .str ⟨d.2.toArray⟩ t] n }
noncomputable def SetsIn (own : List (Addr × Obj)) (vs : List Value) (ds : List (Bool × List Nat)) : Prop :=
  vs.length = ds.length ∧ ∀ (i : Nat) (d : Bool × List Nat), ds[i]? = some d → ∃ a o, vs[i]? = some (Value.ref a) ∧ (a, o) ∈ own ∧ SetObj d o
theorem SetsIn.nil (own : List (Addr × Obj)) : SetsIn own [] [] := ⟨rfl, fun i d h => by simp at h⟩
theorem SetsIn.snoc {own : List (Addr × Obj)} {vs : List Value} {ds : List (Bool × List Nat)} (h : SetsIn own vs ds) {a : Addr} {o : Obj} {d : Bool × List Nat} (ho : SetObj d o) : SetsIn ((a, o) :: own) (vs ++ [Value.ref a]) (ds ++ [d]) := by
  refine ⟨by simp [h.1], fun i e he => ?_⟩
  rcases Nat.lt_or_ge i ds.length with q | q
  · rw [List.getElem?_append_left q] at he
    obtain ⟨a', o', h1, h2, h3⟩ := h.2 i e he
    exact ⟨a', o', by rw [List.getElem?_append_left (by rw [h.1]; exact q)]; exact h1, List.mem_cons_of_mem _ h2, h3⟩
  · rw [List.getElem?_append_right q] at he
    have hi : i = ds.length := by
      rcases Nat.lt_or_ge (i - ds.length) 1 with z | z
      · omega
      · rw [List.getElem?_eq_none (by simpa using z)] at he; cases he
    subst hi
    rw [Nat.sub_self] at he
    have : d = e := by simpa using he
    subst this
    refine ⟨a, o, ?_, .head _, ho⟩
    rw [← h.1]
    simp
noncomputable def JoinMarkR (_ : Nat) : Prop := True
noncomputable def ShutR (P : Prop) : Prop := P
theorem ShutR.mk {P : Prop} (h : P) : ShutR P := h
theorem cast_split (a b : Nat) : ((a + b : Nat) : Int) = (a : Int) + (b : Int) := by omega
theorem cast_split1 (a b : Nat) : ((a + b : Nat) : Int) + 1 = (a : Int) + ((b + 1 : Nat) : Int) := by omega
theorem str_snoc (l : List Nat) (c : Nat) : (⟨l.toArray⟩ : Str) ++ ⟨#[c]⟩ = ⟨(l ++ [c]).toArray⟩ := by
  show (⟨l.toArray ++ #[c]⟩ : Str) = _
  simp
theorem str_nil : Str.ofString "" = ⟨([] : List Nat).toArray⟩ := by decide +kernel
theorem snoc_size {l : List Nat} {c : Nat} (h : l.length ≤ 200) : (⟨l.toArray⟩ : Str).length + (⟨#[c]⟩ : Str).length ≤ 16777216 := by
  show l.toArray.size + 1 ≤ _
  rw [List.size_toArray]
  omega
theorem jd1 (o d : Nat) : ((o + (d + 1) : Nat) : Int) = ((o + d : Nat) : Int) + 1 := by omega
theorem jd2 (o d : Nat) : ((o + (d + 2) : Nat) : Int) = ((o + d : Nat) : Int) + 1 + 1 := by omega
theorem jr1 (o : Nat) : (o : Int) + 1 = ((o + (1 + 0) : Nat) : Int) := by omega
theorem jr2 (o : Nat) : (o : Int) + 1 + 1 = ((o + (1 + 1) : Nat) : Int) := by omega
theorem scan_close (r acc : List Nat) : scan (93 :: r) acc = if r = [] then some acc else none := by rw [scan.eq_def]; simp
theorem scan_esc (e : Nat) (r acc : List Nat) : scan (92 :: e :: r) acc = scan r (acc ++ [e]) := by rw [scan.eq_def]; simp
theorem scan_esc0 (acc : List Nat) : scan [92] acc = none := by rw [scan.eq_def]; simp
theorem scan_plain {c : Nat} (h1 : c ≠ 93) (h2 : c ≠ 92) (r acc : List Nat) : scan (c :: r) acc = scan r (acc ++ [c]) := by rw [scan.eq_def]; simp [h1, h2]
theorem fr_named {h₀ h : Heap} {L : Addr} {m : Str → Option Value} (F : Fr h₀ L h m) : ∃ g, g = m ∧ Fr h₀ L h m := ⟨m, rfl, F⟩
theorem fr_over {h₀ h : Heap} {L : Addr} {f g : Str → Option Value} {x : Str} {v : Value} (F : Fr h₀ L h f) (hx : f x = some v) (hr : ∀ z, z ≠ x → f z = g z) : Fr h₀ L h (fun z => if z = x then some v else g z) := by
  have e : (fun z => if z = x then some v else g z) = f := by
    funext z
    by_cases h : z = x
    · rw [if_pos h, h, hx]
    · rw [if_neg h, hr z h]
  rw [e]; exact F
theorem spot_is {a b : Int} {t : Tok} (e : b = a) : some (Value.int a t) = some (Value.int b t) := by rw [e]
theorem text_head (R : List (List Nat × (Bool × List Nat))) : Txt.slice (textOf R) none (some 4) = Str.ofString "(?s:" := by
  have e := slice_take (x := textOf R) (b := 4) (by rw [textOf_len]; omega)
  refine Eq.trans e ?_
  rw [show Str.ofString "(?s:" = ⟨#[40, 63, 115, 58]⟩ by decide +kernel]
  rfl
theorem text_tail (R : List (List Nat × (Bool × List Nat))) : Txt.slice (textOf R) (some (-3)) none = Str.ofString ")\\Z" := by
  have e := slice_last (x := textOf R) (k := 3) (by rw [textOf_len]; omega) (by decide)
  refine Eq.trans e ?_
  rw [show Str.ofString ")\\Z" = ⟨#[41, 92, 90]⟩ by decide +kernel, textOf_len]
  show (⟨(List.drop _ ([40, 63, 115, 58] ++ ((R.map Prod.fst).flatten ++ [41, 92, 90]))).toArray⟩ : Str) = _
  rw [← List.append_assoc, List.drop_append_of_le_length (by simp <;> omega), List.drop_of_length_le (by simp <;> omega)]
  rfl
theorem c_open {a : Nat} : ((⟨#[a]⟩ : Str) = Str.ofString "[") ↔ a = 91 := by rw [show Str.ofString "[" = ⟨#[91]⟩ by decide +kernel]; simp
theorem c_dot {a : Nat} : ((⟨#[a]⟩ : Str) = Str.ofString ".") ↔ a = 46 := by rw [show Str.ofString "." = ⟨#[46]⟩ by decide +kernel]; simp
theorem c_bs {a : Nat} : ((⟨#[a]⟩ : Str) = Str.ofString "\\") ↔ a = 92 := by rw [show Str.ofString "\\" = ⟨#[92]⟩ by decide +kernel]; simp
theorem c_hat {a : Nat} : ((⟨#[a]⟩ : Str) = Str.ofString "^") ↔ a = 94 := by rw [show Str.ofString "^" = ⟨#[94]⟩ by decide +kernel]; simp
theorem c_close {a : Nat} : ((⟨#[a]⟩ : Str) = Str.ofString "]") ↔ a = 93 := by rw [show Str.ofString "]" = ⟨#[93]⟩ by decide +kernel]; simp
section
variable {prog : Program} {w : World} {A : Around} {E : Value → Shared → Prop} {s : Shared} {value slice : PySem.Expr} {x : PySem.Str} {t u : Tok} {i : Int} {Q : Value → Shared → Prop}
theorem item_pieceR {n : Nat} {p : List Nat} {c : Nat} (H : At x n p) (d : Nat) (e : i = (n : Int) + d) (hd : p[d]? = some c) (hn : x.length ≤ 1000) (h : Q (.str ⟨#[c]⟩ s.toks) { s with toks := s.toks + 1 })
    (hs : subscripted slice false (.str x t) (.int i u) = operate [.str x t, .int i u] (getItem (.str x t) (.int i u)) := by with_unfolding_all rfl)
    (ht : ∀ r, letTemporaryGo value (.str x t) r = pure () := by intro _; with_unfolding_all rfl) :
    wpAny (model prog w) A (subscriptTail value slice (.str x t) (.int i u)) Q E s := by
  have h1 := H d c hd
  have h2 : n + d < x.length := by
    rcases Nat.lt_or_ge (n + d) x.cps.size with q | q
    · exact q
    · rw [Array.getElem?_eq_none q] at h1; cases h1
  refine item_at (by omega) (by omega) (by omega) (fun _ => ?_) hs ht
  rw [H.item d e hd]
  exact h
end
section
variable {prog : Program} {w : World} {A : Around} {E : Value → Shared → Prop} {s : Shared} {h₀ : Heap} {L : Addr} {m : Str → Option Value} {Q : Value → Shared → Prop}
theorem app_tup {D l : Addr} {its : Array Value} {k : Nat} {o : Obj} {own : List (Addr × Obj)} (F : Fr h₀ L s.heap m) (N : News h₀ L s.heap ((D, o) :: (l, listOf its k) :: own)) (hlt : @LT.lt Nat _ l D ∧ AllLt D own) (hoff : ∀ p ∈ own, p.1 ≠ l) (hsz : its.size ≤ sizeLine)
    (h : ∀ (D' : Addr) (oo : Obj) h', oo = o → Fr h₀ L h' m → News h₀ L h' ((l, listOf (its.push (.ref D')) (k + 1)) :: (D', oo) :: own) → (∀ p ∈ (D', oo) :: own, p.1 ≠ l) → Q .none { s with heap := h' }) : wpAny (model prog w) A (call (.builtin "list.append") [.ref l, .ref D]) Q E s := by
  have hne : D ≠ l := Nat.ne_of_gt hlt.1
  refine append_K F N (.tail hne (.head hoff)) (fun h' F' N' => h D o h' rfl F' (fun p hp => ?_) (fun p hp => ?_)) hsz
  · rcases List.mem_cons.mp hp with rfl | hp
    · exact N' _ (.tail _ (.head _))
    · rcases List.mem_cons.mp hp with rfl | hp
      · exact N' _ (.head _)
      · exact N' _ (.tail _ (.tail _ hp))
  · rcases List.mem_cons.mp hp with rfl | hp
    · exact hne
    · exact hoff p hp
end
section
local macro_rules | `(tactic| walk_at $s:str) => if ["KswEnd", "exec While Compare", "binaryOp Add str str", "call builtin:list.append"].contains s.getString then `(tactic| refine Halt.out ?_) else Lean.Macro.throwUnsupported
local macro_rules | `(tactic| walk_at $s:str) => if ["subscriptTail", "subscriptTail Name Name str int"].contains s.getString then `(tactic| refine haltST ?_) else Lean.Macro.throwUnsupported
local macro_rules | `(tactic| walk_at $s:str) => if ["WhlIf"].contains s.getString then `(tactic| refine haltWI ?_) else Lean.Macro.throwUnsupported
local macro_rules | `(tactic| walk_at $s:str) => if ["exec If"].contains s.getString then `(tactic| ((with_reducible show wpAny _ _ (exec (Stmt.If (Expr.Name _ _) _ _ _) _) _ _ _); with_reducible refine haltM (m := JoinMarkR 1) (by assumption) ?_)) else Lean.Macro.throwUnsupported
set_option maxHeartbeats 8000000 in
theorem read_fn (w : World) (R : List (List Nat × (Bool × List Nat))) (tp : Tok) (hR : ∀ p ∈ R, Rd p.1 p.2) (hlen : R.length ≤ 100) (hp : (textOf R).length ≤ 1000) :
    Fn w 64 189 [.str (textOf R) tp] (fun h => True) (fun v h h' => ∃ l vs own, v = .ref l ∧ (∀ p ∈ (l, listOf vs.toArray vs.length) :: own, h.get? p.1 = none ∧ h'.get? p.1 = some p.2) ∧ SetsIn own vs (R.map Prod.snd)) := by
  unfold Fn
  intro dp un gd outer base s Q E loose mean mg mb hdp hun B' X' T' hpre hret
  obtain ⟨sh, sg, sd, st0, so⟩ := s
  dsimp only at B' X' T' hpre hret
  k_dflt (refine' call_plain (binds := [(Str.ofString "text", .str (textOf R) tp)]) ?X ?T ?o ?c ?r ?b ?l ?_ ?c2 ?c3 ?c4 ?c5; (case X => k_asm); (case T => k_asm); (case o => k_is); (case c => k_is); (case r => omega); (case b => exact BindsTo.of_eq rfl); (case l => exact locs rfl); (case c2 => decide); (case c3 => exact rfl); (case c4 => exact rfl); (case c5 => exact rfl); k_whole; intro L' h₁ qE eE tk9 hE hP F' N'; (simp only [List.reverse_cons, List.reverse_nil, List.nil_append, List.cons_append, lk] at F'); (try dsimp only); (try k_fold))
  have hA := text_head R
  have hB := text_tail R
  repeat (first | (with_reducible first | (refine one_cut5 sg sd so ?_; intro tkC) | (refine cons_cut5 sg sd so ?_; intro tkC qC hC)) | (k_unfold; (try dsimp only)) | walk1 | (with_reducible first | refine CutQ.next (by assumption) ?_ | refine CutQ.ret (by assumption) ?_ | refine CutQ.brk (by assumption) ?_ | refine CutQ.cont (by assumption) ?_ | refine EndQ.ret (by assumption) ?_ | refine EndQ.next (by assumption) ?_) | ((refine Halt.out' ?_); first | ((with_reducible show wpAny _ _ (subscriptTail _ _ (Value.str _ _) (Value.int _ _)) _ _ _); (k_dflt (first | refine item_pieceR (by with_reducible assumption) 0 (Int.add_zero _).symm (by first | rfl | with_reducible assumption) (by with_reducible assumption) ?_ | refine item_pieceR (by with_reducible assumption) 1 rfl (by first | rfl | with_reducible assumption) (by with_reducible assumption) ?_ | refine item_pieceR (by with_reducible assumption) _ (cast_split _ _) (by with_reducible assumption) (by with_reducible assumption) ?_ | refine item_pieceR (by with_reducible assumption) _ (cast_split1 _ _) (by with_reducible assumption) (by with_reducible assumption) ?_))) | (with_reducible ((show @ite _ _ _ _ _); ((refine ite_both (fun hc => ?_) (fun hc => ?_)); (all_goals (try simp only [beq_iff_eq, decide_eq_true_eq, Bool.not_eq_true', bne_eq_false_iff_eq, bne_iff_ne, ne_eq, c_open, c_dot, c_bs, c_hat, c_close] at hc)); (all_goals (try simp only [Bool.not_not] at hc)); (all_goals (try (exfalso; first | contradiction | k_dflt (first | omega))))))) | ((with_reducible show WhlIf _ _ _); first | (refine WhlIf.no (by simp only [decide_eq_false_iff_not]; omega) ?_) | (refine WhlIf.yes (by simp only [decide_eq_true_eq]; omega) ?_)) | ((k_here; (with_reducible show wpAny _ _ (subscriptTail _ _ (Value.str _ _) (Value.int _ _)) _ _ _); (refine item_at (by omega) (by omega) (by omega) ?_); intro kxiE))) | (dsimp only; walk1) | fail "no step")
  refine Halt.out' ?_
  rename_i lsets _ _ _ _ _ _ _ _ _ _ _ F1 N1
  clear hA hB
  refine' ksw_while (σ := Nat × Tok × List (Addr × Obj) × List Value) (fun c => (lsets, listOf c.2.2.2.toArray c.1) :: c.2.2.1) (fun c => [(Str.ofString "spot", .int ((offR R c.1 : Nat) : Int) c.2.1)]) (fun _ => True) [Str.ofString "bars", Str.ofString "held"] (fun c => c.1 ≤ R.length ∧ c.2.2.2.length = c.1 ∧ SetsIn c.2.2.1 c.2.2.2 ((R.take c.1).map Prod.snd) ∧ ∀ p ∈ c.2.2.1, p.1 ≠ lsets) (fun c => R.length - c.1) (0, ?t0, [], []) F1 N1 trivial ?_ ⟨Nat.zero_le _, rfl, SetsIn.nil _, fun p hp => nomatch hp⟩ ?_
  rotate_left
  · intro p hp
    rw [List.mem_singleton.mp hp]
    rfl
  · rintro ⟨k, tk, own, vs⟩ u h9 tk9 - ⟨hk, hvl, hv9, hoff⟩ F9 N9
    clear F1 N1
    dsimp only at hk hvl hv9 hoff F9 N9
    by_cases hkl : k = R.length
    · have hend := offR_end R
      rw [← hkl] at hend
      repeat (first | (with_reducible first | (refine one_cut5 sg sd so ?_; intro tkC) | (refine cons_cut5 sg sd so ?_; intro tkC qC hC)) | (k_unfold; (try dsimp only)) | walk1 | (with_reducible first | refine CutQ.next (by assumption) ?_ | refine CutQ.ret (by assumption) ?_ | refine CutQ.brk (by assumption) ?_ | refine CutQ.cont (by assumption) ?_ | refine EndQ.ret (by assumption) ?_ | refine EndQ.next (by assumption) ?_) | ((refine Halt.out' ?_); first | ((with_reducible show wpAny _ _ (subscriptTail _ _ (Value.str _ _) (Value.int _ _)) _ _ _); (k_dflt (first | refine item_pieceR (by with_reducible assumption) 0 (Int.add_zero _).symm (by first | rfl | with_reducible assumption) (by with_reducible assumption) ?_ | refine item_pieceR (by with_reducible assumption) 1 rfl (by first | rfl | with_reducible assumption) (by with_reducible assumption) ?_ | refine item_pieceR (by with_reducible assumption) _ (cast_split _ _) (by with_reducible assumption) (by with_reducible assumption) ?_ | refine item_pieceR (by with_reducible assumption) _ (cast_split1 _ _) (by with_reducible assumption) (by with_reducible assumption) ?_))) | (with_reducible ((show @ite _ _ _ _ _); ((refine ite_both (fun hc => ?_) (fun hc => ?_)); (all_goals (try simp only [beq_iff_eq, decide_eq_true_eq, Bool.not_eq_true', bne_eq_false_iff_eq, bne_iff_ne, ne_eq, c_open, c_dot, c_bs, c_hat, c_close] at hc)); (all_goals (try simp only [Bool.not_not] at hc)); (all_goals (try (exfalso; first | contradiction | k_dflt (first | omega))))))) | ((with_reducible show WhlIf _ _ _); first | (refine WhlIf.no (by simp only [decide_eq_false_iff_not]; omega) ?_) | (refine WhlIf.yes (by simp only [decide_eq_true_eq]; omega) ?_)) | ((k_here; (with_reducible show wpAny _ _ (subscriptTail _ _ (Value.str _ _) (Value.int _ _)) _ _ _); (refine item_at (by omega) (by omega) (by omega) ?_); intro kxiE))) | (dsimp only; walk1) | fail "no step")
      (try dsimp only)
      refine hret _ _ _ (fun b o e => Fr.keep (by assumption) b o e) ⟨lsets, vs, own, rfl, ?_, ?_⟩
      · rw [hvl]
        exact fun p hp => ⟨(N9 p hp).2.2, (N9 p hp).1⟩
      · rw [hkl, List.take_length] at hv9
        exact hv9
    · have hkL : k < R.length := by omega
      obtain ⟨pc, hpc⟩ : ∃ pc, R[k]? = some pc := ⟨_, List.getElem?_eq_getElem hkL⟩
      have hRd := hR pc (List.mem_of_getElem? hpc)
      have hat := offR_at hpc
      have hsu := offR_succ hpc
      have hle := offR_le R (k + 1)
      have hta : (R.take (k + 1)).map Prod.snd = (R.take k).map Prod.snd ++ [pc.2] := by rw [List.take_add_one, hpc]; simp
      have hk100 : vs.toArray.size ≤ sizeLine := Nat.le_trans (m := 100) (by rw [List.size_toArray]; omega) (by decide)
      obtain ⟨p, d⟩ := pc
      dsimp only at hRd hat hsu hta
      cases hRd with
      | plain c n1 n2 n3 =>
        have hsu' : offR R (k + 1) = offR R k + 1 := hsu
        clear hsu
        repeat (first | (with_reducible first | (refine one_cut5 sg sd so ?_; intro tkC) | (refine cons_cut5 sg sd so ?_; intro tkC qC hC)) | (k_unfold; (try dsimp only)) | walk1 | (with_reducible first | refine CutQ.next (by assumption) ?_ | refine CutQ.ret (by assumption) ?_ | refine CutQ.brk (by assumption) ?_ | refine CutQ.cont (by assumption) ?_ | refine EndQ.ret (by assumption) ?_ | refine EndQ.next (by assumption) ?_) | ((refine Halt.out' ?_); first | ((with_reducible show wpAny _ _ (subscriptTail _ _ (Value.str _ _) (Value.int _ _)) _ _ _); (k_dflt (first | refine item_pieceR (by with_reducible assumption) 0 (Int.add_zero _).symm (by first | rfl | with_reducible assumption) (by with_reducible assumption) ?_ | refine item_pieceR (by with_reducible assumption) 1 rfl (by first | rfl | with_reducible assumption) (by with_reducible assumption) ?_ | refine item_pieceR (by with_reducible assumption) _ (cast_split _ _) (by with_reducible assumption) (by with_reducible assumption) ?_ | refine item_pieceR (by with_reducible assumption) _ (cast_split1 _ _) (by with_reducible assumption) (by with_reducible assumption) ?_))) | (with_reducible ((show @ite _ _ _ _ _); ((refine ite_both (fun hc => ?_) (fun hc => ?_)); (all_goals (try simp only [beq_iff_eq, decide_eq_true_eq, Bool.not_eq_true', bne_eq_false_iff_eq, bne_iff_ne, ne_eq, c_open, c_dot, c_bs, c_hat, c_close] at hc)); (all_goals (try simp only [Bool.not_not] at hc)); (all_goals (try (exfalso; first | contradiction | k_dflt (first | omega))))))) | ((with_reducible show WhlIf _ _ _); first | (refine WhlIf.no (by simp only [decide_eq_false_iff_not]; omega) ?_) | (refine WhlIf.yes (by simp only [decide_eq_true_eq]; omega) ?_)) | ((k_here; (with_reducible show wpAny _ _ (subscriptTail _ _ (Value.str _ _) (Value.int _ _)) _ _ _); (refine item_at (by omega) (by omega) (by omega) ?_); intro kxiE))) | (dsimp only; walk1) | fail "no step")
        refine Halt.out' ?_
        (rename Fr _ _ _ _ => F2); (rename News _ _ _ _ => N2)
        refine app_tup F2 N2 (by assumption) hoff hk100 ?_
        intro D9 o9 h8 ho9 F8 N8 hoff9
        clear F2 N2
        repeat (first | (with_reducible first | (refine one_cut5 sg sd so ?_; intro tkC) | (refine cons_cut5 sg sd so ?_; intro tkC qC hC)) | (k_unfold; (try dsimp only)) | walk1 | (with_reducible first | refine CutQ.next (by assumption) ?_ | refine CutQ.ret (by assumption) ?_ | refine CutQ.brk (by assumption) ?_ | refine CutQ.cont (by assumption) ?_ | refine EndQ.ret (by assumption) ?_ | refine EndQ.next (by assumption) ?_) | ((refine Halt.out' ?_); first | ((with_reducible show wpAny _ _ (subscriptTail _ _ (Value.str _ _) (Value.int _ _)) _ _ _); (k_dflt (first | refine item_pieceR (by with_reducible assumption) 0 (Int.add_zero _).symm (by first | rfl | with_reducible assumption) (by with_reducible assumption) ?_ | refine item_pieceR (by with_reducible assumption) 1 rfl (by first | rfl | with_reducible assumption) (by with_reducible assumption) ?_ | refine item_pieceR (by with_reducible assumption) _ (cast_split _ _) (by with_reducible assumption) (by with_reducible assumption) ?_ | refine item_pieceR (by with_reducible assumption) _ (cast_split1 _ _) (by with_reducible assumption) (by with_reducible assumption) ?_))) | (with_reducible ((show @ite _ _ _ _ _); ((refine ite_both (fun hc => ?_) (fun hc => ?_)); (all_goals (try simp only [beq_iff_eq, decide_eq_true_eq, Bool.not_eq_true', bne_eq_false_iff_eq, bne_iff_ne, ne_eq, c_open, c_dot, c_bs, c_hat, c_close] at hc)); (all_goals (try simp only [Bool.not_not] at hc)); (all_goals (try (exfalso; first | contradiction | k_dflt (first | omega))))))) | ((with_reducible show WhlIf _ _ _); first | (refine WhlIf.no (by simp only [decide_eq_false_iff_not]; omega) ?_) | (refine WhlIf.yes (by simp only [decide_eq_true_eq]; omega) ?_)) | ((k_here; (with_reducible show wpAny _ _ (subscriptTail _ _ (Value.str _ _) (Value.int _ _)) _ _ _); (refine item_at (by omega) (by omega) (by omega) ?_); intro kxiE))) | (dsimp only; walk1) | fail "no step")
        (rename Fr _ _ _ _ => cF); (rename News _ _ _ _ => cN)
        have eo9 : (vs ++ [Value.ref D9]).toArray = vs.toArray.push (Value.ref D9) := by simp
        (try refine Halt.out' ?_)
        refine ksw_end (k + 1, _, (D9, o9) :: own, vs ++ [Value.ref D9]) cF cN (by rw [eo9]; exact fun p hp => hp) trivial (fun p hp => by rw [List.mem_singleton.mp hp]; exact spot_is (by rw [hsu']; first | rfl | omega)) (fun z h2 h3 => ?_) ⟨hkL, by simp [hvl], by rw [hta]; exact hv9.snoc ⟨_, _, ho9⟩, hoff9⟩ (by show R.length - (k + 1) < R.length - k; omega)
        have h4 : z ≠ Str.ofString "spot" := h2 _ (.head _)
        have h5 : z ≠ Str.ofString "bars" ∧ z ≠ Str.ofString "held" := by simpa using h3
        simp [kstB, h4, h5.1, h5.2]
      | esc c =>
        have hsu' : offR R (k + 1) = offR R k + 1 + 1 := hsu
        clear hsu
        repeat (first | (with_reducible first | (refine one_cut5 sg sd so ?_; intro tkC) | (refine cons_cut5 sg sd so ?_; intro tkC qC hC)) | (k_unfold; (try dsimp only)) | walk1 | (with_reducible first | refine CutQ.next (by assumption) ?_ | refine CutQ.ret (by assumption) ?_ | refine CutQ.brk (by assumption) ?_ | refine CutQ.cont (by assumption) ?_ | refine EndQ.ret (by assumption) ?_ | refine EndQ.next (by assumption) ?_) | ((refine Halt.out' ?_); first | ((with_reducible show wpAny _ _ (subscriptTail _ _ (Value.str _ _) (Value.int _ _)) _ _ _); (k_dflt (first | refine item_pieceR (by with_reducible assumption) 0 (Int.add_zero _).symm (by first | rfl | with_reducible assumption) (by with_reducible assumption) ?_ | refine item_pieceR (by with_reducible assumption) 1 rfl (by first | rfl | with_reducible assumption) (by with_reducible assumption) ?_ | refine item_pieceR (by with_reducible assumption) _ (cast_split _ _) (by with_reducible assumption) (by with_reducible assumption) ?_ | refine item_pieceR (by with_reducible assumption) _ (cast_split1 _ _) (by with_reducible assumption) (by with_reducible assumption) ?_))) | (with_reducible ((show @ite _ _ _ _ _); ((refine ite_both (fun hc => ?_) (fun hc => ?_)); (all_goals (try simp only [beq_iff_eq, decide_eq_true_eq, Bool.not_eq_true', bne_eq_false_iff_eq, bne_iff_ne, ne_eq, c_open, c_dot, c_bs, c_hat, c_close] at hc)); (all_goals (try simp only [Bool.not_not] at hc)); (all_goals (try (exfalso; first | contradiction | k_dflt (first | omega))))))) | ((with_reducible show WhlIf _ _ _); first | (refine WhlIf.no (by simp only [decide_eq_false_iff_not]; omega) ?_) | (refine WhlIf.yes (by simp only [decide_eq_true_eq]; omega) ?_)) | ((k_here; (with_reducible show wpAny _ _ (subscriptTail _ _ (Value.str _ _) (Value.int _ _)) _ _ _); (refine item_at (by omega) (by omega) (by omega) ?_); intro kxiE))) | (dsimp only; walk1) | fail "no step")
        refine Halt.out' ?_
        (rename Fr _ _ _ _ => F2); (rename News _ _ _ _ => N2)
        refine app_tup F2 N2 (by assumption) hoff hk100 ?_
        intro D9 o9 h8 ho9 F8 N8 hoff9
        clear F2 N2
        repeat (first | (with_reducible first | (refine one_cut5 sg sd so ?_; intro tkC) | (refine cons_cut5 sg sd so ?_; intro tkC qC hC)) | (k_unfold; (try dsimp only)) | walk1 | (with_reducible first | refine CutQ.next (by assumption) ?_ | refine CutQ.ret (by assumption) ?_ | refine CutQ.brk (by assumption) ?_ | refine CutQ.cont (by assumption) ?_ | refine EndQ.ret (by assumption) ?_ | refine EndQ.next (by assumption) ?_) | ((refine Halt.out' ?_); first | ((with_reducible show wpAny _ _ (subscriptTail _ _ (Value.str _ _) (Value.int _ _)) _ _ _); (k_dflt (first | refine item_pieceR (by with_reducible assumption) 0 (Int.add_zero _).symm (by first | rfl | with_reducible assumption) (by with_reducible assumption) ?_ | refine item_pieceR (by with_reducible assumption) 1 rfl (by first | rfl | with_reducible assumption) (by with_reducible assumption) ?_ | refine item_pieceR (by with_reducible assumption) _ (cast_split _ _) (by with_reducible assumption) (by with_reducible assumption) ?_ | refine item_pieceR (by with_reducible assumption) _ (cast_split1 _ _) (by with_reducible assumption) (by with_reducible assumption) ?_))) | (with_reducible ((show @ite _ _ _ _ _); ((refine ite_both (fun hc => ?_) (fun hc => ?_)); (all_goals (try simp only [beq_iff_eq, decide_eq_true_eq, Bool.not_eq_true', bne_eq_false_iff_eq, bne_iff_ne, ne_eq, c_open, c_dot, c_bs, c_hat, c_close] at hc)); (all_goals (try simp only [Bool.not_not] at hc)); (all_goals (try (exfalso; first | contradiction | k_dflt (first | omega))))))) | ((with_reducible show WhlIf _ _ _); first | (refine WhlIf.no (by simp only [decide_eq_false_iff_not]; omega) ?_) | (refine WhlIf.yes (by simp only [decide_eq_true_eq]; omega) ?_)) | ((k_here; (with_reducible show wpAny _ _ (subscriptTail _ _ (Value.str _ _) (Value.int _ _)) _ _ _); (refine item_at (by omega) (by omega) (by omega) ?_); intro kxiE))) | (dsimp only; walk1) | fail "no step")
        (rename Fr _ _ _ _ => cF); (rename News _ _ _ _ => cN)
        have eo9 : (vs ++ [Value.ref D9]).toArray = vs.toArray.push (Value.ref D9) := by simp
        (try refine Halt.out' ?_)
        refine ksw_end (k + 1, _, (D9, o9) :: own, vs ++ [Value.ref D9]) cF cN (by rw [eo9]; exact fun p hp => hp) trivial (fun p hp => by rw [List.mem_singleton.mp hp]; exact spot_is (by rw [hsu']; first | rfl | omega)) (fun z h2 h3 => ?_) ⟨hkL, by simp [hvl], by rw [hta]; exact hv9.snoc ⟨_, _, ho9⟩, hoff9⟩ (by show R.length - (k + 1) < R.length - k; omega)
        have h4 : z ≠ Str.ofString "spot" := h2 _ (.head _)
        have h5 : z ≠ Str.ofString "bars" ∧ z ≠ Str.ofString "held" := by simpa using h3
        simp [kstB, h4, h5.1, h5.2]
      | dot =>
        have hsu' : offR R (k + 1) = offR R k + 1 := hsu
        clear hsu
        repeat (first | (with_reducible first | (refine one_cut5 sg sd so ?_; intro tkC) | (refine cons_cut5 sg sd so ?_; intro tkC qC hC)) | (k_unfold; (try dsimp only)) | walk1 | (with_reducible first | refine CutQ.next (by assumption) ?_ | refine CutQ.ret (by assumption) ?_ | refine CutQ.brk (by assumption) ?_ | refine CutQ.cont (by assumption) ?_ | refine EndQ.ret (by assumption) ?_ | refine EndQ.next (by assumption) ?_) | ((refine Halt.out' ?_); first | ((with_reducible show wpAny _ _ (subscriptTail _ _ (Value.str _ _) (Value.int _ _)) _ _ _); (k_dflt (first | refine item_pieceR (by with_reducible assumption) 0 (Int.add_zero _).symm (by first | rfl | with_reducible assumption) (by with_reducible assumption) ?_ | refine item_pieceR (by with_reducible assumption) 1 rfl (by first | rfl | with_reducible assumption) (by with_reducible assumption) ?_ | refine item_pieceR (by with_reducible assumption) _ (cast_split _ _) (by with_reducible assumption) (by with_reducible assumption) ?_ | refine item_pieceR (by with_reducible assumption) _ (cast_split1 _ _) (by with_reducible assumption) (by with_reducible assumption) ?_))) | (with_reducible ((show @ite _ _ _ _ _); ((refine ite_both (fun hc => ?_) (fun hc => ?_)); (all_goals (try simp only [beq_iff_eq, decide_eq_true_eq, Bool.not_eq_true', bne_eq_false_iff_eq, bne_iff_ne, ne_eq, c_open, c_dot, c_bs, c_hat, c_close] at hc)); (all_goals (try simp only [Bool.not_not] at hc)); (all_goals (try (exfalso; first | contradiction | k_dflt (first | omega))))))) | ((with_reducible show WhlIf _ _ _); first | (refine WhlIf.no (by simp only [decide_eq_false_iff_not]; omega) ?_) | (refine WhlIf.yes (by simp only [decide_eq_true_eq]; omega) ?_)) | ((k_here; (with_reducible show wpAny _ _ (subscriptTail _ _ (Value.str _ _) (Value.int _ _)) _ _ _); (refine item_at (by omega) (by omega) (by omega) ?_); intro kxiE))) | (dsimp only; walk1) | fail "no step")
        refine Halt.out' ?_
        (rename Fr _ _ _ _ => F2); (rename News _ _ _ _ => N2)
        refine app_tup F2 N2 (by assumption) hoff hk100 ?_
        intro D9 o9 h8 ho9 F8 N8 hoff9
        clear F2 N2
        repeat (first | (with_reducible first | (refine one_cut5 sg sd so ?_; intro tkC) | (refine cons_cut5 sg sd so ?_; intro tkC qC hC)) | (k_unfold; (try dsimp only)) | walk1 | (with_reducible first | refine CutQ.next (by assumption) ?_ | refine CutQ.ret (by assumption) ?_ | refine CutQ.brk (by assumption) ?_ | refine CutQ.cont (by assumption) ?_ | refine EndQ.ret (by assumption) ?_ | refine EndQ.next (by assumption) ?_) | ((refine Halt.out' ?_); first | ((with_reducible show wpAny _ _ (subscriptTail _ _ (Value.str _ _) (Value.int _ _)) _ _ _); (k_dflt (first | refine item_pieceR (by with_reducible assumption) 0 (Int.add_zero _).symm (by first | rfl | with_reducible assumption) (by with_reducible assumption) ?_ | refine item_pieceR (by with_reducible assumption) 1 rfl (by first | rfl | with_reducible assumption) (by with_reducible assumption) ?_ | refine item_pieceR (by with_reducible assumption) _ (cast_split _ _) (by with_reducible assumption) (by with_reducible assumption) ?_ | refine item_pieceR (by with_reducible assumption) _ (cast_split1 _ _) (by with_reducible assumption) (by with_reducible assumption) ?_))) | (with_reducible ((show @ite _ _ _ _ _); ((refine ite_both (fun hc => ?_) (fun hc => ?_)); (all_goals (try simp only [beq_iff_eq, decide_eq_true_eq, Bool.not_eq_true', bne_eq_false_iff_eq, bne_iff_ne, ne_eq, c_open, c_dot, c_bs, c_hat, c_close] at hc)); (all_goals (try simp only [Bool.not_not] at hc)); (all_goals (try (exfalso; first | contradiction | k_dflt (first | omega))))))) | ((with_reducible show WhlIf _ _ _); first | (refine WhlIf.no (by simp only [decide_eq_false_iff_not]; omega) ?_) | (refine WhlIf.yes (by simp only [decide_eq_true_eq]; omega) ?_)) | ((k_here; (with_reducible show wpAny _ _ (subscriptTail _ _ (Value.str _ _) (Value.int _ _)) _ _ _); (refine item_at (by omega) (by omega) (by omega) ?_); intro kxiE))) | (dsimp only; walk1) | fail "no step")
        (rename Fr _ _ _ _ => cF); (rename News _ _ _ _ => cN)
        have eo9 : (vs ++ [Value.ref D9]).toArray = vs.toArray.push (Value.ref D9) := by simp
        (try refine Halt.out' ?_)
        refine ksw_end (k + 1, _, (D9, o9) :: own, vs ++ [Value.ref D9]) cF cN (by rw [eo9]; exact fun p hp => hp) trivial (fun p hp => by rw [List.mem_singleton.mp hp]; exact spot_is (by rw [hsu']; first | rfl | omega)) (fun z h2 h3 => ?_) ⟨hkL, by simp [hvl], by rw [hta]; exact hv9.snoc ⟨_, _, ho9⟩, hoff9⟩ (by show R.length - (k + 1) < R.length - k; omega)
        have h4 : z ≠ Str.ofString "spot" := h2 _ (.head _)
        have h5 : z ≠ Str.ofString "bars" ∧ z ≠ Str.ofString "held" := by simpa using h3
        simp [kstB, h4, h5.1, h5.2]
      | brk c r held hs1 hs2 hr =>
        have hpl : (91 :: c :: r).length = r.length + 2 := rfl
        rw [hpl] at hsu
        have hc0 : (91 :: c :: r)[1]? = some c := rfl
        have jm : JoinMarkR 1 := trivial
        repeat (first | (with_reducible first | (refine one_cut5 sg sd so ?_; intro tkC) | (refine cons_cut5 sg sd so ?_; intro tkC qC hC)) | (k_unfold; (try dsimp only)) | walk1 | (with_reducible first | refine CutQ.next (by assumption) ?_ | refine CutQ.ret (by assumption) ?_ | refine CutQ.brk (by assumption) ?_ | refine CutQ.cont (by assumption) ?_ | refine EndQ.ret (by assumption) ?_ | refine EndQ.next (by assumption) ?_) | ((refine Halt.out' ?_); first | ((with_reducible show wpAny _ _ (subscriptTail _ _ (Value.str _ _) (Value.int _ _)) _ _ _); (k_dflt (first | refine item_pieceR (by with_reducible assumption) 0 (Int.add_zero _).symm (by first | rfl | with_reducible assumption) (by with_reducible assumption) ?_ | refine item_pieceR (by with_reducible assumption) 1 rfl (by first | rfl | with_reducible assumption) (by with_reducible assumption) ?_ | refine item_pieceR (by with_reducible assumption) _ (cast_split _ _) (by with_reducible assumption) (by with_reducible assumption) ?_ | refine item_pieceR (by with_reducible assumption) _ (cast_split1 _ _) (by with_reducible assumption) (by with_reducible assumption) ?_))) | (with_reducible ((show @ite _ _ _ _ _); ((refine ite_both (fun hc => ?_) (fun hc => ?_)); (all_goals (try simp only [beq_iff_eq, decide_eq_true_eq, Bool.not_eq_true', bne_eq_false_iff_eq, bne_iff_ne, ne_eq, c_open, c_dot, c_bs, c_hat, c_close] at hc)); (all_goals (try simp only [Bool.not_not] at hc)); (all_goals (try (exfalso; first | contradiction | k_dflt (first | omega))))))) | ((with_reducible show WhlIf _ _ _); first | (refine WhlIf.no (by simp only [decide_eq_false_iff_not]; omega) ?_) | (refine WhlIf.yes (by simp only [decide_eq_true_eq]; omega) ?_)) | ((k_here; (with_reducible show wpAny _ _ (subscriptTail _ _ (Value.str _ _) (Value.int _ _)) _ _ _); (refine item_at (by omega) (by omega) (by omega) ?_); intro kxiE))) | (dsimp only; walk1) | fail "no step")
        refine Halt.out' ?_
        rename JoinMarkR 1 => jm
        clear jm
        have hbq : ((⟨#[c]⟩ : Str) == Str.ofString "^") = (c == 94) := by
          rw [Bool.eq_iff_iff, beq_iff_eq, beq_iff_eq]; exact c_hat
        (rename Fr _ _ _ _ => F2)
        simp only [hbq] at F2
        obtain ⟨g, hg, F2⟩ := fr_named F2
        obtain ⟨b1, hb1⟩ : ∃ b1 : Nat, (c = 94 ∧ b1 = 1) ∨ (c ≠ 94 ∧ b1 = 0) := by
          by_cases h : c = 94
          · exact ⟨1, .inl ⟨h, rfl⟩⟩
          · exact ⟨0, .inr ⟨h, rfl⟩⟩
        refine wpAny_mono (Q := fun fl s' => ShutR (fl = .next ∧ ∃ h tk ts spv, spv = ((offR R k + (1 + b1) : Nat) : Int) ∧ s' = ⟨h, sg, sd, tk, so⟩ ∧ Fr sh L' h (fun z => if z = Str.ofString "spot" then some (.int spv ts) else g z) ∧ News sh L' h ((lsets, listOf vs.toArray k) :: own))) ?J1 ?_ (fun _ _ e => e)
        case J1 =>
          rcases hb1 with ⟨hba, hb⟩ | ⟨hba, hb⟩
          · subst hb
            repeat (first | (with_reducible first | (refine one_cut5 sg sd so ?_; intro tkC) | (refine cons_cut5 sg sd so ?_; intro tkC qC hC)) | (k_unfold; (try dsimp only)) | walk1 | (with_reducible first | refine CutQ.next (by assumption) ?_ | refine CutQ.ret (by assumption) ?_ | refine CutQ.brk (by assumption) ?_ | refine CutQ.cont (by assumption) ?_ | refine EndQ.ret (by assumption) ?_ | refine EndQ.next (by assumption) ?_) | ((refine Halt.out' ?_); first | ((with_reducible show wpAny _ _ (subscriptTail _ _ (Value.str _ _) (Value.int _ _)) _ _ _); (k_dflt (first | refine item_pieceR (by with_reducible assumption) 0 (Int.add_zero _).symm (by first | rfl | with_reducible assumption) (by with_reducible assumption) ?_ | refine item_pieceR (by with_reducible assumption) 1 rfl (by first | rfl | with_reducible assumption) (by with_reducible assumption) ?_ | refine item_pieceR (by with_reducible assumption) _ (cast_split _ _) (by with_reducible assumption) (by with_reducible assumption) ?_ | refine item_pieceR (by with_reducible assumption) _ (cast_split1 _ _) (by with_reducible assumption) (by with_reducible assumption) ?_))) | (with_reducible ((show @ite _ _ _ _ _); ((refine ite_both (fun hc => ?_) (fun hc => ?_)); (all_goals (try simp only [beq_iff_eq, decide_eq_true_eq, Bool.not_eq_true', bne_eq_false_iff_eq, bne_iff_ne, ne_eq, c_open, c_dot, c_bs, c_hat, c_close] at hc)); (all_goals (try simp only [Bool.not_not] at hc)); (all_goals (try (exfalso; first | contradiction | k_dflt (first | omega))))))) | ((with_reducible show WhlIf _ _ _); first | (refine WhlIf.no (by simp only [decide_eq_false_iff_not]; omega) ?_) | (refine WhlIf.yes (by simp only [decide_eq_true_eq]; omega) ?_)) | ((k_here; (with_reducible show wpAny _ _ (subscriptTail _ _ (Value.str _ _) (Value.int _ _)) _ _ _); (refine item_at (by omega) (by omega) (by omega) ?_); intro kxiE))) | (dsimp only; walk1) | fail "no step")
            (rename Fr _ _ _ _ => cF); (rename News _ _ _ _ => cN)
            (try dsimp only)
            exact ShutR.mk ⟨by trivial, _, _, _, _, jr2 _, rfl, fr_over cF rfl (fun z hz => by rw [hg]; exact if_neg hz), cN⟩
          · subst hb
            repeat (first | (with_reducible first | (refine one_cut5 sg sd so ?_; intro tkC) | (refine cons_cut5 sg sd so ?_; intro tkC qC hC)) | (k_unfold; (try dsimp only)) | walk1 | (with_reducible first | refine CutQ.next (by assumption) ?_ | refine CutQ.ret (by assumption) ?_ | refine CutQ.brk (by assumption) ?_ | refine CutQ.cont (by assumption) ?_ | refine EndQ.ret (by assumption) ?_ | refine EndQ.next (by assumption) ?_) | ((refine Halt.out' ?_); first | ((with_reducible show wpAny _ _ (subscriptTail _ _ (Value.str _ _) (Value.int _ _)) _ _ _); (k_dflt (first | refine item_pieceR (by with_reducible assumption) 0 (Int.add_zero _).symm (by first | rfl | with_reducible assumption) (by with_reducible assumption) ?_ | refine item_pieceR (by with_reducible assumption) 1 rfl (by first | rfl | with_reducible assumption) (by with_reducible assumption) ?_ | refine item_pieceR (by with_reducible assumption) _ (cast_split _ _) (by with_reducible assumption) (by with_reducible assumption) ?_ | refine item_pieceR (by with_reducible assumption) _ (cast_split1 _ _) (by with_reducible assumption) (by with_reducible assumption) ?_))) | (with_reducible ((show @ite _ _ _ _ _); ((refine ite_both (fun hc => ?_) (fun hc => ?_)); (all_goals (try simp only [beq_iff_eq, decide_eq_true_eq, Bool.not_eq_true', bne_eq_false_iff_eq, bne_iff_ne, ne_eq, c_open, c_dot, c_bs, c_hat, c_close] at hc)); (all_goals (try simp only [Bool.not_not] at hc)); (all_goals (try (exfalso; first | contradiction | k_dflt (first | omega))))))) | ((with_reducible show WhlIf _ _ _); first | (refine WhlIf.no (by simp only [decide_eq_false_iff_not]; omega) ?_) | (refine WhlIf.yes (by simp only [decide_eq_true_eq]; omega) ?_)) | ((k_here; (with_reducible show wpAny _ _ (subscriptTail _ _ (Value.str _ _) (Value.int _ _)) _ _ _); (refine item_at (by omega) (by omega) (by omega) ?_); intro kxiE))) | (dsimp only; walk1) | fail "no step")
            (rename Fr _ _ _ _ => cF); (rename News _ _ _ _ => cN)
            (try dsimp only)
            exact ShutR.mk ⟨by trivial, _, _, _, _, jr1 _, rfl, fr_over cF rfl (fun z hz => by rw [hg]), cN⟩
        rintro _ _ ⟨rfl, h3, tk3, ts3, spv, hspv, rfl, F3, N3⟩
        subst hspv
        subst hg
        have hst : scan ((91 :: c :: r).drop (1 + b1)) [] = some held := by
          rcases hb1 with ⟨hba, hb⟩ | ⟨hba, hb⟩
          · subst hb; exact hs1 (by simpa using hba)
          · subst hb; exact hs2 (by simpa using hba)
        have hb1' : 1 + b1 ≤ r.length + 2 := by omega
        (try clear F2)
        clear hs1 hs2 hb1 hbq hc0
        (try dsimp only)
        repeat (first | (with_reducible first | (refine one_cut5 sg sd so ?_; intro tkC) | (refine cons_cut5 sg sd so ?_; intro tkC qC hC)) | (k_unfold; (try dsimp only)) | walk1 | (with_reducible first | refine CutQ.next (by assumption) ?_ | refine CutQ.ret (by assumption) ?_ | refine CutQ.brk (by assumption) ?_ | refine CutQ.cont (by assumption) ?_ | refine EndQ.ret (by assumption) ?_ | refine EndQ.next (by assumption) ?_) | ((refine Halt.out' ?_); first | ((with_reducible show wpAny _ _ (subscriptTail _ _ (Value.str _ _) (Value.int _ _)) _ _ _); (k_dflt (first | refine item_pieceR (by with_reducible assumption) 0 (Int.add_zero _).symm (by first | rfl | with_reducible assumption) (by with_reducible assumption) ?_ | refine item_pieceR (by with_reducible assumption) 1 rfl (by first | rfl | with_reducible assumption) (by with_reducible assumption) ?_ | refine item_pieceR (by with_reducible assumption) _ (cast_split _ _) (by with_reducible assumption) (by with_reducible assumption) ?_ | refine item_pieceR (by with_reducible assumption) _ (cast_split1 _ _) (by with_reducible assumption) (by with_reducible assumption) ?_))) | (with_reducible ((show @ite _ _ _ _ _); ((refine ite_both (fun hc => ?_) (fun hc => ?_)); (all_goals (try simp only [beq_iff_eq, decide_eq_true_eq, Bool.not_eq_true', bne_eq_false_iff_eq, bne_iff_ne, ne_eq, c_open, c_dot, c_bs, c_hat, c_close] at hc)); (all_goals (try simp only [Bool.not_not] at hc)); (all_goals (try (exfalso; first | contradiction | k_dflt (first | omega))))))) | ((with_reducible show WhlIf _ _ _); first | (refine WhlIf.no (by simp only [decide_eq_false_iff_not]; omega) ?_) | (refine WhlIf.yes (by simp only [decide_eq_true_eq]; omega) ?_)) | ((k_here; (with_reducible show wpAny _ _ (subscriptTail _ _ (Value.str _ _) (Value.int _ _)) _ _ _); (refine item_at (by omega) (by omega) (by omega) ?_); intro kxiE))) | (dsimp only; walk1) | fail "no step")
        refine Halt.out' ?_
        (rename Fr _ _ _ _ => F4); (rename News _ _ _ _ => N4)
        refine' ksw_while (σ := Nat × Tok × List Nat × Tok) (fun _ => (lsets, listOf vs.toArray k) :: own) (fun q => [(Str.ofString "spot", .int ((offR R k + q.1 : Nat) : Int) q.2.1), (Str.ofString "held", .str ⟨q.2.2.1.toArray⟩ q.2.2.2)]) (fun _ => True) [] (fun q => scan ((91 :: c :: r).drop q.1) q.2.2.1 = some held ∧ q.1 ≤ r.length + 2 ∧ q.2.2.1.length ≤ q.1) (fun q => r.length + 3 - q.1) (1 + b1, ts3, [], ?th) F4 N4 trivial ?_ ⟨hst, hb1', Nat.zero_le _⟩ ?_
        rotate_left
        · intro q hq
          rcases List.mem_cons.mp hq with rfl | hq
          · rfl
          · rw [List.mem_singleton.mp hq]
            show some (Value.str (Str.ofString "") _) = some (Value.str ⟨([] : List Nat).toArray⟩ _)
            rw [str_nil]
        · rintro ⟨d, td, hl, th⟩ u2 h7 tk7 - ⟨hsc, hd, hhl⟩ F7 N7
          clear F4 N4 hst hb1'
          dsimp only at hsc hd hhl F7 N7
          have hdlt : d < (91 :: c :: r).length := by
            rcases Nat.lt_or_ge d (91 :: c :: r).length with q | q
            · exact q
            · rw [List.drop_of_length_le q] at hsc; cases hsc
          have hdr := List.drop_eq_getElem_cons hdlt
          generalize hee : (91 :: c :: r)[d] = e at hdr
          have hde : (91 :: c :: r)[d]? = some e := by rw [List.getElem?_eq_getElem hdlt, hee]
          rw [hpl] at hdlt
          rw [hdr] at hsc
          have hl200 : hl.length ≤ 200 := by omega
          by_cases he93 : e = 93
          · subst he93
            have hsc' : (if (91 :: c :: r).drop (d + 1) = [] then some hl else none) = some held := (scan_close _ _).symm.trans hsc
            have hnil : (91 :: c :: r).drop (d + 1) = [] := by
              by_cases hq : (91 :: c :: r).drop (d + 1) = []
              · exact hq
              · rw [if_neg hq] at hsc'; cases hsc'
            rw [if_pos hnil] at hsc'
            have hhe : hl = held := Option.some.inj hsc'
            have hd1 : r.length + 2 ≤ d + 1 := by
              have := List.drop_eq_nil_iff.mp hnil
              rw [hpl] at this
              exact this
            have hsu' : offR R (k + 1) = offR R k + d + 1 := by omega
            subst hhe
            repeat (first | (with_reducible first | (refine one_cut5 sg sd so ?_; intro tkC) | (refine cons_cut5 sg sd so ?_; intro tkC qC hC)) | (k_unfold; (try dsimp only)) | walk1 | (with_reducible first | refine CutQ.next (by assumption) ?_ | refine CutQ.ret (by assumption) ?_ | refine CutQ.brk (by assumption) ?_ | refine CutQ.cont (by assumption) ?_ | refine EndQ.ret (by assumption) ?_ | refine EndQ.next (by assumption) ?_) | ((refine Halt.out' ?_); first | ((with_reducible show wpAny _ _ (subscriptTail _ _ (Value.str _ _) (Value.int _ _)) _ _ _); (k_dflt (first | refine item_pieceR (by with_reducible assumption) 0 (Int.add_zero _).symm (by first | rfl | with_reducible assumption) (by with_reducible assumption) ?_ | refine item_pieceR (by with_reducible assumption) 1 rfl (by first | rfl | with_reducible assumption) (by with_reducible assumption) ?_ | refine item_pieceR (by with_reducible assumption) _ (cast_split _ _) (by with_reducible assumption) (by with_reducible assumption) ?_ | refine item_pieceR (by with_reducible assumption) _ (cast_split1 _ _) (by with_reducible assumption) (by with_reducible assumption) ?_))) | (with_reducible ((show @ite _ _ _ _ _); ((refine ite_both (fun hc => ?_) (fun hc => ?_)); (all_goals (try simp only [beq_iff_eq, decide_eq_true_eq, Bool.not_eq_true', bne_eq_false_iff_eq, bne_iff_ne, ne_eq, c_open, c_dot, c_bs, c_hat, c_close] at hc)); (all_goals (try simp only [Bool.not_not] at hc)); (all_goals (try (exfalso; first | contradiction | k_dflt (first | omega))))))) | ((with_reducible show WhlIf _ _ _); first | (refine WhlIf.no (by simp only [decide_eq_false_iff_not]; omega) ?_) | (refine WhlIf.yes (by simp only [decide_eq_true_eq]; omega) ?_)) | ((k_here; (with_reducible show wpAny _ _ (subscriptTail _ _ (Value.str _ _) (Value.int _ _)) _ _ _); (refine item_at (by omega) (by omega) (by omega) ?_); intro kxiE))) | (dsimp only; walk1) | fail "no step")
            refine Halt.out' ?_
            (rename Fr _ _ _ _ => F2); (rename News _ _ _ _ => N2)
            refine app_tup F2 N2 (by assumption) hoff hk100 ?_
            intro D9 o9 h8 ho9 F8 N8 hoff9
            clear F2 N2
            repeat (first | (with_reducible first | (refine one_cut5 sg sd so ?_; intro tkC) | (refine cons_cut5 sg sd so ?_; intro tkC qC hC)) | (k_unfold; (try dsimp only)) | walk1 | (with_reducible first | refine CutQ.next (by assumption) ?_ | refine CutQ.ret (by assumption) ?_ | refine CutQ.brk (by assumption) ?_ | refine CutQ.cont (by assumption) ?_ | refine EndQ.ret (by assumption) ?_ | refine EndQ.next (by assumption) ?_) | ((refine Halt.out' ?_); first | ((with_reducible show wpAny _ _ (subscriptTail _ _ (Value.str _ _) (Value.int _ _)) _ _ _); (k_dflt (first | refine item_pieceR (by with_reducible assumption) 0 (Int.add_zero _).symm (by first | rfl | with_reducible assumption) (by with_reducible assumption) ?_ | refine item_pieceR (by with_reducible assumption) 1 rfl (by first | rfl | with_reducible assumption) (by with_reducible assumption) ?_ | refine item_pieceR (by with_reducible assumption) _ (cast_split _ _) (by with_reducible assumption) (by with_reducible assumption) ?_ | refine item_pieceR (by with_reducible assumption) _ (cast_split1 _ _) (by with_reducible assumption) (by with_reducible assumption) ?_))) | (with_reducible ((show @ite _ _ _ _ _); ((refine ite_both (fun hc => ?_) (fun hc => ?_)); (all_goals (try simp only [beq_iff_eq, decide_eq_true_eq, Bool.not_eq_true', bne_eq_false_iff_eq, bne_iff_ne, ne_eq, c_open, c_dot, c_bs, c_hat, c_close] at hc)); (all_goals (try simp only [Bool.not_not] at hc)); (all_goals (try (exfalso; first | contradiction | k_dflt (first | omega))))))) | ((with_reducible show WhlIf _ _ _); first | (refine WhlIf.no (by simp only [decide_eq_false_iff_not]; omega) ?_) | (refine WhlIf.yes (by simp only [decide_eq_true_eq]; omega) ?_)) | ((k_here; (with_reducible show wpAny _ _ (subscriptTail _ _ (Value.str _ _) (Value.int _ _)) _ _ _); (refine item_at (by omega) (by omega) (by omega) ?_); intro kxiE))) | (dsimp only; walk1) | fail "no step")
            (rename Fr _ _ _ _ => cF); (rename News _ _ _ _ => cN)
            have eo9 : (vs ++ [Value.ref D9]).toArray = vs.toArray.push (Value.ref D9) := by simp
            (try refine Halt.out' ?_)
            refine ksw_end (k + 1, _, (D9, o9) :: own, vs ++ [Value.ref D9]) cF cN (by rw [eo9]; exact fun p hp => hp) trivial (fun p hp => by rw [List.mem_singleton.mp hp]; exact spot_is (by rw [hsu']; first | rfl | omega)) (fun z h2 h3 => ?_) ⟨hkL, by simp [hvl], by rw [hta]; exact hv9.snoc ⟨_, _, ho9⟩, hoff9⟩ (by show R.length - (k + 1) < R.length - k; omega)
            have h4 : z ≠ Str.ofString "spot" := h2 _ (.head _)
            have h5 : z ≠ Str.ofString "bars" ∧ z ≠ Str.ofString "held" := by simpa using h3
            simp [kstB, h4, h5.1, h5.2]
          · by_cases he92 : e = 92
            · subst he92
              cases hd2 : (91 :: c :: r).drop (d + 1) with
              | nil => rw [hd2, scan_esc0] at hsc; cases hsc
              | cons e2 r2 =>
                rw [hd2, scan_esc] at hsc
                have hd1 : d + 1 < (91 :: c :: r).length := by
                  rcases Nat.lt_or_ge (d + 1) (91 :: c :: r).length with q | q
                  · exact q
                  · rw [List.drop_of_length_le q] at hd2; cases hd2
                have hd3 := List.drop_eq_getElem_cons hd1
                rw [hd2] at hd3
                obtain ⟨q1, q2⟩ := List.cons.inj hd3
                have hde2 : (91 :: c :: r)[d + 1]? = some e2 := by rw [List.getElem?_eq_getElem hd1, ← q1]
                rw [q2] at hsc
                rw [hpl] at hd1
                repeat (first | (with_reducible first | (refine one_cut5 sg sd so ?_; intro tkC) | (refine cons_cut5 sg sd so ?_; intro tkC qC hC)) | (k_unfold; (try dsimp only)) | walk1 | (with_reducible first | refine CutQ.next (by assumption) ?_ | refine CutQ.ret (by assumption) ?_ | refine CutQ.brk (by assumption) ?_ | refine CutQ.cont (by assumption) ?_ | refine EndQ.ret (by assumption) ?_ | refine EndQ.next (by assumption) ?_) | ((refine Halt.out' ?_); first | ((with_reducible show wpAny _ _ (subscriptTail _ _ (Value.str _ _) (Value.int _ _)) _ _ _); (k_dflt (first | refine item_pieceR (by with_reducible assumption) 0 (Int.add_zero _).symm (by first | rfl | with_reducible assumption) (by with_reducible assumption) ?_ | refine item_pieceR (by with_reducible assumption) 1 rfl (by first | rfl | with_reducible assumption) (by with_reducible assumption) ?_ | refine item_pieceR (by with_reducible assumption) _ (cast_split _ _) (by with_reducible assumption) (by with_reducible assumption) ?_ | refine item_pieceR (by with_reducible assumption) _ (cast_split1 _ _) (by with_reducible assumption) (by with_reducible assumption) ?_))) | (with_reducible ((show @ite _ _ _ _ _); ((refine ite_both (fun hc => ?_) (fun hc => ?_)); (all_goals (try simp only [beq_iff_eq, decide_eq_true_eq, Bool.not_eq_true', bne_eq_false_iff_eq, bne_iff_ne, ne_eq, c_open, c_dot, c_bs, c_hat, c_close] at hc)); (all_goals (try simp only [Bool.not_not] at hc)); (all_goals (try (exfalso; first | contradiction | k_dflt (first | omega))))))) | ((with_reducible show WhlIf _ _ _); first | (refine WhlIf.no (by simp only [decide_eq_false_iff_not]; omega) ?_) | (refine WhlIf.yes (by simp only [decide_eq_true_eq]; omega) ?_)) | ((k_here; (with_reducible show wpAny _ _ (subscriptTail _ _ (Value.str _ _) (Value.int _ _)) _ _ _); (refine item_at (by omega) (by omega) (by omega) ?_); intro kxiE))) | (dsimp only; walk1) | fail "no step")
                refine Halt.out' ?_
                refine KOpn.add (snoc_size hl200) ?_
                intro t5 k5 _
                rw [str_snoc]
                repeat (first | (with_reducible first | (refine one_cut5 sg sd so ?_; intro tkC) | (refine cons_cut5 sg sd so ?_; intro tkC qC hC)) | (k_unfold; (try dsimp only)) | walk1 | (with_reducible first | refine CutQ.next (by assumption) ?_ | refine CutQ.ret (by assumption) ?_ | refine CutQ.brk (by assumption) ?_ | refine CutQ.cont (by assumption) ?_ | refine EndQ.ret (by assumption) ?_ | refine EndQ.next (by assumption) ?_) | ((refine Halt.out' ?_); first | ((with_reducible show wpAny _ _ (subscriptTail _ _ (Value.str _ _) (Value.int _ _)) _ _ _); (k_dflt (first | refine item_pieceR (by with_reducible assumption) 0 (Int.add_zero _).symm (by first | rfl | with_reducible assumption) (by with_reducible assumption) ?_ | refine item_pieceR (by with_reducible assumption) 1 rfl (by first | rfl | with_reducible assumption) (by with_reducible assumption) ?_ | refine item_pieceR (by with_reducible assumption) _ (cast_split _ _) (by with_reducible assumption) (by with_reducible assumption) ?_ | refine item_pieceR (by with_reducible assumption) _ (cast_split1 _ _) (by with_reducible assumption) (by with_reducible assumption) ?_))) | (with_reducible ((show @ite _ _ _ _ _); ((refine ite_both (fun hc => ?_) (fun hc => ?_)); (all_goals (try simp only [beq_iff_eq, decide_eq_true_eq, Bool.not_eq_true', bne_eq_false_iff_eq, bne_iff_ne, ne_eq, c_open, c_dot, c_bs, c_hat, c_close] at hc)); (all_goals (try simp only [Bool.not_not] at hc)); (all_goals (try (exfalso; first | contradiction | k_dflt (first | omega))))))) | ((with_reducible show WhlIf _ _ _); first | (refine WhlIf.no (by simp only [decide_eq_false_iff_not]; omega) ?_) | (refine WhlIf.yes (by simp only [decide_eq_true_eq]; omega) ?_)) | ((k_here; (with_reducible show wpAny _ _ (subscriptTail _ _ (Value.str _ _) (Value.int _ _)) _ _ _); (refine item_at (by omega) (by omega) (by omega) ?_); intro kxiE))) | (dsimp only; walk1) | fail "no step")
                (rename Fr _ _ _ _ => cF); (rename News _ _ _ _ => cN)
                (try refine Halt.out' ?_)
                refine ksw_end (d + 2, _, hl ++ [e2], _) cF cN (fun p hp => hp) trivial (by intro p hp; rcases List.mem_cons.mp hp with rfl | hp; exact spot_is (jd2 _ _); rw [List.mem_singleton.mp hp]; rfl) (fun z h2 h3 => ?_) ⟨hsc, by show d + 2 ≤ _; omega, by show (hl ++ [e2]).length ≤ d + 2; rw [List.length_append]; simp only [List.length_cons, List.length_nil]; omega⟩ (by show r.length + 3 - (d + 2) < r.length + 3 - d; omega)
                have h4 : z ≠ Str.ofString "spot" := h2 _ (.head _)
                have h5 : z ≠ Str.ofString "held" := h2 _ (.tail _ (.head _))
                simp [kstB, h4, h5]
            · rw [scan_plain he93 he92] at hsc
              repeat (first | (with_reducible first | (refine one_cut5 sg sd so ?_; intro tkC) | (refine cons_cut5 sg sd so ?_; intro tkC qC hC)) | (k_unfold; (try dsimp only)) | walk1 | (with_reducible first | refine CutQ.next (by assumption) ?_ | refine CutQ.ret (by assumption) ?_ | refine CutQ.brk (by assumption) ?_ | refine CutQ.cont (by assumption) ?_ | refine EndQ.ret (by assumption) ?_ | refine EndQ.next (by assumption) ?_) | ((refine Halt.out' ?_); first | ((with_reducible show wpAny _ _ (subscriptTail _ _ (Value.str _ _) (Value.int _ _)) _ _ _); (k_dflt (first | refine item_pieceR (by with_reducible assumption) 0 (Int.add_zero _).symm (by first | rfl | with_reducible assumption) (by with_reducible assumption) ?_ | refine item_pieceR (by with_reducible assumption) 1 rfl (by first | rfl | with_reducible assumption) (by with_reducible assumption) ?_ | refine item_pieceR (by with_reducible assumption) _ (cast_split _ _) (by with_reducible assumption) (by with_reducible assumption) ?_ | refine item_pieceR (by with_reducible assumption) _ (cast_split1 _ _) (by with_reducible assumption) (by with_reducible assumption) ?_))) | (with_reducible ((show @ite _ _ _ _ _); ((refine ite_both (fun hc => ?_) (fun hc => ?_)); (all_goals (try simp only [beq_iff_eq, decide_eq_true_eq, Bool.not_eq_true', bne_eq_false_iff_eq, bne_iff_ne, ne_eq, c_open, c_dot, c_bs, c_hat, c_close] at hc)); (all_goals (try simp only [Bool.not_not] at hc)); (all_goals (try (exfalso; first | contradiction | k_dflt (first | omega))))))) | ((with_reducible show WhlIf _ _ _); first | (refine WhlIf.no (by simp only [decide_eq_false_iff_not]; omega) ?_) | (refine WhlIf.yes (by simp only [decide_eq_true_eq]; omega) ?_)) | ((k_here; (with_reducible show wpAny _ _ (subscriptTail _ _ (Value.str _ _) (Value.int _ _)) _ _ _); (refine item_at (by omega) (by omega) (by omega) ?_); intro kxiE))) | (dsimp only; walk1) | fail "no step")
              refine Halt.out' ?_
              refine KOpn.add (snoc_size hl200) ?_
              intro t5 k5 _
              rw [str_snoc]
              repeat (first | (with_reducible first | (refine one_cut5 sg sd so ?_; intro tkC) | (refine cons_cut5 sg sd so ?_; intro tkC qC hC)) | (k_unfold; (try dsimp only)) | walk1 | (with_reducible first | refine CutQ.next (by assumption) ?_ | refine CutQ.ret (by assumption) ?_ | refine CutQ.brk (by assumption) ?_ | refine CutQ.cont (by assumption) ?_ | refine EndQ.ret (by assumption) ?_ | refine EndQ.next (by assumption) ?_) | ((refine Halt.out' ?_); first | ((with_reducible show wpAny _ _ (subscriptTail _ _ (Value.str _ _) (Value.int _ _)) _ _ _); (k_dflt (first | refine item_pieceR (by with_reducible assumption) 0 (Int.add_zero _).symm (by first | rfl | with_reducible assumption) (by with_reducible assumption) ?_ | refine item_pieceR (by with_reducible assumption) 1 rfl (by first | rfl | with_reducible assumption) (by with_reducible assumption) ?_ | refine item_pieceR (by with_reducible assumption) _ (cast_split _ _) (by with_reducible assumption) (by with_reducible assumption) ?_ | refine item_pieceR (by with_reducible assumption) _ (cast_split1 _ _) (by with_reducible assumption) (by with_reducible assumption) ?_))) | (with_reducible ((show @ite _ _ _ _ _); ((refine ite_both (fun hc => ?_) (fun hc => ?_)); (all_goals (try simp only [beq_iff_eq, decide_eq_true_eq, Bool.not_eq_true', bne_eq_false_iff_eq, bne_iff_ne, ne_eq, c_open, c_dot, c_bs, c_hat, c_close] at hc)); (all_goals (try simp only [Bool.not_not] at hc)); (all_goals (try (exfalso; first | contradiction | k_dflt (first | omega))))))) | ((with_reducible show WhlIf _ _ _); first | (refine WhlIf.no (by simp only [decide_eq_false_iff_not]; omega) ?_) | (refine WhlIf.yes (by simp only [decide_eq_true_eq]; omega) ?_)) | ((k_here; (with_reducible show wpAny _ _ (subscriptTail _ _ (Value.str _ _) (Value.int _ _)) _ _ _); (refine item_at (by omega) (by omega) (by omega) ?_); intro kxiE))) | (dsimp only; walk1) | fail "no step")
              (rename Fr _ _ _ _ => cF); (rename News _ _ _ _ => cN)
              (try refine Halt.out' ?_)
              refine ksw_end (d + 1, _, hl ++ [e], _) cF cN (fun p hp => hp) trivial (by intro p hp; rcases List.mem_cons.mp hp with rfl | hp; exact spot_is (jd1 _ _); rw [List.mem_singleton.mp hp]; rfl) (fun z h2 h3 => ?_) ⟨hsc, by show d + 1 ≤ _; omega, by show (hl ++ [e]).length ≤ d + 1; rw [List.length_append]; simp only [List.length_cons, List.length_nil]; omega⟩ (by show r.length + 3 - (d + 1) < r.length + 3 - d; omega)
              have h4 : z ≠ Str.ofString "spot" := h2 _ (.head _)
              have h5 : z ≠ Str.ofString "held" := h2 _ (.tail _ (.head _))
              simp [kstB, h4, h5]
end
end Mine
end
theorem Mine.rs_FTk : True ∧ True := by
  (try (walk1; fail))
  exact ⟨trivial, trivial⟩
section
open PySem PySem.W PyProof.Rows PySem.Calls PySem.Spec
set_option maxRecDepth 100000
set_option maxHeartbeats 8000000
namespace Mine
theorem k100 {n : Nat} (h : n = 10) : n ≤ 1000000 := by omega
noncomputable def takesAt (ds : List (Bool × List Nat)) (row : Str) (k : Nat) : Bool :=
  match ds[k]? with
  | some d => ((!(Builtin.Str.occurrences ⟨d.2.toArray⟩ (Txt.item row (k : Int)) 0 (⟨d.2.toArray⟩ : Str).length 1).isEmpty) == d.1) == false
  | none => false
noncomputable def takesOf (ds : List (Bool × List Nat)) (row : Str) : Bool := (List.range 10).all (takesAt ds row)
section
local macro_rules | `(tactic| walk_at $s:str) => if ["KswEnd", "subscriptTail Name Name ref", "InvEndN", "pyIter ref"].contains s.getString then `(tactic| refine Halt.out ?_) else Lean.Macro.throwUnsupported
local macro_rules | `(tactic| walk_at $s:str) => if ["call builtin:len"].contains s.getString then `(tactic| refine haltLen ?_) else Lean.Macro.throwUnsupported
set_option maxHeartbeats 8000000 in
theorem takes_fn (w : World) (l : Addr) (vs : List Value) (own : List (Addr × Obj)) (ds : List (Bool × List Nat)) (row : Str) (tr : Tok) (hrow : row.length = 10) (hds : vs.length = 10) (hS : SetsIn own vs ds) :
    Fn w 8 196 [.ref l, .str row tr] (fun h => ∀ p ∈ (l, listOf vs.toArray vs.length) :: own, h.get? p.1 = some p.2) (fun v _ _ => v = .bool (takesOf ds row)) := by
  unfold Fn
  intro dp un gd outer base s Q E loose mean mg mb hdp hun B' X' T' hpre hret
  obtain ⟨sh, sg, sd, st0, so⟩ := s
  dsimp only at B' X' T' hpre hret
  k_dflt (refine' call_plain (binds := [(Str.ofString "sets", .ref l), (Str.ofString "row", .str row tr)]) ?X ?T ?o ?c ?r ?b ?l ?_ ?c2 ?c3 ?c4 ?c5; (case X => k_asm); (case T => k_asm); (case o => k_is); (case c => k_is); (case r => omega); (case b => exact BindsTo.of_eq rfl); (case l => exact locs rfl); (case c2 => decide); (case c3 => exact rfl); (case c4 => exact rfl); (case c5 => exact rfl); k_whole; intro L' h₁ qE eE tk9 hE hP F' N'; (simp only [List.reverse_cons, List.reverse_nil, List.nil_append, List.cons_append, lk] at F'); (try dsimp only); (try k_fold))
  have hl9 : sh.IsList l vs.toArray := ⟨_, hpre _ (.head _), rfl, _, rfl⟩
  repeat (first | (with_reducible first | (refine one_cut5 sg sd so ?_; intro tkC) | (refine cons_cut5 sg sd so ?_; intro tkC qC hC)) | (k_unfold; (try dsimp only)) | walk1 | (with_reducible first | refine CutQ.next (by assumption) ?_ | refine CutQ.ret (by assumption) ?_ | refine CutQ.brk (by assumption) ?_ | refine CutQ.cont (by assumption) ?_ | refine EndQ.ret (by assumption) ?_ | refine EndQ.next (by assumption) ?_) | ((refine Halt.out' ?_); first | (with_reducible ((show @ite _ _ _ _ _); ((refine ite_both (fun hc => ?_) (fun hc => ?_)); (all_goals (try simp only [beq_iff_eq, decide_eq_true_eq, Bool.not_eq_true', bne_eq_false_iff_eq, bne_iff_ne, ne_eq] at hc)); (all_goals (try (exfalso; first | contradiction | k_dflt (first | omega))))))) | ((with_reducible show wpAny _ _ (subscriptTail _ _ (Value.ref _) _) _ _ _); (k_here; (refine item_base (by k_asm) (by k_asm) (by assumption) (by omega) ?_))) | ((with_reducible show wpAny _ _ (call (Value.builtin "len") [Value.ref _]) _ _ _); (k_here; (with_reducible show wpAny _ _ (call (Value.builtin "len") [Value.ref _]) _ _ _); refine len_base (by k_asm) (by k_asm) (k100 (by assumption)) ?_; intro t' k')) | ((k_here; (with_reducible show wpAny _ _ (subscriptTail _ _ (Value.str _ _) (Value.int _ _)) _ _ _); (refine item_at (by omega) (by omega) (by omega) ?_); intro kxiE))) | (dsimp only; walk1) | fail "no step")
  refine Halt.out' ?_
  (rename Fr _ _ _ _ => lF'); (rename News _ _ _ _ => lN'); (rename IsRange _ _ _ _ _ _ _ _ => rgX)
  rw [hrow] at rgX
  have hlr : ds.length = 10 := by rw [← hS.1]; exact hds
  refine range_P (n := 10) [Str.ofString "bars", Str.ofString "held"] (fun i => ∀ j, j < i → takesAt ds row j = true) (by rfl) rgX (by decide) (by rfl) lF' lN' (fun j hj => absurd hj (Nat.not_lt_zero _)) ?turn ?done
  case turn =>
    intro i t9 u9 h9 tk9 own9 hi hP hoff F9 N9
    clear lF' lN' rgX
    obtain ⟨d, hd⟩ : ∃ d, ds[i]? = some d := ⟨_, List.getElem?_eq_getElem (by omega)⟩
    obtain ⟨a9, o9, hv9, hm9, t8, n8, ho9⟩ := hS.2 i d hd
    have hT : IsTup h9 a9 #[.bool d.1, .str ⟨d.2.toArray⟩ t8] := ⟨o9, F9.keep _ _ (hpre (a9, o9) (.tail _ hm9)), by rw [ho9], n8, by rw [ho9]⟩
    have hA : takesAt ds row i = (((!(Builtin.Str.occurrences ⟨d.2.toArray⟩ (Txt.item row (i : Int)) 0 (⟨d.2.toArray⟩ : Str).length 1).isEmpty) == d.1) == false) := by unfold takesAt; rw [hd]
    repeat (first | (with_reducible first | (refine one_cut5 sg sd so ?_; intro tkC) | (refine cons_cut5 sg sd so ?_; intro tkC qC hC)) | (k_unfold; (try dsimp only)) | walk1 | (with_reducible first | refine CutQ.next (by assumption) ?_ | refine CutQ.ret (by assumption) ?_ | refine CutQ.brk (by assumption) ?_ | refine CutQ.cont (by assumption) ?_ | refine EndQ.ret (by assumption) ?_ | refine EndQ.next (by assumption) ?_) | ((refine Halt.out' ?_); first | (with_reducible ((show @ite _ _ _ _ _); ((refine ite_both (fun hc => ?_) (fun hc => ?_)); (all_goals (try simp only [beq_iff_eq, decide_eq_true_eq, Bool.not_eq_true', bne_eq_false_iff_eq, bne_iff_ne, ne_eq] at hc)); (all_goals (try (exfalso; first | contradiction | k_dflt (first | omega))))))) | ((with_reducible show wpAny _ _ (subscriptTail _ _ (Value.ref _) _) _ _ _); (k_here; (refine item_base (by k_asm) (by k_asm) (by assumption) (by omega) ?_))) | ((with_reducible show wpAny _ _ (call (Value.builtin "len") [Value.ref _]) _ _ _); (k_here; (with_reducible show wpAny _ _ (call (Value.builtin "len") [Value.ref _]) _ _ _); refine len_base (by k_asm) (by k_asm) (k100 (by assumption)) ?_; intro t' k')) | ((k_here; (with_reducible show wpAny _ _ (subscriptTail _ _ (Value.str _ _) (Value.int _ _)) _ _ _); (refine item_at (by omega) (by omega) (by omega) ?_); intro kxiE))) | (dsimp only; walk1) | fail "no step")
    · have hq := hc
      (try dsimp only)
      refine hret _ _ _ (fun b o e => Fr.keep (by assumption) b o e) ?_
      have h0 : takesAt ds row i = false := by rw [hA, hq]; cases d.1 <;> rfl
      have : takesOf ds row = false := by
        unfold takesOf
        rw [List.all_eq_false]
        exact ⟨i, List.mem_range.mpr hi, by rw [h0]; exact Bool.false_ne_true⟩
      rw [this]
    · have hq := hc
      have h1 : takesAt ds row i = true := by
        rw [hA]
        cases h2 : (!(Builtin.Str.occurrences ⟨d.2.toArray⟩ (Txt.item row (i : Int)) 0 (⟨d.2.toArray⟩ : Str).length 1).isEmpty) == d.1 with
        | true => exact absurd (eq_of_beq h2) hq
        | false => rfl
      have hP' : ∀ j, j < i + 1 → takesAt ds row j = true := fun j hj => by
        rcases Nat.lt_or_ge j i with q | q
        · exact hP j q
        · rw [show j = i by omega]; exact h1
      clear hA h1 hq
      repeat (first | (with_reducible first | (refine one_cut5 sg sd so ?_; intro tkC) | (refine cons_cut5 sg sd so ?_; intro tkC qC hC)) | (k_unfold; (try dsimp only)) | walk1 | (with_reducible first | refine CutQ.next (by assumption) ?_ | refine CutQ.ret (by assumption) ?_ | refine CutQ.brk (by assumption) ?_ | refine CutQ.cont (by assumption) ?_ | refine EndQ.ret (by assumption) ?_ | refine EndQ.next (by assumption) ?_) | ((refine Halt.out' ?_); first | (with_reducible ((show @ite _ _ _ _ _); ((refine ite_both (fun hc => ?_) (fun hc => ?_)); (all_goals (try simp only [beq_iff_eq, decide_eq_true_eq, Bool.not_eq_true', bne_eq_false_iff_eq, bne_iff_ne, ne_eq] at hc)); (all_goals (try (exfalso; first | contradiction | k_dflt (first | omega))))))) | ((with_reducible show wpAny _ _ (subscriptTail _ _ (Value.ref _) _) _ _ _); (k_here; (refine item_base (by k_asm) (by k_asm) (by assumption) (by omega) ?_))) | ((with_reducible show wpAny _ _ (call (Value.builtin "len") [Value.ref _]) _ _ _); (k_here; (with_reducible show wpAny _ _ (call (Value.builtin "len") [Value.ref _]) _ _ _); refine len_base (by k_asm) (by k_asm) (k100 (by assumption)) ?_; intro t' k')) | ((k_here; (with_reducible show wpAny _ _ (subscriptTail _ _ (Value.str _ _) (Value.int _ _)) _ _ _); (refine item_at (by omega) (by omega) (by omega) ?_); intro kxiE))) | (dsimp only; walk1) | fail "no step")
      refine Halt.out' ?_
      (rename Fr _ _ _ _ => cF); (rename News _ _ _ _ => cN)
      refine InvEndN.intro cF cN ⟨rfl, hP', fun z hz h3 => ?_⟩ rfl (fun p hp => nomatch hp) (fun p hp => by first | exact hp | k_mem)
      have h5 : z ≠ Str.ofString "bars" ∧ z ≠ Str.ofString "held" := by simpa using h3
      simp [mapP, hz, h5.1, h5.2]
  case done =>
    intro u9 v9 h9 tk9 hP F9 N9
    clear lF' lN' rgX
    repeat (first | (with_reducible first | (refine one_cut5 sg sd so ?_; intro tkC) | (refine cons_cut5 sg sd so ?_; intro tkC qC hC)) | (k_unfold; (try dsimp only)) | walk1 | (with_reducible first | refine CutQ.next (by assumption) ?_ | refine CutQ.ret (by assumption) ?_ | refine CutQ.brk (by assumption) ?_ | refine CutQ.cont (by assumption) ?_ | refine EndQ.ret (by assumption) ?_ | refine EndQ.next (by assumption) ?_) | ((refine Halt.out' ?_); first | (with_reducible ((show @ite _ _ _ _ _); ((refine ite_both (fun hc => ?_) (fun hc => ?_)); (all_goals (try simp only [beq_iff_eq, decide_eq_true_eq, Bool.not_eq_true', bne_eq_false_iff_eq, bne_iff_ne, ne_eq] at hc)); (all_goals (try (exfalso; first | contradiction | k_dflt (first | omega))))))) | ((with_reducible show wpAny _ _ (subscriptTail _ _ (Value.ref _) _) _ _ _); (k_here; (refine item_base (by k_asm) (by k_asm) (by assumption) (by omega) ?_))) | ((with_reducible show wpAny _ _ (call (Value.builtin "len") [Value.ref _]) _ _ _); (k_here; (with_reducible show wpAny _ _ (call (Value.builtin "len") [Value.ref _]) _ _ _); refine len_base (by k_asm) (by k_asm) (k100 (by assumption)) ?_; intro t' k')) | ((k_here; (with_reducible show wpAny _ _ (subscriptTail _ _ (Value.str _ _) (Value.int _ _)) _ _ _); (refine item_at (by omega) (by omega) (by omega) ?_); intro kxiE))) | (dsimp only; walk1) | fail "no step")
    (try dsimp only)
    refine hret _ _ _ (fun b o e => Fr.keep (by assumption) b o e) ?_
    have : takesOf ds row = true := by
      unfold takesOf
      rw [List.all_eq_true]
      intro k hk
      exact hP k (List.mem_range.mp hk)
    rw [this]
end
end Mine
end
theorem Mine.rs_FDr : True ∧ True := by
  (try (walk1; fail))
  exact ⟨trivial, trivial⟩
section
open PySem PySem.W PyProof.Rows PySem.Calls PySem.Spec
set_option maxRecDepth 100000
set_option maxHeartbeats 8000000
namespace Mine
theorem ints_at : ∀ {vs : List Value} {ns : List Int}, IntsAre vs ns → ∀ {i : Nat} {v : Value}, vs[i]? = some v → ∃ n t, v = .int n t
  | _, _, .nil, i, v, h => by simp at h
  | _, _, .cons n t r, 0, v, h => by
    have e : Value.int n t = v := by simpa using h
    exact ⟨n, t, e.symm⟩
  | _, _, .cons n t r, i + 1, v, h => ints_at r (i := i) (by simpa using h)
theorem fmod_in (a b : Int) (h : 0 < b) : 0 ≤ Int.fmod a b ∧ Int.fmod a b < b := ⟨Int.fmod_nonneg_of_pos a h, Int.fmod_lt_of_pos a h⟩
section
local macro_rules | `(tactic| walk_at $s:str) => if ["KswEnd", "exec For Name Name cons nil", "pyIter ref", "InvEndN"].contains s.getString then `(tactic| refine Halt.out ?_) else Lean.Macro.throwUnsupported
set_option maxHeartbeats 8000000 in
theorem drawn7_fn (w : World) (l : Addr) (vs : List Value) (ns : List Int) (t1 t2 t3 : Tok) (hI : IntsAre vs ns) :
    Fn w 8 151 [.ref l, .int 2 t1, .int 7 t2, .int 7 t3] (fun h => h.IsList l vs.toArray) (fun v _ _ => ∃ r t, v = .int r t ∧ 0 ≤ r ∧ r < 7) := by
  unfold Fn
  intro dp un gd outer base s Q E loose mean mg mb hdp hun B' X' T' hpre hret
  obtain ⟨sh, sg, sd, st0, so⟩ := s
  dsimp only at B' X' T' hpre hret
  k_dflt (refine' call_plain (binds := [(Str.ofString "numbers", .ref l), (Str.ofString "first", .int 2 t1), (Str.ofString "base", .int 7 t2), (Str.ofString "bound", .int 7 t3)]) ?X ?T ?o ?c ?r ?b ?l ?_ ?c2 ?c3 ?c4 ?c5; (case X => k_asm); (case T => k_asm); (case o => k_is); (case c => k_is); (case r => omega); (case b => exact BindsTo.of_eq rfl); (case l => exact locs rfl); (case c2 => decide); (case c3 => exact rfl); (case c4 => exact rfl); (case c5 => exact rfl); k_whole; intro L' h₁ qE eE tk9 hE hP F' N'; (simp only [List.reverse_cons, List.reverse_nil, List.nil_append, List.cons_append, lk] at F'); (try dsimp only); (try k_fold))
  repeat (first | (with_reducible first | (refine one_cut5 sg sd so ?_; intro tkC) | (refine cons_cut5 sg sd so ?_; intro tkC qC hC)) | (k_unfold; (try dsimp only)) | walk1 | (with_reducible first | refine CutQ.next (by assumption) ?_ | refine CutQ.ret (by assumption) ?_ | refine CutQ.brk (by assumption) ?_ | refine CutQ.cont (by assumption) ?_ | refine EndQ.ret (by assumption) ?_ | refine EndQ.next (by assumption) ?_) | ((refine Halt.out' ?_); first | ((with_reducible show wpAny _ _ (exec (Stmt.For _ _ _ _ _) _) _ _ _); (k_here; (rename Fr _ _ _ _ => lF'); (with_unfolding_all refine' For_invVF lF' ?k1 ?k2 ?_; (case k1 => exact rfl); (case k2 => exact rfl); k_whole))) | ((k_here; (with_reducible show wpAny _ _ (subscriptTail _ _ (Value.str _ _) (Value.int _ _)) _ _ _); (refine item_at (by omega) (by omega) (by omega) ?_); intro kxiE)) | (with_reducible ((show @ite _ _ _ _ _); ((refine ite_both (fun hc => ?_) (fun hc => ?_)); (all_goals (try simp only [beq_iff_eq, decide_eq_true_eq] at hc)))))) | (dsimp only; walk1) | fail "no step")
  refine Halt.out' ?_
  (rename Fr _ _ _ _ => lF'); (rename News _ _ _ _ => lN')
  refine' list_C (σ := Int × Tok) [] (fun c => [(Str.ofString "drawn", .int c.1 c.2)]) (fun _ c => 0 ≤ c.1 ∧ c.1 < 7) (2, ?t0) (by rfl) hpre lF' lN' ⟨by omega, by omega⟩ ?k0 ?turn ?done
  case k0 =>
    intro p hp
    rw [List.mem_singleton.mp hp]
    rfl
  case turn =>
    rintro i v ⟨d, td⟩ u9 h9 tk9 own9 hv ⟨hd0, hd1⟩ hoff F9 N9
    clear lF' lN'
    dsimp only at hd0 hd1
    obtain ⟨n, tn, rfl⟩ := ints_at hI hv
    repeat (first | (with_reducible first | (refine one_cut5 sg sd so ?_; intro tkC) | (refine cons_cut5 sg sd so ?_; intro tkC qC hC)) | (k_unfold; (try dsimp only)) | walk1 | (with_reducible first | refine CutQ.next (by assumption) ?_ | refine CutQ.ret (by assumption) ?_ | refine CutQ.brk (by assumption) ?_ | refine CutQ.cont (by assumption) ?_ | refine EndQ.ret (by assumption) ?_ | refine EndQ.next (by assumption) ?_) | ((refine Halt.out' ?_); first | ((with_reducible show wpAny _ _ (exec (Stmt.For _ _ _ _ _) _) _ _ _); (k_here; (rename Fr _ _ _ _ => lF'); (with_unfolding_all refine' For_invVF lF' ?k1 ?k2 ?_; (case k1 => exact rfl); (case k2 => exact rfl); k_whole))) | ((k_here; (with_reducible show wpAny _ _ (subscriptTail _ _ (Value.str _ _) (Value.int _ _)) _ _ _); (refine item_at (by omega) (by omega) (by omega) ?_); intro kxiE)) | (with_reducible ((show @ite _ _ _ _ _); ((refine ite_both (fun hc => ?_) (fun hc => ?_)); (all_goals (try simp only [beq_iff_eq, decide_eq_true_eq] at hc)))))) | (dsimp only; walk1) | fail "no step")
    refine Halt.out' ?_
    (rename Fr _ _ _ _ => cF); (rename News _ _ _ _ => cN)
    refine InvEndN.intro cF cN ⟨rfl, (_, _), fmod_in _ _ (by decide), (fun p hp => by rw [List.mem_singleton.mp hp]; rfl), fun z hz h3 h2 => ?_⟩ rfl (fun p hp => nomatch hp) (fun p hp => by first | exact hp | k_mem)
    have h5 : z ≠ Str.ofString "drawn" := h2 _ (.head _)
    simp [mapC, kstB, hz, h5]
  case done =>
    rintro ⟨d, td⟩ u9 v9 h9 tk9 ⟨hd0, hd1⟩ F9 N9
    clear lF' lN'
    repeat (first | (with_reducible first | (refine one_cut5 sg sd so ?_; intro tkC) | (refine cons_cut5 sg sd so ?_; intro tkC qC hC)) | (k_unfold; (try dsimp only)) | walk1 | (with_reducible first | refine CutQ.next (by assumption) ?_ | refine CutQ.ret (by assumption) ?_ | refine CutQ.brk (by assumption) ?_ | refine CutQ.cont (by assumption) ?_ | refine EndQ.ret (by assumption) ?_ | refine EndQ.next (by assumption) ?_) | ((refine Halt.out' ?_); first | ((with_reducible show wpAny _ _ (exec (Stmt.For _ _ _ _ _) _) _ _ _); (k_here; (rename Fr _ _ _ _ => lF'); (with_unfolding_all refine' For_invVF lF' ?k1 ?k2 ?_; (case k1 => exact rfl); (case k2 => exact rfl); k_whole))) | ((k_here; (with_reducible show wpAny _ _ (subscriptTail _ _ (Value.str _ _) (Value.int _ _)) _ _ _); (refine item_at (by omega) (by omega) (by omega) ?_); intro kxiE)) | (with_reducible ((show @ite _ _ _ _ _); ((refine ite_both (fun hc => ?_) (fun hc => ?_)); (all_goals (try simp only [beq_iff_eq, decide_eq_true_eq] at hc)))))) | (dsimp only; walk1) | fail "no step")
    (try dsimp only)
    exact hret _ _ _ (fun b o e => Fr.keep (by assumption) b o e) ⟨_, _, rfl, hd0, hd1⟩
set_option maxHeartbeats 8000000 in
theorem drawn16_fn (w : World) (l : Addr) (vs : List Value) (ns : List Int) (t1 t2 t3 : Tok) (hI : IntsAre vs ns) :
    Fn w 8 151 [.ref l, .int 0 t1, .int 16 t2, .int 16 t3] (fun h => h.IsList l vs.toArray) (fun v _ _ => ∃ r t, v = .int r t ∧ 0 ≤ r ∧ r < 16) := by
  unfold Fn
  intro dp un gd outer base s Q E loose mean mg mb hdp hun B' X' T' hpre hret
  obtain ⟨sh, sg, sd, st0, so⟩ := s
  dsimp only at B' X' T' hpre hret
  k_dflt (refine' call_plain (binds := [(Str.ofString "numbers", .ref l), (Str.ofString "first", .int 0 t1), (Str.ofString "base", .int 16 t2), (Str.ofString "bound", .int 16 t3)]) ?X ?T ?o ?c ?r ?b ?l ?_ ?c2 ?c3 ?c4 ?c5; (case X => k_asm); (case T => k_asm); (case o => k_is); (case c => k_is); (case r => omega); (case b => exact BindsTo.of_eq rfl); (case l => exact locs rfl); (case c2 => decide); (case c3 => exact rfl); (case c4 => exact rfl); (case c5 => exact rfl); k_whole; intro L' h₁ qE eE tk9 hE hP F' N'; (simp only [List.reverse_cons, List.reverse_nil, List.nil_append, List.cons_append, lk] at F'); (try dsimp only); (try k_fold))
  repeat (first | (with_reducible first | (refine one_cut5 sg sd so ?_; intro tkC) | (refine cons_cut5 sg sd so ?_; intro tkC qC hC)) | (k_unfold; (try dsimp only)) | walk1 | (with_reducible first | refine CutQ.next (by assumption) ?_ | refine CutQ.ret (by assumption) ?_ | refine CutQ.brk (by assumption) ?_ | refine CutQ.cont (by assumption) ?_ | refine EndQ.ret (by assumption) ?_ | refine EndQ.next (by assumption) ?_) | ((refine Halt.out' ?_); first | ((with_reducible show wpAny _ _ (exec (Stmt.For _ _ _ _ _) _) _ _ _); (k_here; (rename Fr _ _ _ _ => lF'); (with_unfolding_all refine' For_invVF lF' ?k1 ?k2 ?_; (case k1 => exact rfl); (case k2 => exact rfl); k_whole))) | ((k_here; (with_reducible show wpAny _ _ (subscriptTail _ _ (Value.str _ _) (Value.int _ _)) _ _ _); (refine item_at (by omega) (by omega) (by omega) ?_); intro kxiE)) | (with_reducible ((show @ite _ _ _ _ _); ((refine ite_both (fun hc => ?_) (fun hc => ?_)); (all_goals (try simp only [beq_iff_eq, decide_eq_true_eq] at hc)))))) | (dsimp only; walk1) | fail "no step")
  refine Halt.out' ?_
  (rename Fr _ _ _ _ => lF'); (rename News _ _ _ _ => lN')
  refine' list_C (σ := Int × Tok) [] (fun c => [(Str.ofString "drawn", .int c.1 c.2)]) (fun _ c => 0 ≤ c.1 ∧ c.1 < 16) (0, ?t0) (by rfl) hpre lF' lN' ⟨by omega, by omega⟩ ?k0 ?turn ?done
  case k0 =>
    intro p hp
    rw [List.mem_singleton.mp hp]
    rfl
  case turn =>
    rintro i v ⟨d, td⟩ u9 h9 tk9 own9 hv ⟨hd0, hd1⟩ hoff F9 N9
    clear lF' lN'
    dsimp only at hd0 hd1
    obtain ⟨n, tn, rfl⟩ := ints_at hI hv
    repeat (first | (with_reducible first | (refine one_cut5 sg sd so ?_; intro tkC) | (refine cons_cut5 sg sd so ?_; intro tkC qC hC)) | (k_unfold; (try dsimp only)) | walk1 | (with_reducible first | refine CutQ.next (by assumption) ?_ | refine CutQ.ret (by assumption) ?_ | refine CutQ.brk (by assumption) ?_ | refine CutQ.cont (by assumption) ?_ | refine EndQ.ret (by assumption) ?_ | refine EndQ.next (by assumption) ?_) | ((refine Halt.out' ?_); first | ((with_reducible show wpAny _ _ (exec (Stmt.For _ _ _ _ _) _) _ _ _); (k_here; (rename Fr _ _ _ _ => lF'); (with_unfolding_all refine' For_invVF lF' ?k1 ?k2 ?_; (case k1 => exact rfl); (case k2 => exact rfl); k_whole))) | ((k_here; (with_reducible show wpAny _ _ (subscriptTail _ _ (Value.str _ _) (Value.int _ _)) _ _ _); (refine item_at (by omega) (by omega) (by omega) ?_); intro kxiE)) | (with_reducible ((show @ite _ _ _ _ _); ((refine ite_both (fun hc => ?_) (fun hc => ?_)); (all_goals (try simp only [beq_iff_eq, decide_eq_true_eq] at hc)))))) | (dsimp only; walk1) | fail "no step")
    refine Halt.out' ?_
    (rename Fr _ _ _ _ => cF); (rename News _ _ _ _ => cN)
    refine InvEndN.intro cF cN ⟨rfl, (_, _), fmod_in _ _ (by decide), (fun p hp => by rw [List.mem_singleton.mp hp]; rfl), fun z hz h3 h2 => ?_⟩ rfl (fun p hp => nomatch hp) (fun p hp => by first | exact hp | k_mem)
    have h5 : z ≠ Str.ofString "drawn" := h2 _ (.head _)
    simp [mapC, kstB, hz, h5]
  case done =>
    rintro ⟨d, td⟩ u9 v9 h9 tk9 ⟨hd0, hd1⟩ F9 N9
    clear lF' lN'
    repeat (first | (with_reducible first | (refine one_cut5 sg sd so ?_; intro tkC) | (refine cons_cut5 sg sd so ?_; intro tkC qC hC)) | (k_unfold; (try dsimp only)) | walk1 | (with_reducible first | refine CutQ.next (by assumption) ?_ | refine CutQ.ret (by assumption) ?_ | refine CutQ.brk (by assumption) ?_ | refine CutQ.cont (by assumption) ?_ | refine EndQ.ret (by assumption) ?_ | refine EndQ.next (by assumption) ?_) | ((refine Halt.out' ?_); first | ((with_reducible show wpAny _ _ (exec (Stmt.For _ _ _ _ _) _) _ _ _); (k_here; (rename Fr _ _ _ _ => lF'); (with_unfolding_all refine' For_invVF lF' ?k1 ?k2 ?_; (case k1 => exact rfl); (case k2 => exact rfl); k_whole))) | ((k_here; (with_reducible show wpAny _ _ (subscriptTail _ _ (Value.str _ _) (Value.int _ _)) _ _ _); (refine item_at (by omega) (by omega) (by omega) ?_); intro kxiE)) | (with_reducible ((show @ite _ _ _ _ _); ((refine ite_both (fun hc => ?_) (fun hc => ?_)); (all_goals (try simp only [beq_iff_eq, decide_eq_true_eq] at hc)))))) | (dsimp only; walk1) | fail "no step")
    (try dsimp only)
    exact hret _ _ _ (fun b o e => Fr.keep (by assumption) b o e) ⟨_, _, rfl, hd0, hd1⟩
set_option maxHeartbeats 8000000 in
theorem drawn8_fn (w : World) (f : Int) (hf0 : 0 ≤ f) (hf1 : f < 4096) (l : Addr) (vs : List Value) (ns : List Int) (t1 t2 t3 : Tok) (hI : IntsAre vs ns) :
    Fn w 8 151 [.ref l, .int f t1, .int 8 t2, .int 4096 t3] (fun h => h.IsList l vs.toArray) (fun v _ _ => ∃ r t, v = .int r t ∧ 0 ≤ r ∧ r < 4096) := by
  unfold Fn
  intro dp un gd outer base s Q E loose mean mg mb hdp hun B' X' T' hpre hret
  obtain ⟨sh, sg, sd, st0, so⟩ := s
  dsimp only at B' X' T' hpre hret
  k_dflt (refine' call_plain (binds := [(Str.ofString "numbers", .ref l), (Str.ofString "first", .int f t1), (Str.ofString "base", .int 8 t2), (Str.ofString "bound", .int 4096 t3)]) ?X ?T ?o ?c ?r ?b ?l ?_ ?c2 ?c3 ?c4 ?c5; (case X => k_asm); (case T => k_asm); (case o => k_is); (case c => k_is); (case r => omega); (case b => exact BindsTo.of_eq rfl); (case l => exact locs rfl); (case c2 => decide); (case c3 => exact rfl); (case c4 => exact rfl); (case c5 => exact rfl); k_whole; intro L' h₁ qE eE tk9 hE hP F' N'; (simp only [List.reverse_cons, List.reverse_nil, List.nil_append, List.cons_append, lk] at F'); (try dsimp only); (try k_fold))
  repeat (first | (with_reducible first | (refine one_cut5 sg sd so ?_; intro tkC) | (refine cons_cut5 sg sd so ?_; intro tkC qC hC)) | (k_unfold; (try dsimp only)) | walk1 | (with_reducible first | refine CutQ.next (by assumption) ?_ | refine CutQ.ret (by assumption) ?_ | refine CutQ.brk (by assumption) ?_ | refine CutQ.cont (by assumption) ?_ | refine EndQ.ret (by assumption) ?_ | refine EndQ.next (by assumption) ?_) | ((refine Halt.out' ?_); first | ((with_reducible show wpAny _ _ (exec (Stmt.For _ _ _ _ _) _) _ _ _); (k_here; (rename Fr _ _ _ _ => lF'); (with_unfolding_all refine' For_invVF lF' ?k1 ?k2 ?_; (case k1 => exact rfl); (case k2 => exact rfl); k_whole))) | ((k_here; (with_reducible show wpAny _ _ (subscriptTail _ _ (Value.str _ _) (Value.int _ _)) _ _ _); (refine item_at (by omega) (by omega) (by omega) ?_); intro kxiE)) | (with_reducible ((show @ite _ _ _ _ _); ((refine ite_both (fun hc => ?_) (fun hc => ?_)); (all_goals (try simp only [beq_iff_eq, decide_eq_true_eq] at hc)))))) | (dsimp only; walk1) | fail "no step")
  refine Halt.out' ?_
  (rename Fr _ _ _ _ => lF'); (rename News _ _ _ _ => lN')
  refine' list_C (σ := Int × Tok) [] (fun c => [(Str.ofString "drawn", .int c.1 c.2)]) (fun _ c => 0 ≤ c.1 ∧ c.1 < 4096) (f, ?t0) (by rfl) hpre lF' lN' ⟨by omega, by omega⟩ ?k0 ?turn ?done
  case k0 =>
    intro p hp
    rw [List.mem_singleton.mp hp]
    rfl
  case turn =>
    rintro i v ⟨d, td⟩ u9 h9 tk9 own9 hv ⟨hd0, hd1⟩ hoff F9 N9
    clear lF' lN'
    dsimp only at hd0 hd1
    obtain ⟨n, tn, rfl⟩ := ints_at hI hv
    repeat (first | (with_reducible first | (refine one_cut5 sg sd so ?_; intro tkC) | (refine cons_cut5 sg sd so ?_; intro tkC qC hC)) | (k_unfold; (try dsimp only)) | walk1 | (with_reducible first | refine CutQ.next (by assumption) ?_ | refine CutQ.ret (by assumption) ?_ | refine CutQ.brk (by assumption) ?_ | refine CutQ.cont (by assumption) ?_ | refine EndQ.ret (by assumption) ?_ | refine EndQ.next (by assumption) ?_) | ((refine Halt.out' ?_); first | ((with_reducible show wpAny _ _ (exec (Stmt.For _ _ _ _ _) _) _ _ _); (k_here; (rename Fr _ _ _ _ => lF'); (with_unfolding_all refine' For_invVF lF' ?k1 ?k2 ?_; (case k1 => exact rfl); (case k2 => exact rfl); k_whole))) | ((k_here; (with_reducible show wpAny _ _ (subscriptTail _ _ (Value.str _ _) (Value.int _ _)) _ _ _); (refine item_at (by omega) (by omega) (by omega) ?_); intro kxiE)) | (with_reducible ((show @ite _ _ _ _ _); ((refine ite_both (fun hc => ?_) (fun hc => ?_)); (all_goals (try simp only [beq_iff_eq, decide_eq_true_eq] at hc)))))) | (dsimp only; walk1) | fail "no step")
    refine Halt.out' ?_
    (rename Fr _ _ _ _ => cF); (rename News _ _ _ _ => cN)
    refine InvEndN.intro cF cN ⟨rfl, (_, _), fmod_in _ _ (by decide), (fun p hp => by rw [List.mem_singleton.mp hp]; rfl), fun z hz h3 h2 => ?_⟩ rfl (fun p hp => nomatch hp) (fun p hp => by first | exact hp | k_mem)
    have h5 : z ≠ Str.ofString "drawn" := h2 _ (.head _)
    simp [mapC, kstB, hz, h5]
  case done =>
    rintro ⟨d, td⟩ u9 v9 h9 tk9 ⟨hd0, hd1⟩ F9 N9
    clear lF' lN'
    repeat (first | (with_reducible first | (refine one_cut5 sg sd so ?_; intro tkC) | (refine cons_cut5 sg sd so ?_; intro tkC qC hC)) | (k_unfold; (try dsimp only)) | walk1 | (with_reducible first | refine CutQ.next (by assumption) ?_ | refine CutQ.ret (by assumption) ?_ | refine CutQ.brk (by assumption) ?_ | refine CutQ.cont (by assumption) ?_ | refine EndQ.ret (by assumption) ?_ | refine EndQ.next (by assumption) ?_) | ((refine Halt.out' ?_); first | ((with_reducible show wpAny _ _ (exec (Stmt.For _ _ _ _ _) _) _ _ _); (k_here; (rename Fr _ _ _ _ => lF'); (with_unfolding_all refine' For_invVF lF' ?k1 ?k2 ?_; (case k1 => exact rfl); (case k2 => exact rfl); k_whole))) | ((k_here; (with_reducible show wpAny _ _ (subscriptTail _ _ (Value.str _ _) (Value.int _ _)) _ _ _); (refine item_at (by omega) (by omega) (by omega) ?_); intro kxiE)) | (with_reducible ((show @ite _ _ _ _ _); ((refine ite_both (fun hc => ?_) (fun hc => ?_)); (all_goals (try simp only [beq_iff_eq, decide_eq_true_eq] at hc)))))) | (dsimp only; walk1) | fail "no step")
    (try dsimp only)
    exact hret _ _ _ (fun b o e => Fr.keep (by assumption) b o e) ⟨_, _, rfl, hd0, hd1⟩
end
end Mine
end
theorem Mine.rs_FHd : True ∧ True := by
  (try (walk1; fail))
  exact ⟨trivial, trivial⟩
section
open PySem PySem.W PyProof.Rows PySem.Calls PySem.Spec
set_option maxRecDepth 100000
set_option maxHeartbeats 8000000
namespace Mine
open PyProof.Rows.LCg
section
local macro_rules | `(tactic| walk_at $s:str) => if ["KswEnd", "eval ListComp", "subscriptTail Name Name ref", "call ref"].contains s.getString then `(tactic| refine Halt.out ?_) else Lean.Macro.throwUnsupported
local macro_rules | `(tactic| walk_at $s:str) => if ["call builtin:len"].contains s.getString then `(tactic| refine haltLen ?_) else Lean.Macro.throwUnsupported
set_option maxHeartbeats 8000000 in
theorem hand_fn (w : World) (l : Addr) (vs : List Value) (ns : List Int) (hh : Nat) (f : Int) (t1 t2 : Tok) (hI : IntsAre vs ns) (hn : vs.length ≤ 16) (hh3 : hh < 4) (hf0 : 0 ≤ f) (hf1 : f < 4096) :
    Fn w 16 156 [.ref l, .int (hh : Int) t1, .int f t2] (fun h => h.IsList l vs.toArray) (fun v _ _ => ∃ r t, v = .int r t ∧ 0 ≤ r ∧ r < 4096) := by
  unfold Fn
  intro dp un gd outer base s Q E loose mean mg mb hdp hun B' X' T' hpre hret
  obtain ⟨sh, sg, sd, st0, so⟩ := s
  dsimp only at B' X' T' hpre hret
  k_dflt (refine' call_cells (binds := [(Str.ofString "numbers", .ref l), (Str.ofString "h", .int (hh : Int) t1), (Str.ofString "first", .int f t2)]) ?X ?T ?o ?c ?r ?b ?l ?d ?_ ?c3 ?c4 ?c5; (case X => k_asm); (case T => k_asm); (case o => k_is); (case c => k_is); (case r => omega); (case b => exact BindsTo.of_eq rfl); (case l => exact rfl); (case d => decide +kernel); (case c3 => exact rfl); (case c4 => exact rfl); (case c5 => exact rfl); k_whole; intro L' h₁ qE eE tk' cells' hE hP F' N' Y'; k_cells Y'; (try simp only [List.cons_append, List.nil_append] at N'); (try dsimp only); (try k_fold))
  repeat (first | (with_reducible first | (refine one_cut5 sg sd so ?_; intro tkC) | (refine cons_cut5 sg sd so ?_; intro tkC qC hC)) | (k_unfold; (try dsimp only)) | walk1 | (with_reducible first | refine CutQ.next (by assumption) ?_ | refine CutQ.ret (by assumption) ?_ | refine CutQ.brk (by assumption) ?_ | refine CutQ.cont (by assumption) ?_ | refine EndQ.ret (by assumption) ?_ | refine EndQ.next (by assumption) ?_) | ((refine Halt.out' ?_); first | ((with_reducible show wpAny _ _ (call (Value.builtin "len") [Value.ref _]) _ _ _); (k_here; (with_reducible show wpAny _ _ (call (Value.builtin "len") [Value.ref _]) _ _ _); refine len_base (by k_asm) (by k_asm) (by omega) ?_; intro t' k')) | ((with_reducible show wpAny _ _ (subscriptTail _ _ (Value.ref _) _) _ _ _); (k_here; (refine item_base (by k_asm) (by k_asm) (by assumption) (by omega) ?_))) | (with_reducible ((show wpAny _ _ (eval (Expr.ListComp _ _ _ _) _) _ _ _); (k_here; k_dflt (refine ListComp_R (F₀ := by k_asm) (by with_unfolding_all rfl) (by decide) (by rfl) (by decide) (by rfl) ?_)))) | ((k_here; (with_reducible show wpAny _ _ (subscriptTail _ _ (Value.str _ _) (Value.int _ _)) _ _ _); (refine item_at (by omega) (by omega) (by omega) ?_); intro kxiE)) | (with_reducible ((show @ite _ _ _ _ _); ((refine ite_both (fun hc => ?_) (fun hc => ?_)); (all_goals (try simp only [beq_iff_eq, decide_eq_true_eq] at hc)))))) | (dsimp only; walk1) | fail "no step")
  rename IsRange _ _ _ _ _ _ _ _ => rgX
  obtain ⟨hs1, hs2⟩ := step4 hh hh3 vs.length (by omega)
  refine ⟨_, _, _, _, _, _, _, _, _, rfl, by rfl, (by assumption), (by assumption), rgX, hs1, hs2, Nat.le_trans (m := 20) (by omega) (by decide), ?_⟩
  rintro s₂ ⟨g, rfl⟩
  refine rest_ints ?turn ?fin
  case turn =>
    rintro i9 v9 I9 oI9 C9 oC9 D9 m9 ys9 h9 tk9 E9 ⟨hi9, t9, rfl⟩ hC9 hx9 F9 N9 off9 ne9
    clear rgX
    have hix : hh + i9 * 4 < vs.length := by omega
    have hv9 : vs[hh + i9 * 4]? = some vs[hh + i9 * 4] := List.getElem?_eq_getElem hix
    obtain ⟨n9, u9, e9⟩ := ints_at hI hv9
    have hv10 : vs[hh + i9 * 4]? = some (.int n9 u9) := by rw [hv9, e9]
    have ei : (hh : Int) + (i9 : Int) * 4 = ((hh + i9 * 4 : Nat) : Int) := by omega
    rw [ei] at hx9
    clear hv9 e9 ei hs1 hs2 hi9
    have hlt9 : hh + i9 * 4 < 2 ^ 62 := by omega
    clear hix
    generalize hh + i9 * 4 = kk at hx9 hv10 hlt9
    repeat (first | (with_reducible first | (refine one_cut5 sg sd so ?_; intro tkC) | (refine cons_cut5 sg sd so ?_; intro tkC qC hC)) | (k_unfold; (try dsimp only)) | walk1 | (with_reducible first | refine CutQ.next (by assumption) ?_ | refine CutQ.ret (by assumption) ?_ | refine CutQ.brk (by assumption) ?_ | refine CutQ.cont (by assumption) ?_ | refine EndQ.ret (by assumption) ?_ | refine EndQ.next (by assumption) ?_) | ((refine Halt.out' ?_); first | ((with_reducible show wpAny _ _ (call (Value.builtin "len") [Value.ref _]) _ _ _); (k_here; (with_reducible show wpAny _ _ (call (Value.builtin "len") [Value.ref _]) _ _ _); refine len_base (by k_asm) (by k_asm) (by omega) ?_; intro t' k')) | ((with_reducible show wpAny _ _ (subscriptTail _ _ (Value.ref _) _) _ _ _); (k_here; (refine item_base (by k_asm) (by k_asm) (by assumption) (by omega) ?_))) | (with_reducible ((show wpAny _ _ (eval (Expr.ListComp _ _ _ _) _) _ _ _); (k_here; k_dflt (refine ListComp_R (F₀ := by k_asm) (by with_unfolding_all rfl) (by decide) (by rfl) (by decide) (by rfl) ?_)))) | ((k_here; (with_reducible show wpAny _ _ (subscriptTail _ _ (Value.str _ _) (Value.int _ _)) _ _ _); (refine item_at (by omega) (by omega) (by omega) ?_); intro kxiE)) | (with_reducible ((show @ite _ _ _ _ _); ((refine ite_both (fun hc => ?_) (fun hc => ?_)); (all_goals (try simp only [beq_iff_eq, decide_eq_true_eq] at hc)))))) | (dsimp only; walk1) | fail "no step")
    exact ⟨_, _, _, rfl, F9, N9, off9, trivial, rfl, _, _, rfl⟩
  case fin =>
    intro ys9 ns9 hys9
    unfold FinE
    intro D9 h9 tk9 F9 N9 off9
    clear rgX
    repeat (first | (with_reducible first | (refine one_cut5 sg sd so ?_; intro tkC) | (refine cons_cut5 sg sd so ?_; intro tkC qC hC)) | (k_unfold; (try dsimp only)) | walk1 | (with_reducible first | refine CutQ.next (by assumption) ?_ | refine CutQ.ret (by assumption) ?_ | refine CutQ.brk (by assumption) ?_ | refine CutQ.cont (by assumption) ?_ | refine EndQ.ret (by assumption) ?_ | refine EndQ.next (by assumption) ?_) | ((refine Halt.out' ?_); first | ((with_reducible show wpAny _ _ (call (Value.builtin "len") [Value.ref _]) _ _ _); (k_here; (with_reducible show wpAny _ _ (call (Value.builtin "len") [Value.ref _]) _ _ _); refine len_base (by k_asm) (by k_asm) (by omega) ?_; intro t' k')) | ((with_reducible show wpAny _ _ (subscriptTail _ _ (Value.ref _) _) _ _ _); (k_here; (refine item_base (by k_asm) (by k_asm) (by assumption) (by omega) ?_))) | (with_reducible ((show wpAny _ _ (eval (Expr.ListComp _ _ _ _) _) _ _ _); (k_here; k_dflt (refine ListComp_R (F₀ := by k_asm) (by with_unfolding_all rfl) (by decide) (by rfl) (by decide) (by rfl) ?_)))) | ((k_here; (with_reducible show wpAny _ _ (subscriptTail _ _ (Value.str _ _) (Value.int _ _)) _ _ _); (refine item_at (by omega) (by omega) (by omega) ?_); intro kxiE)) | (with_reducible ((show @ite _ _ _ _ _); ((refine ite_both (fun hc => ?_) (fun hc => ?_)); (all_goals (try simp only [beq_iff_eq, decide_eq_true_eq] at hc)))))) | (dsimp only; walk1) | fail "no step")
    refine Halt.out' ?_
    (rename Fr _ _ _ _ => F3); (rename News _ _ _ _ => N3)
    k_dflt (refine Fn.use' (k := 16) (drawn8_fn w f hf0 hf1 D9 ys9 ns9 _ _ _ hys9) (by k_asm) F3 (by k_asm) N3 (by k_asm) (by rfl) (by rfl) (by assumption) (by assumption) (by decide) (News.isList N3 (.head _)) ?_)
    rintro v8 h8 tk8 F8 N8 K8 ⟨r8, t8, rfl, hr0, hr1⟩
    clear F3 N3
    repeat (first | (with_reducible first | (refine one_cut5 sg sd so ?_; intro tkC) | (refine cons_cut5 sg sd so ?_; intro tkC qC hC)) | (k_unfold; (try dsimp only)) | walk1 | (with_reducible first | refine CutQ.next (by assumption) ?_ | refine CutQ.ret (by assumption) ?_ | refine CutQ.brk (by assumption) ?_ | refine CutQ.cont (by assumption) ?_ | refine EndQ.ret (by assumption) ?_ | refine EndQ.next (by assumption) ?_) | ((refine Halt.out' ?_); first | ((with_reducible show wpAny _ _ (call (Value.builtin "len") [Value.ref _]) _ _ _); (k_here; (with_reducible show wpAny _ _ (call (Value.builtin "len") [Value.ref _]) _ _ _); refine len_base (by k_asm) (by k_asm) (by omega) ?_; intro t' k')) | ((with_reducible show wpAny _ _ (subscriptTail _ _ (Value.ref _) _) _ _ _); (k_here; (refine item_base (by k_asm) (by k_asm) (by assumption) (by omega) ?_))) | (with_reducible ((show wpAny _ _ (eval (Expr.ListComp _ _ _ _) _) _ _ _); (k_here; k_dflt (refine ListComp_R (F₀ := by k_asm) (by with_unfolding_all rfl) (by decide) (by rfl) (by decide) (by rfl) ?_)))) | ((k_here; (with_reducible show wpAny _ _ (subscriptTail _ _ (Value.str _ _) (Value.int _ _)) _ _ _); (refine item_at (by omega) (by omega) (by omega) ?_); intro kxiE)) | (with_reducible ((show @ite _ _ _ _ _); ((refine ite_both (fun hc => ?_) (fun hc => ?_)); (all_goals (try simp only [beq_iff_eq, decide_eq_true_eq] at hc)))))) | (dsimp only; walk1) | fail "no step")
    (try dsimp only)
    exact hret _ _ _ (fun b o e => Fr.keep (by assumption) b o e) ⟨_, _, rfl, hr0, hr1⟩
end
end Mine
end
theorem Mine.rs_FCt : True ∧ True := by
  (try (walk1; fail))
  exact ⟨trivial, trivial⟩
section
open PySem PySem.W PyProof.Rows PySem.Calls PySem.Spec
set_option maxRecDepth 100000
set_option maxHeartbeats 8000000
namespace Mine
noncomputable def trues (bs : List Bool) : Int := ((bs.filter fun b => b).length : Int)
theorem trues_take {bs : List Bool} {i : Nat} {b : Bool} (h : bs[i]? = some b) : trues (bs.take (i + 1)) = trues (bs.take i) + (if b = true then 1 else 0) := by
  unfold trues
  rw [List.take_add_one, h, List.filter_append, List.length_append]
  cases b <;> simp
section
local macro_rules | `(tactic| walk_at $s:str) => if ["KswEnd", "exec For Name Name cons nil", "pyIter ref", "InvEndN"].contains s.getString then `(tactic| refine Halt.out ?_) else Lean.Macro.throwUnsupported
set_option maxHeartbeats 8000000 in
theorem count_fn (w : World) (l : Addr) (bs : List Bool) (hb : bs.length ≤ 10) :
    Fn w 8 59 [.ref l, .bool true] (fun h => h.IsList l (bs.map Value.bool).toArray) (fun v _ _ => ∃ t, v = .int (trues bs) t) := by
  unfold Fn
  intro dp un gd outer base s Q E loose mean mg mb hdp hun B' X' T' hpre hret
  obtain ⟨sh, sg, sd, st0, so⟩ := s
  dsimp only at B' X' T' hpre hret
  k_dflt (refine' call_plain (binds := [(Str.ofString "a", .ref l), (Str.ofString "b", .bool true)]) ?X ?T ?o ?c ?r ?b ?l ?_ ?c2 ?c3 ?c4 ?c5; (case X => k_asm); (case T => k_asm); (case o => k_is); (case c => k_is); (case r => omega); (case b => exact BindsTo.of_eq rfl); (case l => exact locs rfl); (case c2 => decide); (case c3 => exact rfl); (case c4 => exact rfl); (case c5 => exact rfl); k_whole; intro L' h₁ qE eE tk9 hE hP F' N'; (simp only [List.reverse_cons, List.reverse_nil, List.nil_append, List.cons_append, lk] at F'); (try dsimp only); (try k_fold))
  repeat (first | (with_reducible first | (refine one_cut5 sg sd so ?_; intro tkC) | (refine cons_cut5 sg sd so ?_; intro tkC qC hC)) | (k_unfold; (try dsimp only)) | walk1 | (with_reducible first | refine CutQ.next (by assumption) ?_ | refine CutQ.ret (by assumption) ?_ | refine CutQ.brk (by assumption) ?_ | refine CutQ.cont (by assumption) ?_ | refine EndQ.ret (by assumption) ?_ | refine EndQ.next (by assumption) ?_) | ((refine Halt.out' ?_); first | ((with_reducible show wpAny _ _ (exec (Stmt.For _ _ _ _ _) _) _ _ _); (k_here; (rename Fr _ _ _ _ => lF'); (with_unfolding_all refine' For_invVF lF' ?k1 ?k2 ?_; (case k1 => exact rfl); (case k2 => exact rfl); k_whole))) | ((k_here; (with_reducible show wpAny _ _ (subscriptTail _ _ (Value.str _ _) (Value.int _ _)) _ _ _); (refine item_at (by omega) (by omega) (by omega) ?_); intro kxiE)) | (with_reducible ((show @ite _ _ _ _ _); ((refine ite_both (fun hc => ?_) (fun hc => ?_)); (all_goals (try simp only [beq_iff_eq, decide_eq_true_eq] at hc)))))) | (dsimp only; walk1) | fail "no step")
  refine Halt.out' ?_
  (rename Fr _ _ _ _ => lF'); (rename News _ _ _ _ => lN')
  refine' list_C (σ := Int × Tok) [] (fun c => [(Str.ofString "count", .int c.1 c.2)]) (fun i c => c.1 = trues (bs.take i) ∧ 0 ≤ c.1 ∧ c.1 ≤ (i : Int)) (0, ?t0) (by rfl) hpre lF' lN' ⟨rfl, Int.le_refl 0, Int.le_refl 0⟩ ?k0 ?turn ?done
  case k0 =>
    intro p hp
    rw [List.mem_singleton.mp hp]
    rfl
  case turn =>
    rintro i v ⟨d, td⟩ u9 h9 tk9 own9 hv ⟨hd, hd0, hd1⟩ hoff F9 N9
    clear lF' lN'
    dsimp only at hd hd0 hd1
    rw [List.getElem?_map] at hv
    cases hbi : bs[i]? with
    | none => rw [hbi] at hv; cases hv
    | some b =>
      rw [hbi] at hv
      have hv' : Value.bool b = v := Option.some.inj hv
      subst hv'
      have hib : i < bs.length := by
        rcases Nat.lt_or_ge i bs.length with q | q
        · exact q
        · rw [List.getElem?_eq_none q] at hbi; cases hbi
      have htt := trues_take hbi
      cases b with
      | true =>
        repeat (first | (with_reducible first | (refine one_cut5 sg sd so ?_; intro tkC) | (refine cons_cut5 sg sd so ?_; intro tkC qC hC)) | (k_unfold; (try dsimp only)) | walk1 | (with_reducible first | refine CutQ.next (by assumption) ?_ | refine CutQ.ret (by assumption) ?_ | refine CutQ.brk (by assumption) ?_ | refine CutQ.cont (by assumption) ?_ | refine EndQ.ret (by assumption) ?_ | refine EndQ.next (by assumption) ?_) | ((refine Halt.out' ?_); first | ((with_reducible show wpAny _ _ (exec (Stmt.For _ _ _ _ _) _) _ _ _); (k_here; (rename Fr _ _ _ _ => lF'); (with_unfolding_all refine' For_invVF lF' ?k1 ?k2 ?_; (case k1 => exact rfl); (case k2 => exact rfl); k_whole))) | ((k_here; (with_reducible show wpAny _ _ (subscriptTail _ _ (Value.str _ _) (Value.int _ _)) _ _ _); (refine item_at (by omega) (by omega) (by omega) ?_); intro kxiE)) | (with_reducible ((show @ite _ _ _ _ _); ((refine ite_both (fun hc => ?_) (fun hc => ?_)); (all_goals (try simp only [beq_iff_eq, decide_eq_true_eq] at hc)))))) | (dsimp only; walk1) | fail "no step")
        refine Halt.out' ?_
        (rename Fr _ _ _ _ => cF); (rename News _ _ _ _ => cN)
        refine InvEndN.intro cF cN ⟨rfl, (_, _), ⟨?p1, ?p2, ?p3⟩, (fun p hp => by rw [List.mem_singleton.mp hp]; rfl), fun z hz h3 h2 => ?_⟩ rfl (fun p hp => nomatch hp) (fun p hp => by first | exact hp | k_mem)
        case p1 => rw [htt, ← hd]; rfl
        case p2 => show 0 ≤ d + 1; omega
        case p3 => show d + 1 ≤ ((i + 1 : Nat) : Int); omega
        have h5 : z ≠ Str.ofString "count" := h2 _ (.head _)
        simp [mapC, kstB, hz, h5]
      | false =>
        repeat (first | (with_reducible first | (refine one_cut5 sg sd so ?_; intro tkC) | (refine cons_cut5 sg sd so ?_; intro tkC qC hC)) | (k_unfold; (try dsimp only)) | walk1 | (with_reducible first | refine CutQ.next (by assumption) ?_ | refine CutQ.ret (by assumption) ?_ | refine CutQ.brk (by assumption) ?_ | refine CutQ.cont (by assumption) ?_ | refine EndQ.ret (by assumption) ?_ | refine EndQ.next (by assumption) ?_) | ((refine Halt.out' ?_); first | ((with_reducible show wpAny _ _ (exec (Stmt.For _ _ _ _ _) _) _ _ _); (k_here; (rename Fr _ _ _ _ => lF'); (with_unfolding_all refine' For_invVF lF' ?k1 ?k2 ?_; (case k1 => exact rfl); (case k2 => exact rfl); k_whole))) | ((k_here; (with_reducible show wpAny _ _ (subscriptTail _ _ (Value.str _ _) (Value.int _ _)) _ _ _); (refine item_at (by omega) (by omega) (by omega) ?_); intro kxiE)) | (with_reducible ((show @ite _ _ _ _ _); ((refine ite_both (fun hc => ?_) (fun hc => ?_)); (all_goals (try simp only [beq_iff_eq, decide_eq_true_eq] at hc)))))) | (dsimp only; walk1) | fail "no step")
        refine Halt.out' ?_
        (rename Fr _ _ _ _ => cF); (rename News _ _ _ _ => cN)
        refine InvEndN.intro cF cN ⟨rfl, (_, _), ⟨?p1, ?p2, ?p3⟩, (fun p hp => by rw [List.mem_singleton.mp hp]; rfl), fun z hz h3 h2 => ?_⟩ rfl (fun p hp => nomatch hp) (fun p hp => by first | exact hp | k_mem)
        case p1 => rw [htt, ← hd]; simp
        case p2 => exact hd0
        case p3 => show d ≤ ((i + 1 : Nat) : Int); omega
        have h5 : z ≠ Str.ofString "count" := h2 _ (.head _)
        simp [mapC, kstB, hz, h5]
  case done =>
    rintro ⟨d, td⟩ u9 v9 h9 tk9 ⟨hd, hd0, hd1⟩ F9 N9
    clear lF' lN'
    repeat (first | (with_reducible first | (refine one_cut5 sg sd so ?_; intro tkC) | (refine cons_cut5 sg sd so ?_; intro tkC qC hC)) | (k_unfold; (try dsimp only)) | walk1 | (with_reducible first | refine CutQ.next (by assumption) ?_ | refine CutQ.ret (by assumption) ?_ | refine CutQ.brk (by assumption) ?_ | refine CutQ.cont (by assumption) ?_ | refine EndQ.ret (by assumption) ?_ | refine EndQ.next (by assumption) ?_) | ((refine Halt.out' ?_); first | ((with_reducible show wpAny _ _ (exec (Stmt.For _ _ _ _ _) _) _ _ _); (k_here; (rename Fr _ _ _ _ => lF'); (with_unfolding_all refine' For_invVF lF' ?k1 ?k2 ?_; (case k1 => exact rfl); (case k2 => exact rfl); k_whole))) | ((k_here; (with_reducible show wpAny _ _ (subscriptTail _ _ (Value.str _ _) (Value.int _ _)) _ _ _); (refine item_at (by omega) (by omega) (by omega) ?_); intro kxiE)) | (with_reducible ((show @ite _ _ _ _ _); ((refine ite_both (fun hc => ?_) (fun hc => ?_)); (all_goals (try simp only [beq_iff_eq, decide_eq_true_eq] at hc)))))) | (dsimp only; walk1) | fail "no step")
    (try dsimp only)
    refine hret _ _ _ (fun b o e => Fr.keep (by assumption) b o e) ⟨td, ?_⟩
    have e : d = trues (bs.take (bs.map Value.bool).length) := hd
    rw [List.length_map, List.take_length] at e
    rw [← e]
end
end Mine
end
theorem Mine.rs_FMd : True ∧ True := by
  (try (walk1; fail))
  exact ⟨trivial, trivial⟩
section
open PySem PySem.W PyProof.Rows PySem.Calls PySem.Spec
set_option maxRecDepth 100000
set_option maxHeartbeats 8000000
namespace Mine
noncomputable def signAt (m : Int) : Nat → Nat
  | 0 => (if Builtin.bitAnd m 61440 = 40960 then 108 else (if Builtin.bitAnd m 61440 = 49152 then 115 else (if Builtin.bitAnd m 61440 = 32768 then 45 else (if Builtin.bitAnd m 61440 = 24576 then 98 else (if Builtin.bitAnd m 61440 = 16384 then 100 else (if Builtin.bitAnd m 61440 = 8192 then 99 else (if Builtin.bitAnd m 61440 = 4096 then 112 else 63)))))))
  | 1 => (if Builtin.bitAnd m 256 = 256 then 114 else 45)
  | 2 => (if Builtin.bitAnd m 128 = 128 then 119 else 45)
  | 3 => (if Builtin.bitAnd m 2112 = 2112 then 115 else (if Builtin.bitAnd m 2048 = 2048 then 83 else (if Builtin.bitAnd m 64 = 64 then 120 else 45)))
  | 4 => (if Builtin.bitAnd m 32 = 32 then 114 else 45)
  | 5 => (if Builtin.bitAnd m 16 = 16 then 119 else 45)
  | 6 => (if Builtin.bitAnd m 1032 = 1032 then 115 else (if Builtin.bitAnd m 1024 = 1024 then 83 else (if Builtin.bitAnd m 8 = 8 then 120 else 45)))
  | 7 => (if Builtin.bitAnd m 4 = 4 then 114 else 45)
  | 8 => (if Builtin.bitAnd m 2 = 2 then 119 else 45)
  | 9 => (if Builtin.bitAnd m 513 = 513 then 116 else (if Builtin.bitAnd m 512 = 512 then 84 else (if Builtin.bitAnd m 1 = 1 then 120 else 45)))
  | _ => 0
noncomputable def rowOf (m : Int) : Str := ⟨((List.range 10).map (signAt m)).toArray⟩
noncomputable def signs (m : Int) (i : Nat) : List Str := ((List.range i).map (signAt m)).map fun c => ⟨#[c]⟩
theorem signs_succ (m : Int) (i : Nat) : signs m (i + 1) = signs m i ++ [⟨#[signAt m i]⟩] := by
  unfold signs
  rw [List.range_succ]
  simp
theorem mem_left {a p : Addr × Obj} {l r : List (Addr × Obj)} (h : p ∈ a :: l) : p ∈ a :: (l ++ r) := by
  rcases List.mem_cons.mp h with rfl | h
  · exact .head _
  · exact .tail _ (List.mem_append_left _ h)
theorem tup_K {K : Frag} {h₀ h : Heap} {L a : Addr} {m : Str → Option Value} {items : Array Value} {n : Nat} (X : K.In h₀) (F : Fr h₀ L h m) (hl : K.lookup a = some ⟨.type "tuple", none, .seq items n, #[]⟩) : IsTup h a items := ⟨_, F.keep _ _ (X _ _ hl), rfl, n, rfl⟩
theorem tup_B {K : Frag} {h₀ : Heap} {a : Addr} {items : Array Value} {n : Nat} (X : K.In h₀) (hl : K.lookup a = some ⟨.type "tuple", none, .seq items n, #[]⟩) : h₀.IsTuple a items := ⟨_, X _ _ hl, rfl, n, rfl⟩
noncomputable abbrev fmLed (perm : Addr) (vs : List Value) : List (Addr × Obj) := [(perm, listOf vs.toArray vs.length)]
noncomputable abbrev fmNames (perm : Addr) (m : Int) (tm : Tok) (_ : List Value) : List (Str × Value) := [(Str.ofString "perm", .ref perm), (Str.ofString "mode", .int m tm)]
noncomputable abbrev fmP (m : Int) (i : Nat) (vs : List Value) : Prop := vs.length = i ∧ StrsAre vs (signs m i)
theorem fm_end {h₀ h' : Heap} {L perm : Addr} {m : Int} {tm t : Tok} {i : Nat} {vs : List Value} {own news : List (Addr × Obj)} {s₁ : Shared} {tk : Nat} {m' : Str → Option Value} {x : Str} (hP : fmP m i vs) (F : Fr h₀ L h' m') (N : News h₀ L h' news)
    (hmem : ∀ p ∈ (perm, listOf (vs.toArray.push (.str x t)) (vs.length + 1)) :: own, p ∈ news) (hx : x = ⟨#[signAt m i]⟩) (h1 : m' (Str.ofString "perm") = some (.ref perm)) (h2 : m' (Str.ofString "mode") = some (.int m tm)) :
    EndK h₀ L (fmLed perm) (fmNames perm m tm) (fmP m) i vs own s₁ .next { s₁ with heap := h', toks := tk } := by
  refine ⟨rfl, h', tk, m', vs ++ [.str x t], news, rfl, F, N, fun p hp => hmem p ?_, rfl, ⟨by rw [List.length_append, hP.1]; rfl, ?_⟩, fun p hp => ?_⟩
  · have e : (vs ++ [Value.str x t]).toArray = vs.toArray.push (.str x t) := by simp
    have e2 : (vs ++ [Value.str x t]).length = vs.length + 1 := by simp
    rcases List.mem_append.mp hp with hp | hp
    · rw [List.mem_singleton.mp hp, e, e2]; exact .head _
    · exact .tail _ hp
  · rw [signs_succ, hx]
    exact strs_snoc hP.2
  · rcases List.mem_cons.mp hp with rfl | hp
    · exact h1
    · rw [List.mem_singleton.mp hp]; exact h2
noncomputable abbrev FT : Type := Addr × Int × Tok × Str × Tok
noncomputable abbrev fv (x : FT) : Value := .ref x.1
noncomputable def sgn (m : Int) (i : Nat) : List FT → Str
  | [] => if i = 0 then Str.ofString "?" else Str.ofString "-"
  | x :: r => if Builtin.bitAnd m (if i = 0 then 61440 else x.2.1) = x.2.1 then x.2.2.2.1 else sgn m i r
noncomputable def fmR (w : World) (m : Int) (i : Nat) (l : List FT) : Prop :=
  (∀ x ∈ l, ∃ n, (Mine.K w.params).lookup x.1 = some ⟨.type "tuple", none, .seq #[.int x.2.1 x.2.2.1, .str x.2.2.2.1 x.2.2.2.2] n, #[]⟩) ∧ sgn m i l = ⟨#[signAt m i]⟩
theorem fmR.tl {w : World} {m : Int} {i : Nat} {x : FT} {r : List FT} (h : fmR w m i (x :: r)) (hc : ¬ Builtin.bitAnd m (if i = 0 then 61440 else x.2.1) = x.2.1) : fmR w m i r :=
  ⟨fun y hy => h.1 y (.tail _ hy), by rw [← h.2, sgn, if_neg hc]⟩
theorem fmR.hd {w : World} {m : Int} {i : Nat} {x : FT} {r : List FT} (h : fmR w m i (x :: r)) (hc : Builtin.bitAnd m (if i = 0 then 61440 else x.2.1) = x.2.1) : x.2.2.2.1 = ⟨#[signAt m i]⟩ := by
  rw [← h.2, sgn, if_pos hc]
noncomputable def fmRow (w : World) (m : Int) (i : Nat) (x : Value) : Prop :=
  ∃ a l n, x = .ref a ∧ (Mine.K w.params).lookup a = some ⟨.type "tuple", none, .seq (l.map fv).toArray n, #[]⟩ ∧ fmR w m i l
theorem fm_row (w : World) (m : Int) : ∀ (i : Nat) (x : Value), (#[Value.ref 112, Value.ref 114, Value.ref 116, Value.ref 120, Value.ref 122, Value.ref 124, Value.ref 128, Value.ref 130, Value.ref 132, Value.ref 136] : Array Value)[i]? = some x → fmRow w m i x
  | 0, _, rfl => ⟨112, [(105, 40960, 575, Str.ofString "l", 603), (106, 49152, 577, Str.ofString "s", 604), (107, 32768, 571, Str.ofString "-", 605), (108, 24576, 569, Str.ofString "b", 606), (109, 16384, 565, Str.ofString "d", 607), (110, 8192, 567, Str.ofString "c", 608), (111, 4096, 573, Str.ofString "p", 609)], _, rfl, by rfl, List.forall_mem_cons.mpr ⟨⟨_, by rfl⟩, List.forall_mem_cons.mpr ⟨⟨_, by rfl⟩, List.forall_mem_cons.mpr ⟨⟨_, by rfl⟩, List.forall_mem_cons.mpr ⟨⟨_, by rfl⟩, List.forall_mem_cons.mpr ⟨⟨_, by rfl⟩, List.forall_mem_cons.mpr ⟨⟨_, by rfl⟩, List.forall_mem_cons.mpr ⟨⟨_, by rfl⟩, List.forall_mem_nil _⟩⟩⟩⟩⟩⟩⟩, by
      simp only [sgn, signAt, if_true, if_false, Nat.succ_ne_zero, reduceCtorEq]
      repeat (first | rfl | decide +kernel | split)⟩
  | 1, _, rfl => ⟨114, [(113, 256, 585, Str.ofString "r", 610)], _, rfl, by rfl, List.forall_mem_cons.mpr ⟨⟨_, by rfl⟩, List.forall_mem_nil _⟩, by
      simp only [sgn, signAt, if_true, if_false, Nat.succ_ne_zero, reduceCtorEq]
      repeat (first | rfl | decide +kernel | split)⟩
  | 2, _, rfl => ⟨116, [(115, 128, 587, Str.ofString "w", 611)], _, rfl, by rfl, List.forall_mem_cons.mpr ⟨⟨_, by rfl⟩, List.forall_mem_nil _⟩, by
      simp only [sgn, signAt, if_true, if_false, Nat.succ_ne_zero, reduceCtorEq]
      repeat (first | rfl | decide +kernel | split)⟩
  | 3, _, rfl => ⟨120, [(117, 2112, 612, Str.ofString "s", 613), (118, 2048, 579, Str.ofString "S", 614), (119, 64, 589, Str.ofString "x", 615)], _, rfl, by rfl, List.forall_mem_cons.mpr ⟨⟨_, by rfl⟩, List.forall_mem_cons.mpr ⟨⟨_, by rfl⟩, List.forall_mem_cons.mpr ⟨⟨_, by rfl⟩, List.forall_mem_nil _⟩⟩⟩, by
      simp only [sgn, signAt, if_true, if_false, Nat.succ_ne_zero, reduceCtorEq]
      repeat (first | rfl | decide +kernel | split)⟩
  | 4, _, rfl => ⟨122, [(121, 32, 591, Str.ofString "r", 616)], _, rfl, by rfl, List.forall_mem_cons.mpr ⟨⟨_, by rfl⟩, List.forall_mem_nil _⟩, by
      simp only [sgn, signAt, if_true, if_false, Nat.succ_ne_zero, reduceCtorEq]
      repeat (first | rfl | decide +kernel | split)⟩
  | 5, _, rfl => ⟨124, [(123, 16, 593, Str.ofString "w", 617)], _, rfl, by rfl, List.forall_mem_cons.mpr ⟨⟨_, by rfl⟩, List.forall_mem_nil _⟩, by
      simp only [sgn, signAt, if_true, if_false, Nat.succ_ne_zero, reduceCtorEq]
      repeat (first | rfl | decide +kernel | split)⟩
  | 6, _, rfl => ⟨128, [(125, 1032, 618, Str.ofString "s", 619), (126, 1024, 581, Str.ofString "S", 620), (127, 8, 595, Str.ofString "x", 621)], _, rfl, by rfl, List.forall_mem_cons.mpr ⟨⟨_, by rfl⟩, List.forall_mem_cons.mpr ⟨⟨_, by rfl⟩, List.forall_mem_cons.mpr ⟨⟨_, by rfl⟩, List.forall_mem_nil _⟩⟩⟩, by
      simp only [sgn, signAt, if_true, if_false, Nat.succ_ne_zero, reduceCtorEq]
      repeat (first | rfl | decide +kernel | split)⟩
  | 7, _, rfl => ⟨130, [(129, 4, 597, Str.ofString "r", 622)], _, rfl, by rfl, List.forall_mem_cons.mpr ⟨⟨_, by rfl⟩, List.forall_mem_nil _⟩, by
      simp only [sgn, signAt, if_true, if_false, Nat.succ_ne_zero, reduceCtorEq]
      repeat (first | rfl | decide +kernel | split)⟩
  | 8, _, rfl => ⟨132, [(131, 2, 599, Str.ofString "w", 623)], _, rfl, by rfl, List.forall_mem_cons.mpr ⟨⟨_, by rfl⟩, List.forall_mem_nil _⟩, by
      simp only [sgn, signAt, if_true, if_false, Nat.succ_ne_zero, reduceCtorEq]
      repeat (first | rfl | decide +kernel | split)⟩
  | 9, _, rfl => ⟨136, [(133, 513, 624, Str.ofString "t", 625), (134, 512, 583, Str.ofString "T", 626), (135, 1, 601, Str.ofString "x", 627)], _, rfl, by rfl, List.forall_mem_cons.mpr ⟨⟨_, by rfl⟩, List.forall_mem_cons.mpr ⟨⟨_, by rfl⟩, List.forall_mem_cons.mpr ⟨⟨_, by rfl⟩, List.forall_mem_nil _⟩⟩⟩, by
      simp only [sgn, signAt, if_true, if_false, Nat.succ_ne_zero, reduceCtorEq]
      repeat (first | rfl | decide +kernel | split)⟩
  | _ + 10, _, h => nomatch h
theorem ElseRest.ind {prog : Program} {w : World} {A : Around} {E : Value → Shared → Prop} {s : Shared} {env : Env} {h₀ : Heap} {target : Expr} {body orelse : List Stmt} {Q : Flow → Shared → Prop} {T : Type} {val : T → Value} {names : List (Str × Value)} (R : List T → Prop) {news : List (Addr × Obj)}
    (cons : ∀ x r u h tk own, R (x :: r) → Fr h₀ env.locals h (kstB u names) → News h₀ env.locals h (news ++ own) → (∀ p ∈ own, ∀ q ∈ news, p.1 ≠ q.1) →
      wpAny (model prog w) A (assign target env (val x)) (fun _ s₂ => wpAny (model prog w) A (execs body env) (ElsePost Q fun s' => ∃ h' tk' m', s' = { s with heap := h', toks := tk' } ∧ Fr h₀ env.locals h' m' ∧ News h₀ env.locals h' (news ++ own) ∧ (∀ p ∈ names, m' p.1 = some p.2) ∧ R r) E s₂) E { s with heap := h, toks := tk })
    (nil : ∀ u h tk, R [] → Fr h₀ env.locals h (kstB u names) → News h₀ env.locals h news → wpAny (model prog w) A (execs orelse env) Q E { s with heap := h, toks := tk }) :
    ∀ l m, R l → (∀ p ∈ names, m p.1 = some p.2) → ElseRest prog w A E h₀ env target body orelse Q s news (l.map val) m
  | [], m, hr, hm => fun h tk F N => nil m h tk hr (by rw [kstB_self hm]; exact F) N
  | x :: r, m, hr, hm => fun h tk own F N off =>
    wpAny_mono (cons x r m h tk own hr (by rw [kstB_self hm]; exact F) N off) (fun _ _ h₂ => wpAny_mono h₂ (fun f _ h₃ => match f, h₃ with
      | .brk, h₃ => h₃
      | .ret _, h₃ => h₃
      | .next, ⟨h', tk', m', e, F', N', hm', hR⟩ => ⟨h', tk', m', e, F', N', ElseRest.ind R cons nil r m' hR hm'⟩
      | .cont, ⟨h', tk', m', e, F', N', hm', hR⟩ => ⟨h', tk', m', e, F', N', ElseRest.ind R cons nil r m' hR hm'⟩) fun _ _ e => e) fun _ _ e => e
section
local macro_rules | `(tactic| walk_at $s:str) => if ["KswEnd", "call type:enumerate", "exec For Tuple Call cons nil", "exec For", "assign Tuple", "call ref", "call builtin:list.append", "call builtin:str.join"].contains s.getString then `(tactic| refine Halt.out ?_) else Lean.Macro.throwUnsupported
set_option maxHeartbeats 8000000 in
theorem mode_fn (w : World) (m : Int) (tm : Tok) : Fn w 32 144 [.int m tm] (fun _ => True) (fun v _ _ => ∃ t, v = .str (rowOf m) t) := by
  unfold Fn
  intro dp un gd outer base s Q E loose mean mg mb hdp hun B' X' T' hpre hret
  obtain ⟨sh, sg, sd, st0, so⟩ := s
  dsimp only at B' X' T' hpre hret
  k_dflt (refine' call_plain (binds := [(Str.ofString "mode", .int m tm)]) ?X ?T ?o ?c ?r ?b ?l ?_ ?c2 ?c3 ?c4 ?c5; (case X => k_asm); (case T => k_asm); (case o => k_is); (case c => k_is); (case r => omega); (case b => exact BindsTo.of_eq rfl); (case l => exact locs rfl); (case c2 => decide); (case c3 => exact rfl); (case c4 => exact rfl); (case c5 => exact rfl); k_whole; intro L' h₁ qE eE tk9 hE hP F' N'; (simp only [List.reverse_cons, List.reverse_nil, List.nil_append, List.cons_append, lk] at F'); (try dsimp only); (try k_fold))
  repeat (first | (with_reducible first | (refine one_cut5 sg sd so ?_; intro tkC) | (refine cons_cut5 sg sd so ?_; intro tkC qC hC)) | (k_unfold; (try dsimp only)) | walk1 | (with_reducible first | refine CutQ.next (by assumption) ?_ | refine CutQ.ret (by assumption) ?_ | refine CutQ.brk (by assumption) ?_ | refine CutQ.cont (by assumption) ?_ | refine EndQ.ret (by assumption) ?_ | refine EndQ.next (by assumption) ?_) | ((refine Halt.out' ?_); first | (with_reducible ((show wpAny _ _ (call (Value.ref _) _) _ _ _); ( k_here; (rename Fr _ _ _ _ => cF); (rename News _ _ _ _ => cN); k_dflt ( refine Fn.use' (ifmt_fn _ _ _) (by k_asm) cF (by k_asm) cN (by k_asm) (by rfl) (by rfl) (by assumption) (by assumption) (by decide) trivial ?_); intro v' h' tk' F' N' K' P'; clear cF cN; (obtain ⟨t', e'⟩ := P'); subst e'))) | ((with_reducible show wpAny _ _ (assign (Expr.Tuple _ _ _) _ _) _ _ _); (k_here; k_dflt (refine' unpackN_ ?F ?N ?T ?k1 ?k2 ?k3 ?_; (case F => k_asm); (case N => k_asm); (case T => first | assumption | exact tup_K (by assumption) (by assumption) (by k_is)); (case k1 => exact rfl); (case k2 => exact rfl); (case k3 => exact rfl)); intro h' F' N')) | (with_reducible ((show @ite _ _ _ _ _); ((refine ite_both (fun hc => ?_) (fun hc => ?_)); (all_goals (try simp only [beq_iff_eq, decide_eq_true_eq, Bool.not_eq_true', bne_eq_false_iff_eq, bne_iff_ne, ne_eq] at hc)); (all_goals (try (exfalso; first | contradiction | k_dflt (first | omega))))))) | ((with_reducible show wpAny _ _ (exec (Stmt.For _ _ _ _ _) _) _ _ _); (k_here; (rename Fr _ _ _ _ => lF'); (with_unfolding_all refine' For_turns lF' ?_; k_whole))) | ((k_here; (with_reducible show wpAny _ _ (subscriptTail _ _ (Value.str _ _) (Value.int _ _)) _ _ _); (refine item_at (by omega) (by omega) (by omega) ?_); intro kxiE))) | (dsimp only; walk1) | fail "no step")
  refine Halt.out' ?_
  rename_i perm _ _ _ N2
  (rename Fr _ _ _ _ => F2)
  have N2 : News _ _ _ (fmLed perm []) := N2
  refine' enum_C (h₀ := sh) (fmLed perm) (fmNames perm m tm) (fmP m) [] ?hh ?ht0 ?hF ?hN ⟨rfl, .nil⟩ ?k0 ?turn ?done
  case hF => exact F2
  case hN => exact N2
  case hh => rfl
  case ht0 =>
    k_dflt (refine' tup_B X' ?ht; (case ht => k_is))
  case k0 =>
    intro p hp
    rcases List.mem_cons.mp hp with rfl | hp
    · rfl
    · rw [List.mem_singleton.mp hp]; rfl
  case turn =>
    intro i9 x9 T9 tt9 vs9 u9 h9 tk9 own9 hx9 hP9 hT9 hoff9 F9 N9
    clear F2 N2
    simp only [fmLed, List.cons_append, List.nil_append] at N9
    have hi9 : i9 < 10 := by
      rcases Nat.lt_or_ge i9 10 with q | q
      · exact q
      · rw [Array.getElem?_eq_none (by exact q)] at hx9; cases hx9
    have hsz9 : vs9.toArray.size ≤ sizeLine := by rw [List.size_toArray, hP9.1]; exact Nat.le_trans (Nat.le_of_lt hi9) (by decide)
    have hoffp : ∀ p ∈ own9, p.1 ≠ perm := fun p hp => hoff9 p hp _ (.head _)
    obtain ⟨a9, l9, n9, rfl, hl9, hR9⟩ := fm_row w m i9 x9 hx9
    rcases Nat.eq_zero_or_pos i9 with rfl | hpos
    · repeat (first | (with_reducible first | (refine one_cut5 sg sd so ?_; intro tkC) | (refine cons_cut5 sg sd so ?_; intro tkC qC hC)) | (k_unfold; (try dsimp only)) | walk1 | (with_reducible first | refine CutQ.next (by assumption) ?_ | refine CutQ.ret (by assumption) ?_ | refine CutQ.brk (by assumption) ?_ | refine CutQ.cont (by assumption) ?_ | refine EndQ.ret (by assumption) ?_ | refine EndQ.next (by assumption) ?_) | ((refine Halt.out' ?_); first | (with_reducible ((show wpAny _ _ (call (Value.ref _) _) _ _ _); ( k_here; (rename Fr _ _ _ _ => cF); (rename News _ _ _ _ => cN); k_dflt ( refine Fn.use' (ifmt_fn _ _ _) (by k_asm) cF (by k_asm) cN (by k_asm) (by rfl) (by rfl) (by assumption) (by assumption) (by decide) trivial ?_); intro v' h' tk' F' N' K' P'; clear cF cN; (obtain ⟨t', e'⟩ := P'); subst e'))) | ((with_reducible show wpAny _ _ (assign (Expr.Tuple _ _ _) _ _) _ _ _); (k_here; k_dflt (refine' unpackN_ ?F ?N ?T ?k1 ?k2 ?k3 ?_; (case F => k_asm); (case N => k_asm); (case T => first | assumption | exact tup_K (by assumption) (by assumption) (by k_is)); (case k1 => exact rfl); (case k2 => exact rfl); (case k3 => exact rfl)); intro h' F' N')) | (with_reducible ((show @ite _ _ _ _ _); ((refine ite_both (fun hc => ?_) (fun hc => ?_)); (all_goals (try simp only [beq_iff_eq, decide_eq_true_eq, Bool.not_eq_true', bne_eq_false_iff_eq, bne_iff_ne, ne_eq] at hc)); (all_goals (try (exfalso; first | contradiction | k_dflt (first | omega))))))) | ((with_reducible show wpAny _ _ (exec (Stmt.For _ _ _ _ _) _) _ _ _); (k_here; (rename Fr _ _ _ _ => lF'); (with_unfolding_all refine' For_turns lF' ?_; k_whole))) | ((k_here; (with_reducible show wpAny _ _ (subscriptTail _ _ (Value.str _ _) (Value.int _ _)) _ _ _); (refine item_at (by omega) (by omega) (by omega) ?_); intro kxiE))) | (dsimp only; walk1) | fail "no step")
      refine Halt.out' ?_
      (rename Fr _ _ _ _ => F3); (rename News _ _ _ _ => N3)
      refine' For_else_tup (h₀ := sh) (vs := l9.map fv) ?hh ?ht0 rfl ?hi ?hF ?hN ?rest
      case hF => exact F3
      case hN => exact N3
      case hh => rfl
      case hi =>
        intro Q8 hQ8
        repeat (first | (with_reducible first | (refine one_cut5 sg sd so ?_; intro tkC) | (refine cons_cut5 sg sd so ?_; intro tkC qC hC)) | (k_unfold; (try dsimp only)) | walk1 | (with_reducible first | refine CutQ.next (by assumption) ?_ | refine CutQ.ret (by assumption) ?_ | refine CutQ.brk (by assumption) ?_ | refine CutQ.cont (by assumption) ?_ | refine EndQ.ret (by assumption) ?_ | refine EndQ.next (by assumption) ?_) | ((refine Halt.out' ?_); first | (with_reducible ((show wpAny _ _ (call (Value.ref _) _) _ _ _); ( k_here; (rename Fr _ _ _ _ => cF); (rename News _ _ _ _ => cN); k_dflt ( refine Fn.use' (ifmt_fn _ _ _) (by k_asm) cF (by k_asm) cN (by k_asm) (by rfl) (by rfl) (by assumption) (by assumption) (by decide) trivial ?_); intro v' h' tk' F' N' K' P'; clear cF cN; (obtain ⟨t', e'⟩ := P'); subst e'))) | ((with_reducible show wpAny _ _ (assign (Expr.Tuple _ _ _) _ _) _ _ _); (k_here; k_dflt (refine' unpackN_ ?F ?N ?T ?k1 ?k2 ?k3 ?_; (case F => k_asm); (case N => k_asm); (case T => first | assumption | exact tup_K (by assumption) (by assumption) (by k_is)); (case k1 => exact rfl); (case k2 => exact rfl); (case k3 => exact rfl)); intro h' F' N')) | (with_reducible ((show @ite _ _ _ _ _); ((refine ite_both (fun hc => ?_) (fun hc => ?_)); (all_goals (try simp only [beq_iff_eq, decide_eq_true_eq, Bool.not_eq_true', bne_eq_false_iff_eq, bne_iff_ne, ne_eq] at hc)); (all_goals (try (exfalso; first | contradiction | k_dflt (first | omega))))))) | ((with_reducible show wpAny _ _ (exec (Stmt.For _ _ _ _ _) _) _ _ _); (k_here; (rename Fr _ _ _ _ => lF'); (with_unfolding_all refine' For_turns lF' ?_; k_whole))) | ((k_here; (with_reducible show wpAny _ _ (subscriptTail _ _ (Value.str _ _) (Value.int _ _)) _ _ _); (refine item_at (by omega) (by omega) (by omega) ?_); intro kxiE))) | (dsimp only; walk1) | fail "no step")
        exact hQ8
      case ht0 => exact tup_B X' hl9
      case rest =>
        refine ElseRest.ind (names := [(Str.ofString "perm", .ref perm), (Str.ofString "mode", .int m tm), (Str.ofString "index", .int (((0 : Nat) : Int) : Int) tt9)]) (fmR w m 0) ?cons ?nil l9 _ hR9 ?k9
        case k9 =>
          refine List.forall_mem_cons.mpr ⟨rfl, List.forall_mem_cons.mpr ⟨rfl, List.forall_mem_cons.mpr ⟨rfl, List.forall_mem_nil _⟩⟩⟩
        case cons =>
          rintro ⟨a8, b8, tb8, c8, tc8⟩ r8 u8 h8 tk8 own8 hR8 F8 N8 off8
          simp only [List.cons_append, List.nil_append] at N8
          (try clear F3 N3)
          obtain ⟨n8, hl8⟩ := hR8.1 _ (.head _)
          have hT8 := tup_K X' F8 hl8
          clear hl8
          dsimp only at hT8
          repeat (first | (with_reducible first | (refine one_cut5 sg sd so ?_; intro tkC) | (refine cons_cut5 sg sd so ?_; intro tkC qC hC)) | (k_unfold; (try dsimp only)) | walk1 | (with_reducible first | refine CutQ.next (by assumption) ?_ | refine CutQ.ret (by assumption) ?_ | refine CutQ.brk (by assumption) ?_ | refine CutQ.cont (by assumption) ?_ | refine EndQ.ret (by assumption) ?_ | refine EndQ.next (by assumption) ?_) | ((refine Halt.out' ?_); first | (with_reducible ((show wpAny _ _ (call (Value.ref _) _) _ _ _); ( k_here; (rename Fr _ _ _ _ => cF); (rename News _ _ _ _ => cN); k_dflt ( refine Fn.use' (ifmt_fn _ _ _) (by k_asm) cF (by k_asm) cN (by k_asm) (by rfl) (by rfl) (by assumption) (by assumption) (by decide) trivial ?_); intro v' h' tk' F' N' K' P'; clear cF cN; (obtain ⟨t', e'⟩ := P'); subst e'))) | ((with_reducible show wpAny _ _ (assign (Expr.Tuple _ _ _) _ _) _ _ _); (k_here; k_dflt (refine' unpackN_ ?F ?N ?T ?k1 ?k2 ?k3 ?_; (case F => k_asm); (case N => k_asm); (case T => first | assumption | exact tup_K (by assumption) (by assumption) (by k_is)); (case k1 => exact rfl); (case k2 => exact rfl); (case k3 => exact rfl)); intro h' F' N')) | (with_reducible ((show @ite _ _ _ _ _); ((refine ite_both (fun hc => ?_) (fun hc => ?_)); (all_goals (try simp only [beq_iff_eq, decide_eq_true_eq, Bool.not_eq_true', bne_eq_false_iff_eq, bne_iff_ne, ne_eq] at hc)); (all_goals (try (exfalso; first | contradiction | k_dflt (first | omega))))))) | ((with_reducible show wpAny _ _ (exec (Stmt.For _ _ _ _ _) _) _ _ _); (k_here; (rename Fr _ _ _ _ => lF'); (with_unfolding_all refine' For_turns lF' ?_; k_whole))) | ((k_here; (with_reducible show wpAny _ _ (subscriptTail _ _ (Value.str _ _) (Value.int _ _)) _ _ _); (refine item_at (by omega) (by omega) (by omega) ?_); intro kxiE))) | (dsimp only; walk1) | fail "no step")
          ·
            refine Halt.out' ?_
            (rename Fr _ _ _ _ => cF); (rename News _ _ _ _ => cN)
            refine append_K cF cN (.head fun p hp => ?_) ?_ hsz9
            · rcases List.mem_append.mp hp with hp | hp
              · exact hoffp p hp
              · exact off8 p hp _ (.head _)
            intro h6 F6 N6
            clear cF cN
            repeat (first | (with_reducible first | (refine one_cut5 sg sd so ?_; intro tkC) | (refine cons_cut5 sg sd so ?_; intro tkC qC hC)) | (k_unfold; (try dsimp only)) | walk1 | (with_reducible first | refine CutQ.next (by assumption) ?_ | refine CutQ.ret (by assumption) ?_ | refine CutQ.brk (by assumption) ?_ | refine CutQ.cont (by assumption) ?_ | refine EndQ.ret (by assumption) ?_ | refine EndQ.next (by assumption) ?_) | ((refine Halt.out' ?_); first | (with_reducible ((show wpAny _ _ (call (Value.ref _) _) _ _ _); ( k_here; (rename Fr _ _ _ _ => cF); (rename News _ _ _ _ => cN); k_dflt ( refine Fn.use' (ifmt_fn _ _ _) (by k_asm) cF (by k_asm) cN (by k_asm) (by rfl) (by rfl) (by assumption) (by assumption) (by decide) trivial ?_); intro v' h' tk' F' N' K' P'; clear cF cN; (obtain ⟨t', e'⟩ := P'); subst e'))) | ((with_reducible show wpAny _ _ (assign (Expr.Tuple _ _ _) _ _) _ _ _); (k_here; k_dflt (refine' unpackN_ ?F ?N ?T ?k1 ?k2 ?k3 ?_; (case F => k_asm); (case N => k_asm); (case T => first | assumption | exact tup_K (by assumption) (by assumption) (by k_is)); (case k1 => exact rfl); (case k2 => exact rfl); (case k3 => exact rfl)); intro h' F' N')) | (with_reducible ((show @ite _ _ _ _ _); ((refine ite_both (fun hc => ?_) (fun hc => ?_)); (all_goals (try simp only [beq_iff_eq, decide_eq_true_eq, Bool.not_eq_true', bne_eq_false_iff_eq, bne_iff_ne, ne_eq] at hc)); (all_goals (try (exfalso; first | contradiction | k_dflt (first | omega))))))) | ((with_reducible show wpAny _ _ (exec (Stmt.For _ _ _ _ _) _) _ _ _); (k_here; (rename Fr _ _ _ _ => lF'); (with_unfolding_all refine' For_turns lF' ?_; k_whole))) | ((k_here; (with_reducible show wpAny _ _ (subscriptTail _ _ (Value.str _ _) (Value.int _ _)) _ _ _); (refine item_at (by omega) (by omega) (by omega) ?_); intro kxiE))) | (dsimp only; walk1) | fail "no step")
            (try dsimp only [ElsePost])
            repeat (first | (with_reducible first | (refine one_cut5 sg sd so ?_; intro tkC) | (refine cons_cut5 sg sd so ?_; intro tkC qC hC)) | (k_unfold; (try dsimp only)) | walk1 | (with_reducible first | refine CutQ.next (by assumption) ?_ | refine CutQ.ret (by assumption) ?_ | refine CutQ.brk (by assumption) ?_ | refine CutQ.cont (by assumption) ?_ | refine EndQ.ret (by assumption) ?_ | refine EndQ.next (by assumption) ?_) | ((refine Halt.out' ?_); first | (with_reducible ((show wpAny _ _ (call (Value.ref _) _) _ _ _); ( k_here; (rename Fr _ _ _ _ => cF); (rename News _ _ _ _ => cN); k_dflt ( refine Fn.use' (ifmt_fn _ _ _) (by k_asm) cF (by k_asm) cN (by k_asm) (by rfl) (by rfl) (by assumption) (by assumption) (by decide) trivial ?_); intro v' h' tk' F' N' K' P'; clear cF cN; (obtain ⟨t', e'⟩ := P'); subst e'))) | ((with_reducible show wpAny _ _ (assign (Expr.Tuple _ _ _) _ _) _ _ _); (k_here; k_dflt (refine' unpackN_ ?F ?N ?T ?k1 ?k2 ?k3 ?_; (case F => k_asm); (case N => k_asm); (case T => first | assumption | exact tup_K (by assumption) (by assumption) (by k_is)); (case k1 => exact rfl); (case k2 => exact rfl); (case k3 => exact rfl)); intro h' F' N')) | (with_reducible ((show @ite _ _ _ _ _); ((refine ite_both (fun hc => ?_) (fun hc => ?_)); (all_goals (try simp only [beq_iff_eq, decide_eq_true_eq, Bool.not_eq_true', bne_eq_false_iff_eq, bne_iff_ne, ne_eq] at hc)); (all_goals (try (exfalso; first | contradiction | k_dflt (first | omega))))))) | ((with_reducible show wpAny _ _ (exec (Stmt.For _ _ _ _ _) _) _ _ _); (k_here; (rename Fr _ _ _ _ => lF'); (with_unfolding_all refine' For_turns lF' ?_; k_whole))) | ((k_here; (with_reducible show wpAny _ _ (subscriptTail _ _ (Value.str _ _) (Value.int _ _)) _ _ _); (refine item_at (by omega) (by omega) (by omega) ?_); intro kxiE))) | (dsimp only; walk1) | fail "no step")
            (try dsimp only)
            (rename Fr _ _ _ _ => cF)
            exact fm_end hP9 cF N6 (fun p hp => mem_left hp) (fmR.hd hR8 (by first | assumption | exact hc)) rfl rfl
          repeat (first | (with_reducible first | (refine one_cut5 sg sd so ?_; intro tkC) | (refine cons_cut5 sg sd so ?_; intro tkC qC hC)) | (k_unfold; (try dsimp only)) | walk1 | (with_reducible first | refine CutQ.next (by assumption) ?_ | refine CutQ.ret (by assumption) ?_ | refine CutQ.brk (by assumption) ?_ | refine CutQ.cont (by assumption) ?_ | refine EndQ.ret (by assumption) ?_ | refine EndQ.next (by assumption) ?_) | ((refine Halt.out' ?_); first | (with_reducible ((show wpAny _ _ (call (Value.ref _) _) _ _ _); ( k_here; (rename Fr _ _ _ _ => cF); (rename News _ _ _ _ => cN); k_dflt ( refine Fn.use' (ifmt_fn _ _ _) (by k_asm) cF (by k_asm) cN (by k_asm) (by rfl) (by rfl) (by assumption) (by assumption) (by decide) trivial ?_); intro v' h' tk' F' N' K' P'; clear cF cN; (obtain ⟨t', e'⟩ := P'); subst e'))) | ((with_reducible show wpAny _ _ (assign (Expr.Tuple _ _ _) _ _) _ _ _); (k_here; k_dflt (refine' unpackN_ ?F ?N ?T ?k1 ?k2 ?k3 ?_; (case F => k_asm); (case N => k_asm); (case T => first | assumption | exact tup_K (by assumption) (by assumption) (by k_is)); (case k1 => exact rfl); (case k2 => exact rfl); (case k3 => exact rfl)); intro h' F' N')) | (with_reducible ((show @ite _ _ _ _ _); ((refine ite_both (fun hc => ?_) (fun hc => ?_)); (all_goals (try simp only [beq_iff_eq, decide_eq_true_eq, Bool.not_eq_true', bne_eq_false_iff_eq, bne_iff_ne, ne_eq] at hc)); (all_goals (try (exfalso; first | contradiction | k_dflt (first | omega))))))) | ((with_reducible show wpAny _ _ (exec (Stmt.For _ _ _ _ _) _) _ _ _); (k_here; (rename Fr _ _ _ _ => lF'); (with_unfolding_all refine' For_turns lF' ?_; k_whole))) | ((k_here; (with_reducible show wpAny _ _ (subscriptTail _ _ (Value.str _ _) (Value.int _ _)) _ _ _); (refine item_at (by omega) (by omega) (by omega) ?_); intro kxiE))) | (dsimp only; walk1) | fail "no step")
          (try dsimp only [ElsePost])
          refine GoOn.mk ⟨_, _, _, rfl, by assumption, by assumption, ?_, fmR.tl hR8 (by first | assumption | exact hc)⟩
          refine List.forall_mem_cons.mpr ⟨rfl, List.forall_mem_cons.mpr ⟨rfl, List.forall_mem_cons.mpr ⟨rfl, List.forall_mem_nil _⟩⟩⟩
        case nil =>
          intro u8 h8 tk8 hR8 F8 N8
          (try clear F3 N3)
          repeat (first | (with_reducible first | (refine one_cut5 sg sd so ?_; intro tkC) | (refine cons_cut5 sg sd so ?_; intro tkC qC hC)) | (k_unfold; (try dsimp only)) | walk1 | (with_reducible first | refine CutQ.next (by assumption) ?_ | refine CutQ.ret (by assumption) ?_ | refine CutQ.brk (by assumption) ?_ | refine CutQ.cont (by assumption) ?_ | refine EndQ.ret (by assumption) ?_ | refine EndQ.next (by assumption) ?_) | ((refine Halt.out' ?_); first | (with_reducible ((show wpAny _ _ (call (Value.ref _) _) _ _ _); ( k_here; (rename Fr _ _ _ _ => cF); (rename News _ _ _ _ => cN); k_dflt ( refine Fn.use' (ifmt_fn _ _ _) (by k_asm) cF (by k_asm) cN (by k_asm) (by rfl) (by rfl) (by assumption) (by assumption) (by decide) trivial ?_); intro v' h' tk' F' N' K' P'; clear cF cN; (obtain ⟨t', e'⟩ := P'); subst e'))) | ((with_reducible show wpAny _ _ (assign (Expr.Tuple _ _ _) _ _) _ _ _); (k_here; k_dflt (refine' unpackN_ ?F ?N ?T ?k1 ?k2 ?k3 ?_; (case F => k_asm); (case N => k_asm); (case T => first | assumption | exact tup_K (by assumption) (by assumption) (by k_is)); (case k1 => exact rfl); (case k2 => exact rfl); (case k3 => exact rfl)); intro h' F' N')) | (with_reducible ((show @ite _ _ _ _ _); ((refine ite_both (fun hc => ?_) (fun hc => ?_)); (all_goals (try simp only [beq_iff_eq, decide_eq_true_eq, Bool.not_eq_true', bne_eq_false_iff_eq, bne_iff_ne, ne_eq] at hc)); (all_goals (try (exfalso; first | contradiction | k_dflt (first | omega))))))) | ((with_reducible show wpAny _ _ (exec (Stmt.For _ _ _ _ _) _) _ _ _); (k_here; (rename Fr _ _ _ _ => lF'); (with_unfolding_all refine' For_turns lF' ?_; k_whole))) | ((k_here; (with_reducible show wpAny _ _ (subscriptTail _ _ (Value.str _ _) (Value.int _ _)) _ _ _); (refine item_at (by omega) (by omega) (by omega) ?_); intro kxiE))) | (dsimp only; walk1) | fail "no step")
          refine Halt.out' ?_
          (rename Fr _ _ _ _ => cF); (rename News _ _ _ _ => cN)
          refine append_K cF cN (.head fun p hp => ?_) ?_ hsz9
          · exact hoffp p hp
          intro h6 F6 N6
          clear cF cN
          repeat (first | (with_reducible first | (refine one_cut5 sg sd so ?_; intro tkC) | (refine cons_cut5 sg sd so ?_; intro tkC qC hC)) | (k_unfold; (try dsimp only)) | walk1 | (with_reducible first | refine CutQ.next (by assumption) ?_ | refine CutQ.ret (by assumption) ?_ | refine CutQ.brk (by assumption) ?_ | refine CutQ.cont (by assumption) ?_ | refine EndQ.ret (by assumption) ?_ | refine EndQ.next (by assumption) ?_) | ((refine Halt.out' ?_); first | (with_reducible ((show wpAny _ _ (call (Value.ref _) _) _ _ _); ( k_here; (rename Fr _ _ _ _ => cF); (rename News _ _ _ _ => cN); k_dflt ( refine Fn.use' (ifmt_fn _ _ _) (by k_asm) cF (by k_asm) cN (by k_asm) (by rfl) (by rfl) (by assumption) (by assumption) (by decide) trivial ?_); intro v' h' tk' F' N' K' P'; clear cF cN; (obtain ⟨t', e'⟩ := P'); subst e'))) | ((with_reducible show wpAny _ _ (assign (Expr.Tuple _ _ _) _ _) _ _ _); (k_here; k_dflt (refine' unpackN_ ?F ?N ?T ?k1 ?k2 ?k3 ?_; (case F => k_asm); (case N => k_asm); (case T => first | assumption | exact tup_K (by assumption) (by assumption) (by k_is)); (case k1 => exact rfl); (case k2 => exact rfl); (case k3 => exact rfl)); intro h' F' N')) | (with_reducible ((show @ite _ _ _ _ _); ((refine ite_both (fun hc => ?_) (fun hc => ?_)); (all_goals (try simp only [beq_iff_eq, decide_eq_true_eq, Bool.not_eq_true', bne_eq_false_iff_eq, bne_iff_ne, ne_eq] at hc)); (all_goals (try (exfalso; first | contradiction | k_dflt (first | omega))))))) | ((with_reducible show wpAny _ _ (exec (Stmt.For _ _ _ _ _) _) _ _ _); (k_here; (rename Fr _ _ _ _ => lF'); (with_unfolding_all refine' For_turns lF' ?_; k_whole))) | ((k_here; (with_reducible show wpAny _ _ (subscriptTail _ _ (Value.str _ _) (Value.int _ _)) _ _ _); (refine item_at (by omega) (by omega) (by omega) ?_); intro kxiE))) | (dsimp only; walk1) | fail "no step")
          (try dsimp only [ElsePost])
          repeat (first | (with_reducible first | (refine one_cut5 sg sd so ?_; intro tkC) | (refine cons_cut5 sg sd so ?_; intro tkC qC hC)) | (k_unfold; (try dsimp only)) | walk1 | (with_reducible first | refine CutQ.next (by assumption) ?_ | refine CutQ.ret (by assumption) ?_ | refine CutQ.brk (by assumption) ?_ | refine CutQ.cont (by assumption) ?_ | refine EndQ.ret (by assumption) ?_ | refine EndQ.next (by assumption) ?_) | ((refine Halt.out' ?_); first | (with_reducible ((show wpAny _ _ (call (Value.ref _) _) _ _ _); ( k_here; (rename Fr _ _ _ _ => cF); (rename News _ _ _ _ => cN); k_dflt ( refine Fn.use' (ifmt_fn _ _ _) (by k_asm) cF (by k_asm) cN (by k_asm) (by rfl) (by rfl) (by assumption) (by assumption) (by decide) trivial ?_); intro v' h' tk' F' N' K' P'; clear cF cN; (obtain ⟨t', e'⟩ := P'); subst e'))) | ((with_reducible show wpAny _ _ (assign (Expr.Tuple _ _ _) _ _) _ _ _); (k_here; k_dflt (refine' unpackN_ ?F ?N ?T ?k1 ?k2 ?k3 ?_; (case F => k_asm); (case N => k_asm); (case T => first | assumption | exact tup_K (by assumption) (by assumption) (by k_is)); (case k1 => exact rfl); (case k2 => exact rfl); (case k3 => exact rfl)); intro h' F' N')) | (with_reducible ((show @ite _ _ _ _ _); ((refine ite_both (fun hc => ?_) (fun hc => ?_)); (all_goals (try simp only [beq_iff_eq, decide_eq_true_eq, Bool.not_eq_true', bne_eq_false_iff_eq, bne_iff_ne, ne_eq] at hc)); (all_goals (try (exfalso; first | contradiction | k_dflt (first | omega))))))) | ((with_reducible show wpAny _ _ (exec (Stmt.For _ _ _ _ _) _) _ _ _); (k_here; (rename Fr _ _ _ _ => lF'); (with_unfolding_all refine' For_turns lF' ?_; k_whole))) | ((k_here; (with_reducible show wpAny _ _ (subscriptTail _ _ (Value.str _ _) (Value.int _ _)) _ _ _); (refine item_at (by omega) (by omega) (by omega) ?_); intro kxiE))) | (dsimp only; walk1) | fail "no step")
          (try dsimp only)
          (rename Fr _ _ _ _ => cF)
          exact fm_end hP9 cF N6 (fun p hp => hp) (by rw [← hR8.2, sgn]; exact (if_pos rfl).symm) rfl rfl
    · repeat (first | (with_reducible first | (refine one_cut5 sg sd so ?_; intro tkC) | (refine cons_cut5 sg sd so ?_; intro tkC qC hC)) | (k_unfold; (try dsimp only)) | walk1 | (with_reducible first | refine CutQ.next (by assumption) ?_ | refine CutQ.ret (by assumption) ?_ | refine CutQ.brk (by assumption) ?_ | refine CutQ.cont (by assumption) ?_ | refine EndQ.ret (by assumption) ?_ | refine EndQ.next (by assumption) ?_) | ((refine Halt.out' ?_); first | (with_reducible ((show wpAny _ _ (call (Value.ref _) _) _ _ _); ( k_here; (rename Fr _ _ _ _ => cF); (rename News _ _ _ _ => cN); k_dflt ( refine Fn.use' (ifmt_fn _ _ _) (by k_asm) cF (by k_asm) cN (by k_asm) (by rfl) (by rfl) (by assumption) (by assumption) (by decide) trivial ?_); intro v' h' tk' F' N' K' P'; clear cF cN; (obtain ⟨t', e'⟩ := P'); subst e'))) | ((with_reducible show wpAny _ _ (assign (Expr.Tuple _ _ _) _ _) _ _ _); (k_here; k_dflt (refine' unpackN_ ?F ?N ?T ?k1 ?k2 ?k3 ?_; (case F => k_asm); (case N => k_asm); (case T => first | assumption | exact tup_K (by assumption) (by assumption) (by k_is)); (case k1 => exact rfl); (case k2 => exact rfl); (case k3 => exact rfl)); intro h' F' N')) | (with_reducible ((show @ite _ _ _ _ _); ((refine ite_both (fun hc => ?_) (fun hc => ?_)); (all_goals (try simp only [beq_iff_eq, decide_eq_true_eq, Bool.not_eq_true', bne_eq_false_iff_eq, bne_iff_ne, ne_eq] at hc)); (all_goals (try (exfalso; first | contradiction | k_dflt (first | omega))))))) | ((with_reducible show wpAny _ _ (exec (Stmt.For _ _ _ _ _) _) _ _ _); (k_here; (rename Fr _ _ _ _ => lF'); (with_unfolding_all refine' For_turns lF' ?_; k_whole))) | ((k_here; (with_reducible show wpAny _ _ (subscriptTail _ _ (Value.str _ _) (Value.int _ _)) _ _ _); (refine item_at (by omega) (by omega) (by omega) ?_); intro kxiE))) | (dsimp only; walk1) | fail "no step")
      refine Halt.out' ?_
      (rename Fr _ _ _ _ => F3); (rename News _ _ _ _ => N3)
      refine' For_else_tup (h₀ := sh) (vs := l9.map fv) ?hh ?ht0 rfl ?hi ?hF ?hN ?rest
      case hF => exact F3
      case hN => exact N3
      case hh => rfl
      case hi =>
        intro Q8 hQ8
        repeat (first | (with_reducible first | (refine one_cut5 sg sd so ?_; intro tkC) | (refine cons_cut5 sg sd so ?_; intro tkC qC hC)) | (k_unfold; (try dsimp only)) | walk1 | (with_reducible first | refine CutQ.next (by assumption) ?_ | refine CutQ.ret (by assumption) ?_ | refine CutQ.brk (by assumption) ?_ | refine CutQ.cont (by assumption) ?_ | refine EndQ.ret (by assumption) ?_ | refine EndQ.next (by assumption) ?_) | ((refine Halt.out' ?_); first | (with_reducible ((show wpAny _ _ (call (Value.ref _) _) _ _ _); ( k_here; (rename Fr _ _ _ _ => cF); (rename News _ _ _ _ => cN); k_dflt ( refine Fn.use' (ifmt_fn _ _ _) (by k_asm) cF (by k_asm) cN (by k_asm) (by rfl) (by rfl) (by assumption) (by assumption) (by decide) trivial ?_); intro v' h' tk' F' N' K' P'; clear cF cN; (obtain ⟨t', e'⟩ := P'); subst e'))) | ((with_reducible show wpAny _ _ (assign (Expr.Tuple _ _ _) _ _) _ _ _); (k_here; k_dflt (refine' unpackN_ ?F ?N ?T ?k1 ?k2 ?k3 ?_; (case F => k_asm); (case N => k_asm); (case T => first | assumption | exact tup_K (by assumption) (by assumption) (by k_is)); (case k1 => exact rfl); (case k2 => exact rfl); (case k3 => exact rfl)); intro h' F' N')) | (with_reducible ((show @ite _ _ _ _ _); ((refine ite_both (fun hc => ?_) (fun hc => ?_)); (all_goals (try simp only [beq_iff_eq, decide_eq_true_eq, Bool.not_eq_true', bne_eq_false_iff_eq, bne_iff_ne, ne_eq] at hc)); (all_goals (try (exfalso; first | contradiction | k_dflt (first | omega))))))) | ((with_reducible show wpAny _ _ (exec (Stmt.For _ _ _ _ _) _) _ _ _); (k_here; (rename Fr _ _ _ _ => lF'); (with_unfolding_all refine' For_turns lF' ?_; k_whole))) | ((k_here; (with_reducible show wpAny _ _ (subscriptTail _ _ (Value.str _ _) (Value.int _ _)) _ _ _); (refine item_at (by omega) (by omega) (by omega) ?_); intro kxiE))) | (dsimp only; walk1) | fail "no step")
        exact hQ8
      case ht0 => exact tup_B X' hl9
      case rest =>
        refine ElseRest.ind (names := [(Str.ofString "perm", .ref perm), (Str.ofString "mode", .int m tm), (Str.ofString "index", .int ((i9 : Nat) : Int) tt9)]) (fmR w m i9) ?cons ?nil l9 _ hR9 ?k9
        case k9 =>
          refine List.forall_mem_cons.mpr ⟨rfl, List.forall_mem_cons.mpr ⟨rfl, List.forall_mem_cons.mpr ⟨rfl, List.forall_mem_nil _⟩⟩⟩
        case cons =>
          rintro ⟨a8, b8, tb8, c8, tc8⟩ r8 u8 h8 tk8 own8 hR8 F8 N8 off8
          simp only [List.cons_append, List.nil_append] at N8
          (try clear F3 N3)
          obtain ⟨n8, hl8⟩ := hR8.1 _ (.head _)
          have hT8 := tup_K X' F8 hl8
          clear hl8
          dsimp only at hT8
          repeat (first | (with_reducible first | (refine one_cut5 sg sd so ?_; intro tkC) | (refine cons_cut5 sg sd so ?_; intro tkC qC hC)) | (k_unfold; (try dsimp only)) | walk1 | (with_reducible first | refine CutQ.next (by assumption) ?_ | refine CutQ.ret (by assumption) ?_ | refine CutQ.brk (by assumption) ?_ | refine CutQ.cont (by assumption) ?_ | refine EndQ.ret (by assumption) ?_ | refine EndQ.next (by assumption) ?_) | ((refine Halt.out' ?_); first | (with_reducible ((show wpAny _ _ (call (Value.ref _) _) _ _ _); ( k_here; (rename Fr _ _ _ _ => cF); (rename News _ _ _ _ => cN); k_dflt ( refine Fn.use' (ifmt_fn _ _ _) (by k_asm) cF (by k_asm) cN (by k_asm) (by rfl) (by rfl) (by assumption) (by assumption) (by decide) trivial ?_); intro v' h' tk' F' N' K' P'; clear cF cN; (obtain ⟨t', e'⟩ := P'); subst e'))) | ((with_reducible show wpAny _ _ (assign (Expr.Tuple _ _ _) _ _) _ _ _); (k_here; k_dflt (refine' unpackN_ ?F ?N ?T ?k1 ?k2 ?k3 ?_; (case F => k_asm); (case N => k_asm); (case T => first | assumption | exact tup_K (by assumption) (by assumption) (by k_is)); (case k1 => exact rfl); (case k2 => exact rfl); (case k3 => exact rfl)); intro h' F' N')) | (with_reducible ((show @ite _ _ _ _ _); ((refine ite_both (fun hc => ?_) (fun hc => ?_)); (all_goals (try simp only [beq_iff_eq, decide_eq_true_eq, Bool.not_eq_true', bne_eq_false_iff_eq, bne_iff_ne, ne_eq] at hc)); (all_goals (try (exfalso; first | contradiction | k_dflt (first | omega))))))) | ((with_reducible show wpAny _ _ (exec (Stmt.For _ _ _ _ _) _) _ _ _); (k_here; (rename Fr _ _ _ _ => lF'); (with_unfolding_all refine' For_turns lF' ?_; k_whole))) | ((k_here; (with_reducible show wpAny _ _ (subscriptTail _ _ (Value.str _ _) (Value.int _ _)) _ _ _); (refine item_at (by omega) (by omega) (by omega) ?_); intro kxiE))) | (dsimp only; walk1) | fail "no step")
          ·
            refine Halt.out' ?_
            (rename Fr _ _ _ _ => cF); (rename News _ _ _ _ => cN)
            refine append_K cF cN (.head fun p hp => ?_) ?_ hsz9
            · rcases List.mem_append.mp hp with hp | hp
              · exact hoffp p hp
              · exact off8 p hp _ (.head _)
            intro h6 F6 N6
            clear cF cN
            repeat (first | (with_reducible first | (refine one_cut5 sg sd so ?_; intro tkC) | (refine cons_cut5 sg sd so ?_; intro tkC qC hC)) | (k_unfold; (try dsimp only)) | walk1 | (with_reducible first | refine CutQ.next (by assumption) ?_ | refine CutQ.ret (by assumption) ?_ | refine CutQ.brk (by assumption) ?_ | refine CutQ.cont (by assumption) ?_ | refine EndQ.ret (by assumption) ?_ | refine EndQ.next (by assumption) ?_) | ((refine Halt.out' ?_); first | (with_reducible ((show wpAny _ _ (call (Value.ref _) _) _ _ _); ( k_here; (rename Fr _ _ _ _ => cF); (rename News _ _ _ _ => cN); k_dflt ( refine Fn.use' (ifmt_fn _ _ _) (by k_asm) cF (by k_asm) cN (by k_asm) (by rfl) (by rfl) (by assumption) (by assumption) (by decide) trivial ?_); intro v' h' tk' F' N' K' P'; clear cF cN; (obtain ⟨t', e'⟩ := P'); subst e'))) | ((with_reducible show wpAny _ _ (assign (Expr.Tuple _ _ _) _ _) _ _ _); (k_here; k_dflt (refine' unpackN_ ?F ?N ?T ?k1 ?k2 ?k3 ?_; (case F => k_asm); (case N => k_asm); (case T => first | assumption | exact tup_K (by assumption) (by assumption) (by k_is)); (case k1 => exact rfl); (case k2 => exact rfl); (case k3 => exact rfl)); intro h' F' N')) | (with_reducible ((show @ite _ _ _ _ _); ((refine ite_both (fun hc => ?_) (fun hc => ?_)); (all_goals (try simp only [beq_iff_eq, decide_eq_true_eq, Bool.not_eq_true', bne_eq_false_iff_eq, bne_iff_ne, ne_eq] at hc)); (all_goals (try (exfalso; first | contradiction | k_dflt (first | omega))))))) | ((with_reducible show wpAny _ _ (exec (Stmt.For _ _ _ _ _) _) _ _ _); (k_here; (rename Fr _ _ _ _ => lF'); (with_unfolding_all refine' For_turns lF' ?_; k_whole))) | ((k_here; (with_reducible show wpAny _ _ (subscriptTail _ _ (Value.str _ _) (Value.int _ _)) _ _ _); (refine item_at (by omega) (by omega) (by omega) ?_); intro kxiE))) | (dsimp only; walk1) | fail "no step")
            (try dsimp only [ElsePost])
            repeat (first | (with_reducible first | (refine one_cut5 sg sd so ?_; intro tkC) | (refine cons_cut5 sg sd so ?_; intro tkC qC hC)) | (k_unfold; (try dsimp only)) | walk1 | (with_reducible first | refine CutQ.next (by assumption) ?_ | refine CutQ.ret (by assumption) ?_ | refine CutQ.brk (by assumption) ?_ | refine CutQ.cont (by assumption) ?_ | refine EndQ.ret (by assumption) ?_ | refine EndQ.next (by assumption) ?_) | ((refine Halt.out' ?_); first | (with_reducible ((show wpAny _ _ (call (Value.ref _) _) _ _ _); ( k_here; (rename Fr _ _ _ _ => cF); (rename News _ _ _ _ => cN); k_dflt ( refine Fn.use' (ifmt_fn _ _ _) (by k_asm) cF (by k_asm) cN (by k_asm) (by rfl) (by rfl) (by assumption) (by assumption) (by decide) trivial ?_); intro v' h' tk' F' N' K' P'; clear cF cN; (obtain ⟨t', e'⟩ := P'); subst e'))) | ((with_reducible show wpAny _ _ (assign (Expr.Tuple _ _ _) _ _) _ _ _); (k_here; k_dflt (refine' unpackN_ ?F ?N ?T ?k1 ?k2 ?k3 ?_; (case F => k_asm); (case N => k_asm); (case T => first | assumption | exact tup_K (by assumption) (by assumption) (by k_is)); (case k1 => exact rfl); (case k2 => exact rfl); (case k3 => exact rfl)); intro h' F' N')) | (with_reducible ((show @ite _ _ _ _ _); ((refine ite_both (fun hc => ?_) (fun hc => ?_)); (all_goals (try simp only [beq_iff_eq, decide_eq_true_eq, Bool.not_eq_true', bne_eq_false_iff_eq, bne_iff_ne, ne_eq] at hc)); (all_goals (try (exfalso; first | contradiction | k_dflt (first | omega))))))) | ((with_reducible show wpAny _ _ (exec (Stmt.For _ _ _ _ _) _) _ _ _); (k_here; (rename Fr _ _ _ _ => lF'); (with_unfolding_all refine' For_turns lF' ?_; k_whole))) | ((k_here; (with_reducible show wpAny _ _ (subscriptTail _ _ (Value.str _ _) (Value.int _ _)) _ _ _); (refine item_at (by omega) (by omega) (by omega) ?_); intro kxiE))) | (dsimp only; walk1) | fail "no step")
            (try dsimp only)
            (rename Fr _ _ _ _ => cF)
            exact fm_end hP9 cF N6 (fun p hp => mem_left hp) (fmR.hd hR8 (by rw [if_neg (Nat.ne_of_gt hpos)]; assumption)) rfl rfl
          repeat (first | (with_reducible first | (refine one_cut5 sg sd so ?_; intro tkC) | (refine cons_cut5 sg sd so ?_; intro tkC qC hC)) | (k_unfold; (try dsimp only)) | walk1 | (with_reducible first | refine CutQ.next (by assumption) ?_ | refine CutQ.ret (by assumption) ?_ | refine CutQ.brk (by assumption) ?_ | refine CutQ.cont (by assumption) ?_ | refine EndQ.ret (by assumption) ?_ | refine EndQ.next (by assumption) ?_) | ((refine Halt.out' ?_); first | (with_reducible ((show wpAny _ _ (call (Value.ref _) _) _ _ _); ( k_here; (rename Fr _ _ _ _ => cF); (rename News _ _ _ _ => cN); k_dflt ( refine Fn.use' (ifmt_fn _ _ _) (by k_asm) cF (by k_asm) cN (by k_asm) (by rfl) (by rfl) (by assumption) (by assumption) (by decide) trivial ?_); intro v' h' tk' F' N' K' P'; clear cF cN; (obtain ⟨t', e'⟩ := P'); subst e'))) | ((with_reducible show wpAny _ _ (assign (Expr.Tuple _ _ _) _ _) _ _ _); (k_here; k_dflt (refine' unpackN_ ?F ?N ?T ?k1 ?k2 ?k3 ?_; (case F => k_asm); (case N => k_asm); (case T => first | assumption | exact tup_K (by assumption) (by assumption) (by k_is)); (case k1 => exact rfl); (case k2 => exact rfl); (case k3 => exact rfl)); intro h' F' N')) | (with_reducible ((show @ite _ _ _ _ _); ((refine ite_both (fun hc => ?_) (fun hc => ?_)); (all_goals (try simp only [beq_iff_eq, decide_eq_true_eq, Bool.not_eq_true', bne_eq_false_iff_eq, bne_iff_ne, ne_eq] at hc)); (all_goals (try (exfalso; first | contradiction | k_dflt (first | omega))))))) | ((with_reducible show wpAny _ _ (exec (Stmt.For _ _ _ _ _) _) _ _ _); (k_here; (rename Fr _ _ _ _ => lF'); (with_unfolding_all refine' For_turns lF' ?_; k_whole))) | ((k_here; (with_reducible show wpAny _ _ (subscriptTail _ _ (Value.str _ _) (Value.int _ _)) _ _ _); (refine item_at (by omega) (by omega) (by omega) ?_); intro kxiE))) | (dsimp only; walk1) | fail "no step")
          (try dsimp only [ElsePost])
          refine GoOn.mk ⟨_, _, _, rfl, by assumption, by assumption, ?_, fmR.tl hR8 (by rw [if_neg (Nat.ne_of_gt hpos)]; assumption)⟩
          refine List.forall_mem_cons.mpr ⟨rfl, List.forall_mem_cons.mpr ⟨rfl, List.forall_mem_cons.mpr ⟨rfl, List.forall_mem_nil _⟩⟩⟩
        case nil =>
          intro u8 h8 tk8 hR8 F8 N8
          (try clear F3 N3)
          repeat (first | (with_reducible first | (refine one_cut5 sg sd so ?_; intro tkC) | (refine cons_cut5 sg sd so ?_; intro tkC qC hC)) | (k_unfold; (try dsimp only)) | walk1 | (with_reducible first | refine CutQ.next (by assumption) ?_ | refine CutQ.ret (by assumption) ?_ | refine CutQ.brk (by assumption) ?_ | refine CutQ.cont (by assumption) ?_ | refine EndQ.ret (by assumption) ?_ | refine EndQ.next (by assumption) ?_) | ((refine Halt.out' ?_); first | (with_reducible ((show wpAny _ _ (call (Value.ref _) _) _ _ _); ( k_here; (rename Fr _ _ _ _ => cF); (rename News _ _ _ _ => cN); k_dflt ( refine Fn.use' (ifmt_fn _ _ _) (by k_asm) cF (by k_asm) cN (by k_asm) (by rfl) (by rfl) (by assumption) (by assumption) (by decide) trivial ?_); intro v' h' tk' F' N' K' P'; clear cF cN; (obtain ⟨t', e'⟩ := P'); subst e'))) | ((with_reducible show wpAny _ _ (assign (Expr.Tuple _ _ _) _ _) _ _ _); (k_here; k_dflt (refine' unpackN_ ?F ?N ?T ?k1 ?k2 ?k3 ?_; (case F => k_asm); (case N => k_asm); (case T => first | assumption | exact tup_K (by assumption) (by assumption) (by k_is)); (case k1 => exact rfl); (case k2 => exact rfl); (case k3 => exact rfl)); intro h' F' N')) | (with_reducible ((show @ite _ _ _ _ _); ((refine ite_both (fun hc => ?_) (fun hc => ?_)); (all_goals (try simp only [beq_iff_eq, decide_eq_true_eq, Bool.not_eq_true', bne_eq_false_iff_eq, bne_iff_ne, ne_eq] at hc)); (all_goals (try (exfalso; first | contradiction | k_dflt (first | omega))))))) | ((with_reducible show wpAny _ _ (exec (Stmt.For _ _ _ _ _) _) _ _ _); (k_here; (rename Fr _ _ _ _ => lF'); (with_unfolding_all refine' For_turns lF' ?_; k_whole))) | ((k_here; (with_reducible show wpAny _ _ (subscriptTail _ _ (Value.str _ _) (Value.int _ _)) _ _ _); (refine item_at (by omega) (by omega) (by omega) ?_); intro kxiE))) | (dsimp only; walk1) | fail "no step")
          refine Halt.out' ?_
          (rename Fr _ _ _ _ => cF); (rename News _ _ _ _ => cN)
          refine append_K cF cN (.head fun p hp => ?_) ?_ hsz9
          · exact hoffp p hp
          intro h6 F6 N6
          clear cF cN
          repeat (first | (with_reducible first | (refine one_cut5 sg sd so ?_; intro tkC) | (refine cons_cut5 sg sd so ?_; intro tkC qC hC)) | (k_unfold; (try dsimp only)) | walk1 | (with_reducible first | refine CutQ.next (by assumption) ?_ | refine CutQ.ret (by assumption) ?_ | refine CutQ.brk (by assumption) ?_ | refine CutQ.cont (by assumption) ?_ | refine EndQ.ret (by assumption) ?_ | refine EndQ.next (by assumption) ?_) | ((refine Halt.out' ?_); first | (with_reducible ((show wpAny _ _ (call (Value.ref _) _) _ _ _); ( k_here; (rename Fr _ _ _ _ => cF); (rename News _ _ _ _ => cN); k_dflt ( refine Fn.use' (ifmt_fn _ _ _) (by k_asm) cF (by k_asm) cN (by k_asm) (by rfl) (by rfl) (by assumption) (by assumption) (by decide) trivial ?_); intro v' h' tk' F' N' K' P'; clear cF cN; (obtain ⟨t', e'⟩ := P'); subst e'))) | ((with_reducible show wpAny _ _ (assign (Expr.Tuple _ _ _) _ _) _ _ _); (k_here; k_dflt (refine' unpackN_ ?F ?N ?T ?k1 ?k2 ?k3 ?_; (case F => k_asm); (case N => k_asm); (case T => first | assumption | exact tup_K (by assumption) (by assumption) (by k_is)); (case k1 => exact rfl); (case k2 => exact rfl); (case k3 => exact rfl)); intro h' F' N')) | (with_reducible ((show @ite _ _ _ _ _); ((refine ite_both (fun hc => ?_) (fun hc => ?_)); (all_goals (try simp only [beq_iff_eq, decide_eq_true_eq, Bool.not_eq_true', bne_eq_false_iff_eq, bne_iff_ne, ne_eq] at hc)); (all_goals (try (exfalso; first | contradiction | k_dflt (first | omega))))))) | ((with_reducible show wpAny _ _ (exec (Stmt.For _ _ _ _ _) _) _ _ _); (k_here; (rename Fr _ _ _ _ => lF'); (with_unfolding_all refine' For_turns lF' ?_; k_whole))) | ((k_here; (with_reducible show wpAny _ _ (subscriptTail _ _ (Value.str _ _) (Value.int _ _)) _ _ _); (refine item_at (by omega) (by omega) (by omega) ?_); intro kxiE))) | (dsimp only; walk1) | fail "no step")
          (try dsimp only [ElsePost])
          repeat (first | (with_reducible first | (refine one_cut5 sg sd so ?_; intro tkC) | (refine cons_cut5 sg sd so ?_; intro tkC qC hC)) | (k_unfold; (try dsimp only)) | walk1 | (with_reducible first | refine CutQ.next (by assumption) ?_ | refine CutQ.ret (by assumption) ?_ | refine CutQ.brk (by assumption) ?_ | refine CutQ.cont (by assumption) ?_ | refine EndQ.ret (by assumption) ?_ | refine EndQ.next (by assumption) ?_) | ((refine Halt.out' ?_); first | (with_reducible ((show wpAny _ _ (call (Value.ref _) _) _ _ _); ( k_here; (rename Fr _ _ _ _ => cF); (rename News _ _ _ _ => cN); k_dflt ( refine Fn.use' (ifmt_fn _ _ _) (by k_asm) cF (by k_asm) cN (by k_asm) (by rfl) (by rfl) (by assumption) (by assumption) (by decide) trivial ?_); intro v' h' tk' F' N' K' P'; clear cF cN; (obtain ⟨t', e'⟩ := P'); subst e'))) | ((with_reducible show wpAny _ _ (assign (Expr.Tuple _ _ _) _ _) _ _ _); (k_here; k_dflt (refine' unpackN_ ?F ?N ?T ?k1 ?k2 ?k3 ?_; (case F => k_asm); (case N => k_asm); (case T => first | assumption | exact tup_K (by assumption) (by assumption) (by k_is)); (case k1 => exact rfl); (case k2 => exact rfl); (case k3 => exact rfl)); intro h' F' N')) | (with_reducible ((show @ite _ _ _ _ _); ((refine ite_both (fun hc => ?_) (fun hc => ?_)); (all_goals (try simp only [beq_iff_eq, decide_eq_true_eq, Bool.not_eq_true', bne_eq_false_iff_eq, bne_iff_ne, ne_eq] at hc)); (all_goals (try (exfalso; first | contradiction | k_dflt (first | omega))))))) | ((with_reducible show wpAny _ _ (exec (Stmt.For _ _ _ _ _) _) _ _ _); (k_here; (rename Fr _ _ _ _ => lF'); (with_unfolding_all refine' For_turns lF' ?_; k_whole))) | ((k_here; (with_reducible show wpAny _ _ (subscriptTail _ _ (Value.str _ _) (Value.int _ _)) _ _ _); (refine item_at (by omega) (by omega) (by omega) ?_); intro kxiE))) | (dsimp only; walk1) | fail "no step")
          (try dsimp only)
          (rename Fr _ _ _ _ => cF)
          exact fm_end hP9 cF N6 (fun p hp => hp) (by rw [← hR8.2, sgn]; exact (if_neg (Nat.ne_of_gt hpos)).symm) rfl rfl
  case done =>
    intro vs9 u9 h9 tk9 hP9 F9 N9
    clear F2 N2
    repeat (first | (with_reducible first | (refine one_cut5 sg sd so ?_; intro tkC) | (refine cons_cut5 sg sd so ?_; intro tkC qC hC)) | (k_unfold; (try dsimp only)) | walk1 | (with_reducible first | refine CutQ.next (by assumption) ?_ | refine CutQ.ret (by assumption) ?_ | refine CutQ.brk (by assumption) ?_ | refine CutQ.cont (by assumption) ?_ | refine EndQ.ret (by assumption) ?_ | refine EndQ.next (by assumption) ?_) | ((refine Halt.out' ?_); first | (with_reducible ((show wpAny _ _ (call (Value.ref _) _) _ _ _); ( k_here; (rename Fr _ _ _ _ => cF); (rename News _ _ _ _ => cN); k_dflt ( refine Fn.use' (ifmt_fn _ _ _) (by k_asm) cF (by k_asm) cN (by k_asm) (by rfl) (by rfl) (by assumption) (by assumption) (by decide) trivial ?_); intro v' h' tk' F' N' K' P'; clear cF cN; (obtain ⟨t', e'⟩ := P'); subst e'))) | ((with_reducible show wpAny _ _ (assign (Expr.Tuple _ _ _) _ _) _ _ _); (k_here; k_dflt (refine' unpackN_ ?F ?N ?T ?k1 ?k2 ?k3 ?_; (case F => k_asm); (case N => k_asm); (case T => first | assumption | exact tup_K (by assumption) (by assumption) (by k_is)); (case k1 => exact rfl); (case k2 => exact rfl); (case k3 => exact rfl)); intro h' F' N')) | (with_reducible ((show @ite _ _ _ _ _); ((refine ite_both (fun hc => ?_) (fun hc => ?_)); (all_goals (try simp only [beq_iff_eq, decide_eq_true_eq, Bool.not_eq_true', bne_eq_false_iff_eq, bne_iff_ne, ne_eq] at hc)); (all_goals (try (exfalso; first | contradiction | k_dflt (first | omega))))))) | ((with_reducible show wpAny _ _ (exec (Stmt.For _ _ _ _ _) _) _ _ _); (k_here; (rename Fr _ _ _ _ => lF'); (with_unfolding_all refine' For_turns lF' ?_; k_whole))) | ((k_here; (with_reducible show wpAny _ _ (subscriptTail _ _ (Value.str _ _) (Value.int _ _)) _ _ _); (refine item_at (by omega) (by omega) (by omega) ?_); intro kxiE))) | (dsimp only; walk1) | fail "no step")
    refine Halt.out' ?_
    refine join_signs (l := (List.range 10).map (signAt m)) (News.isList N9 (.head _)) hP9.2 (by rw [List.length_map, List.length_range]; decide) ?_
    intro t8 k8
    repeat (first | (with_reducible first | (refine one_cut5 sg sd so ?_; intro tkC) | (refine cons_cut5 sg sd so ?_; intro tkC qC hC)) | (k_unfold; (try dsimp only)) | walk1 | (with_reducible first | refine CutQ.next (by assumption) ?_ | refine CutQ.ret (by assumption) ?_ | refine CutQ.brk (by assumption) ?_ | refine CutQ.cont (by assumption) ?_ | refine EndQ.ret (by assumption) ?_ | refine EndQ.next (by assumption) ?_) | ((refine Halt.out' ?_); first | (with_reducible ((show wpAny _ _ (call (Value.ref _) _) _ _ _); ( k_here; (rename Fr _ _ _ _ => cF); (rename News _ _ _ _ => cN); k_dflt ( refine Fn.use' (ifmt_fn _ _ _) (by k_asm) cF (by k_asm) cN (by k_asm) (by rfl) (by rfl) (by assumption) (by assumption) (by decide) trivial ?_); intro v' h' tk' F' N' K' P'; clear cF cN; (obtain ⟨t', e'⟩ := P'); subst e'))) | ((with_reducible show wpAny _ _ (assign (Expr.Tuple _ _ _) _ _) _ _ _); (k_here; k_dflt (refine' unpackN_ ?F ?N ?T ?k1 ?k2 ?k3 ?_; (case F => k_asm); (case N => k_asm); (case T => first | assumption | exact tup_K (by assumption) (by assumption) (by k_is)); (case k1 => exact rfl); (case k2 => exact rfl); (case k3 => exact rfl)); intro h' F' N')) | (with_reducible ((show @ite _ _ _ _ _); ((refine ite_both (fun hc => ?_) (fun hc => ?_)); (all_goals (try simp only [beq_iff_eq, decide_eq_true_eq, Bool.not_eq_true', bne_eq_false_iff_eq, bne_iff_ne, ne_eq] at hc)); (all_goals (try (exfalso; first | contradiction | k_dflt (first | omega))))))) | ((with_reducible show wpAny _ _ (exec (Stmt.For _ _ _ _ _) _) _ _ _); (k_here; (rename Fr _ _ _ _ => lF'); (with_unfolding_all refine' For_turns lF' ?_; k_whole))) | ((k_here; (with_reducible show wpAny _ _ (subscriptTail _ _ (Value.str _ _) (Value.int _ _)) _ _ _); (refine item_at (by omega) (by omega) (by omega) ?_); intro kxiE))) | (dsimp only; walk1) | fail "no step")
    (try dsimp only)
    exact hret _ _ _ (fun b o e => Fr.keep (by assumption) b o e) ⟨_, rfl⟩
end
end Mine
end
theorem Mine.rs_PlainA : True ∧ True := by
  (try (walk1; fail))
  exact ⟨trivial, trivial⟩
section
open PySem PySem.W PyProof.Rows
set_option maxRecDepth 100000
namespace Mine
noncomputable def loB : Nat → Nat
  | 1 => 8 | 2 => 7 | 3 => 6 | 4 => 5 | 5 => 4 | 6 => 3 | 7 => 2 | 8 => 1 | _ => 0
noncomputable def hiB : Nat → Option Nat
  | 3 => some 11 | 6 => some 10 | 9 => some 9 | _ => none
noncomputable def hiBit (m p : Nat) : Bool := match hiB p with | some i => m.testBit i | none => false
noncomputable def codeOf (m p : Nat) : Nat := (m.testBit (loB p)).toNat + 2 * (hiBit m p).toNat
noncomputable def scN : Nat → List Nat
  | 3 => [45, 120, 83, 115] | 6 => [45, 120, 83, 115] | 9 => [45, 120, 84, 116] | 1 => [45, 114] | 4 => [45, 114] | 7 => [45, 114] | _ => [45, 119]
noncomputable def sgn0 (k : Nat) : Nat := if k = 10 then 108 else if k = 12 then 115 else if k = 8 then 45 else if k = 6 then 98 else if k = 4 then 100 else if k = 2 then 99 else if k = 1 then 112 else 63
theorem and_eq {m k : Nat} : (Builtin.bitAnd (m : Int) (k : Int) = (k : Int)) ↔ (m &&& k = k) := by rw [and_nat]; omega
theorem m1 (m i : Nat) {k : Int} (e : k = ((2 ^ i : Nat) : Int)) : (Builtin.bitAnd (m : Int) k = k) ↔ m.testBit i = true := by
  subst e
  rw [and_eq, mask1 m i rfl]
theorem m2 (m i j : Nat) {k : Int} (e : k = ((2 ^ i ||| 2 ^ j : Nat) : Int)) (hi : ∀ p q : Bool, ((if p = true then 2 ^ i else 0) ||| (if q = true then 2 ^ j else 0) = (2 ^ i ||| 2 ^ j)) ↔ (p = true ∧ q = true)) : (Builtin.bitAnd (m : Int) k = k) ↔ (m.testBit i = true ∧ m.testBit j = true) := by
  subst e
  rw [and_eq, mask2 m i j rfl hi]
theorem nine : ∀ p, p < 10 → 1 ≤ p → p = 1 ∨ p = 2 ∨ p = 3 ∨ p = 4 ∨ p = 5 ∨ p = 6 ∨ p = 7 ∨ p = 8 ∨ p = 9 := by decide +kernel
theorem twelve : ∀ i, i < 12 → i = 0 ∨ i = 1 ∨ i = 2 ∨ i = 3 ∨ i = 4 ∨ i = 5 ∨ i = 6 ∨ i = 7 ∨ i = 8 ∨ i = 9 ∨ i = 10 ∨ i = 11 := by decide +kernel
noncomputable def kindOf (x : Int) : Nat := if x = 40960 then 108 else if x = 49152 then 115 else if x = 32768 then 45 else if x = 24576 then 98 else if x = 16384 then 100 else if x = 8192 then 99 else if x = 4096 then 112 else 63
theorem kind_sgn : ∀ k, k < 16 → kindOf ((4096 * k : Nat) : Int) = sgn0 k := by decide +kernel
theorem sign_zero (m : Nat) (h : m < 65536) : signAt (m : Int) 0 = sgn0 (m / 4096) := by
  have e : Builtin.bitAnd (m : Int) 61440 = ((4096 * (m / 4096) : Nat) : Int) := by
    rw [show (61440 : Int) = ((61440 : Nat) : Int) by rfl, and_nat, kind_and m h]
  show kindOf (Builtin.bitAnd (m : Int) 61440) = _
  rw [e]
  exact kind_sgn _ (Nat.div_lt_of_lt_mul h)
theorem sign_code (m p : Nat) (h1 : 1 ≤ p) (h2 : p ≤ 9) : signAt (m : Int) p = (scN p).getD (codeOf m p) 0 := by
  have := nine p (Nat.lt_succ_of_le h2) h1
  rcases this with h | h | h | h | h | h | h | h | h <;> subst h <;> unfold signAt codeOf hiBit <;> simp only [loB, hiB, scN]
  · simp only [show (Builtin.bitAnd (m : Int) 256 = 256) = (m.testBit 8 = true) from propext (m1 m 8 (by decide))]
    cases m.testBit 8 <;> rfl
  · simp only [show (Builtin.bitAnd (m : Int) 128 = 128) = (m.testBit 7 = true) from propext (m1 m 7 (by decide))]
    cases m.testBit 7 <;> rfl
  · simp only [show (Builtin.bitAnd (m : Int) 2112 = 2112) = (m.testBit 6 = true ∧ m.testBit 11 = true) from propext (m2 m 6 11 (by decide) (by decide)),
      show (Builtin.bitAnd (m : Int) 2048 = 2048) = (m.testBit 11 = true) from propext (m1 m 11 (by decide)), show (Builtin.bitAnd (m : Int) 64 = 64) = (m.testBit 6 = true) from propext (m1 m 6 (by decide))]
    cases m.testBit 6 <;> cases m.testBit 11 <;> rfl
  · simp only [show (Builtin.bitAnd (m : Int) 32 = 32) = (m.testBit 5 = true) from propext (m1 m 5 (by decide))]
    cases m.testBit 5 <;> rfl
  · simp only [show (Builtin.bitAnd (m : Int) 16 = 16) = (m.testBit 4 = true) from propext (m1 m 4 (by decide))]
    cases m.testBit 4 <;> rfl
  · simp only [show (Builtin.bitAnd (m : Int) 1032 = 1032) = (m.testBit 3 = true ∧ m.testBit 10 = true) from propext (m2 m 3 10 (by decide) (by decide)),
      show (Builtin.bitAnd (m : Int) 1024 = 1024) = (m.testBit 10 = true) from propext (m1 m 10 (by decide)), show (Builtin.bitAnd (m : Int) 8 = 8) = (m.testBit 3 = true) from propext (m1 m 3 (by decide))]
    cases m.testBit 3 <;> cases m.testBit 10 <;> rfl
  · simp only [show (Builtin.bitAnd (m : Int) 4 = 4) = (m.testBit 2 = true) from propext (m1 m 2 (by decide))]
    cases m.testBit 2 <;> rfl
  · simp only [show (Builtin.bitAnd (m : Int) 2 = 2) = (m.testBit 1 = true) from propext (m1 m 1 (by decide))]
    cases m.testBit 1 <;> rfl
  · simp only [show (Builtin.bitAnd (m : Int) 513 = 513) = (m.testBit 0 = true ∧ m.testBit 9 = true) from propext (m2 m 0 9 (by decide) (by decide)),
      show (Builtin.bitAnd (m : Int) 512 = 512) = (m.testBit 9 = true) from propext (m1 m 9 (by decide)), show (Builtin.bitAnd (m : Int) 1 = 1) = (m.testBit 0 = true) from propext (m1 m 0 (by decide))]
    cases m.testBit 0 <;> cases m.testBit 9 <;> rfl
theorem two_bits (p q : Bool) : p.toNat + 2 * q.toNat < 4 := by revert p q; decide
theorem code_lt (m p : Nat) : codeOf m p < (scN p).length := by
  unfold codeOf
  by_cases h3 : p = 3 ∨ p = 6 ∨ p = 9
  · have e2 : (scN p).length = 4 := by rcases h3 with h | h | h <;> subst h <;> rfl
    rw [e2]; exact two_bits _ _
  · have e : hiBit m p = false := by
      unfold hiBit hiB
      split <;> simp_all
    have e2 : 2 ≤ (scN p).length := by unfold scN; split <;> simp
    rw [e]
    cases m.testBit (loB p) <;> simp <;> omega
noncomputable def bitsOk (i j c : Nat) : Bool := (c % 2 == i % 2 || c % 2 == j % 2) && (c / 2 == i / 2 || c / 2 == j / 2)
theorem bitsOk_iff (a b x p : Nat) : bitsOk (codeOf a p) (codeOf b p) (codeOf x p) = true ↔
    ((x.testBit (loB p) = a.testBit (loB p) ∨ x.testBit (loB p) = b.testBit (loB p)) ∧ (hiBit x p = hiBit a p ∨ hiBit x p = hiBit b p)) := by
  unfold bitsOk codeOf
  generalize hiBit x p = xh
  generalize hiBit a p = ah
  generalize hiBit b p = bh
  generalize x.testBit (loB p) = xl
  generalize a.testBit (loB p) = al
  generalize b.testBit (loB p) = bl
  revert xh ah bh xl al bl
  decide
theorem places {P : Nat → Prop} : (∀ i, i < 16 → P i) ↔ ((∀ i, 12 ≤ i → i < 16 → P i) ∧ ∀ p, 1 ≤ p → p ≤ 9 → (P (loB p) ∧ ∀ i, hiB p = some i → P i)) := by
  constructor
  · intro h
    refine ⟨fun i _ h2 => h i h2, fun p h1 h2 => ?_⟩
    have := nine p (Nat.lt_succ_of_le h2) h1
    rcases this with e | e | e | e | e | e | e | e | e <;> subst e <;> exact ⟨h _ (by decide), fun i hi => by cases hi <;> exact h _ (by decide)⟩
  · rintro ⟨h1, h2⟩ i hi
    rcases Nat.lt_or_ge i 12 with e | e
    case inr => exact h1 i e hi
    rcases twelve i e with e | e | e | e | e | e | e | e | e | e | e | e
    · rw [e]; exact (h2 9 (by decide) (by decide)).1
    · rw [e]; exact (h2 8 (by decide) (by decide)).1
    · rw [e]; exact (h2 7 (by decide) (by decide)).1
    · rw [e]; exact (h2 6 (by decide) (by decide)).1
    · rw [e]; exact (h2 5 (by decide) (by decide)).1
    · rw [e]; exact (h2 4 (by decide) (by decide)).1
    · rw [e]; exact (h2 3 (by decide) (by decide)).1
    · rw [e]; exact (h2 2 (by decide) (by decide)).1
    · rw [e]; exact (h2 1 (by decide) (by decide)).1
    · rw [e]; exact (h2 9 (by decide) (by decide)).2 _ rfl
    · rw [e]; exact (h2 6 (by decide) (by decide)).2 _ rfl
    · rw [e]; exact (h2 3 (by decide) (by decide)).2 _ rfl
theorem due_places {a b x : Nat} (ha : a < 65536) (hb : b < 65536) (hx : x < 65536) (hk : a / 4096 = b / 4096) :
    ((a ^^^ x) &&& (x ^^^ b) = 0) ↔ (x / 4096 = a / 4096 ∧ ∀ p, 1 ≤ p → p ≤ 9 → bitsOk (codeOf a p) (codeOf b p) (codeOf x p) = true) := by
  rw [due_bits ha hb hx, places, kind_bits ha hx]
  refine and_congr ?_ ?_
  · have e := (kind_bits hb ha).mp hk
    constructor
    · intro h i h1 h2
      have := e i h1 h2
      rcases h i h1 h2 with q | q
      · exact q
      · rw [q, this]
    · intro h i h1 h2
      exact .inl (h i h1 h2)
  · refine forall_congr' fun p => forall_congr' fun h1 => forall_congr' fun h2 => ?_
    rw [bitsOk_iff]
    refine and_congr Iff.rfl ?_
    unfold hiBit
    cases hiB p with
    | none => simp
    | some i => simp
end Mine
end
theorem Mine.rs_PlainB : True ∧ True := by
  (try (walk1; fail))
  exact ⟨trivial, trivial⟩
section
open PySem PySem.W PyProof.Rows
set_option maxRecDepth 100000
namespace Mine
noncomputable def keptL (sc : List Nat) (i j : Nat) : List Nat := ((List.range sc.length).filter (bitsOk i j)).map fun k => sc.getD k 0
noncomputable def pieceN (sc : List Nat) (i j b : Nat) : List Nat :=
  if (keptL sc i j).length = 1 then keptL sc i j
  else if b = 0 then 91 :: ((keptL sc i j).drop 1 ++ (keptL sc i j).take 1) ++ [93]
  else if (sc.filter fun c => !(keptL sc i j).contains c) = [] then [63]
  else 91 :: 33 :: ((sc.filter fun c => !(keptL sc i j).contains c).drop 1 ++ (sc.filter fun c => !(keptL sc i j).contains c).take 1) ++ [93]
noncomputable def inner (p : List Nat) : List Nat := (p.drop 1).dropLast
noncomputable def outN (p : List Nat) : List Nat := if p = [45] then [92, 45] else if p = [63] then [46] else if p.length = 1 then p else (brks.lookup (inner p)).getD []
noncomputable def setN (o : List Nat) : Bool × List Nat :=
  if o = [46] then (true, []) else if o.length = 1 then (false, o) else if o[0]? = some 92 then (false, o.drop 1)
  else if o[1]? = some 94 then (true, (scan (o.drop 2) []).getD []) else (false, (scan (o.drop 1) []).getD [])
noncomputable def plainB (c : Nat) : Bool := c == 83 || c == 84 || (decide (97 ≤ c) && decide (c ≤ 122))
noncomputable def trB (p o : List Nat) : Bool := (p == [45] && o == [92, 45]) || (p == [63] && o == [46]) || (p.length == 1 && o == p && p.all plainB) || (p == 91 :: inner p ++ [93] && brks.contains (inner p, o))
theorem trB_tr {p o : List Nat} (h : trB p o = true) : Tr p ⟨o.toArray⟩ := by
  unfold trB at h
  rcases (Bool.or_eq_true _ _).mp h with h | h
  · rcases (Bool.or_eq_true _ _).mp h with h | h
    · rcases (Bool.or_eq_true _ _).mp h with h | h
      · have e := (Bool.and_eq_true _ _).mp h
        rw [eq_of_beq e.1, eq_of_beq e.2, show (⟨[92, 45].toArray⟩ : Str) = Str.ofString "\\-" by decide +kernel]
        exact .dash
      · have e := (Bool.and_eq_true _ _).mp h
        rw [eq_of_beq e.1, eq_of_beq e.2, show (⟨[46].toArray⟩ : Str) = Str.ofString "." by decide +kernel]
        exact .any
    · have e := (Bool.and_eq_true _ _).mp h
      have e2 := (Bool.and_eq_true _ _).mp e.1
      rw [eq_of_beq e2.2]
      match p, eq_of_beq e2.1, e.2 with
      | [c], _, hc =>
        refine .plain c ?_
        unfold Plain
        simp [plainB] at hc
        omega
  · have e := (Bool.and_eq_true _ _).mp h
    have e3 : (inner p, o) ∈ brks := by simpa using e.2
    have := Tr.brk (inner p) o e3
    rw [← eq_of_beq e.1] at this
    exact this
noncomputable def rdB (o : List Nat) (d : Bool × List Nat) : Bool :=
  match o with
  | [] => false
  | [c] => (c != 91 && c != 46 && c != 92 && d == (false, [c])) || (c == 46 && d == (true, []))
  | c :: e :: r => (c == 92 && r == [] && d == (false, [e])) || (c == 91 && d.1 == (e == 94) && (if e == 94 then scan r [] == some d.2 else scan (e :: r) [] == some d.2) && decide (r.length ≤ 100))
theorem rdB_rd {o : List Nat} {d : Bool × List Nat} (h : rdB o d = true) : Rd o d := by
  unfold rdB at h
  match o, h with
  | [c], h =>
    simp only [Bool.or_eq_true, Bool.and_eq_true, bne_iff_ne, ne_eq, beq_iff_eq] at h
    rcases h with ⟨⟨⟨h1, h2⟩, h3⟩, rfl⟩ | ⟨rfl, rfl⟩
    · exact .plain c h1 h2 h3
    · exact .dot
  | c :: e :: r, h =>
    simp only [Bool.or_eq_true, Bool.and_eq_true, beq_iff_eq, decide_eq_true_eq] at h
    rcases h with ⟨⟨rfl, rfl⟩, rfl⟩ | ⟨⟨⟨rfl, h1⟩, h2⟩, h3⟩
    · exact .esc e
    · obtain ⟨d1, held⟩ := d
      dsimp only at h1 h2
      rw [h1]
      refine .brk e r held (fun q => ?_) (fun q => ?_) h3
      · have q' : e = 94 := by simpa using q
        rw [if_pos q'] at h2
        simpa using h2
      · have q' : ¬ e = 94 := by simpa using q
        rw [if_neg q'] at h2
        simpa using h2
noncomputable def hit (d : Bool × List Nat) (c : Nat) : Bool := ((!(Builtin.Str.occurrences ⟨d.2.toArray⟩ ⟨#[c]⟩ 0 (⟨d.2.toArray⟩ : Str).length 1).isEmpty) == d.1) == false
noncomputable def strN (l : List Nat) : Str := ⟨l.toArray⟩
noncomputable def goodAt (sc : List Nat) (i j b : Nat) : Bool :=
  decide (pieceOf (strN sc) (btwAt (strN sc) (Txt.find (strN sc) (strN [sc.getD i 0])) (Txt.find (strN sc) (strN [sc.getD j 0])) (strN sc).length) (b : Int) = strN (pieceN sc i j b)) &&
  trB (pieceN sc i j b) (outN (pieceN sc i j b)) && rdB (outN (pieceN sc i j b)) (setN (outN (pieceN sc i j b))) && decide ((outN (pieceN sc i j b)).length ≤ 10) && decide ((pieceN sc i j b).length ≤ 10) &&
  (List.range sc.length).all fun c => hit (setN (outN (pieceN sc i j b))) (sc.getD c 0) == bitsOk i j c
noncomputable def goodSc (sc : List Nat) : Bool := (List.range sc.length).all fun i => (List.range sc.length).all fun j => goodAt sc i j 0 && goodAt sc i j 1
theorem good1 : goodSc [45, 120, 83, 115] = true := by decide +kernel
theorem good2 : goodSc [45, 120, 84, 116] = true := by decide +kernel
theorem good3 : goodSc [45, 114] = true := by decide +kernel
theorem good4 : goodSc [45, 119] = true := by decide +kernel
theorem goodP (p : Nat) : goodSc (scN p) = true := by
  unfold scN
  split
  · exact good1
  · exact good1
  · exact good2
  · exact good3
  · exact good3
  · exact good3
  · exact good4
theorem good_at (p i j b : Nat) (hi : i < (scN p).length) (hj : j < (scN p).length) (hb : b < 2) : goodAt (scN p) i j b = true := by
  have h := goodP p
  unfold goodSc at h
  have h1 := List.all_eq_true.mp (List.all_eq_true.mp h i (List.mem_range.mpr hi)) j (List.mem_range.mpr hj)
  have h2 := (Bool.and_eq_true _ _).mp h1
  have : b = 0 ∨ b = 1 := by omega
  rcases this with e | e <;> subst e
  · exact h2.1
  · exact h2.2
theorem scale_is (p : Nat) (h1 : 1 ≤ p) (h2 : p ≤ 9) : scaleOf (p : Int) = strN (scN p) := by
  have := nine p (Nat.lt_succ_of_le h2) h1
  rcases this with h | h | h | h | h | h | h | h | h <;> subst h <;> decide +kernel
noncomputable def pcN (a b sh p : Nat) : List Nat := if p = 0 then [sgn0 (a / 4096)] else pieceN (scN p) (codeOf a p) (codeOf b p) ((p + sh) % 2)
noncomputable def LLof (a b sh : Nat) : List (List Nat × Str) := (List.range 10).map fun p => (pcN a b sh p, strN (outN (pcN a b sh p)))
noncomputable def RRof (a b sh : Nat) : List (List Nat × (Bool × List Nat)) := (List.range 10).map fun p => (outN (pcN a b sh p), setN (outN (pcN a b sh p)))
noncomputable def kinds : List Nat := [1, 2, 4, 6, 8, 10, 12]
noncomputable def good0 (k : Nat) : Bool := trB [sgn0 k] (outN [sgn0 k]) && rdB (outN [sgn0 k]) (setN (outN [sgn0 k])) && decide ((outN [sgn0 k]).length ≤ 10) && (List.range 16).all fun x => hit (setN (outN [sgn0 k])) (sgn0 x) == decide (x = k)
theorem good_kinds : kinds.all good0 = true := by decide +kernel
theorem row_item (m p : Nat) (h : p < 10) : Txt.item (rowOf (m : Int)) (p : Int) = strN [signAt (m : Int) p] := by
  have H : At (rowOf (m : Int)) 0 ((List.range 10).map (signAt (m : Int))) := fun d c hd => by
    show (List.toArray _)[_]? = _
    rw [List.getElem?_toArray, Nat.zero_add]
    exact hd
  exact H.item p (by omega) (by rw [List.getElem?_map, List.getElem?_range h]; rfl)
theorem pieces {a b sh p : Nat} (h1 : 1 ≤ p) (h2 : p ≤ 9) :
    goodAt (scN p) (codeOf a p) (codeOf b p) ((p + sh) % 2) = true ∧ pcN a b sh p = pieceN (scN p) (codeOf a p) (codeOf b p) ((p + sh) % 2) :=
  ⟨good_at p _ _ _ (code_lt a p) (code_lt b p) (by omega), by unfold pcN; rw [if_neg (by omega)]⟩
theorem fmod_nat (n sh : Nat) : Int.fmod (1 + (n : Int) + (sh : Int)) 2 = (((n + 1 + sh) % 2 : Nat) : Int) := by
  rw [Int.fmod_eq_emod_of_nonneg _ (by decide)]
  omega
theorem strN_append (l r : List Nat) : strN l ++ strN r = strN (l ++ r) := by
  unfold strN
  show (⟨l.toArray ++ r.toArray⟩ : Str) = _
  simp
theorem pat_upto (a b sh : Nat) (ha : a < 65536) : ∀ n, n ≤ 9 → patAt (rowOf (a : Int)) (rowOf (b : Int)) (sh : Int) n = strN ((List.range (n + 1)).map (pcN a b sh)).flatten
  | 0, _ => by
    show Txt.item (rowOf (a : Int)) ((0 : Nat) : Int) = _
    rw [row_item a 0 (by decide), sign_zero a ha]
    rfl
  | n + 1, h => by
    have ih := pat_upto a b sh ha n (by omega)
    obtain ⟨hg, hp⟩ := @pieces a b sh (n + 1) (by omega) h
    rw [patAt, ih, show (1 + (n : Int)) = ((n + 1 : Nat) : Int) by omega, row_item a (n + 1) (by omega), row_item b (n + 1) (by omega), scale_is (n + 1) (by omega) h, sign_code a (n + 1) (by omega) h, sign_code b (n + 1) (by omega) h]
    have e : Int.fmod (((n + 1 : Nat) : Int) + (sh : Int)) 2 = (((n + 1 + sh) % 2 : Nat) : Int) := by rw [← fmod_nat]; congr 1; omega
    rw [e]
    unfold goodAt at hg
    simp only [Bool.and_eq_true, decide_eq_true_eq] at hg
    rw [hg.1.1.1.1.1, ← hp, strN_append]
    congr 1
    rw [List.range_succ (n := n + 1)]
    simp
theorem pat_is (a b sh : Nat) (ha : a < 65536) : patAt (rowOf (a : Int)) (rowOf (b : Int)) (sh : Int) 9 = wholeOf (LLof a b sh) := by
  rw [pat_upto a b sh ha 9 (by omega)]
  unfold wholeOf LLof strN
  rw [List.map_map]
  rfl
theorem of_range {α : Type} {f : Nat → α} {P : α → Prop} (h : ∀ p, p < 10 → P (f p)) : ∀ x ∈ (List.range 10).map f, P x := fun x hx => by
  obtain ⟨p, hp, rfl⟩ := List.mem_map.mp hx
  exact h p (List.mem_range.mp hp)
theorem facts0 {a b sh : Nat} (hk : a / 4096 ∈ kinds) : good0 (a / 4096) = true ∧ pcN a b sh 0 = [sgn0 (a / 4096)] := ⟨List.all_eq_true.mp good_kinds _ hk, by unfold pcN; rw [if_pos rfl]⟩
theorem facts {a b sh p : Nat} (hk : a / 4096 ∈ kinds) (hp : p < 10) :
    trB (pcN a b sh p) (outN (pcN a b sh p)) = true ∧ rdB (outN (pcN a b sh p)) (setN (outN (pcN a b sh p))) = true ∧ (outN (pcN a b sh p)).length ≤ 10 := by
  by_cases h0 : p = 0
  · subst h0
    obtain ⟨hg, e⟩ := @facts0 a b sh hk
    unfold good0 at hg
    simp only [Bool.and_eq_true, decide_eq_true_eq] at hg
    rw [e]
    exact ⟨hg.1.1.1, hg.1.1.2, hg.1.2⟩
  · obtain ⟨hg, e⟩ := @pieces a b sh p (by omega) (by omega)
    unfold goodAt at hg
    simp only [Bool.and_eq_true, decide_eq_true_eq] at hg
    rw [e]
    exact ⟨hg.1.1.1.1.2, hg.1.1.1.2, hg.1.1.2⟩
theorem LL_tr {a b sh : Nat} (hk : a / 4096 ∈ kinds) : ∀ q ∈ LLof a b sh, Tr q.1 q.2 := of_range fun p hp => trB_tr (facts hk hp).1
theorem RR_rd {a b sh : Nat} (hk : a / 4096 ∈ kinds) : ∀ q ∈ RRof a b sh, Rd q.1 q.2 := of_range fun p hp => rdB_rd (facts hk hp).2.1
theorem LL_len (a b sh : Nat) : (LLof a b sh).length = 10 := by simp [LLof]
theorem RR_len (a b sh : Nat) : (RRof a b sh).length = 10 := by simp [RRof]
theorem sum_le {l : List Nat} {c : Nat} (h : ∀ x ∈ l, x ≤ c) : l.sum ≤ l.length * c := by
  induction l with
  | nil => simp
  | cons x r ih =>
    have h1 := ih fun y hy => h y (.tail _ hy)
    have h2 := h x (.head _)
    rw [List.sum_cons, List.length_cons, Nat.succ_mul]
    omega
theorem LL_sum {a b sh : Nat} (hk : a / 4096 ∈ kinds) : (((LLof a b sh).map (·.2)).map (·.length)).sum ≤ 100 := by
  refine Nat.le_trans (sum_le (c := 10) fun x hx => ?_) (by simp [LL_len])
  obtain ⟨y, hy, rfl⟩ := List.mem_map.mp hx
  obtain ⟨q, hq, rfl⟩ := List.mem_map.mp hy
  refine (of_range (P := fun q => q.2.length ≤ 10) fun p hp => ?_) q hq
  show (List.toArray _).size ≤ 10
  rw [List.size_toArray]
  exact (facts hk hp).2.2
theorem join_strN : ∀ l : List (List Nat), Str.join ⟨#[]⟩ (l.map strN) = strN l.flatten
  | [] => rfl
  | x :: r => by
    rw [List.map_cons, join_nil_cons, join_strN r, strN_append]
    rfl
theorem join_outs (a b sh : Nat) : Txt.join (Str.ofString "") ((LLof a b sh).map (·.2)) = strN ((RRof a b sh).map Prod.fst).flatten := by
  have e : (LLof a b sh).map (·.2) = ((RRof a b sh).map Prod.fst).map strN := by
    unfold LLof RRof
    simp only [List.map_map]
    rfl
  show Builtin.Str.glued _ _ = _
  rw [StrLaws.glued_eq_join, e, show Str.ofString "" = ⟨#[]⟩ by decide +kernel, join_strN]
theorem joined_is (a b sh : Nat) : joinedOf ((LLof a b sh).map (·.2)) = textOf (RRof a b sh) := by
  unfold joinedOf
  rw [join_outs, show Str.empty ++ Str.ofString "(?s:" = strN [40, 63, 115, 58] by decide +kernel, show Str.ofString ")\\Z" = strN [41, 92, 90] by decide +kernel, strN_append, strN_append]
  unfold textOf strN
  simp
theorem LL_join {a b sh : Nat} (hk : a / 4096 ∈ kinds) : (Txt.join (Str.ofString "") ((LLof a b sh).map (·.2))).length ≤ 1000 := by
  have h := LL_sum (b := b) (sh := sh) hk
  show (Builtin.Str.glued _ _).length ≤ _
  rw [size_glued, show (Str.ofString "").length = 0 by decide +kernel]
  omega
theorem text_len {a b sh : Nat} (hk : a / 4096 ∈ kinds) : (textOf (RRof a b sh)).length ≤ 1000 := by
  have h := LL_sum (b := b) (sh := sh) hk
  rw [← joined_is]
  unfold joinedOf
  have e : (Txt.join (Str.ofString "") ((LLof a b sh).map (·.2))).length ≤ 100 := by
    show (Builtin.Str.glued _ _).length ≤ _
    rw [size_glued, show (Str.ofString "").length = 0 by decide +kernel]
    omega
  rw [Str.length_append, Str.length_append, show (Str.empty ++ Str.ofString "(?s:").length = 4 by decide +kernel, show (Str.ofString ")\\Z").length = 3 by decide +kernel]
  omega
theorem whole_len {a b sh : Nat} (ha : a < 65536) : (wholeOf (LLof a b sh)).length ≤ 1000 := by
  rw [← pat_is a b sh ha]
  have := patAt_len (rowOf (a : Int)) (rowOf (b : Int)) (sh : Int) 9
  omega
theorem takes_is (a b x sh : Nat) (ha : a < 65536) (hb : b < 65536) (hx : x < 65536) (hk : a / 4096 ∈ kinds) (hab : a / 4096 = b / 4096) :
    takesOf ((RRof a b sh).map Prod.snd) (rowOf (x : Int)) = decide ((a ^^^ x) &&& (x ^^^ b) = 0) := by
  have key : ∀ p, p < 10 → takesAt ((RRof a b sh).map Prod.snd) (rowOf (x : Int)) p = hit (setN (outN (pcN a b sh p))) (signAt (x : Int) p) := fun p hp => by
    have e : ((RRof a b sh).map Prod.snd)[p]? = some (setN (outN (pcN a b sh p))) := by
      unfold RRof
      rw [List.map_map, List.getElem?_map, List.getElem?_range hp]
      rfl
    unfold takesAt
    rw [e, row_item x p hp]
    rfl
  rw [Bool.eq_iff_iff, decide_eq_true_eq, due_places ha hb hx hab]
  unfold takesOf
  rw [List.all_eq_true]
  constructor
  · intro h
    refine ⟨?_, fun p h1 h2 => ?_⟩
    · have q := h 0 (List.mem_range.mpr (by decide))
      obtain ⟨hg, e⟩ := @facts0 a b sh hk
      rw [key 0 (by decide), e, sign_zero x hx] at q
      unfold good0 at hg
      have hg2 := List.all_eq_true.mp ((Bool.and_eq_true _ _).mp hg).2 (x / 4096) (List.mem_range.mpr (by omega))
      rw [eq_of_beq hg2] at q
      exact of_decide_eq_true q
    · have q := h p (List.mem_range.mpr (by omega))
      obtain ⟨hg, e⟩ := @pieces a b sh p h1 h2
      rw [key p (by omega), e, sign_code x p h1 h2] at q
      unfold goodAt at hg
      have hg2 := List.all_eq_true.mp ((Bool.and_eq_true _ _).mp hg).2 (codeOf x p) (List.mem_range.mpr (code_lt x p))
      rw [eq_of_beq hg2] at q
      exact q
  · rintro ⟨h0, h1⟩ p hp
    have hp' := List.mem_range.mp hp
    rw [key p hp']
    by_cases hz : p = 0
    · subst hz
      obtain ⟨hg, e⟩ := @facts0 a b sh hk
      rw [e, sign_zero x hx]
      unfold good0 at hg
      have hg2 := List.all_eq_true.mp ((Bool.and_eq_true _ _).mp hg).2 (x / 4096) (List.mem_range.mpr (by omega))
      rw [eq_of_beq hg2]
      exact decide_eq_true h0
    · obtain ⟨hg, e⟩ := @pieces a b sh p (by omega) (by omega)
      rw [e, sign_code x p (by omega) (by omega)]
      unfold goodAt at hg
      have hg2 := List.all_eq_true.mp ((Bool.and_eq_true _ _).mp hg).2 (codeOf x p) (List.mem_range.mpr (code_lt x p))
      rw [eq_of_beq hg2]
      exact h1 p (by omega) (by omega)
end Mine
end
theorem Mine.rs_LawP : True ∧ True := by
  (try (walk1; fail))
  exact ⟨trivial, trivial⟩
section
open PySem PySem.W PyProof.Rows PySem.Calls PySem.Spec
set_option maxRecDepth 100000
namespace Mine
open PyProof.Rows.LCg
noncomputable def AreV {α : Type} (f : α → Value → Prop) (vs : List Value) (xs : List α) : Prop := vs.length = xs.length ∧ ∀ (i : Nat) x, xs[i]? = some x → ∃ v, vs[i]? = some v ∧ f x v
noncomputable def fI (x : Nat) (v : Value) : Prop := ∃ t, v = .int (x : Int) t
noncomputable def fR (x : Nat) (v : Value) : Prop := ∃ t, v = .str (rowOf (x : Int)) t
noncomputable def fB (b : Bool) (v : Value) : Prop := v = .bool b
noncomputable def fL (ls : List (Addr × Obj)) (bs : List Bool) (v : Value) : Prop := ∃ l, v = .ref l ∧ (l, lst (bs.map Value.bool)) ∈ ls
noncomputable def fS (ls : List (Addr × Obj)) (ds : List (Bool × List Nat)) (v : Value) : Prop := ∃ l vs own, v = .ref l ∧ (∀ p ∈ (l, listOf vs.toArray vs.length) :: own, p ∈ ls) ∧ SetsIn own vs ds ∧ vs.length = 10
theorem AreV.of {α : Type} {f : α → Value → Prop} {vs : List Value} {xs : List α} (hl : vs.length = xs.length) (h : ∀ (i : Nat) v, vs[i]? = some v → ∃ x, xs[i]? = some x ∧ f x v) : AreV f vs xs :=
  ⟨hl, fun i x hx => by
    have hi : i < vs.length := by
      rcases Nat.lt_or_ge i xs.length with q | q
      · omega
      · rw [List.getElem?_eq_none q] at hx; cases hx
    have hv : vs[i]? = some vs[i] := List.getElem?_eq_getElem hi
    obtain ⟨y, hy, hf⟩ := h i _ hv
    rw [hx] at hy
    cases hy
    exact ⟨_, hv, hf⟩⟩
theorem AreV.at {α : Type} {f : α → Value → Prop} {vs : List Value} {xs : List α} (R : AreV f vs xs) {i : Nat} {v : Value} (hv : vs[i]? = some v) : ∃ x, xs[i]? = some x ∧ f x v := by
  have hi : i < xs.length := by
    rcases Nat.lt_or_ge i vs.length with q | q
    · have := R.1; omega
    · rw [List.getElem?_eq_none q] at hv; cases hv
  have hx : xs[i]? = some xs[i] := List.getElem?_eq_getElem hi
  obtain ⟨u, hu, hf⟩ := R.2 i _ hx
  rw [hv] at hu
  cases hu
  exact ⟨_, hx, hf⟩
theorem AreV.snoc {α : Type} {f : α → Value → Prop} {vs : List Value} {xs : List α} {i : Nat} {x : α} {v : Value} (R : AreV f vs (xs.take i)) (hx : xs[i]? = some x) (hf : f x v) : AreV f (vs ++ [v]) (xs.take (i + 1)) := by
  have hi : i < xs.length := by
    rcases Nat.lt_or_ge i xs.length with q | q
    · exact q
    · rw [List.getElem?_eq_none q] at hx; cases hx
  have hl : vs.length = i := by rw [R.1, List.length_take]; omega
  have e : xs.take (i + 1) = xs.take i ++ [x] := by rw [List.take_add_one, hx]; rfl
  rw [e]
  refine ⟨by simp [hl]; omega, fun j y hy => ?_⟩
  rcases Nat.lt_or_ge j i with q | q
  · rw [List.getElem?_append_left (by rw [List.length_take]; omega)] at hy
    obtain ⟨u, hu, hfu⟩ := R.2 j y hy
    exact ⟨u, by rw [List.getElem?_append_left (by omega)]; exact hu, hfu⟩
  · rw [List.getElem?_append_right (by rw [List.length_take]; omega)] at hy
    have hj : j = i := by
      rcases Nat.lt_or_ge (j - (xs.take i).length) 1 with u | u
      · rw [List.length_take] at u; omega
      · rw [List.getElem?_eq_none (by simpa using u)] at hy; cases hy
    subst hj
    have e2 : j - (xs.take j).length = 0 := by rw [List.length_take]; omega
    rw [e2] at hy
    have : x = y := by simpa using hy
    subst this
    exact ⟨v, by rw [List.getElem?_append_right (by omega), hl, Nat.sub_self]; rfl, hf⟩
theorem AreV.mono {α : Type} {f g : α → Value → Prop} {vs : List Value} {xs : List α} (R : AreV f vs xs) (h : ∀ x v, f x v → g x v) : AreV g vs xs :=
  ⟨R.1, fun i x hx => let ⟨v, hv, hf⟩ := R.2 i x hx; ⟨v, hv, h _ _ hf⟩⟩
theorem AreV.nil {α : Type} {f : α → Value → Prop} : AreV f [] ([] : List α) := ⟨rfl, fun i x h => by simp at h⟩
theorem AreV.bools : ∀ {vs : List Value} {bs : List Bool}, AreV fB vs bs → vs = bs.map Value.bool
  | vs, bs, R => by
    apply List.ext_getElem?
    intro i
    rw [List.getElem?_map]
    cases hb : bs[i]? with
    | none =>
      have : bs.length ≤ i := List.getElem?_eq_none_iff.mp hb
      rw [List.getElem?_eq_none (by rw [R.1]; exact this)]; rfl
    | some b =>
      obtain ⟨v, hv, rfl⟩ := R.2 i b hb
      exact hv
theorem Fn.mono {w : World} {n : Nat} {f : Addr} {args : List Value} {Pre : Heap → Prop} {Post Post' : Value → Heap → Heap → Prop} (S : Fn w n f args Pre Post) (h : ∀ v a b, Post v a b → Post' v a b) : Fn w n f args Pre Post' :=
  fun dp un gd outer base s Q E loose mean mg mb h1 h2 B X T hp k => S dp un gd outer base s Q E loose mean mg mb h1 h2 B X T hp fun v h' tk' kk p => k v h' tk' kk (h _ _ _ p)
theorem andN_fn (w : World) (a b : Nat) (ta tb : Tok) : Fn w 8 38 [.int (a : Int) ta, .int (b : Int) tb] (fun _ => True) (fun v _ _ => fI (a &&& b) v) :=
  (and_fn w a b ta tb).mono fun v _ _ ⟨t, e⟩ => ⟨t, by rw [e, and_nat]⟩
theorem orN_fn (w : World) (a b : Nat) (ta tb : Tok) : Fn w 8 45 [.int (a : Int) ta, .int (b : Int) tb] (fun _ => True) (fun v _ _ => fI (a ||| b) v) :=
  (or_fn w a b ta tb).mono fun v _ _ ⟨t, e⟩ => ⟨t, by rw [e, or_nat]⟩
theorem xorN_fn (w : World) (a b : Nat) (ta tb : Tok) : Fn w 8 52 [.int (a : Int) ta, .int (b : Int) tb] (fun _ => True) (fun v _ _ => fI (a ^^^ b) v) :=
  (xor_fn w a b ta tb).mono fun v _ _ ⟨t, e⟩ => ⟨t, by rw [e, xor_nat]⟩
theorem fmod3 (i : Nat) : Int.fmod ((i : Int) + 1) 3 = (((i + 1) % 3 : Nat) : Int) := by
  rw [Int.fmod_eq_emod_of_nonneg _ (by decide)]
  omega
section
variable {prog : Program} {w : World} {A : Around} {E : Value → Shared → Prop} {s : Shared} {h₀ : Heap} {L : Addr} {nws : List (Addr × Obj)}
theorem item_V {α : Type} {f : α → Value → Prop} {value slice : PySem.Expr} {l : Addr} {vs : List Value} {xs : List α} {x : α} {k : Nat} {kk : Int} {u : Tok} {Q : Value → Shared → Prop} {nn : Nat} (N : News h₀ L s.heap nws) (hm : (l, listOf vs.toArray nn) ∈ nws) (R : AreV f vs xs) (hx : xs[k]? = some x) (hk : kk = (k : Int)) (hfit : k < 2 ^ 62)
    (h : ∀ v, f x v → Q v s)
    (hs : subscripted slice false (.ref l) (.int kk u) = operate [.ref l, .int kk u] (getItem (.ref l) (.int kk u)) := by with_unfolding_all rfl) (hg : ∀ r, letTemporaryGo value (.ref l) r = pure () := by intro _; with_unfolding_all rfl) :
    wpAny (model prog w) A (subscriptTail value slice (.ref l) (.int kk u)) Q E s := by
  subst hk
  obtain ⟨v, hv, hf⟩ := R.2 k x hx
  have hl : s.heap.IsList l vs.toArray := ⟨_, (N _ hm).1, rfl, _, rfl⟩
  exact item_list hl (by omega) (by omega) (by simpa using hv) (h v hf) hs hg
end
structure Three (a b c tu : Nat) : Prop where
  ha : a < 65536
  hb : b < 65536
  hc : c < 65536
  ht : tu < 65536
  hk : a / 4096 ∈ kinds
  hab : a / 4096 = b / 4096
  hbc : b / 4096 = c / 4096
theorem low4096 {n k : Nat} (h : k < 4096) : (4096 * n + k) / 4096 = n := by rw [Nat.mul_add_div (by decide), Nat.div_eq_of_lt h, Nat.add_zero]
theorem top4096 {n k m : Nat} (h : k < 4096) (hn : n < m) : 4096 * n + k < 4096 * m := Nat.lt_of_lt_of_le (Nat.add_lt_add_left h _) (Nat.mul_le_mul_left 4096 hn)
theorem three_nat {v q0 q1 q2 r4 r6 : Int} (hv : v = 1 ∨ v = 2 ∨ v = 4 ∨ v = 6 ∨ v = 8 ∨ v = 10 ∨ v = 12) (h00 : 0 ≤ q0) (h01 : q0 < 4096) (h10 : 0 ≤ q1) (h11 : q1 < 4096) (h20 : 0 ≤ q2) (h21 : q2 < 4096) (h40 : 0 ≤ r4) (h41 : r4 < 4096) (h60 : 0 ≤ r6) (h61 : r6 < 16) :
    ∃ a b c tu : Nat, 4096 * v + q0 = (a : Int) ∧ 4096 * v + q1 = (b : Int) ∧ 4096 * v + q2 = (c : Int) ∧ r4 + 4096 * r6 = (tu : Int) ∧ Three a b c tu := by
  obtain ⟨n, rfl, hn, hk⟩ : ∃ n : Nat, v = (n : Int) ∧ n < 16 ∧ n ∈ kinds := by
    rcases hv with h | h | h | h | h | h | h <;> subst h
    · exact ⟨1, rfl, by decide, by decide⟩
    · exact ⟨2, rfl, by decide, by decide⟩
    · exact ⟨4, rfl, by decide, by decide⟩
    · exact ⟨6, rfl, by decide, by decide⟩
    · exact ⟨8, rfl, by decide, by decide⟩
    · exact ⟨10, rfl, by decide, by decide⟩
    · exact ⟨12, rfl, by decide, by decide⟩
  obtain ⟨k0, rfl⟩ := Int.eq_ofNat_of_zero_le h00
  obtain ⟨k1, rfl⟩ := Int.eq_ofNat_of_zero_le h10
  obtain ⟨k2, rfl⟩ := Int.eq_ofNat_of_zero_le h20
  obtain ⟨k4, rfl⟩ := Int.eq_ofNat_of_zero_le h40
  obtain ⟨k6, rfl⟩ := Int.eq_ofNat_of_zero_le h60
  replace h01 := Int.ofNat_lt.mp h01
  replace h11 := Int.ofNat_lt.mp h11
  replace h21 := Int.ofNat_lt.mp h21
  replace h41 := Int.ofNat_lt.mp h41
  replace h61 := Int.ofNat_lt.mp h61
  refine ⟨4096 * n + k0, 4096 * n + k1, 4096 * n + k2, 4096 * k6 + k4, rfl, rfl, rfl, Int.add_comm _ _, top4096 h01 hn, top4096 h11 hn, top4096 h21 hn, top4096 h41 h61, ?_, ?_, ?_⟩
  · rw [low4096 h01]; exact hk
  · rw [low4096 h01, low4096 h11]
  · rw [low4096 h11, low4096 h21]
noncomputable def midOf3 (a b c : Nat) : Nat := ((a &&& b) ||| (b &&& c)) ||| (c &&& a)
noncomputable def mixOf (a b tu : Nat) : Nat := a ^^^ ((a ^^^ b) &&& tu)
noncomputable def dueB (x y z : Nat) : Bool := decide ((x ^^^ z) &&& (z ^^^ y) = 0)
theorem small_bits {m : Nat} (h : ∀ i, 16 ≤ i → m.testBit i = false) : m < 65536 := lt_of_bits h
structure Tried (a b c x0 x1 x2 : Nat) : Prop where
  h0 : x0 < 65536
  h1 : x1 < 65536
  h2 : x2 < 65536
  e2 : x2 = midOf3 a b c
theorem tried_is {a b c tu : Nat} (T : Three a b c tu) : Tried a b c (midOf3 a b c ^^^ tu) (mixOf a b tu) (midOf3 a b c) := by
  have ha := fun i hi => high (i := i) T.ha hi
  have hb := fun i hi => high (i := i) T.hb hi
  have hc := fun i hi => high (i := i) T.hc hi
  have ht := fun i hi => high (i := i) T.ht hi
  refine ⟨small_bits fun i hi => ?_, small_bits fun i hi => ?_, small_bits fun i hi => ?_, rfl⟩
  · simp [midOf3, Nat.testBit_xor, Nat.testBit_or, Nat.testBit_and, ha i hi, hb i hi, ht i hi]
  · simp [mixOf, Nat.testBit_xor, Nat.testBit_and, ha i hi, hb i hi, ht i hi]
  · simp [midOf3, Nat.testBit_or, Nat.testBit_and, ha i hi, hb i hi]
theorem takes_due {a b c tu : Nat} (T : Three a b c tu) {x y z sh : Nat} (hx : x ∈ [a, b, c]) (hy : y ∈ [a, b, c]) (hz : z < 65536) : takesOf ((RRof x y sh).map Prod.snd) (rowOf (z : Int)) = dueB x y z := by
  have hab := T.hab
  have hbc := T.hbc
  have hk := T.hk
  have e : ∀ q ∈ [a, b, c], q < 65536 ∧ q / 4096 = a / 4096 := by
    intro q hq
    have h1 := T.ha
    have h2 := T.hb
    have h3 := T.hc
    rcases List.mem_cons.mp hq with rfl | hq
    · exact ⟨h1, rfl⟩
    · rcases List.mem_cons.mp hq with rfl | hq
      · exact ⟨h2, hab.symm⟩
      · rw [List.mem_singleton.mp hq]
        exact ⟨h3, by omega⟩
  obtain ⟨x1, x2⟩ := e x hx
  obtain ⟨y1, y2⟩ := e y hy
  exact takes_is x y z sh x1 y1 hz (by rw [x2]; exact hk) (by rw [x2, y2])
theorem in_three {a b c tu : Nat} (T : Three a b c tu) {x : Nat} (hx : x ∈ [a, b, c]) : x < 65536 ∧ x / 4096 ∈ kinds := by
  have hab := T.hab
  have hbc := T.hbc
  have hk := T.hk
  rcases List.mem_cons.mp hx with rfl | hx
  · exact ⟨T.ha, hk⟩
  · rcases List.mem_cons.mp hx with rfl | hx
    · exact ⟨T.hb, hab ▸ hk⟩
    · rw [List.mem_singleton.mp hx]
      exact ⟨T.hc, by rw [← hbc, ← hab]; exact hk⟩
noncomputable def TriedL (a b c : Nat) (xs : List Nat) (x2 : Nat) : Prop := ∃ x0 x1, xs = [x0, x1, x2] ∧ Tried a b c x0 x1 x2
theorem tried_pack {h₀ h : Heap} {L l1 l2 : Addr} {a b c tu nn : Nat} {t0 t1 t2 : Tok} {o2 : Obj} {c1 c2 c3 c4 : Addr × Obj} {rest : List (Addr × Obj)} (T : Three a b c tu)
    (N : News h₀ L h ((l1, listOf [Value.int ((((a &&& b ||| b &&& c ||| c &&& a) ^^^ tu : Nat)) : Int) t0, .int (((a ^^^ (a ^^^ b) &&& tu : Nat)) : Int) t1, .int (((a &&& b ||| b &&& c ||| c &&& a : Nat)) : Int) t2].toArray nn) :: (l2, o2) :: c1 :: c2 :: c3 :: c4 :: rest)) :
    ∃ vst xs, News h₀ L h ((l1, listOf vst.toArray nn) :: (l2, o2) :: rest) ∧ vst.length = 3 ∧ AreV fI vst xs ∧ TriedL a b c xs (a &&& b ||| b &&& c ||| c &&& a) := by
  refine ⟨[Value.int ((((a &&& b ||| b &&& c ||| c &&& a) ^^^ tu : Nat)) : Int) t0, .int (((a ^^^ (a ^^^ b) &&& tu : Nat)) : Int) t1, .int (((a &&& b ||| b &&& c ||| c &&& a : Nat)) : Int) t2], [(a &&& b ||| b &&& c ||| c &&& a) ^^^ tu, a ^^^ (a ^^^ b) &&& tu, a &&& b ||| b &&& c ||| c &&& a], fun p hp => N p ?_, rfl, AreV.of rfl fun i v hv => ?_, _, _, rfl, tried_is T⟩
  · rcases List.mem_cons.mp hp with rfl | hp
    · exact .head _
    · rcases List.mem_cons.mp hp with rfl | hp
      · exact .tail _ (.head _)
      · exact .tail _ (.tail _ (.tail _ (.tail _ (.tail _ (.tail _ hp)))))
  · have : i = 0 ∨ i = 1 ∨ i = 2 := by
      rcases Nat.lt_or_ge i 3 with q | q
      · omega
      · rw [List.getElem?_eq_none (by simpa using q)] at hv; cases hv
    rcases this with rfl | rfl | rfl <;> (cases hv; exact ⟨_, rfl, _, rfl⟩)
theorem size3 {vs : List Value} (h : vs.length = 3) : vs.toArray.size ≤ sizeLine := by
  rw [List.size_toArray, h]; decide
theorem at_arr {vs : List Value} {i : Nat} {v : Value} (h : vs.toArray[i]? = some v) : vs[i]? = some v := by simpa using h
theorem are_of {α : Type} {f : α → Value → Prop} {vs : Array Value} {ys : List Value} {xs : List α} (hl : ys.length = vs.size) (hv : vs.size = xs.length) (h : ∀ (i : Nat) y, ys[i]? = some y → ∃ x, xs[i]? = some x ∧ f x y) : AreV f ys xs := AreV.of (hl.trans hv) h
noncomputable def pairsOf (a b c : Nat) : List (Nat × Nat) := [(a, b), (b, c), (c, a)]
noncomputable def tabB (a b c x0 x1 x2 : Nat) : List (List Bool) := (pairsOf a b c).map fun p => [x0, x1, x2].map (dueB p.1 p.2)
theorem three_true {a b c tu x0 x1 x2 : Nat} (T : Three a b c tu) (R : Tried a b c x0 x1 x2) {z : Nat} (hz : z < 65536) : decide (trues ((pairsOf a b c).map fun p => dueB p.1 p.2 z) = 3) = decide ((z : Int) = (x2 : Int)) := by
  have h := median_bits T.ha T.hb T.hc hz
  have e2 := R.e2
  unfold midOf3 at e2
  rw [← e2] at h
  rw [decide_eq_decide]
  have h3 : ((z : Int) = (x2 : Int)) ↔ z = x2 := by omega
  rw [h3, ← h]
  unfold pairsOf dueB trues
  simp only [List.map_cons, List.map_nil]
  by_cases p1 : (a ^^^ z) &&& (z ^^^ b) = 0 <;> by_cases p2 : (b ^^^ z) &&& (z ^^^ c) = 0 <;> by_cases p3 : (c ^^^ z) &&& (z ^^^ a) = 0 <;> simp [p1, p2, p3]
end Mine
end
theorem Mine.rs_LawQ : True ∧ True := by
  (try (walk1; fail))
  exact ⟨trivial, trivial⟩
section
open PySem PySem.W PyProof.Rows PySem.Calls PySem.Spec
set_option maxRecDepth 100000
namespace Mine
open PyProof.Rows.LCg
theorem FnT.mono {w : World} {n : Nat} {f : Addr} {args : List Value} {Pre : Heap → Prop} {Post Post' : Value → Heap → Heap → Prop} (S : FnT w n f args Pre Post) (h : ∀ v a b, Post v a b → Post' v a b) : FnT w n f args Pre Post' :=
  fun dp un gd outer base s Q E loose mean mg mb h1 h2 h3 B X T t g hp k => S dp un gd outer base s Q E loose mean mg mb h1 h2 h3 B X T t g hp fun v s' kk t' g' o' p => k v s' kk t' g' o' (h _ _ _ p)
theorem rowOf_len (m : Int) : (rowOf m).length = 10 := by
  show (List.toArray _).size = 10
  rw [List.size_toArray, List.length_map, List.length_range]
theorem patN_fn (w : World) (x y i : Nat) (ta tb tc : Tok) (hx : x < 65536) : Fn w 16 182 [.str (rowOf (x : Int)) ta, .str (rowOf (y : Int)) tb, .int (i : Int) tc] (fun _ => True) (fun v _ _ => ∃ t, v = .str (wholeOf (LLof x y i)) t) :=
  (pattern_fn w _ _ _ ta tb tc (rowOf_len _) (rowOf_len _)).mono fun v _ _ ⟨t, e⟩ => ⟨t, by rw [e, pat_is x y i hx]⟩
theorem trN_fn (w : World) (x y i : Nat) (tp : Tok) (hx : x < 65536) (hk : x / 4096 ∈ kinds) : FnT w 140 71 [.str (wholeOf (LLof x y i)) tp] (fun _ => True) (fun v _ _ => ∃ t, v = .str (textOf (RRof x y i)) t) :=
  (trtop_fn w (LLof x y i) tp (LL_tr hk) (by rw [LL_len]; decide) (whole_len hx) (Nat.le_trans (LL_sum hk) (by decide)) (LL_join hk)).mono fun v _ _ ⟨t, e⟩ => ⟨t, by rw [e, joined_is]⟩
theorem readN_fn (w : World) (x y i : Nat) (tp : Tok) (hk : x / 4096 ∈ kinds) : Fn w 64 189 [.str (textOf (RRof x y i)) tp] (fun _ => True)
    (fun v h h' => ∃ l vs own, v = .ref l ∧ (∀ p ∈ (l, listOf vs.toArray vs.length) :: own, h.get? p.1 = none ∧ h'.get? p.1 = some p.2) ∧ SetsIn own vs ((RRof x y i).map Prod.snd)) :=
  read_fn w (RRof x y i) tp (RR_rd hk) (by rw [RR_len]; decide) (text_len hk)
theorem RR_snd_len (x y i : Nat) : ((RRof x y i).map Prod.snd).length = 10 := by rw [List.length_map, RR_len]
theorem takesN_fn (w : World) (l : Addr) (vs : List Value) (own : List (Addr × Obj)) (ds : List (Bool × List Nat)) (x : Nat) (tr : Tok) (hv : vs.length = 10) (hS : SetsIn own vs ds) :
    Fn w 8 196 [.ref l, .str (rowOf (x : Int)) tr] (fun h => ∀ p ∈ (l, listOf vs.toArray vs.length) :: own, h.get? p.1 = some p.2) (fun v _ _ => v = .bool (takesOf ds (rowOf (x : Int)))) :=
  takes_fn w l vs own ds _ tr (rowOf_len _) hv hS
section
variable {h₀ h h' : Heap} {L : Addr} {m : Str → Option Value}
theorem news_read {d7 d8 lt d9 c8 c7 c6 c5 c4 c3 c2 c1 t : Addr × Obj} (N : News h₀ L h [d7, d8, lt, d9, c8, c7, c6, c5, c4, c3, c2, c1, t]) : ∃ base, base = [d7, d8, lt, d9, c8, c7, c6, c5, c4, c3] ∧ News h₀ L h (t :: (base ++ [])) := ⟨_, rfl, fun p hp => N p (by
  simp only [List.append_nil, List.mem_cons, List.not_mem_nil, or_false] at hp ⊢
  rcases hp with h | h | h | h | h | h | h | h | h | h | h <;> simp [h])⟩
theorem news_up {a b c t : Addr × Obj} {rest : List (Addr × Obj)} (N : News h₀ L h (a :: b :: c :: t :: rest)) : News h₀ L h (t :: a :: b :: c :: rest) := fun p hp => N p (by
  simp only [List.mem_cons] at hp ⊢
  rcases hp with h | h | h | h | h <;> simp [h])
theorem news_fresh {ls : List (Addr × Obj)} (F : Fr h₀ L h m) (hp : ∀ p ∈ ls, h.get? p.1 = none ∧ h'.get? p.1 = some p.2) : News h₀ L h' ls := fun p hm => by
  obtain ⟨h1, h2⟩ := hp p hm
  refine ⟨h2, fun q => ?_, ?_⟩
  · obtain ⟨oL, a1, a2, hL, _⟩ := F.ns
    have q' : p.1 = L := q
    rw [q', hL] at h1; cases h1
  · cases e : h₀.get? p.1 with
    | none => rfl
    | some o => rw [F.keep _ _ e] at h1; cases h1
theorem fresh_ne {ls nws : List (Addr × Obj)} (N : News h₀ L h nws) (hp : ∀ p ∈ ls, h.get? p.1 = none ∧ h'.get? p.1 = some p.2) {q : Addr × Obj} (hq : q ∈ nws) : ∀ p ∈ ls, @Ne Nat p.1 q.1 := fun p hm e => by
  have e' : p.1 = q.1 := e
  have := (hp p hm).1
  rw [e', (N q hq).1] at this
  cases this
end
theorem allBare_nil {g : Array GenState} (h : g = #[]) : AllBare g := by
  subst h
  intro i hi
  simp at hi
section
variable {prog : Program} {w : World} {A : Around} {E : Value → Shared → Prop} {s : Shared} {h₀ : Heap} {L : Addr} {m : Str → Option Value} {env : Env}
noncomputable def JG (o : OsState) (s : Shared) : Prop := AllBare s.gens ∧ s.os = o
theorem JG.hh (o : OsState) : ∀ (s : Shared) h tk, JG o s → JG o { s with heap := h, toks := tk } := fun _ _ _ x => x
noncomputable def PRead (base : List (Addr × Obj)) (dss : List (List (Bool × List Nat))) (i : Nat) (ys : List Value) (news : List (Addr × Obj)) : Prop :=
  ∃ ps ls, news = (85, tabObj ps) :: (base ++ ls) ∧ TriplesOk ps.toList ∧ (∀ p ∈ ls, @Ne Nat p.1 85) ∧ (∀ p ∈ ls, ∀ q ∈ base, @Ne Nat p.1 q.1) ∧ AreV (fS ls) ys (dss.take i)
theorem PRead.start (base : List (Addr × Obj)) (dss : List (List (Bool × List Nat))) : PRead base dss 0 [] ((85, tabObj #[]) :: (base ++ [])) :=
  ⟨#[], [], rfl, trivial, (fun p hp => nomatch hp), (fun p hp => nomatch hp), by rw [List.take_zero]; exact AreV.nil⟩
theorem PRead.step {base ls : List (Addr × Obj)} {dss : List (List (Bool × List Nat))} {i : Nat} {ys : List Value} {ps : Array Value} {l : Addr} {vs : List Value} {own : List (Addr × Obj)} {ds : List (Bool × List Nat)} (R : AreV (fS ls) ys (dss.take i)) (hls : ∀ p ∈ ls, @Ne Nat p.1 85) (hlb : ∀ p ∈ ls, ∀ q ∈ base, @Ne Nat p.1 q.1) (ht : TriplesOk ps.toList) (hd : dss[i]? = some ds) (hS : SetsIn own vs ds) (hv : vs.length = 10)
    (hne : ∀ p ∈ (l, listOf vs.toArray vs.length) :: own, @Ne Nat p.1 85) (hnb : ∀ p ∈ (l, listOf vs.toArray vs.length) :: own, ∀ q ∈ base, @Ne Nat p.1 q.1) : PRead base dss (i + 1) (ys ++ [.ref l]) ((85, tabObj ps) :: (base ++ (ls ++ ((l, listOf vs.toArray vs.length) :: own)))) := by
  refine ⟨ps, _, rfl, ht, fun p hp => ?_, fun p hp => ?_, AreV.snoc (R.mono fun x v ⟨l, vs, own, e, h1, h2, h3⟩ => ⟨l, vs, own, e, fun p hp => List.mem_append_left _ (h1 p hp), h2, h3⟩) hd ⟨l, vs, own, rfl, fun p hp => List.mem_append_right _ hp, hS, hv⟩⟩
  · rcases List.mem_append.mp hp with h | h
    · exact hls p h
    · exact hne p h
  · rcases List.mem_append.mp hp with h | h
    · exact hlb p h
    · exact hnb p h
end
section
variable {h₀ h : Heap} {L I C D : Addr} {oI oC oD : Obj} {base ls own : List (Addr × Obj)}
theorem news_end {t : Addr × Obj} (N : News h₀ L h (t :: (I, oI) :: (C, oC) :: (D, oD) :: (base ++ ls))) (M : News h₀ L h own) : News h₀ L h ((I, oI) :: (C, oC) :: (D, oD) :: t :: (base ++ (ls ++ own))) := fun p hp => by
  simp only [List.mem_cons, List.mem_append] at hp
  rcases hp with h | h | h | h | h | h | h
  · exact N p (by simp [h])
  · exact N p (by simp [h])
  · exact N p (by simp [h])
  · exact N p (by simp [h])
  · exact N p (by simp [h])
  · exact N p (by simp [h])
  · exact M p h
theorem off_end {o o' : Obj} (off : Off3 I C D ((85, o) :: (base ++ ls))) (ho : ∀ p ∈ own, p.1 ≠ I ∧ p.1 ≠ C ∧ p.1 ≠ D) : Off3 I C D ((85, o') :: (base ++ (ls ++ own))) := Off3.of fun p hp => by
  simp only [List.mem_cons, List.mem_append] at hp
  rcases hp with h | h | h | h
  · rw [h]; exact off.mem (85, o) (.head _)
  · exact off.mem p (.tail _ (List.mem_append_left _ h))
  · exact off.mem p (.tail _ (List.mem_append_right _ h))
  · exact ho p h
theorem not85 {o : Obj} (off : Off3 I C D ((85, o) :: (base ++ ls))) (hB : ∀ p ∈ base, @Ne Nat p.1 85) (hls : ∀ p ∈ ls, @Ne Nat p.1 85) : ∀ p ∈ (I, oI) :: (C, oC) :: (D, oD) :: (base ++ ls), p.1 ≠ 85 := fun p hp => by
  have q := off.mem (85, o) (.head _)
  simp only [List.mem_cons, List.mem_append] at hp
  rcases hp with h | h | h | h | h
  · rw [h]; exact q.1.symm
  · rw [h]; exact q.2.1.symm
  · rw [h]; exact q.2.2.symm
  · exact hB p h
  · exact hls p h
end
noncomputable def dssOf (a b c : Nat) : List (List (Bool × List Nat)) := [(RRof a b 0).map Prod.snd, (RRof b c 1).map Prod.snd, (RRof c a 2).map Prod.snd]
theorem dss_at (a b c : Nat) {i : Nat} (hi : i < 3) : ∃ x y, [a, b, c][i]? = some x ∧ [a, b, c][(i + 1) % 3]? = some y ∧ (dssOf a b c)[i]? = some ((RRof x y i).map Prod.snd) ∧ (pairsOf a b c)[i]? = some (x, y) ∧ x ∈ [a, b, c] ∧ y ∈ [a, b, c] := by
  have : i = 0 ∨ i = 1 ∨ i = 2 := by omega
  rcases this with rfl | rfl | rfl
  · exact ⟨a, b, rfl, rfl, rfl, rfl, by simp, by simp⟩
  · exact ⟨b, c, rfl, rfl, rfl, rfl, by simp, by simp⟩
  · exact ⟨c, a, rfl, rfl, rfl, rfl, by simp, by simp⟩
theorem fit3 {i : Nat} (h : i < 3) : i < 2 ^ 62 := Nat.lt_trans h (by decide)
theorem fit3' (i : Nat) : (i + 1) % 3 < 2 ^ 62 := Nat.lt_trans (Nat.mod_lt _ (by decide)) (by decide)
noncomputable def PRow (base : List (Addr × Obj)) (bss : List (List Bool)) (i : Nat) (ys : List Value) (news : List (Addr × Obj)) : Prop := ∃ lb, news = base ++ lb ∧ (∀ p ∈ lb, ∀ q ∈ base, @Ne Nat p.1 q.1) ∧ AreV (fL lb) ys (bss.take i)
theorem PRow.start (base : List (Addr × Obj)) (bss : List (List Bool)) : PRow base bss 0 [] base := ⟨[], (List.append_nil _).symm, (fun p hp => nomatch hp), by rw [List.take_zero]; exact AreV.nil⟩
theorem PRow.step {base lb : List (Addr × Obj)} {bss : List (List Bool)} {i : Nat} {ys : List Value} {l : Addr} {bs : List Bool} (hlb : ∀ p ∈ lb, ∀ q ∈ base, @Ne Nat p.1 q.1) (hn : ∀ q ∈ base, @Ne Nat q.1 l) (R : AreV (fL lb) ys (bss.take i)) (hb : bss[i]? = some bs) : PRow base bss (i + 1) (ys ++ [.ref l]) (base ++ (lb ++ [(l, LCg.lst (bs.map Value.bool))])) :=
  ⟨_, rfl, (fun p hp q hq => by
    rcases List.mem_append.mp hp with h | h
    · exact hlb p h q hq
    · rw [List.mem_singleton.mp h]; exact (hn q hq).symm), AreV.snoc (R.mono fun x v ⟨l, e, h⟩ => ⟨l, e, List.mem_append_left _ h⟩) hb ⟨l, rfl, List.mem_append_right _ (.head _)⟩⟩
theorem off1_mem {D : Addr} : ∀ {l : List (Addr × Obj)}, LCg.Off1 D l → ∀ p ∈ l, @Ne Nat p.1 D
  | [], _, _, h => nomatch h
  | _ :: _, x, p, h => by
    rcases List.mem_cons.mp h with rfl | h
    · exact x.1
    · exact off1_mem x.2 p h
section
variable {h₀ h : Heap} {L I C X D D2 : Addr} {oI oC oX oD o2 : Obj} {base lb : List (Addr × Obj)}
theorem news_row (N : News h₀ L h ((D2, o2) :: (I, oI) :: (C, oC) :: (X, oX) :: (D, oD) :: (base ++ lb))) : News h₀ L h ((I, oI) :: (C, oC) :: (X, oX) :: (D, oD) :: (base ++ (lb ++ [(D2, o2)]))) := fun p hp => N p (by
  simp only [List.mem_cons, List.mem_append, List.not_mem_nil, or_false] at hp ⊢
  rcases hp with h | h | h | h | h | h | h <;> simp [h])
theorem off_row (off : Off4 I C X D (base ++ lb)) (o2' : LCg.Off1 D2 ((I, oI) :: (C, oC) :: (X, oX) :: (D, oD) :: (base ++ lb))) : Off4 I C X D (base ++ (lb ++ [(D2, o2)])) := fun p hp => by
  rw [← List.append_assoc] at hp
  rcases List.mem_append.mp hp with h | h
  · exact off p h
  · rw [List.mem_singleton.mp h]
    exact ⟨(off1_mem o2' (I, oI) (.head _)).symm, (off1_mem o2' (C, oC) (.tail _ (.head _))).symm, (off1_mem o2' (X, oX) (.tail _ (.tail _ (.head _)))).symm, (off1_mem o2' (D, oD) (.tail _ (.tail _ (.tail _ (.head _))))).symm⟩
end
noncomputable def tabOf (a b c : Nat) (xs : List Nat) : List (List Bool) := (pairsOf a b c).map fun p => xs.map (dueB p.1 p.2)
theorem tab_at {a b c : Nat} {xs : List Nat} {i x y : Nat} (h : (pairsOf a b c)[i]? = some (x, y)) : (tabOf a b c xs)[i]? = some (xs.map (dueB x y)) := by
  unfold tabOf
  rw [List.getElem?_map, h]
  rfl
theorem row_bools {x y : Nat} {xs : List Nat} {n : Nat} {ys : List Value} (hl : ys.length = n) (hn : n = xs.length) (h : ∀ (j : Nat) v, ys[j]? = some v → ∃ z, xs[j]? = some z ∧ fB (dueB x y z) v) : ys = (xs.map (dueB x y)).map Value.bool :=
  AreV.bools (AreV.of (by rw [hl, hn, List.length_map]) fun j v hv => let ⟨z, hz, hf⟩ := h j v hv; ⟨dueB x y z, by rw [List.getElem?_map, hz]; rfl, hf⟩)
theorem tried_lt {a b c x2 : Nat} {xs : List Nat} (T : TriedL a b c xs x2) {j z : Nat} (h : xs[j]? = some z) : z < 65536 := by
  obtain ⟨x0, x1, rfl, R⟩ := T
  have h0 := R.h0
  have h1 := R.h1
  have h2 := R.h2
  have : j = 0 ∨ j = 1 ∨ j = 2 := by
    rcases Nat.lt_or_ge j 3 with q | q
    · omega
    · rw [List.getElem?_eq_none (by simpa using q)] at h; cases h
  rcases this with rfl | rfl | rfl <;> (cases h; assumption)
theorem tried_len {a b c x2 : Nat} {xs : List Nat} (T : TriedL a b c xs x2) : xs.length = 3 := by
  obtain ⟨x0, x1, rfl, R⟩ := T
  rfl
theorem take3 {α : Type} {l : List α} (h : l.length = 3) : l.take 3 = l := List.take_of_length_le (by omega)
theorem tabOf_len (a b c : Nat) (xs : List Nat) : (tabOf a b c xs).length = 3 := rfl
theorem off1_base {D I C X D2 : Addr} {oI oC oX oD : Obj} {base lb : List (Addr × Obj)} (o : LCg.Off1 D2 ((I, oI) :: (C, oC) :: (X, oX) :: (D, oD) :: (base ++ lb))) : ∀ q ∈ base, @Ne Nat q.1 D2 := fun q hq =>
  off1_mem o q (.tail _ (.tail _ (.tail _ (.tail _ (List.mem_append_left _ hq)))))
theorem store_N {M : Model} {A : Around} {E : Value → Shared → Prop} {s : Shared} {env : Env} {h₀ : Heap} {L : Addr} {m : Str → Option Value} {x : Str} {v : Value} {v₀ : Option Value} {c : Addr} {o : Obj} {pre cs tl : List (Addr × Obj)} {Q : Unit → Shared → Prop}
    (F : Fr h₀ L s.heap m) (N : News h₀ L s.heap (pre ++ (c, o) :: (cs ++ tl))) (hd : o.data = .cell v₀) (hpre : ∀ p ∈ pre, ∀ u, p.2.data ≠ .cell u) (hcs : ∀ p ∈ cs, @Ne Nat p.1 c) (htl : ∀ p ∈ tl, @Ne Nat p.1 c)
    (hc : env.cells.lookup x = some c) (hk : env.scope.kind = .function) (hx : env.kindOf x = some .cell)
    (h : ∀ h' o', Fr h₀ L h' m → News h₀ L h' (pre ++ (c, o') :: (cs ++ tl)) → o'.data = .cell (some v) → Q () { s with heap := h' }) : wpAny M A (storeName env x v) Q E s := by
  have hm : (c, o) ∈ pre ++ (c, o) :: (cs ++ tl) := List.mem_append_right _ (.head _)
  have z := N (c, o) hm
  refine wpAny_storeName_cell hk hx hc ⟨o, z.1, hd⟩ fun h' hv hs => ?_
  obtain ⟨o', ho', hd'⟩ := hv
  refine h h' o' (F.change hs z.2.1 z.2.2) (fun p hp => ?_) hd'
  rcases List.mem_append.mp hp with q | q
  · have zp := N p (List.mem_append_left _ q)
    refine ⟨hs.extBut _ _ (fun e => ?_) zp.1, zp.2⟩
    have e' : p.1 = c := e
    have h1 := zp.1
    rw [e', z.1] at h1
    have h2 : o = p.2 := Option.some.inj h1
    exact hpre p q v₀ (by rw [← h2]; exact hd)
  · rcases List.mem_cons.mp q with rfl | q
    · exact ⟨ho', z.2⟩
    · have zp := N p (List.mem_append_right _ (.tail _ q))
      refine ⟨hs.extBut _ _ ?_ zp.1, zp.2⟩
      rcases List.mem_append.mp q with q | q
      · exact hcs p q
      · exact htl p q
end Mine
end
theorem Mine.rs_LawR : True ∧ True := by
  (try (walk1; fail))
  exact ⟨trivial, trivial⟩
section
open PySem PySem.W PyProof.Rows PySem.Calls PySem.Spec
set_option maxRecDepth 100000
namespace Mine
open PyProof.Rows.LCg
theorem off1_of {D : Addr} : ∀ {l : List (Addr × Obj)}, (∀ p ∈ l, @Ne Nat p.1 D) → LCg.Off1 D l
  | [], _ => trivial
  | _ :: _, h => ⟨h _ (.head _), off1_of fun p hp => h p (.tail _ hp)⟩
noncomputable def boolsD (bs : List Bool) : PyData := .list (bs.map PyData.bool)
noncomputable def tabD (bss : List (List Bool)) : PyData := .list (bss.map boolsD)
theorem readsAll_bools {h : Heap} : ∀ bs : List Bool, ReadsAll h (bs.map Value.bool) (bs.map PyData.bool) []
  | [] => .nil
  | b :: r => ReadsAll.cons (Reads.bool b) (readsAll_bools r)
theorem reads_row {h₀ h : Heap} {L D : Addr} {nws : List (Addr × Obj)} {bs : List Bool} (N : News h₀ L h nws) (hm : (D, lst (bs.map Value.bool)) ∈ nws) : Reads h (.ref D) (boolsD bs) [D] :=
  Reads.list (N _ hm).1 rfl rfl (readsAll_bools bs)
theorem readsAll_rows {h₀ h : Heap} {L : Addr} {nws lb : List (Addr × Obj)} (N : News h₀ L h nws) (hsub : ∀ p ∈ lb, p ∈ nws) : ∀ {ys : List Value} {bss : List (List Bool)}, AreV (fL lb) ys bss → ∃ as, ReadsAll h ys (bss.map boolsD) as
  | [], [], _ => ⟨[], .nil⟩
  | [], _ :: _, R => by have := R.1; simp at this
  | _ :: _, [], R => by have := R.1; simp at this
  | v :: ys, bs :: bss, R => by
    obtain ⟨u, hu, l, rfl, hl⟩ := R.2 0 bs rfl
    have e : v = .ref l := by simpa using hu
    subst e
    have R' : AreV (fL lb) ys bss := ⟨by have := R.1; simpa using this, fun i x hx => by have := R.2 (i + 1) x (by simpa using hx); simpa using this⟩
    obtain ⟨as, ha⟩ := readsAll_rows N hsub R'
    exact ⟨_, ReadsAll.cons (reads_row N (hsub _ hl)) ha⟩
theorem reads_tab {h₀ h : Heap} {L D : Addr} {nws lb : List (Addr × Obj)} {ys : List Value} {bss : List (List Bool)} (N : News h₀ L h nws) (hm : (D, lst ys) ∈ nws) (R : AreV (fL lb) ys bss) (hsub : ∀ p ∈ lb, p ∈ nws) : ∃ as, Reads h (.ref D) (tabD bss) as := by
  obtain ⟨as, ha⟩ := readsAll_rows N hsub R
  exact ⟨_, Reads.list (N _ hm).1 rfl rfl (by simpa using ha)⟩
theorem eqvAll_bools : ∀ bs : List Bool, PyData.eqvAll (bs.map PyData.bool) (bs.map PyData.bool) = true
  | [] => rfl
  | b :: r => by simp [PyData.eqvAll, PyData.eqv, eqvAll_bools r]
theorem eqv_row (bs : List Bool) : PyData.eqv (boolsD bs) (boolsD bs) = true := by
  unfold boolsD
  simp [PyData.eqv, eqvAll_bools]
theorem eqvAll_rows : ∀ bss : List (List Bool), PyData.eqvAll (bss.map boolsD) (bss.map boolsD) = true
  | [] => rfl
  | b :: r => by simp [PyData.eqvAll, eqv_row, eqvAll_rows r]
theorem eqv_tab (bss : List (List Bool)) : PyData.eqv (tabD bss) (tabD bss) = true := by
  unfold tabD
  simp [PyData.eqv, eqvAll_rows]
theorem shaped_row3 (p q r : Bool) : SeqAt.shaped (boolsD [p, q, r]) = true := by rfl
theorem shaped_tab3 (a1 a2 a3 b1 b2 b3 c1 c2 c3 : Bool) : SeqAt.shaped (tabD [[a1, a2, a3], [b1, b2, b3], [c1, c2, c3]]) = true := by rfl
theorem shaped_tab {a b c x2 : Nat} {xs : List Nat} (T : TriedL a b c xs x2) : SeqAt.shaped (tabD (tabOf a b c xs)) = true := by
  obtain ⟨x0, x1, rfl, -⟩ := T
  exact shaped_tab3 _ _ _ _ _ _ _ _ _
theorem dec0 (n : Nat) : decide (((n : Nat) : Int) = 0) = decide (n = 0) := by rw [decide_eq_decide]; omega
noncomputable def lastOf (a b c : Nat) (xs : List Nat) : List Bool := xs.map fun z => decide (trues ((pairsOf a b c).map fun p => dueB p.1 p.2 z) = 3)
theorem last_is {a b c tu x2 : Nat} {xs : List Nat} (T : Three a b c tu) (R : TriedL a b c xs x2) : lastOf a b c xs = xs.map fun (z : Nat) => decide ((z : Int) = (x2 : Int)) := by
  obtain ⟨x0, x1, rfl, h⟩ := R
  unfold lastOf
  simp only [List.map_cons, List.map_nil]
  rw [three_true T h h.h0, three_true T h h.h1, three_true T h h.h2]
  simp
theorem shaped_last {a b c x2 : Nat} {xs : List Nat} (T : TriedL a b c xs x2) : SeqAt.shaped (boolsD (lastOf a b c xs)) = true := by
  obtain ⟨x0, x1, rfl, -⟩ := T
  exact shaped_row3 _ _ _
noncomputable def PBool (base : List (Addr × Obj)) (bs : List Bool) (i : Nat) (ys : List Value) (news : List (Addr × Obj)) : Prop := news = base ∧ AreV fB ys (bs.take i)
theorem PBool.start (base : List (Addr × Obj)) (bs : List Bool) : PBool base bs 0 [] base := ⟨rfl, by rw [List.take_zero]; exact AreV.nil⟩
theorem col_at {a b c : Nat} {xs : List Nat} {i j z : Nat} {bs : List Bool} (h : (tabOf a b c xs)[i]? = some bs) (hz : xs[j]? = some z) : ∃ p, (pairsOf a b c)[i]? = some p ∧ bs[j]? = some (dueB p.1 p.2 z) := by
  unfold tabOf at h
  rw [List.getElem?_map] at h
  cases hp : (pairsOf a b c)[i]? with
  | none => rw [hp] at h; cases h
  | some p =>
    rw [hp] at h
    cases h
    exact ⟨p, rfl, by rw [List.getElem?_map, hz]; rfl⟩
theorem bools_are (bs : List Bool) : AreV fB (bs.map Value.bool) bs := ⟨by simp, fun i x hx => ⟨.bool x, by rw [List.getElem?_map, hx]; rfl, rfl⟩⟩
theorem lt_len {α : Type} {xs : List α} {n i : Nat} (h : xs.length = n) (hi : i < n) : ∃ x, xs[i]? = some x := ⟨_, List.getElem?_eq_getElem (by omega)⟩
theorem beq0 (n : Nat) : ((((n : Nat) : Int) == 0) : Bool) = decide (n = 0) := by
  rw [Bool.eq_iff_iff, beq_iff_eq, decide_eq_true_eq]
  omega
theorem beqI (n m : Int) : (n == m) = decide (n = m) := by
  rw [Bool.eq_iff_iff, beq_iff_eq, decide_eq_true_eq]
noncomputable def colOf (a b c z : Nat) : List Bool := (pairsOf a b c).map fun p => dueB p.1 p.2 z
theorem col_bools {a b c z n : Nat} {ys : List Value} (hl : ys.length = n) (hn : n = 3) (h : ∀ (j : Nat) v, ys[j]? = some v → ∃ p, (pairsOf a b c)[j]? = some p ∧ fB (dueB p.1 p.2 z) v) : ys = (colOf a b c z).map Value.bool :=
  AreV.bools (AreV.of (by rw [hl, hn]; rfl) fun j v hv => let ⟨p, hp, hf⟩ := h j v hv; ⟨dueB p.1 p.2 z, by unfold colOf; rw [List.getElem?_map, hp]; rfl, hf⟩)
theorem last_at {a b c z j : Nat} {xs : List Nat} (hz : xs[j]? = some z) : (lastOf a b c xs)[j]? = some (decide (trues (colOf a b c z) = 3)) := by
  unfold lastOf colOf
  rw [List.getElem?_map, hz]
  rfl
theorem mid_bools {xs : List Nat} {x2 n : Nat} {ys : List Value} (hl : ys.length = n) (hn : n = xs.length) (h : ∀ (j : Nat) v, ys[j]? = some v → ∃ z : Nat, xs[j]? = some z ∧ fB (decide ((z : Int) = (x2 : Int))) v) : ys = (xs.map fun (z : Nat) => decide ((z : Int) = (x2 : Int))).map Value.bool :=
  AreV.bools (AreV.of (by rw [hl, hn, List.length_map]) fun j v hv => let ⟨z, hz, hf⟩ := h j v hv; ⟨_, by rw [List.getElem?_map, hz]; rfl, hf⟩)
theorem lastOf_len {a b c : Nat} {xs : List Nat} (h : xs.length = 3) : (lastOf a b c xs).length = 3 := by unfold lastOf; rw [List.length_map, h]
end Mine
end
theorem Mine.rs_FLw : True ∧ True := by
  (try (walk1; fail))
  exact ⟨trivial, trivial⟩
section
open PySem PySem.W PyProof.Rows PySem.Calls PySem.Spec
set_option maxRecDepth 100000
set_option maxHeartbeats 8000000
namespace Mine
theorem start_in {i : Nat} (h : i < 3) : 0 ≤ ([488, 2509, 932] : List Int).getD (i : Int).toNat 0 ∧ ([488, 2509, 932] : List Int).getD (i : Int).toNat 0 < 4096 := by
  have : i = 0 ∨ i = 1 ∨ i = 2 := by omega
  rcases this with rfl | rfl | rfl <;> decide
noncomputable def LawMark (_ : Nat) : Prop := True
theorem menu_at {r : Int} (h0 : 0 ≤ r) (h1 : r < 7) {a b c d e f g : Tok} : ∃ v t, [Value.int 1 a, Value.int 2 b, Value.int 4 c, Value.int 6 d, Value.int 8 e, Value.int 10 f, Value.int 12 g][r.toNat]? = some (Value.int v t) ∧ (v = 1 ∨ v = 2 ∨ v = 4 ∨ v = 6 ∨ v = 8 ∨ v = 10 ∨ v = 12) := by
  have hr : r.toNat = 0 ∨ r.toNat = 1 ∨ r.toNat = 2 ∨ r.toNat = 3 ∨ r.toNat = 4 ∨ r.toNat = 5 ∨ r.toNat = 6 := by omega
  rcases hr with h | h | h | h | h | h | h <;> rw [h]
  · exact ⟨1, a, rfl, by omega⟩
  · exact ⟨2, b, rfl, by omega⟩
  · exact ⟨4, c, rfl, by omega⟩
  · exact ⟨6, d, rfl, by omega⟩
  · exact ⟨8, e, rfl, by omega⟩
  · exact ⟨10, f, rfl, by omega⟩
  · exact ⟨12, g, rfl, by omega⟩
theorem menu_item {prog : Program} {w : World} {A : Around} {E : Value → Shared → Prop} {s : Shared} {h₀ : Heap} {L : Addr} {nws : List (Addr × Obj)} {value slice : PySem.Expr} {l : Addr} {a b c d e f g u : Tok} {r : Int} {nn : Nat} {Q : Value → Shared → Prop} (N : News h₀ L s.heap nws)
    (hm : (l, listOf [Value.int 1 a, Value.int 2 b, Value.int 4 c, Value.int 6 d, Value.int 8 e, Value.int 10 f, Value.int 12 g].toArray nn) ∈ nws) (h0 : 0 ≤ r) (h1 : r < 7)
    (h : ∀ v t, (v = 1 ∨ v = 2 ∨ v = 4 ∨ v = 6 ∨ v = 8 ∨ v = 10 ∨ v = 12) → Q (.int v t) s)
    (hs : subscripted slice false (.ref l) (.int r u) = operate [.ref l, .int r u] (getItem (.ref l) (.int r u)) := by with_unfolding_all rfl) :
    wpAny (model prog w) A (subscriptTail value slice (.ref l) (.int r u)) Q E s := by
  obtain ⟨v, t, e, hv⟩ := menu_at h0 h1 (a := a) (b := b) (c := c) (d := d) (e := e) (f := f) (g := g)
  have hl := News.isList N hm
  exact tail_any hl.typeIs slot_list_getitem.lookup (wpAny_getItem_list hl h0 (by omega) (by simpa using e) (h v t hv)) hs
section
local macro_rules | `(tactic| walk_at $s:str) => if ["KswEnd", "callWith ref", "call ref", "CompSrc", "CompEnd", "compareOp NotEq ref ref", "compareOp Eq ref ref"].contains s.getString then `(tactic| refine Halt.out ?_) else Lean.Macro.throwUnsupported
local macro_rules | `(tactic| walk_at $s:str) => if ["subscriptTail"].contains s.getString then `(tactic| with_reducible refine haltM (m := LawMark 2) (by assumption) ?_) else Lean.Macro.throwUnsupported
local macro_rules | `(tactic| walk_at $s:str) => if ["exec Assign cons ListComp"].contains s.getString then `(tactic| with_reducible refine haltM (m := LawMark 3) (by assumption) ?_) else Lean.Macro.throwUnsupported
local macro_rules | `(tactic| walk_at $s:str) => if ["storeName"].contains s.getString then `(tactic| with_reducible refine haltM (m := LawMark 5) (by assumption) ?_) else Lean.Macro.throwUnsupported
local macro_rules | `(tactic| walk_at $s:str) => if ["eval ListComp"].contains s.getString then `(tactic| with_reducible refine haltM (m := LawMark 4) (by assumption) ?_) else Lean.Macro.throwUnsupported
local macro_rules | `(tactic| walk_at $s:str) => if ["subscriptTail"].contains s.getString then `(tactic| with_reducible refine haltM (m := LawMark 1) (by assumption) ?_) else Lean.Macro.throwUnsupported
local macro_rules | `(tactic| k_ne) => `(tactic| (refine neN ?_; (try dsimp only); first | (simp only [*, ne_eq, not_false_eq_true]; done) | (refine Ne.symm ?_; simp only [*, ne_eq, not_false_eq_true]; done) | omega))
set_option maxHeartbeats 8000000 in
theorem law_holds : PySem.Challenge.rw_rx0053_01.Holds := Mine.hd (by
  k_fill
  intro w s₀ s₁ mg mb G Y fa o pm cd doc dV kV ho hd hcd hD hmg hg args vals as hpre hlay hrd hwl hlo
  (try dsimp only [lawD] at hmg)
  (try dsimp only [lawD] at ho)
  (try dsimp only [lawD] at hd)
  (try dsimp only [lawD] at hcd)
  (try dsimp only [lawD] at hD)
  (try dsimp only [lawD])
  have KX := km_in_of Y
  km_tabs Y
  have X := (Ground.X G).1
  have V := (Ground.X G).2
  refine Ground.open G ?_
  intro T B D TE TW
  try (refine guard_noD D (by decide +kernel) ?_; clear D)
  km_lay T hmg ho hd cd
  clear hmg
  wrow_args hpre hlay hrd hwl hlo
  all_goals (
    first | refine callC_kw (enter_call ?_) | refine enter_call ?_
    w_top on
    refine end_post hT9 (fun _ => rfl) (by first | wrow_post | (simp; done) | (unfold Challenge.rw_rx0053_01; rfl)) ?_
    w_call any ho hd hcd hD T F
    clear hd
    kn_ghosts F T
    k_drop
    skip)
  (all_goals try k_fold)
  (rename Fr _ _ _ _ => F00)
  have F0 : Fr _ _ _ (fun y => if y = Str.ofString "script" then some (Value.ref _) else none) := F00
  clear F00
  repeat (first | (with_reducible first | (refine one_cut5 s₁.gens s₁.drawn s₁.os ?_; intro tkC) | (refine cons_cut5 s₁.gens s₁.drawn s₁.os ?_; intro tkC qC hC)) | (k_unfold; (try dsimp only)) | walk1 | (with_reducible first | refine CutQ.next (by assumption) ?_ | refine CutQ.ret (by assumption) ?_ | refine CutQ.brk (by assumption) ?_ | refine CutQ.cont (by assumption) ?_ | refine EndQ.ret (by assumption) ?_ | refine EndQ.next (by assumption) ?_) | ((refine Halt.out' ?_); first | (with_reducible ((show wpAny _ _ (subscriptTail _ _ (Value.ref _) (Value.int _ _)) _ _ _); ((with_reducible rename LawMark 2 => jmX); (rename News _ _ _ _ => cN); (rename AreV fI _ _ => cR); k_dflt (first | refine item_V (k := 0) cN (by k_mem) cR (by rfl) (by rfl) (by decide) ?_ | refine item_V (k := 1) cN (by k_mem) cR (by rfl) (by rfl) (by decide) ?_ | refine item_V (k := 2) cN (by k_mem) cR (by rfl) (by rfl) (by decide) ?_); intro vX hX; k_dflt (obtain ⟨t', e'⟩ := hX); subst e'))) | (with_reducible ((show wpAny _ _ (call (Value.ref _) _) _ _ _); ((rename Fr _ _ _ _ => cF); (rename News _ _ _ _ => cN); (first | ((with_reducible show wpAny _ _ (call (Value.ref 38) _) _ _ _); k_dflt (refine Fn.use' (k := 400) (andN_fn _ _ _ _ _) (by k_asm) cF (by k_asm) cN (by k_asm) (by rfl) (by rfl) (by decide) (by decide) (by decide) trivial ?_)) | ((with_reducible show wpAny _ _ (call (Value.ref 45) _) _ _ _); k_dflt (refine Fn.use' (k := 400) (orN_fn _ _ _ _ _) (by k_asm) cF (by k_asm) cN (by k_asm) (by rfl) (by rfl) (by decide) (by decide) (by decide) trivial ?_)) | ((with_reducible show wpAny _ _ (call (Value.ref 52) _) _ _ _); k_dflt (refine Fn.use' (k := 400) (xorN_fn _ _ _ _ _) (by k_asm) cF (by k_asm) cN (by k_asm) (by rfl) (by rfl) (by decide) (by decide) (by decide) trivial ?_))); intro v' h' tk' F' N' K' P'; clear cF cN; k_dflt (obtain ⟨t', e'⟩ := P'); subst e'; clear K'))) | (with_reducible ((show wpAny _ _ (callWith _ (Value.ref _) _ _ _) _ _ _); (k_here; k_dflt (refine' callWith_K ?k1 ?k2 ?_; (case k1 => k_asm); (case k2 => k_is); k_whole)))) | ((k_here; (with_reducible show wpAny _ _ (subscriptTail _ _ (Value.str _ _) (Value.int _ _)) _ _ _); (refine item_at (by omega) (by omega) (by omega) ?_); intro kxiE)) | (with_reducible ((show @ite _ _ _ _ _); ((refine ite_both (fun hc => ?_) (fun hc => ?_)); (all_goals (try simp only [beq_iff_eq, decide_eq_true_eq] at hc)))))) | (dsimp only; walk1) | fail "no step")
  refine Halt.out' ?_
  rename Top _ _ _ _ _ _ => TT
  rename Below _ _ _ _ => BB
  rename Frag.In _ _ => XX
  (rename Fr _ _ _ _ => F1); (rename News _ _ _ _ => N1); (rename IntsAre _ _ => hI1)
  refine Fn.use' (k := 400) (drawn7_fn _ _ _ _ _ _ _ hI1) BB F1 XX N1 TT (by rfl) (by rfl) (by decide) (by decide) (by decide) (News.isList N1 (.head _)) ?_
  rintro v1 h1 tk1 F2 N2 K2 ⟨r1, t1, rfl, hr0, hr1⟩
  clear F1 N1 K2
  have jm : LawMark 1 := trivial
  repeat (first | (with_reducible first | (refine one_cut5 s₁.gens s₁.drawn s₁.os ?_; intro tkC) | (refine cons_cut5 s₁.gens s₁.drawn s₁.os ?_; intro tkC qC hC)) | (k_unfold; (try dsimp only)) | walk1 | (with_reducible first | refine CutQ.next (by assumption) ?_ | refine CutQ.ret (by assumption) ?_ | refine CutQ.brk (by assumption) ?_ | refine CutQ.cont (by assumption) ?_ | refine EndQ.ret (by assumption) ?_ | refine EndQ.next (by assumption) ?_) | ((refine Halt.out' ?_); first | (with_reducible ((show wpAny _ _ (subscriptTail _ _ (Value.ref _) (Value.int _ _)) _ _ _); ((with_reducible rename LawMark 2 => jmX); (rename News _ _ _ _ => cN); (rename AreV fI _ _ => cR); k_dflt (first | refine item_V (k := 0) cN (by k_mem) cR (by rfl) (by rfl) (by decide) ?_ | refine item_V (k := 1) cN (by k_mem) cR (by rfl) (by rfl) (by decide) ?_ | refine item_V (k := 2) cN (by k_mem) cR (by rfl) (by rfl) (by decide) ?_); intro vX hX; k_dflt (obtain ⟨t', e'⟩ := hX); subst e'))) | (with_reducible ((show wpAny _ _ (call (Value.ref _) _) _ _ _); ((rename Fr _ _ _ _ => cF); (rename News _ _ _ _ => cN); (first | ((with_reducible show wpAny _ _ (call (Value.ref 38) _) _ _ _); k_dflt (refine Fn.use' (k := 400) (andN_fn _ _ _ _ _) (by k_asm) cF (by k_asm) cN (by k_asm) (by rfl) (by rfl) (by decide) (by decide) (by decide) trivial ?_)) | ((with_reducible show wpAny _ _ (call (Value.ref 45) _) _ _ _); k_dflt (refine Fn.use' (k := 400) (orN_fn _ _ _ _ _) (by k_asm) cF (by k_asm) cN (by k_asm) (by rfl) (by rfl) (by decide) (by decide) (by decide) trivial ?_)) | ((with_reducible show wpAny _ _ (call (Value.ref 52) _) _ _ _); k_dflt (refine Fn.use' (k := 400) (xorN_fn _ _ _ _ _) (by k_asm) cF (by k_asm) cN (by k_asm) (by rfl) (by rfl) (by decide) (by decide) (by decide) trivial ?_))); intro v' h' tk' F' N' K' P'; clear cF cN; k_dflt (obtain ⟨t', e'⟩ := P'); subst e'; clear K'))) | (with_reducible ((show wpAny _ _ (callWith _ (Value.ref _) _ _ _) _ _ _); (k_here; k_dflt (refine' callWith_K ?k1 ?k2 ?_; (case k1 => k_asm); (case k2 => k_is); k_whole)))) | ((k_here; (with_reducible show wpAny _ _ (subscriptTail _ _ (Value.str _ _) (Value.int _ _)) _ _ _); (refine item_at (by omega) (by omega) (by omega) ?_); intro kxiE)) | (with_reducible ((show @ite _ _ _ _ _); ((refine ite_both (fun hc => ?_) (fun hc => ?_)); (all_goals (try simp only [beq_iff_eq, decide_eq_true_eq] at hc)))))) | (dsimp only; walk1) | fail "no step")
  refine Halt.out' ?_
  rename LawMark 1 => jm
  clear jm
  (rename News _ _ _ _ => N3)
  refine menu_item N3 (by k_mem) hr0 hr1 ?_
  intro v3 t3 hv3
  rename IntsAre _ (List.take 16 _) => hIn
  rename (List.take 16 _).length = min 16 _ => hln
  have hlv := IntsAre.length hIn
  have h16 : List.length _ ≤ 16 := Nat.le_trans (Nat.le_of_eq (hlv.trans hln)) (Nat.min_le_left _ _)
  clear hlv hln
  repeat (first | (with_reducible first | (refine one_cut5 s₁.gens s₁.drawn s₁.os ?_; intro tkC) | (refine cons_cut5 s₁.gens s₁.drawn s₁.os ?_; intro tkC qC hC)) | (k_unfold; (try dsimp only)) | walk1 | (with_reducible first | refine CutQ.next (by assumption) ?_ | refine CutQ.ret (by assumption) ?_ | refine CutQ.brk (by assumption) ?_ | refine CutQ.cont (by assumption) ?_ | refine EndQ.ret (by assumption) ?_ | refine EndQ.next (by assumption) ?_) | ((refine Halt.out' ?_); first | (with_reducible ((show wpAny _ _ (subscriptTail _ _ (Value.ref _) (Value.int _ _)) _ _ _); ((with_reducible rename LawMark 2 => jmX); (rename News _ _ _ _ => cN); (rename AreV fI _ _ => cR); k_dflt (first | refine item_V (k := 0) cN (by k_mem) cR (by rfl) (by rfl) (by decide) ?_ | refine item_V (k := 1) cN (by k_mem) cR (by rfl) (by rfl) (by decide) ?_ | refine item_V (k := 2) cN (by k_mem) cR (by rfl) (by rfl) (by decide) ?_); intro vX hX; k_dflt (obtain ⟨t', e'⟩ := hX); subst e'))) | (with_reducible ((show wpAny _ _ (call (Value.ref _) _) _ _ _); ((rename Fr _ _ _ _ => cF); (rename News _ _ _ _ => cN); (first | ((with_reducible show wpAny _ _ (call (Value.ref 38) _) _ _ _); k_dflt (refine Fn.use' (k := 400) (andN_fn _ _ _ _ _) (by k_asm) cF (by k_asm) cN (by k_asm) (by rfl) (by rfl) (by decide) (by decide) (by decide) trivial ?_)) | ((with_reducible show wpAny _ _ (call (Value.ref 45) _) _ _ _); k_dflt (refine Fn.use' (k := 400) (orN_fn _ _ _ _ _) (by k_asm) cF (by k_asm) cN (by k_asm) (by rfl) (by rfl) (by decide) (by decide) (by decide) trivial ?_)) | ((with_reducible show wpAny _ _ (call (Value.ref 52) _) _ _ _); k_dflt (refine Fn.use' (k := 400) (xorN_fn _ _ _ _ _) (by k_asm) cF (by k_asm) cN (by k_asm) (by rfl) (by rfl) (by decide) (by decide) (by decide) trivial ?_))); intro v' h' tk' F' N' K' P'; clear cF cN; k_dflt (obtain ⟨t', e'⟩ := P'); subst e'; clear K'))) | (with_reducible ((show wpAny _ _ (callWith _ (Value.ref _) _ _ _) _ _ _); (k_here; k_dflt (refine' callWith_K ?k1 ?k2 ?_; (case k1 => k_asm); (case k2 => k_is); k_whole)))) | ((k_here; (with_reducible show wpAny _ _ (subscriptTail _ _ (Value.str _ _) (Value.int _ _)) _ _ _); (refine item_at (by omega) (by omega) (by omega) ?_); intro kxiE)) | (with_reducible ((show @ite _ _ _ _ _); ((refine ite_both (fun hc => ?_) (fun hc => ?_)); (all_goals (try simp only [beq_iff_eq, decide_eq_true_eq] at hc)))))) | (dsimp only; walk1) | fail "no step")
  refine Halt.out' ?_
  (rename Fr _ _ _ _ => F4); (rename News _ _ _ _ => N4)
  refine Fn.use' (k := 400) (hand_fn _ _ _ _ 3 1 _ _ hIn h16 (by decide) (by decide) (by decide)) BB F4 XX N4 TT (by rfl) (by rfl) (by decide) (by decide) (by decide) (News.isList N4 (by k_mem)) ?_
  rintro v4 h4 tk4 F5 N5 - ⟨r4, t4, rfl, hr40, hr41⟩
  clear F4 N4
  repeat (first | (with_reducible first | (refine one_cut5 s₁.gens s₁.drawn s₁.os ?_; intro tkC) | (refine cons_cut5 s₁.gens s₁.drawn s₁.os ?_; intro tkC qC hC)) | (k_unfold; (try dsimp only)) | walk1 | (with_reducible first | refine CutQ.next (by assumption) ?_ | refine CutQ.ret (by assumption) ?_ | refine CutQ.brk (by assumption) ?_ | refine CutQ.cont (by assumption) ?_ | refine EndQ.ret (by assumption) ?_ | refine EndQ.next (by assumption) ?_) | ((refine Halt.out' ?_); first | (with_reducible ((show wpAny _ _ (subscriptTail _ _ (Value.ref _) (Value.int _ _)) _ _ _); ((with_reducible rename LawMark 2 => jmX); (rename News _ _ _ _ => cN); (rename AreV fI _ _ => cR); k_dflt (first | refine item_V (k := 0) cN (by k_mem) cR (by rfl) (by rfl) (by decide) ?_ | refine item_V (k := 1) cN (by k_mem) cR (by rfl) (by rfl) (by decide) ?_ | refine item_V (k := 2) cN (by k_mem) cR (by rfl) (by rfl) (by decide) ?_); intro vX hX; k_dflt (obtain ⟨t', e'⟩ := hX); subst e'))) | (with_reducible ((show wpAny _ _ (call (Value.ref _) _) _ _ _); ((rename Fr _ _ _ _ => cF); (rename News _ _ _ _ => cN); (first | ((with_reducible show wpAny _ _ (call (Value.ref 38) _) _ _ _); k_dflt (refine Fn.use' (k := 400) (andN_fn _ _ _ _ _) (by k_asm) cF (by k_asm) cN (by k_asm) (by rfl) (by rfl) (by decide) (by decide) (by decide) trivial ?_)) | ((with_reducible show wpAny _ _ (call (Value.ref 45) _) _ _ _); k_dflt (refine Fn.use' (k := 400) (orN_fn _ _ _ _ _) (by k_asm) cF (by k_asm) cN (by k_asm) (by rfl) (by rfl) (by decide) (by decide) (by decide) trivial ?_)) | ((with_reducible show wpAny _ _ (call (Value.ref 52) _) _ _ _); k_dflt (refine Fn.use' (k := 400) (xorN_fn _ _ _ _ _) (by k_asm) cF (by k_asm) cN (by k_asm) (by rfl) (by rfl) (by decide) (by decide) (by decide) trivial ?_))); intro v' h' tk' F' N' K' P'; clear cF cN; k_dflt (obtain ⟨t', e'⟩ := P'); subst e'; clear K'))) | (with_reducible ((show wpAny _ _ (callWith _ (Value.ref _) _ _ _) _ _ _); (k_here; k_dflt (refine' callWith_K ?k1 ?k2 ?_; (case k1 => k_asm); (case k2 => k_is); k_whole)))) | ((k_here; (with_reducible show wpAny _ _ (subscriptTail _ _ (Value.str _ _) (Value.int _ _)) _ _ _); (refine item_at (by omega) (by omega) (by omega) ?_); intro kxiE)) | (with_reducible ((show @ite _ _ _ _ _); ((refine ite_both (fun hc => ?_) (fun hc => ?_)); (all_goals (try simp only [beq_iff_eq, decide_eq_true_eq] at hc)))))) | (dsimp only; walk1) | fail "no step")
  refine Halt.out' ?_
  (rename Fr _ _ _ _ => F6); (rename News _ _ _ _ => N6); (rename IntsAre _ _ => hI6)
  refine Fn.use' (k := 400) (drawn16_fn _ _ _ _ _ _ _ hI6) BB F6 XX N6 TT (by rfl) (by rfl) (by decide) (by decide) (by decide) (News.isList N6 (.head _)) ?_
  rintro v6 h6 tk6 F7 N7 - ⟨r6, t6, rfl, hr60, hr61⟩
  clear F6 N6
  repeat (first | (with_reducible first | (refine one_cut5 s₁.gens s₁.drawn s₁.os ?_; intro tkC) | (refine cons_cut5 s₁.gens s₁.drawn s₁.os ?_; intro tkC qC hC)) | (k_unfold; (try dsimp only)) | walk1 | (with_reducible first | refine CutQ.next (by assumption) ?_ | refine CutQ.ret (by assumption) ?_ | refine CutQ.brk (by assumption) ?_ | refine CutQ.cont (by assumption) ?_ | refine EndQ.ret (by assumption) ?_ | refine EndQ.next (by assumption) ?_) | ((refine Halt.out' ?_); first | (with_reducible ((show wpAny _ _ (subscriptTail _ _ (Value.ref _) (Value.int _ _)) _ _ _); ((with_reducible rename LawMark 2 => jmX); (rename News _ _ _ _ => cN); (rename AreV fI _ _ => cR); k_dflt (first | refine item_V (k := 0) cN (by k_mem) cR (by rfl) (by rfl) (by decide) ?_ | refine item_V (k := 1) cN (by k_mem) cR (by rfl) (by rfl) (by decide) ?_ | refine item_V (k := 2) cN (by k_mem) cR (by rfl) (by rfl) (by decide) ?_); intro vX hX; k_dflt (obtain ⟨t', e'⟩ := hX); subst e'))) | (with_reducible ((show wpAny _ _ (call (Value.ref _) _) _ _ _); ((rename Fr _ _ _ _ => cF); (rename News _ _ _ _ => cN); (first | ((with_reducible show wpAny _ _ (call (Value.ref 38) _) _ _ _); k_dflt (refine Fn.use' (k := 400) (andN_fn _ _ _ _ _) (by k_asm) cF (by k_asm) cN (by k_asm) (by rfl) (by rfl) (by decide) (by decide) (by decide) trivial ?_)) | ((with_reducible show wpAny _ _ (call (Value.ref 45) _) _ _ _); k_dflt (refine Fn.use' (k := 400) (orN_fn _ _ _ _ _) (by k_asm) cF (by k_asm) cN (by k_asm) (by rfl) (by rfl) (by decide) (by decide) (by decide) trivial ?_)) | ((with_reducible show wpAny _ _ (call (Value.ref 52) _) _ _ _); k_dflt (refine Fn.use' (k := 400) (xorN_fn _ _ _ _ _) (by k_asm) cF (by k_asm) cN (by k_asm) (by rfl) (by rfl) (by decide) (by decide) (by decide) trivial ?_))); intro v' h' tk' F' N' K' P'; clear cF cN; k_dflt (obtain ⟨t', e'⟩ := P'); subst e'; clear K'))) | (with_reducible ((show wpAny _ _ (callWith _ (Value.ref _) _ _ _) _ _ _); (k_here; k_dflt (refine' callWith_K ?k1 ?k2 ?_; (case k1 => k_asm); (case k2 => k_is); k_whole)))) | ((k_here; (with_reducible show wpAny _ _ (subscriptTail _ _ (Value.str _ _) (Value.int _ _)) _ _ _); (refine item_at (by omega) (by omega) (by omega) ?_); intro kxiE)) | (with_reducible ((show @ite _ _ _ _ _); ((refine ite_both (fun hc => ?_) (fun hc => ?_)); (all_goals (try simp only [beq_iff_eq, decide_eq_true_eq] at hc)))))) | (dsimp only; walk1) | fail "no step")
  refine Halt.out' ?_
  (rename Fr _ _ _ _ => F8); (rename News _ _ _ _ => N8); (rename IsRange _ _ _ _ _ _ _ _ => rg8)
  refine LCg.CompSrc.range (n := 3) (by rfl) F8 N8 rg8 (by decide) (by rfl) (by decide) ?_
  intro g8
  refine rest_P (fun _ y => ∃ r t, y = Value.int (4096 * v3 + r) t ∧ 0 ≤ r ∧ r < 4096) trivial ?turn ?fin
  case turn =>
    --<t
    rintro i9 _ I9 oI9 C9 oC9 D9 m9 ys9 h9 tk9 E9 hi9 ⟨t9, rfl⟩ hC9 hx9 F9 N9 off9 ne9
    clear F8 N8 rg8
    rw [Int.zero_add] at hx9
    simp only [LCg.Off3, and_true] at off9
    repeat (first | (with_reducible first | (refine one_cut5 s₁.gens s₁.drawn s₁.os ?_; intro tkC) | (refine cons_cut5 s₁.gens s₁.drawn s₁.os ?_; intro tkC qC hC)) | (k_unfold; (try dsimp only)) | walk1 | (with_reducible first | refine CutQ.next (by assumption) ?_ | refine CutQ.ret (by assumption) ?_ | refine CutQ.brk (by assumption) ?_ | refine CutQ.cont (by assumption) ?_ | refine EndQ.ret (by assumption) ?_ | refine EndQ.next (by assumption) ?_) | ((refine Halt.out' ?_); first | (with_reducible ((show wpAny _ _ (subscriptTail _ _ (Value.ref _) (Value.int _ _)) _ _ _); ((with_reducible rename LawMark 2 => jmX); (rename News _ _ _ _ => cN); (rename AreV fI _ _ => cR); k_dflt (first | refine item_V (k := 0) cN (by k_mem) cR (by rfl) (by rfl) (by decide) ?_ | refine item_V (k := 1) cN (by k_mem) cR (by rfl) (by rfl) (by decide) ?_ | refine item_V (k := 2) cN (by k_mem) cR (by rfl) (by rfl) (by decide) ?_); intro vX hX; k_dflt (obtain ⟨t', e'⟩ := hX); subst e'))) | (with_reducible ((show wpAny _ _ (call (Value.ref _) _) _ _ _); ((rename Fr _ _ _ _ => cF); (rename News _ _ _ _ => cN); (first | ((with_reducible show wpAny _ _ (call (Value.ref 38) _) _ _ _); k_dflt (refine Fn.use' (k := 400) (andN_fn _ _ _ _ _) (by k_asm) cF (by k_asm) cN (by k_asm) (by rfl) (by rfl) (by decide) (by decide) (by decide) trivial ?_)) | ((with_reducible show wpAny _ _ (call (Value.ref 45) _) _ _ _); k_dflt (refine Fn.use' (k := 400) (orN_fn _ _ _ _ _) (by k_asm) cF (by k_asm) cN (by k_asm) (by rfl) (by rfl) (by decide) (by decide) (by decide) trivial ?_)) | ((with_reducible show wpAny _ _ (call (Value.ref 52) _) _ _ _); k_dflt (refine Fn.use' (k := 400) (xorN_fn _ _ _ _ _) (by k_asm) cF (by k_asm) cN (by k_asm) (by rfl) (by rfl) (by decide) (by decide) (by decide) trivial ?_))); intro v' h' tk' F' N' K' P'; clear cF cN; k_dflt (obtain ⟨t', e'⟩ := P'); subst e'; clear K'))) | (with_reducible ((show wpAny _ _ (callWith _ (Value.ref _) _ _ _) _ _ _); (k_here; k_dflt (refine' callWith_K ?k1 ?k2 ?_; (case k1 => k_asm); (case k2 => k_is); k_whole)))) | ((k_here; (with_reducible show wpAny _ _ (subscriptTail _ _ (Value.str _ _) (Value.int _ _)) _ _ _); (refine item_at (by omega) (by omega) (by omega) ?_); intro kxiE)) | (with_reducible ((show @ite _ _ _ _ _); ((refine ite_both (fun hc => ?_) (fun hc => ?_)); (all_goals (try simp only [beq_iff_eq, decide_eq_true_eq] at hc)))))) | (dsimp only; walk1) | fail "no step")
    refine Halt.out' ?_
    (rename Fr _ _ _ _ => F10); (rename News _ _ _ _ => N10)
    refine Fn.use' (k := 400) (hand_fn _ _ _ _ i9 _ _ _ hIn h16 (Nat.lt_trans hi9 (by decide)) (start_in hi9).1 (start_in hi9).2) BB F10 XX N10 TT (by rfl) (by rfl) (by decide) (by decide) (by decide) (News.isList N10 (by k_mem)) ?_
    rintro v10 h10 tk10 F11 N11 - ⟨r10, t10, rfl, hr100, hr101⟩
    clear F10 N10
    repeat (first | (with_reducible first | (refine one_cut5 s₁.gens s₁.drawn s₁.os ?_; intro tkC) | (refine cons_cut5 s₁.gens s₁.drawn s₁.os ?_; intro tkC qC hC)) | (k_unfold; (try dsimp only)) | walk1 | (with_reducible first | refine CutQ.next (by assumption) ?_ | refine CutQ.ret (by assumption) ?_ | refine CutQ.brk (by assumption) ?_ | refine CutQ.cont (by assumption) ?_ | refine EndQ.ret (by assumption) ?_ | refine EndQ.next (by assumption) ?_) | ((refine Halt.out' ?_); first | (with_reducible ((show wpAny _ _ (subscriptTail _ _ (Value.ref _) (Value.int _ _)) _ _ _); ((with_reducible rename LawMark 2 => jmX); (rename News _ _ _ _ => cN); (rename AreV fI _ _ => cR); k_dflt (first | refine item_V (k := 0) cN (by k_mem) cR (by rfl) (by rfl) (by decide) ?_ | refine item_V (k := 1) cN (by k_mem) cR (by rfl) (by rfl) (by decide) ?_ | refine item_V (k := 2) cN (by k_mem) cR (by rfl) (by rfl) (by decide) ?_); intro vX hX; k_dflt (obtain ⟨t', e'⟩ := hX); subst e'))) | (with_reducible ((show wpAny _ _ (call (Value.ref _) _) _ _ _); ((rename Fr _ _ _ _ => cF); (rename News _ _ _ _ => cN); (first | ((with_reducible show wpAny _ _ (call (Value.ref 38) _) _ _ _); k_dflt (refine Fn.use' (k := 400) (andN_fn _ _ _ _ _) (by k_asm) cF (by k_asm) cN (by k_asm) (by rfl) (by rfl) (by decide) (by decide) (by decide) trivial ?_)) | ((with_reducible show wpAny _ _ (call (Value.ref 45) _) _ _ _); k_dflt (refine Fn.use' (k := 400) (orN_fn _ _ _ _ _) (by k_asm) cF (by k_asm) cN (by k_asm) (by rfl) (by rfl) (by decide) (by decide) (by decide) trivial ?_)) | ((with_reducible show wpAny _ _ (call (Value.ref 52) _) _ _ _); k_dflt (refine Fn.use' (k := 400) (xorN_fn _ _ _ _ _) (by k_asm) cF (by k_asm) cN (by k_asm) (by rfl) (by rfl) (by decide) (by decide) (by decide) trivial ?_))); intro v' h' tk' F' N' K' P'; clear cF cN; k_dflt (obtain ⟨t', e'⟩ := P'); subst e'; clear K'))) | (with_reducible ((show wpAny _ _ (callWith _ (Value.ref _) _ _ _) _ _ _); (k_here; k_dflt (refine' callWith_K ?k1 ?k2 ?_; (case k1 => k_asm); (case k2 => k_is); k_whole)))) | ((k_here; (with_reducible show wpAny _ _ (subscriptTail _ _ (Value.str _ _) (Value.int _ _)) _ _ _); (refine item_at (by omega) (by omega) (by omega) ?_); intro kxiE)) | (with_reducible ((show @ite _ _ _ _ _); ((refine ite_both (fun hc => ?_) (fun hc => ?_)); (all_goals (try simp only [beq_iff_eq, decide_eq_true_eq] at hc)))))) | (dsimp only; walk1) | fail "no step")
    refine Halt.out' ?_
    (rename Fr _ _ _ _ => cF); (rename News _ _ _ _ => cN)
    refine ⟨_, _, _, rfl, cF, fun p hp => cN p (List.mem_cons_of_mem _ hp), ?_, trivial, rfl, _, _, rfl, hr100, hr101⟩
    simp only [LCg.Off3, and_true]
    exact off9
    --t>
  case fin =>
    intro ys9 hl9 hy9
    unfold LCg.FinE
    intro D9 h9 tk9 F9 N9 off9
    clear F8 N8 rg8
    simp only [LCg.Off1, and_true] at off9
    obtain ⟨y0, y1, y2, rfl⟩ := three_of hl9
    obtain ⟨q0, u0, rfl, hq00, hq01⟩ := hy9 0 _ rfl
    obtain ⟨q1, u1, rfl, hq10, hq11⟩ := hy9 1 _ rfl
    obtain ⟨q2, u2, rfl, hq20, hq21⟩ := hy9 2 _ rfl
    clear hy9 hl9
    obtain ⟨a, b, c, tu, ea, eb, ec, et, hT⟩ := three_nat hv3 hq00 hq01 hq10 hq11 hq20 hq21 hr40 hr41 hr60 hr61
    rw [ea, eb, ec] at N9
    rw [et] at F9
    clear ea eb ec et hq00 hq01 hq10 hq11 hq20 hq21 hr40 hr41 hr60 hr61 hv3
    have R3 : AreV fI [Value.int (a : Int) u0, .int (b : Int) u1, .int (c : Int) u2] [a, b, c] := AreV.of rfl fun i v hv => by
      have : i = 0 ∨ i = 1 ∨ i = 2 := by
        rcases Nat.lt_or_ge i 3 with q | q
        · omega
        · rw [List.getElem?_eq_none (by simpa using q)] at hv; cases hv
      rcases this with rfl | rfl | rfl <;> (cases hv; exact ⟨_, rfl, _, rfl⟩)
    generalize [Value.int (a : Int) u0, .int (b : Int) u1, .int (c : Int) u2] = vs3 at N9 R3
    have jm2 : LawMark 2 := trivial
    (try dsimp only)
    repeat (first | (with_reducible first | (refine one_cut5 s₁.gens s₁.drawn s₁.os ?_; intro tkC) | (refine cons_cut5 s₁.gens s₁.drawn s₁.os ?_; intro tkC qC hC)) | (k_unfold; (try dsimp only)) | walk1 | (with_reducible first | refine CutQ.next (by assumption) ?_ | refine CutQ.ret (by assumption) ?_ | refine CutQ.brk (by assumption) ?_ | refine CutQ.cont (by assumption) ?_ | refine EndQ.ret (by assumption) ?_ | refine EndQ.next (by assumption) ?_) | ((refine Halt.out' ?_); first | (with_reducible ((show wpAny _ _ (subscriptTail _ _ (Value.ref _) (Value.int _ _)) _ _ _); ((with_reducible rename LawMark 2 => jmX); (rename News _ _ _ _ => cN); (rename AreV fI _ _ => cR); k_dflt (first | refine item_V (k := 0) cN (by k_mem) cR (by rfl) (by rfl) (by decide) ?_ | refine item_V (k := 1) cN (by k_mem) cR (by rfl) (by rfl) (by decide) ?_ | refine item_V (k := 2) cN (by k_mem) cR (by rfl) (by rfl) (by decide) ?_); intro vX hX; k_dflt (obtain ⟨t', e'⟩ := hX); subst e'))) | (with_reducible ((show wpAny _ _ (call (Value.ref _) _) _ _ _); ((rename Fr _ _ _ _ => cF); (rename News _ _ _ _ => cN); (first | ((with_reducible show wpAny _ _ (call (Value.ref 38) _) _ _ _); k_dflt (refine Fn.use' (k := 400) (andN_fn _ _ _ _ _) (by k_asm) cF (by k_asm) cN (by k_asm) (by rfl) (by rfl) (by decide) (by decide) (by decide) trivial ?_)) | ((with_reducible show wpAny _ _ (call (Value.ref 45) _) _ _ _); k_dflt (refine Fn.use' (k := 400) (orN_fn _ _ _ _ _) (by k_asm) cF (by k_asm) cN (by k_asm) (by rfl) (by rfl) (by decide) (by decide) (by decide) trivial ?_)) | ((with_reducible show wpAny _ _ (call (Value.ref 52) _) _ _ _); k_dflt (refine Fn.use' (k := 400) (xorN_fn _ _ _ _ _) (by k_asm) cF (by k_asm) cN (by k_asm) (by rfl) (by rfl) (by decide) (by decide) (by decide) trivial ?_))); intro v' h' tk' F' N' K' P'; clear cF cN; k_dflt (obtain ⟨t', e'⟩ := P'); subst e'; clear K'))) | (with_reducible ((show wpAny _ _ (callWith _ (Value.ref _) _ _ _) _ _ _); (k_here; k_dflt (refine' callWith_K ?k1 ?k2 ?_; (case k1 => k_asm); (case k2 => k_is); k_whole)))) | ((k_here; (with_reducible show wpAny _ _ (subscriptTail _ _ (Value.str _ _) (Value.int _ _)) _ _ _); (refine item_at (by omega) (by omega) (by omega) ?_); intro kxiE)) | (with_reducible ((show @ite _ _ _ _ _); ((refine ite_both (fun hc => ?_) (fun hc => ?_)); (all_goals (try simp only [beq_iff_eq, decide_eq_true_eq] at hc)))))) | (dsimp only; walk1) | fail "no step")
    refine Halt.out' ?_
    (rename Fr _ _ _ _ => F12); (rename News _ _ _ _ => N12)
    obtain ⟨vst, xs, N13, hlt, RT, hTL⟩ := tried_pack hT N12
    rename LawMark 2 => jm2
    clear N12 jm2
    rename AreV fI vs3 _ => R3
    have hl3 : vs3.length = 3 := R3.1
    refine LCg.CompSrc.ledger (its := vs3.toArray) (by rfl) F12 N13 (by k_mem) (size3 hl3) ?_
    intro g12
    refine rest_P (fun i y => ∃ x, [a, b, c][i]? = some x ∧ fR x y) (Or.inr ⟨_, by k_mem, rfl, _, rfl⟩) ?turn ?fin
    case turn =>
      --<t
      rintro i9 v9 I9 oI9 C9 oC9 D8 m9 ys9 h9 tk9 E9 hi9 hv9 hC9 hx9 F9 N9 off8 ne9
      clear F12 N13
      have hof := off8
      simp only [LCg.Off3, and_true] at off8
      obtain ⟨x, hx, t9, rfl⟩ := R3.at (at_arr hv9)
      repeat (first | (with_reducible first | (refine one_cut5 s₁.gens s₁.drawn s₁.os ?_; intro tkC) | (refine cons_cut5 s₁.gens s₁.drawn s₁.os ?_; intro tkC qC hC)) | (k_unfold; (try dsimp only)) | walk1 | (with_reducible first | refine CutQ.next (by assumption) ?_ | refine CutQ.ret (by assumption) ?_ | refine CutQ.brk (by assumption) ?_ | refine CutQ.cont (by assumption) ?_ | refine EndQ.ret (by assumption) ?_ | refine EndQ.next (by assumption) ?_) | ((refine Halt.out' ?_); first | (with_reducible ((show wpAny _ _ (subscriptTail _ _ (Value.ref _) (Value.int _ _)) _ _ _); ((with_reducible rename LawMark 2 => jmX); (rename News _ _ _ _ => cN); (rename AreV fI _ _ => cR); k_dflt (first | refine item_V (k := 0) cN (by k_mem) cR (by rfl) (by rfl) (by decide) ?_ | refine item_V (k := 1) cN (by k_mem) cR (by rfl) (by rfl) (by decide) ?_ | refine item_V (k := 2) cN (by k_mem) cR (by rfl) (by rfl) (by decide) ?_); intro vX hX; k_dflt (obtain ⟨t', e'⟩ := hX); subst e'))) | (with_reducible ((show wpAny _ _ (call (Value.ref _) _) _ _ _); ((rename Fr _ _ _ _ => cF); (rename News _ _ _ _ => cN); (first | ((with_reducible show wpAny _ _ (call (Value.ref 38) _) _ _ _); k_dflt (refine Fn.use' (k := 400) (andN_fn _ _ _ _ _) (by k_asm) cF (by k_asm) cN (by k_asm) (by rfl) (by rfl) (by decide) (by decide) (by decide) trivial ?_)) | ((with_reducible show wpAny _ _ (call (Value.ref 45) _) _ _ _); k_dflt (refine Fn.use' (k := 400) (orN_fn _ _ _ _ _) (by k_asm) cF (by k_asm) cN (by k_asm) (by rfl) (by rfl) (by decide) (by decide) (by decide) trivial ?_)) | ((with_reducible show wpAny _ _ (call (Value.ref 52) _) _ _ _); k_dflt (refine Fn.use' (k := 400) (xorN_fn _ _ _ _ _) (by k_asm) cF (by k_asm) cN (by k_asm) (by rfl) (by rfl) (by decide) (by decide) (by decide) trivial ?_))); intro v' h' tk' F' N' K' P'; clear cF cN; k_dflt (obtain ⟨t', e'⟩ := P'); subst e'; clear K'))) | (with_reducible ((show wpAny _ _ (callWith _ (Value.ref _) _ _ _) _ _ _); (k_here; k_dflt (refine' callWith_K ?k1 ?k2 ?_; (case k1 => k_asm); (case k2 => k_is); k_whole)))) | ((k_here; (with_reducible show wpAny _ _ (subscriptTail _ _ (Value.str _ _) (Value.int _ _)) _ _ _); (refine item_at (by omega) (by omega) (by omega) ?_); intro kxiE)) | (with_reducible ((show @ite _ _ _ _ _); ((refine ite_both (fun hc => ?_) (fun hc => ?_)); (all_goals (try simp only [beq_iff_eq, decide_eq_true_eq] at hc)))))) | (dsimp only; walk1) | fail "no step")
      refine Halt.out' ?_
      (rename Fr _ _ _ _ => F10); (rename News _ _ _ _ => N10)
      refine Fn.use' (k := 400) (mode_fn _ _ _) BB F10 XX N10 TT (by rfl) (by rfl) (by decide) (by decide) (by decide) trivial ?_
      rintro v10 h10 tk10 F11 N11 - ⟨t10, rfl⟩
      clear F10 N10
      repeat (first | (with_reducible first | (refine one_cut5 s₁.gens s₁.drawn s₁.os ?_; intro tkC) | (refine cons_cut5 s₁.gens s₁.drawn s₁.os ?_; intro tkC qC hC)) | (k_unfold; (try dsimp only)) | walk1 | (with_reducible first | refine CutQ.next (by assumption) ?_ | refine CutQ.ret (by assumption) ?_ | refine CutQ.brk (by assumption) ?_ | refine CutQ.cont (by assumption) ?_ | refine EndQ.ret (by assumption) ?_ | refine EndQ.next (by assumption) ?_) | ((refine Halt.out' ?_); first | (with_reducible ((show wpAny _ _ (subscriptTail _ _ (Value.ref _) (Value.int _ _)) _ _ _); ((with_reducible rename LawMark 2 => jmX); (rename News _ _ _ _ => cN); (rename AreV fI _ _ => cR); k_dflt (first | refine item_V (k := 0) cN (by k_mem) cR (by rfl) (by rfl) (by decide) ?_ | refine item_V (k := 1) cN (by k_mem) cR (by rfl) (by rfl) (by decide) ?_ | refine item_V (k := 2) cN (by k_mem) cR (by rfl) (by rfl) (by decide) ?_); intro vX hX; k_dflt (obtain ⟨t', e'⟩ := hX); subst e'))) | (with_reducible ((show wpAny _ _ (call (Value.ref _) _) _ _ _); ((rename Fr _ _ _ _ => cF); (rename News _ _ _ _ => cN); (first | ((with_reducible show wpAny _ _ (call (Value.ref 38) _) _ _ _); k_dflt (refine Fn.use' (k := 400) (andN_fn _ _ _ _ _) (by k_asm) cF (by k_asm) cN (by k_asm) (by rfl) (by rfl) (by decide) (by decide) (by decide) trivial ?_)) | ((with_reducible show wpAny _ _ (call (Value.ref 45) _) _ _ _); k_dflt (refine Fn.use' (k := 400) (orN_fn _ _ _ _ _) (by k_asm) cF (by k_asm) cN (by k_asm) (by rfl) (by rfl) (by decide) (by decide) (by decide) trivial ?_)) | ((with_reducible show wpAny _ _ (call (Value.ref 52) _) _ _ _); k_dflt (refine Fn.use' (k := 400) (xorN_fn _ _ _ _ _) (by k_asm) cF (by k_asm) cN (by k_asm) (by rfl) (by rfl) (by decide) (by decide) (by decide) trivial ?_))); intro v' h' tk' F' N' K' P'; clear cF cN; k_dflt (obtain ⟨t', e'⟩ := P'); subst e'; clear K'))) | (with_reducible ((show wpAny _ _ (callWith _ (Value.ref _) _ _ _) _ _ _); (k_here; k_dflt (refine' callWith_K ?k1 ?k2 ?_; (case k1 => k_asm); (case k2 => k_is); k_whole)))) | ((k_here; (with_reducible show wpAny _ _ (subscriptTail _ _ (Value.str _ _) (Value.int _ _)) _ _ _); (refine item_at (by omega) (by omega) (by omega) ?_); intro kxiE)) | (with_reducible ((show @ite _ _ _ _ _); ((refine ite_both (fun hc => ?_) (fun hc => ?_)); (all_goals (try simp only [beq_iff_eq, decide_eq_true_eq] at hc)))))) | (dsimp only; walk1) | fail "no step")
      refine Halt.out' ?_
      (rename Fr _ _ _ _ => cF); (rename News _ _ _ _ => cN)
      exact ⟨_, _, _, rfl, cF, cN, hof, Or.inr ⟨_, by k_mem, rfl, _, rfl⟩, rfl, x, hx, _, rfl⟩
      --t>
    case fin =>
      intro ys8 hl8 hy8
      unfold LCg.FinE
      intro D8 h8 tk8 F8 N8 off8
      clear F12 N13
      simp only [LCg.Off1, and_true] at off8
      have RR := are_of (xs := [a, b, c]) (f := fR) hl8 hl3 hy8
      clear hl8 hy8
      (try dsimp only)
      repeat (first | (with_reducible first | (refine one_cut5 s₁.gens s₁.drawn s₁.os ?_; intro tkC) | (refine cons_cut5 s₁.gens s₁.drawn s₁.os ?_; intro tkC qC hC)) | (k_unfold; (try dsimp only)) | walk1 | (with_reducible first | refine CutQ.next (by assumption) ?_ | refine CutQ.ret (by assumption) ?_ | refine CutQ.brk (by assumption) ?_ | refine CutQ.cont (by assumption) ?_ | refine EndQ.ret (by assumption) ?_ | refine EndQ.next (by assumption) ?_) | ((refine Halt.out' ?_); first | (with_reducible ((show wpAny _ _ (subscriptTail _ _ (Value.ref _) (Value.int _ _)) _ _ _); ((with_reducible rename LawMark 2 => jmX); (rename News _ _ _ _ => cN); (rename AreV fI _ _ => cR); k_dflt (first | refine item_V (k := 0) cN (by k_mem) cR (by rfl) (by rfl) (by decide) ?_ | refine item_V (k := 1) cN (by k_mem) cR (by rfl) (by rfl) (by decide) ?_ | refine item_V (k := 2) cN (by k_mem) cR (by rfl) (by rfl) (by decide) ?_); intro vX hX; k_dflt (obtain ⟨t', e'⟩ := hX); subst e'))) | (with_reducible ((show wpAny _ _ (call (Value.ref _) _) _ _ _); ((rename Fr _ _ _ _ => cF); (rename News _ _ _ _ => cN); (first | ((with_reducible show wpAny _ _ (call (Value.ref 38) _) _ _ _); k_dflt (refine Fn.use' (k := 400) (andN_fn _ _ _ _ _) (by k_asm) cF (by k_asm) cN (by k_asm) (by rfl) (by rfl) (by decide) (by decide) (by decide) trivial ?_)) | ((with_reducible show wpAny _ _ (call (Value.ref 45) _) _ _ _); k_dflt (refine Fn.use' (k := 400) (orN_fn _ _ _ _ _) (by k_asm) cF (by k_asm) cN (by k_asm) (by rfl) (by rfl) (by decide) (by decide) (by decide) trivial ?_)) | ((with_reducible show wpAny _ _ (call (Value.ref 52) _) _ _ _); k_dflt (refine Fn.use' (k := 400) (xorN_fn _ _ _ _ _) (by k_asm) cF (by k_asm) cN (by k_asm) (by rfl) (by rfl) (by decide) (by decide) (by decide) trivial ?_))); intro v' h' tk' F' N' K' P'; clear cF cN; k_dflt (obtain ⟨t', e'⟩ := P'); subst e'; clear K'))) | (with_reducible ((show wpAny _ _ (callWith _ (Value.ref _) _ _ _) _ _ _); (k_here; k_dflt (refine' callWith_K ?k1 ?k2 ?_; (case k1 => k_asm); (case k2 => k_is); k_whole)))) | ((k_here; (with_reducible show wpAny _ _ (subscriptTail _ _ (Value.str _ _) (Value.int _ _)) _ _ _); (refine item_at (by omega) (by omega) (by omega) ?_); intro kxiE)) | (with_reducible ((show @ite _ _ _ _ _); ((refine ite_both (fun hc => ?_) (fun hc => ?_)); (all_goals (try simp only [beq_iff_eq, decide_eq_true_eq] at hc)))))) | (dsimp only; walk1) | fail "no step")
      refine Halt.out' ?_
      (rename Fr _ _ _ _ => F14); (rename News _ _ _ _ => N14)
      refine LCg.CompSrc.ledger (its := vst.toArray) (by rfl) F14 N14 (by k_mem) (size3 hlt) ?_
      intro g14
      refine rest_P (fun i y => ∃ x, xs[i]? = some x ∧ fR x y) (Or.inr ⟨_, by k_mem, rfl, _, rfl⟩) ?turn ?fin
      case turn =>
        --<t
        rintro i9 v9 I9 oI9 C9 oC9 D7 m9 ys9 h9 tk9 E9 hi9 hv9 hC9 hx9 F9 N9 off7 ne9
        clear F14 N14
        have hof := off7
        simp only [LCg.Off3, and_true] at off7
        obtain ⟨x, hx, t9, rfl⟩ := RT.at (at_arr hv9)
        repeat (first | (with_reducible first | (refine one_cut5 s₁.gens s₁.drawn s₁.os ?_; intro tkC) | (refine cons_cut5 s₁.gens s₁.drawn s₁.os ?_; intro tkC qC hC)) | (k_unfold; (try dsimp only)) | walk1 | (with_reducible first | refine CutQ.next (by assumption) ?_ | refine CutQ.ret (by assumption) ?_ | refine CutQ.brk (by assumption) ?_ | refine CutQ.cont (by assumption) ?_ | refine EndQ.ret (by assumption) ?_ | refine EndQ.next (by assumption) ?_) | ((refine Halt.out' ?_); first | (with_reducible ((show wpAny _ _ (subscriptTail _ _ (Value.ref _) (Value.int _ _)) _ _ _); ((with_reducible rename LawMark 2 => jmX); (rename News _ _ _ _ => cN); (rename AreV fI _ _ => cR); k_dflt (first | refine item_V (k := 0) cN (by k_mem) cR (by rfl) (by rfl) (by decide) ?_ | refine item_V (k := 1) cN (by k_mem) cR (by rfl) (by rfl) (by decide) ?_ | refine item_V (k := 2) cN (by k_mem) cR (by rfl) (by rfl) (by decide) ?_); intro vX hX; k_dflt (obtain ⟨t', e'⟩ := hX); subst e'))) | (with_reducible ((show wpAny _ _ (call (Value.ref _) _) _ _ _); ((rename Fr _ _ _ _ => cF); (rename News _ _ _ _ => cN); (first | ((with_reducible show wpAny _ _ (call (Value.ref 38) _) _ _ _); k_dflt (refine Fn.use' (k := 400) (andN_fn _ _ _ _ _) (by k_asm) cF (by k_asm) cN (by k_asm) (by rfl) (by rfl) (by decide) (by decide) (by decide) trivial ?_)) | ((with_reducible show wpAny _ _ (call (Value.ref 45) _) _ _ _); k_dflt (refine Fn.use' (k := 400) (orN_fn _ _ _ _ _) (by k_asm) cF (by k_asm) cN (by k_asm) (by rfl) (by rfl) (by decide) (by decide) (by decide) trivial ?_)) | ((with_reducible show wpAny _ _ (call (Value.ref 52) _) _ _ _); k_dflt (refine Fn.use' (k := 400) (xorN_fn _ _ _ _ _) (by k_asm) cF (by k_asm) cN (by k_asm) (by rfl) (by rfl) (by decide) (by decide) (by decide) trivial ?_))); intro v' h' tk' F' N' K' P'; clear cF cN; k_dflt (obtain ⟨t', e'⟩ := P'); subst e'; clear K'))) | (with_reducible ((show wpAny _ _ (callWith _ (Value.ref _) _ _ _) _ _ _); (k_here; k_dflt (refine' callWith_K ?k1 ?k2 ?_; (case k1 => k_asm); (case k2 => k_is); k_whole)))) | ((k_here; (with_reducible show wpAny _ _ (subscriptTail _ _ (Value.str _ _) (Value.int _ _)) _ _ _); (refine item_at (by omega) (by omega) (by omega) ?_); intro kxiE)) | (with_reducible ((show @ite _ _ _ _ _); ((refine ite_both (fun hc => ?_) (fun hc => ?_)); (all_goals (try simp only [beq_iff_eq, decide_eq_true_eq] at hc)))))) | (dsimp only; walk1) | fail "no step")
        refine Halt.out' ?_
        (rename Fr _ _ _ _ => F10); (rename News _ _ _ _ => N10)
        refine Fn.use' (k := 400) (mode_fn _ _ _) BB F10 XX N10 TT (by rfl) (by rfl) (by decide) (by decide) (by decide) trivial ?_
        rintro v10 h10 tk10 F11 N11 - ⟨t10, rfl⟩
        clear F10 N10
        repeat (first | (with_reducible first | (refine one_cut5 s₁.gens s₁.drawn s₁.os ?_; intro tkC) | (refine cons_cut5 s₁.gens s₁.drawn s₁.os ?_; intro tkC qC hC)) | (k_unfold; (try dsimp only)) | walk1 | (with_reducible first | refine CutQ.next (by assumption) ?_ | refine CutQ.ret (by assumption) ?_ | refine CutQ.brk (by assumption) ?_ | refine CutQ.cont (by assumption) ?_ | refine EndQ.ret (by assumption) ?_ | refine EndQ.next (by assumption) ?_) | ((refine Halt.out' ?_); first | (with_reducible ((show wpAny _ _ (subscriptTail _ _ (Value.ref _) (Value.int _ _)) _ _ _); ((with_reducible rename LawMark 2 => jmX); (rename News _ _ _ _ => cN); (rename AreV fI _ _ => cR); k_dflt (first | refine item_V (k := 0) cN (by k_mem) cR (by rfl) (by rfl) (by decide) ?_ | refine item_V (k := 1) cN (by k_mem) cR (by rfl) (by rfl) (by decide) ?_ | refine item_V (k := 2) cN (by k_mem) cR (by rfl) (by rfl) (by decide) ?_); intro vX hX; k_dflt (obtain ⟨t', e'⟩ := hX); subst e'))) | (with_reducible ((show wpAny _ _ (call (Value.ref _) _) _ _ _); ((rename Fr _ _ _ _ => cF); (rename News _ _ _ _ => cN); (first | ((with_reducible show wpAny _ _ (call (Value.ref 38) _) _ _ _); k_dflt (refine Fn.use' (k := 400) (andN_fn _ _ _ _ _) (by k_asm) cF (by k_asm) cN (by k_asm) (by rfl) (by rfl) (by decide) (by decide) (by decide) trivial ?_)) | ((with_reducible show wpAny _ _ (call (Value.ref 45) _) _ _ _); k_dflt (refine Fn.use' (k := 400) (orN_fn _ _ _ _ _) (by k_asm) cF (by k_asm) cN (by k_asm) (by rfl) (by rfl) (by decide) (by decide) (by decide) trivial ?_)) | ((with_reducible show wpAny _ _ (call (Value.ref 52) _) _ _ _); k_dflt (refine Fn.use' (k := 400) (xorN_fn _ _ _ _ _) (by k_asm) cF (by k_asm) cN (by k_asm) (by rfl) (by rfl) (by decide) (by decide) (by decide) trivial ?_))); intro v' h' tk' F' N' K' P'; clear cF cN; k_dflt (obtain ⟨t', e'⟩ := P'); subst e'; clear K'))) | (with_reducible ((show wpAny _ _ (callWith _ (Value.ref _) _ _ _) _ _ _); (k_here; k_dflt (refine' callWith_K ?k1 ?k2 ?_; (case k1 => k_asm); (case k2 => k_is); k_whole)))) | ((k_here; (with_reducible show wpAny _ _ (subscriptTail _ _ (Value.str _ _) (Value.int _ _)) _ _ _); (refine item_at (by omega) (by omega) (by omega) ?_); intro kxiE)) | (with_reducible ((show @ite _ _ _ _ _); ((refine ite_both (fun hc => ?_) (fun hc => ?_)); (all_goals (try simp only [beq_iff_eq, decide_eq_true_eq] at hc)))))) | (dsimp only; walk1) | fail "no step")
        refine Halt.out' ?_
        (rename Fr _ _ _ _ => cF); (rename News _ _ _ _ => cN)
        exact ⟨_, _, _, rfl, cF, cN, hof, Or.inr ⟨_, by k_mem, rfl, _, rfl⟩, rfl, x, hx, _, rfl⟩
        --t>
      case fin =>
        intro ys7 hl7 hy7
        unfold LCg.FinE
        intro D7 h7 tk7 F7 N7 off7
        clear F14 N14
        simp only [LCg.Off1, and_true] at off7
        have RS := are_of (xs := xs) (f := fR) hl7 (by rw [List.size_toArray]; exact RT.1) hy7
        clear hl7 hy7
        (try dsimp only)
        have jm3 : LawMark 3 := trivial
        repeat (first | (with_reducible first | (refine one_cut5 s₁.gens s₁.drawn s₁.os ?_; intro tkC) | (refine cons_cut5 s₁.gens s₁.drawn s₁.os ?_; intro tkC qC hC)) | (k_unfold; (try dsimp only)) | walk1 | (with_reducible first | refine CutQ.next (by assumption) ?_ | refine CutQ.ret (by assumption) ?_ | refine CutQ.brk (by assumption) ?_ | refine CutQ.cont (by assumption) ?_ | refine EndQ.ret (by assumption) ?_ | refine EndQ.next (by assumption) ?_) | ((refine Halt.out' ?_); first | (with_reducible ((show wpAny _ _ (subscriptTail _ _ (Value.ref _) (Value.int _ _)) _ _ _); ((with_reducible rename LawMark 2 => jmX); (rename News _ _ _ _ => cN); (rename AreV fI _ _ => cR); k_dflt (first | refine item_V (k := 0) cN (by k_mem) cR (by rfl) (by rfl) (by decide) ?_ | refine item_V (k := 1) cN (by k_mem) cR (by rfl) (by rfl) (by decide) ?_ | refine item_V (k := 2) cN (by k_mem) cR (by rfl) (by rfl) (by decide) ?_); intro vX hX; k_dflt (obtain ⟨t', e'⟩ := hX); subst e'))) | (with_reducible ((show wpAny _ _ (call (Value.ref _) _) _ _ _); ((rename Fr _ _ _ _ => cF); (rename News _ _ _ _ => cN); (first | ((with_reducible show wpAny _ _ (call (Value.ref 38) _) _ _ _); k_dflt (refine Fn.use' (k := 400) (andN_fn _ _ _ _ _) (by k_asm) cF (by k_asm) cN (by k_asm) (by rfl) (by rfl) (by decide) (by decide) (by decide) trivial ?_)) | ((with_reducible show wpAny _ _ (call (Value.ref 45) _) _ _ _); k_dflt (refine Fn.use' (k := 400) (orN_fn _ _ _ _ _) (by k_asm) cF (by k_asm) cN (by k_asm) (by rfl) (by rfl) (by decide) (by decide) (by decide) trivial ?_)) | ((with_reducible show wpAny _ _ (call (Value.ref 52) _) _ _ _); k_dflt (refine Fn.use' (k := 400) (xorN_fn _ _ _ _ _) (by k_asm) cF (by k_asm) cN (by k_asm) (by rfl) (by rfl) (by decide) (by decide) (by decide) trivial ?_))); intro v' h' tk' F' N' K' P'; clear cF cN; k_dflt (obtain ⟨t', e'⟩ := P'); subst e'; clear K'))) | (with_reducible ((show wpAny _ _ (callWith _ (Value.ref _) _ _ _) _ _ _); (k_here; k_dflt (refine' callWith_K ?k1 ?k2 ?_; (case k1 => k_asm); (case k2 => k_is); k_whole)))) | ((k_here; (with_reducible show wpAny _ _ (subscriptTail _ _ (Value.str _ _) (Value.int _ _)) _ _ _); (refine item_at (by omega) (by omega) (by omega) ?_); intro kxiE)) | (with_reducible ((show @ite _ _ _ _ _); ((refine ite_both (fun hc => ?_) (fun hc => ?_)); (all_goals (try simp only [beq_iff_eq, decide_eq_true_eq] at hc)))))) | (dsimp only; walk1) | fail "no step")
        refine Halt.out' ?_
        rename LawMark 3 => jm3
        clear jm3
        (rename Fr _ _ _ _ => F16); (rename News _ _ _ _ => N16')
        obtain ⟨base, hbase, N16⟩ := news_read N16'
        clear N16'
        have hB : ∀ p ∈ base, @Ne Nat p.1 85 := by
          subst hbase
          iterate 10 (refine List.forall_mem_cons.mpr ⟨by k_ne, ?_⟩)
          exact List.forall_mem_nil _
        clear off7 off8 off9
        refine Assign_comp (n := 3) (JG s₁.os) (PRead base (dssOf a b c)) (JG.hh _) F16 (by decide) (by rfl) (by with_unfolding_all rfl) (by with_unfolding_all rfl) (by decide) (by rfl) (by decide) (by rfl) (by rfl) (by rfl) ?_
        repeat (first | (with_reducible first | (refine one_cut5 s₁.gens s₁.drawn s₁.os ?_; intro tkC) | (refine cons_cut5 s₁.gens s₁.drawn s₁.os ?_; intro tkC qC hC)) | (k_unfold; (try dsimp only)) | walk1 | (with_reducible first | refine CutQ.next (by assumption) ?_ | refine CutQ.ret (by assumption) ?_ | refine CutQ.brk (by assumption) ?_ | refine CutQ.cont (by assumption) ?_ | refine EndQ.ret (by assumption) ?_ | refine EndQ.next (by assumption) ?_) | ((refine Halt.out' ?_); first | (with_reducible ((show wpAny _ _ (subscriptTail _ _ (Value.ref _) (Value.int _ _)) _ _ _); ((with_reducible rename LawMark 2 => jmX); (rename News _ _ _ _ => cN); (rename AreV fI _ _ => cR); k_dflt (first | refine item_V (k := 0) cN (by k_mem) cR (by rfl) (by rfl) (by decide) ?_ | refine item_V (k := 1) cN (by k_mem) cR (by rfl) (by rfl) (by decide) ?_ | refine item_V (k := 2) cN (by k_mem) cR (by rfl) (by rfl) (by decide) ?_); intro vX hX; k_dflt (obtain ⟨t', e'⟩ := hX); subst e'))) | (with_reducible ((show wpAny _ _ (call (Value.ref _) _) _ _ _); ((rename Fr _ _ _ _ => cF); (rename News _ _ _ _ => cN); (first | ((with_reducible show wpAny _ _ (call (Value.ref 38) _) _ _ _); k_dflt (refine Fn.use' (k := 400) (andN_fn _ _ _ _ _) (by k_asm) cF (by k_asm) cN (by k_asm) (by rfl) (by rfl) (by decide) (by decide) (by decide) trivial ?_)) | ((with_reducible show wpAny _ _ (call (Value.ref 45) _) _ _ _); k_dflt (refine Fn.use' (k := 400) (orN_fn _ _ _ _ _) (by k_asm) cF (by k_asm) cN (by k_asm) (by rfl) (by rfl) (by decide) (by decide) (by decide) trivial ?_)) | ((with_reducible show wpAny _ _ (call (Value.ref 52) _) _ _ _); k_dflt (refine Fn.use' (k := 400) (xorN_fn _ _ _ _ _) (by k_asm) cF (by k_asm) cN (by k_asm) (by rfl) (by rfl) (by decide) (by decide) (by decide) trivial ?_))); intro v' h' tk' F' N' K' P'; clear cF cN; k_dflt (obtain ⟨t', e'⟩ := P'); subst e'; clear K'))) | (with_reducible ((show wpAny _ _ (callWith _ (Value.ref _) _ _ _) _ _ _); (k_here; k_dflt (refine' callWith_K ?k1 ?k2 ?_; (case k1 => k_asm); (case k2 => k_is); k_whole)))) | ((k_here; (with_reducible show wpAny _ _ (subscriptTail _ _ (Value.str _ _) (Value.int _ _)) _ _ _); (refine item_at (by omega) (by omega) (by omega) ?_); intro kxiE)) | (with_reducible ((show @ite _ _ _ _ _); ((refine ite_both (fun hc => ?_) (fun hc => ?_)); (all_goals (try simp only [beq_iff_eq, decide_eq_true_eq] at hc)))))) | (dsimp only; walk1) | fail "no step")
        (rename Fr _ _ _ _ => F18); (rename News _ _ _ _ => N18); (rename IsRange _ _ _ _ _ _ _ _ => rg18)
        refine ⟨_, _, _, _, _, rfl, by rfl, F18, N18, rg18, by decide, ⟨allBare_nil (by assumption), rfl⟩, PRead.start _ _, fun I C D hIC hID hCD => ⟨?turn, ?fin⟩⟩
        case turn =>
          --<t
          intro i ys news oI oC m₂ s18 t18 E18 hi hys hP hJ hC hx F N off
          clear F18 N18 rg18
          (try clear F16)
          (try clear N16)
          obtain ⟨ps, ls, rfl, hps, hls, hlb, hR⟩ := hP
          subst hbase
          obtain ⟨x, y, hx1, hy1, hd1, hp1, hxm, hym⟩ := dss_at a b c hi
          have hx65 := in_three hT hxm
          have hof := off
          simp only [List.cons_append, List.nil_append] at N
          have jm1 : LawMark 1 := trivial
          repeat (first | (with_reducible first | (refine one_cut5 s₁.gens s₁.drawn s₁.os ?_; intro tkC) | (refine cons_cut5 s₁.gens s₁.drawn s₁.os ?_; intro tkC qC hC)) | (k_unfold; (try dsimp only)) | walk1 | (with_reducible first | refine CutQ.next (by assumption) ?_ | refine CutQ.ret (by assumption) ?_ | refine CutQ.brk (by assumption) ?_ | refine CutQ.cont (by assumption) ?_ | refine EndQ.ret (by assumption) ?_ | refine EndQ.next (by assumption) ?_) | ((refine Halt.out' ?_); first | (with_reducible ((show wpAny _ _ (subscriptTail _ _ (Value.ref _) (Value.int _ _)) _ _ _); ((with_reducible rename LawMark 2 => jmX); (rename News _ _ _ _ => cN); (rename AreV fI _ _ => cR); k_dflt (first | refine item_V (k := 0) cN (by k_mem) cR (by rfl) (by rfl) (by decide) ?_ | refine item_V (k := 1) cN (by k_mem) cR (by rfl) (by rfl) (by decide) ?_ | refine item_V (k := 2) cN (by k_mem) cR (by rfl) (by rfl) (by decide) ?_); intro vX hX; k_dflt (obtain ⟨t', e'⟩ := hX); subst e'))) | (with_reducible ((show wpAny _ _ (call (Value.ref _) _) _ _ _); ((rename Fr _ _ _ _ => cF); (rename News _ _ _ _ => cN); (first | ((with_reducible show wpAny _ _ (call (Value.ref 38) _) _ _ _); k_dflt (refine Fn.use' (k := 400) (andN_fn _ _ _ _ _) (by k_asm) cF (by k_asm) cN (by k_asm) (by rfl) (by rfl) (by decide) (by decide) (by decide) trivial ?_)) | ((with_reducible show wpAny _ _ (call (Value.ref 45) _) _ _ _); k_dflt (refine Fn.use' (k := 400) (orN_fn _ _ _ _ _) (by k_asm) cF (by k_asm) cN (by k_asm) (by rfl) (by rfl) (by decide) (by decide) (by decide) trivial ?_)) | ((with_reducible show wpAny _ _ (call (Value.ref 52) _) _ _ _); k_dflt (refine Fn.use' (k := 400) (xorN_fn _ _ _ _ _) (by k_asm) cF (by k_asm) cN (by k_asm) (by rfl) (by rfl) (by decide) (by decide) (by decide) trivial ?_))); intro v' h' tk' F' N' K' P'; clear cF cN; k_dflt (obtain ⟨t', e'⟩ := P'); subst e'; clear K'))) | (with_reducible ((show wpAny _ _ (callWith _ (Value.ref _) _ _ _) _ _ _); (k_here; k_dflt (refine' callWith_K ?k1 ?k2 ?_; (case k1 => k_asm); (case k2 => k_is); k_whole)))) | ((k_here; (with_reducible show wpAny _ _ (subscriptTail _ _ (Value.str _ _) (Value.int _ _)) _ _ _); (refine item_at (by omega) (by omega) (by omega) ?_); intro kxiE)) | (with_reducible ((show @ite _ _ _ _ _); ((refine ite_both (fun hc => ?_) (fun hc => ?_)); (all_goals (try simp only [beq_iff_eq, decide_eq_true_eq] at hc)))))) | (dsimp only; walk1) | fail "no step")
          refine Halt.out' ?_
          (rename Fr _ _ _ _ => F19); (rename News _ _ _ _ => N19)
          refine item_V N19 (by k_mem) RR hx1 (by rfl) (fit3 hi) ?_
          rintro _ ⟨t19, rfl⟩
          repeat (first | (with_reducible first | (refine one_cut5 s₁.gens s₁.drawn s₁.os ?_; intro tkC) | (refine cons_cut5 s₁.gens s₁.drawn s₁.os ?_; intro tkC qC hC)) | (k_unfold; (try dsimp only)) | walk1 | (with_reducible first | refine CutQ.next (by assumption) ?_ | refine CutQ.ret (by assumption) ?_ | refine CutQ.brk (by assumption) ?_ | refine CutQ.cont (by assumption) ?_ | refine EndQ.ret (by assumption) ?_ | refine EndQ.next (by assumption) ?_) | ((refine Halt.out' ?_); first | (with_reducible ((show wpAny _ _ (subscriptTail _ _ (Value.ref _) (Value.int _ _)) _ _ _); ((with_reducible rename LawMark 2 => jmX); (rename News _ _ _ _ => cN); (rename AreV fI _ _ => cR); k_dflt (first | refine item_V (k := 0) cN (by k_mem) cR (by rfl) (by rfl) (by decide) ?_ | refine item_V (k := 1) cN (by k_mem) cR (by rfl) (by rfl) (by decide) ?_ | refine item_V (k := 2) cN (by k_mem) cR (by rfl) (by rfl) (by decide) ?_); intro vX hX; k_dflt (obtain ⟨t', e'⟩ := hX); subst e'))) | (with_reducible ((show wpAny _ _ (call (Value.ref _) _) _ _ _); ((rename Fr _ _ _ _ => cF); (rename News _ _ _ _ => cN); (first | ((with_reducible show wpAny _ _ (call (Value.ref 38) _) _ _ _); k_dflt (refine Fn.use' (k := 400) (andN_fn _ _ _ _ _) (by k_asm) cF (by k_asm) cN (by k_asm) (by rfl) (by rfl) (by decide) (by decide) (by decide) trivial ?_)) | ((with_reducible show wpAny _ _ (call (Value.ref 45) _) _ _ _); k_dflt (refine Fn.use' (k := 400) (orN_fn _ _ _ _ _) (by k_asm) cF (by k_asm) cN (by k_asm) (by rfl) (by rfl) (by decide) (by decide) (by decide) trivial ?_)) | ((with_reducible show wpAny _ _ (call (Value.ref 52) _) _ _ _); k_dflt (refine Fn.use' (k := 400) (xorN_fn _ _ _ _ _) (by k_asm) cF (by k_asm) cN (by k_asm) (by rfl) (by rfl) (by decide) (by decide) (by decide) trivial ?_))); intro v' h' tk' F' N' K' P'; clear cF cN; k_dflt (obtain ⟨t', e'⟩ := P'); subst e'; clear K'))) | (with_reducible ((show wpAny _ _ (callWith _ (Value.ref _) _ _ _) _ _ _); (k_here; k_dflt (refine' callWith_K ?k1 ?k2 ?_; (case k1 => k_asm); (case k2 => k_is); k_whole)))) | ((k_here; (with_reducible show wpAny _ _ (subscriptTail _ _ (Value.str _ _) (Value.int _ _)) _ _ _); (refine item_at (by omega) (by omega) (by omega) ?_); intro kxiE)) | (with_reducible ((show @ite _ _ _ _ _); ((refine ite_both (fun hc => ?_) (fun hc => ?_)); (all_goals (try simp only [beq_iff_eq, decide_eq_true_eq] at hc)))))) | (dsimp only; walk1) | fail "no step")
          refine Halt.out' ?_
          (rename Fr _ _ _ _ => F20); (rename News _ _ _ _ => N20)
          refine item_V N20 (by k_mem) RR hy1 (fmod3 i) (fit3' i) ?_
          rintro _ ⟨t20, rfl⟩
          rename LawMark 1 => jm1
          clear jm1
          repeat (first | (with_reducible first | (refine one_cut5 s₁.gens s₁.drawn s₁.os ?_; intro tkC) | (refine cons_cut5 s₁.gens s₁.drawn s₁.os ?_; intro tkC qC hC)) | (k_unfold; (try dsimp only)) | walk1 | (with_reducible first | refine CutQ.next (by assumption) ?_ | refine CutQ.ret (by assumption) ?_ | refine CutQ.brk (by assumption) ?_ | refine CutQ.cont (by assumption) ?_ | refine EndQ.ret (by assumption) ?_ | refine EndQ.next (by assumption) ?_) | ((refine Halt.out' ?_); first | (with_reducible ((show wpAny _ _ (subscriptTail _ _ (Value.ref _) (Value.int _ _)) _ _ _); ((with_reducible rename LawMark 2 => jmX); (rename News _ _ _ _ => cN); (rename AreV fI _ _ => cR); k_dflt (first | refine item_V (k := 0) cN (by k_mem) cR (by rfl) (by rfl) (by decide) ?_ | refine item_V (k := 1) cN (by k_mem) cR (by rfl) (by rfl) (by decide) ?_ | refine item_V (k := 2) cN (by k_mem) cR (by rfl) (by rfl) (by decide) ?_); intro vX hX; k_dflt (obtain ⟨t', e'⟩ := hX); subst e'))) | (with_reducible ((show wpAny _ _ (call (Value.ref _) _) _ _ _); ((rename Fr _ _ _ _ => cF); (rename News _ _ _ _ => cN); (first | ((with_reducible show wpAny _ _ (call (Value.ref 38) _) _ _ _); k_dflt (refine Fn.use' (k := 400) (andN_fn _ _ _ _ _) (by k_asm) cF (by k_asm) cN (by k_asm) (by rfl) (by rfl) (by decide) (by decide) (by decide) trivial ?_)) | ((with_reducible show wpAny _ _ (call (Value.ref 45) _) _ _ _); k_dflt (refine Fn.use' (k := 400) (orN_fn _ _ _ _ _) (by k_asm) cF (by k_asm) cN (by k_asm) (by rfl) (by rfl) (by decide) (by decide) (by decide) trivial ?_)) | ((with_reducible show wpAny _ _ (call (Value.ref 52) _) _ _ _); k_dflt (refine Fn.use' (k := 400) (xorN_fn _ _ _ _ _) (by k_asm) cF (by k_asm) cN (by k_asm) (by rfl) (by rfl) (by decide) (by decide) (by decide) trivial ?_))); intro v' h' tk' F' N' K' P'; clear cF cN; k_dflt (obtain ⟨t', e'⟩ := P'); subst e'; clear K'))) | (with_reducible ((show wpAny _ _ (callWith _ (Value.ref _) _ _ _) _ _ _); (k_here; k_dflt (refine' callWith_K ?k1 ?k2 ?_; (case k1 => k_asm); (case k2 => k_is); k_whole)))) | ((k_here; (with_reducible show wpAny _ _ (subscriptTail _ _ (Value.str _ _) (Value.int _ _)) _ _ _); (refine item_at (by omega) (by omega) (by omega) ?_); intro kxiE)) | (with_reducible ((show @ite _ _ _ _ _); ((refine ite_both (fun hc => ?_) (fun hc => ?_)); (all_goals (try simp only [beq_iff_eq, decide_eq_true_eq] at hc)))))) | (dsimp only; walk1) | fail "no step")
          refine Halt.out' ?_
          (rename Fr _ _ _ _ => F21); (rename News _ _ _ _ => N21)
          refine Fn.use' (k := 400) (patN_fn _ _ _ _ _ _ _ hx65.1) BB F21 XX N21 TT (by rfl) (by rfl) (by decide) (by decide) (by decide) trivial ?_
          rintro v22 h22 tk22 F22 N22 - ⟨t22, rfl⟩
          clear F21 N21
          repeat (first | (with_reducible first | (refine one_cut5 s₁.gens s₁.drawn s₁.os ?_; intro tkC) | (refine cons_cut5 s₁.gens s₁.drawn s₁.os ?_; intro tkC qC hC)) | (k_unfold; (try dsimp only)) | walk1 | (with_reducible first | refine CutQ.next (by assumption) ?_ | refine CutQ.ret (by assumption) ?_ | refine CutQ.brk (by assumption) ?_ | refine CutQ.cont (by assumption) ?_ | refine EndQ.ret (by assumption) ?_ | refine EndQ.next (by assumption) ?_) | ((refine Halt.out' ?_); first | (with_reducible ((show wpAny _ _ (subscriptTail _ _ (Value.ref _) (Value.int _ _)) _ _ _); ((with_reducible rename LawMark 2 => jmX); (rename News _ _ _ _ => cN); (rename AreV fI _ _ => cR); k_dflt (first | refine item_V (k := 0) cN (by k_mem) cR (by rfl) (by rfl) (by decide) ?_ | refine item_V (k := 1) cN (by k_mem) cR (by rfl) (by rfl) (by decide) ?_ | refine item_V (k := 2) cN (by k_mem) cR (by rfl) (by rfl) (by decide) ?_); intro vX hX; k_dflt (obtain ⟨t', e'⟩ := hX); subst e'))) | (with_reducible ((show wpAny _ _ (call (Value.ref _) _) _ _ _); ((rename Fr _ _ _ _ => cF); (rename News _ _ _ _ => cN); (first | ((with_reducible show wpAny _ _ (call (Value.ref 38) _) _ _ _); k_dflt (refine Fn.use' (k := 400) (andN_fn _ _ _ _ _) (by k_asm) cF (by k_asm) cN (by k_asm) (by rfl) (by rfl) (by decide) (by decide) (by decide) trivial ?_)) | ((with_reducible show wpAny _ _ (call (Value.ref 45) _) _ _ _); k_dflt (refine Fn.use' (k := 400) (orN_fn _ _ _ _ _) (by k_asm) cF (by k_asm) cN (by k_asm) (by rfl) (by rfl) (by decide) (by decide) (by decide) trivial ?_)) | ((with_reducible show wpAny _ _ (call (Value.ref 52) _) _ _ _); k_dflt (refine Fn.use' (k := 400) (xorN_fn _ _ _ _ _) (by k_asm) cF (by k_asm) cN (by k_asm) (by rfl) (by rfl) (by decide) (by decide) (by decide) trivial ?_))); intro v' h' tk' F' N' K' P'; clear cF cN; k_dflt (obtain ⟨t', e'⟩ := P'); subst e'; clear K'))) | (with_reducible ((show wpAny _ _ (callWith _ (Value.ref _) _ _ _) _ _ _); (k_here; k_dflt (refine' callWith_K ?k1 ?k2 ?_; (case k1 => k_asm); (case k2 => k_is); k_whole)))) | ((k_here; (with_reducible show wpAny _ _ (subscriptTail _ _ (Value.str _ _) (Value.int _ _)) _ _ _); (refine item_at (by omega) (by omega) (by omega) ?_); intro kxiE)) | (with_reducible ((show @ite _ _ _ _ _); ((refine ite_both (fun hc => ?_) (fun hc => ?_)); (all_goals (try simp only [beq_iff_eq, decide_eq_true_eq] at hc)))))) | (dsimp only; walk1) | fail "no step")
          refine Halt.out' ?_
          (rename Fr _ _ _ _ => F23); (rename News _ _ _ _ => N23)
          refine FnT.use' (k := 400) (trN_fn _ _ _ _ _ hx65.1 hx65.2) BB (N23 (85, tabObj ps) (by k_mem)).2.2 (N23 (85, tabObj ps) (by k_mem)).2.2 F23 XX (news_up N23) (not85 hof hB hls) hps hJ.1 TT (by rfl) (by rfl) (by decide) (by decide) (by decide) trivial ?_
          rintro v24 s24 ps24 F24 N24 hps24 hG24 ho24 - ⟨t24, rfl⟩
          clear F23 N23
          repeat (first | (with_reducible first | (refine one_cut5 s₁.gens s₁.drawn s₁.os ?_; intro tkC) | (refine cons_cut5 s₁.gens s₁.drawn s₁.os ?_; intro tkC qC hC)) | (k_unfold; (try dsimp only)) | walk1 | (with_reducible first | refine CutQ.next (by assumption) ?_ | refine CutQ.ret (by assumption) ?_ | refine CutQ.brk (by assumption) ?_ | refine CutQ.cont (by assumption) ?_ | refine EndQ.ret (by assumption) ?_ | refine EndQ.next (by assumption) ?_) | ((refine Halt.out' ?_); first | (with_reducible ((show wpAny _ _ (subscriptTail _ _ (Value.ref _) (Value.int _ _)) _ _ _); ((with_reducible rename LawMark 2 => jmX); (rename News _ _ _ _ => cN); (rename AreV fI _ _ => cR); k_dflt (first | refine item_V (k := 0) cN (by k_mem) cR (by rfl) (by rfl) (by decide) ?_ | refine item_V (k := 1) cN (by k_mem) cR (by rfl) (by rfl) (by decide) ?_ | refine item_V (k := 2) cN (by k_mem) cR (by rfl) (by rfl) (by decide) ?_); intro vX hX; k_dflt (obtain ⟨t', e'⟩ := hX); subst e'))) | (with_reducible ((show wpAny _ _ (call (Value.ref _) _) _ _ _); ((rename Fr _ _ _ _ => cF); (rename News _ _ _ _ => cN); (first | ((with_reducible show wpAny _ _ (call (Value.ref 38) _) _ _ _); k_dflt (refine Fn.use' (k := 400) (andN_fn _ _ _ _ _) (by k_asm) cF (by k_asm) cN (by k_asm) (by rfl) (by rfl) (by decide) (by decide) (by decide) trivial ?_)) | ((with_reducible show wpAny _ _ (call (Value.ref 45) _) _ _ _); k_dflt (refine Fn.use' (k := 400) (orN_fn _ _ _ _ _) (by k_asm) cF (by k_asm) cN (by k_asm) (by rfl) (by rfl) (by decide) (by decide) (by decide) trivial ?_)) | ((with_reducible show wpAny _ _ (call (Value.ref 52) _) _ _ _); k_dflt (refine Fn.use' (k := 400) (xorN_fn _ _ _ _ _) (by k_asm) cF (by k_asm) cN (by k_asm) (by rfl) (by rfl) (by decide) (by decide) (by decide) trivial ?_))); intro v' h' tk' F' N' K' P'; clear cF cN; k_dflt (obtain ⟨t', e'⟩ := P'); subst e'; clear K'))) | (with_reducible ((show wpAny _ _ (callWith _ (Value.ref _) _ _ _) _ _ _); (k_here; k_dflt (refine' callWith_K ?k1 ?k2 ?_; (case k1 => k_asm); (case k2 => k_is); k_whole)))) | ((k_here; (with_reducible show wpAny _ _ (subscriptTail _ _ (Value.str _ _) (Value.int _ _)) _ _ _); (refine item_at (by omega) (by omega) (by omega) ?_); intro kxiE)) | (with_reducible ((show @ite _ _ _ _ _); ((refine ite_both (fun hc => ?_) (fun hc => ?_)); (all_goals (try simp only [beq_iff_eq, decide_eq_true_eq] at hc)))))) | (dsimp only; walk1) | fail "no step")
          refine Halt.out' ?_
          (rename Fr _ _ _ _ => F25); (rename News _ _ _ _ => N25)
          refine Fn.use' (k := 400) (readN_fn _ _ _ _ _ hx65.2) BB F25 XX N25 TT (by rfl) (by rfl) (by decide) (by decide) (by decide) trivial ?_
          rintro v26 h26 tk26 F26 N26 - ⟨l26, vs26, own26, rfl, hfr, hS⟩
          repeat (first | (with_reducible first | (refine one_cut5 s₁.gens s₁.drawn s₁.os ?_; intro tkC) | (refine cons_cut5 s₁.gens s₁.drawn s₁.os ?_; intro tkC qC hC)) | (k_unfold; (try dsimp only)) | walk1 | (with_reducible first | refine CutQ.next (by assumption) ?_ | refine CutQ.ret (by assumption) ?_ | refine CutQ.brk (by assumption) ?_ | refine CutQ.cont (by assumption) ?_ | refine EndQ.ret (by assumption) ?_ | refine EndQ.next (by assumption) ?_) | ((refine Halt.out' ?_); first | (with_reducible ((show wpAny _ _ (subscriptTail _ _ (Value.ref _) (Value.int _ _)) _ _ _); ((with_reducible rename LawMark 2 => jmX); (rename News _ _ _ _ => cN); (rename AreV fI _ _ => cR); k_dflt (first | refine item_V (k := 0) cN (by k_mem) cR (by rfl) (by rfl) (by decide) ?_ | refine item_V (k := 1) cN (by k_mem) cR (by rfl) (by rfl) (by decide) ?_ | refine item_V (k := 2) cN (by k_mem) cR (by rfl) (by rfl) (by decide) ?_); intro vX hX; k_dflt (obtain ⟨t', e'⟩ := hX); subst e'))) | (with_reducible ((show wpAny _ _ (call (Value.ref _) _) _ _ _); ((rename Fr _ _ _ _ => cF); (rename News _ _ _ _ => cN); (first | ((with_reducible show wpAny _ _ (call (Value.ref 38) _) _ _ _); k_dflt (refine Fn.use' (k := 400) (andN_fn _ _ _ _ _) (by k_asm) cF (by k_asm) cN (by k_asm) (by rfl) (by rfl) (by decide) (by decide) (by decide) trivial ?_)) | ((with_reducible show wpAny _ _ (call (Value.ref 45) _) _ _ _); k_dflt (refine Fn.use' (k := 400) (orN_fn _ _ _ _ _) (by k_asm) cF (by k_asm) cN (by k_asm) (by rfl) (by rfl) (by decide) (by decide) (by decide) trivial ?_)) | ((with_reducible show wpAny _ _ (call (Value.ref 52) _) _ _ _); k_dflt (refine Fn.use' (k := 400) (xorN_fn _ _ _ _ _) (by k_asm) cF (by k_asm) cN (by k_asm) (by rfl) (by rfl) (by decide) (by decide) (by decide) trivial ?_))); intro v' h' tk' F' N' K' P'; clear cF cN; k_dflt (obtain ⟨t', e'⟩ := P'); subst e'; clear K'))) | (with_reducible ((show wpAny _ _ (callWith _ (Value.ref _) _ _ _) _ _ _); (k_here; k_dflt (refine' callWith_K ?k1 ?k2 ?_; (case k1 => k_asm); (case k2 => k_is); k_whole)))) | ((k_here; (with_reducible show wpAny _ _ (subscriptTail _ _ (Value.str _ _) (Value.int _ _)) _ _ _); (refine item_at (by omega) (by omega) (by omega) ?_); intro kxiE)) | (with_reducible ((show @ite _ _ _ _ _); ((refine ite_both (fun hc => ?_) (fun hc => ?_)); (all_goals (try simp only [beq_iff_eq, decide_eq_true_eq] at hc)))))) | (dsimp only; walk1) | fail "no step")
          refine ⟨_, F26, news_end N26 (news_fresh F25 hfr), off_end hof fun p hp => ⟨fresh_ne N25 hfr (q := (I, oI)) (by k_mem) p hp, fresh_ne N25 hfr (q := (C, oC)) (by k_mem) p hp, fresh_ne N25 hfr (q := (D, LCg.lst ys)) (by k_mem) p hp⟩, ⟨hG24, ho24.trans hJ.2⟩, PRead.step hR hls hlb hps24 hd1 hS ?len (fun p hp => fresh_ne N25 hfr (q := (85, tabObj ps24)) (by k_mem) p hp) fun p hp q hq => fresh_ne N25 hfr (.tail _ (.tail _ (.tail _ (.tail _ (List.mem_append_left ls hq))))) p hp⟩
          rw [hS.1]
          exact RR_snd_len _ _ _
          --t>
        case fin =>
          intro ysR newsR sR hlR hPR hJR FR NR offR
          clear F18 N18 rg18
          (try clear F16)
          (try clear N16)
          obtain ⟨psR, ls, rfl, hpsR, hlsR, hlbR, hRR⟩ := hPR
          have hRd : AreV (fS ls) ysR (dssOf a b c) := hRR
          clear hRR
          subst hbase
          simp only [List.cons_append, List.nil_append] at NR
          have hx3 := tried_len hTL
          have hl7 : ys7.length = 3 := RS.1.trans hx3
          have jm4 : LawMark 4 := trivial
          (try dsimp only)
          repeat (first | (with_reducible first | (refine one_cut5 sR.gens sR.drawn sR.os ?_; intro tkC) | (refine cons_cut5 sR.gens sR.drawn sR.os ?_; intro tkC qC hC)) | (k_unfold; (try dsimp only)) | walk1 | (with_reducible first | refine CutQ.next (by assumption) ?_ | refine CutQ.ret (by assumption) ?_ | refine CutQ.brk (by assumption) ?_ | refine CutQ.cont (by assumption) ?_ | refine EndQ.ret (by assumption) ?_ | refine EndQ.next (by assumption) ?_) | ((refine Halt.out' ?_); first | (with_reducible ((show wpAny _ _ (subscriptTail _ _ (Value.ref _) (Value.int _ _)) _ _ _); ((with_reducible rename LawMark 2 => jmX); (rename News _ _ _ _ => cN); (rename AreV fI _ _ => cR); k_dflt (first | refine item_V (k := 0) cN (by k_mem) cR (by rfl) (by rfl) (by decide) ?_ | refine item_V (k := 1) cN (by k_mem) cR (by rfl) (by rfl) (by decide) ?_ | refine item_V (k := 2) cN (by k_mem) cR (by rfl) (by rfl) (by decide) ?_); intro vX hX; k_dflt (obtain ⟨t', e'⟩ := hX); subst e'))) | (with_reducible ((show wpAny _ _ (call (Value.ref _) _) _ _ _); ((rename Fr _ _ _ _ => cF); (rename News _ _ _ _ => cN); (first | ((with_reducible show wpAny _ _ (call (Value.ref 38) _) _ _ _); k_dflt (refine Fn.use' (k := 400) (andN_fn _ _ _ _ _) (by k_asm) cF (by k_asm) cN (by k_asm) (by rfl) (by rfl) (by decide) (by decide) (by decide) trivial ?_)) | ((with_reducible show wpAny _ _ (call (Value.ref 45) _) _ _ _); k_dflt (refine Fn.use' (k := 400) (orN_fn _ _ _ _ _) (by k_asm) cF (by k_asm) cN (by k_asm) (by rfl) (by rfl) (by decide) (by decide) (by decide) trivial ?_)) | ((with_reducible show wpAny _ _ (call (Value.ref 52) _) _ _ _); k_dflt (refine Fn.use' (k := 400) (xorN_fn _ _ _ _ _) (by k_asm) cF (by k_asm) cN (by k_asm) (by rfl) (by rfl) (by decide) (by decide) (by decide) trivial ?_))); intro v' h' tk' F' N' K' P'; clear cF cN; k_dflt (obtain ⟨t', e'⟩ := P'); subst e'; clear K'))) | (with_reducible ((show wpAny _ _ (callWith _ (Value.ref _) _ _ _) _ _ _); (k_here; k_dflt (refine' callWith_K ?k1 ?k2 ?_; (case k1 => k_asm); (case k2 => k_is); k_whole)))) | ((k_here; (with_reducible show wpAny _ _ (subscriptTail _ _ (Value.str _ _) (Value.int _ _)) _ _ _); (refine item_at (by omega) (by omega) (by omega) ?_); intro kxiE)) | (with_reducible ((show @ite _ _ _ _ _); ((refine ite_both (fun hc => ?_) (fun hc => ?_)); (all_goals (try simp only [beq_iff_eq, decide_eq_true_eq] at hc)))))) | (dsimp only; walk1) | fail "no step")
          refine Halt.out' ?_
          rename LawMark 4 => jm4
          clear jm4
          (rename Fr _ _ _ _ => F30)
          refine ListComp_CL (JG s₁.os) (JG.hh _) F30 (by with_unfolding_all rfl) (by rfl) (fun _ _ => rfl) (fun _ => rfl) (by decide) (fun _ _ => by rfl) ?_
          repeat (first | (with_reducible first | (refine one_cut5 sR.gens sR.drawn sR.os ?_; intro tkC) | (refine cons_cut5 sR.gens sR.drawn sR.os ?_; intro tkC qC hC)) | (k_unfold; (try dsimp only)) | walk1 | (with_reducible first | refine CutQ.next (by assumption) ?_ | refine CutQ.ret (by assumption) ?_ | refine CutQ.brk (by assumption) ?_ | refine CutQ.cont (by assumption) ?_ | refine EndQ.ret (by assumption) ?_ | refine EndQ.next (by assumption) ?_) | ((refine Halt.out' ?_); first | (with_reducible ((show wpAny _ _ (subscriptTail _ _ (Value.ref _) (Value.int _ _)) _ _ _); ((with_reducible rename LawMark 2 => jmX); (rename News _ _ _ _ => cN); (rename AreV fI _ _ => cR); k_dflt (first | refine item_V (k := 0) cN (by k_mem) cR (by rfl) (by rfl) (by decide) ?_ | refine item_V (k := 1) cN (by k_mem) cR (by rfl) (by rfl) (by decide) ?_ | refine item_V (k := 2) cN (by k_mem) cR (by rfl) (by rfl) (by decide) ?_); intro vX hX; k_dflt (obtain ⟨t', e'⟩ := hX); subst e'))) | (with_reducible ((show wpAny _ _ (call (Value.ref _) _) _ _ _); ((rename Fr _ _ _ _ => cF); (rename News _ _ _ _ => cN); (first | ((with_reducible show wpAny _ _ (call (Value.ref 38) _) _ _ _); k_dflt (refine Fn.use' (k := 400) (andN_fn _ _ _ _ _) (by k_asm) cF (by k_asm) cN (by k_asm) (by rfl) (by rfl) (by decide) (by decide) (by decide) trivial ?_)) | ((with_reducible show wpAny _ _ (call (Value.ref 45) _) _ _ _); k_dflt (refine Fn.use' (k := 400) (orN_fn _ _ _ _ _) (by k_asm) cF (by k_asm) cN (by k_asm) (by rfl) (by rfl) (by decide) (by decide) (by decide) trivial ?_)) | ((with_reducible show wpAny _ _ (call (Value.ref 52) _) _ _ _); k_dflt (refine Fn.use' (k := 400) (xorN_fn _ _ _ _ _) (by k_asm) cF (by k_asm) cN (by k_asm) (by rfl) (by rfl) (by decide) (by decide) (by decide) trivial ?_))); intro v' h' tk' F' N' K' P'; clear cF cN; k_dflt (obtain ⟨t', e'⟩ := P'); subst e'; clear K'))) | (with_reducible ((show wpAny _ _ (callWith _ (Value.ref _) _ _ _) _ _ _); (k_here; k_dflt (refine' callWith_K ?k1 ?k2 ?_; (case k1 => k_asm); (case k2 => k_is); k_whole)))) | ((k_here; (with_reducible show wpAny _ _ (subscriptTail _ _ (Value.str _ _) (Value.int _ _)) _ _ _); (refine item_at (by omega) (by omega) (by omega) ?_); intro kxiE)) | (with_reducible ((show @ite _ _ _ _ _); ((refine ite_both (fun hc => ?_) (fun hc => ?_)); (all_goals (try simp only [beq_iff_eq, decide_eq_true_eq] at hc)))))) | (dsimp only; walk1) | fail "no step")
          (rename Fr _ _ _ _ => F31); (rename News _ _ _ _ => N31)
          obtain ⟨base2, hb2, N32⟩ : ∃ b, b = _ ∧ News _ _ _ b := ⟨_, rfl, N31⟩
          clear N31
          refine ⟨_, ysR.toArray, base2, PRow base2 (tabOf a b c xs), rfl, by rfl, F31, N32, size3 hlR, hJR, PRow.start _ _, ?srcA, ?turnA, ?finA⟩
          case srcA =>
            rintro i ys news ⟨lb, rfl, -, -⟩
            refine .inr ⟨_, List.mem_append_left _ (by subst hb2; k_mem), rfl, _, rfl⟩
          case turnA =>
            --<t
            intro I C X D2 i v ys news oI oC oX mC s32 E32 nIC nIX nID nCX nCD nXD hi hys hv hP hJ hoX hC F N off
            clear F31 N32
            (try clear F30)
            obtain ⟨lb, rfl, hlb, hL⟩ := hP
            obtain ⟨ds, hds, l, vs, own, rfl, hmem, hS, hvl⟩ := hRd.at (at_arr hv)
            have hof := off
            have hof0 := hb2
            subst hb2
            simp only [List.cons_append] at N
            have jm4 : LawMark 4 := trivial
            repeat (first | (with_reducible first | (refine one_cut5 sR.gens sR.drawn sR.os ?_; intro tkC) | (refine cons_cut5 sR.gens sR.drawn sR.os ?_; intro tkC qC hC)) | (k_unfold; (try dsimp only)) | walk1 | (with_reducible first | refine CutQ.next (by assumption) ?_ | refine CutQ.ret (by assumption) ?_ | refine CutQ.brk (by assumption) ?_ | refine CutQ.cont (by assumption) ?_ | refine EndQ.ret (by assumption) ?_ | refine EndQ.next (by assumption) ?_) | ((refine Halt.out' ?_); first | (with_reducible ((show wpAny _ _ (subscriptTail _ _ (Value.ref _) (Value.int _ _)) _ _ _); ((with_reducible rename LawMark 2 => jmX); (rename News _ _ _ _ => cN); (rename AreV fI _ _ => cR); k_dflt (first | refine item_V (k := 0) cN (by k_mem) cR (by rfl) (by rfl) (by decide) ?_ | refine item_V (k := 1) cN (by k_mem) cR (by rfl) (by rfl) (by decide) ?_ | refine item_V (k := 2) cN (by k_mem) cR (by rfl) (by rfl) (by decide) ?_); intro vX hX; k_dflt (obtain ⟨t', e'⟩ := hX); subst e'))) | (with_reducible ((show wpAny _ _ (call (Value.ref _) _) _ _ _); ((rename Fr _ _ _ _ => cF); (rename News _ _ _ _ => cN); (first | ((with_reducible show wpAny _ _ (call (Value.ref 38) _) _ _ _); k_dflt (refine Fn.use' (k := 400) (andN_fn _ _ _ _ _) (by k_asm) cF (by k_asm) cN (by k_asm) (by rfl) (by rfl) (by decide) (by decide) (by decide) trivial ?_)) | ((with_reducible show wpAny _ _ (call (Value.ref 45) _) _ _ _); k_dflt (refine Fn.use' (k := 400) (orN_fn _ _ _ _ _) (by k_asm) cF (by k_asm) cN (by k_asm) (by rfl) (by rfl) (by decide) (by decide) (by decide) trivial ?_)) | ((with_reducible show wpAny _ _ (call (Value.ref 52) _) _ _ _); k_dflt (refine Fn.use' (k := 400) (xorN_fn _ _ _ _ _) (by k_asm) cF (by k_asm) cN (by k_asm) (by rfl) (by rfl) (by decide) (by decide) (by decide) trivial ?_))); intro v' h' tk' F' N' K' P'; clear cF cN; k_dflt (obtain ⟨t', e'⟩ := P'); subst e'; clear K'))) | (with_reducible ((show wpAny _ _ (callWith _ (Value.ref _) _ _ _) _ _ _); (k_here; k_dflt (refine' callWith_K ?k1 ?k2 ?_; (case k1 => k_asm); (case k2 => k_is); k_whole)))) | ((k_here; (with_reducible show wpAny _ _ (subscriptTail _ _ (Value.str _ _) (Value.int _ _)) _ _ _); (refine item_at (by omega) (by omega) (by omega) ?_); intro kxiE)) | (with_reducible ((show @ite _ _ _ _ _); ((refine ite_both (fun hc => ?_) (fun hc => ?_)); (all_goals (try simp only [beq_iff_eq, decide_eq_true_eq] at hc)))))) | (dsimp only; walk1) | fail "no step")
            refine Halt.out' ?_
            rename LawMark 4 => jm4
            clear jm4
            (rename Fr _ _ _ _ => F33)
            refine LCg.ListComp_U (F₀ := F33) (by with_unfolding_all rfl) (by decide) (by rfl) (by decide) (by rfl) ?_
            repeat (first | (with_reducible first | (refine one_cut5 sR.gens sR.drawn sR.os ?_; intro tkC) | (refine cons_cut5 sR.gens sR.drawn sR.os ?_; intro tkC qC hC)) | (k_unfold; (try dsimp only)) | walk1 | (with_reducible first | refine CutQ.next (by assumption) ?_ | refine CutQ.ret (by assumption) ?_ | refine CutQ.brk (by assumption) ?_ | refine CutQ.cont (by assumption) ?_ | refine EndQ.ret (by assumption) ?_ | refine EndQ.next (by assumption) ?_) | ((refine Halt.out' ?_); first | (with_reducible ((show wpAny _ _ (subscriptTail _ _ (Value.ref _) (Value.int _ _)) _ _ _); ((with_reducible rename LawMark 2 => jmX); (rename News _ _ _ _ => cN); (rename AreV fI _ _ => cR); k_dflt (first | refine item_V (k := 0) cN (by k_mem) cR (by rfl) (by rfl) (by decide) ?_ | refine item_V (k := 1) cN (by k_mem) cR (by rfl) (by rfl) (by decide) ?_ | refine item_V (k := 2) cN (by k_mem) cR (by rfl) (by rfl) (by decide) ?_); intro vX hX; k_dflt (obtain ⟨t', e'⟩ := hX); subst e'))) | (with_reducible ((show wpAny _ _ (call (Value.ref _) _) _ _ _); ((rename Fr _ _ _ _ => cF); (rename News _ _ _ _ => cN); (first | ((with_reducible show wpAny _ _ (call (Value.ref 38) _) _ _ _); k_dflt (refine Fn.use' (k := 400) (andN_fn _ _ _ _ _) (by k_asm) cF (by k_asm) cN (by k_asm) (by rfl) (by rfl) (by decide) (by decide) (by decide) trivial ?_)) | ((with_reducible show wpAny _ _ (call (Value.ref 45) _) _ _ _); k_dflt (refine Fn.use' (k := 400) (orN_fn _ _ _ _ _) (by k_asm) cF (by k_asm) cN (by k_asm) (by rfl) (by rfl) (by decide) (by decide) (by decide) trivial ?_)) | ((with_reducible show wpAny _ _ (call (Value.ref 52) _) _ _ _); k_dflt (refine Fn.use' (k := 400) (xorN_fn _ _ _ _ _) (by k_asm) cF (by k_asm) cN (by k_asm) (by rfl) (by rfl) (by decide) (by decide) (by decide) trivial ?_))); intro v' h' tk' F' N' K' P'; clear cF cN; k_dflt (obtain ⟨t', e'⟩ := P'); subst e'; clear K'))) | (with_reducible ((show wpAny _ _ (callWith _ (Value.ref _) _ _ _) _ _ _); (k_here; k_dflt (refine' callWith_K ?k1 ?k2 ?_; (case k1 => k_asm); (case k2 => k_is); k_whole)))) | ((k_here; (with_reducible show wpAny _ _ (subscriptTail _ _ (Value.str _ _) (Value.int _ _)) _ _ _); (refine item_at (by omega) (by omega) (by omega) ?_); intro kxiE)) | (with_reducible ((show @ite _ _ _ _ _); ((refine ite_both (fun hc => ?_) (fun hc => ?_)); (all_goals (try simp only [beq_iff_eq, decide_eq_true_eq] at hc)))))) | (dsimp only; walk1) | fail "no step")
            refine Halt.out' ?_
            (rename Fr _ _ _ _ => F34); (rename News _ _ _ _ => N34)
            obtain ⟨x, y, hx1, hy1, hd1, hp1, hxm, hym⟩ := dss_at a b c (Nat.lt_of_lt_of_eq hi (by rw [List.size_toArray]; exact hlR))
            rw [hd1] at hds
            cases hds
            refine LCg.CompSrc.ledger (its := ys7.toArray) (by rfl) F34 N34 (by k_mem) (size3 hl7) ?_
            intro g34
            refine rest_P (fun j y9 => ∃ z, xs[j]? = some z ∧ fB (dueB x y z) y9) (Or.inr ⟨_, by k_mem, rfl, _, rfl⟩) ?turnB ?finB
            case turnB =>
              rintro j vj I2 oI2 C2 oC2 D3 m3 ys2 h2 tk2 E2 hj hvj hC2 hx2 F2 N2 off2 ne2
              clear F34 N34
              have hof2 := off2
              obtain ⟨z, hz, tz, rfl⟩ := RS.at (at_arr hvj)
              repeat (first | (with_reducible first | (refine one_cut5 sR.gens sR.drawn sR.os ?_; intro tkC) | (refine cons_cut5 sR.gens sR.drawn sR.os ?_; intro tkC qC hC)) | (k_unfold; (try dsimp only)) | walk1 | (with_reducible first | refine CutQ.next (by assumption) ?_ | refine CutQ.ret (by assumption) ?_ | refine CutQ.brk (by assumption) ?_ | refine CutQ.cont (by assumption) ?_ | refine EndQ.ret (by assumption) ?_ | refine EndQ.next (by assumption) ?_) | ((refine Halt.out' ?_); first | (with_reducible ((show wpAny _ _ (subscriptTail _ _ (Value.ref _) (Value.int _ _)) _ _ _); ((with_reducible rename LawMark 2 => jmX); (rename News _ _ _ _ => cN); (rename AreV fI _ _ => cR); k_dflt (first | refine item_V (k := 0) cN (by k_mem) cR (by rfl) (by rfl) (by decide) ?_ | refine item_V (k := 1) cN (by k_mem) cR (by rfl) (by rfl) (by decide) ?_ | refine item_V (k := 2) cN (by k_mem) cR (by rfl) (by rfl) (by decide) ?_); intro vX hX; k_dflt (obtain ⟨t', e'⟩ := hX); subst e'))) | (with_reducible ((show wpAny _ _ (call (Value.ref _) _) _ _ _); ((rename Fr _ _ _ _ => cF); (rename News _ _ _ _ => cN); (first | ((with_reducible show wpAny _ _ (call (Value.ref 38) _) _ _ _); k_dflt (refine Fn.use' (k := 400) (andN_fn _ _ _ _ _) (by k_asm) cF (by k_asm) cN (by k_asm) (by rfl) (by rfl) (by decide) (by decide) (by decide) trivial ?_)) | ((with_reducible show wpAny _ _ (call (Value.ref 45) _) _ _ _); k_dflt (refine Fn.use' (k := 400) (orN_fn _ _ _ _ _) (by k_asm) cF (by k_asm) cN (by k_asm) (by rfl) (by rfl) (by decide) (by decide) (by decide) trivial ?_)) | ((with_reducible show wpAny _ _ (call (Value.ref 52) _) _ _ _); k_dflt (refine Fn.use' (k := 400) (xorN_fn _ _ _ _ _) (by k_asm) cF (by k_asm) cN (by k_asm) (by rfl) (by rfl) (by decide) (by decide) (by decide) trivial ?_))); intro v' h' tk' F' N' K' P'; clear cF cN; k_dflt (obtain ⟨t', e'⟩ := P'); subst e'; clear K'))) | (with_reducible ((show wpAny _ _ (callWith _ (Value.ref _) _ _ _) _ _ _); (k_here; k_dflt (refine' callWith_K ?k1 ?k2 ?_; (case k1 => k_asm); (case k2 => k_is); k_whole)))) | ((k_here; (with_reducible show wpAny _ _ (subscriptTail _ _ (Value.str _ _) (Value.int _ _)) _ _ _); (refine item_at (by omega) (by omega) (by omega) ?_); intro kxiE)) | (with_reducible ((show @ite _ _ _ _ _); ((refine ite_both (fun hc => ?_) (fun hc => ?_)); (all_goals (try simp only [beq_iff_eq, decide_eq_true_eq] at hc)))))) | (dsimp only; walk1) | fail "no step")
              refine Halt.out' ?_
              (rename Fr _ _ _ _ => F35); (rename News _ _ _ _ => N35)
              refine Fn.use' (k := 400) (takesN_fn _ l vs own _ z _ hvl hS) BB F35 XX N35 TT (by rfl) (by rfl) (by decide) (by decide) (by decide) ?pre ?_
              case pre =>
                intro p hp
                refine (N35 p ?_).1
                repeat (first | exact List.mem_append_left _ (hmem p hp) | refine List.mem_cons_of_mem _ ?_)
              rintro v36 h36 tk36 F36 N36 - rfl
              clear F35 N35
              repeat (first | (with_reducible first | (refine one_cut5 sR.gens sR.drawn sR.os ?_; intro tkC) | (refine cons_cut5 sR.gens sR.drawn sR.os ?_; intro tkC qC hC)) | (k_unfold; (try dsimp only)) | walk1 | (with_reducible first | refine CutQ.next (by assumption) ?_ | refine CutQ.ret (by assumption) ?_ | refine CutQ.brk (by assumption) ?_ | refine CutQ.cont (by assumption) ?_ | refine EndQ.ret (by assumption) ?_ | refine EndQ.next (by assumption) ?_) | ((refine Halt.out' ?_); first | (with_reducible ((show wpAny _ _ (subscriptTail _ _ (Value.ref _) (Value.int _ _)) _ _ _); ((with_reducible rename LawMark 2 => jmX); (rename News _ _ _ _ => cN); (rename AreV fI _ _ => cR); k_dflt (first | refine item_V (k := 0) cN (by k_mem) cR (by rfl) (by rfl) (by decide) ?_ | refine item_V (k := 1) cN (by k_mem) cR (by rfl) (by rfl) (by decide) ?_ | refine item_V (k := 2) cN (by k_mem) cR (by rfl) (by rfl) (by decide) ?_); intro vX hX; k_dflt (obtain ⟨t', e'⟩ := hX); subst e'))) | (with_reducible ((show wpAny _ _ (call (Value.ref _) _) _ _ _); ((rename Fr _ _ _ _ => cF); (rename News _ _ _ _ => cN); (first | ((with_reducible show wpAny _ _ (call (Value.ref 38) _) _ _ _); k_dflt (refine Fn.use' (k := 400) (andN_fn _ _ _ _ _) (by k_asm) cF (by k_asm) cN (by k_asm) (by rfl) (by rfl) (by decide) (by decide) (by decide) trivial ?_)) | ((with_reducible show wpAny _ _ (call (Value.ref 45) _) _ _ _); k_dflt (refine Fn.use' (k := 400) (orN_fn _ _ _ _ _) (by k_asm) cF (by k_asm) cN (by k_asm) (by rfl) (by rfl) (by decide) (by decide) (by decide) trivial ?_)) | ((with_reducible show wpAny _ _ (call (Value.ref 52) _) _ _ _); k_dflt (refine Fn.use' (k := 400) (xorN_fn _ _ _ _ _) (by k_asm) cF (by k_asm) cN (by k_asm) (by rfl) (by rfl) (by decide) (by decide) (by decide) trivial ?_))); intro v' h' tk' F' N' K' P'; clear cF cN; k_dflt (obtain ⟨t', e'⟩ := P'); subst e'; clear K'))) | (with_reducible ((show wpAny _ _ (callWith _ (Value.ref _) _ _ _) _ _ _); (k_here; k_dflt (refine' callWith_K ?k1 ?k2 ?_; (case k1 => k_asm); (case k2 => k_is); k_whole)))) | ((k_here; (with_reducible show wpAny _ _ (subscriptTail _ _ (Value.str _ _) (Value.int _ _)) _ _ _); (refine item_at (by omega) (by omega) (by omega) ?_); intro kxiE)) | (with_reducible ((show @ite _ _ _ _ _); ((refine ite_both (fun hc => ?_) (fun hc => ?_)); (all_goals (try simp only [beq_iff_eq, decide_eq_true_eq] at hc)))))) | (dsimp only; walk1) | fail "no step")
              refine Halt.out' ?_
              (rename Fr _ _ _ _ => cF); (rename News _ _ _ _ => cN)
              exact ⟨_, _, _, rfl, cF, cN, hof2, Or.inr ⟨_, by k_mem, rfl, _, rfl⟩, rfl, z, hz, by rw [takes_due hT hxm hym (tried_lt hTL hz)]; rfl⟩
            case finB =>
              intro ys2 hl2 hy2
              unfold LCg.FinE
              intro D3 h3 tk3 F3 N3 off3
              have hrow := row_bools (hl2.trans (by rw [List.size_toArray]; exact hl7)) hx3.symm hy2
              subst hrow
              exact ⟨_, F3, news_row N3, off_row hof off3, hJ, PRow.step hlb (off1_base off3) hL (tab_at hp1)⟩
            --t>
          case finA =>
            intro DA ysA newsA sA hlA hPA hJA FA NA offA
            clear F31 N32
            (try clear F30)
            obtain ⟨lbA, rfl, hlA2, hAA⟩ := hPA
            have hA : AreV (fL lbA) ysA (tabOf a b c xs) := by
              rw [show ysR.toArray.size = 3 from (List.size_toArray).trans hlR] at hAA
              exact hAA
            clear hAA
            clear offA
            subst hb2
            simp only [List.cons_append] at NA
            have jm5 : LawMark 5 := trivial
            (try dsimp only)
            repeat (first | (with_reducible first | (refine one_cut5 sA.gens sA.drawn sA.os ?_; intro tkC) | (refine cons_cut5 sA.gens sA.drawn sA.os ?_; intro tkC qC hC)) | (k_unfold; (try dsimp only)) | walk1 | (with_reducible first | refine CutQ.next (by assumption) ?_ | refine CutQ.ret (by assumption) ?_ | refine CutQ.brk (by assumption) ?_ | refine CutQ.cont (by assumption) ?_ | refine EndQ.ret (by assumption) ?_ | refine EndQ.next (by assumption) ?_) | ((refine Halt.out' ?_); first | (with_reducible ((show wpAny _ _ (subscriptTail _ _ (Value.ref _) (Value.int _ _)) _ _ _); ((with_reducible rename LawMark 2 => jmX); (rename News _ _ _ _ => cN); (rename AreV fI _ _ => cR); k_dflt (first | refine item_V (k := 0) cN (by k_mem) cR (by rfl) (by rfl) (by decide) ?_ | refine item_V (k := 1) cN (by k_mem) cR (by rfl) (by rfl) (by decide) ?_ | refine item_V (k := 2) cN (by k_mem) cR (by rfl) (by rfl) (by decide) ?_); intro vX hX; k_dflt (obtain ⟨t', e'⟩ := hX); subst e'))) | (with_reducible ((show wpAny _ _ (call (Value.ref _) _) _ _ _); ((rename Fr _ _ _ _ => cF); (rename News _ _ _ _ => cN); (first | ((with_reducible show wpAny _ _ (call (Value.ref 38) _) _ _ _); k_dflt (refine Fn.use' (k := 400) (andN_fn _ _ _ _ _) (by k_asm) cF (by k_asm) cN (by k_asm) (by rfl) (by rfl) (by decide) (by decide) (by decide) trivial ?_)) | ((with_reducible show wpAny _ _ (call (Value.ref 45) _) _ _ _); k_dflt (refine Fn.use' (k := 400) (orN_fn _ _ _ _ _) (by k_asm) cF (by k_asm) cN (by k_asm) (by rfl) (by rfl) (by decide) (by decide) (by decide) trivial ?_)) | ((with_reducible show wpAny _ _ (call (Value.ref 52) _) _ _ _); k_dflt (refine Fn.use' (k := 400) (xorN_fn _ _ _ _ _) (by k_asm) cF (by k_asm) cN (by k_asm) (by rfl) (by rfl) (by decide) (by decide) (by decide) trivial ?_))); intro v' h' tk' F' N' K' P'; clear cF cN; k_dflt (obtain ⟨t', e'⟩ := P'); subst e'; clear K'))) | (with_reducible ((show wpAny _ _ (callWith _ (Value.ref _) _ _ _) _ _ _); (k_here; k_dflt (refine' callWith_K ?k1 ?k2 ?_; (case k1 => k_asm); (case k2 => k_is); k_whole)))) | ((k_here; (with_reducible show wpAny _ _ (subscriptTail _ _ (Value.str _ _) (Value.int _ _)) _ _ _); (refine item_at (by omega) (by omega) (by omega) ?_); intro kxiE)) | (with_reducible ((show @ite _ _ _ _ _); ((refine ite_both (fun hc => ?_) (fun hc => ?_)); (all_goals (try simp only [beq_iff_eq, decide_eq_true_eq] at hc)))))) | (dsimp only; walk1) | fail "no step")
            refine Halt.out' ?_
            rename LawMark 5 => jm5
            clear jm5
            (rename Fr _ _ _ _ => F39); (rename News _ _ _ _ => N39)
            refine store_N (pre := [_, _, _, _, _, _, _]) (cs := [_, _, _, _, _]) (tl := ls ++ lbA) F39 N39 (by assumption) (by (iterate 7 (refine List.forall_mem_cons.mpr ⟨nofun, ?_⟩)); exact List.forall_mem_nil _) (by (iterate 5 (refine List.forall_mem_cons.mpr ⟨by simp [Nat.add_assoc], ?_⟩)); exact List.forall_mem_nil _) ?tl (by rfl) (by rfl) (by rfl) ?_
            case tl =>
              intro p hp
              rcases List.mem_append.mp hp with hp | hp
              · exact hlbR p hp (_, _) (by k_mem)
              · exact hlA2 p hp (_, _) (by k_mem)
            intro h39 o39 F39b N39b d39
            clear F39 N39
            simp only [List.cons_append, List.nil_append] at N39b
            have jm3 : LawMark 3 := trivial
            (try dsimp only)
            repeat (first | (with_reducible first | (refine one_cut5 sA.gens sA.drawn sA.os ?_; intro tkC) | (refine cons_cut5 sA.gens sA.drawn sA.os ?_; intro tkC qC hC)) | (k_unfold; (try dsimp only)) | walk1 | (with_reducible first | refine CutQ.next (by assumption) ?_ | refine CutQ.ret (by assumption) ?_ | refine CutQ.brk (by assumption) ?_ | refine CutQ.cont (by assumption) ?_ | refine EndQ.ret (by assumption) ?_ | refine EndQ.next (by assumption) ?_) | ((refine Halt.out' ?_); first | (with_reducible ((show wpAny _ _ (subscriptTail _ _ (Value.ref _) (Value.int _ _)) _ _ _); ((with_reducible rename LawMark 2 => jmX); (rename News _ _ _ _ => cN); (rename AreV fI _ _ => cR); k_dflt (first | refine item_V (k := 0) cN (by k_mem) cR (by rfl) (by rfl) (by decide) ?_ | refine item_V (k := 1) cN (by k_mem) cR (by rfl) (by rfl) (by decide) ?_ | refine item_V (k := 2) cN (by k_mem) cR (by rfl) (by rfl) (by decide) ?_); intro vX hX; k_dflt (obtain ⟨t', e'⟩ := hX); subst e'))) | (with_reducible ((show wpAny _ _ (call (Value.ref _) _) _ _ _); ((rename Fr _ _ _ _ => cF); (rename News _ _ _ _ => cN); (first | ((with_reducible show wpAny _ _ (call (Value.ref 38) _) _ _ _); k_dflt (refine Fn.use' (k := 400) (andN_fn _ _ _ _ _) (by k_asm) cF (by k_asm) cN (by k_asm) (by rfl) (by rfl) (by decide) (by decide) (by decide) trivial ?_)) | ((with_reducible show wpAny _ _ (call (Value.ref 45) _) _ _ _); k_dflt (refine Fn.use' (k := 400) (orN_fn _ _ _ _ _) (by k_asm) cF (by k_asm) cN (by k_asm) (by rfl) (by rfl) (by decide) (by decide) (by decide) trivial ?_)) | ((with_reducible show wpAny _ _ (call (Value.ref 52) _) _ _ _); k_dflt (refine Fn.use' (k := 400) (xorN_fn _ _ _ _ _) (by k_asm) cF (by k_asm) cN (by k_asm) (by rfl) (by rfl) (by decide) (by decide) (by decide) trivial ?_))); intro v' h' tk' F' N' K' P'; clear cF cN; k_dflt (obtain ⟨t', e'⟩ := P'); subst e'; clear K'))) | (with_reducible ((show wpAny _ _ (callWith _ (Value.ref _) _ _ _) _ _ _); (k_here; k_dflt (refine' callWith_K ?k1 ?k2 ?_; (case k1 => k_asm); (case k2 => k_is); k_whole)))) | ((k_here; (with_reducible show wpAny _ _ (subscriptTail _ _ (Value.str _ _) (Value.int _ _)) _ _ _); (refine item_at (by omega) (by omega) (by omega) ?_); intro kxiE)) | (with_reducible ((show @ite _ _ _ _ _); ((refine ite_both (fun hc => ?_) (fun hc => ?_)); (all_goals (try simp only [beq_iff_eq, decide_eq_true_eq] at hc)))))) | (dsimp only; walk1) | fail "no step")
            refine Halt.out' ?_
            rename LawMark 3 => jm3
            clear jm3
            (rename Fr _ _ _ _ => F40)
            refine Assign_CR (JG s₁.os) (JG.hh _) F40 (by rfl) (by with_unfolding_all rfl) (by with_unfolding_all rfl) (by rfl) (fun _ _ => rfl) (fun _ => rfl) (by decide) (fun _ _ => by rfl) (by rfl) (by rfl) ?_
            repeat (first | (with_reducible first | (refine one_cut5 sA.gens sA.drawn sA.os ?_; intro tkC) | (refine cons_cut5 sA.gens sA.drawn sA.os ?_; intro tkC qC hC)) | (k_unfold; (try dsimp only)) | walk1 | (with_reducible first | refine CutQ.next (by assumption) ?_ | refine CutQ.ret (by assumption) ?_ | refine CutQ.brk (by assumption) ?_ | refine CutQ.cont (by assumption) ?_ | refine EndQ.ret (by assumption) ?_ | refine EndQ.next (by assumption) ?_) | ((refine Halt.out' ?_); first | (with_reducible ((show wpAny _ _ (subscriptTail _ _ (Value.ref _) (Value.int _ _)) _ _ _); ((with_reducible rename LawMark 2 => jmX); (rename News _ _ _ _ => cN); (rename AreV fI _ _ => cR); k_dflt (first | refine item_V (k := 0) cN (by k_mem) cR (by rfl) (by rfl) (by decide) ?_ | refine item_V (k := 1) cN (by k_mem) cR (by rfl) (by rfl) (by decide) ?_ | refine item_V (k := 2) cN (by k_mem) cR (by rfl) (by rfl) (by decide) ?_); intro vX hX; k_dflt (obtain ⟨t', e'⟩ := hX); subst e'))) | (with_reducible ((show wpAny _ _ (call (Value.ref _) _) _ _ _); ((rename Fr _ _ _ _ => cF); (rename News _ _ _ _ => cN); (first | ((with_reducible show wpAny _ _ (call (Value.ref 38) _) _ _ _); k_dflt (refine Fn.use' (k := 400) (andN_fn _ _ _ _ _) (by k_asm) cF (by k_asm) cN (by k_asm) (by rfl) (by rfl) (by decide) (by decide) (by decide) trivial ?_)) | ((with_reducible show wpAny _ _ (call (Value.ref 45) _) _ _ _); k_dflt (refine Fn.use' (k := 400) (orN_fn _ _ _ _ _) (by k_asm) cF (by k_asm) cN (by k_asm) (by rfl) (by rfl) (by decide) (by decide) (by decide) trivial ?_)) | ((with_reducible show wpAny _ _ (call (Value.ref 52) _) _ _ _); k_dflt (refine Fn.use' (k := 400) (xorN_fn _ _ _ _ _) (by k_asm) cF (by k_asm) cN (by k_asm) (by rfl) (by rfl) (by decide) (by decide) (by decide) trivial ?_))); intro v' h' tk' F' N' K' P'; clear cF cN; k_dflt (obtain ⟨t', e'⟩ := P'); subst e'; clear K'))) | (with_reducible ((show wpAny _ _ (callWith _ (Value.ref _) _ _ _) _ _ _); (k_here; k_dflt (refine' callWith_K ?k1 ?k2 ?_; (case k1 => k_asm); (case k2 => k_is); k_whole)))) | ((k_here; (with_reducible show wpAny _ _ (subscriptTail _ _ (Value.str _ _) (Value.int _ _)) _ _ _); (refine item_at (by omega) (by omega) (by omega) ?_); intro kxiE)) | (with_reducible ((show @ite _ _ _ _ _); ((refine ite_both (fun hc => ?_) (fun hc => ?_)); (all_goals (try simp only [beq_iff_eq, decide_eq_true_eq] at hc)))))) | (dsimp only; walk1) | fail "no step")
            (rename Fr _ _ _ _ => F41); (rename News _ _ _ _ => N41); (rename IsRange _ _ _ _ _ _ _ _ => rg41)
            obtain ⟨base3, hb3, N42⟩ : ∃ b, b = _ ∧ News _ _ _ b := ⟨_, rfl, N41⟩
            clear N41
            refine ⟨_, _, _, _, 3, base3, PRow base3 (tabOf a b c xs), rfl, by rfl, F41, N42, rg41, by decide, by decide, hJA, PRow.start _ _, ?turnC, ?finC⟩
            case turnC =>
              --<t
              rintro I C X D4 i v ys news oI oC oX mC s42 E42 nIC nIX nID nCX nCD nXD hi hys ⟨t42, rfl⟩ hP hJ hoX hC F N off
              clear F41 N42 rg41
              (try clear F40)
              obtain ⟨lb, rfl, hlb, hL⟩ := hP
              obtain ⟨x, y, hx1, hy1, hd1, hp1, hxm, hym⟩ := dss_at a b c hi
              have hof := off
              subst hb3
              simp only [List.cons_append] at N
              have jm4 : LawMark 4 := trivial
              repeat (first | (with_reducible first | (refine one_cut5 sA.gens sA.drawn sA.os ?_; intro tkC) | (refine cons_cut5 sA.gens sA.drawn sA.os ?_; intro tkC qC hC)) | (k_unfold; (try dsimp only)) | walk1 | (with_reducible first | refine CutQ.next (by assumption) ?_ | refine CutQ.ret (by assumption) ?_ | refine CutQ.brk (by assumption) ?_ | refine CutQ.cont (by assumption) ?_ | refine EndQ.ret (by assumption) ?_ | refine EndQ.next (by assumption) ?_) | ((refine Halt.out' ?_); first | (with_reducible ((show wpAny _ _ (subscriptTail _ _ (Value.ref _) (Value.int _ _)) _ _ _); ((with_reducible rename LawMark 2 => jmX); (rename News _ _ _ _ => cN); (rename AreV fI _ _ => cR); k_dflt (first | refine item_V (k := 0) cN (by k_mem) cR (by rfl) (by rfl) (by decide) ?_ | refine item_V (k := 1) cN (by k_mem) cR (by rfl) (by rfl) (by decide) ?_ | refine item_V (k := 2) cN (by k_mem) cR (by rfl) (by rfl) (by decide) ?_); intro vX hX; k_dflt (obtain ⟨t', e'⟩ := hX); subst e'))) | (with_reducible ((show wpAny _ _ (call (Value.ref _) _) _ _ _); ((rename Fr _ _ _ _ => cF); (rename News _ _ _ _ => cN); (first | ((with_reducible show wpAny _ _ (call (Value.ref 38) _) _ _ _); k_dflt (refine Fn.use' (k := 400) (andN_fn _ _ _ _ _) (by k_asm) cF (by k_asm) cN (by k_asm) (by rfl) (by rfl) (by decide) (by decide) (by decide) trivial ?_)) | ((with_reducible show wpAny _ _ (call (Value.ref 45) _) _ _ _); k_dflt (refine Fn.use' (k := 400) (orN_fn _ _ _ _ _) (by k_asm) cF (by k_asm) cN (by k_asm) (by rfl) (by rfl) (by decide) (by decide) (by decide) trivial ?_)) | ((with_reducible show wpAny _ _ (call (Value.ref 52) _) _ _ _); k_dflt (refine Fn.use' (k := 400) (xorN_fn _ _ _ _ _) (by k_asm) cF (by k_asm) cN (by k_asm) (by rfl) (by rfl) (by decide) (by decide) (by decide) trivial ?_))); intro v' h' tk' F' N' K' P'; clear cF cN; k_dflt (obtain ⟨t', e'⟩ := P'); subst e'; clear K'))) | (with_reducible ((show wpAny _ _ (callWith _ (Value.ref _) _ _ _) _ _ _); (k_here; k_dflt (refine' callWith_K ?k1 ?k2 ?_; (case k1 => k_asm); (case k2 => k_is); k_whole)))) | ((k_here; (with_reducible show wpAny _ _ (subscriptTail _ _ (Value.str _ _) (Value.int _ _)) _ _ _); (refine item_at (by omega) (by omega) (by omega) ?_); intro kxiE)) | (with_reducible ((show @ite _ _ _ _ _); ((refine ite_both (fun hc => ?_) (fun hc => ?_)); (all_goals (try simp only [beq_iff_eq, decide_eq_true_eq] at hc)))))) | (dsimp only; walk1) | fail "no step")
              refine Halt.out' ?_
              rename LawMark 4 => jm4
              clear jm4
              (rename Fr _ _ _ _ => F43)
              refine LCg.ListComp_U (F₀ := F43) (by with_unfolding_all rfl) (by decide) (by rfl) (by decide) (by rfl) ?_
              repeat (first | (with_reducible first | (refine one_cut5 sA.gens sA.drawn sA.os ?_; intro tkC) | (refine cons_cut5 sA.gens sA.drawn sA.os ?_; intro tkC qC hC)) | (k_unfold; (try dsimp only)) | walk1 | (with_reducible first | refine CutQ.next (by assumption) ?_ | refine CutQ.ret (by assumption) ?_ | refine CutQ.brk (by assumption) ?_ | refine CutQ.cont (by assumption) ?_ | refine EndQ.ret (by assumption) ?_ | refine EndQ.next (by assumption) ?_) | ((refine Halt.out' ?_); first | (with_reducible ((show wpAny _ _ (subscriptTail _ _ (Value.ref _) (Value.int _ _)) _ _ _); ((with_reducible rename LawMark 2 => jmX); (rename News _ _ _ _ => cN); (rename AreV fI _ _ => cR); k_dflt (first | refine item_V (k := 0) cN (by k_mem) cR (by rfl) (by rfl) (by decide) ?_ | refine item_V (k := 1) cN (by k_mem) cR (by rfl) (by rfl) (by decide) ?_ | refine item_V (k := 2) cN (by k_mem) cR (by rfl) (by rfl) (by decide) ?_); intro vX hX; k_dflt (obtain ⟨t', e'⟩ := hX); subst e'))) | (with_reducible ((show wpAny _ _ (call (Value.ref _) _) _ _ _); ((rename Fr _ _ _ _ => cF); (rename News _ _ _ _ => cN); (first | ((with_reducible show wpAny _ _ (call (Value.ref 38) _) _ _ _); k_dflt (refine Fn.use' (k := 400) (andN_fn _ _ _ _ _) (by k_asm) cF (by k_asm) cN (by k_asm) (by rfl) (by rfl) (by decide) (by decide) (by decide) trivial ?_)) | ((with_reducible show wpAny _ _ (call (Value.ref 45) _) _ _ _); k_dflt (refine Fn.use' (k := 400) (orN_fn _ _ _ _ _) (by k_asm) cF (by k_asm) cN (by k_asm) (by rfl) (by rfl) (by decide) (by decide) (by decide) trivial ?_)) | ((with_reducible show wpAny _ _ (call (Value.ref 52) _) _ _ _); k_dflt (refine Fn.use' (k := 400) (xorN_fn _ _ _ _ _) (by k_asm) cF (by k_asm) cN (by k_asm) (by rfl) (by rfl) (by decide) (by decide) (by decide) trivial ?_))); intro v' h' tk' F' N' K' P'; clear cF cN; k_dflt (obtain ⟨t', e'⟩ := P'); subst e'; clear K'))) | (with_reducible ((show wpAny _ _ (callWith _ (Value.ref _) _ _ _) _ _ _); (k_here; k_dflt (refine' callWith_K ?k1 ?k2 ?_; (case k1 => k_asm); (case k2 => k_is); k_whole)))) | ((k_here; (with_reducible show wpAny _ _ (subscriptTail _ _ (Value.str _ _) (Value.int _ _)) _ _ _); (refine item_at (by omega) (by omega) (by omega) ?_); intro kxiE)) | (with_reducible ((show @ite _ _ _ _ _); ((refine ite_both (fun hc => ?_) (fun hc => ?_)); (all_goals (try simp only [beq_iff_eq, decide_eq_true_eq] at hc)))))) | (dsimp only; walk1) | fail "no step")
              refine Halt.out' ?_
              (rename Fr _ _ _ _ => F44); (rename News _ _ _ _ => N44)
              refine LCg.CompSrc.ledger (its := vst.toArray) (by rfl) F44 N44 (by k_mem) (size3 hlt) ?_
              intro g44
              refine rest_P (fun j y9 => ∃ z, xs[j]? = some z ∧ fB (dueB x y z) y9) (Or.inr ⟨_, by k_mem, rfl, _, rfl⟩) ?turnD ?finD
              case turnD =>
                rintro j vj I2 oI2 C2 oC2 D3 m3 ys2 h2 tk2 E2 hj hvj hC2 hx2 F2 N2 off2 ne2
                clear F44 N44
                have hof2 := off2
                obtain ⟨z, hz, tz, rfl⟩ := RT.at (at_arr hvj)
                have jm1 : LawMark 1 := trivial
                repeat (first | (with_reducible first | (refine one_cut5 sA.gens sA.drawn sA.os ?_; intro tkC) | (refine cons_cut5 sA.gens sA.drawn sA.os ?_; intro tkC qC hC)) | (k_unfold; (try dsimp only)) | walk1 | (with_reducible first | refine CutQ.next (by assumption) ?_ | refine CutQ.ret (by assumption) ?_ | refine CutQ.brk (by assumption) ?_ | refine CutQ.cont (by assumption) ?_ | refine EndQ.ret (by assumption) ?_ | refine EndQ.next (by assumption) ?_) | ((refine Halt.out' ?_); first | (with_reducible ((show wpAny _ _ (subscriptTail _ _ (Value.ref _) (Value.int _ _)) _ _ _); ((with_reducible rename LawMark 2 => jmX); (rename News _ _ _ _ => cN); (rename AreV fI _ _ => cR); k_dflt (first | refine item_V (k := 0) cN (by k_mem) cR (by rfl) (by rfl) (by decide) ?_ | refine item_V (k := 1) cN (by k_mem) cR (by rfl) (by rfl) (by decide) ?_ | refine item_V (k := 2) cN (by k_mem) cR (by rfl) (by rfl) (by decide) ?_); intro vX hX; k_dflt (obtain ⟨t', e'⟩ := hX); subst e'))) | (with_reducible ((show wpAny _ _ (call (Value.ref _) _) _ _ _); ((rename Fr _ _ _ _ => cF); (rename News _ _ _ _ => cN); (first | ((with_reducible show wpAny _ _ (call (Value.ref 38) _) _ _ _); k_dflt (refine Fn.use' (k := 400) (andN_fn _ _ _ _ _) (by k_asm) cF (by k_asm) cN (by k_asm) (by rfl) (by rfl) (by decide) (by decide) (by decide) trivial ?_)) | ((with_reducible show wpAny _ _ (call (Value.ref 45) _) _ _ _); k_dflt (refine Fn.use' (k := 400) (orN_fn _ _ _ _ _) (by k_asm) cF (by k_asm) cN (by k_asm) (by rfl) (by rfl) (by decide) (by decide) (by decide) trivial ?_)) | ((with_reducible show wpAny _ _ (call (Value.ref 52) _) _ _ _); k_dflt (refine Fn.use' (k := 400) (xorN_fn _ _ _ _ _) (by k_asm) cF (by k_asm) cN (by k_asm) (by rfl) (by rfl) (by decide) (by decide) (by decide) trivial ?_))); intro v' h' tk' F' N' K' P'; clear cF cN; k_dflt (obtain ⟨t', e'⟩ := P'); subst e'; clear K'))) | (with_reducible ((show wpAny _ _ (callWith _ (Value.ref _) _ _ _) _ _ _); (k_here; k_dflt (refine' callWith_K ?k1 ?k2 ?_; (case k1 => k_asm); (case k2 => k_is); k_whole)))) | ((k_here; (with_reducible show wpAny _ _ (subscriptTail _ _ (Value.str _ _) (Value.int _ _)) _ _ _); (refine item_at (by omega) (by omega) (by omega) ?_); intro kxiE)) | (with_reducible ((show @ite _ _ _ _ _); ((refine ite_both (fun hc => ?_) (fun hc => ?_)); (all_goals (try simp only [beq_iff_eq, decide_eq_true_eq] at hc)))))) | (dsimp only; walk1) | fail "no step")
                refine Halt.out' ?_
                (rename Fr _ _ _ _ => F45); (rename News _ _ _ _ => N45)
                refine item_V N45 (by k_mem) R3 hx1 (by rfl) (fit3 hi) ?_
                rintro _ ⟨t45, rfl⟩
                repeat (first | (with_reducible first | (refine one_cut5 sA.gens sA.drawn sA.os ?_; intro tkC) | (refine cons_cut5 sA.gens sA.drawn sA.os ?_; intro tkC qC hC)) | (k_unfold; (try dsimp only)) | walk1 | (with_reducible first | refine CutQ.next (by assumption) ?_ | refine CutQ.ret (by assumption) ?_ | refine CutQ.brk (by assumption) ?_ | refine CutQ.cont (by assumption) ?_ | refine EndQ.ret (by assumption) ?_ | refine EndQ.next (by assumption) ?_) | ((refine Halt.out' ?_); first | (with_reducible ((show wpAny _ _ (subscriptTail _ _ (Value.ref _) (Value.int _ _)) _ _ _); ((with_reducible rename LawMark 2 => jmX); (rename News _ _ _ _ => cN); (rename AreV fI _ _ => cR); k_dflt (first | refine item_V (k := 0) cN (by k_mem) cR (by rfl) (by rfl) (by decide) ?_ | refine item_V (k := 1) cN (by k_mem) cR (by rfl) (by rfl) (by decide) ?_ | refine item_V (k := 2) cN (by k_mem) cR (by rfl) (by rfl) (by decide) ?_); intro vX hX; k_dflt (obtain ⟨t', e'⟩ := hX); subst e'))) | (with_reducible ((show wpAny _ _ (call (Value.ref _) _) _ _ _); ((rename Fr _ _ _ _ => cF); (rename News _ _ _ _ => cN); (first | ((with_reducible show wpAny _ _ (call (Value.ref 38) _) _ _ _); k_dflt (refine Fn.use' (k := 400) (andN_fn _ _ _ _ _) (by k_asm) cF (by k_asm) cN (by k_asm) (by rfl) (by rfl) (by decide) (by decide) (by decide) trivial ?_)) | ((with_reducible show wpAny _ _ (call (Value.ref 45) _) _ _ _); k_dflt (refine Fn.use' (k := 400) (orN_fn _ _ _ _ _) (by k_asm) cF (by k_asm) cN (by k_asm) (by rfl) (by rfl) (by decide) (by decide) (by decide) trivial ?_)) | ((with_reducible show wpAny _ _ (call (Value.ref 52) _) _ _ _); k_dflt (refine Fn.use' (k := 400) (xorN_fn _ _ _ _ _) (by k_asm) cF (by k_asm) cN (by k_asm) (by rfl) (by rfl) (by decide) (by decide) (by decide) trivial ?_))); intro v' h' tk' F' N' K' P'; clear cF cN; k_dflt (obtain ⟨t', e'⟩ := P'); subst e'; clear K'))) | (with_reducible ((show wpAny _ _ (callWith _ (Value.ref _) _ _ _) _ _ _); (k_here; k_dflt (refine' callWith_K ?k1 ?k2 ?_; (case k1 => k_asm); (case k2 => k_is); k_whole)))) | ((k_here; (with_reducible show wpAny _ _ (subscriptTail _ _ (Value.str _ _) (Value.int _ _)) _ _ _); (refine item_at (by omega) (by omega) (by omega) ?_); intro kxiE)) | (with_reducible ((show @ite _ _ _ _ _); ((refine ite_both (fun hc => ?_) (fun hc => ?_)); (all_goals (try simp only [beq_iff_eq, decide_eq_true_eq] at hc)))))) | (dsimp only; walk1) | fail "no step")
                refine Halt.out' ?_
                (rename Fr _ _ _ _ => F46); (rename News _ _ _ _ => N46)
                refine item_V N46 (by k_mem) R3 hy1 (fmod3 i) (fit3' i) ?_
                rintro _ ⟨t46, rfl⟩
                rename LawMark 1 => jm1
                clear jm1
                repeat (first | (with_reducible first | (refine one_cut5 sA.gens sA.drawn sA.os ?_; intro tkC) | (refine cons_cut5 sA.gens sA.drawn sA.os ?_; intro tkC qC hC)) | (k_unfold; (try dsimp only)) | walk1 | (with_reducible first | refine CutQ.next (by assumption) ?_ | refine CutQ.ret (by assumption) ?_ | refine CutQ.brk (by assumption) ?_ | refine CutQ.cont (by assumption) ?_ | refine EndQ.ret (by assumption) ?_ | refine EndQ.next (by assumption) ?_) | ((refine Halt.out' ?_); first | (with_reducible ((show wpAny _ _ (subscriptTail _ _ (Value.ref _) (Value.int _ _)) _ _ _); ((with_reducible rename LawMark 2 => jmX); (rename News _ _ _ _ => cN); (rename AreV fI _ _ => cR); k_dflt (first | refine item_V (k := 0) cN (by k_mem) cR (by rfl) (by rfl) (by decide) ?_ | refine item_V (k := 1) cN (by k_mem) cR (by rfl) (by rfl) (by decide) ?_ | refine item_V (k := 2) cN (by k_mem) cR (by rfl) (by rfl) (by decide) ?_); intro vX hX; k_dflt (obtain ⟨t', e'⟩ := hX); subst e'))) | (with_reducible ((show wpAny _ _ (call (Value.ref _) _) _ _ _); ((rename Fr _ _ _ _ => cF); (rename News _ _ _ _ => cN); (first | ((with_reducible show wpAny _ _ (call (Value.ref 38) _) _ _ _); k_dflt (refine Fn.use' (k := 400) (andN_fn _ _ _ _ _) (by k_asm) cF (by k_asm) cN (by k_asm) (by rfl) (by rfl) (by decide) (by decide) (by decide) trivial ?_)) | ((with_reducible show wpAny _ _ (call (Value.ref 45) _) _ _ _); k_dflt (refine Fn.use' (k := 400) (orN_fn _ _ _ _ _) (by k_asm) cF (by k_asm) cN (by k_asm) (by rfl) (by rfl) (by decide) (by decide) (by decide) trivial ?_)) | ((with_reducible show wpAny _ _ (call (Value.ref 52) _) _ _ _); k_dflt (refine Fn.use' (k := 400) (xorN_fn _ _ _ _ _) (by k_asm) cF (by k_asm) cN (by k_asm) (by rfl) (by rfl) (by decide) (by decide) (by decide) trivial ?_))); intro v' h' tk' F' N' K' P'; clear cF cN; k_dflt (obtain ⟨t', e'⟩ := P'); subst e'; clear K'))) | (with_reducible ((show wpAny _ _ (callWith _ (Value.ref _) _ _ _) _ _ _); (k_here; k_dflt (refine' callWith_K ?k1 ?k2 ?_; (case k1 => k_asm); (case k2 => k_is); k_whole)))) | ((k_here; (with_reducible show wpAny _ _ (subscriptTail _ _ (Value.str _ _) (Value.int _ _)) _ _ _); (refine item_at (by omega) (by omega) (by omega) ?_); intro kxiE)) | (with_reducible ((show @ite _ _ _ _ _); ((refine ite_both (fun hc => ?_) (fun hc => ?_)); (all_goals (try simp only [beq_iff_eq, decide_eq_true_eq] at hc)))))) | (dsimp only; walk1) | fail "no step")
                refine Halt.out' ?_
                (rename Fr _ _ _ _ => cF); (rename News _ _ _ _ => cN)
                exact ⟨_, _, _, rfl, cF, cN, hof2, Or.inr ⟨_, by k_mem, rfl, _, rfl⟩, rfl, z, hz, congrArg Value.bool (beq0 _)⟩
              case finD =>
                intro ys2 hl2 hy2
                unfold LCg.FinE
                intro D3 h3 tk3 F3 N3 off3
                have hrow := row_bools (hl2.trans (by rw [List.size_toArray]; exact hlt)) hx3.symm hy2
                subst hrow
                exact ⟨_, F3, news_row N3, off_row hof off3, hJ, PRow.step hlb (off1_base off3) hL (tab_at hp1)⟩
              --t>
            case finC =>
              intro DD ysD newsD sD hlD hPD hJD FD ND offD
              clear F41 N42 rg41
              (try clear F40)
              obtain ⟨lbD, rfl, -, hDD⟩ := hPD
              have hD : AreV (fL lbD) ysD (tabOf a b c xs) := hDD
              clear hDD offD
              subst hb3
              simp only [List.cons_append] at ND
              (try dsimp only)
              repeat (first | (with_reducible first | (refine one_cut5 sD.gens sD.drawn sD.os ?_; intro tkC) | (refine cons_cut5 sD.gens sD.drawn sD.os ?_; intro tkC qC hC)) | (k_unfold; (try dsimp only)) | walk1 | (with_reducible first | refine CutQ.next (by assumption) ?_ | refine CutQ.ret (by assumption) ?_ | refine CutQ.brk (by assumption) ?_ | refine CutQ.cont (by assumption) ?_ | refine EndQ.ret (by assumption) ?_ | refine EndQ.next (by assumption) ?_) | ((refine Halt.out' ?_); first | (with_reducible ((show wpAny _ _ (subscriptTail _ _ (Value.ref _) (Value.int _ _)) _ _ _); ((with_reducible rename LawMark 2 => jmX); (rename News _ _ _ _ => cN); (rename AreV fI _ _ => cR); k_dflt (first | refine item_V (k := 0) cN (by k_mem) cR (by rfl) (by rfl) (by decide) ?_ | refine item_V (k := 1) cN (by k_mem) cR (by rfl) (by rfl) (by decide) ?_ | refine item_V (k := 2) cN (by k_mem) cR (by rfl) (by rfl) (by decide) ?_); intro vX hX; k_dflt (obtain ⟨t', e'⟩ := hX); subst e'))) | (with_reducible ((show wpAny _ _ (call (Value.ref _) _) _ _ _); ((rename Fr _ _ _ _ => cF); (rename News _ _ _ _ => cN); (first | ((with_reducible show wpAny _ _ (call (Value.ref 38) _) _ _ _); k_dflt (refine Fn.use' (k := 400) (andN_fn _ _ _ _ _) (by k_asm) cF (by k_asm) cN (by k_asm) (by rfl) (by rfl) (by decide) (by decide) (by decide) trivial ?_)) | ((with_reducible show wpAny _ _ (call (Value.ref 45) _) _ _ _); k_dflt (refine Fn.use' (k := 400) (orN_fn _ _ _ _ _) (by k_asm) cF (by k_asm) cN (by k_asm) (by rfl) (by rfl) (by decide) (by decide) (by decide) trivial ?_)) | ((with_reducible show wpAny _ _ (call (Value.ref 52) _) _ _ _); k_dflt (refine Fn.use' (k := 400) (xorN_fn _ _ _ _ _) (by k_asm) cF (by k_asm) cN (by k_asm) (by rfl) (by rfl) (by decide) (by decide) (by decide) trivial ?_))); intro v' h' tk' F' N' K' P'; clear cF cN; k_dflt (obtain ⟨t', e'⟩ := P'); subst e'; clear K'))) | (with_reducible ((show wpAny _ _ (callWith _ (Value.ref _) _ _ _) _ _ _); (k_here; k_dflt (refine' callWith_K ?k1 ?k2 ?_; (case k1 => k_asm); (case k2 => k_is); k_whole)))) | ((k_here; (with_reducible show wpAny _ _ (subscriptTail _ _ (Value.str _ _) (Value.int _ _)) _ _ _); (refine item_at (by omega) (by omega) (by omega) ?_); intro kxiE)) | (with_reducible ((show @ite _ _ _ _ _); ((refine ite_both (fun hc => ?_) (fun hc => ?_)); (all_goals (try simp only [beq_iff_eq, decide_eq_true_eq] at hc)))))) | (dsimp only; walk1) | fail "no step")
              refine Halt.out' ?_
              (rename Fr _ _ _ _ => F50); (rename News _ _ _ _ => N50)
              obtain ⟨as1, r1⟩ := reads_tab (D := DA) N50 (by k_mem) hA (fun p hp => by repeat (first | exact List.mem_append_left _ (List.mem_append_right _ hp) | refine List.mem_cons_of_mem _ ?_))
              obtain ⟨as2, r2⟩ := reads_tab (D := DD) N50 (by k_mem) hD (fun p hp => by repeat (first | exact List.mem_append_right _ hp | refine List.mem_cons_of_mem _ ?_))
              refine ne_dataH r1 r2 (shaped_tab hTL) (shaped_tab hTL) (by ke_room) ?_
              clear r1 r2
              rw [eqv_tab]
              simp only [Bool.not_true]
              have jm4 : LawMark 4 := trivial
              repeat (first | (with_reducible first | (refine one_cut5 sD.gens sD.drawn sD.os ?_; intro tkC) | (refine cons_cut5 sD.gens sD.drawn sD.os ?_; intro tkC qC hC)) | (k_unfold; (try dsimp only)) | walk1 | (with_reducible first | refine CutQ.next (by assumption) ?_ | refine CutQ.ret (by assumption) ?_ | refine CutQ.brk (by assumption) ?_ | refine CutQ.cont (by assumption) ?_ | refine EndQ.ret (by assumption) ?_ | refine EndQ.next (by assumption) ?_) | ((refine Halt.out' ?_); first | (with_reducible ((show wpAny _ _ (subscriptTail _ _ (Value.ref _) (Value.int _ _)) _ _ _); ((with_reducible rename LawMark 2 => jmX); (rename News _ _ _ _ => cN); (rename AreV fI _ _ => cR); k_dflt (first | refine item_V (k := 0) cN (by k_mem) cR (by rfl) (by rfl) (by decide) ?_ | refine item_V (k := 1) cN (by k_mem) cR (by rfl) (by rfl) (by decide) ?_ | refine item_V (k := 2) cN (by k_mem) cR (by rfl) (by rfl) (by decide) ?_); intro vX hX; k_dflt (obtain ⟨t', e'⟩ := hX); subst e'))) | (with_reducible ((show wpAny _ _ (call (Value.ref _) _) _ _ _); ((rename Fr _ _ _ _ => cF); (rename News _ _ _ _ => cN); (first | ((with_reducible show wpAny _ _ (call (Value.ref 38) _) _ _ _); k_dflt (refine Fn.use' (k := 400) (andN_fn _ _ _ _ _) (by k_asm) cF (by k_asm) cN (by k_asm) (by rfl) (by rfl) (by decide) (by decide) (by decide) trivial ?_)) | ((with_reducible show wpAny _ _ (call (Value.ref 45) _) _ _ _); k_dflt (refine Fn.use' (k := 400) (orN_fn _ _ _ _ _) (by k_asm) cF (by k_asm) cN (by k_asm) (by rfl) (by rfl) (by decide) (by decide) (by decide) trivial ?_)) | ((with_reducible show wpAny _ _ (call (Value.ref 52) _) _ _ _); k_dflt (refine Fn.use' (k := 400) (xorN_fn _ _ _ _ _) (by k_asm) cF (by k_asm) cN (by k_asm) (by rfl) (by rfl) (by decide) (by decide) (by decide) trivial ?_))); intro v' h' tk' F' N' K' P'; clear cF cN; k_dflt (obtain ⟨t', e'⟩ := P'); subst e'; clear K'))) | (with_reducible ((show wpAny _ _ (callWith _ (Value.ref _) _ _ _) _ _ _); (k_here; k_dflt (refine' callWith_K ?k1 ?k2 ?_; (case k1 => k_asm); (case k2 => k_is); k_whole)))) | ((k_here; (with_reducible show wpAny _ _ (subscriptTail _ _ (Value.str _ _) (Value.int _ _)) _ _ _); (refine item_at (by omega) (by omega) (by omega) ?_); intro kxiE)) | (with_reducible ((show @ite _ _ _ _ _); ((refine ite_both (fun hc => ?_) (fun hc => ?_)); (all_goals (try simp only [beq_iff_eq, decide_eq_true_eq] at hc)))))) | (dsimp only; walk1) | fail "no step")
              refine Halt.out' ?_
              rename LawMark 4 => jm4
              clear jm4
              (rename Fr _ _ _ _ => F52)
              refine ListComp_CR (JG s₁.os) (JG.hh _) F52 (by with_unfolding_all rfl) (by rfl) (fun _ _ => rfl) (fun _ => rfl) (by decide) (fun _ _ => by rfl) ?_
              repeat (first | (with_reducible first | (refine one_cut5 sD.gens sD.drawn sD.os ?_; intro tkC) | (refine cons_cut5 sD.gens sD.drawn sD.os ?_; intro tkC qC hC)) | (k_unfold; (try dsimp only)) | walk1 | (with_reducible first | refine CutQ.next (by assumption) ?_ | refine CutQ.ret (by assumption) ?_ | refine CutQ.brk (by assumption) ?_ | refine CutQ.cont (by assumption) ?_ | refine EndQ.ret (by assumption) ?_ | refine EndQ.next (by assumption) ?_) | ((refine Halt.out' ?_); first | (with_reducible ((show wpAny _ _ (subscriptTail _ _ (Value.ref _) (Value.int _ _)) _ _ _); ((with_reducible rename LawMark 2 => jmX); (rename News _ _ _ _ => cN); (rename AreV fI _ _ => cR); k_dflt (first | refine item_V (k := 0) cN (by k_mem) cR (by rfl) (by rfl) (by decide) ?_ | refine item_V (k := 1) cN (by k_mem) cR (by rfl) (by rfl) (by decide) ?_ | refine item_V (k := 2) cN (by k_mem) cR (by rfl) (by rfl) (by decide) ?_); intro vX hX; k_dflt (obtain ⟨t', e'⟩ := hX); subst e'))) | (with_reducible ((show wpAny _ _ (call (Value.ref _) _) _ _ _); ((rename Fr _ _ _ _ => cF); (rename News _ _ _ _ => cN); (first | ((with_reducible show wpAny _ _ (call (Value.ref 38) _) _ _ _); k_dflt (refine Fn.use' (k := 400) (andN_fn _ _ _ _ _) (by k_asm) cF (by k_asm) cN (by k_asm) (by rfl) (by rfl) (by decide) (by decide) (by decide) trivial ?_)) | ((with_reducible show wpAny _ _ (call (Value.ref 45) _) _ _ _); k_dflt (refine Fn.use' (k := 400) (orN_fn _ _ _ _ _) (by k_asm) cF (by k_asm) cN (by k_asm) (by rfl) (by rfl) (by decide) (by decide) (by decide) trivial ?_)) | ((with_reducible show wpAny _ _ (call (Value.ref 52) _) _ _ _); k_dflt (refine Fn.use' (k := 400) (xorN_fn _ _ _ _ _) (by k_asm) cF (by k_asm) cN (by k_asm) (by rfl) (by rfl) (by decide) (by decide) (by decide) trivial ?_))); intro v' h' tk' F' N' K' P'; clear cF cN; k_dflt (obtain ⟨t', e'⟩ := P'); subst e'; clear K'))) | (with_reducible ((show wpAny _ _ (callWith _ (Value.ref _) _ _ _) _ _ _); (k_here; k_dflt (refine' callWith_K ?k1 ?k2 ?_; (case k1 => k_asm); (case k2 => k_is); k_whole)))) | ((k_here; (with_reducible show wpAny _ _ (subscriptTail _ _ (Value.str _ _) (Value.int _ _)) _ _ _); (refine item_at (by omega) (by omega) (by omega) ?_); intro kxiE)) | (with_reducible ((show @ite _ _ _ _ _); ((refine ite_both (fun hc => ?_) (fun hc => ?_)); (all_goals (try simp only [beq_iff_eq, decide_eq_true_eq] at hc)))))) | (dsimp only; walk1) | fail "no step")
              (rename Fr _ _ _ _ => F53); (rename News _ _ _ _ => N53); (rename IsRange _ _ _ _ _ _ _ _ => rg53)
              obtain ⟨base4, hb4, N54⟩ : ∃ b, b = _ ∧ News _ _ _ b := ⟨_, rfl, N53⟩
              clear N53
              refine ⟨_, _, _, _, 3, base4, PBool base4 (lastOf a b c xs), rfl, by rfl, F53, N54, rg53, by decide, by decide, hJD, PBool.start _ _, ?turnE, ?finE⟩
              case turnE =>
                --<t
                rintro I C X D5 j v ys news oI oC oX mC s55 E55 nIC nIX nID nCX nCD nXD hj hys ⟨t55, rfl⟩ ⟨rfl, hL⟩ hJ hoX hC F N off
                clear F53 N54 rg53
                (try clear F52)
                have hof := off
                have hb5 := hb4
                subst hb5
                obtain ⟨z, hz⟩ := lt_len hx3 hj
                have jm4 : LawMark 4 := trivial
                repeat (first | (with_reducible first | (refine one_cut5 sD.gens sD.drawn sD.os ?_; intro tkC) | (refine cons_cut5 sD.gens sD.drawn sD.os ?_; intro tkC qC hC)) | (k_unfold; (try dsimp only)) | walk1 | (with_reducible first | refine CutQ.next (by assumption) ?_ | refine CutQ.ret (by assumption) ?_ | refine CutQ.brk (by assumption) ?_ | refine CutQ.cont (by assumption) ?_ | refine EndQ.ret (by assumption) ?_ | refine EndQ.next (by assumption) ?_) | ((refine Halt.out' ?_); first | (with_reducible ((show wpAny _ _ (subscriptTail _ _ (Value.ref _) (Value.int _ _)) _ _ _); ((with_reducible rename LawMark 2 => jmX); (rename News _ _ _ _ => cN); (rename AreV fI _ _ => cR); k_dflt (first | refine item_V (k := 0) cN (by k_mem) cR (by rfl) (by rfl) (by decide) ?_ | refine item_V (k := 1) cN (by k_mem) cR (by rfl) (by rfl) (by decide) ?_ | refine item_V (k := 2) cN (by k_mem) cR (by rfl) (by rfl) (by decide) ?_); intro vX hX; k_dflt (obtain ⟨t', e'⟩ := hX); subst e'))) | (with_reducible ((show wpAny _ _ (call (Value.ref _) _) _ _ _); ((rename Fr _ _ _ _ => cF); (rename News _ _ _ _ => cN); (first | ((with_reducible show wpAny _ _ (call (Value.ref 38) _) _ _ _); k_dflt (refine Fn.use' (k := 400) (andN_fn _ _ _ _ _) (by k_asm) cF (by k_asm) cN (by k_asm) (by rfl) (by rfl) (by decide) (by decide) (by decide) trivial ?_)) | ((with_reducible show wpAny _ _ (call (Value.ref 45) _) _ _ _); k_dflt (refine Fn.use' (k := 400) (orN_fn _ _ _ _ _) (by k_asm) cF (by k_asm) cN (by k_asm) (by rfl) (by rfl) (by decide) (by decide) (by decide) trivial ?_)) | ((with_reducible show wpAny _ _ (call (Value.ref 52) _) _ _ _); k_dflt (refine Fn.use' (k := 400) (xorN_fn _ _ _ _ _) (by k_asm) cF (by k_asm) cN (by k_asm) (by rfl) (by rfl) (by decide) (by decide) (by decide) trivial ?_))); intro v' h' tk' F' N' K' P'; clear cF cN; k_dflt (obtain ⟨t', e'⟩ := P'); subst e'; clear K'))) | (with_reducible ((show wpAny _ _ (callWith _ (Value.ref _) _ _ _) _ _ _); (k_here; k_dflt (refine' callWith_K ?k1 ?k2 ?_; (case k1 => k_asm); (case k2 => k_is); k_whole)))) | ((k_here; (with_reducible show wpAny _ _ (subscriptTail _ _ (Value.str _ _) (Value.int _ _)) _ _ _); (refine item_at (by omega) (by omega) (by omega) ?_); intro kxiE)) | (with_reducible ((show @ite _ _ _ _ _); ((refine ite_both (fun hc => ?_) (fun hc => ?_)); (all_goals (try simp only [beq_iff_eq, decide_eq_true_eq] at hc)))))) | (dsimp only; walk1) | fail "no step")
                refine Halt.out' ?_
                rename LawMark 4 => jm4
                clear jm4
                (rename Fr _ _ _ _ => F56)
                refine LCg.ListComp_U (F₀ := F56) (by with_unfolding_all rfl) (by decide) (by rfl) (by decide) (by rfl) ?_
                repeat (first | (with_reducible first | (refine one_cut5 sD.gens sD.drawn sD.os ?_; intro tkC) | (refine cons_cut5 sD.gens sD.drawn sD.os ?_; intro tkC qC hC)) | (k_unfold; (try dsimp only)) | walk1 | (with_reducible first | refine CutQ.next (by assumption) ?_ | refine CutQ.ret (by assumption) ?_ | refine CutQ.brk (by assumption) ?_ | refine CutQ.cont (by assumption) ?_ | refine EndQ.ret (by assumption) ?_ | refine EndQ.next (by assumption) ?_) | ((refine Halt.out' ?_); first | (with_reducible ((show wpAny _ _ (subscriptTail _ _ (Value.ref _) (Value.int _ _)) _ _ _); ((with_reducible rename LawMark 2 => jmX); (rename News _ _ _ _ => cN); (rename AreV fI _ _ => cR); k_dflt (first | refine item_V (k := 0) cN (by k_mem) cR (by rfl) (by rfl) (by decide) ?_ | refine item_V (k := 1) cN (by k_mem) cR (by rfl) (by rfl) (by decide) ?_ | refine item_V (k := 2) cN (by k_mem) cR (by rfl) (by rfl) (by decide) ?_); intro vX hX; k_dflt (obtain ⟨t', e'⟩ := hX); subst e'))) | (with_reducible ((show wpAny _ _ (call (Value.ref _) _) _ _ _); ((rename Fr _ _ _ _ => cF); (rename News _ _ _ _ => cN); (first | ((with_reducible show wpAny _ _ (call (Value.ref 38) _) _ _ _); k_dflt (refine Fn.use' (k := 400) (andN_fn _ _ _ _ _) (by k_asm) cF (by k_asm) cN (by k_asm) (by rfl) (by rfl) (by decide) (by decide) (by decide) trivial ?_)) | ((with_reducible show wpAny _ _ (call (Value.ref 45) _) _ _ _); k_dflt (refine Fn.use' (k := 400) (orN_fn _ _ _ _ _) (by k_asm) cF (by k_asm) cN (by k_asm) (by rfl) (by rfl) (by decide) (by decide) (by decide) trivial ?_)) | ((with_reducible show wpAny _ _ (call (Value.ref 52) _) _ _ _); k_dflt (refine Fn.use' (k := 400) (xorN_fn _ _ _ _ _) (by k_asm) cF (by k_asm) cN (by k_asm) (by rfl) (by rfl) (by decide) (by decide) (by decide) trivial ?_))); intro v' h' tk' F' N' K' P'; clear cF cN; k_dflt (obtain ⟨t', e'⟩ := P'); subst e'; clear K'))) | (with_reducible ((show wpAny _ _ (callWith _ (Value.ref _) _ _ _) _ _ _); (k_here; k_dflt (refine' callWith_K ?k1 ?k2 ?_; (case k1 => k_asm); (case k2 => k_is); k_whole)))) | ((k_here; (with_reducible show wpAny _ _ (subscriptTail _ _ (Value.str _ _) (Value.int _ _)) _ _ _); (refine item_at (by omega) (by omega) (by omega) ?_); intro kxiE)) | (with_reducible ((show @ite _ _ _ _ _); ((refine ite_both (fun hc => ?_) (fun hc => ?_)); (all_goals (try simp only [beq_iff_eq, decide_eq_true_eq] at hc)))))) | (dsimp only; walk1) | fail "no step")
                refine Halt.out' ?_
                (rename Fr _ _ _ _ => F57); (rename News _ _ _ _ => N57)
                refine LCg.CompSrc.ledger (its := ysA.toArray) (by rfl) F57 N57 (by k_mem) (size3 hA.1) ?_
                intro g57
                refine rest_P (fun i y9 => ∃ p, (pairsOf a b c)[i]? = some p ∧ fB (dueB p.1 p.2 z) y9) (Or.inr ⟨_, by k_mem, rfl, _, rfl⟩) ?turnF ?finF
                case turnF =>
                  rintro i vi I2 oI2 C2 oC2 D3 m3 ys2 h2 tk2 E2 hi hvi hC2 hx2 F2 N2 off2 ne2
                  clear F57 N57
                  have hof2 := off2
                  obtain ⟨bs, hbs, l, rfl, hl⟩ := hA.at (at_arr hvi)
                  obtain ⟨p, hp, hbz⟩ := col_at hbs hz
                  have jm1 : LawMark 1 := trivial
                  repeat (first | (with_reducible first | (refine one_cut5 sD.gens sD.drawn sD.os ?_; intro tkC) | (refine cons_cut5 sD.gens sD.drawn sD.os ?_; intro tkC qC hC)) | (k_unfold; (try dsimp only)) | walk1 | (with_reducible first | refine CutQ.next (by assumption) ?_ | refine CutQ.ret (by assumption) ?_ | refine CutQ.brk (by assumption) ?_ | refine CutQ.cont (by assumption) ?_ | refine EndQ.ret (by assumption) ?_ | refine EndQ.next (by assumption) ?_) | ((refine Halt.out' ?_); first | (with_reducible ((show wpAny _ _ (subscriptTail _ _ (Value.ref _) (Value.int _ _)) _ _ _); ((with_reducible rename LawMark 2 => jmX); (rename News _ _ _ _ => cN); (rename AreV fI _ _ => cR); k_dflt (first | refine item_V (k := 0) cN (by k_mem) cR (by rfl) (by rfl) (by decide) ?_ | refine item_V (k := 1) cN (by k_mem) cR (by rfl) (by rfl) (by decide) ?_ | refine item_V (k := 2) cN (by k_mem) cR (by rfl) (by rfl) (by decide) ?_); intro vX hX; k_dflt (obtain ⟨t', e'⟩ := hX); subst e'))) | (with_reducible ((show wpAny _ _ (call (Value.ref _) _) _ _ _); ((rename Fr _ _ _ _ => cF); (rename News _ _ _ _ => cN); (first | ((with_reducible show wpAny _ _ (call (Value.ref 38) _) _ _ _); k_dflt (refine Fn.use' (k := 400) (andN_fn _ _ _ _ _) (by k_asm) cF (by k_asm) cN (by k_asm) (by rfl) (by rfl) (by decide) (by decide) (by decide) trivial ?_)) | ((with_reducible show wpAny _ _ (call (Value.ref 45) _) _ _ _); k_dflt (refine Fn.use' (k := 400) (orN_fn _ _ _ _ _) (by k_asm) cF (by k_asm) cN (by k_asm) (by rfl) (by rfl) (by decide) (by decide) (by decide) trivial ?_)) | ((with_reducible show wpAny _ _ (call (Value.ref 52) _) _ _ _); k_dflt (refine Fn.use' (k := 400) (xorN_fn _ _ _ _ _) (by k_asm) cF (by k_asm) cN (by k_asm) (by rfl) (by rfl) (by decide) (by decide) (by decide) trivial ?_))); intro v' h' tk' F' N' K' P'; clear cF cN; k_dflt (obtain ⟨t', e'⟩ := P'); subst e'; clear K'))) | (with_reducible ((show wpAny _ _ (callWith _ (Value.ref _) _ _ _) _ _ _); (k_here; k_dflt (refine' callWith_K ?k1 ?k2 ?_; (case k1 => k_asm); (case k2 => k_is); k_whole)))) | ((k_here; (with_reducible show wpAny _ _ (subscriptTail _ _ (Value.str _ _) (Value.int _ _)) _ _ _); (refine item_at (by omega) (by omega) (by omega) ?_); intro kxiE)) | (with_reducible ((show @ite _ _ _ _ _); ((refine ite_both (fun hc => ?_) (fun hc => ?_)); (all_goals (try simp only [beq_iff_eq, decide_eq_true_eq] at hc)))))) | (dsimp only; walk1) | fail "no step")
                  refine Halt.out' ?_
                  (rename Fr _ _ _ _ => F58); (rename News _ _ _ _ => N58)
                  refine item_V N58 (by repeat (first | exact List.mem_append_left _ (List.mem_append_right _ hl) | refine List.mem_cons_of_mem _ ?_)) (bools_are bs) hbz (by rfl) (fit3 hj) ?_
                  rintro _ rfl
                  rename LawMark 1 => jm1
                  clear jm1
                  repeat (first | (with_reducible first | (refine one_cut5 sD.gens sD.drawn sD.os ?_; intro tkC) | (refine cons_cut5 sD.gens sD.drawn sD.os ?_; intro tkC qC hC)) | (k_unfold; (try dsimp only)) | walk1 | (with_reducible first | refine CutQ.next (by assumption) ?_ | refine CutQ.ret (by assumption) ?_ | refine CutQ.brk (by assumption) ?_ | refine CutQ.cont (by assumption) ?_ | refine EndQ.ret (by assumption) ?_ | refine EndQ.next (by assumption) ?_) | ((refine Halt.out' ?_); first | (with_reducible ((show wpAny _ _ (subscriptTail _ _ (Value.ref _) (Value.int _ _)) _ _ _); ((with_reducible rename LawMark 2 => jmX); (rename News _ _ _ _ => cN); (rename AreV fI _ _ => cR); k_dflt (first | refine item_V (k := 0) cN (by k_mem) cR (by rfl) (by rfl) (by decide) ?_ | refine item_V (k := 1) cN (by k_mem) cR (by rfl) (by rfl) (by decide) ?_ | refine item_V (k := 2) cN (by k_mem) cR (by rfl) (by rfl) (by decide) ?_); intro vX hX; k_dflt (obtain ⟨t', e'⟩ := hX); subst e'))) | (with_reducible ((show wpAny _ _ (call (Value.ref _) _) _ _ _); ((rename Fr _ _ _ _ => cF); (rename News _ _ _ _ => cN); (first | ((with_reducible show wpAny _ _ (call (Value.ref 38) _) _ _ _); k_dflt (refine Fn.use' (k := 400) (andN_fn _ _ _ _ _) (by k_asm) cF (by k_asm) cN (by k_asm) (by rfl) (by rfl) (by decide) (by decide) (by decide) trivial ?_)) | ((with_reducible show wpAny _ _ (call (Value.ref 45) _) _ _ _); k_dflt (refine Fn.use' (k := 400) (orN_fn _ _ _ _ _) (by k_asm) cF (by k_asm) cN (by k_asm) (by rfl) (by rfl) (by decide) (by decide) (by decide) trivial ?_)) | ((with_reducible show wpAny _ _ (call (Value.ref 52) _) _ _ _); k_dflt (refine Fn.use' (k := 400) (xorN_fn _ _ _ _ _) (by k_asm) cF (by k_asm) cN (by k_asm) (by rfl) (by rfl) (by decide) (by decide) (by decide) trivial ?_))); intro v' h' tk' F' N' K' P'; clear cF cN; k_dflt (obtain ⟨t', e'⟩ := P'); subst e'; clear K'))) | (with_reducible ((show wpAny _ _ (callWith _ (Value.ref _) _ _ _) _ _ _); (k_here; k_dflt (refine' callWith_K ?k1 ?k2 ?_; (case k1 => k_asm); (case k2 => k_is); k_whole)))) | ((k_here; (with_reducible show wpAny _ _ (subscriptTail _ _ (Value.str _ _) (Value.int _ _)) _ _ _); (refine item_at (by omega) (by omega) (by omega) ?_); intro kxiE)) | (with_reducible ((show @ite _ _ _ _ _); ((refine ite_both (fun hc => ?_) (fun hc => ?_)); (all_goals (try simp only [beq_iff_eq, decide_eq_true_eq] at hc)))))) | (dsimp only; walk1) | fail "no step")
                  refine Halt.out' ?_
                  (rename Fr _ _ _ _ => cF); (rename News _ _ _ _ => cN)
                  exact ⟨_, _, _, rfl, cF, cN, hof2, Or.inr ⟨_, by k_mem, rfl, _, rfl⟩, rfl, p, hp, rfl⟩
                case finF =>
                  intro ys2 hl2 hy2
                  unfold LCg.FinE
                  intro D3 h3 tk3 F3 N3 off3
                  have hcol := col_bools hl2 ((List.size_toArray).trans hA.1) hy2
                  subst hcol
                  (try clear F57)
                  (try clear N57)
                  (try dsimp only)
                  repeat (first | (with_reducible first | (refine one_cut5 sD.gens sD.drawn sD.os ?_; intro tkC) | (refine cons_cut5 sD.gens sD.drawn sD.os ?_; intro tkC qC hC)) | (k_unfold; (try dsimp only)) | walk1 | (with_reducible first | refine CutQ.next (by assumption) ?_ | refine CutQ.ret (by assumption) ?_ | refine CutQ.brk (by assumption) ?_ | refine CutQ.cont (by assumption) ?_ | refine EndQ.ret (by assumption) ?_ | refine EndQ.next (by assumption) ?_) | ((refine Halt.out' ?_); first | (with_reducible ((show wpAny _ _ (subscriptTail _ _ (Value.ref _) (Value.int _ _)) _ _ _); ((with_reducible rename LawMark 2 => jmX); (rename News _ _ _ _ => cN); (rename AreV fI _ _ => cR); k_dflt (first | refine item_V (k := 0) cN (by k_mem) cR (by rfl) (by rfl) (by decide) ?_ | refine item_V (k := 1) cN (by k_mem) cR (by rfl) (by rfl) (by decide) ?_ | refine item_V (k := 2) cN (by k_mem) cR (by rfl) (by rfl) (by decide) ?_); intro vX hX; k_dflt (obtain ⟨t', e'⟩ := hX); subst e'))) | (with_reducible ((show wpAny _ _ (call (Value.ref _) _) _ _ _); ((rename Fr _ _ _ _ => cF); (rename News _ _ _ _ => cN); (first | ((with_reducible show wpAny _ _ (call (Value.ref 38) _) _ _ _); k_dflt (refine Fn.use' (k := 400) (andN_fn _ _ _ _ _) (by k_asm) cF (by k_asm) cN (by k_asm) (by rfl) (by rfl) (by decide) (by decide) (by decide) trivial ?_)) | ((with_reducible show wpAny _ _ (call (Value.ref 45) _) _ _ _); k_dflt (refine Fn.use' (k := 400) (orN_fn _ _ _ _ _) (by k_asm) cF (by k_asm) cN (by k_asm) (by rfl) (by rfl) (by decide) (by decide) (by decide) trivial ?_)) | ((with_reducible show wpAny _ _ (call (Value.ref 52) _) _ _ _); k_dflt (refine Fn.use' (k := 400) (xorN_fn _ _ _ _ _) (by k_asm) cF (by k_asm) cN (by k_asm) (by rfl) (by rfl) (by decide) (by decide) (by decide) trivial ?_))); intro v' h' tk' F' N' K' P'; clear cF cN; k_dflt (obtain ⟨t', e'⟩ := P'); subst e'; clear K'))) | (with_reducible ((show wpAny _ _ (callWith _ (Value.ref _) _ _ _) _ _ _); (k_here; k_dflt (refine' callWith_K ?k1 ?k2 ?_; (case k1 => k_asm); (case k2 => k_is); k_whole)))) | ((k_here; (with_reducible show wpAny _ _ (subscriptTail _ _ (Value.str _ _) (Value.int _ _)) _ _ _); (refine item_at (by omega) (by omega) (by omega) ?_); intro kxiE)) | (with_reducible ((show @ite _ _ _ _ _); ((refine ite_both (fun hc => ?_) (fun hc => ?_)); (all_goals (try simp only [beq_iff_eq, decide_eq_true_eq] at hc)))))) | (dsimp only; walk1) | fail "no step")
                  refine Halt.out' ?_
                  (rename Fr _ _ _ _ => F59); (rename News _ _ _ _ => N59)
                  refine Fn.use' (k := 400) (count_fn w D3 (colOf a b c z) (by show (3 : Nat) ≤ 10; decide)) BB F59 XX N59 TT (by rfl) (by rfl) (by decide) (by decide) (by decide) ⟨_, (N59 (D3, _) (by k_mem)).1, rfl, _, rfl⟩ ?_
                  rintro v60 h60 tk60 F60 N60 - ⟨t60, rfl⟩
                  clear F59 N59
                  repeat (first | (with_reducible first | (refine one_cut5 sD.gens sD.drawn sD.os ?_; intro tkC) | (refine cons_cut5 sD.gens sD.drawn sD.os ?_; intro tkC qC hC)) | (k_unfold; (try dsimp only)) | walk1 | (with_reducible first | refine CutQ.next (by assumption) ?_ | refine CutQ.ret (by assumption) ?_ | refine CutQ.brk (by assumption) ?_ | refine CutQ.cont (by assumption) ?_ | refine EndQ.ret (by assumption) ?_ | refine EndQ.next (by assumption) ?_) | ((refine Halt.out' ?_); first | (with_reducible ((show wpAny _ _ (subscriptTail _ _ (Value.ref _) (Value.int _ _)) _ _ _); ((with_reducible rename LawMark 2 => jmX); (rename News _ _ _ _ => cN); (rename AreV fI _ _ => cR); k_dflt (first | refine item_V (k := 0) cN (by k_mem) cR (by rfl) (by rfl) (by decide) ?_ | refine item_V (k := 1) cN (by k_mem) cR (by rfl) (by rfl) (by decide) ?_ | refine item_V (k := 2) cN (by k_mem) cR (by rfl) (by rfl) (by decide) ?_); intro vX hX; k_dflt (obtain ⟨t', e'⟩ := hX); subst e'))) | (with_reducible ((show wpAny _ _ (call (Value.ref _) _) _ _ _); ((rename Fr _ _ _ _ => cF); (rename News _ _ _ _ => cN); (first | ((with_reducible show wpAny _ _ (call (Value.ref 38) _) _ _ _); k_dflt (refine Fn.use' (k := 400) (andN_fn _ _ _ _ _) (by k_asm) cF (by k_asm) cN (by k_asm) (by rfl) (by rfl) (by decide) (by decide) (by decide) trivial ?_)) | ((with_reducible show wpAny _ _ (call (Value.ref 45) _) _ _ _); k_dflt (refine Fn.use' (k := 400) (orN_fn _ _ _ _ _) (by k_asm) cF (by k_asm) cN (by k_asm) (by rfl) (by rfl) (by decide) (by decide) (by decide) trivial ?_)) | ((with_reducible show wpAny _ _ (call (Value.ref 52) _) _ _ _); k_dflt (refine Fn.use' (k := 400) (xorN_fn _ _ _ _ _) (by k_asm) cF (by k_asm) cN (by k_asm) (by rfl) (by rfl) (by decide) (by decide) (by decide) trivial ?_))); intro v' h' tk' F' N' K' P'; clear cF cN; k_dflt (obtain ⟨t', e'⟩ := P'); subst e'; clear K'))) | (with_reducible ((show wpAny _ _ (callWith _ (Value.ref _) _ _ _) _ _ _); (k_here; k_dflt (refine' callWith_K ?k1 ?k2 ?_; (case k1 => k_asm); (case k2 => k_is); k_whole)))) | ((k_here; (with_reducible show wpAny _ _ (subscriptTail _ _ (Value.str _ _) (Value.int _ _)) _ _ _); (refine item_at (by omega) (by omega) (by omega) ?_); intro kxiE)) | (with_reducible ((show @ite _ _ _ _ _); ((refine ite_both (fun hc => ?_) (fun hc => ?_)); (all_goals (try simp only [beq_iff_eq, decide_eq_true_eq] at hc)))))) | (dsimp only; walk1) | fail "no step")
                  (rename Fr _ _ _ _ => cF); (rename News _ _ _ _ => cN)
                  exact ⟨_, cF, fun p hp => cN p (List.mem_cons_of_mem _ hp), hof, hJ, rfl, AreV.snoc hL (last_at hz) (congrArg Value.bool (beqI _ _))⟩
                --t>
              case finE =>
                intro DE ysE newsE sE hlE hPE hJE FE NE offE
                clear F53 N54 rg53
                (try clear F52)
                obtain ⟨rfl, hEE⟩ := hPE
                rw [take3 (lastOf_len hx3)] at hEE
                have eE := AreV.bools hEE
                subst eE
                clear hEE hlE offE
                subst hb4
                have jm4 : LawMark 4 := trivial
                (try dsimp only)
                repeat (first | (with_reducible first | (refine one_cut5 sE.gens sE.drawn sE.os ?_; intro tkC) | (refine cons_cut5 sE.gens sE.drawn sE.os ?_; intro tkC qC hC)) | (k_unfold; (try dsimp only)) | walk1 | (with_reducible first | refine CutQ.next (by assumption) ?_ | refine CutQ.ret (by assumption) ?_ | refine CutQ.brk (by assumption) ?_ | refine CutQ.cont (by assumption) ?_ | refine EndQ.ret (by assumption) ?_ | refine EndQ.next (by assumption) ?_) | ((refine Halt.out' ?_); first | (with_reducible ((show wpAny _ _ (subscriptTail _ _ (Value.ref _) (Value.int _ _)) _ _ _); ((with_reducible rename LawMark 2 => jmX); (rename News _ _ _ _ => cN); (rename AreV fI _ _ => cR); k_dflt (first | refine item_V (k := 0) cN (by k_mem) cR (by rfl) (by rfl) (by decide) ?_ | refine item_V (k := 1) cN (by k_mem) cR (by rfl) (by rfl) (by decide) ?_ | refine item_V (k := 2) cN (by k_mem) cR (by rfl) (by rfl) (by decide) ?_); intro vX hX; k_dflt (obtain ⟨t', e'⟩ := hX); subst e'))) | (with_reducible ((show wpAny _ _ (call (Value.ref _) _) _ _ _); ((rename Fr _ _ _ _ => cF); (rename News _ _ _ _ => cN); (first | ((with_reducible show wpAny _ _ (call (Value.ref 38) _) _ _ _); k_dflt (refine Fn.use' (k := 400) (andN_fn _ _ _ _ _) (by k_asm) cF (by k_asm) cN (by k_asm) (by rfl) (by rfl) (by decide) (by decide) (by decide) trivial ?_)) | ((with_reducible show wpAny _ _ (call (Value.ref 45) _) _ _ _); k_dflt (refine Fn.use' (k := 400) (orN_fn _ _ _ _ _) (by k_asm) cF (by k_asm) cN (by k_asm) (by rfl) (by rfl) (by decide) (by decide) (by decide) trivial ?_)) | ((with_reducible show wpAny _ _ (call (Value.ref 52) _) _ _ _); k_dflt (refine Fn.use' (k := 400) (xorN_fn _ _ _ _ _) (by k_asm) cF (by k_asm) cN (by k_asm) (by rfl) (by rfl) (by decide) (by decide) (by decide) trivial ?_))); intro v' h' tk' F' N' K' P'; clear cF cN; k_dflt (obtain ⟨t', e'⟩ := P'); subst e'; clear K'))) | (with_reducible ((show wpAny _ _ (callWith _ (Value.ref _) _ _ _) _ _ _); (k_here; k_dflt (refine' callWith_K ?k1 ?k2 ?_; (case k1 => k_asm); (case k2 => k_is); k_whole)))) | ((k_here; (with_reducible show wpAny _ _ (subscriptTail _ _ (Value.str _ _) (Value.int _ _)) _ _ _); (refine item_at (by omega) (by omega) (by omega) ?_); intro kxiE)) | (with_reducible ((show @ite _ _ _ _ _); ((refine ite_both (fun hc => ?_) (fun hc => ?_)); (all_goals (try simp only [beq_iff_eq, decide_eq_true_eq] at hc)))))) | (dsimp only; walk1) | fail "no step")
                refine Halt.out' ?_
                rename LawMark 4 => jm4
                clear jm4
                (rename Fr _ _ _ _ => F60)
                refine LCg.ListComp_U (F₀ := F60) (by with_unfolding_all rfl) (by decide) (by rfl) (by decide) (by rfl) ?_
                repeat (first | (with_reducible first | (refine one_cut5 sE.gens sE.drawn sE.os ?_; intro tkC) | (refine cons_cut5 sE.gens sE.drawn sE.os ?_; intro tkC qC hC)) | (k_unfold; (try dsimp only)) | walk1 | (with_reducible first | refine CutQ.next (by assumption) ?_ | refine CutQ.ret (by assumption) ?_ | refine CutQ.brk (by assumption) ?_ | refine CutQ.cont (by assumption) ?_ | refine EndQ.ret (by assumption) ?_ | refine EndQ.next (by assumption) ?_) | ((refine Halt.out' ?_); first | (with_reducible ((show wpAny _ _ (subscriptTail _ _ (Value.ref _) (Value.int _ _)) _ _ _); ((with_reducible rename LawMark 2 => jmX); (rename News _ _ _ _ => cN); (rename AreV fI _ _ => cR); k_dflt (first | refine item_V (k := 0) cN (by k_mem) cR (by rfl) (by rfl) (by decide) ?_ | refine item_V (k := 1) cN (by k_mem) cR (by rfl) (by rfl) (by decide) ?_ | refine item_V (k := 2) cN (by k_mem) cR (by rfl) (by rfl) (by decide) ?_); intro vX hX; k_dflt (obtain ⟨t', e'⟩ := hX); subst e'))) | (with_reducible ((show wpAny _ _ (call (Value.ref _) _) _ _ _); ((rename Fr _ _ _ _ => cF); (rename News _ _ _ _ => cN); (first | ((with_reducible show wpAny _ _ (call (Value.ref 38) _) _ _ _); k_dflt (refine Fn.use' (k := 400) (andN_fn _ _ _ _ _) (by k_asm) cF (by k_asm) cN (by k_asm) (by rfl) (by rfl) (by decide) (by decide) (by decide) trivial ?_)) | ((with_reducible show wpAny _ _ (call (Value.ref 45) _) _ _ _); k_dflt (refine Fn.use' (k := 400) (orN_fn _ _ _ _ _) (by k_asm) cF (by k_asm) cN (by k_asm) (by rfl) (by rfl) (by decide) (by decide) (by decide) trivial ?_)) | ((with_reducible show wpAny _ _ (call (Value.ref 52) _) _ _ _); k_dflt (refine Fn.use' (k := 400) (xorN_fn _ _ _ _ _) (by k_asm) cF (by k_asm) cN (by k_asm) (by rfl) (by rfl) (by decide) (by decide) (by decide) trivial ?_))); intro v' h' tk' F' N' K' P'; clear cF cN; k_dflt (obtain ⟨t', e'⟩ := P'); subst e'; clear K'))) | (with_reducible ((show wpAny _ _ (callWith _ (Value.ref _) _ _ _) _ _ _); (k_here; k_dflt (refine' callWith_K ?k1 ?k2 ?_; (case k1 => k_asm); (case k2 => k_is); k_whole)))) | ((k_here; (with_reducible show wpAny _ _ (subscriptTail _ _ (Value.str _ _) (Value.int _ _)) _ _ _); (refine item_at (by omega) (by omega) (by omega) ?_); intro kxiE)) | (with_reducible ((show @ite _ _ _ _ _); ((refine ite_both (fun hc => ?_) (fun hc => ?_)); (all_goals (try simp only [beq_iff_eq, decide_eq_true_eq] at hc)))))) | (dsimp only; walk1) | fail "no step")
                refine Halt.out' ?_
                (rename Fr _ _ _ _ => F61); (rename News _ _ _ _ => N61)
                refine LCg.CompSrc.ledger (its := vst.toArray) (by rfl) F61 N61 (by k_mem) (size3 hlt) ?_
                intro g61
                refine rest_P (fun j y9 => ∃ z : Nat, xs[j]? = some z ∧ fB (decide ((z : Int) = ((a &&& b ||| b &&& c ||| c &&& a : Nat) : Int))) y9) (Or.inr ⟨_, by k_mem, rfl, _, rfl⟩) ?turnG ?finG
                case turnG =>
                  rintro j vj I2 oI2 C2 oC2 D3 m3 ys2 h2 tk2 E2 hj hvj hC2 hx2 F2 N2 off2 ne2
                  clear F61 N61
                  have hof2 := off2
                  obtain ⟨z, hz, tz, rfl⟩ := RT.at (at_arr hvj)
                  repeat (first | (with_reducible first | (refine one_cut5 sE.gens sE.drawn sE.os ?_; intro tkC) | (refine cons_cut5 sE.gens sE.drawn sE.os ?_; intro tkC qC hC)) | (k_unfold; (try dsimp only)) | walk1 | (with_reducible first | refine CutQ.next (by assumption) ?_ | refine CutQ.ret (by assumption) ?_ | refine CutQ.brk (by assumption) ?_ | refine CutQ.cont (by assumption) ?_ | refine EndQ.ret (by assumption) ?_ | refine EndQ.next (by assumption) ?_) | ((refine Halt.out' ?_); first | (with_reducible ((show wpAny _ _ (subscriptTail _ _ (Value.ref _) (Value.int _ _)) _ _ _); ((with_reducible rename LawMark 2 => jmX); (rename News _ _ _ _ => cN); (rename AreV fI _ _ => cR); k_dflt (first | refine item_V (k := 0) cN (by k_mem) cR (by rfl) (by rfl) (by decide) ?_ | refine item_V (k := 1) cN (by k_mem) cR (by rfl) (by rfl) (by decide) ?_ | refine item_V (k := 2) cN (by k_mem) cR (by rfl) (by rfl) (by decide) ?_); intro vX hX; k_dflt (obtain ⟨t', e'⟩ := hX); subst e'))) | (with_reducible ((show wpAny _ _ (call (Value.ref _) _) _ _ _); ((rename Fr _ _ _ _ => cF); (rename News _ _ _ _ => cN); (first | ((with_reducible show wpAny _ _ (call (Value.ref 38) _) _ _ _); k_dflt (refine Fn.use' (k := 400) (andN_fn _ _ _ _ _) (by k_asm) cF (by k_asm) cN (by k_asm) (by rfl) (by rfl) (by decide) (by decide) (by decide) trivial ?_)) | ((with_reducible show wpAny _ _ (call (Value.ref 45) _) _ _ _); k_dflt (refine Fn.use' (k := 400) (orN_fn _ _ _ _ _) (by k_asm) cF (by k_asm) cN (by k_asm) (by rfl) (by rfl) (by decide) (by decide) (by decide) trivial ?_)) | ((with_reducible show wpAny _ _ (call (Value.ref 52) _) _ _ _); k_dflt (refine Fn.use' (k := 400) (xorN_fn _ _ _ _ _) (by k_asm) cF (by k_asm) cN (by k_asm) (by rfl) (by rfl) (by decide) (by decide) (by decide) trivial ?_))); intro v' h' tk' F' N' K' P'; clear cF cN; k_dflt (obtain ⟨t', e'⟩ := P'); subst e'; clear K'))) | (with_reducible ((show wpAny _ _ (callWith _ (Value.ref _) _ _ _) _ _ _); (k_here; k_dflt (refine' callWith_K ?k1 ?k2 ?_; (case k1 => k_asm); (case k2 => k_is); k_whole)))) | ((k_here; (with_reducible show wpAny _ _ (subscriptTail _ _ (Value.str _ _) (Value.int _ _)) _ _ _); (refine item_at (by omega) (by omega) (by omega) ?_); intro kxiE)) | (with_reducible ((show @ite _ _ _ _ _); ((refine ite_both (fun hc => ?_) (fun hc => ?_)); (all_goals (try simp only [beq_iff_eq, decide_eq_true_eq] at hc)))))) | (dsimp only; walk1) | fail "no step")
                  refine Halt.out' ?_
                  (rename Fr _ _ _ _ => cF); (rename News _ _ _ _ => cN)
                  exact ⟨_, _, _, rfl, cF, cN, hof2, Or.inr ⟨_, by k_mem, rfl, _, rfl⟩, rfl, z, hz, congrArg Value.bool (beqI _ _)⟩
                case finG =>
                  intro ys2 hl2 hy2
                  unfold LCg.FinE
                  intro D6 h6 tk6 F6 N6 off6
                  (try clear F61)
                  (try clear N61)
                  have hmid := mid_bools hl2 ((List.size_toArray).trans (hlt.trans hx3.symm)) hy2
                  rw [← last_is hT hTL] at hmid
                  subst hmid
                  (try dsimp only)
                  repeat (first | (with_reducible first | (refine one_cut5 sE.gens sE.drawn sE.os ?_; intro tkC) | (refine cons_cut5 sE.gens sE.drawn sE.os ?_; intro tkC qC hC)) | (k_unfold; (try dsimp only)) | walk1 | (with_reducible first | refine CutQ.next (by assumption) ?_ | refine CutQ.ret (by assumption) ?_ | refine CutQ.brk (by assumption) ?_ | refine CutQ.cont (by assumption) ?_ | refine EndQ.ret (by assumption) ?_ | refine EndQ.next (by assumption) ?_) | ((refine Halt.out' ?_); first | (with_reducible ((show wpAny _ _ (subscriptTail _ _ (Value.ref _) (Value.int _ _)) _ _ _); ((with_reducible rename LawMark 2 => jmX); (rename News _ _ _ _ => cN); (rename AreV fI _ _ => cR); k_dflt (first | refine item_V (k := 0) cN (by k_mem) cR (by rfl) (by rfl) (by decide) ?_ | refine item_V (k := 1) cN (by k_mem) cR (by rfl) (by rfl) (by decide) ?_ | refine item_V (k := 2) cN (by k_mem) cR (by rfl) (by rfl) (by decide) ?_); intro vX hX; k_dflt (obtain ⟨t', e'⟩ := hX); subst e'))) | (with_reducible ((show wpAny _ _ (call (Value.ref _) _) _ _ _); ((rename Fr _ _ _ _ => cF); (rename News _ _ _ _ => cN); (first | ((with_reducible show wpAny _ _ (call (Value.ref 38) _) _ _ _); k_dflt (refine Fn.use' (k := 400) (andN_fn _ _ _ _ _) (by k_asm) cF (by k_asm) cN (by k_asm) (by rfl) (by rfl) (by decide) (by decide) (by decide) trivial ?_)) | ((with_reducible show wpAny _ _ (call (Value.ref 45) _) _ _ _); k_dflt (refine Fn.use' (k := 400) (orN_fn _ _ _ _ _) (by k_asm) cF (by k_asm) cN (by k_asm) (by rfl) (by rfl) (by decide) (by decide) (by decide) trivial ?_)) | ((with_reducible show wpAny _ _ (call (Value.ref 52) _) _ _ _); k_dflt (refine Fn.use' (k := 400) (xorN_fn _ _ _ _ _) (by k_asm) cF (by k_asm) cN (by k_asm) (by rfl) (by rfl) (by decide) (by decide) (by decide) trivial ?_))); intro v' h' tk' F' N' K' P'; clear cF cN; k_dflt (obtain ⟨t', e'⟩ := P'); subst e'; clear K'))) | (with_reducible ((show wpAny _ _ (callWith _ (Value.ref _) _ _ _) _ _ _); (k_here; k_dflt (refine' callWith_K ?k1 ?k2 ?_; (case k1 => k_asm); (case k2 => k_is); k_whole)))) | ((k_here; (with_reducible show wpAny _ _ (subscriptTail _ _ (Value.str _ _) (Value.int _ _)) _ _ _); (refine item_at (by omega) (by omega) (by omega) ?_); intro kxiE)) | (with_reducible ((show @ite _ _ _ _ _); ((refine ite_both (fun hc => ?_) (fun hc => ?_)); (all_goals (try simp only [beq_iff_eq, decide_eq_true_eq] at hc)))))) | (dsimp only; walk1) | fail "no step")
                  refine Halt.out' ?_
                  (rename Fr _ _ _ _ => F62); (rename News _ _ _ _ => N62)
                  refine eq_dataH (reads_row (D := DE) N62 (by k_mem)) (reads_row (D := D6) N62 (by k_mem)) (shaped_last hTL) (shaped_last hTL) (by ke_room) ?_
                  rw [eqv_row]
                  repeat (first | (with_reducible first | (refine one_cut5 sE.gens sE.drawn sE.os ?_; intro tkC) | (refine cons_cut5 sE.gens sE.drawn sE.os ?_; intro tkC qC hC)) | (k_unfold; (try dsimp only)) | walk1 | (with_reducible first | refine CutQ.next (by assumption) ?_ | refine CutQ.ret (by assumption) ?_ | refine CutQ.brk (by assumption) ?_ | refine CutQ.cont (by assumption) ?_ | refine EndQ.ret (by assumption) ?_ | refine EndQ.next (by assumption) ?_) | ((refine Halt.out' ?_); first | (with_reducible ((show wpAny _ _ (subscriptTail _ _ (Value.ref _) (Value.int _ _)) _ _ _); ((with_reducible rename LawMark 2 => jmX); (rename News _ _ _ _ => cN); (rename AreV fI _ _ => cR); k_dflt (first | refine item_V (k := 0) cN (by k_mem) cR (by rfl) (by rfl) (by decide) ?_ | refine item_V (k := 1) cN (by k_mem) cR (by rfl) (by rfl) (by decide) ?_ | refine item_V (k := 2) cN (by k_mem) cR (by rfl) (by rfl) (by decide) ?_); intro vX hX; k_dflt (obtain ⟨t', e'⟩ := hX); subst e'))) | (with_reducible ((show wpAny _ _ (call (Value.ref _) _) _ _ _); ((rename Fr _ _ _ _ => cF); (rename News _ _ _ _ => cN); (first | ((with_reducible show wpAny _ _ (call (Value.ref 38) _) _ _ _); k_dflt (refine Fn.use' (k := 400) (andN_fn _ _ _ _ _) (by k_asm) cF (by k_asm) cN (by k_asm) (by rfl) (by rfl) (by decide) (by decide) (by decide) trivial ?_)) | ((with_reducible show wpAny _ _ (call (Value.ref 45) _) _ _ _); k_dflt (refine Fn.use' (k := 400) (orN_fn _ _ _ _ _) (by k_asm) cF (by k_asm) cN (by k_asm) (by rfl) (by rfl) (by decide) (by decide) (by decide) trivial ?_)) | ((with_reducible show wpAny _ _ (call (Value.ref 52) _) _ _ _); k_dflt (refine Fn.use' (k := 400) (xorN_fn _ _ _ _ _) (by k_asm) cF (by k_asm) cN (by k_asm) (by rfl) (by rfl) (by decide) (by decide) (by decide) trivial ?_))); intro v' h' tk' F' N' K' P'; clear cF cN; k_dflt (obtain ⟨t', e'⟩ := P'); subst e'; clear K'))) | (with_reducible ((show wpAny _ _ (callWith _ (Value.ref _) _ _ _) _ _ _); (k_here; k_dflt (refine' callWith_K ?k1 ?k2 ?_; (case k1 => k_asm); (case k2 => k_is); k_whole)))) | ((k_here; (with_reducible show wpAny _ _ (subscriptTail _ _ (Value.str _ _) (Value.int _ _)) _ _ _); (refine item_at (by omega) (by omega) (by omega) ?_); intro kxiE)) | (with_reducible ((show @ite _ _ _ _ _); ((refine ite_both (fun hc => ?_) (fun hc => ?_)); (all_goals (try simp only [beq_iff_eq, decide_eq_true_eq] at hc)))))) | (dsimp only; walk1) | fail "no step")
                  (rename Fr _ _ _ _ => F63); (rename News _ _ _ _ => N63)
                  exact ⟨rfl, fun b o e => F63.keep b o e, hJE.2, hJE.1, ⟨psR, (N63 (85, tabObj psR) (by k_mem)).1⟩, trivial⟩
  )
end
end Mine
end
set_option maxRecDepth 100000 in
set_option maxHeartbeats 8000000 in
theorem PySem.Challenge.cw_rx0053_01_holds : PySem.Challenge.rw_rx0053_01.Holds :=
  Mine.law_holds
