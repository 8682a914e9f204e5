import PyProof.Rows.All
import Wide.All
import OpenK.AllK
import Wide.FinOn
import KE.KDictIter
import PySem.Challenge.RW_ny0359_01
set_option Elab.async false
set_option linter.all false
set_option maxRecDepth 100000
set_option maxHeartbeats 8000000
namespace Mine
open PySem PySem.W PySem.Calls PyProof.Rows
section
noncomputable def stA (i : Nat) : Stmt := (PySem.Challenge.pw_ny0359_01.main.body[i]?).getD (.Pass ⟨0, 0, 0, 0⟩)
noncomputable def stB (i j : Nat) : Stmt := match stA i with
  | .ClassDef _ _ _ b _ _ _ _ _ _ _ => (b[j]?).getD (.Pass ⟨0, 0, 0, 0⟩)
  | _ => .Pass ⟨0, 0, 0, 0⟩
noncomputable abbrev vS (s : Str) (t : Nat) : Value := .str s t
noncomputable abbrev oT (l : List Value) : Obj := ⟨.type "tuple", none, .seq ⟨l⟩ 0, #[]⟩
noncomputable abbrev oN (l : List Value) : Obj := ⟨.none, none, .fields ⟨l⟩, #[]⟩
noncomputable abbrev oC (l : List Value) : Obj := ⟨.type "code", none, .fields ⟨l⟩, #[]⟩
noncomputable def oR (qual : Str) (s : Stmt) : Obj := match s with
  | .FunctionDef n a b _ _ _ sc _ _ _ => ⟨.none, none, .func { name := n, qualname := qual, params := a, body := .stmts b, scope := sc, globals := 0, closure := [], defaults := .none, kwdefaults := .none }, #[]⟩
  | _ => ⟨.none, none, .plain, #[]⟩
noncomputable def oF (qual : Str) (s : Stmt) (dV kV doc pm cd : Value) : Obj := match s with
  | .FunctionDef n a b _ _ _ sc _ _ _ => ⟨.type "function", none, .func { name := n, qualname := qual, params := a, body := .stmts b, scope := sc, globals := 3, closure := [], defaults := dV, kwdefaults := kV, doc := doc, pyModule := pm, code := cd }, #[]⟩
  | _ => ⟨.none, none, .plain, #[]⟩
noncomputable abbrev dE (P : Params) (s : Str) (t : Nat) (v : Value) : DictEntry := ⟨PyData.keyHash P s, .str s t, v⟩
noncomputable def KP (P : Params) : Frag := [(2, boot_o_2 P),
  (3, ⟨(.type "dict"), none, .dict (Array.mk [dE P "__name__" 165 (vS "law_ny0359_01" 558), dE P "__doc__" 166 .none, dE P "__package__" 167 .none, dE P "__loader__" 168 (.builtin "__main__.__loader__#opaque"), dE P "__spec__" 169 .none, dE P "__annotations__" 170 (.ref 6), dE P "__builtins__" 171 (.ref 4), dE P "__file__" 173 (vS "/claim/cut.py" 172), dE P "__cached__" 174 .none, dE P "_wall" 193 (.ref 21), dE P "_MAX_LENGTH" 197 (.int 80 196), dE P "_PLACEHOLDER_LEN" 199 (.int 12 198), dE P "_MIN_BEGIN_LEN" 201 (.int 5 200), dE P "_MIN_END_LEN" 203 (.int 5 202), dE P "_MIN_COMMON_LEN" 205 (.int 5 204), dE P "_MIN_DIFF_LEN" 211 (.int 41 210), dE P "_shorten" 221 (.ref 28), dE P "_kind" 232 (.ref 35), dE P "_fspath" 241 (.ref 42), dE P "_prefix" 252 (.ref 49), dE P "commonprefix" 258 (.ref 54), dE P "_common_shorten_repr" 271 (.ref 61), dE P "safe_repr" 280 (.ref 69), dE P "unorderable_list_difference" 290 (.ref 76), dE P "S_IFMT" 299 (.ref 83), dE P "S_IFDIR" 301 (.int 16384 300), dE P "S_IFCHR" 303 (.int 8192 302), dE P "S_IFBLK" 305 (.int 24576 304), dE P "S_IFREG" 307 (.int 32768 306), dE P "S_IFIFO" 309 (.int 4096 308), dE P "S_IFLNK" 311 (.int 40960 310), dE P "S_IFSOCK" 313 (.int 49152 312), dE P "S_ISUID" 315 (.int 2048 314), dE P "S_ISGID" 317 (.int 1024 316), dE P "S_ISVTX" 319 (.int 512 318), dE P "S_IRUSR" 321 (.int 256 320), dE P "S_IWUSR" 323 (.int 128 322), dE P "S_IXUSR" 325 (.int 64 324), dE P "S_IRGRP" 327 (.int 32 326), dE P "S_IWGRP" 329 (.int 16 328), dE P "S_IXGRP" 331 (.int 8 330), dE P "S_IROTH" 333 (.int 4 332), dE P "S_IWOTH" 335 (.int 2 334), dE P "S_IXOTH" 337 (.int 1 336), dE P "_filemode_table" 363 (.ref 116), dE P "filemode" 375 (.ref 123), dE P "_NODE_OUT" 380 (.int (-1) 379), dE P "_NODE_DONE" 383 (.int (-2) 382), dE P "_NodeInfo" 420 (.ref 142), dE P "CycleError" 438 (.ref 157), dE P "TopologicalSorter" 557 (.ref 239), dE P "_law_cells" 568 (.ref 250), dE P "_law_files" 579 (.ref 257), dE P "_law_row" 591 (.ref 264), dE P "_law_walked" 597 (.ref 269), dE P "_law_told" 613 (.ref 276), dE P "_law_is_told" 619 (.ref 281), dE P "_law_shared" 625 (.ref 286), dE P "_law_without" 634 (.ref 293), dE P "_law_short" 640 (.ref 298), dE P "_law_is_short" 646 (.ref 303), dE P "_law_bags_are_told" 652 (.ref 308), dE P "_law_holds" 658 (.ref 313), dE P "law" 665 (.ref 320)]) 64, #[]⟩),
  (15, oT []),
  (17, oT [vS "k" 190]),
  (18, oT []),
  (20, oC [vS "_wall" 187, vS "_wall" 188, vS "/claim/cut.py" 189, .int 1 0, .int 1 0, .int 0 0, .int 0 0, .int 3 0, .ref 15, .bool true, .int 181 0, .ref 16, .none, .ref 17, .ref 18, .ref 19, .int 191 0, .int 1 0, vS "/claim/cut.py" 192]),
  (21, oF "_wall" (stA 0) .none .none .none (vS "__main__" 164) (.ref 20)),
  (22, oT []),
  (24, oT [vS "s" 215, vS "prefixlen" 216, vS "suffixlen" 217, vS "skip" 218]),
  (25, oT []),
  (27, oC [vS "_shorten" 212, vS "_shorten" 213, vS "/claim/cut.py" 214, .int 11 0, .int 3 0, .int 0 0, .int 0 0, .int 3 0, .ref 22, .bool true, .int 181 0, .ref 23, .none, .ref 24, .ref 25, .ref 26, .int 219 0, .int 11 0, vS "/claim/cut.py" 220]),
  (28, oF "_shorten" (stA 8) .none .none .none (vS "cpy313.unittest.util" 194) (.ref 27)),
  (29, oT []),
  (31, oT [vS "name" 227, vS "x" 228, vS "t" 229]),
  (32, oT []),
  (34, oC [vS "_kind" 224, vS "_kind" 225, vS "/claim/cut.py" 226, .int 17 0, .int 2 0, .int 0 0, .int 0 0, .int 3 0, .ref 29, .bool true, .int 181 0, .ref 30, .none, .ref 31, .ref 32, .ref 33, .int 230 0, .int 17 0, vS "/claim/cut.py" 231]),
  (35, oF "_kind" (stA 10) .none .none .none (vS "os.path" 222) (.ref 34)),
  (36, oT []),
  (38, oT [vS "name" 236, vS "x" 237, vS "k" 238]),
  (39, oT []),
  (41, oC [vS "_fspath" 233, vS "_fspath" 234, vS "/claim/cut.py" 235, .int 38 0, .int 2 0, .int 0 0, .int 0 0, .int 3 0, .ref 36, .bool true, .int 181 0, .ref 37, .none, .ref 38, .ref 39, .ref 40, .int 239 0, .int 38 0, vS "/claim/cut.py" 240]),
  (42, oF "_fspath" (stA 11) .none .none .none (vS "os.path" 222) (.ref 41)),
  (43, oT []),
  (45, oT [vS "m" 245, vS "s1" 246, vS "s2" 247, vS "i" 248, vS "c" 249]),
  (46, oT []),
  (48, oC [vS "_prefix" 242, vS "_prefix" 243, vS "/claim/cut.py" 244, .int 43 0, .int 1 0, .int 0 0, .int 0 0, .int 3 0, .ref 43, .bool true, .int 181 0, .ref 44, .none, .ref 45, .ref 46, .ref 47, .int 250 0, .int 43 0, vS "/claim/cut.py" 251]),
  (49, oF "_prefix" (stA 12) .none .none .none (vS "os.path" 222) (.ref 48)),
  (50, oT []),
  (53, oC [vS "commonprefix" 253, vS "commonprefix" 254, vS "/claim/cut.py" 255, .int 50 0, .int 1 0, .int 0 0, .int 0 0, .int 3 0, .ref 50, .bool true, .int 181 0, .ref 51, .none, .none, .none, .ref 52, .int 256 0, .int 50 0, vS "/claim/cut.py" 257]),
  (54, oF "commonprefix" (stA 13) .none .none .none (vS "os.path" 222) (.ref 53)),
  (55, oT []),
  (57, oT [vS "args" 264, vS "maxlen" 265, vS "common_len" 266]),
  (58, oT [vS "prefix" 267, vS "prefixlen" 268]),
  (60, oC [vS "_common_shorten_repr" 261, vS "_common_shorten_repr" 262, vS "/claim/cut.py" 263, .int 68 0, .int 0 0, .int 0 0, .int 0 0, .int 7 0, .ref 55, .bool true, .int 181 0, .ref 56, .none, .ref 57, .ref 58, .ref 59, .int 269 0, .int 68 0, vS "/claim/cut.py" 270]),
  (61, oF "_common_shorten_repr" (stA 15) .none .none .none (vS "cpy313.unittest.util" 259) (.ref 60)),
  (62, oT [.bool false]),
  (63, oT []),
  (65, oT [vS "obj" 275, vS "short" 276, vS "result" 277]),
  (66, oT []),
  (68, oC [vS "safe_repr" 272, vS "safe_repr" 273, vS "/claim/cut.py" 274, .int 82 0, .int 2 0, .int 0 0, .int 0 0, .int 3 0, .ref 63, .bool true, .int 181 0, .ref 64, .none, .ref 65, .ref 66, .ref 67, .int 278 0, .int 82 0, vS "/claim/cut.py" 279]),
  (69, oF "safe_repr" (stA 16) (.ref 62) .none .none (vS "cpy313.unittest.util" 259) (.ref 68)),
  (70, oT []),
  (72, oT [vS "expected" 284, vS "actual" 285, vS "missing" 286, vS "item" 287]),
  (73, oT []),
  (75, oC [vS "unorderable_list_difference" 281, vS "unorderable_list_difference" 282, vS "/claim/cut.py" 283, .int 90 0, .int 2 0, .int 0 0, .int 0 0, .int 3 0, .ref 70, .bool true, .int 181 0, .ref 71, .none, .ref 72, .ref 73, .ref 74, .int 288 0, .int 90 0, vS "/claim/cut.py" 289]),
  (76, oF "unorderable_list_difference" (stA 17) .none .none .none (vS "cpy313.unittest.util" 259) (.ref 75)),
  (77, oT []),
  (79, oT [vS "mode" 296]),
  (80, oT []),
  (82, oC [vS "S_IFMT" 293, vS "S_IFMT" 294, vS "/claim/cut.py" 295, .int 100 0, .int 1 0, .int 0 0, .int 0 0, .int 3 0, .ref 77, .bool true, .int 181 0, .ref 78, .none, .ref 79, .ref 80, .ref 81, .int 297 0, .int 100 0, vS "/claim/cut.py" 298]),
  (83, oF "S_IFMT" (stA 19) .none .none .none (vS "cpy313.stat" 291) (.ref 82)),
  (84, oT [.int 40960 310, vS "l" 338]),
  (85, oT [.int 49152 312, vS "s" 339]),
  (86, oT [.int 32768 306, vS "-" 340]),
  (87, oT [.int 24576 304, vS "b" 341]),
  (88, oT [.int 16384 300, vS "d" 342]),
  (89, oT [.int 8192 302, vS "c" 343]),
  (90, oT [.int 4096 308, vS "p" 344]),
  (91, oT [.ref 84, .ref 85, .ref 86, .ref 87, .ref 88, .ref 89, .ref 90]),
  (92, oT [.int 256 320, vS "r" 345]),
  (93, oT [.ref 92]),
  (94, oT [.int 128 322, vS "w" 346]),
  (95, oT [.ref 94]),
  (96, oT [.int 2112 347, vS "s" 348]),
  (97, oT [.int 2048 314, vS "S" 349]),
  (98, oT [.int 64 324, vS "x" 350]),
  (99, oT [.ref 96, .ref 97, .ref 98]),
  (100, oT [.int 32 326, vS "r" 351]),
  (101, oT [.ref 100]),
  (102, oT [.int 16 328, vS "w" 352]),
  (103, oT [.ref 102]),
  (104, oT [.int 1032 353, vS "s" 354]),
  (105, oT [.int 1024 316, vS "S" 355]),
  (106, oT [.int 8 330, vS "x" 356]),
  (107, oT [.ref 104, .ref 105, .ref 106]),
  (108, oT [.int 4 332, vS "r" 357]),
  (109, oT [.ref 108]),
  (110, oT [.int 2 334, vS "w" 358]),
  (111, oT [.ref 110]),
  (112, oT [.int 513 359, vS "t" 360]),
  (113, oT [.int 512 318, vS "T" 361]),
  (114, oT [.int 1 336, vS "x" 362]),
  (115, oT [.ref 112, .ref 113, .ref 114]),
  (116, oT [.ref 91, .ref 93, .ref 95, .ref 99, .ref 101, .ref 103, .ref 107, .ref 109, .ref 111, .ref 115]),
  (117, oT []),
  (119, oT [vS "mode" 367, vS "perm" 368, vS "index" 369, vS "table" 370, vS "bit" 371, vS "char" 372]),
  (120, oT []),
  (122, oC [vS "filemode" 364, vS "filemode" 365, vS "/claim/cut.py" 366, .int 122 0, .int 1 0, .int 0 0, .int 0 0, .int 3 0, .ref 117, .bool true, .int 181 0, .ref 118, .none, .ref 119, .ref 120, .ref 121, .int 373 0, .int 122 0, vS "/claim/cut.py" 374]),
  (123, oF "filemode" (stA 40) .none .none .none (vS "cpy313.stat" 291) (.ref 122)),
  (131, oT [vS "node" 396, vS "npredecessors" 397, vS "successors" 398]),
  (132, oT []),
  (134, oT [vS "self" 403, vS "node" 404]),
  (135, oT []),
  (137, oC [vS "__init__" 400, vS "_NodeInfo.__init__" 401, vS "/claim/cut.py" 402, .int 145 0, .int 2 0, .int 0 0, .int 0 0, .int 3 0, .ref 132, .bool true, .int 181 0, .ref 133, .none, .ref 134, .ref 135, .ref 136, .int 405 0, .int 145 0, vS "/claim/cut.py" 406]),
  (138, oF "_NodeInfo.__init__" (stB 44 1) .none .none .none (vS "cpy313.graphlib" 376) (.ref 137)),
  (139, oT [vS "node" 408, vS "npredecessors" 409, vS "successors" 410]),
  (141, ⟨(.type "dict"), none, .dict (Array.mk [dE P "__module__" 391 (vS "cpy313.graphlib" 376), dE P "__firstlineno__" 395 (.int 142 394), dE P "__slots__" 399 (.ref 131), dE P "__init__" 407 (.ref 138), dE P "__static_attributes__" 411 (.ref 139), dE P "node" 413 (.ref 143), dE P "npredecessors" 415 (.ref 144), dE P "successors" 417 (.ref 145), dE P "__doc__" 418 .none]) 5, #[]⟩),
  (142, ⟨(.type "type"), none, .cls { name := "_NodeInfo", bases := [.type "object"], mro := [.ref 142, .type "object"], ns := 141, qualname := "_NodeInfo", hasDict := false, slotNames := ["node", "npredecessors", "successors"], subclasses := [], abstract := false, collection := none, hasDel := false }, Array.mk [none, none, some (vS "_NodeInfo" 384), some (vS "_NodeInfo" 392), some (.builtin "object.__new__"), some (.bool false)]⟩),
  (143, ⟨(.type "member_descriptor"), none, .fields (Array.mk [vS "node" 412, .ref 142, .builtin "proto.slot", .builtin "proto.slot#set", .int 2 0]), #[]⟩),
  (144, ⟨(.type "member_descriptor"), none, .fields (Array.mk [vS "npredecessors" 414, .ref 142, .builtin "proto.slot", .builtin "proto.slot#set", .int 1 0]), #[]⟩),
  (145, ⟨(.type "member_descriptor"), none, .fields (Array.mk [vS "successors" 416, .ref 142, .builtin "proto.slot", .builtin "proto.slot#set", .int 0 0]), #[]⟩),
  (148, oT [.type "ValueError"]),
  (155, oT []),
  (156, ⟨(.type "dict"), none, .dict (Array.mk [dE P "__module__" 428 (vS "cpy313.graphlib" 376), dE P "__firstlineno__" 432 (.int 149 431), dE P "__static_attributes__" 433 (.ref 155), dE P "__weakref__" 435 (.ref 158), dE P "__doc__" 436 .none]) 3, #[]⟩),
  (157, ⟨(.type "type"), none, .cls { name := "CycleError", bases := [.type "ValueError"], mro := [.ref 157, .type "ValueError", .type "Exception", .type "BaseException", .type "object"], ns := 156, qualname := "CycleError", hasDict := true, slotNames := [], subclasses := [], abstract := false, collection := none, hasDel := false }, Array.mk [some (.ref 148), none, some (vS "CycleError" 421), some (vS "CycleError" 429), some (.builtin "ValueError.__new__"), some (.bool true)]⟩),
  (158, ⟨(.type "getset_descriptor"), none, .fields (Array.mk [vS "__weakref__" 434, .ref 157, .builtin "ExceptionGroup.__weakref__", .none]), #[]⟩),
  (168, oT [.none]),
  (169, oT []),
  (171, oT [vS "self" 454, vS "graph" 455, vS "node" 456, vS "predecessors" 457]),
  (172, oT []),
  (174, oC [vS "__init__" 451, vS "TopologicalSorter.__init__" 452, vS "/claim/cut.py" 453, .int 153 0, .int 2 0, .int 0 0, .int 0 0, .int 3 0, .ref 169, .bool true, .int 181 0, .ref 170, .none, .ref 171, .ref 172, .ref 173, .int 458 0, .int 153 0, vS "/claim/cut.py" 459]),
  (175, oF "TopologicalSorter.__init__" (stB 46 0) (.ref 168) .none .none (vS "cpy313.graphlib" 376) (.ref 174)),
  (176, oT []),
  (178, oT [vS "self" 464, vS "node" 465, vS "result" 466]),
  (179, oT []),
  (181, oC [vS "_get_nodeinfo" 461, vS "TopologicalSorter._get_nodeinfo" 462, vS "/claim/cut.py" 463, .int 162 0, .int 2 0, .int 0 0, .int 0 0, .int 3 0, .ref 176, .bool true, .int 181 0, .ref 177, .none, .ref 178, .ref 179, .ref 180, .int 467 0, .int 162 0, vS "/claim/cut.py" 468]),
  (182, oF "TopologicalSorter._get_nodeinfo" (stB 46 1) .none .none .none (vS "cpy313.graphlib" 376) (.ref 181)),
  (183, oT []),
  (185, oT [vS "self" 473, vS "node" 474, vS "predecessors" 475, vS "nodeinfo" 476, vS "pred" 477, vS "pred_info" 478]),
  (186, oT []),
  (188, oC [vS "add" 470, vS "TopologicalSorter.add" 471, vS "/claim/cut.py" 472, .int 167 0, .int 2 0, .int 0 0, .int 0 0, .int 7 0, .ref 183, .bool true, .int 181 0, .ref 184, .none, .ref 185, .ref 186, .ref 187, .int 479 0, .int 167 0, vS "/claim/cut.py" 480]),
  (189, oF "TopologicalSorter.add" (stB 46 2) .none .none .none (vS "cpy313.graphlib" 376) (.ref 188)),
  (190, oT []),
  (193, oC [vS "prepare" 482, vS "TopologicalSorter.prepare" 483, vS "/claim/cut.py" 484, .int 176 0, .int 1 0, .int 0 0, .int 0 0, .int 3 0, .ref 190, .bool true, .int 181 0, .ref 191, .none, .none, .none, .ref 192, .int 485 0, .int 176 0, vS "/claim/cut.py" 486]),
  (194, oF "TopologicalSorter.prepare" (stB 46 3) .none .none .none (vS "cpy313.graphlib" 376) (.ref 193)),
  (195, oT []),
  (197, oT [vS "self" 491, vS "result" 492, vS "n2i" 493, vS "node" 494]),
  (198, oT []),
  (200, oC [vS "get_ready" 488, vS "TopologicalSorter.get_ready" 489, vS "/claim/cut.py" 490, .int 184 0, .int 1 0, .int 0 0, .int 0 0, .int 3 0, .ref 195, .bool true, .int 181 0, .ref 196, .none, .ref 197, .ref 198, .ref 199, .int 495 0, .int 184 0, vS "/claim/cut.py" 496]),
  (201, oF "TopologicalSorter.get_ready" (stB 46 4) .none .none .none (vS "cpy313.graphlib" 376) (.ref 200)),
  (202, oT []),
  (204, oT [vS "self" 501]),
  (205, oT []),
  (207, oC [vS "is_active" 498, vS "TopologicalSorter.is_active" 499, vS "/claim/cut.py" 500, .int 195 0, .int 1 0, .int 0 0, .int 0 0, .int 3 0, .ref 202, .bool true, .int 181 0, .ref 203, .none, .ref 204, .ref 205, .ref 206, .int 502 0, .int 195 0, vS "/claim/cut.py" 503]),
  (208, oF "TopologicalSorter.is_active" (stB 46 5) .none .none .none (vS "cpy313.graphlib" 376) (.ref 207)),
  (209, oT []),
  (211, oT [vS "self" 508]),
  (212, oT []),
  (214, oC [vS "__bool__" 505, vS "TopologicalSorter.__bool__" 506, vS "/claim/cut.py" 507, .int 200 0, .int 1 0, .int 0 0, .int 0 0, .int 3 0, .ref 209, .bool true, .int 181 0, .ref 210, .none, .ref 211, .ref 212, .ref 213, .int 509 0, .int 200 0, vS "/claim/cut.py" 510]),
  (215, oF "TopologicalSorter.__bool__" (stB 46 6) .none .none .none (vS "cpy313.graphlib" 376) (.ref 214)),
  (216, oT []),
  (218, oT [vS "self" 515, vS "nodes" 516, vS "n2i" 517, vS "node" 518, vS "nodeinfo" 519, vS "stat" 520, vS "successor" 521, vS "successor_info" 522]),
  (219, oT []),
  (221, oC [vS "done" 512, vS "TopologicalSorter.done" 513, vS "/claim/cut.py" 514, .int 203 0, .int 1 0, .int 0 0, .int 0 0, .int 7 0, .ref 216, .bool true, .int 181 0, .ref 217, .none, .ref 218, .ref 219, .ref 220, .int 523 0, .int 203 0, vS "/claim/cut.py" 524]),
  (222, oF "TopologicalSorter.done" (stB 46 7) .none .none .none (vS "cpy313.graphlib" 376) (.ref 221)),
  (223, oT []),
  (225, oT [vS "self" 529, vS "n2i" 530, vS "stack" 531, vS "itstack" 532, vS "seen" 533, vS "node2stacki" 534, vS "node" 535]),
  (226, oT []),
  (228, oC [vS "_find_cycle" 526, vS "TopologicalSorter._find_cycle" 527, vS "/claim/cut.py" 528, .int 226 0, .int 1 0, .int 0 0, .int 0 0, .int 3 0, .ref 223, .bool true, .int 181 0, .ref 224, .none, .ref 225, .ref 226, .ref 227, .int 536 0, .int 226 0, vS "/claim/cut.py" 537]),
  (229, oF "TopologicalSorter._find_cycle" (stB 46 8) .none .none .none (vS "cpy313.graphlib" 376) (.ref 228)),
  (230, oT []),
  (232, oT [vS "self" 542]),
  (233, oT []),
  (235, oC [vS "static_order" 539, vS "TopologicalSorter.static_order" 540, vS "/claim/cut.py" 541, .int 255 0, .int 1 0, .int 0 0, .int 0 0, .int 3 0, .ref 230, .bool true, .int 181 0, .ref 231, .none, .ref 232, .ref 233, .ref 234, .int 543 0, .int 255 0, vS "/claim/cut.py" 544]),
  (236, oF "TopologicalSorter.static_order" (stB 46 9) .none .none .none (vS "cpy313.graphlib" 376) (.ref 235)),
  (237, oT [vS "_nfinished" 546, vS "_node2info" 547, vS "_npassedout" 548, vS "_ready_nodes" 549]),
  (238, ⟨(.type "dict"), none, .dict (Array.mk [dE P "__module__" 446 (vS "cpy313.graphlib" 376), dE P "__firstlineno__" 450 (.int 151 449), dE P "__init__" 460 (.ref 175), dE P "_get_nodeinfo" 469 (.ref 182), dE P "add" 481 (.ref 189), dE P "prepare" 487 (.ref 194), dE P "get_ready" 497 (.ref 201), dE P "is_active" 504 (.ref 208), dE P "__bool__" 511 (.ref 215), dE P "done" 525 (.ref 222), dE P "_find_cycle" 538 (.ref 229), dE P "static_order" 545 (.ref 236), dE P "__static_attributes__" 550 (.ref 237), dE P "__dict__" 552 (.ref 240), dE P "__weakref__" 554 (.ref 241), dE P "__doc__" 555 .none]) 4, #[]⟩),
  (239, ⟨(.type "type"), none, .cls { name := "TopologicalSorter", bases := [.type "object"], mro := [.ref 239, .type "object"], ns := 238, qualname := "TopologicalSorter", hasDict := true, slotNames := [], subclasses := [], abstract := false, collection := none, hasDel := false }, Array.mk [none, none, some (vS "TopologicalSorter" 439), some (vS "TopologicalSorter" 447), some (.builtin "object.__new__"), some (.bool true)]⟩),
  (240, ⟨(.type "getset_descriptor"), none, .fields (Array.mk [vS "__dict__" 551, .ref 239, .builtin "function.__dict__", .builtin "function.__dict__#set"]), #[]⟩),
  (241, ⟨(.type "getset_descriptor"), none, .fields (Array.mk [vS "__weakref__" 553, .ref 239, .builtin "ExceptionGroup.__weakref__", .none]), #[]⟩),
  (244, oT []),
  (246, oT [vS "script" 563, vS "cells" 564, vS "place" 565]),
  (247, oT []),
  (249, oC [vS "_law_cells" 560, vS "_law_cells" 561, vS "/claim/cut.py" 562, .int 258 0, .int 1 0, .int 0 0, .int 0 0, .int 3 0, .ref 244, .bool true, .int 181 0, .ref 245, .none, .ref 246, .ref 247, .ref 248, .int 566 0, .int 258 0, vS "/claim/cut.py" 567]),
  (250, oF "_law_cells" (stA 48) .none .none .none (vS "law_ny0359_01" 558) (.ref 249)),
  (251, oT []),
  (253, oT [vS "rights" 572, vS "look" 573, vS "step" 574, vS "files" 575, vS "place" 576]),
  (254, oT []),
  (256, oC [vS "_law_files" 569, vS "_law_files" 570, vS "/claim/cut.py" 571, .int 263 0, .int 2 0, .int 0 0, .int 0 0, .int 3 0, .ref 251, .bool true, .int 181 0, .ref 252, .none, .ref 253, .ref 254, .ref 255, .int 577 0, .int 263 0, vS "/claim/cut.py" 578]),
  (257, oF "_law_files" (stA 49) .none .none .none (vS "law_ny0359_01" 558) (.ref 256)),
  (258, oT []),
  (260, oT [vS "kind" 583, vS "rights" 584, vS "row" 585, vS "turn" 586, vS "digit" 587, vS "last" 588]),
  (261, oT []),
  (263, oC [vS "_law_row" 580, vS "_law_row" 581, vS "/claim/cut.py" 582, .int 269 0, .int 2 0, .int 0 0, .int 0 0, .int 3 0, .ref 258, .bool true, .int 181 0, .ref 259, .none, .ref 260, .ref 261, .ref 262, .int 589 0, .int 269 0, vS "/claim/cut.py" 590]),
  (264, oF "_law_row" (stA 50) .none .none .none (vS "law_ny0359_01" 558) (.ref 263)),
  (265, oT []),
  (268, oC [vS "_law_walked" 592, vS "_law_walked" 593, vS "/claim/cut.py" 594, .int 277 0, .int 2 0, .int 0 0, .int 0 0, .int 3 0, .ref 265, .bool true, .int 181 0, .ref 266, .none, .none, .none, .ref 267, .int 595 0, .int 277 0, vS "/claim/cut.py" 596]),
  (269, oF "_law_walked" (stA 51) .none .none .none (vS "law_ny0359_01" 558) (.ref 268)),
  (270, oT []),
  (272, oT [vS "rows" 601, vS "steps" 602, vS "begin" 603, vS "sorter" 604, vS "place" 605, vS "told" 606, vS "error" 607, vS "given" 608, vS "turn" 609, vS "group" 610]),
  (273, oT []),
  (275, oC [vS "_law_told" 598, vS "_law_told" 599, vS "/claim/cut.py" 600, .int 288 0, .int 3 0, .int 0 0, .int 0 0, .int 3 0, .ref 270, .bool true, .int 181 0, .ref 271, .none, .ref 272, .ref 273, .ref 274, .int 611 0, .int 288 0, vS "/claim/cut.py" 612]),
  (276, oF "_law_told" (stA 52) .none .none .none (vS "law_ny0359_01" 558) (.ref 275)),
  (277, oT []),
  (280, oC [vS "_law_is_told" 614, vS "_law_is_told" 615, vS "/claim/cut.py" 616, .int 308 0, .int 4 0, .int 0 0, .int 0 0, .int 3 0, .ref 277, .bool true, .int 181 0, .ref 278, .none, .none, .none, .ref 279, .int 617 0, .int 308 0, vS "/claim/cut.py" 618]),
  (281, oF "_law_is_told" (stA 53) .none .none .none (vS "law_ny0359_01" 558) (.ref 280)),
  (282, oT []),
  (285, oC [vS "_law_shared" 620, vS "_law_shared" 621, vS "/claim/cut.py" 622, .int 313 0, .int 1 0, .int 0 0, .int 0 0, .int 3 0, .ref 282, .bool true, .int 181 0, .ref 283, .none, .none, .none, .ref 284, .int 623 0, .int 313 0, vS "/claim/cut.py" 624]),
  (286, oF "_law_shared" (stA 54) .none .none .none (vS "law_ny0359_01" 558) (.ref 285)),
  (287, oT []),
  (289, oT [vS "text" 629, vS "low" 630, vS "high" 631]),
  (290, oT []),
  (292, oC [vS "_law_without" 626, vS "_law_without" 627, vS "/claim/cut.py" 628, .int 319 0, .int 3 0, .int 0 0, .int 0 0, .int 3 0, .ref 287, .bool true, .int 181 0, .ref 288, .none, .ref 289, .ref 290, .ref 291, .int 632 0, .int 319 0, vS "/claim/cut.py" 633]),
  (293, oF "_law_without" (stA 55) .none .none .none (vS "law_ny0359_01" 558) (.ref 292)),
  (294, oT []),
  (297, oC [vS "_law_short" 635, vS "_law_short" 636, vS "/claim/cut.py" 637, .int 323 0, .int 1 0, .int 0 0, .int 0 0, .int 3 0, .ref 294, .bool true, .int 181 0, .ref 295, .none, .none, .none, .ref 296, .int 638 0, .int 323 0, vS "/claim/cut.py" 639]),
  (298, oF "_law_short" (stA 56) .none .none .none (vS "law_ny0359_01" 558) (.ref 297)),
  (299, oT []),
  (302, oC [vS "_law_is_short" 641, vS "_law_is_short" 642, vS "/claim/cut.py" 643, .int 336 0, .int 1 0, .int 0 0, .int 0 0, .int 3 0, .ref 299, .bool true, .int 181 0, .ref 300, .none, .none, .none, .ref 301, .int 644 0, .int 336 0, vS "/claim/cut.py" 645]),
  (303, oF "_law_is_short" (stA 57) .none .none .none (vS "law_ny0359_01" 558) (.ref 302)),
  (304, oT []),
  (307, oC [vS "_law_bags_are_told" 647, vS "_law_bags_are_told" 648, vS "/claim/cut.py" 649, .int 340 0, .int 2 0, .int 0 0, .int 0 0, .int 3 0, .ref 304, .bool true, .int 181 0, .ref 305, .none, .none, .none, .ref 306, .int 650 0, .int 340 0, vS "/claim/cut.py" 651]),
  (308, oF "_law_bags_are_told" (stA 58) .none .none .none (vS "law_ny0359_01" 558) (.ref 307)),
  (309, oT []),
  (312, oC [vS "_law_holds" 653, vS "_law_holds" 654, vS "/claim/cut.py" 655, .int 345 0, .int 1 0, .int 0 0, .int 0 0, .int 3 0, .ref 309, .bool true, .int 181 0, .ref 310, .none, .none, .none, .ref 311, .int 656 0, .int 345 0, vS "/claim/cut.py" 657]),
  (313, oF "_law_holds" (stA 59) .none .none .none (vS "law_ny0359_01" 558) (.ref 312)),
  (314, oT []),
  (316, oT [vS "script" 662]),
  (317, oT []),
  (319, oC [vS "law" 659, vS "law" 660, vS "/claim/cut.py" 661, .int 368 0, .int 1 0, .int 0 0, .int 0 0, .int 3 0, .ref 314, .bool true, .int 181 0, .ref 315, .none, .ref 316, .ref 317, .ref 318, .int 663 0, .int 368 0, vS "/claim/cut.py" 664]),
  (320, oF "law" (stA 60) .none .none .none (vS "law_ny0359_01" 558) (.ref 319))]
noncomputable def RP (P : Params) : Frag := [(0, boot_o_0 P),
  (1, boot_o_1 P),
  (4, boot_o_4 P),
  (5, boot_o_5 P),
  (6, boot_o_6 P),
  (7, boot_o_7 P),
  (8, boot_o_8 P),
  (9, boot_o_9 P),
  (10, boot_o_10 P),
  (11, oT []),
  (12, oN [.int 1 0, .int 0 0, .ref 20, .int 11 0, .int 0 0, .ref 27, .int 17 0, .int 0 0, .ref 34, .int 38 0, .int 0 0, .ref 41, .int 43 0, .int 0 0, .ref 48, .int 50 0, .int 0 0, .ref 53, .int 68 0, .int 0 0, .ref 60, .int 82 0, .int 0 0, .ref 68, .int 90 0, .int 0 0, .ref 75, .int 100 0, .int 0 0, .ref 82, .int 122 0, .int 0 0, .ref 122, .int 142 0, .int 0 0, .ref 129, .int 149 0, .int 0 0, .ref 153, .int 151 0, .int 0 0, .ref 166, .int 258 0, .int 0 0, .ref 249, .int 263 0, .int 0 0, .ref 256, .int 269 0, .int 0 0, .ref 263, .int 277 0, .int 0 0, .ref 268, .int 288 0, .int 0 0, .ref 275, .int 308 0, .int 0 0, .ref 280, .int 313 0, .int 0 0, .ref 285, .int 319 0, .int 0 0, .ref 292, .int 323 0, .int 0 0, .ref 297, .int 336 0, .int 0 0, .ref 302, .int 340 0, .int 0 0, .ref 307, .int 345 0, .int 0 0, .ref 312, .int 368 0, .int 0 0, .ref 319]),
  (13, oC [vS "<module>" 182, vS "<module>" 183, vS "/claim/cut.py" 184, .int 1 0, .int 0 0, .int 0 0, .int 0 0, .int 0 0, .ref 11, .bool false, .int 181 0, .ref 12, .none, .none, .none, .none, .int 185 0, .int 1 0, vS "/claim/cut.py" 186]),
  (14, ⟨(.type "frame"), none, .plain, Array.mk [some (.ref 13), some (.ref 3), some (.ref 3), none, some (vS "__main__" 164), none, some (.ref 0)]⟩),
  (16, oN []),
  (19, oR "_wall" (stA 0)),
  (23, oN []),
  (26, oR "_shorten" (stA 8)),
  (30, oN []),
  (33, oR "_kind" (stA 10)),
  (37, oN []),
  (40, oR "_fspath" (stA 11)),
  (44, oN []),
  (47, oR "_prefix" (stA 12)),
  (51, oN []),
  (52, oR "commonprefix" (stA 13)),
  (56, oN []),
  (59, oR "_common_shorten_repr" (stA 15)),
  (64, oN []),
  (67, oR "safe_repr" (stA 16)),
  (71, oN []),
  (74, oR "unorderable_list_difference" (stA 17)),
  (78, oN []),
  (81, oR "S_IFMT" (stA 19)),
  (118, oN []),
  (121, oR "filemode" (stA 40)),
  (124, oT []),
  (125, ⟨(.type "builtin_function_or_method"), none, .fields (Array.mk [.builtin "type.__prepare__", .type "type"]), #[]⟩),
  (126, ⟨(.type "dict"), none, .dict (Array.mk [dE P "__module__" 391 (vS "cpy313.graphlib" 376), dE P "__qualname__" 393 (vS "_NodeInfo" 392), dE P "__firstlineno__" 395 (.int 142 394), dE P "__slots__" 399 (.ref 131), dE P "__init__" 407 (.ref 138), dE P "__static_attributes__" 411 (.ref 139)]) 6, #[]⟩),
  (127, oT []),
  (128, oN [.int 145 0, .int 4 0, .ref 137]),
  (129, oC [vS "_NodeInfo" 386, vS "_NodeInfo" 387, vS "/claim/cut.py" 388, .int 142 0, .int 0 0, .int 0 0, .int 0 0, .int 0 0, .ref 127, .bool false, .int 181 0, .ref 128, .none, .none, .none, .none, .int 389 0, .int 142 0, vS "/claim/cut.py" 390]),
  (130, ⟨(.type "frame"), none, .plain, Array.mk [some (.ref 129), some (.ref 3), some (.ref 126), none, some (vS "cpy313.graphlib" 376), none, some (.ref 0)]⟩),
  (133, oN []),
  (136, oR "_NodeInfo.__init__" (stB 44 1)),
  (140, ⟨(.type "list"), none, .seq (Array.mk [vS "node" 396, vS "npredecessors" 397, vS "successors" 398]) 1, #[]⟩),
  (146, ⟨(.type "super"), none, .fields (Array.mk [.ref 142, .ref 142, .ref 142]), #[]⟩),
  (147, ⟨(.type "builtin_function_or_method"), none, .fields (Array.mk [.builtin "object.__init_subclass__", .ref 142]), #[]⟩),
  (149, ⟨(.type "builtin_function_or_method"), none, .fields (Array.mk [.builtin "type.__prepare__", .type "type"]), #[]⟩),
  (150, ⟨(.type "dict"), none, .dict (Array.mk [dE P "__module__" 428 (vS "cpy313.graphlib" 376), dE P "__qualname__" 430 (vS "CycleError" 429), dE P "__firstlineno__" 432 (.int 149 431), dE P "__static_attributes__" 433 (.ref 155)]) 4, #[]⟩),
  (151, oT []),
  (152, oN []),
  (153, oC [vS "CycleError" 423, vS "CycleError" 424, vS "/claim/cut.py" 425, .int 149 0, .int 0 0, .int 0 0, .int 0 0, .int 0 0, .ref 151, .bool false, .int 181 0, .ref 152, .none, .none, .none, .none, .int 426 0, .int 149 0, vS "/claim/cut.py" 427]),
  (154, ⟨(.type "frame"), none, .plain, Array.mk [some (.ref 153), some (.ref 3), some (.ref 150), none, some (vS "cpy313.graphlib" 376), none, some (.ref 0)]⟩),
  (159, ⟨(.type "super"), none, .fields (Array.mk [.ref 157, .ref 157, .ref 157]), #[]⟩),
  (160, ⟨(.type "builtin_function_or_method"), none, .fields (Array.mk [.builtin "object.__init_subclass__", .ref 157]), #[]⟩),
  (161, oT []),
  (162, ⟨(.type "builtin_function_or_method"), none, .fields (Array.mk [.builtin "type.__prepare__", .type "type"]), #[]⟩),
  (163, ⟨(.type "dict"), none, .dict (Array.mk [dE P "__module__" 446 (vS "cpy313.graphlib" 376), dE P "__qualname__" 448 (vS "TopologicalSorter" 447), dE P "__firstlineno__" 450 (.int 151 449), dE P "__init__" 460 (.ref 175), dE P "_get_nodeinfo" 469 (.ref 182), dE P "add" 481 (.ref 189), dE P "prepare" 487 (.ref 194), dE P "get_ready" 497 (.ref 201), dE P "is_active" 504 (.ref 208), dE P "__bool__" 511 (.ref 215), dE P "done" 525 (.ref 222), dE P "_find_cycle" 538 (.ref 229), dE P "static_order" 545 (.ref 236), dE P "__static_attributes__" 550 (.ref 237)]) 14, #[]⟩),
  (164, oT []),
  (165, oN [.int 153 0, .int 4 0, .ref 174, .int 162 0, .int 4 0, .ref 181, .int 167 0, .int 4 0, .ref 188, .int 176 0, .int 4 0, .ref 193, .int 184 0, .int 4 0, .ref 200, .int 195 0, .int 4 0, .ref 207, .int 200 0, .int 4 0, .ref 214, .int 203 0, .int 4 0, .ref 221, .int 226 0, .int 4 0, .ref 228, .int 255 0, .int 4 0, .ref 235]),
  (166, oC [vS "TopologicalSorter" 441, vS "TopologicalSorter" 442, vS "/claim/cut.py" 443, .int 151 0, .int 0 0, .int 0 0, .int 0 0, .int 0 0, .ref 164, .bool false, .int 181 0, .ref 165, .none, .none, .none, .none, .int 444 0, .int 151 0, vS "/claim/cut.py" 445]),
  (167, ⟨(.type "frame"), none, .plain, Array.mk [some (.ref 166), some (.ref 3), some (.ref 163), none, some (vS "cpy313.graphlib" 376), none, some (.ref 0)]⟩),
  (170, oN []),
  (173, oR "TopologicalSorter.__init__" (stB 46 0)),
  (177, oN []),
  (180, oR "TopologicalSorter._get_nodeinfo" (stB 46 1)),
  (184, oN []),
  (187, oR "TopologicalSorter.add" (stB 46 2)),
  (191, oN []),
  (192, oR "TopologicalSorter.prepare" (stB 46 3)),
  (196, oN []),
  (199, oR "TopologicalSorter.get_ready" (stB 46 4)),
  (203, oN []),
  (206, oR "TopologicalSorter.is_active" (stB 46 5)),
  (210, oN []),
  (213, oR "TopologicalSorter.__bool__" (stB 46 6)),
  (217, oN []),
  (220, oR "TopologicalSorter.done" (stB 46 7)),
  (224, oN []),
  (227, oR "TopologicalSorter._find_cycle" (stB 46 8)),
  (231, oN []),
  (234, oR "TopologicalSorter.static_order" (stB 46 9)),
  (242, ⟨(.type "super"), none, .fields (Array.mk [.ref 239, .ref 239, .ref 239]), #[]⟩),
  (243, ⟨(.type "builtin_function_or_method"), none, .fields (Array.mk [.builtin "object.__init_subclass__", .ref 239]), #[]⟩),
  (245, oN []),
  (248, oR "_law_cells" (stA 48)),
  (252, oN []),
  (255, oR "_law_files" (stA 49)),
  (259, oN []),
  (262, oR "_law_row" (stA 50)),
  (266, oN []),
  (267, oR "_law_walked" (stA 51)),
  (271, oN []),
  (274, oR "_law_told" (stA 52)),
  (278, oN []),
  (279, oR "_law_is_told" (stA 53)),
  (283, oN []),
  (284, oR "_law_shared" (stA 54)),
  (288, oN []),
  (291, oR "_law_without" (stA 55)),
  (295, oN []),
  (296, oR "_law_short" (stA 56)),
  (300, oN []),
  (301, oR "_law_is_short" (stA 57)),
  (305, oN []),
  (306, oR "_law_bags_are_told" (stA 58)),
  (310, oN []),
  (311, oR "_law_holds" (stA 59)),
  (315, oN []),
  (318, oR "law" (stA 60))]
noncomputable def mrg : Nat → Frag → Frag → List Obj
  | 0, _, _ => []
  | n + 1, a, b => match a with
    | [] => (match b with
      | [] => []
      | y :: b' => y.2 :: mrg n [] b')
    | x :: a' => (match b with
      | [] => x.2 :: mrg n a' []
      | y :: b' => (match Nat.blt x.1 y.1 with
        | true => x.2 :: mrg n a' (y :: b')
        | false => y.2 :: mrg n (x :: a') b'))
noncomputable def H9 (P : Params) : Heap := ⟨⟨mrg 400 (KP P) (RP P)⟩, {}⟩
noncomputable def as9 : List Addr := [2, 3, 15, 17, 18, 20, 21, 22, 24, 25, 27, 28, 29, 31, 32, 34, 35, 36, 38, 39, 41, 42, 43, 45, 46, 48, 49, 50, 53, 54, 55, 57, 58, 60, 61, 62, 63, 65, 66, 68, 69, 70, 72, 73, 75, 76, 77, 79, 80, 82, 83, 84, 85, 86, 87, 88, 89, 90, 91, 92, 93, 94, 95, 96, 97, 98, 99, 100, 101, 102, 103, 104, 105, 106, 107, 108, 109, 110, 111, 112, 113, 114, 115, 116, 117, 119, 120, 122, 123, 131, 132, 134, 135, 137, 138, 139, 141, 142, 143, 144, 145, 148, 155, 156, 157, 158, 168, 169, 171, 172, 174, 175, 176, 178, 179, 181, 182, 183, 185, 186, 188, 189, 190, 193, 194, 195, 197, 198, 200, 201, 202, 204, 205, 207, 208, 209, 211, 212, 214, 215, 216, 218, 219, 221, 222, 223, 225, 226, 228, 229, 230, 232, 233, 235, 236, 237, 238, 239, 240, 241, 244, 246, 247, 249, 250, 251, 253, 254, 256, 257, 258, 260, 261, 263, 264, 265, 268, 269, 270, 272, 273, 275, 276, 277, 280, 281, 282, 285, 286, 287, 289, 290, 292, 293, 294, 297, 298, 299, 302, 303, 304, 307, 308, 309, 312, 313, 314, 316, 317, 319, 320]
end
section
theorem run9 (w : World) (os : OsState) : topRun treeTable PySem.Challenge.pw_ny0359_01 w 11 (some (.ref 6)) 4526 ⟨boot_heap w.params, Array.mk [], boot_drawn, boot_toks, os⟩ (topStub PySem.Challenge.pw_ny0359_01) = some ⟨H9 w.params, Array.mk [], ⟨0, 0, 0, 0⟩, 666, os⟩ := by
  rw [PySem.W.Fast.te14082659384304107361, PySem.W.Fast.te14364793385576792824]
  kernel_rfl
noncomputable def keep9 : List Nat := [0, 2, 3, 4, 5, 6, 7, 8, 10, 11, 12, 13, 15, 17, 19, 20, 21, 22, 23, 24, 25, 26, 27, 28, 29, 30, 31, 32, 33, 34, 35, 36, 37, 38, 39, 40, 42, 43, 44, 45, 46, 48, 49, 50, 51, 52, 53, 54, 55, 56, 57, 58, 59, 60]
noncomputable def vw : Program := view PySem.Challenge.pw_ny0359_01 keep9
noncomputable def loose9 : List PySem.Str := [Str.ofString "_MIN_DIFF_LEN", Str.ofString "safe_repr", Str.ofString "_filemode_table", Str.ofString "_NodeInfo"]
theorem as9_eq (P : Params) : as9 = (KP P).map (·.1) := by kernel_rfl
noncomputable abbrev S9 (w : World) (os : OsState) : Shared := ⟨H9 w.params, Array.mk [], ⟨0, 0, 0, 0⟩, 666, os⟩
theorem look_a (w : World) (os : OsState) : (staticsOk (importedModules PySem.Challenge.pw_ny0359_01.main.body) (boot_heap w.params) (H9 w.params) && namesBound PySem.Challenge.pw_ny0359_01 (H9 w.params) && gensDone (S9 w os) && laidKept (boot_heap w.params) (H9 w.params)) = true := by
  rw [PySem.W.Fast.te5923862056798008813]
  kernel_rfl
theorem look_c (w : World) (os : OsState) : as9.map (H9 w.params).get? = (KP w.params).map fun p => some p.2 := by kernel_rfl
theorem size9 (w : World) : ((boot_heap w.params).isNs mainGlobals && (Array.mk [] : Array GenState).size == 0, (boot_heap w.params).objs.size, (boot_heap w.params).nsMap mainGlobals "__annotations__") = (true, 11, some (.ref 6)) := by kernel_rfl
theorem open9 (w : World) : (fencedOpening treeTable PySem.Challenge.pw_ny0359_01 w 4526).map (fun s => (s.heap, s.gens, s.drawn, s.toks)) = some (boot_heap w.params, Array.mk [], boot_drawn, boot_toks) :=
  boot_open (by kernel_rfl) rfl (fun s => by kernel_rfl) w
theorem look_b (w : World) (os : OsState) : openSeen vw loose9 (importedModules PySem.Challenge.pw_ny0359_01.main.body) (fun _ => true) true (S9 w os) = openGood vw loose9 := by
  rw [PySem.W.Fast.te4187177175401517315, PySem.W.Fast.te5923862056798008813]
  kernel_rfl
theorem said9 : PySem.Challenge.rw_ny0359_01.wellSaid = true := by
  rw [PySem.W.Fast.te9446332074065402090]
  kernel_rfl
theorem ok9 : (chainsOk vw && opensWell PySem.Challenge.pw_ny0359_01 && (frees PySem.Challenge.rw_ny0359_01.row.toRowW && PySem.Challenge.rw_ny0359_01.row.within.isEmpty)) = true := by kernel_rfl
theorem bare9 : PySem.Challenge.pw_ny0359_01.bare := ⟨rfl, rfl, rfl, rfl, rfl, by decide +kernel⟩
noncomputable abbrev hk9 : Hook := kHook KP as9 as9_eq
theorem left9 : LeftO PySem.Challenge.rw_ny0359_01.row.prog vw loose9 (fun _ => true) hk9.obs hk9.val 4526 :=
  LeftO.of_pieces (H₀ := boot_heap) (H₁ := H9) open9 size9 run9 rfl fun w => funext fun os => looks_pair (look_a w os) (looks_pair (look_b w os) (look_c w os))
end
section
def aN (k : Lean.Name) (xs : Array Lean.Syntax) : Lean.Syntax := .node .none k xs
def aS (xs : Array Lean.Syntax) : Lean.Syntax := aN ``Lean.Parser.Tactic.tacticSeq #[aN ``Lean.Parser.Tactic.tacticSeq1Indented #[aN `null xs]]
def aA (s : String) : Lean.Syntax := .atom .none s
def aR0 : Lean.Syntax := aN ``Lean.Parser.Tactic.tacticRfl #[aA "rfl"]
def aH : Lean.Syntax := aN ``Lean.Parser.Term.hole #[aA "_"]
def aR : Lean.Syntax := aS #[aR0]
def aD : Lean.Syntax := aS #[aN ``Lean.Parser.Tactic.decide #[aA "decide", aN ``Lean.Parser.Tactic.optConfig #[aN `null #[]]]]
def aI : Lean.Syntax := aS #[aN ``Lean.Parser.Tactic.intro #[aA "intro", aN `null #[aH]], aA ";", aR0]
def aU : Lean.Syntax := aS #[aN ``Lean.Parser.Tactic.withUnfoldingAll #[aA "with_unfolding_all", aR]]
def aE : Lean.Syntax := aS #[aN ``Lean.Parser.Tactic.exact #[aA "exact", aN ``Lean.Parser.Term.fun #[aA "fun", aN ``Lean.Parser.Term.basicFun #[aN `null #[aH, aH], aN `null #[], aA "=>",
  aN ``Lean.Parser.Term.anonymousCtor #[aA "⟨", aN `null #[aH, aA ",", .ident .none "rfl".toRawSubstring `rfl []], aA "⟩"]]]]]
theorem aside {A : Prop} (h : (A → False) → False) : A := Classical.byContradiction h
noncomputable abbrev PP : Program := PySem.Challenge.rw_ny0359_01.row.prog
noncomputable abbrev MM (w : World) : Model := model PP w
noncomputable abbrev KF (w : World) : Frag := KP w.params
noncomputable def datNames : List String := ["list", "tuple", "dict", "slice", "range"]
noncomputable def isDat (o : Obj) : Prop := ∃ nm ∈ datNames, o.cls = .type nm
noncomputable def Sub (h h' : Heap) : Prop := ∀ b o, h.get? b = some o → isDat o → h'.get? b = some o
theorem Sub.of {h h' : Heap} (k : h.StaysIn h') : Sub h h' := fun b o e _ => k b o e
theorem reads_sub {h h' : Heap} (k : Sub h h') {v : Value} {d : PyData} {as : List Addr} (r : Reads h v d as) : Reads h' v d as :=
  Reads.rec (motive_1 := fun v d as _ => Reads h' v d as) (motive_2 := fun vs ds as _ => ReadsAll h' vs ds as) .none .bool .int .str
    (fun h1 h2 h3 _ => .list (k _ _ h1 ⟨_, .head _, h2⟩) h2 h3) (fun h1 h2 h3 _ => .tuple (k _ _ h1 ⟨_, .tail _ (.head _), h2⟩) h2 h3)
    (fun h1 h2 h3 _ _ => .dict (k _ _ h1 ⟨_, .tail _ (.tail _ (.head _)), h2⟩) h2 h3) .nil (fun _ _ => .cons) r
theorem readsAll_ind {h : Heap} {P : List Value → List PyData → List Addr → Prop} (hn : P [] [] []) (hc : ∀ {v vs d ds as bs}, Reads h v d as → ReadsAll h vs ds bs → P vs ds bs → P (v :: vs) (d :: ds) (as ++ bs))
    {vs : List Value} {ds : List PyData} {as : List Addr} (r : ReadsAll h vs ds as) : P vs ds as :=
  ReadsAll.rec (motive_1 := fun _ _ _ _ => True) (motive_2 := fun vs ds as _ => P vs ds as) trivial (fun _ => trivial) (fun _ _ => trivial) (fun _ _ => trivial) (fun _ _ _ _ _ => trivial) (fun _ _ _ _ _ => trivial) (fun _ _ _ _ _ _ _ => trivial) hn (fun a b _ => hc a b) r
theorem readsAll_sub {h h' : Heap} (k : Sub h h') {vs : List Value} {ds : List PyData} {as : List Addr} (r : ReadsAll h vs ds as) : ReadsAll h' vs ds as :=
  readsAll_ind (P := ReadsAll h') .nil (fun a _ q => .cons (reads_sub k a) q) r
structure AV where
  p : Heap → Value → Prop
  mono : ∀ {h h' : Heap} {v : Value}, Sub h h' → p h v → p h' v
inductive V where
  | d (x : PyData)
  | raw (v : Value)
  | ab (x : AV)
noncomputable def RepV (h : Heap) : V → Value → Prop
  | .d x, v => ∃ as, Reads h v x as
  | .raw u, v => v = u
  | .ab x, v => x.p h v
theorem RepV.sub {h h' : Heap} {x : V} {v : Value} (r : RepV h x v) (k : Sub h h') : RepV h' x v := by
  cases x with
  | d x => obtain ⟨as, r⟩ := r; exact ⟨as, reads_sub k r⟩
  | raw u => exact r
  | ab x => exact x.mono k r
theorem RepV.keeps {h h' : Heap} {x : V} {v : Value} (r : RepV h x v) (k : h.StaysIn h') : RepV h' x v := r.sub (.of k)
structure O where
  p : Heap → Obj → Prop
  mono : ∀ {h h' : Heap} {o : Obj}, Sub h h' → p h o → p h' o
noncomputable abbrev Loc := List (Str × V)
noncomputable abbrev Led := List (Addr × O)
structure Cx where
  w : World
  A : Around
  fenv : Env
  env : Env
  g : Heap
  base : Heap
  outer : List Env
  priv : List Addr
  os : OsState
  fz : List (Addr × (Obj → Prop))
  gs : Array GenState → Drawn → Prop
noncomputable def frs (Γ : Cx) : List Addr := Γ.outer.filterMap (·.frame)
noncomputable def upTo (o : Obj) : Obj → Prop := fun o' => ∃ x, o' = { o with slots := x }
noncomputable def exOf (Γ : Cx) (led : Led) : List Addr := Γ.priv ++ led.map (·.1)
noncomputable def vis (Γ : Cx) (led : Led) (s : Shared) : Heap := hideAll s.heap (exOf Γ led)
noncomputable def nmOf (Γ : Cx) (m cm : Str → Option Value) (x : Str) : Option Value := match Γ.env.kindOf x with
  | some .local => m x
  | some .cell => (Γ.env.cells.lookup x).bind fun _ => cm x
  | some .free => (Γ.env.cells.lookup x).bind fun _ => cm x
  | _ => none
structure Ok (n : Nat) (Γ : Cx) : Prop where
  bs : Γ.base.StaysIn Γ.g
  X : (KF Γ.w).In Γ.g
  T : ∃ p loose mg mb, TopRead p loose mg mb Γ.g
  bm : ∃ ob, Γ.g.get? 4 = some ob ∧ ob.cls = .type "module" ∧ ob.dict = some builtinsNs ∧ ob.data = .plain
  hA : 100 ≤ n → Γ.A.frames = some (Γ.fenv :: Γ.outer)
  hf : Γ.fenv.frame = some Γ.fenv.locals
  hk : Γ.fenv.scope.kind = .function
  ek : Γ.env.scope.kind = .function
  eg : Γ.env.globals = mainGlobals
  eb : Γ.env.builtins = builtinsNs
  hh : Γ.A.handled = none
  gu : 100 ≤ n → Γ.A.guards = some []
  gb : 100 ≤ n → Γ.gs = fun g _ => AllBare g
  un : Γ.A.units + 4 * n ≤ 1000
  dp : Γ.A.depth + n ≤ 900
  pl : Γ.env.locals ∈ Γ.priv
  pf : Γ.fenv.locals ∈ Γ.priv
  lg : Γ.g.get? Γ.env.locals = none
  ce : ∀ x a, Γ.env.cells.lookup x = some a → a ∈ Γ.priv ∧ Γ.g.get? a = none ∧ a ≠ Γ.env.locals ∧ a ≠ Γ.fenv.locals ∧ a ∉ frs Γ
  ci : ∀ x y a, Γ.env.cells.lookup x = some a → Γ.env.cells.lookup y = some a → x = y
  fl : ∀ p ∈ Γ.fz, p.1 ∈ Γ.priv ∧ p.1 ≠ Γ.env.locals
  fe : Γ.env.locals = Γ.fenv.locals → ∀ p ∈ Γ.fz, ∀ x a, Γ.env.cells.lookup x = some a → p.1 ≠ a
  fo : ∀ e ∈ Γ.outer, e.scope.kind ≠ .module ∧ ∃ L P, e.frame = some L ∧ Γ.base.get? L = none ∧ Γ.g.get? L = none ∧ L ≠ Γ.env.locals ∧ L ≠ Γ.fenv.locals ∧ (L, P) ∈ Γ.fz ∧ ∀ o, P o → ∃ es k, o.data = .dict es k
  fc : 100 ≤ n → ∀ p ∈ Γ.fz, p.1 = Γ.fenv.locals ∨ p.1 ∈ frs Γ → ∀ o x, p.2 o → p.2 { o with slots := x }
  kb : (KF Γ.w).In Γ.base
  kp : ∀ a ∈ Γ.priv, Γ.base.get? a = none
structure St (Γ : Cx) (loc : Loc) (led : Led) (s : Shared) : Prop where
  fr : ∃ m, Fr Γ.g Γ.fenv.locals s.heap m
  nm : ∃ m cm, s.heap.Ns Γ.env.locals m ∧ (∀ x a, Γ.env.cells.lookup x = some a → ∃ o, s.heap.get? a = some o ∧ o.data = .cell (cm x)) ∧
    ∀ x v, loc.lookup x = some v → ∃ v', nmOf Γ m cm x = some v' ∧ RepV (vis Γ led s) v v'
  ld : ∀ p ∈ led, p.1 ∉ Γ.priv ∧ Γ.g.get? p.1 = none ∧ ∃ o, s.heap.get? p.1 = some o ∧ p.2.p (vis Γ led s) o
  nd : (led.map (·.1)).Nodup
  pv : ∀ a ∈ Γ.priv, ∃ o, s.heap.get? a = some o
  os : s.os = Γ.os
  gn : Γ.gs s.gens s.drawn
  fz : ∀ p ∈ Γ.fz, ∃ o, s.heap.get? p.1 = some o ∧ p.2 o
noncomputable def Le (Γ : Cx) (led : Led) (s : Shared) (led' : Led) (s' : Shared) : Prop := (vis Γ led s).StaysIn (vis Γ led' s')
theorem Le.rfl {Γ : Cx} {led : Led} {s : Shared} : Le Γ led s led s := fun _ _ e => e
theorem Le.trans {Γ : Cx} {l1 l2 l3 : Led} {s1 s2 s3 : Shared} (a : Le Γ l1 s1 l2 s2) (b : Le Γ l2 s2 l3 s3) : Le Γ l1 s1 l3 s3 := fun x o e => b x o (a x o e)
noncomputable def Tr {α : Type} (Γ : Cx) (loc : Loc) (led : Led) (t : Sem α) (R : Heap → α → Prop) (loc' : Loc) (led' : Led) (s : Shared) : Prop :=
  ∀ (Q : α → Shared → Prop) (E : Value → Shared → Prop), St Γ loc led s → (∀ a s', St Γ loc' led' s' → Le Γ led s led' s' → R (vis Γ led' s') a → Q a s') → wpAny (MM Γ.w) Γ.A t Q E s
noncomputable def Ev (Γ : Cx) (loc : Loc) (led : Led) (e : Expr) (v : V) (loc' : Loc) (led' : Led) : Prop :=
  ∀ s, Tr Γ loc led (eval e Γ.env) (fun h v' => RepV h v v') loc' led' s
noncomputable abbrev Ep (Γ : Cx) (loc : Loc) (led : Led) (e : Expr) (v : V) : Prop := Ev Γ loc led e v loc led
theorem hideAll_iff {h : Heap} {l : List Addr} {b : Addr} {o : Obj} : (hideAll h l).get? b = some o ↔ h.get? b = some o ∧ b ∉ l :=
  ⟨fun e => ⟨of_hideAll l e, fun hb => by rw [hideAll_none l hb] at e; cases e⟩, fun ⟨e, hb⟩ => hideAll_get l e hb⟩
theorem vis_iff {Γ : Cx} {led : Led} {s : Shared} {b : Addr} {o : Obj} : (vis Γ led s).get? b = some o ↔ s.heap.get? b = some o ∧ b ∉ exOf Γ led := hideAll_iff
theorem vget {Γ : Cx} {led : Led} {s : Shared} {b : Addr} {o : Obj} (e : (vis Γ led s).get? b = some o) : s.heap.get? b = some o := (vis_iff.mp e).1
theorem vout {Γ : Cx} {led : Led} {s : Shared} {b : Addr} {o : Obj} (e : (vis Γ led s).get? b = some o) : b ∉ exOf Γ led := (vis_iff.mp e).2
theorem vmk {Γ : Cx} {led : Led} {s : Shared} {b : Addr} {o : Obj} (e : s.heap.get? b = some o) (x : b ∉ exOf Γ led) : (vis Γ led s).get? b = some o := vis_iff.mpr ⟨e, x⟩
section
variable {n : Nat} {Γ : Cx} {loc loc' : Loc} {led led' : Led} {s : Shared}
theorem St.toks (S : St Γ loc led s) (t : Nat) : St Γ loc led { s with toks := t } := ⟨S.fr, S.nm, S.ld, S.nd, S.pv, S.os, S.gn, S.fz⟩
theorem St.grow (S : St Γ loc led s) {h' : Heap} {t : Nat} (k : ∀ b o, s.heap.get? b = some o → h'.get? b = some o) :
    St Γ loc led { s with heap := h', toks := t } ∧ Le Γ led s led { s with heap := h', toks := t } := by
  have le : Le Γ led s led { s with heap := h', toks := t } := fun b o e => vmk (k b o (vget e)) ((vout e))
  refine ⟨⟨let ⟨m, F⟩ := S.fr; ⟨m, F.keeps k⟩, ?_, fun p hp => ?_, S.nd, fun a ha => let ⟨o, e⟩ := S.pv a ha; ⟨o, k a o e⟩, S.os, S.gn, fun p hp => let ⟨o, e, r⟩ := S.fz p hp; ⟨o, k _ _ e, r⟩⟩, le⟩
  · refine aside fun zk => ?_
    obtain ⟨m, cm, h1, h2, h3⟩ := S.nm
    apply zk
    refine ⟨m, cm, h1.keeps k, fun x a e => let ⟨o, ho, r⟩ := h2 x a e; ⟨o, k _ _ ho, r⟩, fun x v e => let ⟨v', e', r⟩ := h3 x v e; ⟨v', e', r.keeps le⟩⟩
  · refine aside fun zk => ?_
    obtain ⟨h1, h2, o, h3, h4⟩ := S.ld p hp
    apply zk
    exact ⟨h1, h2, o, k _ _ h3, p.2.mono (.of le) h4⟩
theorem St.ex_lt (S : St Γ loc led s) : ∀ a ∈ exOf Γ led, a < s.heap.objs.size := fun a ha => by
  rcases List.mem_append.mp ha with h | h
  · obtain ⟨o, e⟩ := S.pv a h; exact Heap.lt_size e
  · refine aside fun zk => ?_
    obtain ⟨p, hp, rfl⟩ := List.mem_map.mp h
    obtain ⟨_, _, o, ho, _⟩ := S.ld p hp
    apply zk
    exact Heap.lt_size ho
theorem St.iter (S : St Γ loc led s) {I : Addr} {oI : Obj} {h' : Heap} {t : Nat} (hI : I ∉ exOf Γ led) (hg : Γ.g.get? I = Option.none) (eI : s.heap.get? I = some oI) (nI : ¬ isDat oI) (k : ∀ b o, b ≠ I → s.heap.get? b = some o → h'.get? b = some o)
    (iL : I ≠ Γ.env.locals) (iF : I ≠ Γ.fenv.locals) (iC : ∀ x a, Γ.env.cells.lookup x = some a → a ≠ I) (iZ : ∀ p ∈ Γ.fz, p.1 ≠ I) : St Γ loc led { s with heap := h', toks := t } ∧ Sub (vis Γ led s) (vis Γ led { s with heap := h', toks := t }) := by
  have sb : Sub (vis Γ led s) (vis Γ led { s with heap := h', toks := t }) := fun b o e hd => by
    have e1 := vget (e)
    have e2 := vout (e)
    refine vmk (k b o (fun q => ?_) e1) e2
    subst q; rw [eI] at e1; cases e1; exact nI hd
  refine ⟨⟨let ⟨m, F⟩ := S.fr; ⟨m, ?_, fun b o e => k b o (fun q => by rw [q, hg] at e; cases e) (F.keep b o e), F.above⟩, ?_, fun p hp => ?_, S.nd, fun a ha => ?_, S.os, S.gn, fun p hp => let ⟨o, e, r⟩ := S.fz p hp; ⟨o, k _ _ (iZ p hp) e, r⟩⟩, sb⟩
  · exact F.ns.at' fun o e => k _ o (Ne.symm iF) e
  · refine aside fun zk => ?_
    obtain ⟨m, cm, h1, h2, h3⟩ := S.nm
    apply zk
    refine ⟨m, cm, h1.at' fun o e => k _ o (Ne.symm iL) e, fun x a e => let ⟨o, ho, r⟩ := h2 x a e; ⟨o, k _ _ (iC x a e) ho, r⟩, fun x v e => let ⟨v', e', r⟩ := h3 x v e; ⟨v', e', r.sub sb⟩⟩
  · refine aside fun zk => ?_
    obtain ⟨h1, h2, o, h3, h4⟩ := S.ld p hp
    apply zk
    exact ⟨h1, h2, o, k _ _ (fun q => hI (List.mem_append_right _ (q ▸ List.mem_map_of_mem hp))) h3, p.2.mono sb h4⟩
  · obtain ⟨o, e⟩ := S.pv a ha
    exact ⟨o, k a o (fun q => hI (List.mem_append_left _ (q ▸ ha))) e⟩
theorem St.push (S : St Γ loc led s) {o : Obj} (hf : o.isFreed = false) {t : Nat} :
    St Γ loc led { s with heap := s.heap.push o, toks := t } ∧ Le Γ led s led { s with heap := s.heap.push o, toks := t } ∧ (vis Γ led { s with heap := s.heap.push o, toks := t }).get? s.heap.objs.size = some o := by
  obtain ⟨a, b⟩ := S.grow (h' := s.heap.push o) (t := t) (fun b o' e => Heap.get?_push_of_some _ e)
  exact ⟨a, b, vmk (Heap.get?_push_size _ hf) (fun h => Nat.lt_irrefl _ (S.ex_lt _ h))⟩
theorem Ev.int {i : Int} {k : Nat} {pos : Pos} : Ep Γ loc led (.Constant (.int i) k pos) (.d (.int i)) := fun s Q E S h =>
  wpAny_Constant_int (h _ _ (S.toks _) Le.rfl ⟨[], .int _ _⟩)
theorem Ev.str {x : Str} {k : Nat} {pos : Pos} : Ep Γ loc led (.Constant (.str x) k pos) (.d (.str x)) := fun s Q E S h =>
  wpAny_Constant_str (h _ _ (S.toks _) Le.rfl ⟨[], .str _ _⟩)
theorem Ev.bool {b : Bool} {k : Nat} {pos : Pos} : Ep Γ loc led (.Constant (.bool b) k pos) (.d (.bool b)) := fun s Q E S h =>
  wpAny_Constant_bool (h _ _ S Le.rfl ⟨[], .bool _⟩)
theorem Ev.none {k : Nat} {pos : Pos} : Ep Γ loc led (.Constant .none k pos) (.d .none) := fun s Q E S h =>
  wpAny_Constant_none (h _ _ S Le.rfl ⟨[], .none⟩)
theorem Ev.name (O : Ok n Γ) {x : Str} {pos : Pos} {v : V} (hv : loc.lookup x = some v) (hd : autoParam ((x == ("__debug__" : Str)) = false) aD) (hc : autoParam ((x == ("__classdict__" : Str)) = false) aD) :
    Ep Γ loc led (.Name x pos) v := fun s Q E S h => by
  refine aside fun zk => ?_
  obtain ⟨m, cm, hm, hcm, hl⟩ := S.nm
  obtain ⟨v', e, r⟩ := hl x v hv
  apply zk
  have k := h v' s S Le.rfl r
  unfold nmOf at e
  refine wpAny_Name ?_ hd
  split at e
  · rename_i hk; exact wpAny_loadName_local O.ek hk hm e k
  · rename_i hk
    obtain ⟨a, hcl, e⟩ := Option.bind_eq_some_iff.mp e
    obtain ⟨o, ho, hod⟩ := hcm x a hcl; exact wpAny_loadName_cell O.ek hk hcl ⟨o, ho, by rw [hod, e]⟩ k
  · rename_i hk
    obtain ⟨a, hcl, e⟩ := Option.bind_eq_some_iff.mp e
    obtain ⟨o, ho, hod⟩ := hcm x a hcl; exact wpAny_loadName_free O.ek hk hcl ⟨o, ho, by rw [hod, e]⟩ k hc
  · cases e
theorem Ev.glob (O : Ok n Γ) {x : Str} {pos : Pos} {v : Value} (hx : Γ.env.kindOf x = some .globalImplicit) (e : nsIn (KF Γ.w) mainGlobals x = some (some v))
    (hd : autoParam ((x == ("__debug__" : Str)) = false) aD) : Ep Γ loc led (.Name x pos) (.raw v) := fun s Q E S h => by
  obtain ⟨m, F⟩ := S.fr
  obtain ⟨_, _, mg, _, T⟩ := O.T
  exact Name_function_global O.ek hx (loadGlobal_global (by rw [O.eg]; exact T.g.keeps F.keep) (mg_of O.X T.g e) (h _ _ S Le.rfl rfl)) hd
theorem Ev.globInt (O : Ok n Γ) {x : Str} {pos : Pos} {i : Int} {t : Tok} (hx : Γ.env.kindOf x = some .globalImplicit) (e : nsIn (KF Γ.w) mainGlobals x = some (some (.int i t)))
    (hd : autoParam ((x == ("__debug__" : Str)) = false) aD) : Ep Γ loc led (.Name x pos) (.d (.int i)) := fun s Q E S h =>
  Ev.glob O hx e hd s Q E S fun v' s' S' le r => h v' s' S' le (by cases r; exact ⟨[], .int _ _⟩)
theorem Ev.blt (O : Ok n Γ) {x : Str} {pos : Pos} {v : Value} (hx : Γ.env.kindOf x = some .globalImplicit) (e : nsIn (KF Γ.w) mainGlobals x = some Option.none) (hv : bootBuiltins x = some v) (hn : autoParam (x ≠ "__name__") aD)
    (hd : autoParam ((x == ("__debug__" : Str)) = false) aD) : Ep Γ loc led (.Name x pos) (.raw v) := fun s Q E S h => by
  obtain ⟨m, F⟩ := S.fr
  obtain ⟨_, _, mg, mb, T⟩ := O.T
  exact Name_function_global O.ek hx (loadGlobal_builtin (by rw [O.eg]; exact T.g.keeps F.keep) (mg_none_of O.X T.g e) (by rw [O.eb]; exact T.b.keeps F.keep) ((T.builtins x hn).trans hv) (h _ _ S Le.rfl rfl)) hd
theorem St.setAt (O : Ok n Γ) (S : St Γ loc led s) {a : Addr} {h' : Heap} {t : Nat} (ha : a ∈ Γ.priv) (hg : Γ.g.get? a = Option.none) (hs : Heap.SameBut a s.heap h') {oa : Obj} (hoa : h'.get? a = some oa) :
    Le Γ led s led { s with heap := h', toks := t } ∧ (∀ p ∈ led, p.1 ∉ Γ.priv ∧ Γ.g.get? p.1 = Option.none ∧ ∃ o, h'.get? p.1 = some o ∧ p.2.p (vis Γ led { s with heap := h', toks := t }) o) ∧
    (∀ b ∈ Γ.priv, ∃ o, h'.get? b = some o) := by
  have le : Le Γ led s led { s with heap := h', toks := t } := fun b o e => by
    have e1 := vget (e)
    have e2 := vout (e)
    exact vmk ((hs.2 b fun q => e2 (List.mem_append_left _ (q ▸ ha))).trans e1) e2
  refine ⟨le, fun p hp => ?_, fun b hb => by
    by_cases q : b = a
    · exact ⟨oa, q ▸ hoa⟩
    · obtain ⟨o, e⟩ := S.pv b hb; exact ⟨o, (hs.2 b q).trans e⟩⟩
  refine aside fun zk => ?_
  obtain ⟨h1, h2, o, h3, h4⟩ := S.ld p hp
  apply zk
  exact ⟨h1, h2, o, (hs.2 p.1 fun q => h1 (by rw [q]; exact ha)).trans h3, p.2.mono (.of le) h4⟩
noncomputable def put (loc : Loc) (x : Str) (v : V) : Loc := match loc with
  | [] => [(x, v)]
  | (y, u) :: r => if y == x then (x, v) :: r else (y, u) :: put r x v
theorem put_lookup (x : Str) (v : V) : ∀ (loc : Loc) (y : Str), (put loc x v).lookup y = if y = x then some v else loc.lookup y
  | [], y => by
    unfold put
    by_cases h : y = x
    · subst h; simp
    · have hb : (y == x) = false := beq_eq_false_iff_ne.mpr h
      simp only [List.lookup_cons, hb, if_neg h, List.lookup_nil]
  | (z, u) :: r, y => by
    unfold put
    by_cases hz : z = x
    · subst hz
      by_cases h : y = z
      · subst h; simp
      · have hb : (y == z) = false := beq_eq_false_iff_ne.mpr h
        simp only [beq_self_eq_true, if_true, List.lookup_cons, hb, if_neg h]
    · simp only [beq_iff_eq, hz, if_false]
      have ih := put_lookup x v r y
      by_cases h : y = z
      · subst h; simp [hz]
      · have hb : (y == z) = false := beq_eq_false_iff_ne.mpr h
        simp only [List.lookup_cons, hb, ih]
theorem store (O : Ok n Γ) {x : Str} {v : V} {v' : Value} (hx : Γ.env.kindOf x = some .local ∨ (Γ.env.kindOf x = some .cell ∧ (Γ.env.cells.lookup x).isSome = true)) (he : Γ.env.locals = Γ.fenv.locals ∨ Γ.env.kindOf x = some .local)
    {A : Around} {Q : Unit → Shared → Prop} {E : Value → Shared → Prop} (S : St Γ loc led s) (r : RepV (vis Γ led s) v v') (h : ∀ s', St Γ (put loc x v) led s' → Le Γ led s led s' → Q () s') : wpAny (MM Γ.w) A (storeName Γ.env x v') Q E s := by
  obtain ⟨m, cm, hm, hcm, hl⟩ := S.nm
  obtain ⟨mf, F⟩ := S.fr
  rcases hx with hx | ⟨hx, hc⟩
  · refine wpAny_storeName_local hx hm (fun h' hn hs => ?_) (by rw [O.ek]; rfl)
    refine aside fun zk => ?_
    obtain ⟨oL, _, _, hoL, _⟩ := id hn
    obtain ⟨le, l1, l2⟩ := S.setAt O (t := s.toks + 1) O.pl O.lg hs hoL
    apply zk
    refine h _ ⟨?_, ⟨_, cm, hn, fun y a e => ?_, fun y u e => ?_⟩, l1, S.nd, l2, S.os, S.gn, fun p hp => let ⟨o, e, r⟩ := S.fz p hp; ⟨o, (hs.2 _ (O.fl p hp).2).trans e, r⟩⟩ le
    · by_cases q : Γ.env.locals = Γ.fenv.locals
      · exact ⟨_, F.set (q ▸ hn) (q ▸ hs)⟩
      · exact ⟨mf, F.ns.sameBut hs (Ne.symm q), fun b o e => (hs.2 b fun q' => by rw [q', O.lg] at e; cases e).trans (F.keep b o e), F.above⟩
    · obtain ⟨o, ho, r⟩ := hcm y a e
      exact ⟨o, (hs.2 a (O.ce y a e).2.2.1).trans ho, r⟩
    · rw [put_lookup] at e
      by_cases q : y = x
      · subst q
        rw [if_pos rfl] at e
        cases e
        refine ⟨v', ?_, r.keeps le⟩
        unfold nmOf; rw [hx]; simp
      · rw [if_neg q] at e
        obtain ⟨u', e', ru⟩ := hl y u e
        refine ⟨u', ?_, ru.keeps le⟩
        unfold nmOf at e' ⊢
        split at e' <;> simp_all
  · obtain ⟨a, ha⟩ := Option.isSome_iff_exists.mp hc
    obtain ⟨o, ho, hod⟩ := hcm x a ha
    obtain ⟨c1, c2, c3, c4, _⟩ := O.ce x a ha
    refine wpAny_storeName_cell O.ek hx ha ⟨o, ho, hod⟩ fun h' hcell hs => ?_
    obtain ⟨oc, hoc, _⟩ := id hcell
    obtain ⟨le, l1, l2⟩ := S.setAt O (t := s.toks) c1 c2 hs hoc
    refine h _ ⟨⟨mf, F.ns.sameBut hs (Ne.symm c4), fun b o e => (hs.2 b fun q' => by rw [q', c2] at e; cases e).trans (F.keep b o e), F.above⟩, ⟨m, fun y => if y = x then some v' else cm y, hm.sameBut hs (Ne.symm c3), fun y b e => ?_, fun y u e => ?_⟩, l1, S.nd, l2, S.os, S.gn, ?_⟩ le
    rotate_right
    · rcases he with he | he
      · exact fun p hp => let ⟨o, e, r⟩ := S.fz p hp; ⟨o, (hs.2 _ (O.fe he p hp x a ha)).trans e, r⟩
      · rw [hx] at he; cases he
    · by_cases q : y = x
      · subst q
        rw [ha] at e; cases e
        obtain ⟨o', ho', hd'⟩ := hcell
        exact ⟨o', ho', by rw [hd']; simp⟩
      · obtain ⟨o', ho', hd'⟩ := hcm y b e
        refine ⟨o', (hs.2 b fun z => q ?_).trans ho', by rw [hd']; simp [q]⟩
        subst z
        exact O.ci y x b e ha
    · rw [put_lookup] at e
      by_cases q : y = x
      · subst q
        rw [if_pos rfl] at e
        cases e
        refine ⟨v', ?_, r.keeps le⟩
        unfold nmOf; rw [hx, ha]; simp
      · rw [if_neg q] at e
        obtain ⟨u', e', ru⟩ := hl y u e
        refine ⟨u', ?_, ru.keeps le⟩
        unfold nmOf at e' ⊢
        split at e' <;> simp_all
end
end
section
theorem Ok.room {n : Nat} {Γ : Cx} (O : Ok n Γ) {k : Nat} (h : 1000 + k < cLine) : Γ.A.units + k < cLine := by have := O.un; lia
noncomputable def Op2 (f : Value → Value → Sem Value) (x y v : V) : Prop :=
  ∀ (n : Nat) (Γ : Cx) (loc : Loc) (led : Led) (s : Shared) (a b : Value) (Q : Value → Shared → Prop) (E : Value → Shared → Prop), Ok n Γ → St Γ loc led s → RepV (vis Γ led s) x a → RepV (vis Γ led s) y b →
    (∀ v' s', St Γ loc led s' → Le Γ led s led s' → RepV (vis Γ led s') v v' → Q v' s') → wpAny (MM Γ.w) Γ.A (f a b) Q E s
noncomputable def Op1 {α : Type} (f : Value → Sem α) (x : V) (R : Heap → α → Prop) : Prop :=
  ∀ (n : Nat) (Γ : Cx) (loc : Loc) (led : Led) (s : Shared) (a : Value) (Q : α → Shared → Prop) (E : Value → Shared → Prop), Ok n Γ → St Γ loc led s → RepV (vis Γ led s) x a →
    (∀ v' s', St Γ loc led s' → Le Γ led s led s' → R (vis Γ led s') v' → Q v' s') → wpAny (MM Γ.w) Γ.A (f a) Q E s
theorem rep_int {h : Heap} {i : Int} {v : Value} (r : RepV h (.d (.int i)) v) : ∃ t, v = .int i t := by
  obtain ⟨as, r⟩ := r; cases r; exact ⟨_, rfl⟩
theorem rep_str {h : Heap} {x : Str} {v : Value} (r : RepV h (.d (.str x)) v) : ∃ t, v = .str x t := by
  obtain ⟨as, r⟩ := r; cases r; exact ⟨_, rfl⟩
theorem rep_bool {h : Heap} {b : Bool} {v : Value} (r : RepV h (.d (.bool b)) v) : v = .bool b := by
  obtain ⟨as, r⟩ := r; cases r; rfl
theorem rep_none {h : Heap} {v : Value} (r : RepV h (.d .none) v) : v = .none := by
  obtain ⟨as, r⟩ := r; cases r; rfl
theorem rep_list {h : Heap} {xs : List PyData} {v : Value} (r : RepV h (.d (.list xs)) v) : ∃ a o vs n as, v = .ref a ∧ h.get? a = some o ∧ o.cls = .type "list" ∧ o.data = .seq vs n ∧ ReadsAll h vs.toList xs as := by
  obtain ⟨as, r⟩ := r; cases r with
  | list h1 h2 h3 h4 => exact ⟨_, _, _, _, _, rfl, h1, h2, h3, h4⟩
theorem rep_tuple {h : Heap} {xs : List PyData} {v : Value} (r : RepV h (.d (.tuple xs)) v) : ∃ a o vs n as, v = .ref a ∧ h.get? a = some o ∧ o.cls = .type "tuple" ∧ o.data = .seq vs n ∧ ReadsAll h vs.toList xs as := by
  obtain ⟨as, r⟩ := r; cases r with
  | tuple h1 h2 h3 h4 => exact ⟨_, _, _, _, _, rfl, h1, h2, h3, h4⟩
theorem of_int {h : Heap} {i : Int} {t : Tok} : RepV h (.d (.int i)) (.int i t) := ⟨[], .int _ _⟩
theorem of_str {h : Heap} {i : Str} {t : Tok} : RepV h (.d (.str i)) (.str i t) := ⟨[], .str _ _⟩
theorem of_bool {h : Heap} {b : Bool} : RepV h (.d (.bool b)) (.bool b) := ⟨[], .bool _⟩
theorem of_none {h : Heap} : RepV h (.d .none) .none := ⟨[], .none⟩
theorem readsAll_length {h : Heap} {vs : List Value} {ds : List PyData} {as : List Addr} (r : ReadsAll h vs ds as) : vs.length = ds.length :=
  readsAll_ind (P := fun vs ds _ => vs.length = ds.length) rfl (fun _ _ q => congrArg Nat.succ q) r
theorem readsAll_get {h : Heap} {vs : List Value} {ds : List PyData} {as : List Addr} (r : ReadsAll h vs ds as) : ∀ {i : Nat} {d : PyData}, ds[i]? = some d → ∃ v bs, vs[i]? = some v ∧ Reads h v d bs :=
  readsAll_ind (P := fun vs ds _ => ∀ {i : Nat} {d : PyData}, ds[i]? = some d → ∃ v bs, vs[i]? = some v ∧ Reads h v d bs) (fun e => nomatch e)
    (fun {v vs d ds as bs} a _ q i x e => Nat.rec (motive := fun i => (d :: ds)[i]? = some x → ∃ w bs, (v :: vs)[i]? = some w ∧ Reads h w x bs) (fun e => ⟨v, as, rfl, Option.some.inj e ▸ a⟩) (fun _ _ e => q e) i e) r
theorem readsAll_app {h : Heap} {vs ws : List Value} {ds es : List PyData} {as bs : List Addr} (r : ReadsAll h vs ds as) (r' : ReadsAll h ws es bs) : ∃ cs, ReadsAll h (vs ++ ws) (ds ++ es) cs :=
  readsAll_ind (P := fun vs ds _ => ∃ cs, ReadsAll h (vs ++ ws) (ds ++ es) cs) ⟨_, r'⟩ (fun a _ q => q.elim fun _ q => ⟨_, .cons a q⟩) r
theorem readsAll_of {h : Heap} {vs : List Value} {ds : List PyData} (e : vs.length = ds.length) (r : ∀ (i : Nat) v d, vs[i]? = some v → ds[i]? = some d → ∃ as, Reads h v d as) : ∃ as, ReadsAll h vs ds as := by
  induction vs generalizing ds with
  | nil => cases ds with
    | nil => exact ⟨_, .nil⟩
    | cons => cases e
  | cons v vs ih => cases ds with
    | nil => cases e
    | cons d ds => exact (r 0 v d rfl rfl).elim fun _ r0 => (ih (Nat.succ.inj e) fun i => r (i + 1)).elim fun _ r1 => ⟨_, .cons r0 r1⟩
section
variable {n : Nat} {Γ : Cx} {loc loc' loc1 loc2 : Loc} {led led' led1 led2 : Led} {s : Shared}
theorem St.visSub {b : Addr} {o : Obj} (e : (vis Γ led s).get? b = some o) : s.heap.get? b = some o := (vget e)
theorem isList_of {xs : Array Value} {a : Addr} {o : Obj} {k : Nat} (e : (vis Γ led s).get? a = some o) (h2 : o.cls = .type "list") (h3 : o.data = .seq xs k) : s.heap.IsList a xs := ⟨o, (vget e), h2, k, h3⟩
theorem isTuple_of {xs : Array Value} {a : Addr} {o : Obj} {k : Nat} (e : (vis Γ led s).get? a = some o) (h2 : o.cls = .type "tuple") (h3 : o.data = .seq xs k) : s.heap.IsTuple a xs := ⟨o, (vget e), h2, k, h3⟩
theorem Ev.bin (O : Ok n Γ) {l r : Expr} {op : Operator} {pos : Pos} {x y v : V} (hl : Ev Γ loc led l x loc1 led1) (hr : Ev Γ loc1 led1 r y loc2 led2) (ho : Op2 (binaryOp op) x y v) : Ev Γ loc led (.BinOp l op r pos) v loc2 led2 := fun s Q E S h =>
  wpAny_BinOp (hl s _ E S fun a s1 S1 le1 ra => hr s1 _ E S1 fun b s2 S2 le2 rb => ho n Γ loc2 led2 s2 a b Q E O S2 (ra.keeps le2) rb fun v' s3 S3 le3 rv => h v' s3 S3 (le1.trans (le2.trans le3)) rv)
theorem Ev.cmp (O : Ok n Γ) {l r : Expr} {op : CmpOp} {pos : Pos} {x y v : V} (hl : Ev Γ loc led l x loc1 led1) (hr : Ev Γ loc1 led1 r y loc2 led2) (ho : Op2 (compareOp op) x y v) (hm : autoParam (behindInMarks op r = false) aU) :
    Ev Γ loc led (.Compare l [op] [r] pos) v loc2 led2 := fun s Q E S h =>
  wpAny_Compare1 (hl s _ E S fun a s1 S1 le1 ra => hr s1 _ E S1 fun b s2 S2 le2 rb => ho n Γ loc2 led2 s2 a b Q E O S2 (ra.keeps le2) rb fun v' s3 S3 le3 rv => h v' s3 S3 (le1.trans (le2.trans le3)) rv) hm
theorem Ev.neg (O : Ok n Γ) {e : Expr} {pos : Pos} {i : Int} (hl : Ev Γ loc led e (.d (.int i)) loc1 led1) : Ev Γ loc led (.UnaryOp .USub e pos) (.d (.int (-i))) loc1 led1 := fun s Q E S h =>
  wpAny_UnaryOp (hl s _ E S fun a s1 S1 le1 ra => by obtain ⟨t, rfl⟩ := rep_int ra; exact P.neg_int (h _ _ (S1.toks _) le1 of_int))
noncomputable def Bt (Γ : Cx) (loc : Loc) (led : Led) (e : Expr) (b : Bool) (loc' : Loc) (led' : Led) : Prop := ∀ s, Tr Γ loc led (isTrue e Γ.env (eval e Γ.env)) (fun _ c => c = b) loc' led' s
noncomputable abbrev Tru (x : V) (b : Bool) : Prop := Op1 truthy x (fun _ c => c = b)
theorem Bt.of (O : Ok n Γ) {e : Expr} {x : V} {b : Bool} (he : Ev Γ loc led e x loc1 led1) (ht : Tru x b) (hi : autoParam (isTrue e Γ.env (eval e Γ.env) = (do let v ← eval e Γ.env; standAt e.pos; holding [v] (truthy v))) aR) : Bt Γ loc led e b loc1 led1 := fun s Q E S h =>
  isTrue_plain (he s _ E S fun a s1 S1 le1 ra => ht n Γ loc1 led1 s1 a Q E O S1 ra fun c s2 S2 le2 rc => h c s2 S2 (le1.trans le2) rc) hi
theorem Bt.cmp (O : Ok n Γ) {l r : Expr} {op : CmpOp} {pos : Pos} {x y : V} {c : Bool} (hl : Ev Γ loc led l x loc1 led1) (hr : Ev Γ loc1 led1 r y loc2 led2) (ho : Op2 (compareOp op) x y (.d (.bool c))) (hm : autoParam (behindInMarks op r = false) aU) :
    Bt Γ loc led (.Compare l [op] [r] pos) c loc2 led2 := fun s Q E S h =>
  wpAny_isTrue_Compare1 (hl s _ E S fun a s1 S1 le1 ra => hr s1 _ E S1 fun b s2 S2 le2 rb => ho n Γ loc2 led2 s2 a b _ E O S2 (ra.keeps le2) rb fun v' s3 S3 le3 rv => by
    rw [rep_bool rv]; exact wpAny_truthy_bool (h c s3 S3 (le1.trans (le2.trans le3)) rfl)) hm
theorem Bt.not {e : Expr} {pos : Pos} {b : Bool} (h1 : Bt Γ loc led e b loc1 led1) : Bt Γ loc led (.UnaryOp .Not e pos) (!b) loc1 led1 := fun s Q E S h =>
  isTrue_not (h1 s _ E S fun c s1 S1 le1 rc => h _ s1 S1 le1 (by rw [rc]))
theorem Bt.andT {e : Expr} {r : List Expr} {pos : Pos} {b : Bool} (h1 : Bt Γ loc led e true loc1 led1) (h2 : Bt Γ loc1 led1 (.BoolOp .And r pos) b loc2 led2) : Bt Γ loc led (.BoolOp .And (e :: r) pos) b loc2 led2 := fun s Q E S h =>
  isTrue_and (h1 s _ E S fun c s1 S1 le1 rc => by rw [rc]; exact h2 s1 Q E S1 fun c2 s2 S2 le2 rc2 => h c2 s2 S2 (le1.trans le2) rc2)
theorem Bt.andF {e : Expr} {r : List Expr} {pos : Pos} (h1 : Bt Γ loc led e false loc1 led1) : Bt Γ loc led (.BoolOp .And (e :: r) pos) false loc1 led1 := fun s Q E S h =>
  isTrue_and (h1 s _ E S fun c s1 S1 le1 rc => by rw [rc]; exact h false s1 S1 le1 rfl)
theorem Bt.andN {pos : Pos} : Bt Γ loc led (.BoolOp .And [] pos) true loc led := fun s Q E S h => isTrue_and_nil (h true s S Le.rfl rfl)
theorem Bt.orF {e : Expr} {r : List Expr} {pos : Pos} {b : Bool} (h1 : Bt Γ loc led e false loc1 led1) (h2 : Bt Γ loc1 led1 (.BoolOp .Or r pos) b loc2 led2) : Bt Γ loc led (.BoolOp .Or (e :: r) pos) b loc2 led2 := fun s Q E S h =>
  isTrue_or (h1 s _ E S fun c s1 S1 le1 rc => by rw [rc]; exact h2 s1 Q E S1 fun c2 s2 S2 le2 rc2 => h c2 s2 S2 (le1.trans le2) rc2)
theorem Bt.orT {e : Expr} {r : List Expr} {pos : Pos} (h1 : Bt Γ loc led e true loc1 led1) : Bt Γ loc led (.BoolOp .Or (e :: r) pos) true loc1 led1 := fun s Q E S h =>
  isTrue_or (h1 s _ E S fun c s1 S1 le1 rc => by rw [rc]; exact h true s1 S1 le1 rfl)
theorem Bt.orN {pos : Pos} : Bt Γ loc led (.BoolOp .Or [] pos) false loc led := fun s Q E S h => isTrue_or_nil (h false s S Le.rfl rfl)
theorem Ev.ite {t b o : Expr} {pos : Pos} {c : Bool} {v : V} (h1 : Bt Γ loc led t c loc1 led1) (h2 : c = true → Ev Γ loc1 led1 b v loc2 led2) (h3 : c = false → Ev Γ loc1 led1 o v loc2 led2) : Ev Γ loc led (.IfExp t b o pos) v loc2 led2 := fun s Q E S h =>
  wpAny_IfExp (h1 s _ E S fun c' s1 S1 le1 rc => by
    subst rc
    cases c' with
    | true => exact h2 rfl s1 Q E S1 fun v' s2 S2 le2 r => h v' s2 S2 (le1.trans le2) r
    | false => exact h3 rfl s1 Q E S1 fun v' s2 S2 le2 r => h v' s2 S2 (le1.trans le2) r)
end
section
variable {a b : Int} {x y : Str}
theorem add_ii : Op2 (binaryOp .Add) (.d (.int a)) (.d (.int b)) (.d (.int (a + b))) := fun n Γ loc led s u v Q E O S ra rb h => by
  obtain ⟨t, rfl⟩ := rep_int ra; obtain ⟨t', rfl⟩ := rep_int rb
  exact PyProof.Rows.add_int (h _ _ (S.toks _) Le.rfl of_int)
theorem sub_ii : Op2 (binaryOp .Sub) (.d (.int a)) (.d (.int b)) (.d (.int (a - b))) := fun n Γ loc led s u v Q E O S ra rb h => by
  obtain ⟨t, rfl⟩ := rep_int ra; obtain ⟨t', rfl⟩ := rep_int rb
  exact PyProof.Rows.sub_int (h _ _ (S.toks _) Le.rfl of_int)
theorem mul_ii (hm : IntMulOk a b) : Op2 (binaryOp .Mult) (.d (.int a)) (.d (.int b)) (.d (.int (a * b))) := fun n Γ loc led s u v Q E O S ra rb h => by
  obtain ⟨t, rfl⟩ := rep_int ra; obtain ⟨t', rfl⟩ := rep_int rb
  exact P.mul_int (h _ _ (S.toks _) Le.rfl of_int) hm
theorem div_ii (hb : b ≠ 0) (hs : b.natAbs < 1073741824) : Op2 (binaryOp .FloorDiv) (.d (.int a)) (.d (.int b)) (.d (.int (a.fdiv b))) := fun n Γ loc led s u v Q E O S ra rb h => by
  obtain ⟨t, rfl⟩ := rep_int ra; obtain ⟨t', rfl⟩ := rep_int rb
  exact PyProof.Rows.floordiv_int hb (h _ _ (S.toks _) Le.rfl of_int) (.inl (PyProof.noPylong_small hs))
theorem mod_ii (hb : b ≠ 0) : Op2 (binaryOp .Mod) (.d (.int a)) (.d (.int b)) (.d (.int (a.fmod b))) := fun n Γ loc led s u v Q E O S ra rb h => by
  obtain ⟨t, rfl⟩ := rep_int ra; obtain ⟨t', rfl⟩ := rep_int rb
  exact PyProof.Rows.mod_int' hb (h _ _ (S.toks _) Le.rfl of_int)
theorem and_ii : Op2 (binaryOp .BitAnd) (.d (.int a)) (.d (.int b)) (.d (.int (Builtin.bitAnd a b))) := fun n Γ loc led s u v Q E O S ra rb h => by
  obtain ⟨t, rfl⟩ := rep_int ra; obtain ⟨t', rfl⟩ := rep_int rb
  exact PyProof.Rows.and_int (h _ _ (S.toks _) Le.rfl of_int)
theorem add_ss (hz : (x ++ y).length ≤ sizeLine) : Op2 (binaryOp .Add) (.d (.str x)) (.d (.str y)) (.d (.str (x ++ y))) := fun n Γ loc led s u v Q E O S ra rb h => by
  obtain ⟨t, rfl⟩ := rep_str ra; obtain ⟨t', rfl⟩ := rep_str rb
  exact SBL.add (fun t' k _ => h _ _ (S.toks _) Le.rfl of_str) (by rw [← Str.length_append]; exact hz)
theorem eq_ii : Op2 (compareOp .Eq) (.d (.int a)) (.d (.int b)) (.d (.bool (a == b))) := fun n Γ loc led s u v Q E O S ra rb h => by
  obtain ⟨t, rfl⟩ := rep_int ra; obtain ⟨t', rfl⟩ := rep_int rb
  exact PyProof.Rows.eq_int (h _ _ S Le.rfl of_bool)
theorem ne_ii : Op2 (compareOp .NotEq) (.d (.int a)) (.d (.int b)) (.d (.bool (a != b))) := fun n Γ loc led s u v Q E O S ra rb h => by
  obtain ⟨t, rfl⟩ := rep_int ra; obtain ⟨t', rfl⟩ := rep_int rb
  exact PyProof.Rows.ne_int (h _ _ S Le.rfl of_bool)
theorem lt_ii : Op2 (compareOp .Lt) (.d (.int a)) (.d (.int b)) (.d (.bool (decide (a < b)))) := fun n Γ loc led s u v Q E O S ra rb h => by
  obtain ⟨t, rfl⟩ := rep_int ra; obtain ⟨t', rfl⟩ := rep_int rb
  exact PyProof.Rows.lt_int (h _ _ S Le.rfl of_bool)
theorem le_ii : Op2 (compareOp .LtE) (.d (.int a)) (.d (.int b)) (.d (.bool (decide (a ≤ b)))) := fun n Γ loc led s u v Q E O S ra rb h => by
  obtain ⟨t, rfl⟩ := rep_int ra; obtain ⟨t', rfl⟩ := rep_int rb
  exact P.le_int (h _ _ S Le.rfl of_bool)
theorem gt_ii : Op2 (compareOp .Gt) (.d (.int a)) (.d (.int b)) (.d (.bool (decide (b < a)))) := fun n Γ loc led s u v Q E O S ra rb h => by
  obtain ⟨t, rfl⟩ := rep_int ra; obtain ⟨t', rfl⟩ := rep_int rb
  exact PyProof.Rows.gt_int (h _ _ S Le.rfl of_bool)
theorem ge_ii : Op2 (compareOp .GtE) (.d (.int a)) (.d (.int b)) (.d (.bool (decide (a ≥ b)))) := fun n Γ loc led s u v Q E O S ra rb h => by
  obtain ⟨t, rfl⟩ := rep_int ra; obtain ⟨t', rfl⟩ := rep_int rb
  exact P.ge_int (h _ _ S Le.rfl of_bool)
theorem eq_ss : Op2 (compareOp .Eq) (.d (.str x)) (.d (.str y)) (.d (.bool (x == y))) := fun n Γ loc led s u v Q E O S ra rb h => by
  obtain ⟨t, rfl⟩ := rep_str ra; obtain ⟨t', rfl⟩ := rep_str rb
  exact P.eq_str (h _ _ S Le.rfl (by rw [SeqAt.str_beq]; exact of_bool))
theorem ne_ss : Op2 (compareOp .NotEq) (.d (.str x)) (.d (.str y)) (.d (.bool (x != y))) := fun n Γ loc led s u v Q E O S ra rb h => by
  obtain ⟨t, rfl⟩ := rep_str ra; obtain ⟨t', rfl⟩ := rep_str rb
  exact P.ne_str (h _ _ S Le.rfl (by show RepV _ _ (.bool (!(x.cps.toList == y.cps.toList))); rw [SeqAt.str_beq]; exact of_bool))
theorem eq_dd {d e : PyData} (hd : SeqAt.shaped d = true) (he : SeqAt.shaped e = true) : Op2 (compareOp .Eq) (.d d) (.d e) (.d (.bool (PyData.eqv d e))) := fun n Γ loc led s u v Q E O S ra rb h => by
  obtain ⟨as, ra⟩ := ra; obtain ⟨bs, rb⟩ := rb
  have k : (vis Γ led s).StaysIn s.heap := fun b o e => (vget e)
  exact SeqAt.compareEq_shaped (Reads.keeps k ra) (Reads.keeps k rb) hd he (O.room (by decide)) (h _ _ S Le.rfl of_bool)
theorem ne_dd {d e : PyData} (hd : SeqAt.shaped d = true) (he : SeqAt.shaped e = true) : Op2 (compareOp .NotEq) (.d d) (.d e) (.d (.bool (!PyData.eqv d e))) := fun n Γ loc led s u v Q E O S ra rb h => by
  obtain ⟨as, ra⟩ := ra; obtain ⟨bs, rb⟩ := rb
  have k : (vis Γ led s).StaysIn s.heap := fun b o e => (vget e)
  exact SeqAt.compareNe_shaped (Reads.keeps k ra) (Reads.keeps k rb) hd he (O.room (by decide)) (h _ _ S Le.rfl of_bool)
theorem tru_bool {c : Bool} : Tru (.d (.bool c)) c := fun n Γ loc led s u Q E O S ra h => by
  rw [rep_bool ra]; exact wpAny_truthy_bool (h _ _ S Le.rfl rfl)
theorem tru_int : Tru (.d (.int a)) (a != 0) := fun n Γ loc led s u Q E O S ra h => by
  obtain ⟨t, rfl⟩ := rep_int ra; exact P.truthy_int (h _ _ S Le.rfl rfl)
theorem tru_str (hz : x.length ≤ sizeLine) : Tru (.d (.str x)) ((x.length : Int) != 0) := fun n Γ loc led s u Q E O S ra h => by
  obtain ⟨t, rfl⟩ := rep_str ra
  exact P.truthy_str (by have : sizeLine = 16777216 := by decide
                         lia) (h _ _ (S.toks _) Le.rfl rfl)
theorem tru_list {xs : List PyData} (hz : xs.length ≤ sizeLine) : Tru (.d (.list xs)) (!xs.isEmpty) := fun n Γ loc led s u Q E O S ra h => by
  refine aside fun zk => ?_
  obtain ⟨l, o, vs, k, as, rfl, h1, h2, h3, h4⟩ := rep_list ra
  apply zk
  have e := readsAll_length h4
  refine wpAny_truthy_list (isList_of h1 h2 h3) ?_ (h _ _ (S.toks _) Le.rfl ?_)
  · have : sizeLine = 16777216 := by decide
    have : vs.size = xs.length := by rw [← e]; simp
    lia
  · have : vs.size = xs.length := by rw [← e]; simp
    cases xs with
    | nil => simp at this; subst this; rfl
    | cons x r =>
      have : vs.isEmpty = false := by simp; intro q; subst q; simp at this
      rw [this]; rfl
end
end
section
inductive Out where
  | next (loc : Loc) (led : Led)
  | brk (loc : Loc) (led : Led)
  | cont (loc : Loc) (led : Led)
  | ret (v : V) (loc : Loc) (led : Led)
noncomputable def Ox (Γ : Cx) (led : Led) (s : Shared) (o : Out) (f : Flow) (s' : Shared) : Prop := match o with
  | .next loc' led' => f = .next ∧ St Γ loc' led' s' ∧ Le Γ led s led' s'
  | .brk loc' led' => f = .brk ∧ St Γ loc' led' s' ∧ Le Γ led s led' s'
  | .cont loc' led' => f = .cont ∧ St Γ loc' led' s' ∧ Le Γ led s led' s'
  | .ret v loc' led' => ∃ v', f = .ret v' ∧ St Γ loc' led' s' ∧ Le Γ led s led' s' ∧ RepV (vis Γ led' s') v v'
noncomputable def Ex1 (Γ : Cx) (loc : Loc) (led : Led) (st : Stmt) (o : Out) : Prop :=
  ∀ s (Q : Flow → Shared → Prop) (E : Value → Shared → Prop), St Γ loc led s → (∀ f s', Ox Γ led s o f s' → Q f s') → wpAny (MM Γ.w) Γ.A (exec st Γ.env) Q E s
noncomputable def Ex (Γ : Cx) (loc : Loc) (led : Led) (b : List Stmt) (o : Out) : Prop :=
  ∀ s (Q : Flow → Shared → Prop) (E : Value → Shared → Prop), St Γ loc led s → (∀ f s', Ox Γ led s o f s' → Q f s') → wpAny (MM Γ.w) Γ.A (execs b Γ.env) Q E s
section
variable {n : Nat} {Γ : Cx} {loc loc' loc1 loc2 : Loc} {led led' led1 led2 : Led} {s s' s'' : Shared} {o : Out}
theorem Ox.le {f : Flow} (le : Le Γ led s led1 s') (x : Ox Γ led1 s' o f s'') : Ox Γ led s o f s'' := by
  cases o with
  | next => exact ⟨x.1, x.2.1, le.trans x.2.2⟩
  | brk => exact ⟨x.1, x.2.1, le.trans x.2.2⟩
  | cont => exact ⟨x.1, x.2.1, le.trans x.2.2⟩
  | ret => obtain ⟨v', h1, h2, h3, h4⟩ := x; exact ⟨v', h1, h2, le.trans h3, h4⟩
theorem Ex.nil : Ex Γ loc led [] (.next loc led) := fun s Q E S h => wpAny_execs_nil (h _ _ ⟨rfl, S, Le.rfl⟩)
theorem Ex.cons {st : Stmt} {b : List Stmt} (h1 : Ex1 Γ loc led st (.next loc1 led1)) (h2 : Ex Γ loc1 led1 b o) : Ex Γ loc led (st :: b) o := fun s Q E S h =>
  wpAny_execs_cons (h1 s _ E S fun f s1 x => by obtain ⟨rfl, S1, le⟩ := x; exact h2 s1 Q E S1 fun f s2 y => h f s2 (y.le le))
theorem Ex.ret {st : Stmt} {b : List Stmt} {v : V} (h1 : Ex1 Γ loc led st (.ret v loc1 led1)) : Ex Γ loc led (st :: b) (.ret v loc1 led1) := fun s Q E S h =>
  wpAny_execs_cons (h1 s _ E S fun f s1 x => by obtain ⟨v', rfl, S1, le, r⟩ := x; exact h _ s1 ⟨v', rfl, S1, le, r⟩)
theorem Ex.brk {st : Stmt} {b : List Stmt} (h1 : Ex1 Γ loc led st (.brk loc1 led1)) : Ex Γ loc led (st :: b) (.brk loc1 led1) := fun s Q E S h =>
  wpAny_execs_cons (h1 s _ E S fun f s1 x => by obtain ⟨rfl, S1, le⟩ := x; exact h _ s1 ⟨rfl, S1, le⟩)
theorem Ex.cont {st : Stmt} {b : List Stmt} (h1 : Ex1 Γ loc led st (.cont loc1 led1)) : Ex Γ loc led (st :: b) (.cont loc1 led1) := fun s Q E S h =>
  wpAny_execs_cons (h1 s _ E S fun f s1 x => by obtain ⟨rfl, S1, le⟩ := x; exact h _ s1 ⟨rfl, S1, le⟩)
theorem Ex1.ret {e : Expr} {pos : Pos} {v : V} (h1 : Ev Γ loc led e v loc1 led1) : Ex1 Γ loc led (.Return (some e) pos) (.ret v loc1 led1) := fun s Q E S h =>
  wpAny_Return_some (h1 s _ E S fun v' s1 S1 le r => h _ s1 ⟨v', rfl, S1, le, r⟩)
theorem Ex1.brk {pos : Pos} : Ex1 Γ loc led (.Break pos) (.brk loc led) := fun s Q E S h => wpAny_Break (h _ s ⟨rfl, S, Le.rfl⟩)
theorem Ex1.cont {pos : Pos} : Ex1 Γ loc led (.Continue pos) (.cont loc led) := fun s Q E S h => wpAny_Continue (h _ s ⟨rfl, S, Le.rfl⟩)
theorem Ex1.ifT {t : Expr} {b e : List Stmt} {pos : Pos} (h1 : Bt Γ loc led t true loc1 led1) (h2 : Ex Γ loc1 led1 b o) : Ex1 Γ loc led (.If t b e pos) o := fun s Q E S h =>
  wpAny_If (h1 s _ E S fun c s1 S1 le rc => by subst rc; exact h2 s1 Q E S1 fun f s2 y => h f s2 (y.le le))
theorem Ex1.ifF {t : Expr} {b e : List Stmt} {pos : Pos} (h1 : Bt Γ loc led t false loc1 led1) (h2 : Ex Γ loc1 led1 e o) : Ex1 Γ loc led (.If t b e pos) o := fun s Q E S h =>
  wpAny_If (h1 s _ E S fun c s1 S1 le rc => by subst rc; exact h2 s1 Q E S1 fun f s2 y => h f s2 (y.le le))
theorem Ex1.ifB {t : Expr} {b e : List Stmt} {pos : Pos} {c : Bool} (h1 : Bt Γ loc led t c loc1 led1) (h2 : c = true → Ex Γ loc1 led1 b o) (h3 : c = false → Ex Γ loc1 led1 e o) : Ex1 Γ loc led (.If t b e pos) o := by
  cases c with
  | true => exact Ex1.ifT h1 (h2 rfl)
  | false => exact Ex1.ifF h1 (h3 rfl)
noncomputable def Sto (Γ : Cx) (x : Str) : Prop := Γ.env.kindOf x = some .local ∨ (Γ.env.kindOf x = some .cell ∧ (Γ.env.cells.lookup x).isSome = true ∧ Γ.env.locals = Γ.fenv.locals)
theorem store' (O : Ok n Γ) {x : Str} {v : V} {v' : Value} (hx : Sto Γ x) {Q : Unit → Shared → Prop} {E : Value → Shared → Prop} (S : St Γ loc led s) (r : RepV (vis Γ led s) v v') (h : ∀ s', St Γ (put loc x v) led s' → Le Γ led s led s' → Q () s') :
    wpAny (MM Γ.w) Γ.A (storeName Γ.env x v') Q E s :=
  store O (hx.imp id fun h => ⟨h.1, h.2.1⟩) (hx.symm.imp (fun h => h.2.2) id) S r h
theorem Ex1.assign (O : Ok n Γ) {x : Str} {p pos : Pos} {e : Expr} {v : V} (h1 : Ev Γ loc led e v loc1 led1) (hx : Sto Γ x) (hs : autoParam (swapsWith e (some (.Name x p)) pos.line Γ.env = pure false) aR) :
    Ex1 Γ loc led (.Assign [.Name x p] e pos) (.next (put loc1 x v) led1) := fun s Q E S h =>
  wpAny_Assign_Name (h1 s _ E S fun v' s1 S1 le r => store' O hx S1 r fun s2 S2 le2 => h _ s2 ⟨rfl, S2, le.trans le2⟩) hs
theorem Ex1.expr {e : Expr} {pos : Pos} {v : V} (h1 : Ev Γ loc led e v loc1 led1) (hi : autoParam (interactive Γ.env = false) aR) (hs : autoParam (swapsWith e none pos.line Γ.env = pure false) aR) :
    Ex1 Γ loc led (.Expr e pos) (.next loc1 led1) := fun s Q E S h =>
  wpAny_Expr_any (h1 s _ E S fun v' s1 S1 le r => h _ s1 ⟨rfl, S1, le⟩) hi hs
noncomputable def As (Γ : Cx) (loc : Loc) (led : Led) (t : Expr) (v : V) (loc' : Loc) : Prop :=
  ∀ s v' (Q : Unit → Shared → Prop) (E : Value → Shared → Prop), St Γ loc led s → RepV (vis Γ led s) v v' → (∀ s', St Γ loc' led s' → Le Γ led s led s' → Q () s') → wpAny (MM Γ.w) Γ.A (assign t Γ.env v') Q E s
theorem As.name (O : Ok n Γ) {x : Str} {p : Pos} {v : V} (hx : Sto Γ x) : As Γ loc led (.Name x p) v (put loc x v) := fun s v' Q E S r h => wpAny_assign_Name (store' O hx S r h)
noncomputable def ownedNames : List String := ["enumerate", "zip", "dict_itemiterator", "dict_reverseitemiterator", "odict_iterator", "itertools.zip_longest", "itertools.pairwise"]
noncomputable def noIter (nm : String) : Bool := !datNames.contains nm && !ownedNames.contains nm
structure Run (Γ : Cx) (loc : Loc) (led : Led) (its : List V) (s : Shared) (I : Addr) (fp : List Addr) (P : Nat → Value → Prop) (J : Nat → Heap → Prop) : Prop where
  W : Walks PP Γ.w Γ.A I fp [I] its.length P J
  J0 : J 0 s.heap
  st : St Γ loc led s
  fpv : ∀ b ∈ fp, b ∉ exOf Γ led ∧ ∃ o, s.heap.get? b = some o
  Pv : ∀ i v, i < its.length → P i v → ∃ x, its[i]? = some x ∧ RepV (vis Γ led s) x v
  gI : Γ.g.get? I = none
  cl : ∀ i h, J i h → ∃ o nm vs, h.get? I = some o ∧ o.cls = .type nm ∧ o.data = .fields vs ∧ noIter nm = true
noncomputable def Src (x : V) (its : List V) : Prop :=
  ∀ (n : Nat) (Γ : Cx) (loc : Loc) (led : Led) (s : Shared) (a : Value) (Q : Value → Shared → Prop) (E : Value → Shared → Prop), Ok n Γ → St Γ loc led s → RepV (vis Γ led s) x a →
    (∀ I s' fp P J, Run Γ loc led its s' I fp P J → Le Γ led s led s' → s.heap.get? I = none → Q (.ref I) s') → wpAny (MM Γ.w) Γ.A (pyIter a) Q E s
noncomputable def Turns (Γ : Cx) (t : Expr) (body : List Stmt) : List V → Loc → Led → Out → Prop
  | [], loc, led, o => o = .next loc led
  | x :: r, loc, led, o => ∃ loc1 o1, As Γ loc led t x loc1 ∧ Ex Γ loc1 led body o1 ∧ match o1 with
    | .next loc2 led2 => Turns Γ t body r loc2 led2 o
    | .cont loc2 led2 => Turns Γ t body r loc2 led2 o
    | .brk loc2 led2 => o = .brk loc2 led2
    | .ret v loc2 led2 => o = .ret v loc2 led2
theorem noDat_of {o : Obj} {nm : String} (h : o.cls = .type nm) (hn : noIter nm = true) : ¬ isDat o := by
  rintro ⟨x, hx, q⟩
  rw [h] at q
  injection q with q
  subst q
  have := (Bool.and_eq_true_iff.mp hn).1
  rw [List.contains_iff_mem.mpr hx] at this
  cases this
theorem owned_go {t : Expr} {I : Addr} {v : Value} {o : Obj} {nm : String} {vs : Array Value} (ho : s.heap.get? I = some o) (hc : o.cls = .type nm) (hd : o.data = .fields vs)
    (hn : noIter nm = true)
    {M : Model} {A : Around} {Q : Unit → Shared → Prop} {E : Value → Shared → Prop} (h : Q () s) : wpAny M A (letOwnedTupleGo t (.ref I) v) Q E s := by
  have key : wpAny M A (do
      let (.ref r, .ref a) := ((Value.ref I, v) : Value × Value) | return
      let o ← load r
      match o.cls, o.data with
      | .type n, .fields vs =>
        if ["enumerate", "zip", "dict_itemiterator", "dict_reverseitemiterator", "odict_iterator", "itertools.zip_longest", "itertools.pairwise"].contains n && vs[0]? == some (rawInt a) then
          rule "for.unpacks-the-owned-tuple"
          updateField r 0 .none
      | _, _ => pure () : Sem Unit) Q E s := by
    cases v with
    | ref a =>
      refine wpAny_bind (wpAny_load ho ?_)
      rw [hc, hd]
      have this : ownedNames.contains nm = false := by have := (Bool.and_eq_true_iff.mp hn).2; simpa using this
      unfold ownedNames at this
      simp only [this, Bool.false_and]
      exact wpAny_pure h
    | _ => exact wpAny_pure h
  cases t
  case Tuple => exact key
  case List => exact key
  all_goals exact wpAny_pure h
theorem Ex1.for_ (O : Ok n Γ) {t iter : Expr} {body orelse : List Stmt} {pos : Pos} {x : V} {its : List V} {o : Out} (h1 : Ev Γ loc led iter x loc1 led1) (hx : Src x its) (ht : Turns Γ t body its loc1 led1 o)
    {o' : Out} (h2 : match o with
      | .next loc2 led2 => Ex Γ loc2 led2 orelse o'
      | .brk loc2 led2 => o' = .next loc2 led2
      | .ret v loc2 led2 => o' = .ret v loc2 led2
      | .cont _ _ => False) (hs : autoParam (∀ x, foldedSetIterable iter Γ.env x = pure x) aI) : Ex1 Γ loc led (.For t iter body orelse pos) o' := fun s Q E S h => by
  refine wpAny_For (h1 s _ E S fun a s1 S1 le1 ra => hx n Γ loc1 led1 s1 a _ E O S1 ra fun I s2 fp P J R le2 new => ?_) hs
  clear hx
  have ne : ∀ b o, (vis Γ led s).get? b = some o → b ≠ I := fun b o e q => by
    have := (vget (le1 b o e))
    rw [q, new] at this; cases this
  have iL : I ≠ Γ.env.locals := fun q => (R.fpv I (R.W.sub I (List.mem_singleton.mpr rfl))).1 (List.mem_append_left _ (q ▸ O.pl))
  have iF : I ≠ Γ.fenv.locals := fun q => (R.fpv I (R.W.sub I (List.mem_singleton.mpr rfl))).1 (List.mem_append_left _ (q ▸ O.pf))
  have iC : ∀ x a, Γ.env.cells.lookup x = some a → a ≠ I := fun x a e q => (R.fpv I (R.W.sub I (List.mem_singleton.mpr rfl))).1 (List.mem_append_left _ (q ▸ (O.ce x a e).1))
  have iZ : ∀ p ∈ Γ.fz, p.1 ≠ I := fun p hp q => (R.fpv I (R.W.sub I (List.mem_singleton.mpr rfl))).1 (List.mem_append_left _ (q ▸ (O.fl p hp).1))
  refine codeAny_forLoop_any (fun k s' => ∃ i loc' led', i ≤ its.length ∧ k = its.length - i ∧ J i s'.heap ∧ St Γ loc' led' s' ∧ Le Γ led s led' s' ∧ Sub (vis Γ led1 s2) (vis Γ led' s') ∧ (∀ b ∈ fp, b ∉ exOf Γ led' ∧ ∃ o, s'.heap.get? b = some o) ∧ Turns Γ t body (its.drop i) loc' led' o) ?_ its.length
    ⟨0, loc1, led1, Nat.zero_le _, rfl, R.J0, R.st, le1.trans le2, fun _ _ e _ => e, R.fpv, by simpa using ht⟩
  rintro k s' ⟨i, loc', led', hi, rfl, Ji, S', le', sb', fv', T'⟩
  obtain ⟨oI, nm, vs, eI, cI, dI, nI⟩ := R.cl i _ Ji
  have IV := fv' I (R.W.sub I (List.mem_singleton.mpr rfl))
  by_cases hlt : i < its.length
  · refine R.W.item i s' _ _ hlt Ji fun v h' tk hP Ji' hk => ?_
    refine aside fun zk => ?_
    obtain ⟨y, hy, ry⟩ := R.Pv i v hlt hP
    have hk' : ∀ b o, b ≠ I → s'.heap.get? b = some o → h'.get? b = some o := fun b o q e => hk b o (by simpa using q) e
    obtain ⟨S3, sb3⟩ := S'.iter (t := tk) IV.1 R.gI eI (noDat_of cI nI) hk' iL iF iC iZ
    obtain ⟨oI3, nm3, vs3, eI3, cI3, dI3, nI3⟩ := R.cl (i + 1) _ Ji'
    have hd : its.drop i = y :: its.drop (i + 1) := by
      rw [List.drop_eq_getElem_cons hlt]
      congr 1
      rw [List.getElem?_eq_getElem hlt] at hy; exact Option.some.inj hy
    rw [hd] at T'
    obtain ⟨loc3, o3, hA, hB, hC⟩ := T'
    apply zk
    refine owned_go eI3 cI3 dI3 nI3 ?_
    refine hA _ v _ _ S3 ((ry.sub sb').sub sb3) fun s4 S4 le4 => hB s4 _ _ S4 fun f s5 x5 => ?_
    have go : ∀ led5, Le Γ led' s4 led5 s5 → Le Γ led' { s' with heap := h', toks := tk } led5 s5 := fun led5 l => le4.trans l
    have old : ∀ led5, Le Γ led' s4 led5 s5 → Le Γ led s led5 s5 := fun led5 l b o e => by
      have e2 := vget ((le' b o e))
      have e3 := vout ((le' b o e))
      exact go led5 l b o (vmk (hk' b o (ne b o e) e2) e3)
    have fv3 : ∀ b ∈ fp, b ∉ exOf Γ led' ∧ ∃ o, h'.get? b = some o := fun b hb => by
      obtain ⟨f1, o, f2⟩ := fv' b hb
      refine ⟨f1, ?_⟩
      by_cases q : b = I
      · exact ⟨oI3, q ▸ eI3⟩
      · exact ⟨o, hk' b o q f2⟩
    have on : ∀ loc5 led5, St Γ loc5 led5 s5 → Le Γ led' s4 led5 s5 → Turns Γ t body (its.drop (i + 1)) loc5 led5 o → ∃ m, m < its.length - i ∧ ∃ i loc' led', i ≤ its.length ∧ m = its.length - i ∧ J i s5.heap ∧ St Γ loc' led' s5 ∧ Le Γ led s led' s5 ∧ Sub (vis Γ led1 s2) (vis Γ led' s5) ∧ (∀ b ∈ fp, b ∉ exOf Γ led' ∧ ∃ o, s5.heap.get? b = some o) ∧ Turns Γ t body (its.drop i) loc' led' o := fun loc5 led5 S5 l T5 => by
      have fv5 : ∀ b ∈ fp, ∀ o, h'.get? b = some o → (vis Γ led5 s5).get? b = some o := fun b hb o e => go led5 l b o (vmk e ((fv3 b hb).1))
      refine ⟨its.length - (i + 1), by omega, i + 1, loc5, led5, hlt, rfl, R.W.frame _ _ _ Ji' (fun b hb o e => (vget (fv5 b hb o e))), S5, old led5 l, fun b o e hd => go led5 l b o (sb3 b o (sb' b o e hd) hd), fun b hb => ?_, T5⟩
      obtain ⟨_, o, e⟩ := fv3 b hb
      have := vis_iff.mp (fv5 b hb o e)
      exact ⟨this.2, o, this.1⟩
    cases o3 with
    | next loc5 led5 => obtain ⟨rfl, S5, l⟩ := x5; exact on loc5 led5 S5 l hC
    | cont loc5 led5 => obtain ⟨rfl, S5, l⟩ := x5; exact on loc5 led5 S5 l hC
    | brk loc5 led5 =>
      obtain ⟨rfl, S5, l⟩ := x5
      have hC : o = .brk loc5 led5 := hC
      subst hC
      have h2 : o' = .next loc5 led5 := h2
      subst h2
      exact h _ s5 ⟨rfl, S5, old led5 l⟩
    | ret v loc5 led5 =>
      refine aside fun zk => ?_
      obtain ⟨v', rfl, S5, l, r5⟩ := x5
      have hC : o = .ret v loc5 led5 := hC
      subst hC
      have h2 : o' = .ret v loc5 led5 := h2
      subst h2
      apply zk
      exact h _ s5 ⟨v', rfl, S5, old led5 l, r5⟩
  · have hi' : i = its.length := by omega
    subst hi'
    refine R.W.done s' _ _ Ji fun h' tk hk => ?_
    have hk' : ∀ b o, b ≠ I → s'.heap.get? b = some o → h'.get? b = some o := fun b o q e => hk b o (by simpa using q) e
    obtain ⟨S3, sb3⟩ := S'.iter (t := tk) IV.1 R.gI eI (noDat_of cI nI) hk' iL iF iC iZ
    rw [List.drop_length] at T'
    have T' : o = .next loc' led' := T'
    subst T'
    have h2 : Ex Γ loc' led' orelse o' := h2
    refine h2 _ _ _ S3 fun f s5 x5 => h f s5 ?_
    refine x5.le fun b o e => ?_
    have e2 := vget ((le' b o e))
    have e3 := vout ((le' b o e))
    exact vmk (hk' b o (ne b o e) e2) e3
theorem Ex1.while_ (O : Ok n Γ) {t : Expr} {body : List Stmt} {pos : Pos} {o' : Out} (K : Nat → Loc → Led → Prop)
    (turn : ∀ k loc led, K k loc led → (∃ loc1 led1, Bt Γ loc led t false loc1 led1 ∧ o' = .next loc1 led1) ∨ (∃ loc1 led1 o1, Bt Γ loc led t true loc1 led1 ∧ Ex Γ loc1 led1 body o1 ∧ match o1 with
      | .next loc2 led2 => ∃ m, m < k ∧ K m loc2 led2
      | .cont loc2 led2 => ∃ m, m < k ∧ K m loc2 led2
      | .brk loc2 led2 => o' = .next loc2 led2
      | .ret v loc2 led2 => o' = .ret v loc2 led2)) (k : Nat) (h0 : K k loc led) : Ex1 Γ loc led (.While t body [] pos) o' := fun s Q E S h => by
  refine wpAny_While (codeAny_whileLoop (fun k s' => ∃ loc' led', K k loc' led' ∧ St Γ loc' led' s' ∧ Le Γ led s led' s') ?_ k ⟨loc, led, h0, S, Le.rfl⟩)
  rintro k s' ⟨loc', led', hK, S', le'⟩
  rcases turn k loc' led' hK with ⟨loc1, led1, hb, rfl⟩ | ⟨loc1, led1, o1, hb, he, hm⟩
  · refine hb s' _ _ S' fun c s1 S1 le1 rc => ?_
    subst rc
    exact wpAny_execs_nil (h _ _ ⟨rfl, S1, le'.trans le1⟩)
  · refine hb s' _ _ S' fun c s1 S1 le1 rc => ?_
    subst rc
    refine he s1 _ _ S1 fun f s2 x2 => ?_
    cases o1 with
    | next loc5 led5 => obtain ⟨rfl, S5, l⟩ := x2; obtain ⟨m, h1, h2⟩ := hm; exact ⟨m, h1, loc5, led5, h2, S5, le'.trans (le1.trans l)⟩
    | cont loc5 led5 => obtain ⟨rfl, S5, l⟩ := x2; obtain ⟨m, h1, h2⟩ := hm; exact ⟨m, h1, loc5, led5, h2, S5, le'.trans (le1.trans l)⟩
    | brk loc5 led5 => obtain ⟨rfl, S5, l⟩ := x2; subst hm; exact h _ s2 ⟨rfl, S5, le'.trans (le1.trans l)⟩
    | ret v loc5 led5 => obtain ⟨v', rfl, S5, l, r5⟩ := x2; subst hm; exact h _ s2 ⟨v', rfl, S5, le'.trans (le1.trans l), r5⟩
end
end
section
inductive RepAll (h : Heap) : List V → List Value → Prop
  | nil : RepAll h [] []
  | cons {x : V} {v : Value} {xs : List V} {vs : List Value} : RepV h x v → RepAll h xs vs → RepAll h (x :: xs) (v :: vs)
theorem RepAll.sub {h h' : Heap} (k : Sub h h') {xs : List V} {vs : List Value} (r : RepAll h xs vs) : RepAll h' xs vs := by
  induction r with
  | nil => exact .nil
  | cons a _ ih => exact .cons (a.sub k) ih
theorem RepAll.keeps {h h' : Heap} (k : h.StaysIn h') {xs : List V} {vs : List Value} (r : RepAll h xs vs) : RepAll h' xs vs := r.sub (.of k)
theorem RepAll.length {h : Heap} {xs : List V} {vs : List Value} (r : RepAll h xs vs) : vs.length = xs.length := by
  induction r with
  | nil => rfl
  | cons _ _ ih => exact congrArg Nat.succ ih
noncomputable def Es (Γ : Cx) (loc : Loc) (led : Led) (es : List Expr) (vs : List V) (loc' : Loc) (led' : Led) : Prop :=
  ∀ pos s, Tr Γ loc led (spliced (backTo pos (starEach es Γ.env))) (fun h vals => RepAll h vs vals) loc' led' s
noncomputable def OpN (n : Nat) (f : List Value → Sem Value) (args : List V) (fp : Led) (v : V) (fp' : Led) : Prop :=
  ∀ (Γ : Cx) (loc : Loc) (led : Led) (s : Shared) (vals : List Value) (Q : Value → Shared → Prop) (E : Value → Shared → Prop), Ok n Γ → St Γ loc (fp ++ led) s → RepAll (vis Γ (fp ++ led) s) args vals →
    (∀ v' s', St Γ loc (fp' ++ led) s' → Le Γ (fp ++ led) s (fp' ++ led) s' → RepV (vis Γ (fp' ++ led) s') v v' → Q v' s') → wpAny (MM Γ.w) Γ.A (f vals) Q E s
noncomputable abbrev FS (n : Nat) (f : Addr) (args : List V) (v : V) : Prop := OpN n (fun vals => call (.ref f) vals) args [] v []
noncomputable def Keep (w : World) (fv : Value) : Prop := ∀ h, (KF w).In h → ∃ k, (k = Keeper.frame ∨ k = Keeper.machine ∨ k = Keeper.boundFrame) ∧ Looks (MM w) h (keeperOf fv) k
theorem keep_fn {w : World} {fv : Value} (hk : keepIn (KF w) fv = true) : Keep w fv := fun h X => keeps_K hk h X
theorem keep_blt {w : World} {id : String} : Keep w (.builtin id) := fun h X => ⟨.machine, .inr (.inl rfl), Looks.of_pure rfl⟩
theorem keep_type {w : World} {id : String} : Keep w (.type id) := fun h X => ⟨.machine, .inr (.inl rfl), Looks.of_pure rfl⟩
theorem evalArgs_es {M : Model} {A : Around} {E : Value → Shared → Prop} {s : Shared} {f : Value} {trees : List (Bool × Sem Value)} {Q : Args → Shared → Prop} (hp : trees.any (·.1) = false)
    (h : wpAny M A (spliced trees) (fun vs s' => Q ⟨vs, []⟩ s') E s) : wpAny M A (evalArgs f true trees []) Q E s := by
  cases trees with
  | nil =>
    unfold evalArgs
    show wpAny M A (spliced [] >>= _) Q E s
    refine wpAny_bind (wpAny_mono h (fun vs s' h' => ?_) fun _ _ x => x)
    refine wpAny_holding ?_
    exact wpAny_bind (wpAny_pure (wpAny_bind (wpAny_pure (wpAny_pure h'))))
  | cons p r =>
    obtain ⟨b, x⟩ := p
    cases b with
    | true => simp at hp
    | false => exact evalArgs_plain h
section
variable {n : Nat} {Γ : Cx} {loc loc' loc1 loc2 loc3 : Loc} {led led' led1 led2 fp fp' : Led} {s : Shared}
theorem Es.nil : Es Γ loc led [] [] loc led := fun pos s Q E S h => spliced_none (h _ _ S Le.rfl .nil)
theorem Es.cons {e : Expr} {es : List Expr} {v : V} {vs : List V} (h1 : Ev Γ loc led e v loc1 led1) (h2 : Es Γ loc1 led1 es vs loc2 led2) (he : autoParam (starEach (e :: es) Γ.env = (false, eval e Γ.env) :: starEach es Γ.env) aR) :
    Es Γ loc led (e :: es) (v :: vs) loc2 led2 := fun pos s Q E S h =>
  spliced_more (h1 s _ E S fun a s1 S1 le1 ra => h2 pos s1 _ E S1 fun as s2 S2 le2 rs => h _ s2 S2 (le1.trans le2) (.cons (ra.keeps le2) rs)) he
theorem KX (O : Ok n Γ) (S : St Γ loc led s) : (KF Γ.w).In s.heap := let ⟨_, F⟩ := S.fr; fun a o e => F.keep a o (O.X a o e)
theorem Ev.call (O : Ok n Γ) {x : Str} {p : Pos} {as : List Expr} {pos : Pos} {fv : Value} {vs : List V} {v : V} (hf : Ev Γ loc led (.Name x p) (.raw fv) loc1 led1) (hk : Keep Γ.w fv) (ha : Es Γ loc1 led1 as vs loc2 (fp ++ led2))
    (ho : OpN n (fun vals => PySem.call fv vals) vs fp v fp') (he : autoParam (∀ pos, (backTo pos (starEach as Γ.env)).any (·.1) = false) aI) : Ev Γ loc led (.Call (.Name x p) as [] pos) v loc2 (fp' ++ led2) := fun s Q E S h => by
  refine Call_Name rfl (hf s _ E S fun a s1 S1 le1 ra => ?_)
  cases ra
  refine callWith_of (P := fun h => (KF Γ.w).In h) (by rw [he pos]; rfl) (fun h X => hk h X) (evalArgs_es (he pos) (ha pos s1 _ E S1 fun vals s2 S2 le2 rs => ⟨KX O S2, ?_⟩))
  exact ho Γ loc2 led2 s2 vals Q E O S2 rs fun v' s3 S3 le3 rv => h v' s3 S3 (le1.trans (le2.trans le3)) rv
theorem Ev.callP (O : Ok n Γ) {x : Str} {p : Pos} {as : List Expr} {pos : Pos} {fv : Value} {vs : List V} {v : V} (hf : Ev Γ loc led (.Name x p) (.raw fv) loc1 led1) (hk : Keep Γ.w fv) (ha : Es Γ loc1 led1 as vs loc2 led2)
    (ho : OpN n (fun vals => PySem.call fv vals) vs [] v []) (he : autoParam (∀ pos, (backTo pos (starEach as Γ.env)).any (·.1) = false) aI) : Ev Γ loc led (.Call (.Name x p) as [] pos) v loc2 led2 :=
  Ev.call (fp := []) (fp' := []) (led2 := led2) O hf hk ha ho he
end
theorem cellsFrom_ge : ∀ (names : List (Str × NameKind)) (k : Nat) (acc : List (Str × Addr)) (x : Str) (a : Addr), (x, a) ∈ cellsFrom k names acc → (x, a) ∈ acc ∨ k ≤ a
  | [], _, _, _, _, h => .inl h
  | (y, q) :: r, k, acc, x, a, h => by
    unfold cellsFrom at h
    split at h
    · rcases cellsFrom_ge r (k + 1) _ x a h with h | h
      · rcases List.mem_cons.mp h with h | h
        · cases h; exact .inr (Nat.le_refl _)
        · exact .inl h
      · exact .inr (by lia)
    · exact cellsFrom_ge r k acc x a h
theorem cellsFrom_inj : ∀ (names : List (Str × NameKind)) (k : Nat) (acc : List (Str × Addr)), (∀ p ∈ acc, p.2 < k) → (∀ p ∈ acc, ∀ q ∈ acc, p.2 = q.2 → p.1 = q.1) → ∀ p ∈ cellsFrom k names acc, ∀ q ∈ cellsFrom k names acc, p.2 = q.2 → p.1 = q.1
  | [], _, _, _, h, p, hp, q, hq, e => h p hp q hq e
  | (y, z) :: r, k, acc, hl, h, p, hp, q, hq, e => by
    unfold cellsFrom at hp hq
    split at hp
    · rename_i hz
      rw [if_pos hz] at hq
      refine cellsFrom_inj r (k + 1) ((y, k) :: acc) (fun p hp => ?_) (fun p hp q hq e => ?_) p hp q hq e
      · rcases List.mem_cons.mp hp with rfl | hp
        · exact Nat.lt_succ_self _
        · exact Nat.lt_succ_of_lt (hl p hp)
      · rcases List.mem_cons.mp hp with rfl | hp <;> rcases List.mem_cons.mp hq with rfl | hq
        · rfl
        · exact absurd e (Nat.ne_of_gt (hl q hq))
        · exact absurd e (Nat.ne_of_lt (hl p hp))
        · exact h p hp q hq e
    · rename_i hz
      rw [if_neg hz] at hq
      exact cellsFrom_inj r k acc hl h p hp q hq e
theorem mem_of_lookup {α β : Type} [BEq α] [LawfulBEq α] {l : List (α × β)} {x : α} {v : β} (h : l.lookup x = some v) : (x, v) ∈ l := by
  induction l with
  | nil => cases h
  | cons p r ih =>
    rw [List.lookup_cons] at h
    split at h
    · rename_i e; cases h; rw [eq_of_beq e]; exact .head _
    · exact .tail _ (ih h)
theorem bindL_not {kind : Str → Option NameKind} {x : Str} (binds : List (Str × Value)) : ∀ (m : Str → Option Value), x ∉ binds.map (·.1) → bindL kind binds m x = m x := by
  induction binds with
  | nil => exact fun _ _ => rfl
  | cons p r ih =>
    intro m h
    unfold bindL
    rw [ih _ fun q => h (.tail _ q)]
    have : x ≠ p.1 := fun q => h (by rw [q]; exact .head _)
    split
    · exact if_neg this
    · rfl
theorem bindC_not {kind : Str → Option NameKind} {x : Str} (binds : List (Str × Value)) : ∀ (m : Str → Option Value), x ∉ binds.map (·.1) → bindC kind binds m x = m x := by
  induction binds with
  | nil => exact fun _ _ => rfl
  | cons p r ih =>
    intro m h
    unfold bindC
    rw [ih _ fun q => h (.tail _ q)]
    have : x ≠ p.1 := fun q => h (by rw [q]; exact .head _)
    split
    · rfl
    · exact if_neg this
theorem bind_at {kind : Str → Option NameKind} {x : Str} {v : Value} (binds : List (Str × Value)) : ∀ (m c : Str → Option Value), (binds.map (·.1)).Nodup → (x, v) ∈ binds → (kind x = some .local → bindL kind binds m x = some v) ∧ (kind x ≠ some .local → bindC kind binds c x = some v) := by
  induction binds with
  | nil => exact fun _ _ _ h => nomatch h
  | cons p r ih =>
    intro m c hn h
    have hn := List.nodup_cons.mp hn
    unfold bindL bindC
    rcases List.mem_cons.mp h with e | h
    · subst e
      rw [bindL_not r _ hn.1, bindC_not r _ hn.1]
      exact ⟨fun k => by simp [k], fun k => by simp [k]⟩
    · exact ih _ _ hn.2 h
theorem RepAll.zip {h : Heap} {names : List Str} {xs : List V} {vs : List Value} (r : RepAll h xs vs) {x : Str} {v : V} (e : (names.zip xs).lookup x = some v) : ∃ v', (x, v') ∈ names.zip vs ∧ RepV h v v' := by
  induction r generalizing names with
  | nil => cases names <;> cases e
  | cons r0 r ih => cases names with
    | nil => cases e
    | cons y names =>
      rw [List.zip_cons_cons, List.lookup_cons] at e
      split at e
      · rename_i q; cases e; rw [eq_of_beq q]; exact ⟨_, .head _, r0⟩
      · exact (ih e).elim fun v' h => ⟨v', .tail _ h.1, h.2⟩
structure Cx0 where
  w : World
  A : Around
  g : Heap
  base : Heap
  outer : List Env
  priv : List Addr
  os : OsState
  fz : List (Addr × (Obj → Prop))
  gs : Array GenState → Drawn → Prop
noncomputable def Cx0.at (C : Cx0) (env : Env) : Cx := ⟨C.w, C.A, env, env, C.g, C.base, C.outer, C.priv, C.os, C.fz, C.gs⟩
theorem deeper_guards (A : Around) (e : Env) : (A.deeper e).guards = A.guards := rfl
theorem deeper_handled (A : Around) (e : Env) : (A.deeper e).handled = A.handled := rfl
theorem ns_upTo {h h' : Heap} {a : Addr} {m : Str → Option Value} {o o' : Obj} (x : h.Ns a m) (e : h.get? a = some o) (e' : h'.get? a = some o') (u : upTo o o') : h'.Ns a m := by
  refine aside fun zk => ?_
  obtain ⟨q, es, ep, q1, q2, q3⟩ := x
  apply zk
  rw [e] at q1; cases q1
  obtain ⟨sl, rfl⟩ := u
  exact ⟨_, es, ep, e', q2, q3⟩
theorem listed {α : Type} {Q : Addr → α → Prop} (l : List Addr) (h : ∀ L ∈ l, ∃ o, Q L o) : ∃ Z : List (Addr × α), (∀ p ∈ Z, p.1 ∈ l ∧ Q p.1 p.2) ∧ ∀ L ∈ l, ∃ o, (L, o) ∈ Z := by
  induction l with
  | nil => exact ⟨[], fun _ h => (nomatch h), fun _ h => (nomatch h)⟩
  | cons a l ih =>
    refine (ih fun L hL => h L (.tail _ hL)).elim fun Z hZ => (h a (.head _)).elim fun o ho => ⟨(a, o) :: Z, fun p hp => (List.mem_cons.mp hp).elim (fun e => e ▸ ⟨.head _, ho⟩) fun hp => ⟨.tail _ (hZ.1 p hp).1, (hZ.1 p hp).2⟩, fun L hL => (List.mem_cons.mp hL).elim (fun e => ⟨o, e ▸ .head _⟩) fun hL => (hZ.2 L hL).elim fun o h' => ⟨o, .tail _ h'⟩⟩
section
variable {n : Nat} {Γ Γ' : Cx} {loc loc' : Loc} {led fp fp' : Led} {s s₂ : Shared}
theorem Ok.fr_priv (O : Ok n Γ) {L : Addr} (h : L = Γ.fenv.locals ∨ L ∈ frs Γ) : L ∈ Γ.priv ∧ Γ.base.get? L = none := by
  rcases h with rfl | h
  · exact ⟨O.pf, O.kp _ O.pf⟩
  · refine aside fun zk => ?_
    obtain ⟨e, he, hf⟩ := List.mem_filterMap.mp h
    obtain ⟨_, L', P, e1, e2, e3, e4, e5, e6, e7⟩ := O.fo e he
    apply zk
    rw [hf] at e1; cases e1
    exact ⟨(O.fl _ e6).1, e2⟩
theorem Ok.fr_g (O : Ok n Γ) (S : St Γ loc led s) {L : Addr} (h : L = Γ.fenv.locals ∨ L ∈ frs Γ) : Γ.g.get? L = none := by
  rcases h with rfl | h
  · obtain ⟨m, F⟩ := S.fr
    cases q : Γ.g.get? Γ.fenv.locals with
    | none => rfl
    | some o => exact absurd (Nat.lt_of_lt_of_le (Heap.lt_size q) F.above) (Nat.lt_irrefl _)
  · obtain ⟨e, he, hf⟩ := List.mem_filterMap.mp h
    obtain ⟨_, L', P, e1, e2, e3, e4, e5, e6, e7⟩ := O.fo e he
    rw [hf] at e1; cases e1
    exact e3
theorem Ok.fr_obj (O : Ok n Γ) (S : St Γ loc led s) {L : Addr} (h : L = Γ.fenv.locals ∨ L ∈ frs Γ) : ∃ o es k, s.heap.get? L = some o ∧ o.data = .dict es k := by
  rcases h with rfl | h
  · refine aside fun zk => ?_
    obtain ⟨m, F⟩ := S.fr
    obtain ⟨o, es, ep, h1, h2, _⟩ := F.ns
    apply zk
    exact ⟨o, es, ep, h1, h2⟩
  · obtain ⟨e, he, hf⟩ := List.mem_filterMap.mp h
    obtain ⟨_, L', P, e1, e2, e3, e4, e5, e6, e7⟩ := O.fo e he
    rw [hf] at e1; cases e1
    refine aside fun zk => ?_
    obtain ⟨o, h1, h2⟩ := S.fz _ e6
    obtain ⟨es, k, h3⟩ := e7 o h2
    apply zk
    exact ⟨o, es, k, h1, h3⟩
structure Entered (n : Nat) (Γ : Cx) (fp led : Led) (s : Shared) (Γ' : Cx) : Prop where
  os : Γ'.os = Γ.os
  gs : Γ'.gs = Γ.gs
  keep : ∀ b o, s.heap.get? b = some o → b ∉ fp.map (·.1) → b ≠ Γ.fenv.locals → b ∉ frs Γ → Γ'.g.get? b = some o
  sub : Γ.g.StaysIn Γ'.g
  priv : ∀ a ∈ exOf Γ led, a ∈ Γ'.priv
  fz : ∀ L, L = Γ.fenv.locals ∨ L ∈ frs Γ → ∃ o P, s.heap.get? L = some o ∧ (L, P) ∈ Γ'.fz ∧ (∀ o', P o' → upTo o o') ∧ (n < 100 → ∀ o', P o' → o' = o)
theorem Entered.leave (X : Entered n Γ fp led s Γ') (O : Ok (n + 1) Γ) (S : St Γ loc (fp ++ led) s) (S₂ : St Γ' loc' fp' s₂) :
    St Γ loc (fp' ++ led) s₂ ∧ Le Γ (fp ++ led) s (fp' ++ led) s₂ ∧ (vis Γ' fp' s₂).StaysIn (vis Γ (fp' ++ led) s₂) ∧ (∀ b o, s.heap.get? b = some o → b ∉ fp.map (·.1) → (b ≠ Γ.fenv.locals ∧ b ∉ frs Γ) ∨ n + 1 ≤ 100 → s₂.heap.get? b = some o) := by
  refine aside fun zk => ?_
  obtain ⟨m₂, F₂⟩ := S₂.fr
  obtain ⟨m, F⟩ := S.fr
  apply zk
  have kp : ∀ b o, s.heap.get? b = some o → b ∉ fp.map (·.1) → b ≠ Γ.fenv.locals → b ∉ frs Γ → s₂.heap.get? b = some o := fun b o e n1 n2 n3 => F₂.keep b o (X.keep b o e n1 n2 n3)
  have exfp : ∀ a ∈ fp.map (·.1), a ∈ exOf Γ (fp ++ led) := fun a ha => List.mem_append_right _ (by rw [List.map_append]; exact List.mem_append_left _ ha)
  have exled : ∀ a ∈ exOf Γ led, a ∈ exOf Γ (fp ++ led) := fun a ha => by
    rcases List.mem_append.mp ha with ha | ha
    · exact List.mem_append_left _ ha
    · exact List.mem_append_right _ (by rw [List.map_append]; exact List.mem_append_right _ ha)
  have nd2 := List.nodup_append.mp (by have := S.nd; rw [List.map_append] at this; exact this)
  have privNot : ∀ a ∈ Γ.priv, a ∉ fp.map (·.1) := fun a ha hb => by
    obtain ⟨q, hq, rfl⟩ := List.mem_map.mp hb
    exact (S.ld q (List.mem_append_left _ hq)).1 ha
  have notFr : ∀ b, b ∉ Γ.priv → b ≠ Γ.fenv.locals ∧ b ∉ frs Γ := fun b hb => ⟨fun q => hb (q ▸ O.pf), fun q => hb (O.fr_priv (.inr q)).1⟩
  have up : ∀ b o, s.heap.get? b = some o → b ∈ Γ.priv → ∃ o', s₂.heap.get? b = some o' ∧ upTo o o' := fun b o e hb => by
    by_cases q : b = Γ.fenv.locals ∨ b ∈ frs Γ
    · obtain ⟨o1, P, e1, hm, u1, _⟩ := X.fz b q
      obtain ⟨o2, e2, u⟩ := S₂.fz _ hm
      rw [e] at e1; cases e1
      exact ⟨o2, e2, u1 _ u⟩
    · exact ⟨o, kp b o e (privNot b hb) (fun z => q (.inl z)) (fun z => q (.inr z)), ⟨o.slots, rfl⟩⟩
  have vis₂ : (vis Γ' fp' s₂).StaysIn (vis Γ (fp' ++ led) s₂) := fun b o e => by
    have e1 := vget (e)
    have e2 := vout (e)
    refine vmk e1 (fun hb => e2 ?_)
    rcases List.mem_append.mp hb with hb | hb
    · exact List.mem_append_left _ (X.priv b (List.mem_append_left _ hb))
    · rw [List.map_append] at hb
      rcases List.mem_append.mp hb with hb | hb
      · exact List.mem_append_right _ hb
      · exact List.mem_append_left _ (X.priv b (List.mem_append_right _ hb))
  have le : Le Γ (fp ++ led) s (fp' ++ led) s₂ := fun b o e => by
    have e1 := vget (e)
    have e2 := vout (e)
    have nb : b ∉ fp.map (·.1) := fun hb => e2 (exfp b hb)
    have np : b ∉ Γ.priv := fun hb => e2 (List.mem_append_left _ hb)
    obtain ⟨n1, n2⟩ := notFr b np
    refine vmk (kp b o e1 nb n1 n2) (fun hb => ?_)
    rcases List.mem_append.mp hb with hb | hb
    · exact np hb
    · rw [List.map_append] at hb
      rcases List.mem_append.mp hb with hb | hb
      · obtain ⟨q, hq, rfl⟩ := List.mem_map.mp hb
        have := (S₂.ld q hq).2.1
        rw [X.keep _ _ e1 nb n1 n2] at this; cases this
      · exact e2 (exled b (List.mem_append_right _ hb))
  refine ⟨⟨⟨m, ?_, fun b o e => F₂.keep b o (X.sub b o e), F.above⟩, ?_, fun q hq => ?_, ?_, fun a ha => ?_, S₂.os.trans X.os, X.gs ▸ S₂.gn, fun p hp => ?_⟩, le, vis₂, fun b o e n1 n2 => ?_⟩
  · obtain ⟨oL, es, ep, q1, q2⟩ := F.ns
    obtain ⟨o', e', u⟩ := up _ _ q1 O.pf
    exact ns_upTo F.ns q1 e' u
  · refine aside fun zk => ?_
    obtain ⟨m0, cm0, n1, n2, n3⟩ := S.nm
    obtain ⟨oL, es, ep, q1, q2⟩ := id n1
    obtain ⟨o', e', u⟩ := up _ _ q1 O.pl
    apply zk
    refine ⟨m0, cm0, ns_upTo n1 q1 e' u, fun y a e => ?_, fun y u e => ?_⟩
    · refine aside fun zk => ?_
      obtain ⟨o, ho, hd⟩ := n2 y a e
      obtain ⟨c1, c2, c3, c4, c5⟩ := O.ce y a e
      apply zk
      exact ⟨o, kp _ _ ho (privNot _ c1) c4 c5, hd⟩
    · obtain ⟨u', e', r⟩ := n3 y u e
      exact ⟨u', e', r.keeps le⟩
  · rcases List.mem_append.mp hq with hq | hq
    · obtain ⟨h1, h2, o, h3, h4⟩ := S₂.ld q hq
      refine ⟨fun hb => h1 (X.priv _ (List.mem_append_left _ hb)), ?_, o, h3, q.2.mono (.of vis₂) h4⟩
      cases z : Γ.g.get? q.1 with
      | none => rfl
      | some o => rw [X.sub _ _ z] at h2; cases h2
    · refine aside fun zk => ?_
      obtain ⟨h1, h2, o, h3, h4⟩ := S.ld q (List.mem_append_right _ hq)
      obtain ⟨n1, n2⟩ := notFr _ h1
      apply zk
      refine ⟨h1, h2, o, kp _ _ h3 (fun hb => ?_) n1 n2, q.2.mono (.of le) h4⟩
      exact nd2.2.2 _ hb _ (List.mem_map_of_mem hq) rfl
  · rw [List.map_append]
    refine List.nodup_append.mpr ⟨S₂.nd, nd2.2.1, fun a ha b hb q => ?_⟩
    subst q
    obtain ⟨q, hq, rfl⟩ := List.mem_map.mp ha
    exact (S₂.ld q hq).1 (X.priv _ (List.mem_append_right _ hb))
  · obtain ⟨o, e⟩ := S.pv a ha
    obtain ⟨o', e', _⟩ := up _ _ e ha
    exact ⟨o', e'⟩
  · refine aside fun zk => ?_
    obtain ⟨o, e, r⟩ := S.fz p hp
    obtain ⟨o', e', x, rfl⟩ := up _ _ e (O.fl p hp).1
    apply zk
    by_cases q : p.1 = Γ.fenv.locals ∨ p.1 ∈ frs Γ
    · by_cases hn : 100 ≤ n + 1
      · exact ⟨_, e', O.fc hn p hp q o x r⟩
      · refine aside fun zk => ?_
        obtain ⟨o1, P, e1, hm, _, u1⟩ := X.fz _ q
        obtain ⟨o2, e2, u⟩ := S₂.fz _ hm
        apply zk
        rw [e] at e1; cases e1
        exact ⟨o, by rw [e2, u1 (by lia) o2 u], r⟩
    · exact ⟨o, kp _ _ e (privNot _ (O.fl p hp).1) (fun z => q (.inl z)) (fun z => q (.inr z)), r⟩
  · by_cases q : b = Γ.fenv.locals ∨ b ∈ frs Γ
    · rcases n2 with ⟨n2, n3⟩ | hn
      · exact (q.elim n2 n3).elim
      · refine aside fun zk => ?_
        obtain ⟨o1, P, e1, hm, _, u1⟩ := X.fz _ q
        obtain ⟨o2, e2, u⟩ := S₂.fz _ hm
        apply zk
        rw [e] at e1; cases e1
        rw [e2, u1 (by lia) o2 u]
    · exact kp b o e n1 (fun z => q (.inl z)) (fun z => q (.inr z))
end
theorem enter_st {n : Nat} {Γ : Cx} {loc : Loc} {led fp : Led} {s : Shared} {f : Addr} {args : List V} {vals : List Value} {qual : Str} {scope : Scope} {cdv : Value} {names : List Str}
    (hkind : (names.all fun y => scope.names.lookup y == some .local || scope.names.lookup y == some .cell) = true)
    (hnd : ((cellsFrom 0 scope.names []).map (·.1)).Nodup) (hnn : names.Nodup) (hlen : names.length ≤ args.length)
    (hk : scope.kind = .function) (O : Ok (n + 1) Γ) (S : St Γ loc (fp ++ led) s) (rs : RepAll (vis Γ (fp ++ led) s) args vals)
    {E : Value → Shared → Prop} {K : Env → Shared → Prop} (h : ∀ (C : Cx0) (L : Addr) s₁, C.w = Γ.w → C.A = Γ.A.deeper (envOfC qual scope L f cdv) → C.outer = Γ.fenv :: Γ.outer → C.base = Γ.base → s₁.heap.NoLimit → Ok n (C.at (envOfC qual scope L f cdv)) → Entered n Γ fp led s (C.at (envOfC qual scope L f cdv)) →
      St (C.at (envOfC qual scope L f cdv)) (names.zip args) fp s₁ → K (envOfC qual scope L f cdv) s₁) :
    wpAny (MM Γ.w) Γ.A.in1 (newFunctionEnv scope mainGlobals [] (names.zip vals) (qual ++ ".<locals>.") (some f) cdv none builtinsNs) K E s := by
  refine aside fun zk => ?_
  obtain ⟨m, F⟩ := S.fr
  obtain ⟨p, loose, mg, mb, T⟩ := O.T
  obtain ⟨Z, hZ1, hZ2⟩ := listed (Q := fun L o => s.heap.get? L = some o ∧ ∃ es k, o.data = .dict es k) (Γ.fenv.locals :: frs Γ) fun L hL => by
    obtain ⟨o, es, k, h1, h2⟩ := O.fr_obj S (List.mem_cons.mp hL)
    exact ⟨o, h1, es, k, h2⟩
  apply zk
  have hkk : ∀ k, ∀ x ∈ names.zip vals, scope.names.lookup x.1 = some .local ∨ (scope.names.lookup x.1 = some .cell ∧ ((cellsFrom k scope.names []).lookup x.1).isSome = true) :=
    kindsX (List.all_eq_true.mpr fun y hy => List.all_eq_true.mp hkind y.1 (List.of_mem_zip hy).1)
  refine wpAny_newFunctionEnv_cells hk (hkk _) fun env' he s' x => ?_
  subst he
  obtain ⟨h₁, tk, rfl, _⟩ := x.done
  have hk₁ := x.toInCall.keep
  let hid : List Addr := fp.map (·.1) ++ (Γ.fenv.locals :: frs Γ)
  generalize hg : hideAll s.heap hid = g
  have gIn : ∀ b o, s.heap.get? b = some o → b ∉ fp.map (·.1) → b ≠ Γ.fenv.locals → b ∉ frs Γ → g.get? b = some o := fun b o e n1 n2 n3 => by
    rw [← hg]; exact hideAll_get _ e fun hb => by
      rcases List.mem_append.mp hb with hb | hb
      · exact n1 hb
      · exact (List.mem_cons.mp hb).elim n2 n3
  have gOut : ∀ b o, g.get? b = some o → s.heap.get? b = some o ∧ b ∉ hid := fun b o e => by rw [← hg] at e; exact hideAll_iff.mp e
  have gNone : ∀ b, b ∈ hid → g.get? b = none := fun b hb => by rw [← hg]; exact hideAll_none _ hb
  have gFresh : ∀ b, s.heap.objs.size ≤ b → g.get? b = none := fun b hb => by
    cases q : g.get? b with
    | none => rfl
    | some o => exact absurd (Heap.lt_size (gOut b o q).1) (Nat.not_lt.mpr hb)
  have st : Γ.g.StaysIn g := fun b o e => gIn b o (F.keep b o e) (fun hb => by
      obtain ⟨q, hq, rfl⟩ := List.mem_map.mp hb
      have := (S.ld q (List.mem_append_left _ hq)).2.1
      rw [e] at this; cases this) (fun q => by rw [O.fr_g S (.inl q)] at e; cases e) (fun q => by rw [O.fr_g S (.inr q)] at e; cases e)
  let L' : Addr := s.heap.objs.size
  let cells := cellsFrom (L' + 1) scope.names []
  let C : Cx0 := ⟨Γ.w, Γ.A.deeper (envOfC qual scope L' f cdv), g, Γ.base, Γ.fenv :: Γ.outer, L' :: (cells.map (·.2) ++ exOf Γ led), Γ.os, Z.map fun p => (p.1, if 100 ≤ n then upTo p.2 else fun o => o = p.2), Γ.gs⟩
  have cge : ∀ y a, (y, a) ∈ cells → L' < a := fun y a hm => x.above y a hm
  have exlt := S.ex_lt
  have exfp : ∀ a ∈ fp.map (·.1), a ∈ exOf Γ (fp ++ led) := fun a ha => List.mem_append_right _ (by rw [List.map_append]; exact List.mem_append_left _ ha)
  have exled : ∀ a ∈ exOf Γ led, a ∈ exOf Γ (fp ++ led) := fun a ha => by
    rcases List.mem_append.mp ha with ha | ha
    · exact List.mem_append_left _ ha
    · exact List.mem_append_right _ (by rw [List.map_append]; exact List.mem_append_right _ ha)
  have nd2 := List.nodup_append.mp (by have := S.nd; rw [List.map_append] at this; exact this)
  have Fh : Fr g L' h₁ (bindL (envOfC qual scope L' f cdv).kindOf (names.zip vals) fun _ => none) := ⟨x.toInCall.ns, fun b o e => hk₁ b o (gOut b o e).1, by rw [← hg]; exact Nat.le_of_eq (hideAll_size _ _)⟩
  have bFresh : ∀ b, s.heap.objs.size ≤ b → Γ.base.get? b = none := fun b hb => by
    cases q : Γ.base.get? b with
    | none => rfl
    | some o => exact absurd (Heap.lt_size (F.keep b o (O.bs b o q))) (Nat.not_lt.mpr hb)
  have baseNone : ∀ a ∈ L' :: (cells.map (·.2) ++ exOf Γ led), Γ.base.get? a = none := fun a ha => by
    rcases List.mem_cons.mp ha with rfl | ha
    · exact bFresh _ (Nat.le_refl _)
    · rcases List.mem_append.mp ha with ha | ha
      · obtain ⟨q, hq, rfl⟩ := List.mem_map.mp ha
        exact bFresh _ (Nat.le_of_lt (cge q.1 q.2 hq))
      · rcases List.mem_append.mp ha with ha | ha
        · exact O.kp a ha
        · obtain ⟨q, hq, rfl⟩ := List.mem_map.mp ha
          cases z : Γ.base.get? q.1 with
          | none => rfl
          | some o =>
            have := (S.ld q (List.mem_append_right _ hq)).2.1
            rw [O.bs _ _ z] at this; cases this
  have zlt : ∀ p ∈ Z, p.1 < L' := fun p hp => Heap.lt_size (hZ1 p hp).2.1
  have frlt : ∀ L, L = Γ.fenv.locals ∨ L ∈ frs Γ → L < L' := fun L hL => by obtain ⟨o, _, _, h1, _⟩ := O.fr_obj S hL; exact Heap.lt_size h1
  have frs' : ∀ L, L ∈ frs (C.at (envOfC qual scope L' f cdv)) → L = Γ.fenv.locals ∨ L ∈ frs Γ := fun L hL => by
    obtain ⟨e, he, hf⟩ := List.mem_filterMap.mp hL
    rcases List.mem_cons.mp he with rfl | he
    · rw [O.hf] at hf; cases hf; exact .inl rfl
    · exact .inr (List.mem_filterMap.mpr ⟨e, he, hf⟩)
  have zOf : ∀ L, L = Γ.fenv.locals ∨ L ∈ frs Γ → ∃ o, s.heap.get? L = some o ∧ (L, o) ∈ Z ∧ ∃ es k, o.data = .dict es k := fun L hL => by
    obtain ⟨o, ho⟩ := hZ2 L (List.mem_cons.mpr hL)
    exact ⟨o, (hZ1 _ ho).2.1, ho, (hZ1 _ ho).2.2⟩
  have upd : ∀ {o o' : Obj}, (if 100 ≤ n then upTo o else fun o' => o' = o) o' → (∃ es k, o.data = .dict es k) → ∃ es k, o'.data = .dict es k := fun {o o'} hu hd => by
    split at hu
    · obtain ⟨x, e⟩ := hu; subst e; exact hd
    · subst hu; exact hd
  have O' : Ok n (C.at (envOfC qual scope L' f cdv)) := {
    bs := fun b o e => st b o (O.bs b o e)
    X := fun a o e => st a o (O.X a o e)
    T := ⟨p, loose, mg, mb, ⟨T.g.keeps st, T.b.keeps st, T.nolimit.keeps st, T.builtins, T.free⟩⟩
    bm := let ⟨ob, e, r⟩ := O.bm; ⟨ob, st _ _ e, r⟩
    hA := fun h => Around.frames_deeper (O.hA (by lia))
    hf := rfl
    hk := hk
    ek := hk
    eg := rfl
    eb := rfl
    hh := O.hh
    gu := fun h => O.gu (by lia)
    gb := fun h => O.gb (by lia)
    un := by have := O.un; show Γ.A.units + 3 + 4 * n ≤ 1000; lia
    dp := by have := O.dp; show Γ.A.depth + 1 + n ≤ 900; lia
    pl := .head _
    pf := .head _
    lg := gFresh _ (Nat.le_refl _)
    ce := fun y a e => by
      have hm := mem_of_lookup e
      have := cge y a hm
      exact ⟨.tail _ (List.mem_append_left _ (List.mem_map_of_mem hm)), gFresh a (Nat.le_of_lt this), Nat.ne_of_gt this, Nat.ne_of_gt this, fun q => Nat.lt_irrefl _ (Nat.lt_trans this (frlt a (frs' a q)))⟩
    ci := fun y z a e1 e2 => cellsFrom_inj scope.names (L' + 1) [] (fun _ h => nomatch h) (fun _ h => nomatch h) (y, a) (mem_of_lookup e1) (z, a) (mem_of_lookup e2) rfl
    fl := fun p hp => by
      obtain ⟨q, hq, rfl⟩ := List.mem_map.mp hp
      exact ⟨.tail _ (List.mem_append_right _ (List.mem_append_left _ (O.fr_priv (List.mem_cons.mp (hZ1 q hq).1)).1)), Nat.ne_of_lt (zlt q hq)⟩
    fe := fun _ p hp y a e => by
      obtain ⟨q, hq, rfl⟩ := List.mem_map.mp hp
      exact Nat.ne_of_lt (Nat.lt_trans (zlt q hq) (cge y a (mem_of_lookup e)))
    fo := fun e he => by
      rcases List.mem_cons.mp he with rfl | he
      · obtain ⟨o, h1, h2, h3⟩ := zOf _ (.inl rfl)
        exact ⟨by rw [O.hk]; decide, _, _, O.hf, O.kp _ O.pf, gNone _ (List.mem_append_right _ (.head _)), Nat.ne_of_lt (Heap.lt_size h1), Nat.ne_of_lt (Heap.lt_size h1), List.mem_map_of_mem h2, fun o' u => upd u h3⟩
      · obtain ⟨e0, L, P, e1, e2, e3, e4, e5, e6, e7⟩ := O.fo e he
        have hL : L ∈ frs Γ := List.mem_filterMap.mpr ⟨e, he, e1⟩
        obtain ⟨o, h1, h2, h3⟩ := zOf _ (.inr hL)
        exact ⟨e0, _, _, e1, e2, gNone _ (List.mem_append_right _ (.tail _ hL)), Nat.ne_of_lt (Heap.lt_size h1), Nat.ne_of_lt (Heap.lt_size h1), List.mem_map_of_mem h2, fun o' u => upd u h3⟩
    fc := fun hn p hp _ o x r => by
      obtain ⟨q, hq, rfl⟩ := List.mem_map.mp hp
      simp only [if_pos hn] at r ⊢
      obtain ⟨y, rfl⟩ := r
      exact ⟨x, rfl⟩
    kb := O.kb
    kp := fun a ha => baseNone a ha }
  have visSub : (vis Γ (fp ++ led) s).StaysIn (vis (C.at (envOfC qual scope L' f cdv)) fp { s with heap := h₁, toks := tk }) := fun b o e => by
    have e1 := vget (e)
    have e2 := vout (e)
    refine vmk (hk₁ b o e1) (fun hb => ?_)
    rcases List.mem_append.mp hb with hb | hb
    · rcases List.mem_cons.mp hb with hb | hb
      · exact Nat.lt_irrefl _ (hb ▸ Heap.lt_size e1)
      · rcases List.mem_append.mp hb with hb | hb
        · obtain ⟨q, hq, rfl⟩ := List.mem_map.mp hb
          exact Nat.lt_irrefl _ (Nat.lt_trans (cge q.1 q.2 hq) (Heap.lt_size e1))
        · exact e2 (exled b hb)
    · exact e2 (exfp b hb)
  have S' : St (C.at (envOfC qual scope L' f cdv)) (names.zip args) fp { s with heap := h₁, toks := tk } := {
    fr := ⟨_, Fh⟩
    nm := ⟨_, _, x.toInCall.ns, fun y a e => x.cell y a e, fun y u e => by
      obtain ⟨v', hm, r⟩ := RepAll.zip rs e
      refine ⟨v', ?_, r.keeps visSub⟩
      have hz : ((names.zip vals).map (·.1)).Nodup := by
        rw [List.map_fst_zip (by rw [rs.length]; exact hlen)]; exact hnn
      have hb := bind_at (kind := (envOfC qual scope L' f cdv).kindOf) (names.zip vals) (fun _ => none) (fun _ => none) hz hm
      have hq := hkk (L' + 1) _ hm
      show nmOf (C.at (envOfC qual scope L' f cdv)) _ _ y = some v'
      unfold nmOf
      have ek : (envOfC qual scope L' f cdv).kindOf y = scope.names.lookup y := rfl
      show (match (envOfC qual scope L' f cdv).kindOf y with | some .local => _ | some .cell => _ | some .free => _ | _ => _) = some v'
      rcases hq with hq | ⟨hq, hs⟩
      · rw [ek, hq]; exact hb.1 (ek.trans hq)
      · rw [ek, hq]
        obtain ⟨a, ha⟩ := Option.isSome_iff_exists.mp hs
        show ((cellsFrom (L' + 1) scope.names []).lookup y).bind _ = some v'
        rw [ha]
        exact hb.2 (by rw [ek, hq]; intro q; cases q)⟩
    ld := fun q hq => by
      obtain ⟨h1, h2, o, h3, h4⟩ := S.ld q (List.mem_append_left _ hq)
      refine ⟨fun hb => ?_, gNone _ (List.mem_append_left _ (List.mem_map_of_mem hq)), o, hk₁ _ _ h3, q.2.mono (.of visSub) h4⟩
      rcases List.mem_cons.mp hb with hb | hb
      · exact Nat.lt_irrefl _ (hb ▸ Heap.lt_size h3)
      · rcases List.mem_append.mp hb with hb | hb
        · obtain ⟨z, hz, e⟩ := List.mem_map.mp hb
          exact Nat.lt_irrefl _ (Nat.lt_trans (cge z.1 z.2 hz) (e ▸ Heap.lt_size h3))
        · rcases List.mem_append.mp hb with hb | hb
          · exact h1 hb
          · exact nd2.2.2 _ (List.mem_map_of_mem hq) _ hb rfl
    nd := nd2.1
    pv := fun a ha => by
      rcases List.mem_cons.mp ha with rfl | ha
      · obtain ⟨o, _, _, e, _⟩ := x.toInCall.ns; exact ⟨o, e⟩
      · rcases List.mem_append.mp ha with ha | ha
        · obtain ⟨z, hz, rfl⟩ := List.mem_map.mp ha
          have hz' : (cellsFrom (L' + 1) scope.names []).lookup z.1 = some z.2 := lookup_of_mem_nodup (by have := cellsFrom_names scope.names 0 (L' + 1) [] [] rfl; rw [← this]; exact hnd) hz
          obtain ⟨o, e, _⟩ := x.cell z.1 z.2 hz'
          exact ⟨o, e⟩
        · rcases List.mem_append.mp ha with ha | ha
          · obtain ⟨o, e⟩ := S.pv a ha; exact ⟨o, hk₁ _ _ e⟩
          · obtain ⟨q, hq, rfl⟩ := List.mem_map.mp ha
            obtain ⟨_, _, o, e, _⟩ := S.ld q (List.mem_append_right _ hq)
            exact ⟨o, hk₁ _ _ e⟩
    os := S.os
    gn := S.gn
    fz := fun p hp => by
      obtain ⟨q, hq, rfl⟩ := List.mem_map.mp hp
      refine ⟨q.2, hk₁ _ _ (hZ1 q hq).2.1, ?_⟩
      show (if 100 ≤ n then upTo q.2 else fun o => o = q.2) q.2
      split
      · exact ⟨q.2.slots, rfl⟩
      · rfl }
  refine h C L' _ rfl rfl rfl rfl ((T.nolimit.keeps F.keep).keeps hk₁) O' ⟨rfl, rfl, fun b o e n1 n2 n3 => gIn b o e n1 n2 n3, st, fun a ha => .tail _ (List.mem_append_right _ ha), fun L hL => ?_⟩ S'
  refine aside fun zk => ?_
  obtain ⟨o, h1, h2, _⟩ := zOf L hL
  apply zk
  refine ⟨o, _, h1, List.mem_map_of_mem (f := fun p : Addr × Obj => (p.1, if 100 ≤ n then upTo p.2 else fun o => o = p.2)) h2, fun o' hu => ?_, fun hn o' hu => ?_⟩
  · split at hu
    · exact hu
    · exact ⟨o.slots, hu⟩
  · rw [if_neg (by lia)] at hu; exact hu
noncomputable def ExG (Γ : Cx) (loc : Loc) (led : Led) (b : List Stmt) (P : Out → Prop) : Prop :=
  ∀ s (Q : Flow → Shared → Prop) (E : Value → Shared → Prop), St Γ loc led s → (∀ o f s', P o → Ox Γ led s o f s' → Q f s') → wpAny (MM Γ.w) Γ.A (execs b Γ.env) Q E s
theorem Ex.toG {Γ : Cx} {loc : Loc} {led : Led} {b : List Stmt} {o : Out} {P : Out → Prop} (h : Ex Γ loc led b o) (hP : P o) : ExG Γ loc led b P := fun s Q E S k => h s Q E S fun f s' x => k o f s' hP x
noncomputable def Out.back (P : V → Led → Prop) : Out → Prop
  | .ret v _ d => P v d
  | .next _ d => P (.d .none) d
  | .brk _ d => P (.d .none) d
  | .cont _ d => P (.d .none) d
noncomputable def OpG (n : Nat) (f : List Value → Sem Value) (args : List V) (fp : Led) (P : V → Led → Prop) : Prop :=
  ∀ (Γ : Cx) (loc : Loc) (led : Led) (s : Shared) (vals : List Value) (Q : Value → Shared → Prop) (E : Value → Shared → Prop), Ok n Γ → St Γ loc (fp ++ led) s → RepAll (vis Γ (fp ++ led) s) args vals →
    (∀ v fp' v' s', P v fp' → St Γ loc (fp' ++ led) s' → Le Γ (fp ++ led) s (fp' ++ led) s' → RepV (vis Γ (fp' ++ led) s') v v' →
      (∀ b o, s.heap.get? b = some o → b ∉ fp.map (·.1) → (b ≠ Γ.fenv.locals ∧ b ∉ frs Γ) ∨ n ≤ 100 → s'.heap.get? b = some o) → Q v' s') → wpAny (MM Γ.w) Γ.A (f vals) Q E s
theorem OpG.toN {n : Nat} {f : List Value → Sem Value} {args : List V} {fp fp' : Led} {v : V} (h : OpG n f args fp (fun w d => w = v ∧ d = fp')) : OpN n f args fp v fp' := fun Γ loc led s vals Q E O S rs k =>
  h Γ loc led s vals Q E O S rs fun v1 d v' s' P S' le r _ => by obtain ⟨rfl, rfl⟩ := P; exact k v' s' S' le r
noncomputable def Binds (fd : FuncData) (names : List Str) (args args' : List V) : Prop :=
  ∀ (Γ : Cx) (loc : Loc) (led : Led) (s : Shared) (vals : List Value) (A : Around) (Q : List (Str × Value) → Shared → Prop) (E : Value → Shared → Prop), (KF Γ.w).In s.heap → St Γ loc led s → RepAll (vis Γ led s) args vals →
    (∀ s' vals', St Γ loc led s' → Le Γ led s led s' → (∀ b o, s.heap.get? b = some o → s'.heap.get? b = some o) → RepAll (vis Γ led s') args' vals' → Q (names.zip vals') s') → wpAny (MM Γ.w) A (bindArgs fd ⟨vals, []⟩) Q E s
theorem call_defG {n : Nat} {f : Addr} {args args' : List V} {fp : Led} {P : V → Led → Prop} {name qual : Str} {params : Arguments} {body : List Stmt} {scope : Scope} {dV kV doc pm cdv ct oc : Value} {an od : Option Addr} {osl : Array (Option Value)} (names : List Str)
    (ho : ∀ w, (KF w).lookup f = some ⟨oc, od, .func (fnX name qual params body scope [] dV kV doc pm an cdv ct), osl⟩) (hcd : ∀ w, codeIn (KF w) cdv qual = true)
    (hbind : Binds (fnX name qual params body scope [] dV kV doc pm an cdv ct) names args args')
    (hkind : (names.all fun y => scope.names.lookup y == some .local || scope.names.lookup y == some .cell) = true)
    (hnd : ((cellsFrom 0 scope.names []).map (·.1)).Nodup) (hnn : names.Nodup) (hlen : names.length ≤ args'.length)
    (hbody : ∀ (C : Cx0) (L : Addr), Ok n (C.at (envOfC qual scope L f cdv)) → ExG (C.at (envOfC qual scope L f cdv)) (names.zip args') fp body (Out.back P))
    (hco : autoParam (scope.isCoroutine = false) aR) (hgen : autoParam (scope.isGenerator = false) aR) (hk : autoParam (scope.kind = .function) aR) : OpG (n + 1) (fun vals => call (.ref f) vals) args fp P := by
  intro Γ loc led s vals Q E O S rs h
  have Xs := KX O S
  refine wpAny_call (codeAny_call_function (by have := O.dp; show Γ.A.depth < 1000; lia) (Xs _ _ (ho Γ.w)) rfl hco hgen rfl (codeRec_of Xs (hcd Γ.w)) (hbind Γ loc (fp ++ led) s vals _ _ _ Xs S rs fun s0 vals' S0 le0 k0 rs' => ?_))
  refine enter_st hkind hnd hnn hlen hk O S0 rs' fun C L s₁ hw hA _ _ hl O' EN S' => ⟨hl, codeAny_func ?_⟩
  have hb := hbody C L O'
  unfold ExG at hb
  rw [show (C.at (envOfC qual scope L f cdv)).w = Γ.w from hw, show (C.at (envOfC qual scope L f cdv)).A = Γ.A.deeper (envOfC qual scope L f cdv) from hA] at hb
  refine hb s₁ _ _ S' fun o fl s₂ hP ox => ?_
  have go : ∀ v loc' fp' v', P v fp' → St (C.at (envOfC qual scope L f cdv)) loc' fp' s₂ → RepV (vis (C.at (envOfC qual scope L f cdv)) fp' s₂) v v' → Q v' s₂ := fun v loc' fp' v' hP S₂ r => by
    obtain ⟨SS, le, vs, kp⟩ := EN.leave O S0 S₂
    exact h v fp' v' s₂ hP SS (le0.trans le) (r.keeps vs) fun b o e => kp b o (k0 b o e)
  cases o with
  | ret v loc' fp' => obtain ⟨v', rfl, S₂, le₂, r⟩ := ox; exact go v loc' fp' v' hP S₂ r
  | next loc' fp' => obtain ⟨rfl, S₂, le₂⟩ := ox; exact go _ loc' fp' _ hP S₂ of_none
  | brk loc' fp' => obtain ⟨rfl, S₂, le₂⟩ := ox; exact go _ loc' fp' _ hP S₂ of_none
  | cont loc' fp' => obtain ⟨rfl, S₂, le₂⟩ := ox; exact go _ loc' fp' _ hP S₂ of_none
theorem RepAll.app {h : Heap} {xs ys : List V} {us ws : List Value} (a : RepAll h xs us) (b : RepAll h ys ws) : RepAll h (xs ++ ys) (us ++ ws) := by
  induction a with
  | nil => exact b
  | cons r _ ih => exact .cons r ih
theorem call_def {n : Nat} {f : Addr} {args more : List V} {fp fp' : Led} {v : V} {name qual : Str} {params : Arguments} {body : List Stmt} {scope : Scope} {dV kV doc pm cdv ct oc : Value} {an od : Option Addr} {osl : Array (Option Value)} (names : List Str)
    (ho : ∀ w, (KF w).lookup f = some ⟨oc, od, .func (fnX name qual params body scope [] dV kV doc pm an cdv ct), osl⟩) (hcd : ∀ w, codeIn (KF w) cdv qual = true)
    (hbind : ∀ s vals, (∃ w, (KF w).In s.heap) → vals.length = args.length → ∃ mv, BindsTo s (fnX name qual params body scope [] dV kV doc pm an cdv ct) ⟨vals, []⟩ (names.zip (vals ++ mv)) ∧ ∀ h, RepAll h more mv)
    (hkind : (names.all fun y => scope.names.lookup y == some .local || scope.names.lookup y == some .cell) = true)
    (hnd : ((cellsFrom 0 scope.names []).map (·.1)).Nodup) (hnn : names.Nodup) (hlen : names.length ≤ (args ++ more).length)
    (hbody : ∀ (C : Cx0) (L : Addr), Ok n (C.at (envOfC qual scope L f cdv)) → ∃ loc', Ex (C.at (envOfC qual scope L f cdv)) (names.zip (args ++ more)) fp body (.ret v loc' fp'))
    (hco : autoParam (scope.isCoroutine = false) aR) (hgen : autoParam (scope.isGenerator = false) aR) (hk : autoParam (scope.kind = .function) aR) : OpN (n + 1) (fun vals => call (.ref f) vals) args fp v fp' :=
  OpG.toN (call_defG (P := fun w d => w = v ∧ d = fp') (args' := args ++ more) names ho hcd (fun Γ loc led s vals A Q E X S rs h => by
    refine aside fun zk => ?_
    obtain ⟨mv, hB, rm⟩ := hbind s vals ⟨_, X⟩ rs.length
    apply zk
    exact hB _ _ _ _ (h s _ S Le.rfl (fun _ _ e => e) (rs.app (rm _)))) hkind hnd hnn hlen (fun C L O => let ⟨_, h⟩ := hbody C L O; h.toG ⟨rfl, rfl⟩) hco hgen hk)
end
section
noncomputable def slV (lo hi st : Option Int) : V := .ab ⟨fun h v => ∃ a o vl vu vs, v = .ref a ∧ h.get? a = some o ∧ o.cls = .type "slice" ∧ o.data = .fields #[vl, vu, vs] ∧ IsPart vl lo ∧ IsPart vu hi ∧ IsPart vs st,
  fun k ⟨a, o, vl, vu, vs, h1, h2, h3, r⟩ => ⟨a, o, vl, vu, vs, h1, k _ _ h2 ⟨_, by decide, h3⟩, h3, r⟩⟩
noncomputable def rangeV (n : Int) : V := .ab ⟨fun h v => ∃ a t u w, v = .ref a ∧ h.get? a = some { cls := .type "range", data := .fields #[.int 0 t, .int n u, .int 1 w] },
  fun k ⟨a, t, u, w, h1, h2⟩ => ⟨a, t, u, w, h1, k _ _ h2 ⟨_, by decide, rfl⟩⟩⟩
noncomputable def tk (x : Str) (a : Nat) : Str := ⟨(x.cps.toList.take a).toArray⟩
noncomputable def dr (x : Str) (a : Nat) : Str := ⟨(x.cps.toList.drop a).toArray⟩
theorem tk_len (x : Str) (a : Nat) : (tk x a).length ≤ x.length := by simp [tk, Str.length]; lia
theorem dr_len (x : Str) (a : Nat) : (dr x a).length ≤ x.length := by simp [dr, Str.length]
theorem big : sizeLine = 16777216 := by decide
section
variable {n : Nat} {Γ : Cx} {loc loc' loc1 loc2 loc3 : Loc} {led led' led1 led2 led3 fp fp' : Led} {s : Shared}
noncomputable def TyIs (x : V) (T : String) : Prop := ∀ (Γ : Cx) (led : Led) (s : Shared) (v : Value), RepV (vis Γ led s) x v → s.TypeIs v T
theorem ty_list {xs : List PyData} : TyIs (.d (.list xs)) "list" := fun Γ led s v r => by
  obtain ⟨a, o, vs, k, as, rfl, h1, h2, h3, h4⟩ := rep_list r; exact ⟨o, (vget h1), h2⟩
theorem ty_tuple {xs : List PyData} : TyIs (.d (.tuple xs)) "tuple" := fun Γ led s v r => by
  obtain ⟨a, o, vs, k, as, rfl, h1, h2, h3, h4⟩ := rep_tuple r; exact ⟨o, (vget h1), h2⟩
theorem ty_str {x : Str} : TyIs (.d (.str x)) "str" := fun Γ led s v r => by
  obtain ⟨t, rfl⟩ := rep_str r; exact typeIs_str s x t
noncomputable def HasItem (x : V) : Prop := ∃ T id, TyIs x T ∧ typeLookup (.type T) "__getitem__" = pure (some (.builtin id))
theorem item_list {xs : List PyData} : HasItem (.d (.list xs)) := ⟨"list", _, ty_list, PySem.slot_list_getitem.lookup⟩
theorem item_tuple {xs : List PyData} : HasItem (.d (.tuple xs)) := ⟨"tuple", _, ty_tuple, F.slot_tuple_getitem.lookup⟩
theorem item_str {x : Str} : HasItem (.d (.str x)) := ⟨"str", _, ty_str, F.slot_str_getitem.lookup⟩
theorem Ev.sub (O : Ok n Γ) {value slice : Expr} {pos : Pos} {x i v : V} (h1 : Ev Γ loc led value x loc1 led1) (h2 : Ev Γ loc1 led1 slice i loc2 led2) (hx : HasItem x) (ho : Op2 getItem x i v)
    (hs : autoParam (∀ o i, ∃ ops, subscripted slice false o i = operate ops (getItem o i)) aE) : Ev Γ loc led (.Subscript value slice pos) v loc2 led2 := fun s Q E S h => by
  refine aside fun zk => ?_
  obtain ⟨T, id, hT, hl⟩ := hx
  apply zk
  refine Subscript_ (h1 s _ E S fun a s1 S1 le1 ra => h2 s1 _ E S1 fun b s2 S2 le2 rb => ?_)
  obtain ⟨ops, e⟩ := hs a b
  exact tail_any (hT _ _ _ _ (ra.keeps le2)) hl (ho n Γ loc2 led2 s2 a b Q E O S2 (ra.keeps le2) rb fun v' s3 S3 le3 rv => h v' s3 S3 (le1.trans (le2.trans le3)) rv) e
noncomputable def Pt (Γ : Cx) (loc : Loc) (led : Led) (e : Option Expr) (k : Option Int) (loc' : Loc) (led' : Led) : Prop := ∀ s, Tr Γ loc led (evalPart e Γ.env) (fun _ v => IsPart v k) loc' led' s
theorem Pt.none : Pt Γ loc led none none loc led := fun s Q E S h => by rw [evalPart_none]; exact wpAny_pure (h _ _ S Le.rfl .none)
theorem Pt.some {e : Expr} {i : Int} (h1 : Ev Γ loc led e (.d (.int i)) loc1 led1) : Pt Γ loc led (some e) (some i) loc1 led1 := fun s Q E S h => by
  rw [evalPart_some]; exact h1 s _ E S fun a s1 S1 le1 ra => h _ _ S1 le1 (by obtain ⟨t, rfl⟩ := rep_int ra; exact .int _ _)
theorem Ev.slice {lo hi st : Option Expr} {pos : Pos} {a b c : Option Int} (h1 : Pt Γ loc led lo a loc1 led1) (h2 : Pt Γ loc1 led1 hi b loc2 led2) (h3 : Pt Γ loc2 led2 st c loc3 led3) : Ev Γ loc led (.Slice lo hi st pos) (slV a b c) loc3 led3 := fun s Q E S h =>
  wpAny_Slice (h1 s _ E S fun x s1 S1 le1 rx => h2 s1 _ E S1 fun y s2 S2 le2 ry => h3 s2 _ E S2 fun z s3 S3 le3 rz => by
    obtain ⟨S4, le4, g⟩ := S3.push (o := { cls := .type "slice", data := .fields #[x, y, z] }) (t := s3.toks) rfl
    exact h _ _ S4 (le1.trans (le2.trans (le3.trans le4))) ⟨_, _, x, y, z, rfl, g, rfl, rfl, rx, ry, rz⟩)
theorem reads_ref_of {h : Heap} {v : Value} {d : PyData} {as : List Addr} (r : Reads h v d as) : RepV h (.d d) v := ⟨as, r⟩
theorem get_li {xs : List PyData} {i : Int} {d : PyData} (h0 : 0 ≤ i) (hz : xs.length ≤ sizeLine) (hx : xs[i.toNat]? = some d) : Op2 getItem (.d (.list xs)) (.d (.int i)) (.d d) := fun n Γ loc led s u v Q E O S ra rb h => by
  obtain ⟨l, o, vs, k, as, rfl, h1, h2, h3, h4⟩ := rep_list ra
  obtain ⟨t, rfl⟩ := rep_int rb
  obtain ⟨v, bs, hv, r⟩ := readsAll_get h4 hx
  have : i.toNat < xs.length := by
    rcases List.getElem?_eq_some_iff.mp hx with ⟨q, _⟩; exact q
  exact wpAny_getItem_list (isList_of h1 h2 h3) h0 (by rw [big] at hz; lia) (by simpa using hv) (h _ _ S Le.rfl ⟨_, r⟩)
theorem get_ti {xs : List PyData} {i : Int} {d : PyData} (h0 : 0 ≤ i) (hz : xs.length ≤ sizeLine) (hx : xs[i.toNat]? = some d) : Op2 getItem (.d (.tuple xs)) (.d (.int i)) (.d d) := fun n Γ loc led s u v Q E O S ra rb h => by
  obtain ⟨l, o, vs, k, as, rfl, h1, h2, h3, h4⟩ := rep_tuple ra
  obtain ⟨t, rfl⟩ := rep_int rb
  obtain ⟨v, bs, hv, r⟩ := readsAll_get h4 hx
  have hlt : i.toNat < xs.length := by
    rcases List.getElem?_eq_some_iff.mp hx with ⟨q, _⟩; exact q
  have e := readsAll_length h4
  refine PyProof.Rows.getItem_tuple (j := i.toNat) (isTuple_of h1 h2 h3) (by lia) (by rw [big] at hz; lia) ?_ (by simpa using hv) (h _ _ S Le.rfl ⟨_, r⟩)
  unfold seqIndex?
  have hn : ¬ i < 0 := by lia
  have : vs.size = xs.length := by rw [← e]; simp
  simp [hn]
  lia
theorem get_si {x : Str} {i : Int} {c : Nat} (h0 : 0 ≤ i) (hz : x.length ≤ sizeLine) (hx : x.cps[i.toNat]? = some c) : Op2 getItem (.d (.str x)) (.d (.int i)) (.d (.str ⟨#[c]⟩)) := fun n Γ loc led s u v Q E O S ra rb h => by
  obtain ⟨t, rfl⟩ := rep_str ra
  obtain ⟨t', rfl⟩ := rep_int rb
  have hlt : i.toNat < x.cps.size := by
    rcases Array.getElem?_eq_some_iff.mp hx with ⟨q, _⟩; exact q
  have hl : x.cps.size ≤ 16777216 := by rw [big] at hz; exact hz
  refine PyProof.Rows.getItem_str ?_ ?_ (h _ _ (S.toks _) Le.rfl of_str)
  · simp; lia
  · unfold seqIndex?
    have hn : ¬ i < 0 := by lia
    have : (0 ≤ i ∧ i < x.length) := ⟨h0, by show i < (x.cps.size : Int); lia⟩
    simp [hn, this]
    exact hx
theorem get_lfrom {xs : List PyData} {a : Nat} (hz : xs.length ≤ sizeLine) : Op2 getItem (.d (.list xs)) (slV (some a) none none) (.d (.list (xs.drop a))) := fun n Γ loc led s u v Q E O S ra rb h => by
  obtain ⟨l, o, vs, k, as, rfl, h1, h2, h3, h4⟩ := rep_list ra
  obtain ⟨sa, so, vl, vu, vst, rfl, g1, g2, g3, p1, p2, p3⟩ := rb
  have e := readsAll_length h4
  refine wpAny_getItem_list_slice (isList_of h1 h2 h3) ⟨so, (vget g1), g2, g3⟩ p1 p2 p3 (by simp) ?_ (by simpa [← e] using hz)
  obtain ⟨S4, le4, g⟩ := S.push (o := { cls := .type "list", data := .seq (slicePick vs (some a) none none) }) (t := s.toks) rfl
  refine h _ _ S4 le4 ?_
  have dr : ∀ {vs : List Value} {ds : List PyData} {as : List Addr} {h : Heap} (a : Nat), ReadsAll h vs ds as → ∃ bs, ReadsAll h (vs.drop a) (ds.drop a) bs := fun {vs ds as h} a r => by
    induction a generalizing vs ds as with
    | zero => exact ⟨_, r⟩
    | succ a ih => cases r with
      | nil => exact ⟨_, .nil⟩
      | cons r0 r1 => exact ih r1
  obtain ⟨bs, r⟩ := dr a (readsAll_sub (.of le4) h4)
  have e' : (slicePick vs (some (a : Int)) none none).toList = vs.toList.drop a := by rw [slicePick_from']
  exact ⟨_, .list g rfl rfl (by rw [e']; exact r)⟩
theorem picked_from (x : Str) (u : Tok) (a : Nat) : slicePicked x (some ((a : Int), u)) none none = (List.range (x.length - min a x.length)).map (min a x.length + ·) := by
  unfold slicePicked Builtin.Str.strSliceIndices
  have h1 : (max 0 (min (a : Int) (x.length : Int))) = ((min a x.length : Nat) : Int) := by lia
  have hn : ¬ ((a : Int) < 0) := by lia
  simp only [Option.map_some, Option.map_none, Option.getD_none, hn, if_false]
  simp only [gt_iff_lt, Int.zero_lt_one, if_true]
  rw [h1, sliceRange_one]
theorem picked_to (x : Str) (u : Tok) (a : Nat) : slicePicked x none (some ((a : Int), u)) none = (List.range (min a x.length)).map (0 + ·) := by
  unfold slicePicked Builtin.Str.strSliceIndices
  have h1 : (max 0 (min (a : Int) (x.length : Int))) = ((min a x.length : Nat) : Int) := by lia
  have hn : ¬ ((a : Int) < 0) := by lia
  simp only [Option.map_some, Option.map_none, Option.getD_none, hn, if_false]
  simp only [gt_iff_lt, Int.zero_lt_one, if_true]
  rw [h1, show (0 : Int) = ((0 : Nat) : Int) from rfl, sliceRange_one]
  simp
theorem Str.len_eq (x : Str) : x.length = x.cps.toList.length := by simp [Str.length]
theorem post_val {x : Str} {t : Tok} {l u : Option (Int × Tok)} {y : List Nat} {Q : Value → Shared → Prop} (hy : (slicePicked x l u none).filterMap (x.cps[·]?) = y) (hz : x.length ≤ sizeLine) (hl : y.length ≤ x.length)
    (hall : (slicePicked x l u none).length = y.length) (hfull : y.length = x.length → y = x.cps.toList)
    (h : ∀ t k, Q (.str ⟨y.toArray⟩ t) { s with toks := k }) : (sliceMade x t l u none).post Q s := by
  unfold sliceMade
  split
  · rename_i hc
    have e : (slicePicked x l u none).length = x.length := by simpa using hc
    have e2 := hfull (hall.symm.trans e)
    have : (⟨y.toArray⟩ : Str) = x := by rw [e2]
    have k := h t s.toks
    rw [this] at k
    exact k
  · rw [hy]
    refine ⟨?_, h _ _⟩
    show y.toArray.size ≤ sizeLine
    rw [List.size_toArray]; lia
theorem get_sfrom {x : Str} {a : Nat} (hz : x.length ≤ sizeLine) : Op2 getItem (.d (.str x)) (slV (some (a : Int)) none none) (.d (.str (dr x a))) := fun n Γ loc led s u v Q E O S ra rb h => by
  obtain ⟨t, rfl⟩ := rep_str ra
  obtain ⟨sa, so, vl, vu, vst, rfl, g1, g2, g3, p1, p2, p3⟩ := rb
  cases p1; cases p2; cases p3
  rename_i tk
  have hl := Str.len_eq x
  refine wpAny_getItem_str_slice (l := some ((a : Int), tk)) (u := none) (st := none) ⟨so, (vget g1), g2, g3⟩ rfl (post_val (y := x.cps.toList.drop a) ?_ hz ?_ ?_ ?_ fun t k => h _ _ (S.toks _) Le.rfl of_str)
  · rw [picked_from, pick_run, hl]
    by_cases q : a ≤ x.cps.toList.length
    · rw [Nat.min_eq_left q]; exact List.take_of_length_le (by simp)
    · have q' : x.cps.toList.length ≤ a := by omega
      rw [Nat.min_eq_right q', Nat.sub_self, List.take_zero, List.drop_eq_nil_of_le q']
  · rw [hl, List.length_drop]; omega
  · rw [picked_from, List.length_map, List.length_range, List.length_drop, hl]; omega
  · intro e
    rw [hl, List.length_drop] at e
    by_cases q : a = 0
    · subst q; rfl
    · have : x.cps.toList.length = 0 := by omega
      rw [List.eq_nil_of_length_eq_zero this]; simp
theorem get_sto {x : Str} {a : Nat} (hz : x.length ≤ sizeLine) : Op2 getItem (.d (.str x)) (slV none (some (a : Int)) none) (.d (.str (tk x a))) := fun n Γ loc led s u v Q E O S ra rb h => by
  obtain ⟨t, rfl⟩ := rep_str ra
  obtain ⟨sa, so, vl, vu, vst, rfl, g1, g2, g3, p1, p2, p3⟩ := rb
  cases p1; cases p2; cases p3
  rename_i tk
  have hl := Str.len_eq x
  refine wpAny_getItem_str_slice (l := none) (u := some ((a : Int), tk)) (st := none) ⟨so, (vget g1), g2, g3⟩ rfl (post_val (y := x.cps.toList.take a) ?_ hz ?_ ?_ ?_ fun t k => h _ _ (S.toks _) Le.rfl of_str)
  · rw [picked_to, pick_run, hl, List.drop_zero]
    exact List.take_eq_take_min.symm
  · rw [hl, List.length_take]; lia
  · rw [picked_to, List.length_map, List.length_range, List.length_take, hl]
  · intro e
    rw [hl, List.length_take] at e
    exact List.take_of_length_le (by lia)
end
theorem sliceRange_down (k : Nat) : sliceRange ((k : Int) - 1) (-1) (-1) = (List.range k).reverse := by
  unfold sliceRange
  by_cases hk : k = 0
  · subst hk; rfl
  · have h1 : ¬ ((-1 : Int) > 0) := by lia
    have h2 : ((k : Int) - 1 > -1) := by lia
    simp only [h1, if_false, h2, if_true]
    have h3 : (((k : Int) - 1 - (-1) - (-1) - 1) / (-(-1))).toNat = k := by
      have : ((k : Int) - 1 - (-1) - (-1) - 1) / (-(-1)) = k := by simp
      rw [this]; simp
    rw [h3]
    apply List.ext_getElem
    · simp
    · intro i h4 h5
      simp at h4 h5 ⊢
      lia
theorem get_lrev {xs : List PyData} (hz : xs.length ≤ sizeLine) : Op2 getItem (.d (.list xs)) (slV none none (some (-1))) (.d (.list xs.reverse)) := fun n Γ loc led s u v Q E O S ra rb h => by
  obtain ⟨l, o, vs, k, as, rfl, h1, h2, h3, h4⟩ := rep_list ra
  obtain ⟨sa, so, vl, vu, vst, rfl, g1, g2, g3, p1, p2, p3⟩ := rb
  have e := readsAll_length h4
  refine wpAny_getItem_list_slice (isList_of h1 h2 h3) ⟨so, (vget g1), g2, g3⟩ p1 p2 p3 (by simp) ?_ (by simpa [← e] using hz)
  obtain ⟨S4, le4, g⟩ := S.push (o := { cls := .type "list", data := .seq (slicePick vs none none (some (-1))) }) (t := s.toks) rfl
  refine h _ _ S4 le4 ?_
  have e' : (slicePick vs none none (some (-1))).toList = vs.toList.reverse := by
    unfold slicePick sliceBounds
    simp only [Option.getD_some]
    have h1 : ¬ ((-1 : Int) > 0) := by lia
    simp only [h1, if_false, sliceRange_down]
    apply List.ext_getElem?
    intro i
    have : (List.range vs.size).filterMap (vs[·]?) = vs.toList := by
      have := pick_run vs 0 vs.size
      have e0 : (List.range vs.size).map (0 + ·) = List.range vs.size := by
        apply List.ext_getElem <;> simp
      rw [e0] at this
      rw [this, List.drop_zero]; exact List.take_of_length_le (by simp)
    rw [List.filterMap_reverse, this]
  have rv : ∀ {vs : List Value} {ds : List PyData} {as : List Addr} {h : Heap}, ReadsAll h vs ds as → ∃ bs, ReadsAll h vs.reverse ds.reverse bs := fun {vs ds as h} r => by
    induction vs generalizing ds as with
    | nil => cases r; exact ⟨_, .nil⟩
    | cons v vs ih => cases r with
      | cons r0 r1 =>
        obtain ⟨bs, q⟩ := ih r1
        simp only [List.reverse_cons]
        exact readsAll_app q (.cons r0 .nil)
  obtain ⟨bs, r⟩ := rv (readsAll_sub (.of le4) h4)
  exact ⟨_, .list g rfl rfl (by rw [e']; exact r)⟩
section
variable {n : Nat} {Γ : Cx} {loc loc' loc1 loc2 loc3 : Loc} {led led' led1 led2 led3 fp fp' : Led} {s : Shared}
theorem repAll_data {h : Heap} {ds : List PyData} {vals : List Value} (r : RepAll h (ds.map V.d) vals) : ∃ as, ReadsAll h vals ds as := by
  induction ds generalizing vals with
  | nil => cases r; exact ⟨_, .nil⟩
  | cons d ds ih => cases r with
    | cons r q => exact r.elim fun _ r => (ih q).elim fun _ q => ⟨_, .cons r q⟩
theorem Ev.tuple {es : List Expr} {k : Nat} {pos : Pos} {ds : List PyData} (h1 : Es Γ loc led es (ds.map V.d) loc1 led1) (hz : ds.length ≤ sizeLine) : Ev Γ loc led (.Tuple es k pos) (.d (.tuple ds)) loc1 led1 := fun s Q E S h =>
  wpAny_Tuple (h1 pos s _ E S fun vals s1 S1 le1 rs => by
    obtain ⟨as, r⟩ := repAll_data rs
    have e := readsAll_length r
    obtain ⟨S4, le4, g⟩ := S1.push (o := { cls := .type "tuple", data := .seq vals.toArray }) (t := s1.toks) rfl
    exact ⟨by rw [e]; exact hz, h _ _ S4 (le1.trans le4) ⟨_, .tuple g rfl rfl (by simpa using readsAll_sub (.of le4) r)⟩⟩)
theorem Ev.list {es : List Expr} {pos : Pos} {ds : List PyData} (h1 : Es Γ loc led es (ds.map V.d) loc1 led1) (hz : ds.length ≤ sizeLine) : Ev Γ loc led (.List es pos) (.d (.list ds)) loc1 led1 := fun s Q E S h =>
  wpAny_List (h1 pos s _ E S fun vals s1 S1 le1 rs => by
    obtain ⟨as, r⟩ := repAll_data rs
    have e := readsAll_length r
    obtain ⟨S4, le4, g⟩ := S1.push (o := { cls := .type "list", data := .seq vals.toArray }) (t := s1.toks) rfl
    exact ⟨by rw [e]; exact hz, h _ _ S4 (le1.trans le4) ⟨_, .list g rfl rfl (by simpa using readsAll_sub (.of le4) r)⟩⟩)
theorem opN1 {f : Value → Sem Value} {x v : V} (h : Op1 f x (fun h v' => RepV h v v')) {F : List Value → Sem Value} (hF : ∀ a, F [a] = f a) : OpN n F [x] [] v [] := fun Γ loc led s vals Q E O S rs k => by
  cases rs with
  | cons r q => cases q; rw [hF]; exact h n Γ loc _ s _ Q E O S r k
theorem len_l {xs : List PyData} (hz : xs.length ≤ sizeLine) : OpN n (fun vals => call (.builtin "len") vals) [.d (.list xs)] [] (.d (.int xs.length)) [] := opN1 (f := fun a => call (.builtin "len") [a]) (fun n Γ loc led s u Q E O S ra h => by
  obtain ⟨l, o, vs, k, as, rfl, h1, h2, h3, h4⟩ := rep_list ra
  have e := readsAll_length h4
  have e2 : vs.size = xs.length := by rw [← e]; simp
  exact call_len_list (isList_of h1 h2 h3) (by rw [big] at hz; lia) (h _ _ (S.toks _) Le.rfl (by rw [e2]; exact of_int))) fun _ => rfl
theorem len_t {xs : List PyData} (hz : xs.length ≤ sizeLine) : OpN n (fun vals => call (.builtin "len") vals) [.d (.tuple xs)] [] (.d (.int xs.length)) [] := opN1 (f := fun a => call (.builtin "len") [a]) (fun n Γ loc led s u Q E O S ra h => by
  obtain ⟨l, o, vs, k, as, rfl, h1, h2, h3, h4⟩ := rep_tuple ra
  have e := readsAll_length h4
  have e2 : vs.size = xs.length := by rw [← e]; simp
  exact PyProof.Rows.len_tuple (isTuple_of h1 h2 h3) (by rw [big] at hz; lia) (h _ _ (S.toks _) Le.rfl (by rw [e2]; exact of_int))) fun _ => rfl
theorem len_s {x : Str} (hz : x.length ≤ sizeLine) : OpN n (fun vals => call (.builtin "len") vals) [.d (.str x)] [] (.d (.int x.length)) [] := opN1 (f := fun a => call (.builtin "len") [a]) (fun n Γ loc led s u Q E O S ra h => by
  obtain ⟨t, rfl⟩ := rep_str ra
  exact P.len_str (by rw [big] at hz; lia) (h _ _ (S.toks _) Le.rfl of_int)) fun _ => rfl
theorem range1 {k : Int} : OpN n (fun vals => call (.type "range") vals) [.d (.int k)] [] (rangeV k) [] := opN1 (f := fun a => call (.type "range") [a]) (fun n Γ loc led s u Q E O S ra h => by
  obtain ⟨t, rfl⟩ := rep_int ra
  refine PySem.call_range_1 ?_
  obtain ⟨S4, le4, g⟩ := S.push (o := { cls := .type "range", data := .fields #[.int 0 s.toks, .int k t, .int 1 (s.toks + 1)] }) (t := s.toks + 1 + 1) rfl
  exact h _ _ S4 le4 ⟨_, _, _, _, rfl, g⟩) fun _ => rfl
noncomputable abbrev strsD (xs : List Str) : PyData := .list (xs.map .str)
noncomputable abbrev intsD (xs : List Int) : PyData := .list (xs.map .int)
theorem reads_strs {h : Heap} {vs : List Value} {xs : List Str} {as : List Addr} (r : ReadsAll h vs (xs.map .str) as) : StrsAre vs xs := by
  induction xs generalizing vs as with
  | nil => cases r; exact .nil
  | cons x xs ih => cases r with
    | cons r q => cases r; exact .cons _ _ (ih q)
theorem reads_ints {h : Heap} {vs : List Value} {xs : List Int} {as : List Addr} (r : ReadsAll h vs (xs.map .int) as) : IntsAre vs xs := by
  induction xs generalizing vs as with
  | nil => cases r; exact .nil
  | cons x xs ih => cases r with
    | cons r q => cases r; exact .cons _ _ (ih q)
noncomputable def isS (x : Str) : Value → Bool
  | .str z _ => z == x
  | _ => false
noncomputable def isI (x : Int) : Value → Bool
  | .int z _ => z == x
  | _ => false
theorem any_isS {x : Str} {vs : List Value} {xs : List Str} (r : StrsAre vs xs) : (vs.any (isS x) = xs.any (· == x)) ∧ ∀ y ∈ vs, ∃ z t, y = .str z t := by
  induction r with
  | nil => exact ⟨rfl, fun _ h => nomatch h⟩
  | cons y t q ih => exact ⟨congrArg (y == x || ·) ih.1, fun z hz => (List.mem_cons.mp hz).elim (fun e => ⟨_, _, e⟩) (ih.2 z)⟩
theorem any_isI {x : Int} {vs : List Value} {xs : List Int} (r : IntsAre vs xs) : (vs.any (isI x) = xs.any (· == x)) ∧ ∀ y ∈ vs, ∃ z t, y = .int z t := by
  induction r with
  | nil => exact ⟨rfl, fun _ h => nomatch h⟩
  | cons y t q ih => exact ⟨congrArg (y == x || ·) ih.1, fun z hz => (List.mem_cons.mp hz).elim (fun e => ⟨_, _, e⟩) (ih.2 z)⟩
theorem in_strs {xs : List Str} {x : Str} : Op2 (compareOp .In) (.d (.str x)) (.d (strsD xs)) (.d (.bool (xs.any (· == x)))) := fun n Γ loc led s u v Q E O S ra rb h => by
  obtain ⟨l, o, vs, k, as, rfl, h1, h2, h3, h4⟩ := rep_list rb
  obtain ⟨t, rfl⟩ := rep_str ra
  obtain ⟨e1, e2⟩ := any_isS (x := x) (reads_strs h4)
  refine SeqAt.in_listAt (isS x) (isList_of h1 h2 h3) (fun y hy => ?_) (h _ _ S Le.rfl (by rw [← Array.any_toList, e1]; exact of_bool))
  obtain ⟨z, tz, rfl⟩ := e2 y (by simpa using hy)
  exact SeqAt.EqAt.str_str z tz x t
theorem notIn_strs {xs : List Str} {x : Str} : Op2 (compareOp .NotIn) (.d (.str x)) (.d (strsD xs)) (.d (.bool (!xs.any (· == x)))) := fun n Γ loc led s u v Q E O S ra rb h => by
  obtain ⟨l, o, vs, k, as, rfl, h1, h2, h3, h4⟩ := rep_list rb
  obtain ⟨t, rfl⟩ := rep_str ra
  obtain ⟨e1, e2⟩ := any_isS (x := x) (reads_strs h4)
  refine SeqAt.notIn_listAt (isS x) (isList_of h1 h2 h3) (fun y hy => ?_) (h _ _ S Le.rfl (by rw [← Array.any_toList, e1]; exact of_bool))
  obtain ⟨z, tz, rfl⟩ := e2 y (by simpa using hy)
  exact SeqAt.EqAt.str_str z tz x t
theorem notIn_ints {xs : List Int} {x : Int} : Op2 (compareOp .NotIn) (.d (.int x)) (.d (intsD xs)) (.d (.bool (!xs.any (· == x)))) := fun n Γ loc led s u v Q E O S ra rb h => by
  obtain ⟨l, o, vs, k, as, rfl, h1, h2, h3, h4⟩ := rep_list rb
  obtain ⟨t, rfl⟩ := rep_int ra
  obtain ⟨e1, e2⟩ := any_isI (x := x) (reads_ints h4)
  refine SeqAt.notIn_listAt (isI x) (isList_of h1 h2 h3) (fun y hy => ?_) (h _ _ S Le.rfl (by rw [← Array.any_toList, e1]; exact of_bool))
  obtain ⟨z, tz, rfl⟩ := e2 y (by simpa using hy)
  exact SeqAt.EqAt.int_int z tz x t
theorem St.fresh (S : St Γ loc led s) : s.heap.get? s.heap.objs.size = none ∧ s.heap.objs.size ∉ exOf Γ led ∧ Γ.g.get? s.heap.objs.size = none := by
  have h0 : s.heap.get? s.heap.objs.size = none := by
    cases q : s.heap.get? s.heap.objs.size with
    | none => rfl
    | some o => exact absurd (Heap.lt_size q) (Nat.lt_irrefl _)
  refine ⟨h0, fun h => Nat.lt_irrefl _ (S.ex_lt _ h), ?_⟩
  obtain ⟨m, F⟩ := S.fr
  cases q : Γ.g.get? s.heap.objs.size with
  | none => rfl
  | some o => have := F.keep _ _ q; rw [h0] at this; cases this
theorem src_list {xs : List PyData} : Src (.d (.list xs)) (xs.map V.d) := fun n Γ loc led s a Q E O S ra h => by
  obtain ⟨l, o, vs, k, as, rfl, h1, h2, h3, h4⟩ := rep_list ra
  have e : vs.size = (xs.map V.d).length := by rw [List.length_map, ← readsAll_length h4]; simp
  obtain ⟨f1, f2, f3⟩ := S.fresh
  refine wpAny_pyIter_list (isList_of h1 h2 h3) ?_
  obtain ⟨S4, le4, g⟩ := S.push (o := { cls := .type "list_iterator", data := .fields #[.ref l, .int 0 0] }) (t := s.toks) rfl
  have hl : l ≠ s.heap.objs.size := Nat.ne_of_lt (Heap.lt_size (vget h1))
  have W := Walks.list (prog := PP) (w := Γ.w) (A := Γ.A) O.hh s.heap.objs.size l hl vs
  rw [e] at W
  refine h s.heap.objs.size _ [s.heap.objs.size, l] _ _ ⟨W, ⟨⟨_, (vget g), rfl, rfl⟩, isList_of (le4 _ _ h1) h2 h3⟩, S4, ?_, ?_, f3, ?_⟩ le4 f1
  · intro b hb
    rcases List.mem_cons.mp hb with rfl | hb
    · exact ⟨f2, _, (vget g)⟩
    · rw [List.mem_singleton.mp hb]; exact ⟨(vout h1), _, (vget (le4 _ _ h1))⟩
  · intro i v _ hv
    have hi : i < xs.length := by
      have := (Array.getElem?_eq_some_iff.mp hv).1
      rw [e, List.length_map] at this; exact this
    obtain ⟨v', bs, hv', r⟩ := readsAll_get h4 (List.getElem?_eq_getElem hi)
    have : v' = v := by
      rw [← Array.getElem?_toList] at hv
      rw [hv] at hv'; exact (Option.some.inj hv').symm
    subst this
    exact ⟨.d (xs[i]), by rw [List.getElem?_map, List.getElem?_eq_getElem hi]; rfl, ⟨_, reads_sub (.of le4) r⟩⟩
  · rintro i h ⟨⟨o, ho, hc, hd⟩, _⟩
    exact ⟨o, _, _, ho, hc, hd, by decide⟩
theorem src_tuple {xs : List PyData} : Src (.d (.tuple xs)) (xs.map V.d) := fun n Γ loc led s a Q E O S ra h => by
  obtain ⟨l, o, vs, k, as, rfl, h1, h2, h3, h4⟩ := rep_tuple ra
  have e : vs.size = (xs.map V.d).length := by rw [List.length_map, ← readsAll_length h4]; simp
  obtain ⟨f1, f2, f3⟩ := S.fresh
  refine wpAny_pyIter_tuple (isTuple_of h1 h2 h3) ?_
  obtain ⟨S4, le4, g⟩ := S.push (o := { cls := .type "tuple_iterator", data := .fields #[.ref l, .int 0 0] }) (t := s.toks) rfl
  have hl : l ≠ s.heap.objs.size := Nat.ne_of_lt (Heap.lt_size (vget h1))
  have W := Walks.tuple (prog := PP) (w := Γ.w) (A := Γ.A) O.hh s.heap.objs.size l hl vs
  rw [e] at W
  refine h s.heap.objs.size _ [s.heap.objs.size, l] _ _ ⟨W, ⟨⟨_, (vget g), rfl, rfl⟩, isTuple_of (le4 _ _ h1) h2 h3⟩, S4, ?_, ?_, f3, ?_⟩ le4 f1
  · intro b hb
    rcases List.mem_cons.mp hb with rfl | hb
    · exact ⟨f2, _, (vget g)⟩
    · rw [List.mem_singleton.mp hb]; exact ⟨(vout h1), _, (vget (le4 _ _ h1))⟩
  · intro i v _ hv
    have hi : i < xs.length := by
      have := (Array.getElem?_eq_some_iff.mp hv).1
      rw [e, List.length_map] at this; exact this
    obtain ⟨v', bs, hv', r⟩ := readsAll_get h4 (List.getElem?_eq_getElem hi)
    have : v' = v := by
      rw [← Array.getElem?_toList] at hv
      rw [hv] at hv'; exact (Option.some.inj hv').symm
    subst this
    exact ⟨.d (xs[i]), by rw [List.getElem?_map, List.getElem?_eq_getElem hi]; rfl, ⟨_, reads_sub (.of le4) r⟩⟩
  · rintro i h ⟨⟨o, ho, hc, hd⟩, _⟩
    exact ⟨o, _, _, ho, hc, hd, by decide⟩
noncomputable def upto (k : Nat) : List Int := (List.range k).map Int.ofNat
theorem src_range {k : Nat} (hk : k ≤ 1000000) : Src (rangeV k) ((upto k).map fun i => V.d (.int i)) := fun n Γ loc led s a Q E O S ra h => by
  obtain ⟨r, t, u, w, rfl, h1⟩ := ra
  obtain ⟨f1, f2, f3⟩ := S.fresh
  have hr : IsRange s.heap r 0 k 1 t u w := (vget h1)
  have hs : Builtin.Range.rangeSize 0 k 1 = ((k : Nat) : Int) := by
    unfold Builtin.Range.rangeSize
    by_cases q : k = 0
    · subst q; rfl
    · have : (0 : Int) < k := by lia
      rw [if_pos (by decide), if_pos this]; lia
  refine wpAny_pyIter_range hr (by unfold Builtin.Range.small Builtin.Range.rangeFitsLong; rw [hs]; simp; lia) ?_
  rw [hs]
  obtain ⟨S4, le4, g⟩ := S.push (o := { cls := .type "range_iterator", data := .fields #[rawInt 0, rawInt ((k : Nat) : Int), rawInt 1] }) (t := s.toks) rfl
  have W := Walks.range (prog := PP) (w := Γ.w) (A := Γ.A) O.hh s.heap.objs.size 0 1 k
  have e : ((upto k).map fun i => V.d (.int i)).length = k := by simp [upto]
  rw [← e] at W
  refine h s.heap.objs.size _ [s.heap.objs.size] _ _ ⟨W, ?_, S4, ?_, ?_, f3, ?_⟩ le4 f1
  · have := (vget g)
    simpa [e] using this
  · intro b hb
    rw [List.mem_singleton.mp hb]; exact ⟨f2, _, (vget g)⟩
  · rintro i v hi ⟨t, rfl⟩
    refine ⟨.d (.int (0 + (i : Nat) * 1)), ?_, of_int⟩
    rw [e] at hi
    simp [upto, hi]
  · intro i h hi
    exact ⟨_, _, _, hi, rfl, rfl, by decide⟩
end
end
section
noncomputable def Cx.comp (Γ : Cx) (scope : Scope) (cl : List (Str × Addr)) (C D : Addr) (fz : List (Addr × (Obj → Prop))) : Cx := { Γ with env := compEnvC scope cl C Γ.env, priv := C :: D :: Γ.priv, fz := fz }
noncomputable def lstO (ds : List PyData) : O := ⟨fun h o => ∃ vals k as, o = { cls := .type "list", data := .seq vals k } ∧ ReadsAll h vals.toList ds as,
  fun k ⟨vals, kk, as, h1, h2⟩ => ⟨vals, kk, as, h1, readsAll_sub k h2⟩⟩
noncomputable def exactO (ob : Obj) : O := ⟨fun _ o => o = ob, fun _ h => h⟩
structure RunP (Γ : Cx) (loc : Loc) (led : Led) (its : List V) (s : Shared) (I : Addr) (fp : List Addr) (pins : List (Addr × Obj)) (P : Nat → Value → Prop) (J : Nat → Heap → Prop) : Prop where
  W : Walks PP Γ.w Γ.A I fp [I] its.length P J
  J0 : J 0 s.heap
  st : St Γ loc led s
  vI : I ∉ exOf Γ led
  fpv : ∀ b ∈ fp, (b ∉ exOf Γ led ∧ ∃ o, s.heap.get? b = some o) ∨ b ∈ pins.map (·.1)
  Pv : ∀ i v, i < its.length → P i v → ∃ x, its[i]? = some x ∧ RepV (vis Γ led s) x v
  gI : Γ.g.get? I = none
  cl : ∀ i h, J i h → ∃ o nm vs, h.get? I = some o ∧ o.cls = .type nm ∧ o.data = .fields vs ∧ noIter nm = true
noncomputable def pinned (pins : List (Addr × Obj)) (led : Led) : Prop := ∀ p ∈ pins, (p.1, exactO p.2) ∈ led
theorem pin_get {Γ : Cx} {loc : Loc} {led : Led} {s : Shared} {pins : List (Addr × Obj)} (S : St Γ loc led s) (hp : pinned pins led) {p : Addr × Obj} (h : p ∈ pins) : s.heap.get? p.1 = some p.2 := by
  obtain ⟨_, _, o, h3, h4⟩ := S.ld _ (hp p h)
  have h4 : o = p.2 := h4
  rw [h3, h4]
section
variable {Γ : Cx} {loc : Loc} {led : Led} {s : Shared}
theorem exOf_sub {l l' : Led} (h : ∀ p ∈ l, ∃ q ∈ l', q.1 = p.1) : ∀ a ∈ exOf Γ l, a ∈ exOf Γ l' := fun a ha => by
  rcases List.mem_append.mp ha with ha | ha
  · exact List.mem_append_left _ ha
  · obtain ⟨p, hp, rfl⟩ := List.mem_map.mp ha
    obtain ⟨q, hq, e⟩ := h p hp
    exact List.mem_append_right _ (e ▸ List.mem_map_of_mem hq)
theorem St.drop {p : Addr × O} (S : St Γ loc (p :: led) s) : St Γ loc led s ∧ Le Γ (p :: led) s led s := by
  have le : Le Γ (p :: led) s led s := fun b o e => by
    have e1 := vget (e)
    have e2 := vout (e)
    exact vmk e1 (fun hb => e2 (exOf_sub (fun q hq => ⟨q, .tail _ hq, rfl⟩) b hb))
  refine ⟨⟨S.fr, ?_, fun q hq => ?_, (List.nodup_cons.mp S.nd).2, S.pv, S.os, S.gn, S.fz⟩, le⟩
  · obtain ⟨m, cm, h1, h2, h3⟩ := S.nm
    exact ⟨m, cm, h1, h2, fun x v e => let ⟨v', e', r⟩ := h3 x v e; ⟨v', e', r.keeps le⟩⟩
  · obtain ⟨h1, h2, o, h3, h4⟩ := S.ld q (.tail _ hq)
    exact ⟨h1, h2, o, h3, q.2.mono (.of le) h4⟩
theorem St.freeze {a : Addr} {ds : List PyData} (S : St Γ loc ((a, lstO ds) :: led) s) : RepV (vis Γ led s) (.d (.list ds)) (.ref a) := by
  refine aside fun zk => ?_
  obtain ⟨h1, h2, o, h3, vals, k, as, rfl, r⟩ := S.ld _ (.head _)
  apply zk
  have nd := List.nodup_cons.mp S.nd
  exact ⟨_, .list (vmk h3 (fun hb => (List.mem_append.mp hb).elim h1 nd.1)) rfl rfl (readsAll_sub (.of S.drop.2) r)⟩
end
section
variable {n : Nat} {Γ : Cx} {loc loc' loc1 loc2 loc3 : Loc} {led led' led1 led2 led3 fp fp' : Led} {s : Shared}
theorem St.weak (S : St Γ loc led s) (h : ∀ x v, loc'.lookup x = some v → loc.lookup x = some v) : St Γ loc' led s :=
  ⟨S.fr, let ⟨m, cm, a, b, c⟩ := S.nm; ⟨m, cm, a, b, fun x v e => c x v (h x v e)⟩, S.ld, S.nd, S.pv, S.os, S.gn, S.fz⟩
theorem St.setPriv (S : St Γ loc led s) {a : Addr} {oa : Obj} {h' : Heap} {t : Nat} (ha : a ∈ Γ.priv) (hg : Γ.g.get? a = none) (hs : Heap.SameBut a s.heap h') (hoa : h'.get? a = some oa)
    (iL : a ≠ Γ.env.locals) (iF : a ≠ Γ.fenv.locals) (iC : ∀ x b, Γ.env.cells.lookup x = some b → b ≠ a) (iZ : ∀ p ∈ Γ.fz, p.1 ≠ a) : St Γ loc led { s with heap := h', toks := t } ∧ Le Γ led s led { s with heap := h', toks := t } := by
  have le : Le Γ led s led { s with heap := h', toks := t } := fun b o e => by
    have e1 := vget (e)
    have e2 := vout (e)
    exact vmk ((hs.2 b fun q => e2 (List.mem_append_left _ (q ▸ ha))).trans e1) e2
  refine ⟨⟨let ⟨m, F⟩ := S.fr; ⟨m, F.ns.sameBut hs (Ne.symm iF), fun b o e => (hs.2 b fun q => by rw [q, hg] at e; cases e).trans (F.keep b o e), F.above⟩, ?_, fun p hp => ?_, S.nd, fun b hb => ?_, S.os, S.gn, fun p hp => let ⟨o, e, r⟩ := S.fz p hp; ⟨o, (hs.2 _ (iZ p hp)).trans e, r⟩⟩, le⟩
  · refine aside fun zk => ?_
    obtain ⟨m, cm, h1, h2, h3⟩ := S.nm
    apply zk
    exact ⟨m, cm, h1.sameBut hs (Ne.symm iL), fun x b e => let ⟨o, ho, r⟩ := h2 x b e; ⟨o, (hs.2 _ (iC x b e)).trans ho, r⟩, fun x v e => let ⟨v', e', r⟩ := h3 x v e; ⟨v', e', r.keeps le⟩⟩
  · refine aside fun zk => ?_
    obtain ⟨h1, h2, o, h3, h4⟩ := S.ld p hp
    apply zk
    exact ⟨h1, h2, o, (hs.2 p.1 fun q => h1 (by rw [q]; exact ha)).trans h3, p.2.mono (.of le) h4⟩
  · by_cases q : b = a
    · exact ⟨oa, q ▸ hoa⟩
    · obtain ⟨o, e⟩ := S.pv b hb; exact ⟨o, (hs.2 b q).trans e⟩
noncomputable def CStep (Γ : Cx) (loc : Loc) (led : Led) (t : Expr) (ifs : List Expr) (elt : Expr) (x : V) (r : Option PyData) : Prop :=
  ∃ locI, As Γ loc led t x locI ∧ (∀ x v, loc.lookup x = some v → locI.lookup x = some v) ∧ match r with
    | some y => (ifs = [] ∨ ∃ c, ifs = [c] ∧ Bt Γ locI led c true locI led) ∧ Ev Γ locI led elt (.d y) locI led
    | none => ∃ c, ifs = [c] ∧ Bt Γ locI led c false locI led
theorem codeAny_compLoop_any {prog : Program} {w : World} {A : Around} {R : Result → Shared → Prop} {s : Shared} {elt target iter : Expr} {ifs : List Expr} {scope : Scope} {pos : Pos} {it acc : Value} {env : Env} (I : Nat → Shared → Prop)
    (turn : ∀ n s, I n s → wpAny (model prog w) A (pyNext it) (fun r s₁ => match r with
      | none => R (.ok .next) s₁
      | some v => wpAny (model prog w) A (letOwnedTupleGo target it v) (fun _ s₁' => wpAny (model prog w) A (assign target env v) (fun _ s₂ =>
          wpAny (model prog w) A (forIn ifs true fun c r => if r = true then do let ok ← isTrue c env (eval c env); pure (ForInStep.yield ok) else pure (ForInStep.yield r)) (fun ok s₃ =>
            if ok = true then wpAny (model prog w) A (eval elt env) (fun x s₄ =>
              wpAny (model prog w) A (call (.builtin "list.append") [acc, x]) (fun _ s₅ => ∃ m, m < n ∧ I m s₅) (notedBy (model prog w) A env fun e s' => R (.error e) s') s₄) (notedBy (model prog w) A env fun e s' => R (.error e) s') s₃
            else ∃ m, m < n ∧ I m s₃) (notedBy (model prog w) A env fun e s' => R (.error e) s') s₂) (notedBy (model prog w) A env fun e s' => R (.error e) s') s₁') (notedBy (model prog w) A env fun e s' => R (.error e) s') s₁) (notedBy (model prog w) A env fun e s' => R (.error e) s') s)
    (n : Nat) (h : I n s) : codeAny (model prog w) A (.compLoop (.ListComp elt [⟨target, iter, ifs, 0⟩] scope pos) 0 it acc env) R s := by
  refine codeAny_loop rfl I (fun n s hI => ?_) n h
  show wpAny _ A ((compTurn (.ListComp elt [⟨target, iter, ifs, 0⟩] scope pos) 0 it acc env).onRaise (fun x => do noteFrame x env; theTreesLotGoes x)) _ _ s
  refine wpAny_noted ?_
  rw [compTurn_list]
  refine wpAny_bind (wpAny_standAt (wpAny_bind (wpAny_mono (turn n s hI) (fun r s₁ h₁ => ?_) fun _ _ h' => h')))
  cases r with
  | none => exact wpAny_pure h₁
  | some v =>
    refine wpAny_bind (wpAny_mono h₁ (fun _ s₁' h₁' => ?_) fun _ _ h' => h')
    refine wpAny_bind (wpAny_mono h₁' (fun _ s₂ h₂ => wpAny_bind (wpAny_mono h₂ (fun ok s₃ h₃ => ?_) fun _ _ h' => h')) fun _ _ h' => h')
    cases ok with
    | false => exact wpAny_pure ⟨rfl, h₃⟩
    | true =>
      exact wpAny_bind (wpAny_bind (wpAny_mono h₃ (fun x s₄ h₄ => wpAny_bind (wpAny_mono h₄ (fun _ s₅ h₅ => wpAny_pure (wpAny_pure ⟨rfl, h₅⟩)) fun _ _ h' => h')) fun _ _ h' => h'))
theorem frozen (S : St Γ loc led s) (l : List (Str × Addr)) (h : ∀ p ∈ l, Γ.env.cells.lookup p.1 = some p.2) : ∃ Z : List (Addr × Obj), (∀ q ∈ Z, s.heap.get? q.1 = some q.2 ∧ ∃ x, (x, q.1) ∈ l) ∧ ∀ p ∈ l, ∃ o, (p.2, o) ∈ Z := by
  refine (listed (Q := fun a o => s.heap.get? a = some o) (l.map (·.2)) fun L hL => ?_).elim fun Z hZ => ⟨Z, fun q hq => ⟨(hZ.1 q hq).2, (List.mem_map.mp (hZ.1 q hq).1).elim fun p hp => ⟨p.1, hp.2 ▸ hp.1⟩⟩, fun p hp => hZ.2 p.2 (List.mem_map_of_mem hp)⟩
  refine aside fun zk => ?_
  obtain ⟨p, hp, e⟩ := List.mem_map.mp hL
  obtain ⟨m, cm, a, b, c⟩ := S.nm
  apply zk
  exact (b p.1 p.2 (h p hp)).elim fun o ho => ⟨o, e ▸ ho.1⟩
noncomputable def Capt (Γ : Cx) (scope : Scope) (cl : List (Str × Addr)) (x : Str) : Prop := ∃ a, cl.lookup x = some a ∧ Γ.env.cells.lookup x = some a ∧ ((relabel scope Γ.env).names.lookup x = some .cell ∨ (relabel scope Γ.env).names.lookup x = some .free) ∧ (Γ.env.kindOf x = some .cell ∨ Γ.env.kindOf x = some .free)
theorem St.fzTo {scope : Scope} {cl : List (Str × Addr)} {C D : Addr} {fz fz' : List (Addr × (Obj → Prop))} (S : St (Γ.comp scope cl C D fz) loc led s) (h : ∀ p ∈ fz', ∃ o, s.heap.get? p.1 = some o ∧ p.2 o) : St (Γ.comp scope cl C D fz') loc led s :=
  ⟨S.fr, S.nm, S.ld, S.nd, S.pv, S.os, S.gn, h⟩
theorem comp_core (O : Ok n Γ) {s1 s2 : Shared} {its : List V} {res : List (Option PyData)} {I : Addr} {fp : List Addr} {P : Nat → Value → Prop} {J : Nat → Heap → Prop} {elt t iter : Expr} {ifs : List Expr} {scope : Scope} {pos : Pos} {cl : List (Str × Addr)} {locC : Loc}
    {pins : List (Addr × Obj)} (S1 : St Γ loc1 led1 s1) (R : RunP Γ loc1 led1 its s2 I fp pins P J) (hpin : pinned pins led1) (le2 : Le Γ led1 s1 led1 s2) (new : s1.heap.get? I = none) (hcell : ∀ y ∈ scope.names, y.2 ≠ .cell) (hkind : scope.kind = .function)
    (hcl : ∀ p ∈ cl, Γ.env.cells.lookup p.1 = some p.2) (hloc : ∀ x v, locC.lookup x = some v → loc1.lookup x = some v ∧ Capt Γ scope cl x) (hcn : ∀ p ∈ Γ.env.cells, Γ.env.cells.lookup p.1 = some p.2)
    (hlen : res.length = its.length) (hz : its.length ≤ sizeLine)
    (step : ∀ C D fz, Ok n (Γ.comp scope cl C D fz) → ∀ (i : Nat) x r, its[i]? = some x → res[i]? = some r → CStep (Γ.comp scope cl C D fz) locC led1 t ifs elt x r)
    {RR : Value → Addr → Result → Shared → Prop} {E : Value → Shared → Prop}
    (hRR : ∀ D C s', (∃ m, s'.heap.Ns C m) → s1.heap.get? C = none → C ∉ exOf Γ led1 → (∀ h' t', Heap.SameBut C s'.heap h' → St Γ loc1 ((D, lstO (res.filterMap id)) :: led1) { s' with heap := h', toks := t' } ∧ Le Γ led1 s1 ((D, lstO (res.filterMap id)) :: led1) { s' with heap := h', toks := t' }) → RR (.ref D) C (.ok .next) s') :
    wpAny (MM Γ.w) Γ.A (newList []) (fun acc s₃ => wpAny (MM Γ.w) Γ.A (newFunctionEnv scope Γ.env.globals cl [] Γ.env.qual none .none (some Γ.env)) (fun cenv s₄ =>
      codeAny (MM Γ.w) Γ.A (.compStart (.ListComp elt [⟨t, iter, ifs, 0⟩] scope pos) 0 (.ref I) acc { cenv with scope := relabel scope Γ.env }) (RR acc cenv.locals) s₄) E s₃) E s2 := by
  refine wpAny_newObj_type (wpAny_newFunctionEnv hcell (by intro y hy; simp at hy) (fun h₁ hns₁ hsb₁ => ?_) hkind)
  dsimp only at hns₁ hsb₁ ⊢
  generalize hH2 : s2.heap.push { cls := .type "list", dict := none, data := .seq ([] : List Value).toArray } = H2 at hns₁ hsb₁ ⊢
  generalize hDd : s2.heap.objs.size = D
  have hC : H2.objs.size = D + 1 := by rw [← hH2, Heap.size_push, hDd]
  generalize hCc : H2.objs.size = C at hns₁ hsb₁ hC ⊢
  have hDC : D ≠ C := by rw [hC]; exact Nat.ne_of_lt (Nat.lt_succ_self _)
  have lt2 : ∀ {b : Addr} {o : Obj}, s2.heap.get? b = some o → b ≠ C ∧ b ≠ D := fun {b o} e => by
    have := Heap.lt_size e
    rw [hDd] at this
    exact ⟨by rw [hC]; exact Nat.ne_of_lt (Nat.lt_succ_of_lt this), Nat.ne_of_lt this⟩
  have old : ∀ b o, s2.heap.get? b = some o → h₁.get? b = some o := fun b o e => hsb₁.extBut b o (lt2 e).1 (Heap.get?_push_of_some _ (hH2 ▸ Heap.get?_push_of_some _ e))
  have hacc : h₁.get? D = some { cls := .type "list", data := .seq ([] : List Value).toArray } := hsb₁.extBut _ _ hDC (Heap.get?_push_of_some _ (by rw [← hH2, ← hDd]; exact Heap.get?_push_size _ rfl))
  have none2 : ∀ a, D ≤ a → s2.heap.get? a = none := fun a ha => by
    cases e : s2.heap.get? a with
    | none => rfl
    | some o' => exact absurd (hDd ▸ Heap.lt_size e) (Nat.not_lt.mpr ha)
  have S2 := R.st
  obtain ⟨mf, Ff⟩ := S2.fr
  have gnone : ∀ a, D ≤ a → Γ.g.get? a = none := fun a ha => by
    cases e : Γ.g.get? a with
    | none => rfl
    | some o' => have := Ff.keep _ _ e; rw [none2 a ha] at this; cases this
  have bNone : ∀ a, D ≤ a → Γ.base.get? a = none := fun a ha => by
    cases e : Γ.base.get? a with
    | none => rfl
    | some o' => have := gnone a ha; rw [O.bs _ _ e] at this; cases this
  have hCD : D ≤ C := by rw [hC]; exact Nat.le_succ _
  have s1none : ∀ a, D ≤ a → ∀ o, (vis Γ led1 s1).get? a = some o → False := fun a ha o e => by
    have := (vget (le2 a o e)); rw [none2 a ha] at this; cases this
  have exC : C ∉ exOf Γ led1 := fun h => by have := S2.ex_lt C h; rw [hDd] at this; exact Nat.lt_irrefl _ (Nat.lt_of_lt_of_le this hCD)
  have exD : D ∉ exOf Γ led1 := fun h => by have := S2.ex_lt D h; rw [hDd] at this; exact Nat.lt_irrefl _ this
  obtain ⟨m2, cm2, nm1, nm2, nm3⟩ := id S2.nm
  obtain ⟨oE, esE, epE, hoE, rE⟩ := id nm1
  obtain ⟨Z, z1, z2⟩ := frozen S2 Γ.env.cells hcn
  let fz : List (Addr × (Obj → Prop)) := (Γ.env.locals, upTo oE) :: (Z.map (fun p => (p.1, fun o => o = p.2)) ++ Γ.fz)
  let Γ' := Γ.comp scope cl C D fz
  have privlt : ∀ a ∈ Γ.priv, a ≠ C ∧ a ≠ D := fun a ha => by obtain ⟨o, e⟩ := S2.pv a ha; exact lt2 e
  have fzp : ∀ p ∈ fz, p.1 ∈ Γ.priv := fun p hp => by
    rcases List.mem_cons.mp hp with rfl | hp
    · exact O.pl
    · rcases List.mem_append.mp hp with hp | hp
      · obtain ⟨q, hq, rfl⟩ := List.mem_map.mp hp
        obtain ⟨_, x, hx⟩ := z1 q hq; exact (O.ce x q.1 (hcn _ hx)).1
      · exact (O.fl p hp).1
  have clx : ∀ x a, cl.lookup x = some a → Γ.env.cells.lookup x = some a := fun x a e => hcl _ (mem_of_lookup e)
  have O' : Ok n Γ' := {
    bs := O.bs, X := O.X, T := O.T, bm := O.bm, hA := O.hA, hf := O.hf, hk := O.hk, ek := hkind, eg := O.eg, eb := O.eb, hh := O.hh, gu := O.gu, gb := O.gb, un := O.un, dp := O.dp
    pl := .head _, pf := .tail _ (.tail _ O.pf), lg := gnone C hCD
    ce := fun x a e => by
      obtain ⟨q1, q2, q3, q4, q5⟩ := O.ce x a (clx x a e)
      exact ⟨.tail _ (.tail _ q1), q2, (privlt a q1).1, q4, q5⟩
    ci := fun x y a e1 e2 => O.ci x y a (clx x a e1) (clx y a e2)
    fl := fun p hp => ⟨.tail _ (.tail _ (fzp p hp)), (privlt _ (fzp p hp)).1⟩
    fe := fun e => absurd e (Ne.symm (privlt _ O.pf).1)
    fo := fun e he => by
      obtain ⟨e0, L, P, e1, e2, e3, e4, e5, e6, e7⟩ := O.fo e he
      exact ⟨e0, L, P, e1, e2, e3, (privlt _ (O.fl _ e6).1).1, e5, .tail _ (List.mem_append_right _ e6), e7⟩
    fc := fun hn p hp hq o x r => by
      rcases List.mem_cons.mp hp with rfl | hp
      · obtain ⟨y, rfl⟩ := r; exact ⟨x, rfl⟩
      · rcases List.mem_append.mp hp with hp | hp
        · obtain ⟨q, hq', rfl⟩ := List.mem_map.mp hp
          obtain ⟨_, y, hy⟩ := z1 q hq'
          obtain ⟨_, _, _, c4, c5⟩ := O.ce y q.1 (hcn _ hy)
          exact (hq.elim c4 c5).elim
        · exact O.fc hn p hp hq o x r
    kb := O.kb
    kp := fun a ha => by
      rcases List.mem_cons.mp ha with rfl | ha
      · exact bNone _ hCD
      · rcases List.mem_cons.mp ha with rfl | ha
        · exact bNone _ (Nat.le_refl _)
        · exact O.kp a ha }
  have exΓ : ∀ b, b ∈ exOf Γ' led1 ↔ b = C ∨ b = D ∨ b ∈ exOf Γ led1 := fun b => by
    show b ∈ C :: D :: Γ.priv ++ led1.map (·.1) ↔ _
    simp [exOf]
  have v2 : (vis Γ led1 s2).StaysIn (vis Γ' led1 { s2 with heap := h₁, toks := s2.toks + ([] : List (Str × Value)).length }) := fun b o e => by
    have e1 := vget (e)
    have e2 := vout (e)
    refine vmk (old b o e1) (fun hb => ?_)
    rcases (exΓ b).mp hb with q | q | q
    · exact (lt2 e1).1 q
    · exact (lt2 e1).2 q
    · exact e2 q
  have S3 : St Γ' locC led1 { s2 with heap := h₁, toks := s2.toks + ([] : List (Str × Value)).length } := {
    fr := ⟨mf, Ff.keeps old⟩
    nm := ⟨_, cm2, hns₁, fun x a e => let ⟨o, ho, hd⟩ := nm2 x a (clx x a e); ⟨o, old _ _ ho, hd⟩, fun x v e => by
      obtain ⟨e1, a, c1, c2, c3, c4⟩ := hloc x v e
      obtain ⟨v', e2, r⟩ := nm3 x v e1
      refine ⟨v', ?_, r.keeps v2⟩
      unfold nmOf at e2 ⊢
      have : cm2 x = some v' := by
        rcases c4 with c4 | c4 <;> (rw [c4, c2] at e2; exact e2)
      show (match (relabel scope Γ.env).names.lookup x with | some .local => _ | some .cell => (cl.lookup x).bind _ | some .free => (cl.lookup x).bind _ | _ => _) = some v'
      rcases c3 with c3 | c3 <;> (rw [c3, c1]; exact this)⟩
    ld := fun p hp => by
      obtain ⟨h1, h2, o, h3, h4⟩ := S2.ld p hp
      refine ⟨fun hb => ?_, h2, o, old _ _ h3, p.2.mono (.of v2) h4⟩
      rcases List.mem_cons.mp hb with q | hb
      · exact (lt2 h3).1 q
      · rcases List.mem_cons.mp hb with q | hb
        · exact (lt2 h3).2 q
        · exact h1 hb
    nd := S2.nd
    pv := fun a ha => by
      rcases List.mem_cons.mp ha with rfl | ha
      · obtain ⟨o, _, _, e, _⟩ := hns₁; exact ⟨o, e⟩
      · rcases List.mem_cons.mp ha with rfl | ha
        · exact ⟨_, hacc⟩
        · obtain ⟨o, e⟩ := S2.pv a ha; exact ⟨o, old _ _ e⟩
    os := S2.os
    gn := S2.gn
    fz := fun p hp => by
      rcases List.mem_cons.mp hp with rfl | hp
      · exact ⟨oE, old _ _ hoE, oE.slots, rfl⟩
      · rcases List.mem_append.mp hp with hp | hp
        · obtain ⟨q, hq, rfl⟩ := List.mem_map.mp hp
          exact ⟨q.2, old _ _ (z1 q hq).1, rfl⟩
        · obtain ⟨o, e, r⟩ := S2.fz p hp
          exact ⟨o, old _ _ e, r⟩ }
  have Ipriv : I ∉ Γ.priv := fun h => R.vI (List.mem_append_left _ h)
  have Ilt : I ≠ C ∧ I ≠ D := by obtain ⟨o, _, _, e, _⟩ := R.cl 0 _ R.J0; exact lt2 e
  have IV : I ∉ exOf Γ' led1 := fun h => by
    rcases (exΓ I).mp h with q | q | q
    · exact Ilt.1 q
    · exact Ilt.2 q
    · exact R.vI q
  have iF : I ≠ Γ'.fenv.locals := fun q => Ipriv (q ▸ O.pf)
  have iC : ∀ x a, Γ'.env.cells.lookup x = some a → a ≠ I := fun x a e q => Ipriv (q ▸ (O.ce x a (clx x a e)).1)
  have iZ : ∀ p ∈ Γ'.fz, p.1 ≠ I := fun p hp q => Ipriv (q ▸ fzp p hp)
  have ne1 : ∀ b o, (vis Γ led1 s1).get? b = some o → b ≠ I := fun b o e q => by have := (vget e); rw [q, new] at this; cases this
  have dF : D ≠ Γ'.fenv.locals := Ne.symm (privlt _ O.pf).2
  have dCe : ∀ x b, Γ'.env.cells.lookup x = some b → b ≠ D := fun x b e => (privlt b (O.ce x b (clx x b e)).1).2
  have dZ : ∀ p ∈ Γ'.fz, p.1 ≠ D := fun p hp => (privlt _ (fzp p hp)).2
  have hJ0 : J 0 h₁ := R.W.frame _ _ _ R.J0 fun b hb o e => old b o e
  have loop : codeAny (MM Γ.w) Γ.A (.compLoop (.ListComp elt [⟨t, iter, ifs, 0⟩] scope pos) 0 (.ref I) (.ref D) (compEnvC scope cl C Γ.env)) (RR (.ref D) C) { s2 with heap := h₁, toks := s2.toks + ([] : List (Str × Value)).length } := by
    refine codeAny_compLoop_any (fun k s' => ∃ i, i ≤ its.length ∧ k = its.length - i ∧ J i s'.heap ∧ St Γ' locC led1 s' ∧ (∃ vals kk as, s'.heap.get? D = some { cls := .type "list", data := .seq vals kk } ∧ ReadsAll (vis Γ' led1 s') vals.toList ((res.take i).filterMap id) as) ∧
      (∀ b o, (vis Γ led1 s1).get? b = some o → (vis Γ' led1 s').get? b = some o) ∧ Sub (vis Γ led1 s2) (vis Γ' led1 s') ∧ (∀ b ∈ fp, b ∉ pins.map (·.1) → b ∉ exOf Γ' led1 ∧ ∃ o, s'.heap.get? b = some o)) ?_ its.length
      ⟨0, Nat.zero_le _, rfl, hJ0, S3, ⟨#[], 0, [], hacc, .nil⟩, fun b o e => v2 b o (le2 b o e), .of v2, fun b hb hn => ?_⟩
    · rintro k s' ⟨i, hi, rfl, Ji, S', ⟨vals, kk, as, gD, rD⟩, a1, a2, a3⟩
      obtain ⟨oI, nmI, vsI, eI, cI, dI, nI⟩ := R.cl i _ Ji
      have iL : I ≠ Γ'.env.locals := Ilt.1
      by_cases hlt : i < its.length
      · refine R.W.item i s' _ _ hlt Ji fun v h' tk hP Ji' hk => ?_
        obtain ⟨y, hy, ry⟩ := R.Pv i v hlt hP
        have hk' : ∀ b o, b ≠ I → s'.heap.get? b = some o → h'.get? b = some o := fun b o q e => hk b o (by simpa using q) e
        obtain ⟨S4, sb4⟩ := S'.iter (t := tk) IV R.gI eI (noDat_of cI nI) hk' iL iF iC iZ
        obtain ⟨oI3, nm3, vs3, eI3, cI3, dI3, nI3⟩ := R.cl (i + 1) _ Ji'
        have hr : i < res.length := by rw [hlen]; exact hlt
        obtain ⟨r, hr'⟩ : ∃ r, res[i]? = some r := ⟨_, List.getElem?_eq_getElem hr⟩
        let oD : Obj := { cls := .type "list", data := .seq vals kk }
        have gD4 : h'.get? D = some oD := hk' D _ (Ne.symm Ilt.2) gD
        let fzi : List (Addr × (Obj → Prop)) := (D, fun o => o = oD) :: fz
        let Γi := Γ.comp scope cl C D fzi
        have Oi : Ok n Γi := { O' with
          fl := fun p hp => by
            rcases List.mem_cons.mp hp with rfl | hp
            · exact ⟨.tail _ (.head _), hDC⟩
            · exact O'.fl p hp
          fe := fun e => absurd e (Ne.symm (privlt _ O.pf).1)
          fo := fun e he => by
            obtain ⟨e0, L, P, e1, e2, e3, e4, e5, e6, e7⟩ := O'.fo e he
            exact ⟨e0, L, P, e1, e2, e3, e4, e5, .tail _ e6, e7⟩
          fc := fun hn p hp hq o x r => by
            rcases List.mem_cons.mp hp with rfl | hp
            · refine absurd (O.fr_priv (Γ := Γ) hq).1 fun z => ?_
              exact (privlt _ z).2 rfl
            · exact O'.fc hn p hp hq o x r }
        have Si : St Γi locC led1 { s' with heap := h', toks := tk } := S4.fzTo fun p hp => by
          rcases List.mem_cons.mp hp with rfl | hp
          · exact ⟨_, gD4, rfl⟩
          · exact S4.fz p hp
        obtain ⟨locI, hA, hw, hT⟩ := step C D fzi Oi i y r hy hr'
        refine owned_go eI3 cI3 dI3 nI3 ?_
        refine hA _ v _ _ Si ((ry.sub a2).sub sb4) fun s5 S5 le5 => ?_
        have take1 : (res.take (i + 1)).filterMap id = (res.take i).filterMap id ++ [r].filterMap id := by
          rw [List.take_add_one, List.filterMap_append, hr']; rfl
        have fv4 : ∀ b ∈ fp, b ∉ pins.map (·.1) → b ∉ exOf Γ' led1 ∧ ∃ o, h'.get? b = some o := fun b hb hn => by
          obtain ⟨f1, o, f2⟩ := a3 b hb hn
          refine ⟨f1, ?_⟩
          by_cases q : b = I
          · exact ⟨oI3, q ▸ eI3⟩
          · exact ⟨o, hk' b o q f2⟩
        -- behind the turn
        have fin : ∀ s6 (vals' : Array Value) (kk' : Nat) (bs : List Addr), St Γ' locC led1 s6 → (vis Γ' led1 { s' with heap := h', toks := tk }).StaysIn (vis Γ' led1 s6) → s6.heap.get? D = some { cls := .type "list", data := .seq vals' kk' } → ReadsAll (vis Γ' led1 s6) vals'.toList ((res.take (i + 1)).filterMap id) bs →
            ∃ m, m < its.length - i ∧ ∃ i, i ≤ its.length ∧ m = its.length - i ∧ J i s6.heap ∧ St Γ' locC led1 s6 ∧ (∃ vals kk as, s6.heap.get? D = some { cls := .type "list", data := .seq vals kk } ∧ ReadsAll (vis Γ' led1 s6) vals.toList ((res.take i).filterMap id) as) ∧
              (∀ b o, (vis Γ led1 s1).get? b = some o → (vis Γ' led1 s6).get? b = some o) ∧ Sub (vis Γ led1 s2) (vis Γ' led1 s6) ∧ (∀ b ∈ fp, b ∉ pins.map (·.1) → b ∉ exOf Γ' led1 ∧ ∃ o, s6.heap.get? b = some o) := fun s6 vals' kk' bs S6 le6 g6 r6 => by
          have fv6 : ∀ b ∈ fp, ∀ o, h'.get? b = some o → s6.heap.get? b = some o := fun b hb o e => by
            by_cases q : b ∈ pins.map (·.1)
            · obtain ⟨p, hp, rfl⟩ := List.mem_map.mp q
              have g4 : h'.get? p.1 = some p.2 := pin_get S4 hpin hp
              rw [g4] at e; cases e; exact pin_get S6 hpin hp
            · exact (vget (le6 b o (vmk e ((fv4 b hb q).1))))
          refine ⟨its.length - (i + 1), by lia, i + 1, hlt, rfl, R.W.frame _ _ _ Ji' fv6, S6, ⟨vals', kk', bs, g6, r6⟩, fun b o e => ?_, fun b o e hd => le6 b o (sb4 b o (a2 b o e hd) hd), fun b hb hn => ?_⟩
          · have e1 := vget (a1 b o e)
            have e2 := vout (a1 b o e)
            exact le6 b o (vmk (hk' b o (ne1 b o e) e1) e2)
          · obtain ⟨f1, o, f2⟩ := fv4 b hb hn
            exact ⟨f1, o, fv6 b hb o f2⟩
        cases r with
        | none =>
          obtain ⟨c, rfl, hb⟩ := hT
          refine wpAny_tests_one (hb s5 _ _ S5 fun ok s6 S6 le6 rc => ?_)
          subst rc
          have S6' : St Γ' locC led1 s6 := (S6.weak hw).fzTo fun p hp => S6.fz p (.tail _ hp)
          refine fin s6 vals kk as S6' (fun b o e => le6 b o (le5 b o e)) (by obtain ⟨o, e, rfl⟩ := S6.fz _ (.head _); exact e) ?_
          rw [take1]
          simp only [List.filterMap_cons, id, List.filterMap_nil, List.append_nil]
          exact readsAll_sub (Sub.of fun b o e => le6 b o (le5 b o e)) (readsAll_sub sb4 rD)
        | some y' =>
          obtain ⟨ht, he⟩ := hT
          have body : ∀ s6, St Γi locI led1 s6 → Le Γi led1 { s' with heap := h', toks := tk } led1 s6 → wpAny (MM Γ.w) Γ.A (eval elt (compEnvC scope cl C Γ.env)) (fun x s₄ => wpAny (MM Γ.w) Γ.A (call (.builtin "list.append") [.ref D, x]) (fun _ s₅ => ∃ m, m < its.length - i ∧ ∃ i, i ≤ its.length ∧ m = its.length - i ∧ J i s₅.heap ∧ St Γ' locC led1 s₅ ∧ (∃ vals kk as, s₅.heap.get? D = some { cls := .type "list", data := .seq vals kk } ∧ ReadsAll (vis Γ' led1 s₅) vals.toList ((res.take i).filterMap id) as) ∧
              (∀ b o, (vis Γ led1 s1).get? b = some o → (vis Γ' led1 s₅).get? b = some o) ∧ Sub (vis Γ led1 s2) (vis Γ' led1 s₅) ∧ (∀ b ∈ fp, b ∉ pins.map (·.1) → b ∉ exOf Γ' led1 ∧ ∃ o, s₅.heap.get? b = some o)) (notedBy (MM Γ.w) Γ.A (compEnvC scope cl C Γ.env) fun e s' => RR (.ref D) C (.error e) s') s₄) (notedBy (MM Γ.w) Γ.A (compEnvC scope cl C Γ.env) fun e s' => RR (.ref D) C (.error e) s') s6 := fun s6 S6 le6 => by
            refine he s6 _ _ S6 fun u s7 S7 le7 ru => ?_
            have g7 : s7.heap.get? D = some oD := by obtain ⟨o, e, rfl⟩ := S7.fz _ (.head _); exact e
            have S7' : St Γ' locC led1 s7 := (S7.weak hw).fzTo fun p hp => S7.fz p (.tail _ hp)
            refine append_at g7 (fun h8 hs8 g8 => ?_) ?_
            · obtain ⟨S8, le8⟩ := S7'.setPriv (t := s7.toks) (.tail _ (.head _)) (gnone D (Nat.le_refl _)) hs8 g8 hDC dF dCe dZ
              obtain ⟨us, ru⟩ := ru
              have r8 := readsAll_sub (Sub.of fun b o e => le8 b o (le7 b o (le6 b o e))) (readsAll_sub sb4 rD)
              obtain ⟨bs, r9⟩ := readsAll_app r8 (.cons (reads_sub (.of le8) ru) .nil)
              refine fin _ (vals.push u) (kk + 1) bs S8 (fun b o e => le8 b o (le7 b o (le6 b o e))) g8 ?_
              rw [take1]
              simpa using r9
            · have e1 := readsAll_length rD
              have e2 : ((res.take i).filterMap id).length ≤ its.length := by
                have h1 := List.length_filterMap_le id (res.take i)
                rw [List.length_take] at h1; lia
              have : vals.size = vals.toList.length := by simp
              lia
          rcases ht with rfl | ⟨c, rfl, hb⟩
          · refine wpAny_tests_nil ?_
            rw [if_pos rfl]
            exact body s5 S5 le5
          · refine wpAny_tests_one (hb s5 _ _ S5 fun ok s6 S6 le6 rc => ?_)
            subst rc
            rw [if_pos rfl]
            exact body s6 S6 (le5.trans le6)
      · have hi' : i = its.length := by lia
        subst hi'
        refine R.W.done s' _ _ Ji fun h' tk hk => ?_
        have hk' : ∀ b o, b ≠ I → s'.heap.get? b = some o → h'.get? b = some o := fun b o q e => hk b o (by simpa using q) e
        obtain ⟨S4, sb4⟩ := S'.iter (t := tk) IV R.gI eI (noDat_of cI nI) hk' iL iF iC iZ
        have gD4 := hk' D _ (Ne.symm Ilt.2) gD
        obtain ⟨m4, cm4, nC, _, _⟩ := S4.nm
        refine hRR D C _ ⟨m4, nC⟩ ?_ exC fun h5 t5 hs5 => ?_
        · cases q : s1.heap.get? C with
          | none => rfl
          | some o =>
            exact (s1none C hCD o (vmk q exC)).elim
        · have k5 : ∀ b o, b ≠ I → b ≠ C → s'.heap.get? b = some o → h5.get? b = some o := fun b o q1 q2 e => (hs5.2 b q2).trans (hk' b o q1 e)
          have exN : ∀ x : Mine.O, ∀ b, b ∈ exOf Γ ((D, x) :: led1) → b = D ∨ b ∈ exOf Γ led1 := fun x b hb => by
            rcases List.mem_append.mp hb with hb | hb
            · exact .inr (List.mem_append_left _ hb)
            · rcases List.mem_cons.mp hb with hb | hb
              · exact .inl hb
              · exact .inr (List.mem_append_right _ hb)
          have vis5 : Sub (vis Γ' led1 { s' with heap := h', toks := tk }) (vis Γ ((D, lstO (res.filterMap id)) :: led1) { s' with heap := h5, toks := t5 }) := fun b o e hd => by
            have e1 := vget (e)
            have e2 := vout (e)
            exact vmk ((hs5.2 b fun q => e2 ((exΓ b).mpr (.inl q))).trans e1) (fun hb => e2 ((exΓ b).mpr ((exN _ b hb).elim (fun q => .inr (.inl q)) fun q => .inr (.inr q))))
          have le5 : Le Γ led1 s1 ((D, lstO (res.filterMap id)) :: led1) { s' with heap := h5, toks := t5 } := fun b o e => by
            have e1 := vget ((a1 b o e))
            have e2 := vout ((a1 b o e))
            refine vmk (k5 b o (ne1 b o e) (fun q => e2 ((exΓ b).mpr (.inl q))) e1) (fun hb => ?_)
            rcases exN _ b hb with q | q
            · exact s1none D (Nat.le_refl _) o (q ▸ e)
            · exact (vout e) q
          have gD5 : h5.get? D = some { cls := .type "list", data := .seq vals kk } := (hs5.2 D hDC).trans gD4
          have rD5 := readsAll_sub vis5 (readsAll_sub sb4 rD)
          rw [← hlen, List.take_length] at rD5
          have pvI : ∀ a ∈ Γ.priv, a ≠ I ∧ a ≠ C := fun a ha => ⟨fun q => Ipriv (q ▸ ha), (privlt a ha).1⟩
          refine ⟨⟨?_, ⟨m2, cm2, ?_, fun x a e => ?_, fun x v e => ?_⟩, fun p hp => ?_, List.nodup_cons.mpr ⟨fun h => exD (List.mem_append_right _ h), S1.nd⟩, fun a ha => ?_, S4.os, S4.gn, fun p hp => ?_⟩, le5⟩
          · obtain ⟨m, F⟩ := S4.fr
            exact ⟨m, F.ns.sameBut hs5 (privlt _ O.pf).1, fun b o e => (hs5.2 b fun q => by rw [q, gnone C hCD] at e; cases e).trans (F.keep b o e), F.above⟩
          · obtain ⟨o', e', u⟩ := S'.fz _ (.head _)
            exact ns_upTo nm1 hoE (k5 _ _ (pvI _ O.pl).1 (pvI _ O.pl).2 e') u
          · obtain ⟨o, ho, hd⟩ := nm2 x a e
            obtain ⟨o', hz'⟩ := z2 _ (mem_of_lookup e)
            have hz1 := (z1 _ hz').1
            have : o' = o := Option.some.inj (hz1.symm.trans ho)
            subst this
            have : s'.heap.get? a = some o' := by obtain ⟨o, e, rfl⟩ := S'.fz _ (.tail _ (List.mem_append_left _ (List.mem_map_of_mem (f := fun p : Addr × Obj => (p.1, fun o => o = p.2)) hz'))); exact e
            exact ⟨o', k5 _ _ (pvI _ (O.ce x a e).1).1 (pvI _ (O.ce x a e).1).2 this, hd⟩
          · obtain ⟨v', e', r⟩ := nm3 x v e
            exact ⟨v', e', ((r.sub a2).sub sb4).sub vis5⟩
          · rcases List.mem_cons.mp hp with rfl | hp
            · exact ⟨fun h => (privlt D h).2 rfl, gnone D (Nat.le_refl _), _, gD5, vals, kk, _, rfl, rD5⟩
            · obtain ⟨h1, h2, o, h3, h4⟩ := S4.ld p hp
              exact ⟨fun hb => h1 (.tail _ (.tail _ hb)), h2, o, (hs5.2 _ fun q => h1 (by rw [q]; exact .head _)).trans h3, p.2.mono vis5 h4⟩
          · obtain ⟨o, e⟩ := S'.pv a (.tail _ (.tail _ ha))
            exact ⟨o, k5 a o (pvI a ha).1 (pvI a ha).2 e⟩
          · obtain ⟨o, e, r⟩ := S'.fz p (.tail _ (List.mem_append_right _ hp))
            exact ⟨o, k5 _ _ (pvI _ (O.fl p hp).1).1 (pvI _ (O.fl p hp).1).2 e, r⟩
    · obtain ⟨f1, o, f2⟩ := (R.fpv b hb).elim id fun q => absurd q hn
      refine ⟨fun h => ?_, o, old _ _ f2⟩
      rcases (exΓ b).mp h with q | q | q
      · exact (lt2 f2).1 q
      · exact (lt2 f2).2 q
      · exact f1 q
  exact codeAny_compStart_list loop (R.W.self 0 _ _ _ hJ0 loop)
theorem ns_unique {h : Heap} {a : Addr} {m m' : Str → Option Value} (x : h.Ns a m) (y : h.Ns a m') : m = m' := by
  refine aside fun zk => ?_
  obtain ⟨o, es, ep, h1, h2, h3, h4⟩ := x
  obtain ⟨o', es', ep', g1, g2, g3, g4⟩ := y
  apply zk
  rw [h1] at g1; cases g1
  rw [h2] at g2; cases g2
  funext n; rw [← h4 n, ← g4 n]
theorem St.stored (O : Ok n Γ) (S : St Γ loc led s) {x : Str} {v : V} {v' : Value} {m : Str → Option Value} {h' : Heap} {t : Nat} (hm : s.heap.Ns Γ.env.locals m) (hx : Γ.env.kindOf x = some .local)
    (hn : h'.Ns Γ.env.locals (fun z => if z = x then some v' else m z)) (hs : Heap.SameBut Γ.env.locals s.heap h') (r : RepV (vis Γ led s) v v') :
    St Γ (put loc x v) led { s with heap := h', toks := t } ∧ Le Γ led s led { s with heap := h', toks := t } := by
  refine aside fun zk => ?_
  obtain ⟨m', cm, hm', hcm, hl⟩ := S.nm
  have := ns_unique hm hm'
  subst this
  obtain ⟨mf, F⟩ := S.fr
  obtain ⟨oL, _, _, hoL, _⟩ := id hn
  obtain ⟨le, l1, l2⟩ := S.setAt O (t := t) O.pl O.lg hs hoL
  apply zk
  refine ⟨⟨?_, ⟨_, cm, hn, fun y a e => ?_, fun y u e => ?_⟩, l1, S.nd, l2, S.os, S.gn, fun p hp => let ⟨o, e, r⟩ := S.fz p hp; ⟨o, (hs.2 _ (O.fl p hp).2).trans e, r⟩⟩, le⟩
  · by_cases q : Γ.env.locals = Γ.fenv.locals
    · exact ⟨_, F.set (q ▸ hn) (q ▸ hs)⟩
    · exact ⟨mf, F.ns.sameBut hs (Ne.symm q), fun b o e => (hs.2 b fun q' => by rw [q', O.lg] at e; cases e).trans (F.keep b o e), F.above⟩
  · obtain ⟨o, ho, r⟩ := hcm y a e
    exact ⟨o, (hs.2 a (O.ce y a e).2.2.1).trans ho, r⟩
  · rw [put_lookup] at e
    by_cases q : y = x
    · subst q
      rw [if_pos rfl] at e
      cases e
      refine ⟨v', ?_, r.keeps le⟩
      unfold nmOf; rw [hx]; simp
    · rw [if_neg q] at e
      obtain ⟨u', e', ru⟩ := hl y u e
      refine ⟨u', ?_, ru.keeps le⟩
      unfold nmOf at e' ⊢
      split at e' <;> simp_all
structure CompOk (Γ : Cx) (scope : Scope) (cl : List (Str × Addr)) (loc1 locC : Loc) : Prop where
  clos : closureFor scope Γ.env = pure cl
  cell : ∀ y ∈ scope.names, y.2 ≠ .cell
  kind : scope.kind = .function
  names : ∀ y ∈ scope.names, y.2 = .local → scope.names.lookup y.1 = some .local
  hcl : ∀ p ∈ cl, Γ.env.cells.lookup p.1 = some p.2
  hloc : ∀ p ∈ locC, loc1.lookup p.1 = some p.2 ∧ Capt Γ scope cl p.1
  hcn : ∀ p ∈ Γ.env.cells, Γ.env.cells.lookup p.1 = some p.2
theorem Ev.comp (O : Ok n Γ) {elt t iter : Expr} {ifs : List Expr} {scope : Scope} {pos : Pos} {x : V} {its : List V} (res : List (Option PyData)) {cl : List (Str × Addr)} {locC : Loc}
    (h1 : Ev Γ loc led iter x loc1 led1) (hx : Src x its) (K : CompOk Γ scope cl loc1 locC) (hlen : res.length = its.length) (hz : its.length ≤ sizeLine)
    (step : ∀ C D fz, Ok n (Γ.comp scope cl C D fz) → ∀ (i : Nat) x r, its[i]? = some x → res[i]? = some r → CStep (Γ.comp scope cl C D fz) locC led1 t ifs elt x r)
    (hs : autoParam (∀ x, foldedSetIterable iter Γ.env x = pure x) aI) :
    Ev Γ loc led (.ListComp elt [⟨t, iter, ifs, 0⟩] scope pos) (.d (.list (res.filterMap id))) loc1 led1 := fun s Q E S h => by
  rw [eval_ListComp]
  refine wpAny_comprehension_free (use := Option.none) rfl hs K.clos K.kind K.names (h1 s _ E S fun a s1 S1 le1 ra => hx n Γ loc1 led1 s1 a _ E O S1 ra fun I s2 fp P J R le2 new => ?_)
  refine comp_core (pins := []) O S1 ⟨R.W, R.J0, R.st, (R.fpv I (R.W.sub I (List.mem_singleton.mpr rfl))).1, fun b hb => .inl (R.fpv b hb), R.Pv, R.gI, R.cl⟩ (fun _ h => nomatch h) le2 new K.cell K.kind K.hcl (fun x v e => K.hloc _ (mem_of_lookup e)) K.hcn hlen hz step (RR := fun acc C => compPost (MM Γ.w) Γ.A E Option.none Q acc C) ?_
  rintro D C s' ⟨m, hm⟩ hC exC k
  refine ⟨m, hm, fun h' hs' => ?_⟩
  obtain ⟨S', le'⟩ := k h' s'.toks hs'
  exact h _ _ S'.drop.1 (le1.trans (le'.trans S'.drop.2)) S'.freeze
theorem Ex1.assignComp (O : Ok n Γ) {elt t iter : Expr} {ifs : List Expr} {scope : Scope} {pos spos py : Pos} {y : Str} {x : V} {its : List V} (res : List (Option PyData)) {cl : List (Str × Addr)} {locC : Loc}
    (h1 : Ev Γ loc led iter x loc1 led1) (hx : Src x its) (K : CompOk Γ scope cl loc1 locC) (hlen : res.length = its.length) (hz : its.length ≤ sizeLine)
    (step : ∀ C D fz, Ok n (Γ.comp scope cl C D fz) → ∀ (i : Nat) x r, its[i]? = some x → res[i]? = some r → CStep (Γ.comp scope cl C D fz) locC led1 t ifs elt x r)
    (hy : Γ.env.kindOf y = some .local) (hsw : swapsWith (.ListComp elt [⟨t, iter, ifs, 0⟩] scope pos) (some (.Name y py)) spos.line Γ.env = pure true)
    (hs : autoParam (∀ x, foldedSetIterable iter Γ.env x = pure x) aI) :
    Ex1 Γ loc led (.Assign [.Name y py] (.ListComp elt [⟨t, iter, ifs, 0⟩] scope pos) spos) (.next (put loc1 y (.d (.list (res.filterMap id)))) led1) := fun s Q E S h => by
  rw [exec_Assign_Name_used _ _ _ _ hsw]
  refine wpAny_bind (wpAny_standAt (wpAny_bind ?_))
  show wpAny _ Γ.A (do let _ ← comprehension (.ListComp elt [⟨t, iter, ifs, 0⟩] scope pos) scope Γ.env _ (newList []) false (eval iter Γ.env) (some (PySem.assign (.Name y py) Γ.env))) _ _ s
  refine wpAny_bind (wpAny_mono (wpAny_comprehension_free (use := some (PySem.assign (.Name y py) Γ.env)) (Q := fun _ s' => Q .next s') rfl hs K.clos K.kind K.names
    (h1 s _ E S fun a s1 S1 le1 ra => hx n Γ loc1 led1 s1 a _ E O S1 ra fun I s2 fp P J R le2 new => ?_)) (fun _ s' hq => wpAny_pure (wpAny_pure hq)) fun _ _ e => e)
  refine comp_core (pins := []) O S1 ⟨R.W, R.J0, R.st, (R.fpv I (R.W.sub I (List.mem_singleton.mpr rfl))).1, fun b hb => .inl (R.fpv b hb), R.Pv, R.gI, R.cl⟩ (fun _ h => nomatch h) le2 new K.cell K.kind K.hcl (fun x v e => K.hloc _ (mem_of_lookup e)) K.hcn hlen hz step (RR := fun acc C => compPost (MM Γ.w) Γ.A E (some (PySem.assign (.Name y py) Γ.env)) (fun _ s' => Q .next s') acc C) ?_
  rintro D C s' ⟨m, hm⟩ hC exC k
  show wpAny (MM Γ.w) Γ.A (PySem.assign (.Name y py) Γ.env (.ref D)) _ _ _
  refine aside fun zk => ?_
  obtain ⟨T0, l0⟩ := k s'.heap s'.toks ⟨rfl, fun _ _ => rfl⟩
  have S0 := T0.drop.1
  obtain ⟨m0, cm0, hm0, _, _⟩ := S0.nm
  apply zk
  have hCL : C ≠ Γ.env.locals := fun q => exC (List.mem_append_left _ (q ▸ O.pl))
  refine wpAny_assign_Name (wpAny_storeName_local hy hm0 (fun h₂ hn₂ hs₂ => ?_) (by rw [O.ek]; rfl))
  refine ⟨m, hm.sameBut hs₂ hCL, fun h₃ hs₃ => ?_⟩
  refine aside fun zk => ?_
  have k1 : ∃ h1 : Heap, Heap.SameBut C s'.heap h1 ∧ h1.get? C = h₃.get? C := by
    cases hfr : h₃.get? C with
    | none => exact ⟨s'.heap.hide C, Heap.SameBut.update .., Heap.hide_self _ _⟩
    | some oC =>
      obtain ⟨oC0, _, _, hoC0, _⟩ := id hm
      have nf : oC.isFreed = false := (Heap.get?_some_iff.mp hfr).2
      exact ⟨s'.heap.update C fun _ => oC, Heap.SameBut.update .., Heap.get?_update_self (fun _ => oC) hoC0 nf⟩
  obtain ⟨h1, hs1, g1⟩ := k1
  obtain ⟨T1, l1⟩ := k h1 s'.toks hs1
  have S1' := T1.drop.1
  have le1' := l1.trans T1.drop.2
  have r1' := T1.freeze
  have hs13 : Heap.SameBut Γ.env.locals h1 h₃ := by
    refine ⟨by rw [hs₃.1, hs₂.1, hs1.1], fun b hb => ?_⟩
    by_cases q : b = C
    · rw [q, g1]
    · rw [hs₃.2 b q, hs₂.2 b hb, hs1.2 b q]
  obtain ⟨S3, le3⟩ := S1'.stored (t := s'.toks + 1) O (hm0.sameBut hs1 (Ne.symm hCL)) hy (hn₂.sameBut hs₃ (Ne.symm hCL)) hs13 r1'
  apply zk
  exact h _ _ ⟨rfl, S3, (le1.trans le1').trans le3⟩
end
end
section
section
variable {n : Nat} {Γ : Cx} {loc loc' loc1 loc2 loc3 : Loc} {led led' led1 led2 led3 pre post : Led} {s : Shared} {o : Out}
theorem St.setLed {a : Addr} {x x' : O} (S : St Γ loc (pre ++ (a, x) :: post) s) (O : Ok n Γ) {h' : Heap} {t : Nat} {oa : Obj} (hs : Heap.SameBut a s.heap h') (hoa : h'.get? a = some oa)
    (hx : ∀ v : Heap, Sub (vis Γ (pre ++ (a, x) :: post) s) v → x'.p v oa) :
    St Γ loc (pre ++ (a, x') :: post) { s with heap := h', toks := t } ∧ Le Γ (pre ++ (a, x) :: post) s (pre ++ (a, x') :: post) { s with heap := h', toks := t } := by
  refine aside fun zk => ?_
  have hm : (a, x) ∈ pre ++ (a, x) :: post := by simp
  obtain ⟨a1, a2, ao, a3, a4⟩ := S.ld _ hm
  apply zk
  have ek : (pre ++ (a, x') :: post).map (·.1) = (pre ++ (a, x) :: post).map (·.1) := by simp
  have ex : exOf Γ (pre ++ (a, x') :: post) = exOf Γ (pre ++ (a, x) :: post) := by unfold exOf; rw [ek]
  have aex : a ∈ exOf Γ (pre ++ (a, x) :: post) := List.mem_append_right _ (by simp)
  have le : Le Γ (pre ++ (a, x) :: post) s (pre ++ (a, x') :: post) { s with heap := h', toks := t } := fun b o e => by
    have e1 := vget (e)
    have e2 := vout (e)
    exact vmk ((hs.2 b fun q => e2 (q ▸ aex)).trans e1) (by rw [ex]; exact e2)
  refine ⟨⟨let ⟨m, F⟩ := S.fr; ⟨m, F.ns.sameBut hs (fun q => a1 (q ▸ O.pf)), fun b o e => (hs.2 b fun q => by rw [q, a2] at e; cases e).trans (F.keep b o e), F.above⟩, ?_, fun p hp => ?_, by rw [ek]; exact S.nd, fun b hb => ?_, S.os, S.gn, fun p hp => let ⟨o, e, r⟩ := S.fz p hp; ⟨o, (hs.2 _ fun q => a1 (q ▸ (O.fl p hp).1)).trans e, r⟩⟩, le⟩
  · refine aside fun zk => ?_
    obtain ⟨m, cm, h1, h2, h3⟩ := S.nm
    apply zk
    exact ⟨m, cm, h1.sameBut hs (fun q => a1 (q ▸ O.pl)), fun x b e => let ⟨o, ho, r⟩ := h2 x b e; ⟨o, (hs.2 _ fun q => a1 (q ▸ (O.ce x b e).1)).trans ho, r⟩, fun x v e => let ⟨v', e', r⟩ := h3 x v e; ⟨v', e', r.keeps le⟩⟩
  · have other : ∀ p ∈ pre ++ (a, x) :: post, p.1 ≠ a → p.1 ∉ Γ.priv ∧ Γ.g.get? p.1 = none ∧ ∃ o, h'.get? p.1 = some o ∧ p.2.p (vis Γ (pre ++ (a, x') :: post) { s with heap := h', toks := t }) o := fun p hp hne => by
      obtain ⟨h1, h2, o, h3, h4⟩ := S.ld p hp
      exact ⟨h1, h2, o, (hs.2 p.1 hne).trans h3, p.2.mono (.of le) h4⟩
    have nd := S.nd
    rw [List.map_append, List.map_cons, List.nodup_append] at nd
    rcases List.mem_append.mp hp with hp | hp
    · exact other p (List.mem_append_left _ hp) fun q => nd.2.2 p.1 (List.mem_map_of_mem hp) a (.head _) q
    · rcases List.mem_cons.mp hp with rfl | hp
      · exact ⟨a1, a2, oa, hoa, hx _ (.of le)⟩
      · exact other p (List.mem_append_right _ (.tail _ hp)) fun q => (List.nodup_cons.mp nd.2.1).1 (by show a ∈ _; rw [← q]; exact List.mem_map_of_mem hp)
  · obtain ⟨o, e⟩ := S.pv b hb
    exact ⟨o, (hs.2 b fun q => a1 (q ▸ hb)).trans e⟩
theorem St.new (S : St Γ loc led s) {ob : Obj} (hf : ob.isFreed = false) {x : O} {t : Nat} (hx : ∀ v : Heap, Sub (vis Γ led s) v → x.p v ob) :
    St Γ loc ((s.heap.objs.size, x) :: led) { s with heap := s.heap.push ob, toks := t } ∧ Le Γ led s ((s.heap.objs.size, x) :: led) { s with heap := s.heap.push ob, toks := t } := by
  refine aside fun zk => ?_
  obtain ⟨f1, f2, f3⟩ := S.fresh
  apply zk
  have k : ∀ b o, s.heap.get? b = some o → (s.heap.push ob).get? b = some o := fun b o e => Heap.get?_push_of_some _ e
  have le : Le Γ led s ((s.heap.objs.size, x) :: led) { s with heap := s.heap.push ob, toks := t } := fun b o e => by
    have e1 := vget (e)
    have e2 := vout (e)
    refine vmk (k b o e1) (fun hb => ?_)
    rcases List.mem_append.mp hb with hb | hb
    · exact e2 (List.mem_append_left _ hb)
    · rcases List.mem_cons.mp hb with q | hb
      · rw [q, f1] at e1; cases e1
      · exact e2 (List.mem_append_right _ hb)
  refine ⟨⟨let ⟨m, F⟩ := S.fr; ⟨m, F.keeps k⟩, ?_, fun p hp => ?_, ?_, fun a ha => let ⟨o, e⟩ := S.pv a ha; ⟨o, k a o e⟩, S.os, S.gn, fun p hp => let ⟨o, e, r⟩ := S.fz p hp; ⟨o, k _ _ e, r⟩⟩, le⟩
  · refine aside fun zk => ?_
    obtain ⟨m, cm, h1, h2, h3⟩ := S.nm
    apply zk
    exact ⟨m, cm, h1.keeps k, fun x a e => let ⟨o, ho, r⟩ := h2 x a e; ⟨o, k _ _ ho, r⟩, fun x v e => let ⟨v', e', r⟩ := h3 x v e; ⟨v', e', r.keeps le⟩⟩
  · rcases List.mem_cons.mp hp with rfl | hp
    · exact ⟨fun h => f2 (List.mem_append_left _ h), f3, ob, Heap.get?_push_size _ hf, hx _ (.of le)⟩
    · refine aside fun zk => ?_
      obtain ⟨h1, h2, o, h3, h4⟩ := S.ld p hp
      apply zk
      exact ⟨h1, h2, o, k _ _ h3, p.2.mono (.of le) h4⟩
  · rw [List.map_cons]
    exact List.nodup_cons.mpr ⟨fun h => f2 (List.mem_append_right _ h), S.nd⟩
theorem St.perm {l l' : Led} (S : St Γ loc l s) (h : l.Perm l') : St Γ loc l' s ∧ Le Γ l s l' s := by
  have ex : ∀ b, b ∈ exOf Γ l ↔ b ∈ exOf Γ l' := fun b => ⟨exOf_sub (fun p hp => ⟨p, h.mem_iff.mp hp, rfl⟩) b, exOf_sub (fun p hp => ⟨p, h.mem_iff.mpr hp, rfl⟩) b⟩
  have le : Le Γ l s l' s := fun b o e => by exact vmk (vget e) fun q => vout e ((ex b).mpr q)
  refine ⟨⟨S.fr, ?_, fun q hq => ?_, (h.map (·.1)).nodup_iff.mp S.nd, S.pv, S.os, S.gn, S.fz⟩, le⟩
  · refine aside fun zk => ?_
    obtain ⟨m, cm, h1, h2, h3⟩ := S.nm
    apply zk
    exact ⟨m, cm, h1, h2, fun x v e => let ⟨v', e', r⟩ := h3 x v e; ⟨v', e', r.keeps le⟩⟩
  · refine aside fun zk => ?_
    obtain ⟨h1, h2, o, h3, h4⟩ := S.ld q (h.mem_iff.mpr hq)
    apply zk
    exact ⟨h1, h2, o, h3, q.2.mono (.of le) h4⟩
noncomputable def EvN (Γ : Cx) (loc : Loc) (led : Led) (e : Expr) (ds : List PyData) (loc' : Loc) (led' : Led) : Prop :=
  ∀ s (Q : Value → Shared → Prop) (E : Value → Shared → Prop), St Γ loc led s → (∀ a s', St Γ loc' ((a, lstO ds) :: led') s' → Le Γ led s ((a, lstO ds) :: led') s' → Q (.ref a) s') → wpAny (MM Γ.w) Γ.A (eval e Γ.env) Q E s
theorem EvN.list {es : List Expr} {pos : Pos} {ds : List PyData} (h1 : Es Γ loc led es (ds.map V.d) loc1 led1) (hz : ds.length ≤ sizeLine) : EvN Γ loc led (.List es pos) ds loc1 led1 := fun s Q E S h =>
  wpAny_List (h1 pos s _ E S fun vals s1 S1 le1 rs => by
    obtain ⟨as, r⟩ := repAll_data rs
    have e := readsAll_length r
    obtain ⟨S4, le4⟩ := S1.new (ob := { cls := .type "list", data := .seq vals.toArray }) (x := lstO ds) (t := s1.toks) rfl fun v k => ⟨vals.toArray, 0, as, rfl, by simpa using readsAll_sub k r⟩
    exact ⟨by rw [e]; exact hz, h _ _ S4 (le1.trans le4)⟩)
theorem Ex.new (O : Ok n Γ) {x : Str} {p pos : Pos} {e : Expr} {b : List Stmt} {ds : List PyData} (h1 : EvN Γ loc led e ds loc1 led1) (hx : Sto Γ x) (hs : swapsWith e (some (.Name x p)) pos.line Γ.env = pure false)
    (h2 : ∀ a, Ex Γ (put loc1 x (.raw (.ref a))) ((a, lstO ds) :: led1) b o) : Ex Γ loc led (.Assign [.Name x p] e pos :: b) o := fun s Q E S h =>
  wpAny_execs_cons (wpAny_Assign_Name (h1 s _ E S fun a s1 S1 le1 => store' O hx S1 (v := .raw (.ref a)) rfl fun s2 S2 le2 => h2 a s2 Q E S2 fun f s3 x3 => h f s3 (x3.le (le1.trans le2))) hs)
theorem Ex.retD {e : Expr} {pos : Pos} {b : List Stmt} {v : V} (h1 : Ev Γ loc led e v loc1 led1) : Ex Γ loc led (.Return (some e) pos :: b) (.ret v [] led1) := fun s Q E S h =>
  wpAny_execs_cons (wpAny_Return_some (h1 s _ E S fun v' s1 S1 le r => h _ s1 ⟨v', rfl, S1.weak (fun _ _ e => nomatch e), le, r⟩))
theorem Ex.retL {e : Expr} {pos : Pos} {b : List Stmt} {a : Addr} {ds : List PyData} (h1 : Ev Γ loc led e (.raw (.ref a)) loc1 ((a, lstO ds) :: led1)) : Ex Γ loc led (.Return (some e) pos :: b) (.ret (.d (.list ds)) [] led1) := fun s Q E S h =>
  wpAny_execs_cons (wpAny_Return_some (h1 s _ E S fun v' s1 S1 le r => by
    cases r
    exact h _ s1 ⟨_, rfl, S1.drop.1.weak (fun _ _ e => nomatch e), le.trans S1.drop.2, S1.freeze⟩))
theorem Ex.drop {p : Addr × O} {b : List Stmt} (h1 : Ex Γ loc led b o) : Ex Γ loc (p :: led) b o := fun s Q E S h => h1 s Q E S.drop.1 fun f s' x => h f s' (x.le S.drop.2)
theorem Ex.weak {b : List Stmt} (h1 : Ex Γ loc' led b o) (h : ∀ x v, loc'.lookup x = some v → loc.lookup x = some v) : Ex Γ loc led b o := fun s Q E S k => h1 s Q E (S.weak h) k
theorem Ex.perm {l l' : Led} {b : List Stmt} (h1 : Ex Γ loc l' b o) (h : l.Perm l') : Ex Γ loc l b o := fun s Q E S k => h1 s Q E (S.perm h).1 fun f s' x => k f s' (x.le (S.perm h).2)
theorem Ex.freeze {a : Addr} {ds : List PyData} {x : Str} {b : List Stmt} (hx : loc.lookup x = some (.raw (.ref a))) (h1 : Ex Γ (put loc x (.d (.list ds))) led b o) : Ex Γ loc ((a, lstO ds) :: led) b o := fun s Q E S h => by
  obtain ⟨S1, le1⟩ := S.drop
  refine h1 s Q E ⟨S1.fr, ?_, S1.ld, S1.nd, S1.pv, S1.os, S1.gn, S1.fz⟩ fun f s' y => h f s' (y.le le1)
  obtain ⟨m, cm, n1, n2, n3⟩ := S1.nm
  refine ⟨m, cm, n1, n2, fun y v e => ?_⟩
  rw [put_lookup] at e
  by_cases q : y = x
  · subst q
    rw [if_pos rfl] at e; cases e
    refine aside fun zk => ?_
    obtain ⟨v', e', r⟩ := n3 y _ hx
    cases r
    apply zk
    exact ⟨_, e', S.freeze⟩
  · rw [if_neg q] at e; exact n3 y v e
theorem Ev.meth (O : Ok n Γ) {o : Expr} {name : Str} {apos pos : Pos} {as : List Expr} {x v : V} {vs : List V} {id : String} {fp fp' : Led} (h1 : Ev Γ loc led o x loc1 led1)
    (hm : ∀ s a (Q : Value × List Value → Shared → Prop) (E : Value → Shared → Prop) (pl : Sem Bool), St Γ loc1 led1 s → RepV (vis Γ led1 s) x a → Q (.builtin id, [a]) s → wpAny (MM Γ.w) Γ.A (getMethod a name pl) Q E s)
    (ha : Es Γ loc1 led1 as vs loc2 (fp ++ led2)) (ho : OpN n (fun vals => PySem.call (.builtin id) vals) (x :: vs) fp v fp') (hp : autoParam (∀ pos, (backTo pos (starEach as Γ.env)).any (·.1) = false) aI)
    {pl : Sem Bool} (he : autoParam (eval (.Call (.Attribute o name apos) as [] pos) Γ.env = (do let ov ← eval o Γ.env; standAt apos.atName; let (f, first) ← holding [ov] (getMethod ov name pl); callWith pos f first (backTo pos (starEach as Γ.env)) (backToKw pos (keywordEach [] Γ.env)))) aR) :
    Ev Γ loc led (.Call (.Attribute o name apos) as [] pos) v loc2 (fp' ++ led2) := fun s Q E S h => by
  refine methodCall_KW (h1 s _ E S fun a s1 S1 le1 ra => hm s1 a _ E pl S1 ra ?_) he
  refine callWith_of (P := fun h => (KF Γ.w).In h) (by rw [hp pos]; rfl) (fun h X => keep_blt h X) (evalArgs_es (hp pos) (ha pos s1 _ E S1 fun vals s2 S2 le2 rs => ⟨KX O S2, ?_⟩))
  exact ho Γ loc2 led2 s2 (a :: vals) Q E O S2 (.cons (ra.keeps le2) rs) fun v' s3 S3 le3 rv => h v' s3 S3 (le1.trans (le2.trans le3)) rv
theorem gm_str {name : Str} {id : String} {x : Str} (slot : Slot "str" name id) (hty : typeOf (.builtin id) = pure (.type "method_descriptor")) (pa : PlainAttrs "str") :
    ∀ s a (Q : Value × List Value → Shared → Prop) (E : Value → Shared → Prop) (pl : Sem Bool), St Γ loc1 led1 s → RepV (vis Γ led1 s) (.d (.str x)) a → Q (.builtin id, [a]) s → wpAny (MM Γ.w) Γ.A (getMethod a name pl) Q E s := fun s a Q E pl S r h => by
  obtain ⟨t, rfl⟩ := rep_str r
  exact getMethod_builtin (typeIs_str s x t) pa slot hty (fun _ e => by cases e) h
theorem gm_lst {name : Str} {id : String} {a : Addr} {ds : List PyData} (slot : Slot "list" name id) (hty : typeOf (.builtin id) = pure (.type "method_descriptor")) (pa : PlainAttrs "list") (hm : (a, lstO ds) ∈ led1) :
    ∀ s v (Q : Value × List Value → Shared → Prop) (E : Value → Shared → Prop) (pl : Sem Bool), St Γ loc1 led1 s → RepV (vis Γ led1 s) (.raw (.ref a)) v → Q (.builtin id, [v]) s → wpAny (MM Γ.w) Γ.A (getMethod v name pl) Q E s := fun s v Q E pl S r h => by
  refine aside fun zk => ?_
  cases r
  obtain ⟨h1, h2, o, h3, vals, k, as, rfl, r⟩ := S.ld _ hm
  apply zk
  exact getMethod_builtin ⟨_, h3, rfl⟩ pa slot hty (fun b e => by cases e; exact ⟨_, h3, rfl⟩) h
theorem append_op {a : Addr} {ds : List PyData} {d : PyData} (hz : ds.length ≤ sizeLine) : OpN n (fun vals => PySem.call (.builtin "list.append") vals) [.raw (.ref a), .d d] [(a, lstO ds)] (.d .none) [(a, lstO (ds ++ [d]))] := fun Γ loc led s vals Q E O S rs h => by
  cases rs with
  | cons r1 q => cases q with
    | cons r2 q => cases q with
      | nil =>
        refine aside fun zk => ?_
        cases r1
        obtain ⟨h1, h2, o, h3, vals, k, as, rfl, r⟩ := S.ld _ (.head _)
        obtain ⟨bs, r2⟩ := r2
        apply zk
        have e := readsAll_length r
        refine append_at h3 (fun h' hs' g' => ?_) (by have : vals.size = vals.toList.length := by simp
                                                      lia)
        obtain ⟨S4, le4⟩ := S.setLed (pre := []) (x' := lstO (ds ++ [d])) (t := s.toks) O hs' g' fun v kk => by
          obtain ⟨cs, r3⟩ := readsAll_app (readsAll_sub kk r) (.cons (reads_sub kk r2) .nil)
          exact ⟨vals.push _, k + 1, cs, rfl, by simpa using r3⟩
        exact h _ _ S4 le4 of_none
end
end
section
theorem gl_wall (w : World) : nsIn (KF w) mainGlobals (Str.ofString "_wall") = some (some (.ref 21)) := by kernel_rfl
theorem kp_wall (w : World) : Keep w (.ref 21) := keep_fn (by kernel_rfl)
theorem gl_shorten (w : World) : nsIn (KF w) mainGlobals (Str.ofString "_shorten") = some (some (.ref 28)) := by kernel_rfl
theorem kp_shorten (w : World) : Keep w (.ref 28) := keep_fn (by kernel_rfl)
theorem gl_kind (w : World) : nsIn (KF w) mainGlobals (Str.ofString "_kind") = some (some (.ref 35)) := by kernel_rfl
theorem kp_kind (w : World) : Keep w (.ref 35) := keep_fn (by kernel_rfl)
theorem gl_fspath (w : World) : nsIn (KF w) mainGlobals (Str.ofString "_fspath") = some (some (.ref 42)) := by kernel_rfl
theorem kp_fspath (w : World) : Keep w (.ref 42) := keep_fn (by kernel_rfl)
theorem gl_prefix (w : World) : nsIn (KF w) mainGlobals (Str.ofString "_prefix") = some (some (.ref 49)) := by kernel_rfl
theorem kp_prefix (w : World) : Keep w (.ref 49) := keep_fn (by kernel_rfl)
theorem glcommonprefix (w : World) : nsIn (KF w) mainGlobals (Str.ofString "commonprefix") = some (some (.ref 54)) := by kernel_rfl
theorem kpcommonprefix (w : World) : Keep w (.ref 54) := keep_fn (by kernel_rfl)
theorem gl_common_shorten_repr (w : World) : nsIn (KF w) mainGlobals (Str.ofString "_common_shorten_repr") = some (some (.ref 61)) := by kernel_rfl
theorem kp_common_shorten_repr (w : World) : Keep w (.ref 61) := keep_fn (by kernel_rfl)
theorem glsafe_repr (w : World) : nsIn (KF w) mainGlobals (Str.ofString "safe_repr") = some (some (.ref 69)) := by kernel_rfl
theorem kpsafe_repr (w : World) : Keep w (.ref 69) := keep_fn (by kernel_rfl)
theorem glunorderable_list_difference (w : World) : nsIn (KF w) mainGlobals (Str.ofString "unorderable_list_difference") = some (some (.ref 76)) := by kernel_rfl
theorem kpunorderable_list_difference (w : World) : Keep w (.ref 76) := keep_fn (by kernel_rfl)
theorem glS_IFMT (w : World) : nsIn (KF w) mainGlobals (Str.ofString "S_IFMT") = some (some (.ref 83)) := by kernel_rfl
theorem kpS_IFMT (w : World) : Keep w (.ref 83) := keep_fn (by kernel_rfl)
theorem gl_filemode_table (w : World) : nsIn (KF w) mainGlobals (Str.ofString "_filemode_table") = some (some (.ref 116)) := by kernel_rfl
theorem glfilemode (w : World) : nsIn (KF w) mainGlobals (Str.ofString "filemode") = some (some (.ref 123)) := by kernel_rfl
theorem kpfilemode (w : World) : Keep w (.ref 123) := keep_fn (by kernel_rfl)
theorem gl_NodeInfo (w : World) : nsIn (KF w) mainGlobals (Str.ofString "_NodeInfo") = some (some (.ref 142)) := by kernel_rfl
theorem kp_NodeInfo (w : World) : Keep w (.ref 142) := keep_fn (by kernel_rfl)
theorem glCycleError (w : World) : nsIn (KF w) mainGlobals (Str.ofString "CycleError") = some (some (.ref 157)) := by kernel_rfl
theorem kpCycleError (w : World) : Keep w (.ref 157) := keep_fn (by kernel_rfl)
theorem glTopologicalSorter (w : World) : nsIn (KF w) mainGlobals (Str.ofString "TopologicalSorter") = some (some (.ref 239)) := by kernel_rfl
theorem kpTopologicalSorter (w : World) : Keep w (.ref 239) := keep_fn (by kernel_rfl)
theorem gl_law_cells (w : World) : nsIn (KF w) mainGlobals (Str.ofString "_law_cells") = some (some (.ref 250)) := by kernel_rfl
theorem kp_law_cells (w : World) : Keep w (.ref 250) := keep_fn (by kernel_rfl)
theorem gl_law_files (w : World) : nsIn (KF w) mainGlobals (Str.ofString "_law_files") = some (some (.ref 257)) := by kernel_rfl
theorem kp_law_files (w : World) : Keep w (.ref 257) := keep_fn (by kernel_rfl)
theorem gl_law_row (w : World) : nsIn (KF w) mainGlobals (Str.ofString "_law_row") = some (some (.ref 264)) := by kernel_rfl
theorem kp_law_row (w : World) : Keep w (.ref 264) := keep_fn (by kernel_rfl)
theorem gl_law_walked (w : World) : nsIn (KF w) mainGlobals (Str.ofString "_law_walked") = some (some (.ref 269)) := by kernel_rfl
theorem kp_law_walked (w : World) : Keep w (.ref 269) := keep_fn (by kernel_rfl)
theorem gl_law_told (w : World) : nsIn (KF w) mainGlobals (Str.ofString "_law_told") = some (some (.ref 276)) := by kernel_rfl
theorem kp_law_told (w : World) : Keep w (.ref 276) := keep_fn (by kernel_rfl)
theorem gl_law_is_told (w : World) : nsIn (KF w) mainGlobals (Str.ofString "_law_is_told") = some (some (.ref 281)) := by kernel_rfl
theorem kp_law_is_told (w : World) : Keep w (.ref 281) := keep_fn (by kernel_rfl)
theorem gl_law_shared (w : World) : nsIn (KF w) mainGlobals (Str.ofString "_law_shared") = some (some (.ref 286)) := by kernel_rfl
theorem kp_law_shared (w : World) : Keep w (.ref 286) := keep_fn (by kernel_rfl)
theorem gl_law_without (w : World) : nsIn (KF w) mainGlobals (Str.ofString "_law_without") = some (some (.ref 293)) := by kernel_rfl
theorem kp_law_without (w : World) : Keep w (.ref 293) := keep_fn (by kernel_rfl)
theorem gl_law_short (w : World) : nsIn (KF w) mainGlobals (Str.ofString "_law_short") = some (some (.ref 298)) := by kernel_rfl
theorem kp_law_short (w : World) : Keep w (.ref 298) := keep_fn (by kernel_rfl)
theorem gl_law_is_short (w : World) : nsIn (KF w) mainGlobals (Str.ofString "_law_is_short") = some (some (.ref 303)) := by kernel_rfl
theorem kp_law_is_short (w : World) : Keep w (.ref 303) := keep_fn (by kernel_rfl)
theorem gl_law_bags_are_told (w : World) : nsIn (KF w) mainGlobals (Str.ofString "_law_bags_are_told") = some (some (.ref 308)) := by kernel_rfl
theorem kp_law_bags_are_told (w : World) : Keep w (.ref 308) := keep_fn (by kernel_rfl)
theorem gl_law_holds (w : World) : nsIn (KF w) mainGlobals (Str.ofString "_law_holds") = some (some (.ref 313)) := by kernel_rfl
theorem kp_law_holds (w : World) : Keep w (.ref 313) := keep_fn (by kernel_rfl)
theorem gllaw (w : World) : nsIn (KF w) mainGlobals (Str.ofString "law") = some (some (.ref 320)) := by kernel_rfl
theorem kplaw (w : World) : Keep w (.ref 320) := keep_fn (by kernel_rfl)
theorem gl_MAX_LENGTH (w : World) : nsIn (KF w) mainGlobals (Str.ofString "_MAX_LENGTH") = some (some (.int 80 196)) := by kernel_rfl
theorem gl_PLACEHOLDER_LEN (w : World) : nsIn (KF w) mainGlobals (Str.ofString "_PLACEHOLDER_LEN") = some (some (.int 12 198)) := by kernel_rfl
theorem gl_MIN_BEGIN_LEN (w : World) : nsIn (KF w) mainGlobals (Str.ofString "_MIN_BEGIN_LEN") = some (some (.int 5 200)) := by kernel_rfl
theorem gl_MIN_END_LEN (w : World) : nsIn (KF w) mainGlobals (Str.ofString "_MIN_END_LEN") = some (some (.int 5 202)) := by kernel_rfl
theorem gl_MIN_COMMON_LEN (w : World) : nsIn (KF w) mainGlobals (Str.ofString "_MIN_COMMON_LEN") = some (some (.int 5 204)) := by kernel_rfl
theorem gl_MIN_DIFF_LEN (w : World) : nsIn (KF w) mainGlobals (Str.ofString "_MIN_DIFF_LEN") = some (some (.int 41 210)) := by kernel_rfl
theorem gl_NODE_OUT (w : World) : nsIn (KF w) mainGlobals (Str.ofString "_NODE_OUT") = some (some (.int (-1) 379)) := by kernel_rfl
theorem gl_NODE_DONE (w : World) : nsIn (KF w) mainGlobals (Str.ofString "_NODE_DONE") = some (some (.int (-2) 382)) := by kernel_rfl
theorem gl_b_range (w : World) : nsIn (KF w) mainGlobals (Str.ofString "range") = some none := by kernel_rfl
theorem bt_range : bootBuiltins (Str.ofString "range") = some (.type "range") := by boot_fast
theorem gl_b_len (w : World) : nsIn (KF w) mainGlobals (Str.ofString "len") = some none := by kernel_rfl
theorem bt_len : bootBuiltins (Str.ofString "len") = some (.builtin "len") := by boot_fast
theorem gl_b_min (w : World) : nsIn (KF w) mainGlobals (Str.ofString "min") = some none := by kernel_rfl
theorem bt_min : bootBuiltins (Str.ofString "min") = some (.builtin "min") := by boot_fast
theorem gl_b_max (w : World) : nsIn (KF w) mainGlobals (Str.ofString "max") = some none := by kernel_rfl
theorem bt_max : bootBuiltins (Str.ofString "max") = some (.builtin "max") := by boot_fast
theorem gl_b_sorted (w : World) : nsIn (KF w) mainGlobals (Str.ofString "sorted") = some none := by kernel_rfl
theorem bt_sorted : bootBuiltins (Str.ofString "sorted") = some (.builtin "sorted") := by boot_fast
theorem gl_b_list (w : World) : nsIn (KF w) mainGlobals (Str.ofString "list") = some none := by kernel_rfl
theorem bt_list : bootBuiltins (Str.ofString "list") = some (.type "list") := by boot_fast
theorem gl_b_tuple (w : World) : nsIn (KF w) mainGlobals (Str.ofString "tuple") = some none := by kernel_rfl
theorem bt_tuple : bootBuiltins (Str.ofString "tuple") = some (.type "tuple") := by boot_fast
theorem gl_b_str (w : World) : nsIn (KF w) mainGlobals (Str.ofString "str") = some none := by kernel_rfl
theorem bt_str : bootBuiltins (Str.ofString "str") = some (.type "str") := by boot_fast
theorem gl_b_repr (w : World) : nsIn (KF w) mainGlobals (Str.ofString "repr") = some none := by kernel_rfl
theorem bt_repr : bootBuiltins (Str.ofString "repr") = some (.builtin "repr") := by boot_fast
theorem gl_b_isinstance (w : World) : nsIn (KF w) mainGlobals (Str.ofString "isinstance") = some none := by kernel_rfl
theorem bt_isinstance : bootBuiltins (Str.ofString "isinstance") = some (.builtin "isinstance") := by boot_fast
theorem gl_b_type (w : World) : nsIn (KF w) mainGlobals (Str.ofString "type") = some none := by kernel_rfl
theorem bt_type : bootBuiltins (Str.ofString "type") = some (.type "type") := by boot_fast
theorem gl_b_enumerate (w : World) : nsIn (KF w) mainGlobals (Str.ofString "enumerate") = some none := by kernel_rfl
theorem bt_enumerate : bootBuiltins (Str.ofString "enumerate") = some (.type "enumerate") := by boot_fast
theorem gl_b_map (w : World) : nsIn (KF w) mainGlobals (Str.ofString "map") = some none := by kernel_rfl
theorem bt_map : bootBuiltins (Str.ofString "map") = some (.type "map") := by boot_fast
theorem gl_b_iter (w : World) : nsIn (KF w) mainGlobals (Str.ofString "iter") = some none := by kernel_rfl
theorem bt_iter : bootBuiltins (Str.ofString "iter") = some (.builtin "iter") := by boot_fast
theorem gl_b_set (w : World) : nsIn (KF w) mainGlobals (Str.ofString "set") = some none := by kernel_rfl
theorem bt_set : bootBuiltins (Str.ofString "set") = some (.type "set") := by boot_fast
theorem gl_b_bool (w : World) : nsIn (KF w) mainGlobals (Str.ofString "bool") = some none := by kernel_rfl
theorem bt_bool : bootBuiltins (Str.ofString "bool") = some (.type "bool") := by boot_fast
theorem gl_b_int (w : World) : nsIn (KF w) mainGlobals (Str.ofString "int") = some none := by kernel_rfl
theorem bt_int : bootBuiltins (Str.ofString "int") = some (.type "int") := by boot_fast
theorem gl_b_float (w : World) : nsIn (KF w) mainGlobals (Str.ofString "float") = some none := by kernel_rfl
theorem bt_float : bootBuiltins (Str.ofString "float") = some (.type "float") := by boot_fast
theorem gl_b_dict (w : World) : nsIn (KF w) mainGlobals (Str.ofString "dict") = some none := by kernel_rfl
theorem bt_dict : bootBuiltins (Str.ofString "dict") = some (.type "dict") := by boot_fast
section
variable {n : Nat} {Γ : Cx} {loc : Loc} {led : Led} {p : Pos}
theorem nm_wall (O : Ok n Γ) (hx : Γ.env.kindOf (Str.ofString "_wall") = some .globalImplicit) : Ep Γ loc led (.Name (Str.ofString "_wall") p) (.raw (.ref 21)) := Ev.glob O hx (gl_wall _)
theorem nm_shorten (O : Ok n Γ) (hx : Γ.env.kindOf (Str.ofString "_shorten") = some .globalImplicit) : Ep Γ loc led (.Name (Str.ofString "_shorten") p) (.raw (.ref 28)) := Ev.glob O hx (gl_shorten _)
theorem nm_kind (O : Ok n Γ) (hx : Γ.env.kindOf (Str.ofString "_kind") = some .globalImplicit) : Ep Γ loc led (.Name (Str.ofString "_kind") p) (.raw (.ref 35)) := Ev.glob O hx (gl_kind _)
theorem nm_fspath (O : Ok n Γ) (hx : Γ.env.kindOf (Str.ofString "_fspath") = some .globalImplicit) : Ep Γ loc led (.Name (Str.ofString "_fspath") p) (.raw (.ref 42)) := Ev.glob O hx (gl_fspath _)
theorem nm_prefix (O : Ok n Γ) (hx : Γ.env.kindOf (Str.ofString "_prefix") = some .globalImplicit) : Ep Γ loc led (.Name (Str.ofString "_prefix") p) (.raw (.ref 49)) := Ev.glob O hx (gl_prefix _)
theorem nmcommonprefix (O : Ok n Γ) (hx : Γ.env.kindOf (Str.ofString "commonprefix") = some .globalImplicit) : Ep Γ loc led (.Name (Str.ofString "commonprefix") p) (.raw (.ref 54)) := Ev.glob O hx (glcommonprefix _)
theorem nm_common_shorten_repr (O : Ok n Γ) (hx : Γ.env.kindOf (Str.ofString "_common_shorten_repr") = some .globalImplicit) : Ep Γ loc led (.Name (Str.ofString "_common_shorten_repr") p) (.raw (.ref 61)) := Ev.glob O hx (gl_common_shorten_repr _)
theorem nmsafe_repr (O : Ok n Γ) (hx : Γ.env.kindOf (Str.ofString "safe_repr") = some .globalImplicit) : Ep Γ loc led (.Name (Str.ofString "safe_repr") p) (.raw (.ref 69)) := Ev.glob O hx (glsafe_repr _)
theorem nmunorderable_list_difference (O : Ok n Γ) (hx : Γ.env.kindOf (Str.ofString "unorderable_list_difference") = some .globalImplicit) : Ep Γ loc led (.Name (Str.ofString "unorderable_list_difference") p) (.raw (.ref 76)) := Ev.glob O hx (glunorderable_list_difference _)
theorem nmS_IFMT (O : Ok n Γ) (hx : Γ.env.kindOf (Str.ofString "S_IFMT") = some .globalImplicit) : Ep Γ loc led (.Name (Str.ofString "S_IFMT") p) (.raw (.ref 83)) := Ev.glob O hx (glS_IFMT _)
theorem nm_filemode_table (O : Ok n Γ) (hx : Γ.env.kindOf (Str.ofString "_filemode_table") = some .globalImplicit) : Ep Γ loc led (.Name (Str.ofString "_filemode_table") p) (.raw (.ref 116)) := Ev.glob O hx (gl_filemode_table _)
theorem nmfilemode (O : Ok n Γ) (hx : Γ.env.kindOf (Str.ofString "filemode") = some .globalImplicit) : Ep Γ loc led (.Name (Str.ofString "filemode") p) (.raw (.ref 123)) := Ev.glob O hx (glfilemode _)
theorem nm_NodeInfo (O : Ok n Γ) (hx : Γ.env.kindOf (Str.ofString "_NodeInfo") = some .globalImplicit) : Ep Γ loc led (.Name (Str.ofString "_NodeInfo") p) (.raw (.ref 142)) := Ev.glob O hx (gl_NodeInfo _)
theorem nmCycleError (O : Ok n Γ) (hx : Γ.env.kindOf (Str.ofString "CycleError") = some .globalImplicit) : Ep Γ loc led (.Name (Str.ofString "CycleError") p) (.raw (.ref 157)) := Ev.glob O hx (glCycleError _)
theorem nmTopologicalSorter (O : Ok n Γ) (hx : Γ.env.kindOf (Str.ofString "TopologicalSorter") = some .globalImplicit) : Ep Γ loc led (.Name (Str.ofString "TopologicalSorter") p) (.raw (.ref 239)) := Ev.glob O hx (glTopologicalSorter _)
theorem nm_law_cells (O : Ok n Γ) (hx : Γ.env.kindOf (Str.ofString "_law_cells") = some .globalImplicit) : Ep Γ loc led (.Name (Str.ofString "_law_cells") p) (.raw (.ref 250)) := Ev.glob O hx (gl_law_cells _)
theorem nm_law_files (O : Ok n Γ) (hx : Γ.env.kindOf (Str.ofString "_law_files") = some .globalImplicit) : Ep Γ loc led (.Name (Str.ofString "_law_files") p) (.raw (.ref 257)) := Ev.glob O hx (gl_law_files _)
theorem nm_law_row (O : Ok n Γ) (hx : Γ.env.kindOf (Str.ofString "_law_row") = some .globalImplicit) : Ep Γ loc led (.Name (Str.ofString "_law_row") p) (.raw (.ref 264)) := Ev.glob O hx (gl_law_row _)
theorem nm_law_walked (O : Ok n Γ) (hx : Γ.env.kindOf (Str.ofString "_law_walked") = some .globalImplicit) : Ep Γ loc led (.Name (Str.ofString "_law_walked") p) (.raw (.ref 269)) := Ev.glob O hx (gl_law_walked _)
theorem nm_law_told (O : Ok n Γ) (hx : Γ.env.kindOf (Str.ofString "_law_told") = some .globalImplicit) : Ep Γ loc led (.Name (Str.ofString "_law_told") p) (.raw (.ref 276)) := Ev.glob O hx (gl_law_told _)
theorem nm_law_is_told (O : Ok n Γ) (hx : Γ.env.kindOf (Str.ofString "_law_is_told") = some .globalImplicit) : Ep Γ loc led (.Name (Str.ofString "_law_is_told") p) (.raw (.ref 281)) := Ev.glob O hx (gl_law_is_told _)
theorem nm_law_shared (O : Ok n Γ) (hx : Γ.env.kindOf (Str.ofString "_law_shared") = some .globalImplicit) : Ep Γ loc led (.Name (Str.ofString "_law_shared") p) (.raw (.ref 286)) := Ev.glob O hx (gl_law_shared _)
theorem nm_law_without (O : Ok n Γ) (hx : Γ.env.kindOf (Str.ofString "_law_without") = some .globalImplicit) : Ep Γ loc led (.Name (Str.ofString "_law_without") p) (.raw (.ref 293)) := Ev.glob O hx (gl_law_without _)
theorem nm_law_short (O : Ok n Γ) (hx : Γ.env.kindOf (Str.ofString "_law_short") = some .globalImplicit) : Ep Γ loc led (.Name (Str.ofString "_law_short") p) (.raw (.ref 298)) := Ev.glob O hx (gl_law_short _)
theorem nm_law_is_short (O : Ok n Γ) (hx : Γ.env.kindOf (Str.ofString "_law_is_short") = some .globalImplicit) : Ep Γ loc led (.Name (Str.ofString "_law_is_short") p) (.raw (.ref 303)) := Ev.glob O hx (gl_law_is_short _)
theorem nm_law_bags_are_told (O : Ok n Γ) (hx : Γ.env.kindOf (Str.ofString "_law_bags_are_told") = some .globalImplicit) : Ep Γ loc led (.Name (Str.ofString "_law_bags_are_told") p) (.raw (.ref 308)) := Ev.glob O hx (gl_law_bags_are_told _)
theorem nm_law_holds (O : Ok n Γ) (hx : Γ.env.kindOf (Str.ofString "_law_holds") = some .globalImplicit) : Ep Γ loc led (.Name (Str.ofString "_law_holds") p) (.raw (.ref 313)) := Ev.glob O hx (gl_law_holds _)
theorem nmlaw (O : Ok n Γ) (hx : Γ.env.kindOf (Str.ofString "law") = some .globalImplicit) : Ep Γ loc led (.Name (Str.ofString "law") p) (.raw (.ref 320)) := Ev.glob O hx (gllaw _)
theorem nm_MAX_LENGTH (O : Ok n Γ) (hx : Γ.env.kindOf (Str.ofString "_MAX_LENGTH") = some .globalImplicit) : Ep Γ loc led (.Name (Str.ofString "_MAX_LENGTH") p) (.d (.int 80)) := Ev.globInt O hx (gl_MAX_LENGTH _)
theorem nm_PLACEHOLDER_LEN (O : Ok n Γ) (hx : Γ.env.kindOf (Str.ofString "_PLACEHOLDER_LEN") = some .globalImplicit) : Ep Γ loc led (.Name (Str.ofString "_PLACEHOLDER_LEN") p) (.d (.int 12)) := Ev.globInt O hx (gl_PLACEHOLDER_LEN _)
theorem nm_MIN_BEGIN_LEN (O : Ok n Γ) (hx : Γ.env.kindOf (Str.ofString "_MIN_BEGIN_LEN") = some .globalImplicit) : Ep Γ loc led (.Name (Str.ofString "_MIN_BEGIN_LEN") p) (.d (.int 5)) := Ev.globInt O hx (gl_MIN_BEGIN_LEN _)
theorem nm_MIN_END_LEN (O : Ok n Γ) (hx : Γ.env.kindOf (Str.ofString "_MIN_END_LEN") = some .globalImplicit) : Ep Γ loc led (.Name (Str.ofString "_MIN_END_LEN") p) (.d (.int 5)) := Ev.globInt O hx (gl_MIN_END_LEN _)
theorem nm_MIN_COMMON_LEN (O : Ok n Γ) (hx : Γ.env.kindOf (Str.ofString "_MIN_COMMON_LEN") = some .globalImplicit) : Ep Γ loc led (.Name (Str.ofString "_MIN_COMMON_LEN") p) (.d (.int 5)) := Ev.globInt O hx (gl_MIN_COMMON_LEN _)
theorem nm_MIN_DIFF_LEN (O : Ok n Γ) (hx : Γ.env.kindOf (Str.ofString "_MIN_DIFF_LEN") = some .globalImplicit) : Ep Γ loc led (.Name (Str.ofString "_MIN_DIFF_LEN") p) (.d (.int 41)) := Ev.globInt O hx (gl_MIN_DIFF_LEN _)
theorem nm_NODE_OUT (O : Ok n Γ) (hx : Γ.env.kindOf (Str.ofString "_NODE_OUT") = some .globalImplicit) : Ep Γ loc led (.Name (Str.ofString "_NODE_OUT") p) (.d (.int (-1))) := Ev.globInt O hx (gl_NODE_OUT _)
theorem nm_NODE_DONE (O : Ok n Γ) (hx : Γ.env.kindOf (Str.ofString "_NODE_DONE") = some .globalImplicit) : Ep Γ loc led (.Name (Str.ofString "_NODE_DONE") p) (.d (.int (-2))) := Ev.globInt O hx (gl_NODE_DONE _)
theorem nm_b_range (O : Ok n Γ) (hx : Γ.env.kindOf (Str.ofString "range") = some .globalImplicit) : Ep Γ loc led (.Name (Str.ofString "range") p) (.raw (.type "range")) := Ev.blt O hx (gl_b_range _) bt_range
theorem nm_b_len (O : Ok n Γ) (hx : Γ.env.kindOf (Str.ofString "len") = some .globalImplicit) : Ep Γ loc led (.Name (Str.ofString "len") p) (.raw (.builtin "len")) := Ev.blt O hx (gl_b_len _) bt_len
theorem nm_b_min (O : Ok n Γ) (hx : Γ.env.kindOf (Str.ofString "min") = some .globalImplicit) : Ep Γ loc led (.Name (Str.ofString "min") p) (.raw (.builtin "min")) := Ev.blt O hx (gl_b_min _) bt_min
theorem nm_b_max (O : Ok n Γ) (hx : Γ.env.kindOf (Str.ofString "max") = some .globalImplicit) : Ep Γ loc led (.Name (Str.ofString "max") p) (.raw (.builtin "max")) := Ev.blt O hx (gl_b_max _) bt_max
theorem nm_b_sorted (O : Ok n Γ) (hx : Γ.env.kindOf (Str.ofString "sorted") = some .globalImplicit) : Ep Γ loc led (.Name (Str.ofString "sorted") p) (.raw (.builtin "sorted")) := Ev.blt O hx (gl_b_sorted _) bt_sorted
theorem nm_b_list (O : Ok n Γ) (hx : Γ.env.kindOf (Str.ofString "list") = some .globalImplicit) : Ep Γ loc led (.Name (Str.ofString "list") p) (.raw (.type "list")) := Ev.blt O hx (gl_b_list _) bt_list
theorem nm_b_tuple (O : Ok n Γ) (hx : Γ.env.kindOf (Str.ofString "tuple") = some .globalImplicit) : Ep Γ loc led (.Name (Str.ofString "tuple") p) (.raw (.type "tuple")) := Ev.blt O hx (gl_b_tuple _) bt_tuple
theorem nm_b_str (O : Ok n Γ) (hx : Γ.env.kindOf (Str.ofString "str") = some .globalImplicit) : Ep Γ loc led (.Name (Str.ofString "str") p) (.raw (.type "str")) := Ev.blt O hx (gl_b_str _) bt_str
theorem nm_b_repr (O : Ok n Γ) (hx : Γ.env.kindOf (Str.ofString "repr") = some .globalImplicit) : Ep Γ loc led (.Name (Str.ofString "repr") p) (.raw (.builtin "repr")) := Ev.blt O hx (gl_b_repr _) bt_repr
theorem nm_b_isinstance (O : Ok n Γ) (hx : Γ.env.kindOf (Str.ofString "isinstance") = some .globalImplicit) : Ep Γ loc led (.Name (Str.ofString "isinstance") p) (.raw (.builtin "isinstance")) := Ev.blt O hx (gl_b_isinstance _) bt_isinstance
theorem nm_b_type (O : Ok n Γ) (hx : Γ.env.kindOf (Str.ofString "type") = some .globalImplicit) : Ep Γ loc led (.Name (Str.ofString "type") p) (.raw (.type "type")) := Ev.blt O hx (gl_b_type _) bt_type
theorem nm_b_enumerate (O : Ok n Γ) (hx : Γ.env.kindOf (Str.ofString "enumerate") = some .globalImplicit) : Ep Γ loc led (.Name (Str.ofString "enumerate") p) (.raw (.type "enumerate")) := Ev.blt O hx (gl_b_enumerate _) bt_enumerate
theorem nm_b_map (O : Ok n Γ) (hx : Γ.env.kindOf (Str.ofString "map") = some .globalImplicit) : Ep Γ loc led (.Name (Str.ofString "map") p) (.raw (.type "map")) := Ev.blt O hx (gl_b_map _) bt_map
theorem nm_b_iter (O : Ok n Γ) (hx : Γ.env.kindOf (Str.ofString "iter") = some .globalImplicit) : Ep Γ loc led (.Name (Str.ofString "iter") p) (.raw (.builtin "iter")) := Ev.blt O hx (gl_b_iter _) bt_iter
theorem nm_b_set (O : Ok n Γ) (hx : Γ.env.kindOf (Str.ofString "set") = some .globalImplicit) : Ep Γ loc led (.Name (Str.ofString "set") p) (.raw (.type "set")) := Ev.blt O hx (gl_b_set _) bt_set
theorem nm_b_bool (O : Ok n Γ) (hx : Γ.env.kindOf (Str.ofString "bool") = some .globalImplicit) : Ep Γ loc led (.Name (Str.ofString "bool") p) (.raw (.type "bool")) := Ev.blt O hx (gl_b_bool _) bt_bool
theorem nm_b_int (O : Ok n Γ) (hx : Γ.env.kindOf (Str.ofString "int") = some .globalImplicit) : Ep Γ loc led (.Name (Str.ofString "int") p) (.raw (.type "int")) := Ev.blt O hx (gl_b_int _) bt_int
theorem nm_b_float (O : Ok n Γ) (hx : Γ.env.kindOf (Str.ofString "float") = some .globalImplicit) : Ep Γ loc led (.Name (Str.ofString "float") p) (.raw (.type "float")) := Ev.blt O hx (gl_b_float _) bt_float
theorem nm_b_dict (O : Ok n Γ) (hx : Γ.env.kindOf (Str.ofString "dict") = some .globalImplicit) : Ep Γ loc led (.Name (Str.ofString "dict") p) (.raw (.type "dict")) := Ev.blt O hx (gl_b_dict _) bt_dict
end
end
section
theorem call_def0 {n : Nat} {f : Addr} {args : List V} {fp fp' : Led} {v : V} {name qual : Str} {params : Arguments} {body : List Stmt} {scope : Scope} {dV kV doc pm cdv ct oc : Value} {an od : Option Addr} {osl : Array (Option Value)} (names : List Str)
    (ho : ∀ w, (KF w).lookup f = some ⟨oc, od, .func (fnX name qual params body scope [] dV kV doc pm an cdv ct), osl⟩) (hcd : ∀ w, codeIn (KF w) cdv qual = true)
    (hbind : ∀ s vals, vals.length = args.length → BindsTo s (fnX name qual params body scope [] dV kV doc pm an cdv ct) ⟨vals, []⟩ (names.zip vals))
    (hkind : (names.all fun y => scope.names.lookup y == some .local || scope.names.lookup y == some .cell) = true)
    (hnd : ((cellsFrom 0 scope.names []).map (·.1)).Nodup) (hnn : names.Nodup) (hlen : names.length = args.length)
    (hbody : ∀ (C : Cx0) (L : Addr), Ok n (C.at (envOfC qual scope L f cdv)) → ∃ loc', Ex (C.at (envOfC qual scope L f cdv)) (names.zip args) fp body (.ret v loc' fp'))
    (hco : autoParam (scope.isCoroutine = false) aR) (hgen : autoParam (scope.isGenerator = false) aR) (hk : autoParam (scope.kind = .function) aR) : OpN (n + 1) (fun vals => call (.ref f) vals) args fp v fp' :=
  call_def (more := []) names ho hcd (fun s vals _ hl => ⟨[], by rw [List.append_nil]; exact hbind s vals hl, fun _ => .nil⟩) hkind hnd hnn (by rw [List.append_nil, hlen]; exact Nat.le_refl _)
    (fun C L O => by rw [List.append_nil]; exact hbody C L O) hco hgen hk
section
variable {n : Nat} {Γ : Cx} {loc loc' loc1 loc2 : Loc} {led led' led1 led2 : Led} {o : Out}
theorem Ex.asg (O : Ok n Γ) {x : Str} {p pos : Pos} {e : Expr} {v : V} {b : List Stmt} (h1 : Ep Γ loc led e v) (hx : Sto Γ x) (hs : swapsWith e (some (.Name x p)) pos.line Γ.env = pure false) (h2 : Ex Γ (put loc x v) led b o) :
    Ex Γ loc led (.Assign [.Name x p] e pos :: b) o := Ex.cons (Ex1.assign O h1 hx hs) h2
theorem Ex.ifs {t : Expr} {b e r : List Stmt} {pos : Pos} {c : Bool} (h1 : Bt Γ loc led t c loc led) (h2 : c = true → Ex Γ loc led b (.next loc1 led1)) (h3 : c = false → Ex Γ loc led e (.next loc1 led1)) (h4 : Ex Γ loc1 led1 r o) : Ex Γ loc led (.If t b e pos :: r) o :=
  Ex.cons (Ex1.ifB h1 h2 h3) h4
theorem Ex.ifRet {t : Expr} {b r : List Stmt} {pos : Pos} {c : Bool} {v : V} {l1 : Loc} {d1 : Led} (h1 : Bt Γ loc led t c loc led) (h2 : c = true → Ex Γ loc led b (.ret v l1 d1)) (h3 : c = false → Ex Γ loc led r (.ret v l1 d1)) : Ex Γ loc led (.If t b [] pos :: r) (.ret v l1 d1) := by
  cases c with
  | true => exact Ex.ret (Ex1.ifT h1 (h2 rfl))
  | false => exact Ex.cons (Ex1.ifF h1 Ex.nil) (h3 rfl)
theorem Ex.nextWeak {b : List Stmt} (h : Ex Γ loc led b (.next loc1 led1)) (hw : ∀ x v, loc2.lookup x = some v → loc1.lookup x = some v) : Ex Γ loc led b (.next loc2 led1) := fun s Q E S k =>
  h s Q E S fun f s' x => k f s' ⟨x.1, x.2.1.weak hw, x.2.2⟩
theorem Turns.fold {t : Expr} {body : List Stmt} (σ : Nat → Loc) (τ : Nat → Led) (its : List V) : ∀ (k : Nat), (∀ (i : Nat) x, its[i]? = some x → ∃ loc1, As Γ (σ (k + i)) (τ (k + i)) t x loc1 ∧ Ex Γ loc1 (τ (k + i)) body (.next (σ (k + i + 1)) (τ (k + i + 1)))) →
    Turns Γ t body its (σ k) (τ k) (.next (σ (k + its.length)) (τ (k + its.length))) := by
  induction its with
  | nil => exact fun _ _ => rfl
  | cons x r ih =>
    refine fun k h => (h 0 x rfl).elim fun loc1 hB => ⟨loc1, _, hB.1, hB.2, ?_⟩
    have := ih (k + 1) fun i y hy => Nat.add_right_comm k 1 i ▸ h (i + 1) y hy
    rw [Nat.add_right_comm k 1 r.length] at this
    exact this
theorem Ex.forFold (O : Ok n Γ) {t iter : Expr} {body b : List Stmt} {pos : Pos} {x : V} {its : List V} (σ : Nat → Loc) (τ : Nat → Led) (h1 : Ep Γ (σ 0) (τ 0) iter x) (hx : Src x its)
    (ht : ∀ (i : Nat) y, its[i]? = some y → ∃ loc1, As Γ (σ i) (τ i) t y loc1 ∧ Ex Γ loc1 (τ i) body (.next (σ (i + 1)) (τ (i + 1))))
    (h2 : Ex Γ (σ its.length) (τ its.length) b o) (hs : autoParam (∀ x, foldedSetIterable iter Γ.env x = pure x) aI) : Ex Γ (σ 0) (τ 0) (.For t iter body [] pos :: b) o := by
  have T := Turns.fold (Γ := Γ) (t := t) (body := body) σ τ its 0 (by simpa using ht)
  rw [Nat.zero_add] at T
  exact Ex.cons (Ex1.for_ (o := .next (σ its.length) (τ its.length)) O h1 hx T (Ex.nil (Γ := Γ)) hs) h2
end
noncomputable def mk : List Str → List (Option V) → Loc
  | x :: xs, some v :: vs => (x, v) :: mk xs vs
  | _ :: xs, none :: vs => mk xs vs
  | _, _ => []
theorem mk_mem : ∀ {xs : List Str} {vs : List (Option V)} {x : Str} {v : V}, (x, v) ∈ mk xs vs → ∃ i : Nat, xs[i]? = some x ∧ vs[i]? = some (some v)
  | [], _, _, _, h => by simp [mk] at h
  | _ :: _, [], _, _, h => by simp [mk] at h
  | y :: xs, some u :: vs, x, v, h => by
    simp only [mk, List.mem_cons, Prod.mk.injEq] at h
    rcases h with ⟨rfl, rfl⟩ | h
    · exact ⟨0, rfl, rfl⟩
    · obtain ⟨i, h1, h2⟩ := mk_mem h; exact ⟨i + 1, h1, h2⟩
  | y :: xs, none :: vs, x, v, h => by
    simp only [mk] at h
    obtain ⟨i, h1, h2⟩ := mk_mem h; exact ⟨i + 1, h1, h2⟩
theorem mk_lookup : ∀ {xs : List Str} {vs : List (Option V)} {x : Str} {v : V} {i : Nat}, xs.Nodup → xs[i]? = some x → vs[i]? = some (some v) → (mk xs vs).lookup x = some v
  | [], _, _, _, _, _, h, _ => by simp at h
  | _ :: _, [], _, _, _, _, _, h => by simp at h
  | y :: xs, u :: vs, x, v, 0, hn, h1, h2 => by
    simp at h1 h2; subst h1; subst h2; simp [mk]
  | y :: xs, u :: vs, x, v, i + 1, hn, h1, h2 => by
    simp at h1 h2
    have hn' := List.nodup_cons.mp hn
    have hx : x ≠ y := fun q => hn'.1 (q ▸ List.mem_of_getElem? h1)
    have ih := mk_lookup hn'.2 h1 h2
    cases u with
    | none => simpa [mk] using ih
    | some w =>
      have hb : (x == y) = false := beq_eq_false_iff_ne.mpr hx
      simp only [mk, List.lookup_cons, hb]; exact ih
theorem nodup_idx {α : Type} : ∀ {xs : List α} {i j : Nat} {x : α}, xs.Nodup → xs[i]? = some x → xs[j]? = some x → i = j := fun {xs i j x} hn h1 h2 => by
  obtain ⟨l1, e1⟩ := List.getElem?_eq_some_iff.mp h1
  obtain ⟨l2, e2⟩ := List.getElem?_eq_some_iff.mp h2
  rcases Nat.lt_trichotomy i j with h | h | h
  · exact absurd (e1.trans e2.symm) ((List.pairwise_iff_getElem.mp hn) i j l1 l2 h)
  · exact h
  · exact absurd (e2.trans e1.symm) ((List.pairwise_iff_getElem.mp hn) j i l2 l1 h)
theorem put_mk {xs : List Str} {vs : List (Option V)} {x : Str} {v : V} {i : Nat} (hn : xs.Nodup) (h1 : xs[i]? = some x) : ∀ y u, (mk xs (vs.set i (some v))).lookup y = some u → (put (mk xs vs) x v).lookup y = some u := fun y u e => by
  obtain ⟨j, e1, e2⟩ := mk_mem (mem_of_lookup e)
  rw [put_lookup]
  by_cases q : j = i
  · subst q
    have : y = x := by rw [h1] at e1; exact (Option.some.inj e1).symm
    rw [if_pos this]
    have hl : j < (vs.set j (some v)).length := (List.getElem?_eq_some_iff.mp e2).1
    rw [List.getElem?_set_self (by simpa using hl)] at e2
    exact Option.some.inj e2
  · have : y ≠ x := fun z => q (nodup_idx hn (z ▸ e1) h1)
    rw [if_neg this]
    rw [List.getElem?_set_ne (Ne.symm q)] at e2
    exact mk_lookup hn e1 e2
theorem mk_less {xs : List Str} {vs vs' : List (Option V)} (hn : xs.Nodup) (h : ∀ (i : Nat) v, vs'[i]? = some (some v) → vs[i]? = some (some v)) : ∀ y u, (mk xs vs').lookup y = some u → (mk xs vs).lookup y = some u := fun y u e => by
  obtain ⟨j, e1, e2⟩ := mk_mem (mem_of_lookup e)
  exact mk_lookup hn e1 (h j u e2)
theorem mk_zip {xs ys : List Str} : ∀ {args : List V}, ∀ y u, (mk (xs ++ ys) (args.map some)).lookup y = some u → xs.length = args.length → (xs.zip args).lookup y = some u := by
  induction xs with
  | nil =>
    intro args y u e hl
    cases args with
    | nil => cases ys <;> simp [mk] at e
    | cons a r => simp at hl
  | cons x xs ih =>
    intro args y u e hl
    cases args with
    | nil => simp at hl
    | cons a r =>
      simp only [List.cons_append, List.map_cons, mk, List.lookup_cons, List.zip_cons_cons] at e ⊢
      split at e
      · exact e
      · exact ih y u e (by simpa using hl)
structure Lay (Γ : Cx) (xs : List Str) : Prop where
  nd : xs.Nodup
  dbg : (xs.all fun x => !(x == ("__debug__" : Str)) && !(x == ("__classdict__" : Str))) = true
  sto : (xs.all fun x => Γ.env.kindOf x == some .local || (Γ.env.kindOf x == some .cell && (Γ.env.cells.lookup x).isSome)) = true
  fn : Γ.env.locals = Γ.fenv.locals
theorem Lay.st {Γ : Cx} {xs : List Str} (l : Lay Γ xs) {x : Str} (h : x ∈ xs) : Sto Γ x := by
  have := List.all_eq_true.mp l.sto x h
  simp only [Bool.or_eq_true, Bool.and_eq_true, beq_iff_eq] at this
  exact this.imp id fun q => ⟨q.1, q.2, l.fn⟩
section
variable {n : Nat} {Γ : Cx} {xs : List Str} {vs : List (Option V)} {led led' led1 : Led} {o : Out}
theorem Ev.nm (O : Ok n Γ) (l : Lay Γ xs) (i : Nat) {x : Str} {v : V} {pos : Pos} (h1 : autoParam (xs[i]? = some x) aR) (h2 : autoParam (vs[i]? = some (some v)) aR) : Ep Γ (mk xs vs) led (.Name x pos) v := by
  have := List.all_eq_true.mp l.dbg x (List.mem_of_getElem? h1)
  simp only [Bool.and_eq_true, Bool.not_eq_true'] at this
  exact Ev.name O (mk_lookup l.nd h1 h2) this.1 this.2
theorem Ex.let_ (O : Ok n Γ) (l : Lay Γ xs) (i : Nat) {x : Str} {p pos : Pos} {e : Expr} {v : V} {b : List Stmt} (h1 : Ep Γ (mk xs vs) led e v) (h2 : Ex Γ (mk xs (vs.set i (some v))) led b o) (hi : autoParam (xs[i]? = some x) aR) (hs : autoParam (swapsWith e (some (.Name x p)) pos.line Γ.env = pure false) aR) :
    Ex Γ (mk xs vs) led (.Assign [.Name x p] e pos :: b) o :=
  Ex.asg O h1 (l.st (List.mem_of_getElem? hi)) hs (h2.weak (put_mk l.nd hi))
theorem Ex.newI (O : Ok n Γ) (l : Lay Γ xs) (i : Nat) {x : Str} {p pos : Pos} {e : Expr} {b : List Stmt} {ds : List PyData} (h1 : EvN Γ (mk xs vs) led e ds (mk xs vs) led)
    (h2 : ∀ a, Ex Γ (mk xs (vs.set i (some (.raw (.ref a))))) ((a, lstO ds) :: led) b o) (hi : autoParam (xs[i]? = some x) aR) (hs : autoParam (swapsWith e (some (.Name x p)) pos.line Γ.env = pure false) aR) : Ex Γ (mk xs vs) led (.Assign [.Name x p] e pos :: b) o :=
  Ex.new O h1 (l.st (List.mem_of_getElem? hi)) hs fun a => (h2 a).weak (put_mk l.nd hi)
theorem Ex.freezeI (l : Lay Γ xs) (i : Nat) {x : Str} {a : Addr} {ds : List PyData} {b : List Stmt} (h1 : Ex Γ (mk xs (vs.set i (some (.d (.list ds))))) led b o) (hi : autoParam (xs[i]? = some x) aR) (hv : autoParam (vs[i]? = some (some (.raw (.ref a)))) aR) : Ex Γ (mk xs vs) ((a, lstO ds) :: led) b o :=
  Ex.freeze (mk_lookup l.nd hi hv) (h1.weak (put_mk l.nd hi))
theorem As.nm (O : Ok n Γ) (l : Lay Γ xs) (i : Nat) {x : Str} {p : Pos} {v : V} (hi : autoParam (xs[i]? = some x) aR) : As Γ (mk xs vs) led (.Name x p) v (mk xs (vs.set i (some v))) := fun s v' Q E S r h =>
  As.name O (l.st (List.mem_of_getElem? hi)) s v' Q E S r fun s' S' le => h s' (S'.weak (put_mk l.nd hi)) le
inductive Less : List (Option V) → List (Option V) → Prop
  | nil {vs : List (Option V)} : Less [] vs
  | skip {x : Option V} {vs vs' : List (Option V)} : Less vs' vs → Less (none :: vs') (x :: vs)
  | same {x : Option V} {vs vs' : List (Option V)} : Less vs' vs → Less (x :: vs') (x :: vs)
theorem Less.get {vs' vs : List (Option V)} (h : Less vs' vs) : ∀ (j : Nat) v, vs'[j]? = some (some v) → vs[j]? = some (some v) := by
  induction h with
  | nil => intro j v e; simp at e
  | skip _ ih =>
    intro j v e
    cases j with
    | zero => simp at e
    | succ j => simp at e ⊢; exact ih j v e
  | same _ ih =>
    intro j v e
    cases j with
    | zero => exact e
    | succ j => simp at e ⊢; exact ih j v e
theorem Ex.done (l : Lay Γ xs) {vs' : List (Option V)} (h : Less vs' vs) : Ex Γ (mk xs vs) led [] (.next (mk xs vs') led) := Ex.nextWeak Ex.nil (mk_less l.nd h.get)
theorem Ex.less (l : Lay Γ xs) {vs' : List (Option V)} {b : List Stmt} (h : Less vs' vs) (h1 : Ex Γ (mk xs vs') led b o) : Ex Γ (mk xs vs) led b o := h1.weak (mk_less l.nd h.get)
theorem Ex.forI (O : Ok n Γ) (l : Lay Γ xs) (i : Nat) {x : Str} {p pos : Pos} {iter : Expr} {body b : List Stmt} {y : V} {its : List V} (σ : Nat → List (Option V)) (τ : Nat → Led) (h1 : Ep Γ (mk xs (σ 0)) (τ 0) iter y) (hx : Src y its)
    (ht : ∀ (k : Nat) z, its[k]? = some z → Ex Γ (mk xs ((σ k).set i (some z))) (τ k) body (.next (mk xs (σ (k + 1))) (τ (k + 1))))
    (h2 : Ex Γ (mk xs (σ its.length)) (τ its.length) b o) (hi : autoParam (xs[i]? = some x) aR) (hs : autoParam (∀ x, foldedSetIterable iter Γ.env x = pure x) aI) : Ex Γ (mk xs (σ 0)) (τ 0) (.For (.Name x p) iter body [] pos :: b) o :=
  Ex.forFold O (fun k => mk xs (σ k)) τ h1 hx (fun k z hz => ⟨_, As.nm O l i hi, ht k z hz⟩) h2 hs
theorem lay_in {ys : List Str} {args : List V} {b : List Stmt} (h : Ex Γ (mk (xs ++ ys) (args.map some ++ ys.map fun _ => none)) led b o) (hl : xs.length = args.length) : Ex Γ (xs.zip args) led b o :=
  h.weak fun y u e => mk_zip (ys := ys) y u (by
    have : ∀ (xs : List Str) (vs : List (Option V)) (k : List Str), mk xs (vs ++ k.map fun _ => none) = mk xs vs := by
      intro xs
      induction xs with
      | nil => intro vs k; simp [mk]
      | cons x xs ih =>
        intro vs k
        cases vs with
        | nil =>
          cases k with
          | nil => simp
          | cons a k => simp only [List.nil_append, List.map_cons, mk]; have := ih [] k; simpa [mk] using this
        | cons v vs => cases v <;> simp [mk, ih]
    rw [this] at e; exact e) hl
end
theorem call_def1g {n : Nat} {f : Addr} {args : List V} {fp fp' : Led} {v : V} {name qual : Str} {params : Arguments} {body : List Stmt} {scope : Scope} {dV kV doc pm cdv ct oc : Value} {an od : Option Addr} {osl : Array (Option Value)} (names ys : List Str)
    (ho : ∀ w, (KF w).lookup f = some ⟨oc, od, .func (fnX name qual params body scope [] dV kV doc pm an cdv ct), osl⟩) (hcd : ∀ w, codeIn (KF w) cdv qual = true)
    (hbind : ∀ s vals, vals.length = args.length → BindsTo s (fnX name qual params body scope [] dV kV doc pm an cdv ct) ⟨vals, []⟩ (names.zip vals))
    (hkind : (names.all fun y => scope.names.lookup y == some .local || scope.names.lookup y == some .cell) = true)
    (hnd : ((cellsFrom 0 scope.names []).map (·.1)).Nodup) (hlen : names.length = args.length) (hlay : ∀ (C : Cx0) (L : Addr), Lay (C.at (envOfC qual scope L f cdv)) (names ++ ys))
    (hbody : ∀ (C : Cx0) (L : Addr), Ok n (C.at (envOfC qual scope L f cdv)) → Lay (C.at (envOfC qual scope L f cdv)) (names ++ ys) → Ex (C.at (envOfC qual scope L f cdv)) (mk (names ++ ys) (args.map some ++ ys.map fun _ => none)) fp body (.ret v [] fp'))
    (hco : autoParam (scope.isCoroutine = false) aR) (hgen : autoParam (scope.isGenerator = false) aR) (hk : autoParam (scope.kind = .function) aR) : OpG (n + 1) (fun vals => call (.ref f) vals) args fp (fun w d => w = v ∧ d = fp') := by
  have hnn : names.Nodup := by
    have C : Cx0 := ⟨⟨fun _ _ => 0, { strHash := fun _ => 0, shareClass := fun _ => 0, mergeTok := id, idOf := fun _ => 0, idOfShared := fun _ _ => 0, followText := fun _ => false, idOfImm := fun _ => 0 }⟩, {}, {}, {}, [], [], {}, [], fun _ _ => True⟩
    exact (List.nodup_append.mp (hlay C 0).nd).1
  exact call_defG (args' := args) names ho hcd (fun Γ loc led s vals A Q E X S rs h => hbind s vals rs.length _ _ _ _ (h s vals S Le.rfl (fun _ _ e => e) rs)) hkind hnd hnn (Nat.le_of_eq hlen) (fun C L O => (lay_in (hbody C L O (hlay C L)) hlen).toG ⟨rfl, rfl⟩) hco hgen hk
theorem call_def1 {n : Nat} {f : Addr} {args : List V} {fp fp' : Led} {v : V} {name qual : Str} {params : Arguments} {body : List Stmt} {scope : Scope} {dV kV doc pm cdv ct oc : Value} {an od : Option Addr} {osl : Array (Option Value)} (names ys : List Str)
    (ho : ∀ w, (KF w).lookup f = some ⟨oc, od, .func (fnX name qual params body scope [] dV kV doc pm an cdv ct), osl⟩) (hcd : ∀ w, codeIn (KF w) cdv qual = true)
    (hbind : ∀ s vals, vals.length = args.length → BindsTo s (fnX name qual params body scope [] dV kV doc pm an cdv ct) ⟨vals, []⟩ (names.zip vals))
    (hkind : (names.all fun y => scope.names.lookup y == some .local || scope.names.lookup y == some .cell) = true)
    (hnd : ((cellsFrom 0 scope.names []).map (·.1)).Nodup) (hlen : names.length = args.length) (hlay : ∀ (C : Cx0) (L : Addr), Lay (C.at (envOfC qual scope L f cdv)) (names ++ ys))
    (hbody : ∀ (C : Cx0) (L : Addr), Ok n (C.at (envOfC qual scope L f cdv)) → Lay (C.at (envOfC qual scope L f cdv)) (names ++ ys) → Ex (C.at (envOfC qual scope L f cdv)) (mk (names ++ ys) (args.map some ++ ys.map fun _ => none)) fp body (.ret v [] fp'))
    (hco : autoParam (scope.isCoroutine = false) aR) (hgen : autoParam (scope.isGenerator = false) aR) (hk : autoParam (scope.kind = .function) aR) : OpN (n + 1) (fun vals => call (.ref f) vals) args fp v fp' :=
  OpG.toN (call_def1g names ys ho hcd hbind hkind hnd hlen hlay hbody hco hgen hk)
inductive AllD : Nat → List V → List PyData → Prop
  | nil : AllD 0 [] []
  | cons {n : Nat} {d : PyData} {vs : List V} {ds : List PyData} : AllD n vs ds → AllD (n + 1) (.d d :: vs) (d :: ds)
theorem AllD.eq {n : Nat} {vs : List V} {ds : List PyData} (h : AllD n vs ds) : vs = ds.map V.d ∧ ds.length = n := by
  induction h with
  | nil => exact ⟨rfl, rfl⟩
  | cons _ ih => exact ⟨by rw [ih.1]; rfl, by rw [List.length_cons, ih.2]⟩
section
variable {n : Nat} {Γ : Cx} {loc loc1 : Loc} {led led1 : Led}
theorem AllD.le {k : Nat} {vs : List V} {ds : List PyData} (h : AllD k vs ds) (hz : k ≤ 1000) : ds.length ≤ sizeLine := by rw [h.eq.2, big]; lia
theorem Ev.tup {es : List Expr} {k j : Nat} {pos : Pos} {vs : List V} {ds : List PyData} (h1 : Es Γ loc led es vs loc1 led1) (h2 : AllD j vs ds) (hz : autoParam (j ≤ 1000) aD) : Ev Γ loc led (.Tuple es k pos) (.d (.tuple ds)) loc1 led1 := Ev.tuple (h2.eq.1 ▸ h1) (h2.le hz)
theorem Ev.iteS {t b o : Expr} {pos : Pos} {c : Bool} {x y : Str} (h1 : Bt Γ loc led t c loc led) (h2 : Ev Γ loc led b (.d (.str x)) loc led) (h3 : Ev Γ loc led o (.d (.str y)) loc led) : Ev Γ loc led (.IfExp t b o pos) (.d (.str (bif c then x else y))) loc led :=
  Ev.ite h1 (fun e => by subst e; exact h2) (fun e => by subst e; exact h3)
theorem Ev.lst {es : List Expr} {j : Nat} {pos : Pos} {vs : List V} {ds : List PyData} (h1 : Es Γ loc led es vs loc1 led1) (h2 : AllD j vs ds) (hz : autoParam (j ≤ 1000) aD) : Ev Γ loc led (.List es pos) (.d (.list ds)) loc1 led1 := Ev.list (h2.eq.1 ▸ h1) (h2.le hz)
theorem EvN.lst {es : List Expr} {j : Nat} {pos : Pos} {vs : List V} {ds : List PyData} (h1 : Es Γ loc led es vs loc1 led1) (h2 : AllD j vs ds) (hz : autoParam (j ≤ 1000) aD) : EvN Γ loc led (.List es pos) ds loc1 led1 := EvN.list (h2.eq.1 ▸ h1) (h2.le hz)
end
section
variable {fd : FuncData} {names : List Str}
theorem lnS {α : Type} {P : List α → Prop} {n : Nat} {l : List α} (h : l.length = n + 1) (k : ∀ a r, r.length = n → P (a :: r)) : P l := by
  cases l with
  | nil => cases h
  | cons a r => exact k a r (Nat.succ.inj h)
theorem ln0 {α : Type} {P : List α → Prop} {l : List α} (h : l.length = 0) (k : P []) : P l := List.eq_nil_of_length_eq_zero h ▸ k
theorem bind1 (h : ∀ s a, BindsTo s fd ⟨[a], []⟩ (names.zip [a])) (s : Shared) (vals : List Value) (e : vals.length = 1) : BindsTo s fd ⟨vals, []⟩ (names.zip vals) := @lnS _ (fun r => BindsTo s fd ⟨r, []⟩ (names.zip (r))) _ _ e fun a _ e => @ln0 _ (fun r => BindsTo s fd ⟨a :: r, []⟩ (names.zip (a :: r))) _ e (h s a)
theorem bind2 (h : ∀ s a b, BindsTo s fd ⟨[a, b], []⟩ (names.zip [a, b])) (s : Shared) (vals : List Value) (e : vals.length = 2) : BindsTo s fd ⟨vals, []⟩ (names.zip vals) := @lnS _ (fun r => BindsTo s fd ⟨r, []⟩ (names.zip (r))) _ _ e fun a _ e => @lnS _ (fun r => BindsTo s fd ⟨a :: r, []⟩ (names.zip (a :: r))) _ _ e fun b _ e => @ln0 _ (fun r => BindsTo s fd ⟨a :: b :: r, []⟩ (names.zip (a :: b :: r))) _ e (h s a b)
theorem bind3 (h : ∀ s a b c, BindsTo s fd ⟨[a, b, c], []⟩ (names.zip [a, b, c])) (s : Shared) (vals : List Value) (e : vals.length = 3) : BindsTo s fd ⟨vals, []⟩ (names.zip vals) := @lnS _ (fun r => BindsTo s fd ⟨r, []⟩ (names.zip (r))) _ _ e fun a _ e => @lnS _ (fun r => BindsTo s fd ⟨a :: r, []⟩ (names.zip (a :: r))) _ _ e fun b _ e => @lnS _ (fun r => BindsTo s fd ⟨a :: b :: r, []⟩ (names.zip (a :: b :: r))) _ _ e fun c _ e => @ln0 _ (fun r => BindsTo s fd ⟨a :: b :: c :: r, []⟩ (names.zip (a :: b :: c :: r))) _ e (h s a b c)
theorem bind4 (h : ∀ s a b c d, BindsTo s fd ⟨[a, b, c, d], []⟩ (names.zip [a, b, c, d])) (s : Shared) (vals : List Value) (e : vals.length = 4) : BindsTo s fd ⟨vals, []⟩ (names.zip vals) := @lnS _ (fun r => BindsTo s fd ⟨r, []⟩ (names.zip (r))) _ _ e fun a _ e => @lnS _ (fun r => BindsTo s fd ⟨a :: r, []⟩ (names.zip (a :: r))) _ _ e fun b _ e => @lnS _ (fun r => BindsTo s fd ⟨a :: b :: r, []⟩ (names.zip (a :: b :: r))) _ _ e fun c _ e => @lnS _ (fun r => BindsTo s fd ⟨a :: b :: c :: r, []⟩ (names.zip (a :: b :: c :: r))) _ _ e fun d _ e => @ln0 _ (fun r => BindsTo s fd ⟨a :: b :: c :: d :: r, []⟩ (names.zip (a :: b :: c :: d :: r))) _ e (h s a b c d)
end
end
section
noncomputable def maxI : List Int → Int
  | [] => 0
  | [x] => x
  | x :: y :: r => max x (maxI (y :: r))
theorem maxI_spec : ∀ (l : List Int) (M : Int), M ∈ l → (∀ a ∈ l, a ≤ M) → M = maxI l
  | [x], M, h, _ => by simp at h; simpa [maxI] using h
  | x :: y :: r, M, h, k => by
    show M = max x (maxI (y :: r))
    have h2 : maxI (y :: r) ∈ y :: r ∧ ∀ a ∈ y :: r, a ≤ maxI (y :: r) := maxI_best y r
    have k1 := k x (.head _)
    have k2 := k _ (.tail _ h2.1)
    rcases List.mem_cons.mp h with rfl | h
    · lia
    · have := h2.2 M h; lia
where
  maxI_best : ∀ (y : Int) (r : List Int), maxI (y :: r) ∈ y :: r ∧ ∀ a ∈ y :: r, a ≤ maxI (y :: r)
    | y, [] => by simp [maxI]
    | y, z :: r => by
      obtain ⟨h1, h2⟩ := maxI_best z r
      show max y (maxI (z :: r)) ∈ _ ∧ _
      refine ⟨?_, fun a ha => ?_⟩
      · rcases Int.le_total y (maxI (z :: r)) with q | q
        · rw [Int.max_eq_right q]; exact .tail _ h1
        · rw [Int.max_eq_left q]; exact .head _
      · show a ≤ max y (maxI (z :: r))
        rcases List.mem_cons.mp ha with rfl | ha
        · lia
        · have := h2 a ha; lia
noncomputable def minI : List Int → Int
  | [] => 0
  | [x] => x
  | x :: y :: r => min x (minI (y :: r))
theorem minI_spec : ∀ (l : List Int) (M : Int), M ∈ l → (∀ a ∈ l, M ≤ a) → M = minI l
  | [x], M, h, _ => by simp at h; simpa [minI] using h
  | x :: y :: r, M, h, k => by
    show M = min x (minI (y :: r))
    have h2 : minI (y :: r) ∈ y :: r ∧ ∀ a ∈ y :: r, minI (y :: r) ≤ a := minI_best y r
    have k1 := k x (.head _)
    have k2 := k _ (.tail _ h2.1)
    rcases List.mem_cons.mp h with rfl | h
    · lia
    · have := h2.2 M h; lia
where
  minI_best : ∀ (y : Int) (r : List Int), minI (y :: r) ∈ y :: r ∧ ∀ a ∈ y :: r, minI (y :: r) ≤ a
    | y, [] => by simp [minI]
    | y, z :: r => by
      obtain ⟨h1, h2⟩ := minI_best z r
      show min y (minI (z :: r)) ∈ _ ∧ _
      refine ⟨?_, fun a ha => ?_⟩
      · rcases Int.le_total y (minI (z :: r)) with q | q
        · rw [Int.min_eq_left q]; exact .head _
        · rw [Int.min_eq_right q]; exact .tail _ h1
      · show min y (minI (z :: r)) ≤ a
        rcases List.mem_cons.mp ha with rfl | ha
        · lia
        · have := h2 a ha; lia
section
variable {n : Nat} {Γ : Cx} {loc loc' loc1 loc2 loc3 : Loc} {led led' led1 led2 led3 fp fp' : Led} {s : Shared}
theorem join_op {x : Str} {ys : List Str} (hok : (ys.map (·.length)).sum + ys.length * x.length ≤ 16777216) : OpN n (fun vals => PySem.call (.builtin "str.join") vals) [.d (.str x), .d (strsD ys)] [] (.d (.str (Txt.join x ys))) [] := fun Γ loc led s vals Q E O S rs h => by
  cases rs with
  | cons r1 q => cases q with
    | cons r2 q => cases q with
      | nil =>
        obtain ⟨t, rfl⟩ := rep_str r1
        obtain ⟨l, o, vs, k, as, rfl, h1, h2, h3, h4⟩ := rep_list r2
        exact join_list (isList_of h1 h2 h3) (reads_strs h4) hok fun t' k => h _ _ (S.toks _) Le.rfl of_str
theorem Ev.join (O : Ok n Γ) {a b : Expr} {apos pos : Pos} {x : Str} {ys : List Str} (h1 : Ev Γ loc led a (.d (.str x)) loc1 led1) (h2 : Ev Γ loc1 led1 b (.d (strsD ys)) loc2 led2) (hok : (ys.map (·.length)).sum + ys.length * x.length ≤ 16777216)
    (hp : autoParam (∀ pos, (backTo pos (starEach [b] Γ.env)).any (·.1) = false) aI) (hs : autoParam (starEach (b :: []) Γ.env = (false, eval b Γ.env) :: starEach [] Γ.env) aR)
    {pl : Sem Bool} (he : autoParam (eval (.Call (.Attribute a "join" apos) [b] [] pos) Γ.env = (do let ov ← eval a Γ.env; standAt apos.atName; let (f, first) ← holding [ov] (getMethod ov "join" pl); callWith pos f first (backTo pos (starEach [b] Γ.env)) (backToKw pos (keywordEach [] Γ.env)))) aR) :
    Ev Γ loc led (.Call (.Attribute a "join" apos) [b] [] pos) (.d (.str (Txt.join x ys))) loc2 led2 :=
  Ev.meth (fp := []) (fp' := []) (led2 := led2) O h1 (gm_str F.slot_str_join F.type_str_join F.plainAttrs_str) (Es.cons h2 Es.nil hs) (join_op hok) hp he
theorem joinL_op {a : Addr} {x : Str} {ys : List Str} (hok : (ys.map (·.length)).sum + ys.length * x.length ≤ 16777216) : OpN n (fun vals => PySem.call (.builtin "str.join") vals) [.d (.str x), .raw (.ref a)] [(a, lstO (ys.map .str))] (.d (.str (Txt.join x ys))) [(a, lstO (ys.map .str))] := fun Γ loc led s vals Q E O S rs h => by
  cases rs with
  | cons r1 q => cases q with
    | cons r2 q => cases q with
      | nil =>
        refine aside fun zk => ?_
        obtain ⟨t, rfl⟩ := rep_str r1
        cases r2
        obtain ⟨h1, h2, o, h3, vals, k, as, rfl, r⟩ := S.ld _ (.head _)
        apply zk
        exact join_list ⟨_, h3, rfl, k, rfl⟩ (reads_strs r) hok fun t' k => h _ _ (S.toks _) Le.rfl of_str
theorem str_i {i : Int} (hi : i.natAbs < 1000000) : OpN n (fun vals => PySem.call (.type "str") vals) [.d (.int i)] [] (.d (.str (Str.ofString (toString i)))) [] := opN1 (f := fun a => call (.type "str") [a]) (fun n Γ loc led s u Q E O S ra h => by
  obtain ⟨t, rfl⟩ := rep_int ra
  refine P.str_of_int ?_ (h _ _ (S.toks _) Le.rfl of_str)
  by_cases q : i.natAbs = 0
  · rw [q]; decide
  · have : i.natAbs.log2 < 20 := (Nat.log2_lt q).mpr (by lia)
    lia) fun _ => rfl
theorem list_copy {xs : List PyData} {v : Value} (r : RepV (vis Γ led s) (.d (.list xs)) v ∨ RepV (vis Γ led s) (.d (.tuple xs)) v) (S : St Γ loc led s) (hz : xs.length ≤ sizeLine) {Q : Value → Shared → Prop} {E : Value → Shared → Prop}
    (h : ∀ (h' : Heap) vals k as, (∀ b o, s.heap.get? b = some o → h'.get? b = some o) → h'.get? s.heap.objs.size = some { cls := .type "list", data := .seq vals k } → ReadsAll (vis Γ led s) vals.toList xs as → Q (.ref s.heap.objs.size) { s with heap := h' }) : wpAny (MM Γ.w) Γ.A (PySem.call (.type "list") [v]) Q E s := by
  rcases r with r | r
  · obtain ⟨l, o, vs, k, as, rfl, h1, h2, h3, h4⟩ := rep_list r
    have e := readsAll_length h4
    exact call_list_seq l (.inl rfl) (vget h1) h2 h3 (fun h' c' kk g => h h' vs c' as kk g h4) (by rw [← Array.length_toList]; lia)
  · obtain ⟨l, o, vs, k, as, rfl, h1, h2, h3, h4⟩ := rep_tuple r
    have e := readsAll_length h4
    exact call_list_seq l (.inr rfl) (vget h1) h2 h3 (fun h' c' kk g => h h' vs c' as kk g h4) (by rw [← Array.length_toList]; lia)
theorem listD_op {xs : List PyData} {x : V} (hx : x = .d (.list xs) ∨ x = .d (.tuple xs)) (hz : xs.length ≤ sizeLine) : OpN n (fun vals => PySem.call (.type "list") vals) [x] [] (.d (.list xs)) [] := opN1 (f := fun a => call (.type "list") [a]) (fun n Γ loc led s u Q E O S ra h => by
  refine list_copy (hx.imp (fun e => e ▸ ra) (fun e => e ▸ ra)) S hz fun h' vals k as kk g r => ?_
  refine aside fun zk => ?_
  obtain ⟨f1, f2, f3⟩ := S.fresh
  obtain ⟨S4, le4⟩ := S.grow (h' := h') (t := s.toks) kk
  apply zk
  exact h _ _ S4 le4 ⟨_, .list (vmk g f2) rfl rfl (readsAll_sub (.of le4) r)⟩) fun _ => rfl
theorem St.fromGrown (S : St Γ loc led s) {h' : Heap} {ob : Obj} {x : O} {t : Nat} (kk : ∀ b o, s.heap.get? b = some o → h'.get? b = some o) (g : h'.get? s.heap.objs.size = some ob) (hx : ∀ v : Heap, Sub (vis Γ led s) v → x.p v ob) :
    St Γ loc ((s.heap.objs.size, x) :: led) { s with heap := h', toks := t } ∧ Le Γ led s ((s.heap.objs.size, x) :: led) { s with heap := h', toks := t } := by
  refine aside fun zk => ?_
  obtain ⟨f1, f2, f3⟩ := S.fresh
  apply zk
  have le : Le Γ led s ((s.heap.objs.size, x) :: led) { s with heap := h', toks := t } := fun b o e => by
    have e1 := vget (e)
    have e2 := vout (e)
    refine vmk (kk b o e1) (fun hb => ?_)
    rcases List.mem_append.mp hb with hb | hb
    · exact e2 (List.mem_append_left _ hb)
    · rcases List.mem_cons.mp hb with q | hb
      · rw [q, f1] at e1; cases e1
      · exact e2 (List.mem_append_right _ hb)
  refine ⟨⟨let ⟨m, F⟩ := S.fr; ⟨m, F.keeps kk⟩, ?_, fun p hp => ?_, ?_, fun a ha => let ⟨o, e⟩ := S.pv a ha; ⟨o, kk a o e⟩, S.os, S.gn, fun p hp => let ⟨o, e, r⟩ := S.fz p hp; ⟨o, kk _ _ e, r⟩⟩, le⟩
  · refine aside fun zk => ?_
    obtain ⟨m, cm, h1, h2, h3⟩ := S.nm
    apply zk
    exact ⟨m, cm, h1.keeps kk, fun x a e => let ⟨o, ho, r⟩ := h2 x a e; ⟨o, kk _ _ ho, r⟩, fun x v e => let ⟨v', e', r⟩ := h3 x v e; ⟨v', e', r.keeps le⟩⟩
  · rcases List.mem_cons.mp hp with rfl | hp
    · exact ⟨fun h => f2 (List.mem_append_left _ h), f3, ob, g, hx _ (.of le)⟩
    · refine aside fun zk => ?_
      obtain ⟨h1, h2, o, h3, h4⟩ := S.ld p hp
      apply zk
      exact ⟨h1, h2, o, kk _ _ h3, p.2.mono (.of le) h4⟩
  · rw [List.map_cons]
    exact List.nodup_cons.mpr ⟨fun h => f2 (List.mem_append_right _ h), S.nd⟩
theorem EvN.copy (O : Ok n Γ) {e : Expr} {p pos : Pos} {x : V} {xs : List PyData} (hk : Γ.env.kindOf (Str.ofString "list") = some .globalImplicit) (h1 : Ev Γ loc led e x loc1 led1) (hx : x = .d (.list xs) ∨ x = .d (.tuple xs)) (hz : xs.length ≤ sizeLine)
    (hp : autoParam (∀ pos, (backTo pos (starEach [e] Γ.env)).any (·.1) = false) aI) (hs : autoParam (starEach (e :: []) Γ.env = (false, eval e Γ.env) :: starEach [] Γ.env) aR) : EvN Γ loc led (.Call (.Name (Str.ofString "list") p) [e] [] pos) xs loc1 led1 := fun s Q E S h => by
  refine Call_Name rfl (nm_b_list (n := n) O hk s _ E S fun a s1 S1 le1 ra => ?_)
  cases ra
  refine callWith_of (P := fun h => (KF Γ.w).In h) (by rw [hp pos]; rfl) (fun h X => keep_type h X) (evalArgs_es (hp pos) (Es.cons h1 Es.nil hs pos s1 _ E S1 fun vals s2 S2 le2 rs => ⟨KX O S2, ?_⟩))
  cases rs with
  | cons r q =>
    cases q
    refine list_copy (hx.imp (fun e => e ▸ r) (fun e => e ▸ r)) S2 hz fun h' vals k as kk g r' => ?_
    obtain ⟨S4, le4⟩ := S2.fromGrown (x := lstO xs) (t := s2.toks) kk g fun v kv => ⟨vals, k, as, rfl, readsAll_sub kv r'⟩
    exact h _ _ S4 (le1.trans (le2.trans le4))
theorem tupleL_op {xs : List PyData} (hz : xs.length ≤ sizeLine) : OpN n (fun vals => PySem.call (.type "tuple") vals) [.d (.list xs)] [] (.d (.tuple xs)) [] := opN1 (f := fun a => call (.type "tuple") [a]) (fun n Γ loc led s u Q E O S ra h => by
  obtain ⟨l, o, vs, k, as, rfl, h1, h2, h3, h4⟩ := rep_list ra
  have e := readsAll_length h4
  refine call_tuple_list (isList_of h1 h2 h3) (fun h' kk => ?_) (by rw [← Array.length_toList]; lia)
  obtain ⟨S4, le4⟩ := S.grow (h' := h') (t := s.toks) kk
  obtain ⟨S5, le5, g⟩ := S4.push (o := { cls := .type "tuple", data := .seq vs }) (t := s.toks) rfl
  exact h _ _ S5 (le4.trans le5) ⟨_, .tuple g rfl rfl (readsAll_sub (.of (le4.trans le5)) h4)⟩) fun _ => rfl
theorem tupleO_op {a : Addr} {xs : List PyData} (hz : xs.length ≤ sizeLine) : OpN n (fun vals => PySem.call (.type "tuple") vals) [.raw (.ref a)] [(a, lstO xs)] (.d (.tuple xs)) [(a, lstO xs)] := fun Γ loc led s vals Q E O S rs h => by
  cases rs with
  | cons r1 q => cases q with
    | nil =>
      refine aside fun zk => ?_
      cases r1
      obtain ⟨h1, h2, o, h3, vals, k, as, rfl, r⟩ := S.ld _ (.head _)
      apply zk
      have e := readsAll_length r
      refine call_tuple_list ⟨_, h3, rfl, k, rfl⟩ (fun h' kk => ?_) (by rw [← Array.length_toList]; lia)
      obtain ⟨S4, le4⟩ := S.grow (h' := h') (t := s.toks) kk
      obtain ⟨S5, le5, g⟩ := S4.push (o := { cls := .type "tuple", data := .seq vals }) (t := s.toks) rfl
      exact h _ _ S5 (le4.trans le5) ⟨_, .tuple g rfl rfl (readsAll_sub (.of (le4.trans le5)) r)⟩
theorem max_ints {xs : List Int} (hne : 0 < xs.length) : OpN n (fun vals => PySem.call (.builtin "max") vals) [.d (intsD xs)] [] (.d (.int (maxI xs))) [] := opN1 (f := fun a => call (.builtin "max") [a]) (fun n Γ loc led s u Q E O S ra h => by
  obtain ⟨l, o, vs, k, as, rfl, h1, h2, h3, h4⟩ := rep_list ra
  have hi := reads_ints h4
  obtain ⟨ys, e⟩ := hi.allInts.items
  have hns : xs = ys.toList.map (·.1) := by rw [← hi.numsOf, ← nums_intItems, ← e]
  have hsz : 0 < ys.size := by
    have h3 := hne; rw [hns, List.length_map, Array.length_toList] at h3; exact h3
  have hl : s.heap.IsList l vs.toList.toArray := isList_of h1 h2 h3
  rw [e] at hl
  refine max_intList O.hh hl hsz fun v h' tk hv hk => ?_
  obtain ⟨t, rfl⟩ := intItems_at hv
  obtain ⟨g1, g2⟩ := argBest_gt (numAt ys) (ys.size - 1)
  obtain ⟨S4, le4⟩ := S.grow (h' := h') (t := tk) hk
  refine h _ _ S4 le4 ?_
  have key := maxI_spec xs (numAt ys (argBest (fun i j => decide (numAt ys i > numAt ys j)) (ys.size - 1))) (by rw [hns, numAt_eq]; exact getD_mem (by rw [List.length_map, Array.length_toList]; omega)) (fun a ha => by
    rw [hns] at ha
    obtain ⟨j, hj, rfl⟩ := mem_getD ha
    rw [List.length_map, Array.length_toList] at hj
    rw [← numAt_eq]; exact g2 j (by omega))
  rw [← key]; exact of_int) fun _ => rfl
theorem min_ints {xs : List Int} (hne : 0 < xs.length) : OpN n (fun vals => PySem.call (.builtin "min") vals) [.d (intsD xs)] [] (.d (.int (minI xs))) [] := opN1 (f := fun a => call (.builtin "min") [a]) (fun n Γ loc led s u Q E O S ra h => by
  obtain ⟨l, o, vs, k, as, rfl, h1, h2, h3, h4⟩ := rep_list ra
  have hi := reads_ints h4
  obtain ⟨ys, e⟩ := hi.allInts.items
  have hns : xs = ys.toList.map (·.1) := by rw [← hi.numsOf, ← nums_intItems, ← e]
  have hsz : 0 < ys.size := by
    have h3 := hne; rw [hns, List.length_map, Array.length_toList] at h3; exact h3
  have hl : s.heap.IsList l vs.toList.toArray := isList_of h1 h2 h3
  rw [e] at hl
  refine min_intList O.hh hl hsz fun v h' tk hv hk => ?_
  obtain ⟨t, rfl⟩ := intItems_at hv
  obtain ⟨g1, g2⟩ := argBest_lt (numAt ys) (ys.size - 1)
  obtain ⟨S4, le4⟩ := S.grow (h' := h') (t := tk) hk
  refine h _ _ S4 le4 ?_
  have key := minI_spec xs (numAt ys (argBest (fun i j => decide (numAt ys i < numAt ys j)) (ys.size - 1))) (by rw [hns, numAt_eq]; exact getD_mem (by rw [List.length_map, Array.length_toList]; omega)) (fun a ha => by
    rw [hns] at ha
    obtain ⟨j, hj, rfl⟩ := mem_getD ha
    rw [List.length_map, Array.length_toList] at hj
    rw [← numAt_eq]; exact g2 j (by omega))
  rw [← key]; exact of_int) fun _ => rfl
theorem sorted_op {ss ts : List Str} (h64 : ss.length < 64) (hu : ∀ ss' : List Str, ss'.Perm ss → sortedS ss' = true → ss' = ts) : OpN n (fun vals => PySem.call (.builtin "sorted") vals) [.d (strsD ss)] [] (.d (strsD ts)) [] := opN1 (f := fun a => call (.builtin "sorted") [a]) (fun n Γ loc led s u Q E O S ra h => by
  obtain ⟨l, o, vs, k, as, rfl, h1, h2, h3, h4⟩ := rep_list ra
  have e := readsAll_length h4
  rw [List.length_map] at e
  refine sorted_strs (vs := vs.toList) (isList_of h1 h2 h3) (reads_strs h4) (by lia) fun out ss' q1 q2 q3 => ?_
  refine aside fun zk => ?_
  have := hu ss' q2 q3
  subst this
  have kk : ∀ b o, s.heap.get? b = some o → (sortedAll s.heap vs.toList out).get? b = some o := fun b o e => sortedAll_old e
  obtain ⟨S4, le4⟩ := S.grow (h' := sortedAll s.heap vs.toList out) (t := s.toks) kk
  obtain ⟨ee, g⟩ := sortedAll_at s.heap vs.toList out
  have rs : ∀ {vs : List Value} {xs : List Str} {h : Heap}, StrsAre vs xs → ∃ as, ReadsAll h vs (xs.map .str) as := fun {vs xs h} q => by
    induction q with
    | nil => exact ⟨_, .nil⟩
    | cons y t _ ih => obtain ⟨as, r⟩ := ih; exact ⟨_, .cons (.str y t) r⟩
  obtain ⟨bs, r⟩ := rs (h := vis Γ led { s with heap := sortedAll s.heap vs.toList out, toks := s.toks }) q1
  apply zk
  refine h _ _ S4 le4 ⟨_, .list (vmk g (fun hb => ?_)) rfl rfl r⟩
  have := S.ex_lt _ hb
  exact absurd this (by have : ¬ (s.heap.objs.size + 1 < s.heap.objs.size) := by lia
                        exact this)) fun _ => rfl
end
end
section
noncomputable def lstW (ds : List PyData) : O := ⟨fun h o => ∃ vals k as, o.cls = .type "list" ∧ o.data = .seq vals k ∧ ReadsAll h vals.toList ds as,
  fun k ⟨vals, kk, as, h1, h2, h3⟩ => ⟨vals, kk, as, h1, h2, readsAll_sub k h3⟩⟩
theorem readsAll_set {h : Heap} {vs : List Value} {ds : List PyData} {as : List Addr} (i : Nat) {v : Value} {d : PyData} {bs : List Addr} (r : ReadsAll h vs ds as) (x : Reads h v d bs) : ∃ cs, ReadsAll h (vs.set i v) (ds.set i d) cs :=
  readsAll_ind (P := fun vs ds _ => ∀ i, ∃ cs, ReadsAll h (vs.set i v) (ds.set i d) cs) (fun _ => ⟨_, .nil⟩) (fun a b q i => match i with
    | 0 => ⟨_, .cons x b⟩
    | i + 1 => (q i).elim fun _ q => ⟨_, .cons a q⟩) r i
section
variable {n : Nat} {Γ : Cx} {loc loc' loc1 loc2 loc3 : Loc} {led led' led1 led2 led3 pre post : Led} {s : Shared} {o : Out}
theorem St.weakO {a : Addr} {x x' : O} (S : St Γ loc ((a, x) :: led) s) (h : ∀ v ob, x.p v ob → x'.p v ob) : St Γ loc ((a, x') :: led) s ∧ Le Γ ((a, x) :: led) s ((a, x') :: led) s := by
  refine ⟨⟨S.fr, S.nm, fun p hp => ?_, S.nd, S.pv, S.os, S.gn, S.fz⟩, Le.rfl (led := (a, x) :: led)⟩
  rcases List.mem_cons.mp hp with rfl | hp
  · refine aside fun zk => ?_
    obtain ⟨h1, h2, ob, h3, h4⟩ := S.ld _ (.head _)
    apply zk
    exact ⟨h1, h2, ob, h3, h _ _ h4⟩
  · exact S.ld p (.tail _ hp)
theorem Ex.weakO {a : Addr} {x x' : O} {b : List Stmt} (h : ∀ v ob, x.p v ob → x'.p v ob) (h1 : Ex Γ loc ((a, x') :: led) b o) : Ex Γ loc ((a, x) :: led) b o := fun s Q E S k => h1 s Q E (S.weakO h).1 fun f s' y => k f s' (y.le (S.weakO h).2)
theorem toW {ds : List PyData} : ∀ v ob, (lstO ds).p v ob → (lstW ds).p v ob := fun v ob ⟨vals, k, as, e, r⟩ => ⟨vals, k, as, by rw [e], by rw [e], r⟩
theorem St.freezeW {a : Addr} {ds : List PyData} (S : St Γ loc ((a, lstW ds) :: led) s) : RepV (vis Γ led s) (.d (.list ds)) (.ref a) := by
  refine aside fun zk => ?_
  obtain ⟨h1, h2, o, h3, vals, k, as, c, d, r⟩ := S.ld _ (.head _)
  apply zk
  have nd := List.nodup_cons.mp S.nd
  exact ⟨_, .list (vmk h3 (fun hb => (List.mem_append.mp hb).elim h1 nd.1)) c d (readsAll_sub (.of S.drop.2) r)⟩
theorem Ex.retW {e : Expr} {pos : Pos} {b : List Stmt} {a : Addr} {ds : List PyData} (h1 : Ev Γ loc led e (.raw (.ref a)) loc1 ((a, lstW ds) :: led1)) : Ex Γ loc led (.Return (some e) pos :: b) (.ret (.d (.list ds)) [] led1) := fun s Q E S h =>
  wpAny_execs_cons (wpAny_Return_some (h1 s _ E S fun v' s1 S1 le r => by
    cases r
    exact h _ s1 ⟨_, rfl, S1.drop.1.weak (fun _ _ e => nomatch e), le.trans S1.drop.2, S1.freezeW⟩))
theorem Ex.freezeW {a : Addr} {ds : List PyData} {x : Str} {b : List Stmt} (hx : loc.lookup x = some (.raw (.ref a))) (h1 : Ex Γ (put loc x (.d (.list ds))) led b o) : Ex Γ loc ((a, lstW ds) :: led) b o := fun s Q E S h => by
  obtain ⟨S1, le1⟩ := S.drop
  refine h1 s Q E ⟨S1.fr, ?_, S1.ld, S1.nd, S1.pv, S1.os, S1.gn, S1.fz⟩ fun f s' y => h f s' (y.le le1)
  obtain ⟨m, cm, n1, n2, n3⟩ := S1.nm
  refine ⟨m, cm, n1, n2, fun y v e => ?_⟩
  rw [put_lookup] at e
  by_cases q : y = x
  · subst q
    rw [if_pos rfl] at e; cases e
    refine aside fun zk => ?_
    obtain ⟨v', e', r⟩ := n3 y _ hx
    cases r
    apply zk
    exact ⟨_, e', S.freezeW⟩
  · rw [if_neg q] at e; exact n3 y v e
theorem Ev.subW (O : Ok n Γ) {value slice : Expr} {pos : Pos} {a : Addr} {ds : List PyData} {i : Int} {d : PyData} (h1 : Ev Γ loc led value (.raw (.ref a)) loc1 led1) (h2 : Ev Γ loc1 led1 slice (.d (.int i)) loc2 (pre ++ (a, lstW ds) :: post)) (h0 : 0 ≤ i) (hz : ds.length ≤ sizeLine) (hx : ds[i.toNat]? = some d)
    (hs : autoParam (∀ o i, ∃ ops, subscripted slice false o i = operate ops (getItem o i)) aE) : Ev Γ loc led (.Subscript value slice pos) (.d d) loc2 (pre ++ (a, lstW ds) :: post) := fun s Q E S h => by
  refine Subscript_ (h1 s _ E S fun u s1 S1 le1 ra => h2 s1 _ E S1 fun b s2 S2 le2 rb => ?_)
  refine aside fun zk => ?_
  cases ra
  obtain ⟨ops, e⟩ := hs (.ref a) b
  obtain ⟨t, rfl⟩ := rep_int rb
  obtain ⟨g1, g2, ob, g3, vals, k, as, c, dd, r⟩ := S2.ld (a, lstW ds) (by simp)
  obtain ⟨v, bs, hv, rv⟩ := readsAll_get r hx
  apply zk
  have : i.toNat < ds.length := (List.getElem?_eq_some_iff.mp hx).1
  refine tail_any ⟨ob, g3, c⟩ PySem.slot_list_getitem.lookup (wpAny_getItem_list ⟨ob, g3, c, k, dd⟩ h0 (by rw [big] at hz; lia) (by simpa using hv) (h _ _ S2 (le1.trans le2) ⟨_, rv⟩)) e
theorem Ex1.setW (O : Ok n Γ) {ov iv value : Expr} {p pos : Pos} {a : Addr} {ds : List PyData} {i : Int} {d : PyData} (h1 : Ev Γ loc led value (.d d) loc1 led1) (h2 : Ev Γ loc1 led1 ov (.raw (.ref a)) loc2 led2) (h3 : Ev Γ loc2 led2 iv (.d (.int i)) loc3 (pre ++ (a, lstW ds) :: post))
    (h0 : 0 ≤ i) (hz : ds.length ≤ sizeLine) (hi : i.toNat < ds.length) (hs : autoParam (swapsWith value (some (.Subscript ov iv p)) pos.line Γ.env = pure false) aR) :
    Ex1 Γ loc led (.Assign [.Subscript ov iv p] value pos) (.next loc3 (pre ++ (a, lstW (ds.set i.toNat d)) :: post)) := fun s Q E S h =>
  wpAny_Assign_Subscript (h1 s _ E S fun v s1 S1 le1 rv => h2 s1 _ E S1 fun u s2 S2 le2 ru => h3 s2 _ E S2 fun w s3 S3 le3 rw_ => by
    refine aside fun zk => ?_
    cases ru
    obtain ⟨t, rfl⟩ := rep_int rw_
    obtain ⟨g1, g2, ob, g3, vals, k, as, c, dd, r⟩ := S3.ld (a, lstW ds) (by simp)
    have e := readsAll_length r
    obtain ⟨us, rv⟩ := (rv.keeps le2).keeps le3
    apply zk
    refine wpAny_setItem_list ⟨ob, g3, c, k, dd⟩ h0 (by rw [big] at hz; lia) (by rw [← Array.length_toList]; lia) fun h' hl' hs' => ?_
    refine aside fun zk => ?_
    obtain ⟨ob', q1, q2, k', q3⟩ := hl'
    obtain ⟨S4, le4⟩ := S3.setLed (x' := lstW (ds.set i.toNat d)) (t := s3.toks) O hs' q1 fun v kv => by
      obtain ⟨cs, r'⟩ := readsAll_set i.toNat (readsAll_sub kv r) (reads_sub kv rv)
      exact ⟨_, k', cs, q2, q3, by simpa using r'⟩
    apply zk
    exact h _ _ ⟨rfl, S4, le1.trans (le2.trans (le3.trans le4))⟩) hs
end
end
section
theorem s_ifmt (mode : Int) : FS 1 83 [.d (.int mode)] (.d (.int (Builtin.bitAnd mode 61440))) := by
  refine call_def1 (n := 0) ["mode"] [] (fun w => by exact rfl) (fun w => by kernel_rfl) (by exact bind1 fun _ _ => BindsTo.of_eq rfl) rfl (by decide) rfl (fun C L => ⟨by decide, by decide, rfl, rfl⟩) fun C L O l => ?_
  exact Ex.retD (Ev.bin O (Ev.nm O l 0) Ev.int (by with_reducible exact and_ii))
theorem fmod_lt {a : Int} {k : Int} (hk : 0 < k) : 0 ≤ a.fmod k ∧ a.fmod k < k := ⟨Int.fmod_nonneg_of_pos _ hk, Int.fmod_lt_of_pos _ hk⟩
theorem upto_get {k i : Nat} {y : V} (h : ((upto k).map fun i => V.d (.int i))[i]? = some y) : y = .d (.int (i : Int)) ∧ i < k := by
  have hi : i < k := by
    have := (List.getElem?_eq_some_iff.mp h).1
    simpa [upto] using this
  simp [upto, hi] at h
  exact ⟨h.symm, hi⟩
noncomputable def stepOf (look : Int) : Int := ([1, 8, 64, 512].getD (look.fmod 4).toNat 0)
noncomputable def fileAt (rights look : Int) (i : Int) : PyData := .tuple [.int ((look.fdiv 4 + (look.fdiv 28).fmod 7 * i).fmod 7), .int ((rights + stepOf look * i).fmod 4096)]
theorem step_get (look : Int) : ([.int 1, .int 8, .int 64, .int 512] : List PyData)[(look.fmod 4).toNat]? = some (.int (stepOf look)) := by
  have h := fmod_lt (a := look) (k := 4) (by decide)
  unfold stepOf
  generalize look.fmod 4 = j at h
  have : j = 0 ∨ j = 1 ∨ j = 2 ∨ j = 3 := by lia
  rcases this with rfl | rfl | rfl | rfl <;> rfl
theorem step_le (look : Int) : 0 ≤ stepOf look ∧ stepOf look ≤ 512 := by
  have h := fmod_lt (a := look) (k := 4) (by decide)
  unfold stepOf
  generalize look.fmod 4 = j at h
  have : j = 0 ∨ j = 1 ∨ j = 2 ∨ j = 3 := by lia
  rcases this with rfl | rfl | rfl | rfl <;> decide
theorem mulOk_small {a b : Int} (h : b.natAbs < 1000000) : IntMulOk a b := by
  unfold IntMulOk
  have hb : decide (Builtin.Int.intBits b > shortFactorBits) = false := by
    refine decide_eq_false fun q => ?_
    unfold Builtin.Int.intBits at q
    split at q
    · simp at q
    · rename_i hne
      have hne : b ≠ 0 := by simpa using hne
      have h1 : b.natAbs.log2 < 20 := (Nat.log2_lt (by lia)).mpr (by lia)
      have : shortFactorBits = 64 := rfl
      lia
  rw [hb]; simp
theorem upto_succ (i : Nat) : upto (i + 1) = upto i ++ [(i : Int)] := by simp [upto, List.range_succ]
theorem law_files (rights look : Int) : FS 1 257 [.d (.int rights), .d (.int look)] (.d (.list ((upto 8).map (fileAt rights look)))) := by
  refine call_def1 (n := 0) ["rights", "look"] ["step", "files", "place"] (fun w => by exact rfl) (fun w => by kernel_rfl) (by exact bind2 fun _ _ _ => BindsTo.of_eq rfl) rfl (by decide) rfl (fun C L => ⟨by decide, by decide, rfl, rfl⟩) fun C L O l => ?_
  have hg := step_get look
  have hs := step_le look
  refine Ex.let_ O l 2 (v := .d (.int (stepOf look))) (Ev.sub O (Ev.tup (Es.cons Ev.int (Es.cons Ev.int (Es.cons Ev.int (Es.cons Ev.int Es.nil)))) (by repeat constructor)) (Ev.bin O (Ev.nm O l 1) Ev.int (by (with_reducible refine mod_ii ?_; first | assumption | decide | lia | (simp; done) | (simp; lia)))) item_tuple (get_ti (fmod_lt (by decide)).1 (by decide) hg)) ?_
  refine Ex.newI O l 3 (EvN.lst Es.nil .nil) fun a => ?_
  refine Ex.forI O l 4 (fun _ => [some (.d (.int rights)), some (.d (.int look)), some (.d (.int (stepOf look))), some (.raw (.ref a)), none]) (fun i => [(a, lstO ((upto i).map (fileAt rights look)))]) (Ev.callP O (nm_b_range O rfl) keep_type (Es.cons Ev.int Es.nil) (by first | with_reducible exact range1 | exact range1)) (src_range (k := 8) (by decide)) ?_ ?_
  · intro i y hy
    refine aside fun zk => ?_
    obtain ⟨rfl, hi⟩ := upto_get hy
    apply zk
    have m1 : IntMulOk ((look.fdiv 28).fmod 7) (i : Int) := mulOk_small (by lia)
    have m2 : IntMulOk (stepOf look) (i : Int) := mulOk_small (by lia)
    refine Ex.cons (Ex1.expr (v := .d .none) (Ev.meth (led2 := []) O (Ev.nm O l 3) (gm_lst F.slot_list_append F.type_list_append F.plainAttrs_list (.head _)) (Es.cons (Ev.tup (Es.cons (Ev.bin O (Ev.bin O (Ev.bin O (Ev.nm O l 1) Ev.int (by (with_reducible refine div_ii ?_ ?_ <;> first | assumption | decide | lia | (simp; done) | (simp; lia)))) (Ev.bin O (Ev.bin O (Ev.bin O (Ev.nm O l 1) Ev.int (by (with_reducible refine div_ii ?_ ?_ <;> first | assumption | decide | lia | (simp; done) | (simp; lia)))) Ev.int (by (with_reducible refine mod_ii ?_; first | assumption | decide | lia | (simp; done) | (simp; lia)))) (Ev.nm O l 4) (by (with_reducible refine mul_ii ?_; first | assumption | decide | lia | (simp; done) | (simp; lia)))) (by first | with_reducible exact add_ii | (with_reducible refine add_ss ?_; first | assumption | decide | lia | (simp; done) | (simp; lia)))) Ev.int (by (with_reducible refine mod_ii ?_; first | assumption | decide | lia | (simp; done) | (simp; lia)))) (Es.cons (Ev.bin O (Ev.bin O (Ev.nm O l 0) (Ev.bin O (Ev.nm O l 2) (Ev.nm O l 4) (by (with_reducible refine mul_ii ?_; first | assumption | decide | lia | (simp; done) | (simp; lia)))) (by first | with_reducible exact add_ii | (with_reducible refine add_ss ?_; first | assumption | decide | lia | (simp; done) | (simp; lia)))) Ev.int (by (with_reducible refine mod_ii ?_; first | assumption | decide | lia | (simp; done) | (simp; lia)))) Es.nil)) (by repeat constructor)) Es.nil) (append_op ?_)) rfl rfl) ?_
    · have : (upto i).length = i := by simp [upto]
      rw [List.length_map, this, big]; lia
    · rw [upto_succ, List.map_append]; exact Ex.done l (by repeat first | exact Less.nil | refine Less.skip ?_ | refine Less.same ?_)
  · exact Ex.retL (Ev.nm O l 3)
end
section
theorem num_len {i : Int} (h : i.natAbs < 1000000) : (Str.ofString (toString i)).length ≤ 100 := by
  rw [PySem.ofString_length]
  have := int_text_length_le10 (a := i) (k := 6) (by decide) (by lia)
  lia
noncomputable def wo (x : Str) (low : Nat) (high : Int) : Str := if 12 < high - low then tk x low ++ "[" ++ Str.ofString (toString (high - low)) ++ " chars]" ++ dr x high.toNat else x
theorem law_without (x : Str) (low : Nat) (high : Int) (hx : x.length ≤ 10000) (hl : low ≤ 10000) (hh : high.natAbs ≤ 10000) : FS 1 293 [.d (.str x), .d (.int low), .d (.int high)] (.d (.str (wo x low high))) := by
  refine call_def1 (n := 0) ["text", "low", "high"] [] (fun w => by exact rfl) (fun w => by kernel_rfl) (by exact bind3 fun _ _ _ _ => BindsTo.of_eq rfl) rfl (by decide) rfl (fun C L => ⟨by decide, by decide, rfl, rfl⟩) fun C L O l => ?_
  refine Ex.ifRet (Bt.cmp O (Ev.bin O (Ev.nm O l 2) (Ev.nm O l 1) (by with_reducible exact sub_ii)) Ev.int (by with_reducible exact gt_ii)) (fun hc => ?_) (fun hc => ?_)
  · have hc := of_decide_eq_true hc
    obtain ⟨k, rfl⟩ := Int.eq_ofNat_of_zero_le (show 0 ≤ high by omega)
    have e : wo x low (k : Int) = tk x low ++ "[" ++ Str.ofString (toString ((k : Int) - low)) ++ " chars]" ++ dr x k := by unfold wo; rw [if_pos hc]; rfl
    rw [e]
    have l1 := tk_len x low
    have l2 := dr_len x k
    have l3 := num_len (i := (k : Int) - low) (by omega)
    have l4 : (Str.ofString "[").length = 1 := by decide
    have l5 : (Str.ofString " chars]").length = 7 := by decide
    refine Ex.retD (Ev.bin O (Ev.bin O (Ev.bin O (Ev.bin O (Ev.sub O (Ev.nm O l 0) (Ev.slice Pt.none (Pt.some (Ev.nm O l 1)) Pt.none) item_str (get_sto ?_)) Ev.str (add_ss ?_)) (Ev.callP O (nm_b_str O rfl) keep_type (Es.cons (Ev.bin O (Ev.nm O l 2) (Ev.nm O l 1) (by with_reducible exact sub_ii)) Es.nil) (by (with_reducible refine str_i ?_; first | assumption | decide | lia | (simp; done) | (simp; lia)))) (add_ss ?_)) Ev.str (add_ss ?_)) (Ev.sub O (Ev.nm O l 0) (Ev.slice (Pt.some (Ev.nm O l 2)) Pt.none Pt.none) item_str (get_sfrom ?_)) (add_ss ?_)) <;> (try simp only [Str.length_append]) <;> rw [big] <;> omega
  · have hc := of_decide_eq_false hc
    have e : wo x low high = x := by unfold wo; rw [if_neg hc]
    rw [e]
    exact Ex.retD (Ev.nm O l 0)
noncomputable def kindC (k : Int) : Str := ⟨#[([112, 99, 100, 98, 45, 108, 115] : List Nat).getD k.toNat 0]⟩
noncomputable def sh1 (t : Nat) : Int := ([64, 8, 1] : List Int).getD t 0
noncomputable def sh2 (t : Nat) : Int := ([2048, 1024, 512] : List Int).getD t 0
noncomputable def digitOf (rights : Int) (t : Nat) : Int := (rights.fdiv (sh1 t)).fmod 8
noncomputable def lastOf (rights : Int) (t : Nat) : Int := (digitOf rights t).fmod 2 + 2 * (rights.fdiv (sh2 t)).fmod 2
noncomputable def lastC (t : Nat) (j : Int) : Nat := (([[45, 120, 83, 115], [45, 120, 83, 115], [45, 120, 84, 116]] : List (List Nat)).getD t []).getD j.toNat 0
noncomputable def tripC (rights : Int) (t : Nat) : Str := ⟨#[if 3 < digitOf rights t then 114 else 45, if ((digitOf rights t).fdiv 2).fmod 2 == 1 then 119 else 45, lastC t (lastOf rights t)]⟩
noncomputable def rowTo (k rights : Int) : Nat → Str
  | 0 => kindC k
  | t + 1 => rowTo k rights t ++ tripC rights t
theorem rowTo_len (k rights : Int) : ∀ t, (rowTo k rights t).length = 1 + 3 * t
  | 0 => rfl
  | t + 1 => by unfold rowTo; rw [Str.length_append, rowTo_len k rights t]; show _ + 3 = _; lia
theorem last_get (t : Nat) (j : Int) (ht : t < 3) (hj : 0 ≤ j ∧ j < 4) : (([Str.ofString "-xSs", "-xSs", "-xTt"]).getD t "").cps[j.toNat]? = some (lastC t j) := by
  have h1 : t = 0 ∨ t = 1 ∨ t = 2 := by lia
  have h2 : j = 0 ∨ j = 1 ∨ j = 2 ∨ j = 3 := by lia
  rcases h1 with rfl | rfl | rfl <;> rcases h2 with rfl | rfl | rfl | rfl <;> rfl
theorem law_row (k rights : Int) (h0 : 0 ≤ k) (h7 : k < 7) : FS 1 264 [.d (.int k), .d (.int rights)] (.d (.str (rowTo k rights 3))) := by
  refine call_def1 (n := 0) ["kind", "rights"] ["row", "turn", "digit", "last"] (fun w => by exact rfl) (fun w => by kernel_rfl) (by exact bind2 fun _ _ _ => BindsTo.of_eq rfl) rfl (by decide) rfl (fun C L => ⟨by decide, by decide, rfl, rfl⟩) fun C L O l => ?_
  have hk : (Str.ofString "pcdb-ls").cps[k.toNat]? = some (([112, 99, 100, 98, 45, 108, 115] : List Nat).getD k.toNat 0) := by
    have : k = 0 ∨ k = 1 ∨ k = 2 ∨ k = 3 ∨ k = 4 ∨ k = 5 ∨ k = 6 := by lia
    rcases this with rfl | rfl | rfl | rfl | rfl | rfl | rfl <;> rfl
  refine Ex.let_ O l 2 (v := .d (.str (kindC k))) (Ev.sub O Ev.str (Ev.nm O l 0) item_str (get_si h0 (by decide) hk)) ?_
  refine Ex.forI O l 3 (fun t => [some (.d (.int k)), some (.d (.int rights)), some (.d (.str (rowTo k rights t))), none, none, none]) (fun _ => []) (Ev.callP O (nm_b_range O rfl) keep_type (Es.cons Ev.int Es.nil) (by first | with_reducible exact range1 | exact range1)) (src_range (k := 3) (by decide)) ?_ ?_
  · intro t y hy
    obtain ⟨rfl, ht⟩ := upto_get hy
    have g1 : ([.int 64, .int 8, .int 1] : List PyData)[((t : Nat) : Int).toNat]? = some (.int (sh1 t)) := by
      have : t = 0 ∨ t = 1 ∨ t = 2 := by lia
      rcases this with rfl | rfl | rfl <;> rfl
    have g2 : ([.int 2048, .int 1024, .int 512] : List PyData)[((t : Nat) : Int).toNat]? = some (.int (sh2 t)) := by
      have : t = 0 ∨ t = 1 ∨ t = 2 := by lia
      rcases this with rfl | rfl | rfl <;> rfl
    have p1 : sh1 t ≠ 0 ∧ (sh1 t).natAbs < 1073741824 := by
      have : t = 0 ∨ t = 1 ∨ t = 2 := by lia
      rcases this with rfl | rfl | rfl <;> decide
    have p2 : sh2 t ≠ 0 ∧ (sh2 t).natAbs < 1073741824 := by
      have : t = 0 ∨ t = 1 ∨ t = 2 := by lia
      rcases this with rfl | rfl | rfl <;> decide
    have d1 := fmod_lt (a := rights.fdiv (sh1 t)) (k := 8) (by decide)
    refine Ex.let_ O l 4 (v := .d (.int (digitOf rights t))) (Ev.bin O (Ev.bin O (Ev.nm O l 1) (Ev.sub O (Ev.tup (Es.cons Ev.int (Es.cons Ev.int (Es.cons Ev.int Es.nil))) (by repeat constructor)) (Ev.nm O l 3) item_tuple (get_ti (by lia) (by decide) g1)) (div_ii p1.1 p1.2)) Ev.int (mod_ii (by decide))) ?_
    have m1 : IntMulOk 2 ((rights.fdiv (sh2 t)).fmod 2) := mulOk_small (by have := fmod_lt (a := rights.fdiv (sh2 t)) (k := 2) (by decide); lia)
    refine Ex.let_ O l 5 (v := .d (.int (lastOf rights t))) (Ev.bin O (Ev.bin O (Ev.nm O l 4) Ev.int (by (with_reducible refine mod_ii ?_; first | assumption | decide | lia | (simp; done) | (simp; lia)))) (Ev.bin O Ev.int (Ev.bin O (Ev.bin O (Ev.nm O l 1) (Ev.sub O (Ev.tup (Es.cons Ev.int (Es.cons Ev.int (Es.cons Ev.int Es.nil))) (by repeat constructor)) (Ev.nm O l 3) item_tuple (get_ti (by lia) (by decide) g2)) (div_ii p2.1 p2.2)) Ev.int (mod_ii (by decide))) (mul_ii m1)) add_ii) ?_
    have hl := rowTo_len k rights t
    have lA : ∀ c : Bool, (bif c then Str.ofString "r" else Str.ofString "-").length = 1 := by decide
    have lB : ∀ c : Bool, (bif c then Str.ofString "w" else Str.ofString "-").length = 1 := by decide
    refine Ex.let_ O l 2 (Ev.bin O (Ev.bin O (Ev.nm O l 2) (Ev.iteS (Bt.cmp O (Ev.nm O l 4) Ev.int (by with_reducible exact gt_ii)) Ev.str Ev.str) (add_ss (by rw [Str.length_append, hl, lA, big]; lia))) (Ev.iteS (Bt.cmp O (Ev.bin O (Ev.bin O (Ev.nm O l 4) Ev.int (by (with_reducible refine div_ii ?_ ?_ <;> first | assumption | decide | lia | (simp; done) | (simp; lia)))) Ev.int (by (with_reducible refine mod_ii ?_; first | assumption | decide | lia | (simp; done) | (simp; lia)))) Ev.int (by first | with_reducible exact eq_ii | with_reducible exact eq_ss)) Ev.str Ev.str) (add_ss (by rw [Str.length_append, Str.length_append, hl, lA, lB, big]; lia))) ?_
    have g3 : ([.str "-xSs", .str "-xSs", .str "-xTt"] : List PyData)[((t : Nat) : Int).toNat]? = some (.str (([Str.ofString "-xSs", "-xSs", "-xTt"]).getD t "")) := by
      have : t = 0 ∨ t = 1 ∨ t = 2 := by lia
      rcases this with rfl | rfl | rfl <;> rfl
    have d2 := fmod_lt (a := digitOf rights t) (k := 2) (by decide)
    have d3 := fmod_lt (a := rights.fdiv (sh2 t)) (k := 2) (by decide)
    have hj : 0 ≤ lastOf rights t ∧ lastOf rights t < 4 := by unfold lastOf; lia
    have g4 := last_get t (lastOf rights t) ht hj
    have g5 : (([Str.ofString "-xSs", "-xSs", "-xTt"]).getD t "").length ≤ sizeLine := by
      have : t = 0 ∨ t = 1 ∨ t = 2 := by lia
      rcases this with rfl | rfl | rfl <;> decide
    refine Ex.let_ O l 2 (Ev.bin O (Ev.nm O l 2) (Ev.sub O (Ev.sub O (Ev.tup (Es.cons Ev.str (Es.cons Ev.str (Es.cons Ev.str Es.nil))) (by repeat constructor)) (Ev.nm O l 3) item_tuple (get_ti (by lia) (by decide) g3)) (Ev.nm O l 5) item_str (get_si hj.1 g5 g4)) (add_ss (by rw [Str.length_append, Str.length_append, Str.length_append, hl, lA, lB, big]; show _ + 1 ≤ _; lia))) ?_
    have fin : rowTo k rights (t + 1) = rowTo k rights t ++ (bif decide (3 < digitOf rights t) then Str.ofString "r" else Str.ofString "-") ++ (bif (((digitOf rights t).fdiv 2).fmod 2 == 1) then Str.ofString "w" else Str.ofString "-") ++ (⟨#[lastC t (lastOf rights t)]⟩ : Str) := by
      show rowTo k rights t ++ tripC rights t = _
      rw [Str.append_assoc, Str.append_assoc]
      congr 1
      unfold tripC
      by_cases q1 : 3 < digitOf rights t <;> cases q2 : (((digitOf rights t).fdiv 2).fmod 2 == 1) <;> simp only [q1, decide_true, decide_false, cond_true, cond_false, if_true, if_false] <;> rfl
    rw [fin]
    exact Ex.done l (by repeat first | exact Less.nil | refine Less.skip ?_ | refine Less.same ?_)
  · exact Ex.retD (Ev.nm O l 2)
end
section
noncomputable def cellsTo (sc : List Int) : Nat → List Int
  | 0 => [0, 0, 0, 0, 0, 0, 0, 2, 40, 22, 488, 16, 0]
  | t + 1 => (cellsTo sc t).set (t % 13) ((cellsTo sc t).getD (t % 13) 0 + sc.getD t 0)
theorem cellsTo_len (sc : List Int) : ∀ t, (cellsTo sc t).length = 13
  | 0 => rfl
  | t + 1 => by unfold cellsTo; rw [List.length_set]; exact cellsTo_len sc t
theorem fmod_nat (t k : Nat) : Int.fmod (t : Int) (k : Int) = ((t % k : Nat) : Int) := by
  rw [Int.fmod_eq_emod_of_nonneg _ (by lia)]; exact (Int.natCast_emod t k).symm
theorem law_cells (sc : List Int) (hl : sc.length ≤ 63) : FS 1 250 [.d (intsD sc)] (.d (intsD (cellsTo sc sc.length))) := by
  refine call_def1 (n := 0) ["script"] ["cells", "place"] (fun w => by exact rfl) (fun w => by kernel_rfl) (by exact bind1 fun _ _ => BindsTo.of_eq rfl) rfl (by decide) rfl (fun C L => ⟨by decide, by decide, rfl, rfl⟩) fun C L O l => ?_
  refine @Ex.newI 0 _ _ _ _ _ O l 1 _ _ _ _ _ [.int 0, .int 0, .int 0, .int 0, .int 0, .int 0, .int 0, .int 2, .int 40, .int 22, .int 488, .int 16, .int 0] ?a ?b rfl (by kernel_rfl)
  case a =>
    refine @EvN.list _ _ _ _ _ _ _ _ ?h1 ?h2
    case h2 => rw [big]; exact of_decide_eq_true rfl
    show Es _ _ _ _ [V.d (.int 0), V.d (.int 0), V.d (.int 0), V.d (.int 0), V.d (.int 0), V.d (.int 0), V.d (.int 0), V.d (.int 2), V.d (.int 40), V.d (.int 22), V.d (.int 488), V.d (.int 16), V.d (.int 0)] _ _
    iterate 13 refine @Es.cons _ _ _ _ _ _ _ _ _ _ _ Ev.int ?_ (by kernel_rfl)
    exact Es.nil
  refine fun a => Ex.weakO toW ?_
  have hz : (sc.map PyData.int).length ≤ sizeLine := by rw [List.length_map, big]; lia
  refine Ex.forI O l 2 (fun _ => [some (.d (intsD sc)), some (.raw (.ref a)), none]) (fun t => [(a, lstW ((cellsTo sc t).map .int))]) (y := rangeV (sc.length : Nat)) (Ev.callP O (nm_b_range O rfl) keep_type (Es.cons (Ev.callP O (nm_b_len O rfl) keep_blt (Es.cons (Ev.nm O l 0) Es.nil) (len_l hz)) Es.nil) (by rw [List.length_map]; exact range1)) (src_range (k := sc.length) (by lia)) ?_ ?_
  · intro t y hy
    obtain ⟨rfl, ht⟩ := upto_get hy
    have h13 := cellsTo_len sc t
    have e13 : Int.fmod (t : Int) 13 = ((t % 13 : Nat) : Int) := fmod_nat t 13
    have hm : t % 13 < 13 := Nat.mod_lt _ (by decide)
    have z2 : ((cellsTo sc t).map PyData.int).length ≤ sizeLine := by rw [List.length_map, h13]; decide
    have g1 : ((cellsTo sc t).map PyData.int)[(Int.fmod (t : Int) 13).toNat]? = some (.int ((cellsTo sc t).getD (t % 13) 0)) := by
      rw [e13, Int.toNat_natCast, List.getElem?_map, List.getD_eq_getElem?_getD, List.getElem?_eq_getElem (by lia)]; rfl
    have g2 : (sc.map PyData.int)[((t : Nat) : Int).toNat]? = some (.int (sc.getD t 0)) := by
      rw [Int.toNat_natCast, List.getElem?_map, List.getD_eq_getElem?_getD, List.getElem?_eq_getElem ht]; rfl
    refine Ex.cons (Ex1.setW (pre := []) (post := []) O (Ev.bin O (Ev.subW (pre := []) (post := []) O (Ev.nm O l 1) (Ev.bin O (Ev.nm O l 2) Ev.int (by (with_reducible refine mod_ii ?_; first | assumption | decide | lia | (simp; done) | (simp; lia)))) (by rw [e13]; lia) z2 g1) (Ev.sub O (Ev.nm O l 0) (Ev.nm O l 2) item_list (get_li (by lia) hz g2)) add_ii) (Ev.nm O l 1) (Ev.bin O (Ev.nm O l 2) Ev.int (by (with_reducible refine mod_ii ?_; first | assumption | decide | lia | (simp; done) | (simp; lia)))) (by rw [e13]; lia) z2 (by rw [e13, List.length_map, h13]; lia)) ?_
    have e : ((cellsTo sc t).map PyData.int).set (Int.fmod (t : Int) 13).toNat (.int ((cellsTo sc t).getD (t % 13) 0 + sc.getD t 0)) = (cellsTo sc (t + 1)).map PyData.int := by
      rw [e13, Int.toNat_natCast]
      show _ = List.map PyData.int ((cellsTo sc t).set (t % 13) _)
      rw [List.map_set]
    rw [e]
    exact Ex.done l (by repeat first | exact Less.nil | refine Less.skip ?_ | refine Less.same ?_)
  · have : ((upto sc.length).map fun i => V.d (.int i)).length = sc.length := by simp [upto]
    rw [this]
    exact Ex.retW (Ev.nm O l 1)
end
section
section
variable {n : Nat} {Γ : Cx} {loc loc' loc1 loc2 : Loc} {led led' led1 led2 : Led} {s : Shared}
theorem St.iters (S : St Γ loc led s) {wr : List Addr} {h' : Heap} {t : Nat} (hI : ∀ I ∈ wr, I ∉ exOf Γ led) (hg : ∀ I ∈ wr, Γ.g.get? I = Option.none) (nI : ∀ I ∈ wr, ∀ o, s.heap.get? I = some o → ¬ isDat o) (k : ∀ b o, b ∉ wr → s.heap.get? b = some o → h'.get? b = some o)
    (O : Ok n Γ) : St Γ loc led { s with heap := h', toks := t } ∧ Sub (vis Γ led s) (vis Γ led { s with heap := h', toks := t }) := by
  have hp : ∀ a ∈ Γ.priv, a ∉ wr := fun a ha q => hI a q (List.mem_append_left _ ha)
  have sb : Sub (vis Γ led s) (vis Γ led { s with heap := h', toks := t }) := fun b o e hd => by
    have e1 := vget (e)
    have e2 := vout (e)
    exact vmk (k b o (fun q => nI b q o e1 hd) e1) e2
  refine ⟨⟨let ⟨m, F⟩ := S.fr; ⟨m, ?_, fun b o e => k b o (fun q => by rw [hg b q] at e; cases e) (F.keep b o e), F.above⟩, ?_, fun p hq => ?_, S.nd, fun a ha => ?_, S.os, S.gn, fun p hq => let ⟨o, e, r⟩ := S.fz p hq; ⟨o, k _ _ (hp _ (O.fl p hq).1) e, r⟩⟩, sb⟩
  · exact F.ns.at' fun o e => k _ o (hp _ O.pf) e
  · refine aside fun zk => ?_
    obtain ⟨m, cm, h1, h2, h3⟩ := S.nm
    apply zk
    refine ⟨m, cm, h1.at' fun o e => k _ o (hp _ O.pl) e, fun x a e => let ⟨o, ho, r⟩ := h2 x a e; ⟨o, k _ _ (hp _ (O.ce x a e).1) ho, r⟩, fun x v e => let ⟨v', e', r⟩ := h3 x v e; ⟨v', e', r.sub sb⟩⟩
  · refine aside fun zk => ?_
    obtain ⟨h1, h2, o, h3, h4⟩ := S.ld p hq
    apply zk
    exact ⟨h1, h2, o, k _ _ (fun q => hI _ q (List.mem_append_right _ (List.mem_map_of_mem hq))) h3, p.2.mono sb h4⟩
  · obtain ⟨o, e⟩ := S.pv a ha
    exact ⟨o, k a o (hp a ha) e⟩
structure RunG (Γ : Cx) (t : Expr) (led : Led) (its : List V) (s : Shared) (I : Addr) (wr fp : List Addr) (J : Nat → Heap → Prop) : Prop where
  sub : ∀ b ∈ wr, b ∈ fp
  frame : ∀ i h h', J i h → (∀ b ∈ fp, ∀ o, h.get? b = some o → h'.get? b = some o) → J i h'
  item : ∀ i s1 led1 (K : Value → Shared → Prop) (Q : Option Value → Shared → Prop) E, i < its.length → J i s1.heap → Sub (vis Γ led s) (vis Γ led1 s1) → (∀ b ∈ fp, b ∉ exOf Γ led1 ∧ ∃ o, s1.heap.get? b = some o) → (∀ a ∈ exOf Γ led1, a < s1.heap.objs.size) →
    (∀ v s2, wpAny (MM Γ.w) Γ.A (letOwnedTupleGo t (.ref I) v) (fun _ s3 => K v s3) E s2 → Q (some v) s2) →
    (∀ v x h' tk, its[i]? = some x → RepV (vis Γ led1 { s1 with heap := h', toks := tk }) x v → J (i + 1) h' → (∀ b o, b ∉ wr → s1.heap.get? b = some o → h'.get? b = some o) → K v { s1 with heap := h', toks := tk }) →
    wpAny (MM Γ.w) Γ.A (pyNext (.ref I)) Q E s1
  done : ∀ (s1 : Shared) (Q : Option Value → Shared → Prop) (E : Value → Shared → Prop), J its.length s1.heap →
    (∀ h' tk, (∀ b o, b ∉ wr → s1.heap.get? b = some o → h'.get? b = some o) → Q .none { s1 with heap := h', toks := tk }) → wpAny (MM Γ.w) Γ.A (pyNext (.ref I)) Q E s1
  J0 : J 0 s.heap
  fpv : ∀ b ∈ fp, b ∉ exOf Γ led ∧ ∃ o, s.heap.get? b = some o
  gI : ∀ b ∈ wr, Γ.g.get? b = none
  cl : ∀ i h, J i h → ∀ b ∈ wr, ∃ o, h.get? b = some o ∧ ¬ isDat o
noncomputable def SrcG (Γ : Cx) (t : Expr) (loc : Loc) (led : Led) (e : Expr) (its : List V) (loc1 : Loc) (led1 : Led) : Prop :=
  ∀ s (Q : Value → Shared → Prop) (E : Value → Shared → Prop), St Γ loc led s → (∀ I s' wr fp J, RunG Γ t led1 its s' I wr fp J → St Γ loc1 led1 s' → Le Γ led s led1 s' → (∀ b ∈ wr, ∀ o, (vis Γ led s).get? b ≠ some o) → Q (.ref I) s') → wpAny (MM Γ.w) Γ.A (eval e Γ.env) (fun a s1 => wpAny (MM Γ.w) Γ.A (pyIter a) Q E s1) E s
theorem Ex1.forG (O : Ok n Γ) {t iter : Expr} {body orelse : List Stmt} {pos : Pos} {its : List V} {o : Out} (hx : SrcG Γ t loc led iter its loc1 led1) (ht : Turns Γ t body its loc1 led1 o)
    {o' : Out} (h2 : match o with
      | .next loc2 led2 => Ex Γ loc2 led2 orelse o'
      | .brk loc2 led2 => o' = .next loc2 led2
      | .ret v loc2 led2 => o' = .ret v loc2 led2
      | .cont _ _ => False) (hs : autoParam (∀ x, foldedSetIterable iter Γ.env x = pure x) aI) : Ex1 Γ loc led (.For t iter body orelse pos) o' := fun s Q E S h => by
  refine wpAny_For (hx s _ E S fun I s2 wr fp J R S2 le2 new => ?_) hs
  clear hx
  have ne : ∀ b o, (vis Γ led s).get? b = some o → b ∉ wr := fun b o e q => new b q o e
  refine codeAny_forLoop_any (fun k s' => ∃ i loc' led', i ≤ its.length ∧ k = its.length - i ∧ J i s'.heap ∧ St Γ loc' led' s' ∧ Le Γ led s led' s' ∧ Sub (vis Γ led1 s2) (vis Γ led' s') ∧ (∀ b ∈ fp, b ∉ exOf Γ led' ∧ ∃ o, s'.heap.get? b = some o) ∧ Turns Γ t body (its.drop i) loc' led' o) ?_ its.length
    ⟨0, loc1, led1, Nat.zero_le _, rfl, R.J0, S2, le2, fun _ _ e _ => e, R.fpv, by simpa using ht⟩
  rintro k s' ⟨i, loc', led', hi, rfl, Ji, S', le', sb', fv', T'⟩
  have iv : ∀ b ∈ wr, b ∉ exOf Γ led' := fun b hb => (fv' b (R.sub b hb)).1
  have nd : ∀ b ∈ wr, ∀ o, s'.heap.get? b = some o → ¬ isDat o := fun b hb o e => by
    obtain ⟨o', e', d⟩ := R.cl i _ Ji b hb
    rw [e'] at e; cases e; exact d
  by_cases hlt : i < its.length
  · refine R.item i s' led' _ _ _ hlt Ji sb' fv' S'.ex_lt (fun v s2 h => h) fun v y h' tk hy ry Ji' hk => ?_
    obtain ⟨S3, sb3⟩ := S'.iters (t := tk) iv R.gI nd hk O
    have hd : its.drop i = y :: its.drop (i + 1) := by
      rw [List.drop_eq_getElem_cons hlt]
      congr 1
      rw [List.getElem?_eq_getElem hlt] at hy; exact Option.some.inj hy
    rw [hd] at T'
    obtain ⟨loc3, o3, hA, hB, hC⟩ := T'
    refine hA _ v _ _ S3 ry fun s4 S4 le4 => hB s4 _ _ S4 fun f s5 x5 => ?_
    have go : ∀ led5, Le Γ led' s4 led5 s5 → Le Γ led' { s' with heap := h', toks := tk } led5 s5 := fun led5 l => le4.trans l
    have old : ∀ led5, Le Γ led' s4 led5 s5 → Le Γ led s led5 s5 := fun led5 l b o e => by
      have e2 := vget ((le' b o e))
      have e3 := vout ((le' b o e))
      exact go led5 l b o (vmk (hk b o (ne b o e) e2) e3)
    have fv3 : ∀ b ∈ fp, b ∉ exOf Γ led' ∧ ∃ o, h'.get? b = some o := fun b hb => by
      obtain ⟨f1, o, f2⟩ := fv' b hb
      refine ⟨f1, ?_⟩
      by_cases q : b ∈ wr
      · obtain ⟨o', e', _⟩ := R.cl _ _ Ji' b q; exact ⟨o', e'⟩
      · exact ⟨o, hk b o q f2⟩
    have on : ∀ loc5 led5, St Γ loc5 led5 s5 → Le Γ led' s4 led5 s5 → Turns Γ t body (its.drop (i + 1)) loc5 led5 o → ∃ m, m < its.length - i ∧ ∃ i loc' led', i ≤ its.length ∧ m = its.length - i ∧ J i s5.heap ∧ St Γ loc' led' s5 ∧ Le Γ led s led' s5 ∧ Sub (vis Γ led1 s2) (vis Γ led' s5) ∧ (∀ b ∈ fp, b ∉ exOf Γ led' ∧ ∃ o, s5.heap.get? b = some o) ∧ Turns Γ t body (its.drop i) loc' led' o := fun loc5 led5 S5 l T5 => by
      have fv5 : ∀ b ∈ fp, ∀ o, h'.get? b = some o → (vis Γ led5 s5).get? b = some o := fun b hb o e => go led5 l b o (vmk e ((fv3 b hb).1))
      refine ⟨its.length - (i + 1), by omega, i + 1, loc5, led5, hlt, rfl, R.frame _ _ _ Ji' (fun b hb o e => (vget (fv5 b hb o e))), S5, old led5 l, fun b o e hd => go led5 l b o (sb3 b o (sb' b o e hd) hd), fun b hb => ?_, T5⟩
      obtain ⟨_, o, e⟩ := fv3 b hb
      have := vis_iff.mp (fv5 b hb o e)
      exact ⟨this.2, o, this.1⟩
    cases o3 with
    | next loc5 led5 => obtain ⟨rfl, S5, l⟩ := x5; exact on loc5 led5 S5 l hC
    | cont loc5 led5 => obtain ⟨rfl, S5, l⟩ := x5; exact on loc5 led5 S5 l hC
    | brk loc5 led5 =>
      obtain ⟨rfl, S5, l⟩ := x5
      have hC : o = .brk loc5 led5 := hC
      subst hC
      have h2 : o' = .next loc5 led5 := h2
      subst h2
      exact h _ s5 ⟨rfl, S5, old led5 l⟩
    | ret v loc5 led5 =>
      refine aside fun zk => ?_
      obtain ⟨v', rfl, S5, l, r5⟩ := x5
      have hC : o = .ret v loc5 led5 := hC
      subst hC
      have h2 : o' = .ret v loc5 led5 := h2
      subst h2
      apply zk
      exact h _ s5 ⟨v', rfl, S5, old led5 l, r5⟩
  · have hi' : i = its.length := by omega
    subst hi'
    refine R.done s' _ _ Ji fun h' tk hk => ?_
    obtain ⟨S3, sb3⟩ := S'.iters (t := tk) iv R.gI nd hk O
    rw [List.drop_length] at T'
    have T' : o = .next loc' led' := T'
    subst T'
    have h2 : Ex Γ loc' led' orelse o' := h2
    refine h2 _ _ _ S3 fun f s5 x5 => h f s5 ?_
    refine x5.le fun b o e => ?_
    have e2 := vget ((le' b o e))
    have e3 := vout ((le' b o e))
    exact vmk (hk b o (ne b o e) e2) e3
theorem As.tup2 (O : Ok n Γ) {a b : Str} {pa pb pos : Pos} {k : Nat} {x y : PyData} (ha : Sto Γ a) (hb : Sto Γ b) : As Γ loc led (.Tuple [.Name a pa, .Name b pb] k pos) (.d (.tuple [x, y])) (put (put loc a (.d x)) b (.d y)) := fun s v' Q E S r h => by
  refine aside fun zk => ?_
  obtain ⟨l, o, vs, k, as, rfl, h1, h2, h3, h4⟩ := rep_tuple r
  obtain ⟨vl, rfl⟩ : ∃ vl, vs = List.toArray vl := ⟨vs.toList, rfl⟩
  obtain ⟨u1, b1, g1, r1⟩ := readsAll_get h4 (i := 0) rfl
  obtain ⟨u2, b2, g2, r2⟩ := readsAll_get h4 (i := 1) rfl
  have len := readsAll_length h4
  have : vl = [u1, u2] := @lnS _ (fun l => l[0]? = some u1 → l[1]? = some u2 → l = [u1, u2]) _ _ len (fun p _ e => @lnS _ (fun l => (p :: l)[0]? = some u1 → (p :: l)[1]? = some u2 → p :: l = [u1, u2]) _ _ e fun q _ e => @ln0 _ (fun l => (p :: q :: l)[0]? = some u1 → (p :: q :: l)[1]? = some u2 → p :: q :: l = [u1, u2]) _ e fun g1 g2 => by cases g1; cases g2; rfl) g1 g2
  subst this
  apply zk
  refine wpAny_assign_Tuple O.hh (isTuple_of h1 h2 h3) rfl rfl fun h₁ he₁ => ?_
  obtain ⟨S1, le1⟩ := S.grow (h' := h₁) (t := s.toks) fun c o e => he₁ c o (Nat.ne_of_lt (Heap.lt_size e)) e
  show wpAny _ _ (assignInOrder [PySem.assign (.Name a pa) Γ.env, PySem.assign (.Name b pb) Γ.env] [u1, u2]) _ _ _
  refine assignInOrder_cons (As.name (v := .d x) O ha _ u1 _ _ S1 ⟨b1, reads_sub (.of le1) r1⟩ fun s2 S2 le2 => ?_)
  refine assignInOrder_cons (As.name (v := .d y) O hb _ u2 _ _ S2 ⟨b2, reads_sub (.of (le1.trans le2)) r2⟩ fun s3 S3 le3 => ?_)
  exact assignInOrder_nil (h s3 S3 (le1.trans (le2.trans le3)))
end
section
variable {prog : Program} {w : World} {A : Around} {E : Value → Shared → Prop} {s : Shared}
theorem wpAny_nextOf_tuple_item {it l : Addr} {i : Nat} {items} {x : Value} {Q : Value → Shared → Prop} (hit : s.heap.IsTupleIter it l i)
    (hl : s.heap.IsTuple l items) (hx : items[i]? = some x)
    (hQ : ∀ h', h'.IsTupleIter it l (i + 1) → Heap.SameBut it s.heap h' → Q x { s with heap := h' }) :
    wpAny (model prog w) A (Builtin.SmallTypes.nextOf (.ref it)) Q E s := by
  obtain ⟨o, ho, hc, hd⟩ := id hit
  obtain ⟨ol, hol, _, nl, hdl⟩ := hl
  unfold Builtin.SmallTypes.nextOf
  refine wpAny_bind (wpAny_callSpecial?_slot (name := Str.ofString "__next__") hit.typeIs F.slot_tuple_iterator_next
    (wpAny_call_entry F.slot_tuple_iterator_next hit.typeIs F.entry_tuple_iterator_next ?_ (F.args_tuple_iterator_next_1 _)))
  show wpAny _ _ (field (.ref it) 0 >>= _) _ _ s
  refine wpAny_bind (wpAny_field ho hd (x := .ref l) rfl ?_)
  show wpAny _ _ (if (Value.ref l == Value.none) = true then _ else _) _ _ s
  rw [if_neg (show ¬ ((Value.ref l == Value.none) = true) from Bool.false_ne_true)]
  show wpAny _ _ (field (.ref it) 1 >>= _) _ _ s
  refine wpAny_bind (wpAny_field ho hd (x := .int i 0) rfl ?_)
  show wpAny _ _ (seqItems? (.ref l) >>= _) _ _ s
  refine wpAny_bind (wpAny_seqItems hol hdl ?_)
  simp only [Int.toNat_natCast, hx]
  refine wpAny_bind (wpAny_setField ho hd (by simp) (wpAny_pure ⟨x, rfl, wpAny_pure (hQ _ ?_ (Heap.SameBut.update ..))⟩))
  exact ⟨_, Heap.get?_update_self _ ho (Obj.isFreed_of_fields (Obj.data_mapFields hd _)), (Obj.cls_mapFields ..).trans hc, by
    rw [Obj.data_mapFields hd]; simp [rawInt]⟩
theorem wpAny_nextOf_tuple_end {it l : Addr} {i : Nat} {items} {Q : Value → Shared → Prop} (hh : A.handled = none)
    (hit : s.heap.IsTupleIter it l i) (hl : s.heap.IsTuple l items) (hx : items[i]? = none)
    (hE : ∀ h' e, Heap.ExtBut it s.heap h' → (∃ o, h'.get? e = some o ∧ o.cls = .type "StopIteration") → E (.ref e) { s with heap := h' }) :
    wpAny (model prog w) A (Builtin.SmallTypes.nextOf (.ref it)) Q E s := by
  obtain ⟨o, ho, hc, hd⟩ := id hit
  obtain ⟨ol, hol, _, nl, hdl⟩ := hl
  unfold Builtin.SmallTypes.nextOf
  refine wpAny_bind (wpAny_callSpecial?_slot (name := Str.ofString "__next__") hit.typeIs F.slot_tuple_iterator_next
    (wpAny_call_entry F.slot_tuple_iterator_next hit.typeIs F.entry_tuple_iterator_next ?_ (F.args_tuple_iterator_next_1 _)))
  show wpAny _ _ (field (.ref it) 0 >>= _) _ _ s
  refine wpAny_bind (wpAny_field ho hd (x := .ref l) rfl ?_)
  show wpAny _ _ (if (Value.ref l == Value.none) = true then _ else _) _ _ s
  rw [if_neg (show ¬ ((Value.ref l == Value.none) = true) from Bool.false_ne_true)]
  show wpAny _ _ (field (.ref it) 1 >>= _) _ _ s
  refine wpAny_bind (wpAny_field ho hd (x := .int i 0) rfl ?_)
  show wpAny _ _ (seqItems? (.ref l) >>= _) _ _ s
  refine wpAny_bind (wpAny_seqItems hol hdl ?_)
  simp only [Int.toNat_natCast, hx]
  refine wpAny_bind (wpAny_rule (wpAny_bind (wpAny_setField ho hd (by simp) ?_)))
  show wpAny _ _ (newExc (.type "StopIteration") [] >>= _) _ _ _
  refine wpAny_bind ?_
  simp only [newExc, newTuple]
  refine wpAny_bind (wpAny_newObj_type ?_ (by size_fits))
  refine wpAny_bind (m := firstArgMember _ _) (wpAny_of_eq (a := Value.none) (by first | rfl | (simp only [firstArgMember]; rfl)) ?_)
  refine wpAny_newObj_type ?_ (by size_fits)
  simp only [raiseNew]
  refine wpAny_bind (wpAny_handled ?_)
  first | rw [show A.in1.handled = none from hh] | rw [hh]
  refine wpAny_bind (wpAny_pure (wpAny_throw ?_))
  exact hE _ _ (((Heap.SameBut.update ..).extBut.push _).push _) ⟨_, Heap.get?_push_size _ rfl, rfl⟩
end
theorem drawsTuple {prog : Program} {w : World} {A : Around} (hh : A.handled = none) (it l : Addr) (hne : l ≠ it) (items : Array Value) :
    Draws prog w A it [it, l] items.size (fun i v => items[i]? = some v) (fun i h => h.IsTupleIter it l i ∧ h.IsTuple l items) where
  live := fun _ _ st => let ⟨o, ho, _⟩ := st.1; ⟨o, ho⟩
  frame := fun _ _ _ st hk => ⟨let ⟨o, ho, r⟩ := st.1; ⟨o, hk it (by simp) o ho, r⟩, let ⟨o, ho, r⟩ := st.2; ⟨o, hk l (by simp) o ho, r⟩⟩
  item := fun i s Q E hi st hQ => by
    refine wpAny_nextOf_tuple_item st.1 st.2 (x := items[i]) (by simp [hi]) fun h' hit' hs' => ?_
    exact hQ _ h' s.toks (by simp [hi]) ⟨hit', let ⟨o, ho, r⟩ := st.2; ⟨o, hs'.extBut l o hne ho, r⟩⟩ hs'
  done := fun s Q E st hE => wpAny_nextOf_tuple_end hh st.1 st.2 (by simp) hE
open AutoSeq1 (wpAny_loadPart') in
theorem wpAny_pureB {α : Type} {M : Model} {A : Around} {x : α} {Q : α → Shared → Prop} {E : Value → Shared → Prop} {s : Shared} (h : ∀ b, Q b s) : wpAny M A (pure x) Q E s := wpAny_pure (h x)
theorem meets_enumerate_newT (l : Addr) (items : Array Value) (n : Nat) (dct : Option Addr) (sl : Array (Option Value)) :
    Meets (Builtin.«enumerate.__new__» ⟨[.type "enumerate", .ref l], []⟩) (fun _ R s => s.heap.get? l = some { cls := .type "tuple", dict := dct, data := .seq items n, slots := sl } ∧
      R (.ok (.ret (.ref (s.heap.push { cls := .type "tuple_iterator", data := .fields #[.ref l, .int 0 0] }).objs.size)))
        { s with heap := (s.heap.push { cls := .type "tuple_iterator", data := .fields #[.ref l, .int 0 0] }).push { cls := .type "enumerate", data := .fields #[.none, .bool false, .ref s.heap.objs.size, rawInt 0, .none, .none] } }) :=
  .of_wp fun prog w A R s h => by
    obtain ⟨hp, g, d, tk, os⟩ := s; obtain ⟨hl, h⟩ := h
    have hsub := sub_enumerate
    have hL : Heap.IsTuple (Shared.heap ⟨hp, g, d, tk, os⟩) l items := ⟨_, hl, rfl, n, rfl⟩
    wp_walk using wpAny_loadPart' hl
    refine wpAny_stack_any fun st => wpAny_pureB fun b => ?_
    cases b <;>
    · wp_walk using wpAny_loadPart' hl, wpAny_pyIter_tuple hL
      exact ⟨_, rfl, h⟩
theorem call_enumerate_tuple {prog : Program} {w : World} {A : Around} {E : Value → Shared → Prop} {s : Shared} {l : Addr} {items : Array Value} {Q : Value → Shared → Prop} (hL : s.heap.IsTuple l items)
    (h : ∀ h', IsEnum h' (s.heap.objs.size + 1) s.heap.objs.size 0 .none → h'.IsTupleIter s.heap.objs.size l 0 → h'.objs.size = s.heap.objs.size + 2 →
      (∀ b o, s.heap.get? b = some o → h'.get? b = some o) → Q (.ref (s.heap.objs.size + 1)) { s with heap := h' }) :
    wpAny (model prog w) A (call (.type "enumerate") [.ref l]) Q E s := by
  refine aside fun zk => ?_
  obtain ⟨⟨c, dct, dt, sl⟩, hl, hc, n, hd⟩ := hL
  apply zk
  replace hc : c = .type "tuple" := hc
  replace hd : dt = .seq items n := hd
  subst hc hd
  refine callType_new F.called_enumerate (by decide) (F.typeCall_enumerate_1 _) (F.newCall_enumerate_1 _) (fun obj => F.args_object_init_2 obj _) F.entry_enumerate_new
    (meets_enumerate_newT l items n dct sl) ⟨hl, ?_⟩
  have hz : (s.heap.push { cls := .type "tuple_iterator", data := .fields #[.ref l, .int 0 0] }).objs.size = s.heap.objs.size + 1 := Heap.size_push ..
  show _ ∧ _
  rw [hz]
  have he : IsEnum ((s.heap.push { cls := .type "tuple_iterator", data := .fields #[.ref l, .int 0 0] }).push
      { cls := .type "enumerate", data := .fields #[.none, .bool false, .ref s.heap.objs.size, rawInt 0, .none, .none] }) (s.heap.objs.size + 1) s.heap.objs.size 0 .none := by
    have := Heap.get?_push_size (s.heap.push { cls := .type "tuple_iterator", data := .fields #[.ref l, .int 0 0] })
      (o := { cls := .type "enumerate", data := .fields #[.none, .bool false, .ref s.heap.objs.size, rawInt 0, .none, .none] }) rfl
    rw [hz] at this; exact this
  refine ⟨⟨_, he, rfl⟩, h _ he ⟨_, Heap.get?_push_of_some _ (Heap.get?_push_size _ rfl), rfl, rfl⟩ (by rw [Heap.size_push, hz]) fun b o x => Heap.get?_push_of_some _ (Heap.get?_push_of_some _ x)⟩
noncomputable def pairsFrom (xs : List PyData) : List V := (List.range xs.length).map fun i => .d (.tuple [.int (i : Nat), xs.getD i .none])
theorem pairs_get {xs : List PyData} {i : Nat} (h : i < xs.length) : (pairsFrom xs)[i]? = some (.d (.tuple [.int (i : Nat), xs[i]])) := by
  unfold pairsFrom
  rw [List.getElem?_map, List.getElem?_range h, Option.map_some, List.getD_eq_getElem?_getD, List.getElem?_eq_getElem h]; rfl
section
variable {n : Nat} {Γ : Cx} {loc loc' loc1 loc2 : Loc} {led led' led1 led2 : Led} {s : Shared}
theorem not_dat {o : Obj} {nm : String} (h : o.cls = .type nm) (hn : datNames.contains nm = false) : ¬ isDat o := by
  rintro ⟨x, hx, q⟩
  rw [h] at q
  injection q with q
  subst q
  rw [List.contains_iff_mem.mpr hx] at hn
  cases hn
theorem runG_enum {elts : List Expr} {k : Nat} {pos : Pos} {it e : Addr} {fp : List Addr} {P : Nat → Value → Prop} {D : Nat → Heap → Prop} {xs : List PyData} (O : Ok n Γ) (W : Draws PP Γ.w Γ.A.in1 it fp xs.length P D) (hei : e ≠ it) (hef : e ∉ fp) (hif : it ∈ fp)
    (he : IsEnum s.heap e it 0 .none) (h0 : D 0 s.heap) (hfp : ∀ b ∈ e :: fp, b ∉ exOf Γ led ∧ ∃ o, s.heap.get? b = some o) (hg : Γ.g.get? e = none ∧ Γ.g.get? it = none)
    (hcl : ∀ i h, D i h → ∃ o nm, h.get? it = some o ∧ o.cls = .type nm ∧ datNames.contains nm = false)
    (hP : ∀ i v (hi : i < xs.length), P i v → ∃ as, Reads (vis Γ led s) v xs[i] as) : RunG Γ (.Tuple elts k pos) led (pairsFrom xs) s e [e, it] (e :: fp) (fun i h => (∃ old, IsEnum h e it i old) ∧ D i h) := by
  have T := WalksT.enumerateD W e hei hef hif
  have len : (pairsFrom xs).length = xs.length := by simp [pairsFrom]
  refine ⟨T.sub, T.frame, ?_, fun s1 Q E hj hQ => T.done s1 Q E (by rw [← len]; exact hj) hQ, ⟨⟨_, he⟩, h0⟩, hfp, fun b hb => ?_, fun i h hj b hb => ?_⟩
  · intro i s1 led1 K Q E hi hj sb fv lt hQ hK
    rw [len] at hi
    refine T.item i s1 Q E hi hj fun tt vals h' tk hPt hle hT hM hk => hQ _ _ ?_
    refine T.go elts k pos i tt _ _ _ hM fun h'' hj' hk' => ?_
    refine aside fun zk => ?_
    obtain ⟨t, x, hx, rfl⟩ := hPt
    have ap := T.apart i tt _ hM
    obtain ⟨o, e1, e2, kk, e3⟩ := hT
    have hv : (vis Γ led1 { s1 with heap := h'', toks := tk }).get? tt = some o := vmk (hk' tt o ap e1) (fun hb => absurd (lt tt hb) (Nat.not_lt.mpr hle))
    obtain ⟨as, rx⟩ := hP i x hi hx
    apply zk
    have sb2 : Sub (vis Γ led1 s1) (vis Γ led1 { s1 with heap := h'', toks := tk }) := fun b o ee hd => by
      have q1 := vget (ee)
      have q2 := vout (ee)
      have nb : b ∉ [e, it] := fun hb => by
        rcases List.mem_cons.mp hb with rfl | hb
        · obtain ⟨old, z⟩ := hj.1
          have z := q1.symm.trans z
          cases z
          exact not_dat (nm := "enumerate") rfl (by decide) hd
        · rw [List.mem_singleton.mp hb] at q1
          obtain ⟨o', nm, z1, z2, z3⟩ := hcl i _ hj.2
          rw [q1] at z1; cases z1
          exact not_dat z2 z3 hd
      exact vmk (hk' b o nb (hk b o nb q1)) q2
    have r2 := reads_sub sb2 (reads_sub sb rx)
    refine hK _ _ h'' tk (pairs_get hi) ⟨_, .tuple hv e2 e3 (.cons (.int _ _) (.cons r2 .nil))⟩ hj' fun b o hb ee => hk' b o hb (hk b o hb ee)
  · rcases List.mem_cons.mp hb with rfl | hb
    · exact hg.1
    · rw [List.mem_singleton.mp hb]; exact hg.2
  · rcases List.mem_cons.mp hb with rfl | hb
    · obtain ⟨old, z⟩ := hj.1; exact ⟨_, z, not_dat (nm := "enumerate") rfl (by decide)⟩
    · rw [List.mem_singleton.mp hb]
      refine aside fun zk => ?_
      obtain ⟨o', nm, z1, z2, z3⟩ := hcl i _ hj.2
      apply zk
      exact ⟨o', z1, not_dat z2 z3⟩
theorem callP_any (O : Ok n Γ) {x : Str} {p : Pos} {as : List Expr} {pos : Pos} {fv : Value} {vs : List V} (hf : Ev Γ loc led (.Name x p) (.raw fv) loc1 led1) (hk : Keep Γ.w fv) (ha : Es Γ loc1 led1 as vs loc2 led2)
    {Q : Value → Shared → Prop} {E : Value → Shared → Prop} (S : St Γ loc led s) (h : ∀ vals s2, St Γ loc2 led2 s2 → Le Γ led s led2 s2 → RepAll (vis Γ led2 s2) vs vals → wpAny (MM Γ.w) Γ.A (PySem.call fv vals) Q E s2)
    (he : autoParam (∀ pos, (backTo pos (starEach as Γ.env)).any (·.1) = false) aI) : wpAny (MM Γ.w) Γ.A (eval (.Call (.Name x p) as [] pos) Γ.env) Q E s := by
  refine Call_Name rfl (hf s _ E S fun a s1 S1 le1 ra => ?_)
  cases ra
  exact callWith_of (P := fun h => (KF Γ.w).In h) (by rw [he pos]; rfl) (fun h X => hk h X) (evalArgs_es (he pos) (ha pos s1 _ E S1 fun vals s2 S2 le2 rs => ⟨KX O S2, h vals s2 S2 (le1.trans le2) rs⟩))
theorem srcG_enumT (O : Ok n Γ) {p pos tp : Pos} {e : Expr} {elts : List Expr} {k : Nat} {xs : List PyData} (hf : Ev Γ loc led (.Name "enumerate" p) (.raw (.type "enumerate")) loc led) (h1 : Es Γ loc led [e] [.d (.tuple xs)] loc1 led1)
    (he : autoParam (∀ pos, (backTo pos (starEach [e] Γ.env)).any (·.1) = false) aI) : SrcG Γ (.Tuple elts k tp) loc led (.Call (.Name "enumerate" p) [e] [] pos) (pairsFrom xs) loc1 led1 := fun s Q E S h => by
  refine callP_any O hf keep_type h1 S (fun vals s1 S1 le1 rs => ?_) he
  cases rs with
  | cons ra rn =>
  refine aside fun zk => ?_
  cases rn
  obtain ⟨l, o, vs, k', as, rfl, g1, g2, g3, g4⟩ := rep_tuple ra
  obtain ⟨f1, f2, f3⟩ := S1.fresh
  apply zk
  have lk : l < s1.heap.objs.size := Heap.lt_size (vget g1)
  refine call_enumerate_tuple (isTuple_of g1 g2 g3) fun h' e1 e2 e3 e4 => ?_
  obtain ⟨S2, le2⟩ := S1.grow (h' := h') (t := s1.toks) e4
  refine wpAny_pyIter_enum e1 ?_
  have len := readsAll_length g4
  have W := drawsTuple (prog := PP) (w := Γ.w) (A := Γ.A.in1) O.hh s1.heap.objs.size l (Nat.ne_of_lt lk) vs
  have sz : vs.size = xs.length := by simpa using len
  rw [sz] at W
  have ex : ∀ a ∈ exOf Γ led1, a < s1.heap.objs.size := S1.ex_lt
  obtain ⟨m, F⟩ := S1.fr
  have gn : ∀ a, s1.heap.objs.size ≤ a → Γ.g.get? a = none := fun a ha => by
    cases q : Γ.g.get? a with
    | none => rfl
    | some o => exact absurd (Heap.lt_size (F.keep a o q)) (Nat.not_lt.mpr ha)
  refine h _ _ _ _ _ (runG_enum (e := s1.heap.objs.size + 1) O W (Nat.succ_ne_self _) (fun hb => (List.mem_cons.mp hb).elim (fun q => Nat.succ_ne_self _ q) fun q => absurd (List.mem_singleton.mp q) (Nat.ne_of_gt (Nat.lt_succ_of_lt lk))) (List.mem_cons_self ..) e1 ⟨e2, isTuple_of (le2 _ _ g1) g2 g3⟩ ?_ ⟨gn _ (Nat.le_succ _), gn _ (Nat.le_refl _)⟩ ?_ ?_) S2 (le1.trans le2) ?_
  · intro b hb
    rcases List.mem_cons.mp hb with rfl | hb
    · exact ⟨fun q => absurd (ex _ q) (Nat.not_lt.mpr (Nat.le_succ _)), _, e1⟩
    · rcases List.mem_cons.mp hb with rfl | hb
      · exact ⟨f2, let ⟨o, e, _⟩ := e2; ⟨o, e⟩⟩
      · rw [List.mem_singleton.mp hb]; exact ⟨(vout g1), _, (vget (le2 _ _ g1))⟩
  · rintro i hh ⟨⟨o, ho, hc, _⟩, _⟩
    exact ⟨o, _, ho, hc, by decide⟩
  · intro i v hi hv
    refine aside fun zk => ?_
    obtain ⟨v', bs, hv', r⟩ := readsAll_get g4 (List.getElem?_eq_getElem hi)
    have : v' = v := by
      rw [← Array.getElem?_toList] at hv
      rw [hv] at hv'; exact (Option.some.inj hv').symm
    subst this
    apply zk
    exact ⟨_, reads_sub (.of le2) r⟩
  · intro b hb o q
    have := Heap.lt_size (vget (le1 _ _ q))
    rcases List.mem_cons.mp hb with rfl | hb
    · exact absurd this (Nat.not_lt.mpr (Nat.le_succ _))
    · rw [List.mem_singleton.mp hb] at this; exact Nat.lt_irrefl _ this
end
end
section
noncomputable def rdAll (f : Value → Option PyData) : List Value → Option (List PyData)
  | [] => some []
  | v :: r => (f v).bind fun d => (rdAll f r).map (d :: ·)
noncomputable def rdO (f : Value → Option PyData) (o : Obj) : Option PyData := match o.data with
  | .seq vs _ => if o.cls = .type "tuple" then (rdAll f vs.toList).map .tuple else none
  | _ => none
noncomputable def rdV (K : Frag) (f : Value → Option PyData) : Value → Option PyData
  | .int i _ => some (.int i)
  | .str x _ => some (.str x)
  | .ref a => (K.lookup a).bind (rdO f)
  | _ => none
noncomputable def rdK (K : Frag) : Nat → Value → Option PyData
  | 0 => fun _ => none
  | n + 1 => rdV K (rdK K n)
theorem rdAll_reads {h : Heap} {f : Value → Option PyData} (hf : ∀ v d, f v = some d → ∃ as, Reads h v d as) (vs : List Value) : ∀ (ds : List PyData), rdAll f vs = some ds → ∃ as, ReadsAll h vs ds as := by
  induction vs with
  | nil => exact fun ds e => Option.some.inj e ▸ ⟨_, .nil⟩
  | cons v r ih =>
    intro ds e
    refine aside fun zk => ?_
    obtain ⟨d, e1, e⟩ := Option.bind_eq_some_iff.mp e
    obtain ⟨ds', e2, e⟩ := Option.map_eq_some_iff.mp e
    apply zk
    exact (hf v d e1).elim fun _ r1 => (ih ds' e2).elim fun _ r2 => e ▸ ⟨_, .cons r1 r2⟩
theorem rdO_reads {h : Heap} {f : Value → Option PyData} (hf : ∀ v d, f v = some d → ∃ as, Reads h v d as) {a : Addr} {o : Obj} (ho : h.get? a = some o) {d : PyData} (e : rdO f o = some d) : ∃ as, Reads h (.ref a) d as := by
  obtain ⟨cls, dct, data, sl⟩ := o
  cases data
  case seq vs k =>
    have e : (if cls = .type "tuple" then (rdAll f vs.toList).map .tuple else none) = some d := e
    by_cases q : cls = .type "tuple"
    · rw [if_pos q] at e
      obtain ⟨ds, e1, e2⟩ := Option.map_eq_some_iff.mp e
      exact (rdAll_reads hf _ _ e1).elim fun as r => e2 ▸ ⟨_, .tuple ho q rfl r⟩
    · rw [if_neg q] at e; cases e
  all_goals cases e
theorem rdK_reads {K : Frag} {h : Heap} (hK : ∀ a o, K.lookup a = some o → h.get? a = some o) (n : Nat) : ∀ (v : Value) (d : PyData), rdK K n v = some d → ∃ as, Reads h v d as := by
  induction n with
  | zero => exact fun _ _ e => nomatch e
  | succ n ih =>
    intro v d e
    cases v
    case int i t => exact Option.some.inj e ▸ ⟨_, .int _ _⟩
    case str x t => exact Option.some.inj e ▸ ⟨_, .str _ _⟩
    case ref a =>
      obtain ⟨o, h1, h2⟩ := Option.bind_eq_some_iff.mp e
      exact rdO_reads ih (hK a o h1) h2
    all_goals cases e
section
variable {n : Nat} {Γ : Cx} {loc loc' loc1 loc2 : Loc} {led led' led1 led2 : Led} {s : Shared} {xs : List Str} {vs : List (Option V)} {o : Out}
theorem vis_K (O : Ok n Γ) (S : St Γ loc led s) {a : Addr} {ob : Obj} (e : (KF Γ.w).lookup a = some ob) : (vis Γ led s).get? a = some ob := by
  refine vmk (KX O S a ob e) (fun hb => ?_)
  rcases List.mem_append.mp hb with h | h
  · have := O.kp a h; rw [O.kb a ob e] at this; cases this
  · obtain ⟨p, hp, rfl⟩ := List.mem_map.mp h
    have := (S.ld p hp).2.1
    rw [O.X _ ob e] at this; cases this
theorem Ev.globD (O : Ok n Γ) {x : Str} {pos : Pos} {v : Value} {d : PyData} (k : Nat) (hx : Γ.env.kindOf x = some .globalImplicit) (e : nsIn (KF Γ.w) mainGlobals x = some (some v)) (hd : rdK (KF Γ.w) k v = some d)
    (hdb : autoParam ((x == ("__debug__" : Str)) = false) aD) : Ep Γ loc led (.Name x pos) (.d d) := fun s Q E S h =>
  Ev.glob O hx e hdb s Q E S fun v' s' S' le r => h v' s' S' le (by cases r; exact rdK_reads (fun a o e => vis_K O S' e) k v d hd)
theorem As.weak {t : Expr} {v : V} (h : As Γ loc led t v loc1) (hw : ∀ x v, loc2.lookup x = some v → loc1.lookup x = some v) : As Γ loc led t v loc2 := fun s v' Q E S r k => h s v' Q E S r fun s' S' le => k s' (S'.weak hw) le
theorem As.tupI (O : Ok n Γ) (l : Lay Γ xs) (i j : Nat) {a b : Str} {pa pb pos : Pos} {k : Nat} {x y : PyData} (hi : autoParam (xs[i]? = some a) aR) (hj : autoParam (xs[j]? = some b) aR) : As Γ (mk xs vs) led (.Tuple [.Name a pa, .Name b pb] k pos) (.d (.tuple [x, y])) (mk xs ((vs.set i (some (.d x))).set j (some (.d y)))) :=
  (As.tup2 O (l.st (List.mem_of_getElem? hi)) (l.st (List.mem_of_getElem? hj))).weak fun z u e => by
    have e1 := put_mk (vs := vs.set i (some (.d x))) (v := .d y) l.nd hj z u e
    rw [put_lookup] at e1 ⊢
    by_cases q : z = b
    · rw [if_pos q] at e1 ⊢; exact e1
    · rw [if_neg q] at e1 ⊢; exact put_mk l.nd hi z u e1
theorem Ex.forGI (O : Ok n Γ) {t : Expr} {pos : Pos} {iter : Expr} {body b : List Stmt} {its : List V} (σ : Nat → List (Option V)) (τ : Nat → Led) (hx : SrcG Γ t (mk xs vs) led iter its (mk xs (σ 0)) (τ 0))
    (ht : ∀ (k : Nat) z, its[k]? = some z → ∃ loc1, As Γ (mk xs (σ k)) (τ k) t z loc1 ∧ Ex Γ loc1 (τ k) body (.next (mk xs (σ (k + 1))) (τ (k + 1))))
    (h2 : Ex Γ (mk xs (σ its.length)) (τ its.length) b o) (hs : autoParam (∀ x, foldedSetIterable iter Γ.env x = pure x) aI) : Ex Γ (mk xs vs) led (.For t iter body [] pos :: b) o := by
  have T := Turns.fold (Γ := Γ) (t := t) (body := body) (fun k => mk xs (σ k)) τ its 0 (by simpa using ht)
  rw [Nat.zero_add] at T
  exact Ex.cons (Ex1.forG (o := .next (mk xs (σ its.length)) (τ its.length)) O hx T (Ex.nil (Γ := Γ)) hs) h2
theorem Ex1.ifT' {t : Expr} {b e : List Stmt} {pos : Pos} {c : Bool} (hc : c = true) (h1 : Bt Γ loc led t c loc1 led1) (h2 : Ex Γ loc1 led1 b o) : Ex1 Γ loc led (.If t b e pos) o := Ex1.ifT (hc ▸ h1) h2
theorem Ex1.ifF' {t : Expr} {b e : List Stmt} {pos : Pos} {c : Bool} (hc : c = false) (h1 : Bt Γ loc led t c loc1 led1) (h2 : Ex Γ loc1 led1 e o) : Ex1 Γ loc led (.If t b e pos) o := Ex1.ifF (hc ▸ h1) h2
theorem Turns.search {α : Type} {t : Expr} {body : List Stmt} (f : α → V) (c : α → Bool) (lb : Loc) (B : α → Led) (row : List α) (h : ∀ x ∈ row, ∃ loc1, As Γ loc led t (f x) loc1 ∧ Ex Γ loc1 led body (if c x = true then .brk lb (B x) else .next loc led)) :
    Turns Γ t body (row.map f) loc led (match row.find? c with | some x => .brk lb (B x) | none => .next loc led) := by
  induction row with
  | nil => rfl
  | cons x r ih =>
    refine (h x (.head _)).elim fun loc1 hB => ⟨loc1, _, hB.1, hB.2, ?_⟩
    by_cases q : c x = true
    · simp only [q, if_true, List.find?_cons_of_pos]
    · simp only [q, if_false]
      rw [List.find?_cons_of_neg q]
      exact ih fun y hy => h y (.tail _ hy)
theorem Ex.forSearch (O : Ok n Γ) {α : Type} {t iter : Expr} {body orelse rest : List Stmt} {pos : Pos} {y : V} (f : α → V) (c : α → Bool) (lb : Loc) (B : α → Led) (row : List α) (h1 : Ep Γ loc led iter y) (hx : Src y (row.map f))
    (h : ∀ x ∈ row, ∃ loc1, As Γ loc led t (f x) loc1 ∧ Ex Γ loc1 led body (if c x = true then .brk lb (B x) else .next loc led))
    (hF : ∀ x, row.find? c = some x → Ex Γ lb (B x) rest o) (hN : row.find? c = none → ∃ loc2 led2, Ex Γ loc led orelse (.next loc2 led2) ∧ Ex Γ loc2 led2 rest o) (hs : autoParam (∀ x, foldedSetIterable iter Γ.env x = pure x) aI) : Ex Γ loc led (.For t iter body orelse pos :: rest) o := by
  have T := Turns.search (Γ := Γ) f c lb B row h
  cases q : row.find? c with
  | some x =>
    rw [q] at T
    exact Ex.cons (Ex1.for_ (o := .brk lb (B x)) O h1 hx T rfl hs) (hF x q)
  | none =>
    refine aside fun zk => ?_
    rw [q] at T
    obtain ⟨loc2, led2, e1, e2⟩ := hN q
    apply zk
    exact Ex.cons (Ex1.for_ (o := .next loc led) O h1 hx T e1 hs) e2
theorem Ex.forSearchI (O : Ok n Γ) (l : Lay Γ xs) {α : Type} {t iter : Expr} {body orelse rest : List Stmt} {pos : Pos} {y : V} (f : α → V) (c : α → Bool) (vb : List (Option V)) (B : α → Led) (row : List α) (h1 : Ep Γ (mk xs vs) led iter y) (hx : Src y (row.map f))
    (h : ∀ x ∈ row, ∃ loc1, As Γ (mk xs vs) led t (f x) loc1 ∧ Ex Γ loc1 led body (if c x = true then .brk (mk xs vb) (B x) else .next (mk xs vs) led))
    (hF : ∀ x, row.find? c = some x → Ex Γ (mk xs vb) (B x) rest o) (hN : row.find? c = none → ∃ vn led2, Ex Γ (mk xs vs) led orelse (.next (mk xs vn) led2) ∧ Ex Γ (mk xs vn) led2 rest o) (hs : autoParam (∀ x, foldedSetIterable iter Γ.env x = pure x) aI) : Ex Γ (mk xs vs) led (.For t iter body orelse pos :: rest) o :=
  Ex.forSearch O f c (mk xs vb) B row h1 hx h hF (fun q => let ⟨vn, led2, a, b⟩ := hN q; ⟨_, led2, a, b⟩) hs
theorem Turns.searchR {α : Type} {t : Expr} {body : List Stmt} (f : α → V) (c : α → Bool) (v : α → V) (lb : Loc) (lr : Led) (row : List α) (h : ∀ x ∈ row, ∃ loc1, As Γ loc led t (f x) loc1 ∧ Ex Γ loc1 led body (if c x = true then .ret (v x) lb lr else .next loc led)) :
    Turns Γ t body (row.map f) loc led (match row.find? c with | some x => .ret (v x) lb lr | none => .next loc led) := by
  induction row with
  | nil => rfl
  | cons x r ih =>
    refine (h x (.head _)).elim fun loc1 hB => ⟨loc1, _, hB.1, hB.2, ?_⟩
    by_cases q : c x = true
    · simp only [q, if_true, List.find?_cons_of_pos]
    · simp only [q, if_false]
      rw [List.find?_cons_of_neg q]
      exact ih fun y hy => h y (.tail _ hy)
theorem Ex.forSearchR (O : Ok n Γ) {α : Type} {t iter : Expr} {body rest : List Stmt} {pos : Pos} (f : α → V) (c : α → Bool) (v : α → V) (row : List α) {u : V} {lb : Loc} {lr : Led} (hx : SrcG Γ t loc led iter (row.map f) loc led)
    (h : ∀ x ∈ row, ∃ loc1, As Γ loc led t (f x) loc1 ∧ Ex Γ loc1 led body (if c x = true then .ret (v x) lb lr else .next loc led))
    (hF : ∀ x, row.find? c = some x → v x = u) (hN : row.find? c = none → Ex Γ loc led rest (.ret u lb lr)) (hs : autoParam (∀ x, foldedSetIterable iter Γ.env x = pure x) aI) : Ex Γ loc led (.For t iter body [] pos :: rest) (.ret u lb lr) := by
  have T := Turns.searchR (Γ := Γ) f c v lb lr row h
  cases q : row.find? c with
  | some x =>
    rw [q] at T
    have T : Turns Γ t body (row.map f) loc led (.ret (v x) lb lr) := T
    rw [hF x q] at T
    exact Ex.ret (Ex1.forG (o := .ret u lb lr) O hx T rfl hs)
  | none =>
    rw [q] at T
    exact Ex.cons (Ex1.forG (o := .next loc led) O hx T Ex.nil hs) (hN q)
theorem Ex.forSearchR1 (O : Ok n Γ) {α : Type} {t iter : Expr} {body rest : List Stmt} {pos : Pos} {y : V} (f : α → V) (c : α → Bool) (v : α → V) (row : List α) {u : V} {lb : Loc} {lr : Led} (h1 : Ep Γ loc led iter y) (hx : Src y (row.map f))
    (h : ∀ x ∈ row, ∃ loc1, As Γ loc led t (f x) loc1 ∧ Ex Γ loc1 led body (if c x = true then .ret (v x) lb lr else .next loc led))
    (hF : ∀ x, row.find? c = some x → v x = u) (hN : row.find? c = none → Ex Γ loc led rest (.ret u lb lr)) (hs : autoParam (∀ x, foldedSetIterable iter Γ.env x = pure x) aI) : Ex Γ loc led (.For t iter body [] pos :: rest) (.ret u lb lr) := by
  have T := Turns.searchR (Γ := Γ) f c v lb lr row h
  cases q : row.find? c with
  | some x =>
    rw [q] at T
    have T : Turns Γ t body (row.map f) loc led (.ret (v x) lb lr) := T
    rw [hF x q] at T
    exact Ex.ret (Ex1.for_ (o := .ret u lb lr) O h1 hx T rfl hs)
  | none =>
    rw [q] at T
    exact Ex.cons (Ex1.for_ (o := .next loc led) O h1 hx T Ex.nil hs) (hN q)
end
end
section
section
variable {n : Nat} {Γ : Cx} {loc : Loc} {led : Led} {xs : List Str} {vs : List (Option V)} {p : Pos}
theorem Ex.brkI (l : Lay Γ xs) {vs' : List (Option V)} {pos : Pos} {b : List Stmt} (h : Less vs' vs) : Ex Γ (mk xs vs) led (.Break pos :: b) (.brk (mk xs vs') led) :=
  Ex.brk fun s Q E S k => Ex1.brk s Q E (S.weak (mk_less l.nd h.get)) k
noncomputable def ch (c : Nat) : PyData := .str ⟨#[c]⟩
noncomputable def tbl : List (List (Int × Nat)) := [[(40960, 108), (49152, 115), (32768, 45), (24576, 98), (16384, 100), (8192, 99), (4096, 112)], [(256, 114)], [(128, 119)], [(2112, 115), (2048, 83), (64, 120)], [(32, 114)], [(16, 119)], [(1032, 115), (1024, 83), (8, 120)], [(4, 114)], [(2, 119)], [(513, 116), (512, 84), (1, 120)]]
noncomputable def rowD (r : List (Int × Nat)) : PyData := .tuple (r.map fun q => .tuple [.int q.1, ch q.2])
theorem nm_table (O : Ok n Γ) (hx : Γ.env.kindOf (Str.ofString "_filemode_table") = some .globalImplicit) : Ep Γ loc led (.Name (Str.ofString "_filemode_table") p) (.d (.tuple (tbl.map rowD))) :=
  Ev.globD O 5 hx (gl_filemode_table _) (by kernel_rfl)
end
noncomputable def hit (mode : Int) (i : Nat) (q : Int × Nat) : Bool := if i = 0 then Builtin.bitAnd mode 61440 == q.1 else Builtin.bitAnd mode q.1 == q.1
noncomputable def pick (mode : Int) (i : Nat) (row : List (Int × Nat)) : Nat := match row.find? (hit mode i) with
  | some q => q.2
  | none => if i = 0 then 63 else 45
noncomputable def permAt (mode : Int) (i : Nat) : Nat := pick mode i (tbl.getD i [])
noncomputable def permTo (mode : Int) (k : Nat) : List PyData := (List.range k).map fun i => ch (permAt mode i)
noncomputable def modeRow (mode : Int) : Str := Txt.join "" ((List.range 10).map fun i => (⟨#[permAt mode i]⟩ : Str))
theorem filemode_fs (mode : Int) : FS 2 123 [.d (.int mode)] (.d (.str (modeRow mode))) := by
  refine call_def1 (n := 1) ["mode"] ["perm", "index", "table", "bit", "char"] (fun w => by exact rfl) (fun w => by kernel_rfl) (by exact bind1 fun _ _ => BindsTo.of_eq rfl) rfl (by decide) rfl (fun C L => ⟨by decide, by decide, rfl, rfl⟩) fun C L O l => ?_
  refine Ex.newI O l 1 (EvN.lst Es.nil .nil) fun a => ?_
  refine Ex.forGI O (fun _ => [some (.d (.int mode)), some (.raw (.ref a)), none, none, none, none]) (fun i => [(a, lstO (permTo mode i))]) (srcG_enumT O (nm_b_enumerate O rfl) (Es.cons (nm_table O rfl) Es.nil)) ?_ ?_
  · intro k z hz
    have hk : k < (tbl.map rowD).length := by
      have := (List.getElem?_eq_some_iff.mp hz).1
      simpa [pairsFrom] using this
    rw [pairs_get hk] at hz
    cases hz
    refine ⟨_, As.tupI O l 2 3, ?_⟩
    have hr : (tbl.map rowD)[k] = rowD (tbl.getD k []) := by
      rw [List.getElem_map, List.getD_eq_getElem?_getD, List.getElem?_eq_getElem (by simpa using hk)]; rfl
    rw [hr]
    have hk10 : k < 10 := hk
    have hz : (permTo mode k).length ≤ sizeLine := by simp only [permTo, List.length_map, List.length_range, big]; lia
    have hs : permTo mode (k + 1) = permTo mode k ++ [ch (permAt mode k)] := by simp [permTo, List.range_succ]
    rw [hs]
    refine Ex.less l (vs' := [some (.d (.int mode)), some (.raw (.ref a)), some (.d (.int k)), some (.d (rowD (tbl.getD k []))), none, none]) (by repeat first | exact Less.nil | refine Less.skip ?_ | refine Less.same ?_) ?_
    refine Ex.forSearchI O l (fun q : Int × Nat => V.d (.tuple [.int q.1, ch q.2])) (hit mode k) [some (.d (.int mode)), some (.raw (.ref a)), some (.d (.int k)), none, none, none] (fun q => [(a, lstO (permTo mode k ++ [ch q.2]))]) (tbl.getD k []) (Ev.nm O l 3) ?_ ?_ ?_ ?_
    · have := src_tuple (xs := (tbl.getD k []).map fun q => PyData.tuple [.int q.1, ch q.2])
      rw [List.map_map] at this
      exact this
    · intro q hq
      refine ⟨_, As.tupI O l 4 5, ?_⟩
      by_cases k0 : k = 0
      · subst k0
        by_cases hc : hit mode 0 q = true
        · rw [if_pos hc]
          have hc' : Builtin.bitAnd mode 61440 == q.1 := by simpa [hit] using hc
          have e0 : ((((0 : Nat) : Int)) == 0) = true := rfl
          refine Ex.brk (Ex1.ifT' e0 (Bt.cmp O (Ev.nm O l 2) Ev.int (by first | with_reducible exact eq_ii | with_reducible exact eq_ss)) (Ex.brk (Ex1.ifT' hc' (Bt.cmp O (Ev.callP O (nmS_IFMT O rfl) (kpS_IFMT _) (Es.cons (Ev.nm O l 0) Es.nil) (s_ifmt mode)) (Ev.nm O l 4) eq_ii) ?_)))
          refine Ex.cons (Ex1.expr (v := .d .none) (Ev.meth (led2 := []) O (Ev.nm O l 1) (gm_lst F.slot_list_append F.type_list_append F.plainAttrs_list (.head _)) (Es.cons (Ev.nm O l 5) Es.nil) (append_op hz)) rfl rfl) ?_
          exact Ex.brkI l (by repeat first | exact Less.nil | refine Less.skip ?_ | refine Less.same ?_)
        · rw [if_neg hc]
          have hc' : (Builtin.bitAnd mode 61440 == q.1) = false := by simpa [hit] using hc
          have e0 : ((((0 : Nat) : Int)) == 0) = true := rfl
          refine Ex.cons (Ex1.ifT' e0 (Bt.cmp O (Ev.nm O l 2) Ev.int (by first | with_reducible exact eq_ii | with_reducible exact eq_ss)) (Ex.cons (Ex1.ifF' hc' (Bt.cmp O (Ev.callP O (nmS_IFMT O rfl) (kpS_IFMT _) (Es.cons (Ev.nm O l 0) Es.nil) (s_ifmt mode)) (Ev.nm O l 4) eq_ii) Ex.nil) (Ex.done l (by repeat first | exact Less.nil | refine Less.skip ?_ | refine Less.same ?_)))) Ex.nil
      · have e0 : (((k : Nat) : Int) == 0) = false := by simpa using k0
        by_cases hc : hit mode k q = true
        · rw [if_pos hc]
          have hc' : (Builtin.bitAnd mode q.1 == q.1) = true := by simpa [hit, k0] using hc
          refine Ex.brk (Ex1.ifF' e0 (Bt.cmp O (Ev.nm O l 2) Ev.int (by first | with_reducible exact eq_ii | with_reducible exact eq_ss)) (Ex.brk (Ex1.ifT' hc' (Bt.cmp O (Ev.bin O (Ev.nm O l 0) (Ev.nm O l 4) (by with_reducible exact and_ii)) (Ev.nm O l 4) (by first | with_reducible exact eq_ii | with_reducible exact eq_ss)) ?_)))
          refine Ex.cons (Ex1.expr (v := .d .none) (Ev.meth (led2 := []) O (Ev.nm O l 1) (gm_lst F.slot_list_append F.type_list_append F.plainAttrs_list (.head _)) (Es.cons (Ev.nm O l 5) Es.nil) (append_op hz)) rfl rfl) ?_
          exact Ex.brkI l (by repeat first | exact Less.nil | refine Less.skip ?_ | refine Less.same ?_)
        · rw [if_neg hc]
          have hc' : (Builtin.bitAnd mode q.1 == q.1) = false := by simpa [hit, k0] using hc
          refine Ex.cons (Ex1.ifF' e0 (Bt.cmp O (Ev.nm O l 2) Ev.int (by first | with_reducible exact eq_ii | with_reducible exact eq_ss)) (Ex.cons (Ex1.ifF' hc' (Bt.cmp O (Ev.bin O (Ev.nm O l 0) (Ev.nm O l 4) (by with_reducible exact and_ii)) (Ev.nm O l 4) (by first | with_reducible exact eq_ii | with_reducible exact eq_ss)) Ex.nil) (Ex.done l (by repeat first | exact Less.nil | refine Less.skip ?_ | refine Less.same ?_)))) Ex.nil
    · intro q hq
      have : permAt mode k = q.2 := by unfold permAt pick; rw [hq]
      rw [this]
      exact Ex.done l (by repeat first | exact Less.nil | refine Less.skip ?_ | refine Less.same ?_)
    · intro hq
      refine ⟨[some (.d (.int mode)), some (.raw (.ref a)), none, none, none, none], _, ?_, Ex.done l (by repeat first | exact Less.nil | refine Less.skip ?_ | refine Less.same ?_)⟩
      by_cases k0 : k = 0
      · have e0 : (((k : Nat) : Int) == 0) = true := by simpa using k0
        have : permAt mode k = 63 := by unfold permAt pick; rw [hq]; simp [k0]
        rw [this]
        refine Ex.cons (Ex1.ifT' e0 (Bt.cmp O (Ev.nm O l 2) Ev.int (by first | with_reducible exact eq_ii | with_reducible exact eq_ss)) (Ex.cons (Ex1.expr (v := .d .none) (Ev.meth (led2 := []) O (Ev.nm O l 1) (gm_lst F.slot_list_append F.type_list_append F.plainAttrs_list (.head _)) (Es.cons Ev.str Es.nil) (append_op hz)) rfl rfl) (Ex.done l (by repeat first | exact Less.nil | refine Less.skip ?_ | refine Less.same ?_)))) Ex.nil
      · have e0 : (((k : Nat) : Int) == 0) = false := by simpa using k0
        have : permAt mode k = 45 := by unfold permAt pick; rw [hq]; simp [k0]
        rw [this]
        refine Ex.cons (Ex1.ifF' e0 (Bt.cmp O (Ev.nm O l 2) Ev.int (by first | with_reducible exact eq_ii | with_reducible exact eq_ss)) (Ex.cons (Ex1.expr (v := .d .none) (Ev.meth (led2 := []) O (Ev.nm O l 1) (gm_lst F.slot_list_append F.type_list_append F.plainAttrs_list (.head _)) (Es.cons Ev.str Es.nil) (append_op hz)) rfl rfl) (Ex.done l (by repeat first | exact Less.nil | refine Less.skip ?_ | refine Less.same ?_)))) Ex.nil
  · have e : permTo mode (pairsFrom (tbl.map rowD)).length = ((List.range 10).map fun i => (⟨#[permAt mode i]⟩ : Str)).map .str := by
      rw [List.map_map]; rfl
    rw [e]
    refine Ex.freezeI l 1 ?_
    refine Ex.retD (Ev.join (ys := (List.range 10).map fun i => (⟨#[permAt mode i]⟩ : Str)) O Ev.str (Ev.nm O l 1) ?_)
    exact (show 10 + 10 * 0 ≤ 16777216 by decide)
end
section
theorem nat_beq (a b : Nat) : (((a : Nat) : Int) == (b : Int)) = (a == b) := by
  by_cases q : a = b
  · subst q; rw [beq_self_eq_true, beq_self_eq_true]
  · have q' : (a : Int) ≠ (b : Int) := fun e => q (Int.ofNat.inj e)
    rw [beq_eq_false_iff_ne.mpr q, beq_eq_false_iff_ne.mpr q']
noncomputable def kinds (k : Int) : Int := ([1, 2, 4, 6, 8, 10, 12] : List Int).getD k.toNat 0
noncomputable def pN (m : Nat) (row : List (Nat × Nat)) : Nat := match row.find? (fun q => (m &&& q.1) == q.1) with
  | some q => q.2
  | none => 45
noncomputable def rowN (i : Nat) : List (Nat × Nat) := ([[], [(256, 114)], [(128, 119)], [(2112, 115), (2048, 83), (64, 120)], [(32, 114)], [(16, 119)], [(1032, 115), (1024, 83), (8, 120)], [(4, 114)], [(2, 119)], [(513, 116), (512, 84), (1, 120)]] : List (List (Nat × Nat))).getD i []
noncomputable def castR (row : List (Nat × Nat)) : List (Int × Nat) := row.map fun q => ((q.1 : Int), q.2)
theorem tbl_cast : ∀ i, i < 10 → 0 < i → tbl.getD i [] = castR (rowN i) := by decide
theorem pick_cast (m i : Nat) (hi : i ≠ 0) : ∀ row, pick (m : Int) i (castR row) = pN m row
  | [] => by show (if i = 0 then 63 else 45) = 45; rw [if_neg hi]
  | (a, c) :: rest => by
    have ih := pick_cast m i hi rest
    have e : hit (m : Int) i ((a : Int), c) = ((m &&& a) == a) := by
      unfold hit; rw [if_neg hi, bitAnd_pp (Int.natCast_nonneg _) (Int.natCast_nonneg _), Int.toNat_natCast, Int.toNat_natCast, nat_beq]
    unfold pick castR at ih ⊢
    unfold pN at ih ⊢
    rw [List.map_cons, List.find?_cons, List.find?_cons, e]
    cases (m &&& a) == a with
    | true => rfl
    | false => exact ih
theorem low_and (K r a : Nat) (hr : r < 4096) (ha : 4095 &&& a = a) : (K * 4096 + r) &&& a = r &&& a := by
  rw [← ha, ← Nat.and_assoc, ← Nat.and_assoc, show 4095 = 2 ^ 12 - 1 from rfl, Nat.and_two_pow_sub_one_eq_mod, Nat.and_two_pow_sub_one_eq_mod, show 2 ^ 12 = 4096 from rfl, Nat.mul_comm, Nat.mul_add_mod]
theorem pN_same (m m' : Nat) : ∀ row : List (Nat × Nat), (∀ q ∈ row, (m &&& q.1) = (m' &&& q.1)) → pN m row = pN m' row
  | [], _ => rfl
  | (a, c) :: rest, h => by
    have ih := pN_same m m' rest fun q hq => h q (.tail _ hq)
    have e : (m &&& a) = (m' &&& a) := h (a, c) (.head _)
    unfold pN at ih ⊢
    rw [List.find?_cons, List.find?_cons, e]
    cases (m' &&& a) == a with
    | true => rfl
    | false => exact ih
theorem rows_low : ∀ i, i < 10 → ∀ q ∈ rowN i, 4095 &&& q.1 = q.1 := by decide
theorem perm_low (K r i : Nat) (hr : r < 4096) (h0 : 0 < i) (h : i < 10) : permAt ((K * 4096 + r : Nat) : Int) i = pN r (rowN i) := by
  unfold permAt
  rw [tbl_cast i h h0, pick_cast _ _ (Nat.pos_iff_ne_zero.mp h0)]
  exact pN_same _ _ _ fun q hq => low_and K r q.1 hr (rows_low i h q hq)
theorem fdn (a b : Nat) : (a : Int).fdiv (b : Int) = ((a / b : Nat) : Int) := by
  rw [Int.fdiv_eq_ediv_of_nonneg _ (Int.natCast_nonneg _)]; rfl
theorem fmn (a b : Nat) : (a : Int).fmod (b : Int) = ((a % b : Nat) : Int) := by
  rw [Int.fmod_eq_emod_of_nonneg _ (Int.natCast_nonneg _)]; rfl
noncomputable def n1 (t : Nat) : Nat := ([64, 8, 1] : List Nat).getD t 0
noncomputable def n2 (t : Nat) : Nat := ([2048, 1024, 512] : List Nat).getD t 0
theorem dig_cast (r t : Nat) (ht : t < 3) : digitOf (r : Int) t = ((r / n1 t % 8 : Nat) : Int) ∧ (r : Int).fdiv (sh2 t) = ((r / n2 t : Nat) : Int) := by
  have h : ∀ t, t < 3 → sh1 t = ((n1 t : Nat) : Int) ∧ sh2 t = ((n2 t : Nat) : Int) := by decide
  unfold digitOf
  rw [(h t ht).1, (h t ht).2, fdn, fdn]
  exact ⟨fmn _ 8, rfl⟩
noncomputable def tripN (r t : Nat) : List Nat := [if Nat.blt 3 (r / n1 t % 8) then 114 else 45, if (r / n1 t % 8 / 2 % 2) == 1 then 119 else 45, (([[45, 120, 83, 115], [45, 120, 83, 115], [45, 120, 84, 116]] : List (List Nat)).getD t []).getD (r / n1 t % 8 % 2 + 2 * (r / n2 t % 2)) 0]
theorem trip_cast (r t : Nat) (ht : t < 3) : tripC (r : Int) t = ⟨(tripN r t).toArray⟩ := by
  obtain ⟨e1, e2⟩ := dig_cast r t ht
  unfold tripC lastOf lastC tripN
  rw [e1, e2, show (2 : Int) = ((2 : Nat) : Int) from rfl, fdn, fmn, fmn, fmn, show (1 : Int) = ((1 : Nat) : Int) from rfl, nat_beq]
  have e : (3 < ((r / n1 t % 8 : Nat) : Int)) = (Nat.blt 3 (r / n1 t % 8) = true) := propext ⟨fun h => Nat.ble_eq.mpr (Int.ofNat_lt.mp h), fun h => Int.ofNat_lt.mpr (Nat.ble_eq.mp h)⟩
  simp only [e]
  rfl
noncomputable def mskN (t : Nat) : Nat := ([2496, 1080, 519] : List Nat).getD t 0
theorem rows_msk : ∀ t, t < 3 → ∀ j, j < 3 → ∀ q ∈ rowN (3 * t + 1 + j), mskN t &&& q.1 = q.1 := by decide
theorem divmod_msk (r M a k : Nat) (h : M / 2 ^ a % 2 ^ k = 2 ^ k - 1) : (r &&& M) / 2 ^ a % 2 ^ k = r / 2 ^ a % 2 ^ k := by
  rw [Nat.and_div_two_pow, Nat.and_mod_two_pow, h, Nat.and_two_pow_sub_one_eq_mod, Nat.mod_mod]
theorem trip_msk (r t : Nat) (ht : t < 3) : tripN (r &&& mskN t) t = tripN r t := by
  have h : ∀ t, t < 3 → n1 t = 2 ^ (6 - 3 * t) ∧ n2 t = 2 ^ (11 - t) ∧ mskN t / 2 ^ (6 - 3 * t) % 2 ^ 3 = 2 ^ 3 - 1 ∧ mskN t / 2 ^ (11 - t) % 2 ^ 1 = 2 ^ 1 - 1 := by decide
  obtain ⟨h1, h2, h3, h4⟩ := h t ht
  have e1 := divmod_msk r (mskN t) (6 - 3 * t) 3 h3
  have e2 := divmod_msk r (mskN t) (11 - t) 1 h4
  unfold tripN
  rw [h1, h2, show 8 = 2 ^ 3 from rfl, e1]
  rw [show (r &&& mskN t) / 2 ^ (11 - t) % 2 = r / 2 ^ (11 - t) % 2 from e2]
noncomputable def chkT (t y : Nat) : Bool := ([pN y (rowN (3 * t + 1)), pN y (rowN (3 * t + 2)), pN y (rowN (3 * t + 3))]) == tripN y t
theorem chk_all : ((List.range 4096).all fun y => (!Nat.beq (y &&& mskN 0) y || chkT 0 y) && (!Nat.beq (y &&& mskN 1) y || chkT 1 y) && (!Nat.beq (y &&& mskN 2) y || chkT 2 y)) = true := by kernel_rfl
theorem chk_t (t y : Nat) (ht : t < 3) (hy : y < 4096) (h : y &&& mskN t = y) : chkT t y = true := by
  have x := List.all_eq_true.mp chk_all y (List.mem_range.mpr hy)
  obtain ⟨x12, x3⟩ := Bool.and_eq_true_iff.mp x
  obtain ⟨x1, x2⟩ := Bool.and_eq_true_iff.mp x12
  match t, ht with
  | 0, _ => rw [h, Nat.beq_refl] at x1; exact x1
  | 1, _ => rw [h, Nat.beq_refl] at x2; exact x2
  | 2, _ => rw [h, Nat.beq_refl] at x3; exact x3
theorem trip_perm (K r t : Nat) (hr : r < 4096) (ht : t < 3) : (⟨#[permAt ((K * 4096 + r : Nat) : Int) (3 * t + 1), permAt ((K * 4096 + r : Nat) : Int) (3 * t + 2), permAt ((K * 4096 + r : Nat) : Int) (3 * t + 3)]⟩ : Str) = tripC (r : Int) t := by
  have g : ∀ j, j < 3 → pN r (rowN (3 * t + 1 + j)) = pN (r &&& mskN t) (rowN (3 * t + 1 + j)) := fun j hj => pN_same _ _ _ fun q hq => by
    rw [Nat.and_assoc, rows_msk t ht j hj q hq]
  have c := chk_t t (r &&& mskN t) ht (Nat.lt_of_le_of_lt Nat.and_le_left hr) (by rw [Nat.and_assoc, Nat.and_self])
  have e := eq_of_beq c
  rw [trip_msk r t ht] at e
  rw [perm_low K r _ hr (by lia) (by lia), perm_low K r _ hr (by lia) (by lia), perm_low K r _ hr (by lia) (by lia), trip_cast r t ht, ← e]
  have g0 := g 0 (by decide)
  have g1 := g 1 (by decide)
  have g2 := g 2 (by decide)
  exact congrArg Str.mk (by rw [← g0.symm, g1, g2])
noncomputable def kN (k : Nat) : Nat := ([1, 2, 4, 6, 8, 10, 12] : List Nat).getD k 0
theorem kind_pick (K r : Nat) (hr : r < 4096) (hK : K < 16) : Builtin.bitAnd ((K * 4096 + r : Nat) : Int) 61440 = ((K * 4096 : Nat) : Int) := by
  rw [bitAnd_pp (Int.natCast_nonneg _) (by decide), Int.toNat_natCast]
  refine congrArg Int.ofNat ?_
  show (K * 4096 + r) &&& 61440 = K * 4096
  have e := Nat.div_add_mod ((K * 4096 + r) &&& 61440) (2 ^ 12)
  rw [Nat.and_div_two_pow, Nat.and_mod_two_pow, show 61440 % 2 ^ 12 = 0 from rfl, Nat.and_zero, Nat.add_zero, show 61440 / 2 ^ 12 = 2 ^ 4 - 1 from rfl, Nat.and_two_pow_sub_one_eq_mod, show 2 ^ 12 = 4096 from rfl, Nat.mul_comm K 4096, Nat.mul_add_div (by decide), Nat.div_eq_of_lt hr, Nat.add_zero, Nat.mod_eq_of_lt hK] at e
  rw [Nat.mul_comm K 4096]
  exact e.symm
noncomputable def pick0 (x : Int) : Nat := match (tbl.getD 0 []).find? fun q => x == q.1 with
  | some q => q.2
  | none => 63
theorem perm0 {m x : Int} (h : Builtin.bitAnd m 61440 = x) : permAt m 0 = pick0 x := by
  have e : hit m 0 = fun q => x == q.1 := by funext q; unfold hit; rw [if_pos rfl, h]
  unfold permAt pick pick0
  rw [e]
  rfl
theorem modeRow_eq (mode : Int) : modeRow mode = ⟨#[permAt mode 0, permAt mode 1, permAt mode 2, permAt mode 3, permAt mode 4, permAt mode 5, permAt mode 6, permAt mode 7, permAt mode 8, permAt mode 9]⟩ := rfl
theorem mode_row (k r : Int) (h0 : 0 ≤ k) (h7 : k < 7) (hr0 : 0 ≤ r) (hr : r < 4096) : modeRow (kinds k * 4096 + r) = rowTo k r 3 := by
  obtain ⟨r, rfl⟩ := Int.eq_ofNat_of_zero_le hr0
  obtain ⟨k, rfl⟩ := Int.eq_ofNat_of_zero_le h0
  have hr : r < 4096 := Int.ofNat_lt.mp hr
  have hk : k < 7 := Int.ofNat_lt.mp h7
  have h : ∀ k, k < 7 → kinds ((k : Nat) : Int) = ((kN k : Nat) : Int) ∧ kN k < 16 ∧ (⟨#[pick0 ((kN k * 4096 : Nat) : Int)]⟩ : Str) = kindC ((k : Nat) : Int) := by decide
  obtain ⟨e1, e2, e3⟩ := h k hk
  have em : (kN k : Int) * 4096 + (r : Int) = ((kN k * 4096 + r : Nat) : Int) := rfl
  have p0 := perm0 (kind_pick (kN k) r hr e2)
  have t0 := trip_perm (kN k) r 0 hr (by decide)
  have t1 := trip_perm (kN k) r 1 hr (by decide)
  have t2 := trip_perm (kN k) r 2 hr (by decide)
  rw [e1, em, modeRow_eq, p0]
  show _ = kindC _ ++ tripC _ 0 ++ tripC _ 1 ++ tripC _ 2
  rw [← e3, ← t0, ← t1, ← t2]
  rfl
end
section
structure LayR (xs : List Str) : Prop where
  nd : xs.Nodup
  dbg : (xs.all fun x => !(x == ("__debug__" : Str)) && !(x == ("__classdict__" : Str))) = true
section
variable {n : Nat} {Γ : Cx} {loc loc' loc1 loc2 : Loc} {led led' led1 led2 : Led} {s : Shared} {xs us : List Str} {vs uvs : List (Option V)} {o : Out}
theorem Ev.nmR (O : Ok n Γ) (l : LayR xs) (i : Nat) {x : Str} {v : V} {pos : Pos} (h1 : autoParam (xs[i]? = some x) aR) (h2 : autoParam (vs[i]? = some (some v)) aR) : Ep Γ (mk xs vs) led (.Name x pos) v := by
  have := List.all_eq_true.mp l.dbg x (List.mem_of_getElem? h1)
  simp only [Bool.and_eq_true, Bool.not_eq_true'] at this
  exact Ev.name O (mk_lookup l.nd h1 h2) this.1 this.2
theorem mk_cons_lookup {y : Str} {x : V} (z : Str) : (mk (y :: us) (some x :: uvs)).lookup z = if z = y then some x else (mk us uvs).lookup z := by
  show List.lookup z ((y, x) :: mk us uvs) = _
  by_cases q : z = y
  · subst q; simp
  · rw [List.lookup_cons, beq_eq_false_iff_ne.mpr q, if_neg q]
theorem mk_notin {y : Str} (h : y ∉ us) : (mk us uvs).lookup y = none := by
  cases e : (mk us uvs).lookup y with
  | none => rfl
  | some v =>
    obtain ⟨i, e1, _⟩ := mk_mem (mem_of_lookup e)
    exact absurd (List.mem_of_getElem? e1) h
theorem cstep (O : Ok n Γ) {y : Str} {p : Pos} {x : V} {elt : Expr} {z : PyData} (l : LayR (y :: us)) (hy : Γ.env.kindOf y = some .local) (h : Ep Γ (mk (y :: us) (some x :: uvs)) led elt (.d z)) : CStep Γ (mk us uvs) led (.Name y p) [] elt x (some z) := by
  refine ⟨mk (y :: us) (some x :: uvs), (As.name O (.inl hy)).weak fun a u e => ?_, fun a u e => ?_, .inl rfl, h⟩
  · rw [put_lookup]; rw [mk_cons_lookup] at e; exact e
  · rw [mk_cons_lookup]
    have := (List.nodup_cons.mp l.nd).1
    rw [if_neg (fun q => by rw [q, mk_notin this] at e; cases e)]
    exact e
theorem cstepIf (O : Ok n Γ) {y : Str} {p : Pos} {x : V} {c elt : Expr} {z : PyData} {b : Bool} (l : LayR (y :: us)) (hy : Γ.env.kindOf y = some .local) (hc : Bt Γ (mk (y :: us) (some x :: uvs)) led c b (mk (y :: us) (some x :: uvs)) led) (h : Ep Γ (mk (y :: us) (some x :: uvs)) led elt (.d z)) : CStep Γ (mk us uvs) led (.Name y p) [c] elt x (if b = true then some z else none) := by
  refine ⟨mk (y :: us) (some x :: uvs), (As.name O (.inl hy)).weak fun a u e => ?_, fun a u e => ?_, ?_⟩
  · rw [put_lookup]; rw [mk_cons_lookup] at e; exact e
  · rw [mk_cons_lookup]
    have := (List.nodup_cons.mp l.nd).1
    rw [if_neg (fun q => by rw [q, mk_notin this] at e; cases e)]
    exact e
  · cases b with
    | true => exact ⟨.inr ⟨c, rfl, hc⟩, h⟩
    | false => exact ⟨c, rfl, hc⟩
theorem cstep2 (O : Ok n Γ) {a b : Str} {pa pb pos : Pos} {k : Nat} {x y : PyData} {elt : Expr} {z : PyData} (l : LayR (a :: b :: us)) (ha : Γ.env.kindOf a = some .local) (hb : Γ.env.kindOf b = some .local) (h : Ep Γ (mk (a :: b :: us) (some (.d x) :: some (.d y) :: uvs)) led elt (.d z)) : CStep Γ (mk us uvs) led (.Tuple [.Name a pa, .Name b pb] k pos) [] elt (.d (.tuple [x, y])) (some z) := by
  have n1 := List.nodup_cons.mp l.nd
  have n2 := List.nodup_cons.mp n1.2
  refine ⟨mk (a :: b :: us) (some (.d x) :: some (.d y) :: uvs), (As.tup2 O (.inl ha) (.inl hb)).weak fun c u e => ?_, fun c u e => ?_, .inl rfl, h⟩
  · rw [put_lookup, put_lookup]
    rw [mk_cons_lookup, mk_cons_lookup] at e
    by_cases q : c = a
    · rw [if_pos q] at e
      rw [if_neg (fun q' => n1.1 (by rw [← q, q']; exact .head _)), if_pos q]; exact e
    · rw [if_neg q] at e
      by_cases q' : c = b
      · rw [if_pos q'] at e ⊢; exact e
      · rw [if_neg q'] at e; rw [if_neg q', if_neg q]; exact e
  · rw [mk_cons_lookup, mk_cons_lookup]
    rw [if_neg (fun q => by rw [q, mk_notin (fun h => n1.1 (.tail _ h))] at e; cases e), if_neg (fun q => by rw [q, mk_notin n2.1] at e; cases e)]
    exact e
theorem Ev.compM (O : Ok n Γ) {α : Type} {elt t iter : Expr} {scope : Scope} {pos : Pos} {x : V} (row : List α) (f : α → V) (g : α → PyData) {cl : List (Str × Addr)} {locC : Loc}
    (h1 : Ev Γ loc led iter x loc1 led1) (hx : Src x (row.map f)) (K : CompOk Γ scope cl loc1 locC) (hz : row.length ≤ sizeLine)
    (step : ∀ C D fz, Ok n (Γ.comp scope cl C D fz) → ∀ a ∈ row, CStep (Γ.comp scope cl C D fz) locC led1 t [] elt (f a) (some (g a)))
    (hs : autoParam (∀ x, foldedSetIterable iter Γ.env x = pure x) aI) :
    Ev Γ loc led (.ListComp elt [⟨t, iter, [], 0⟩] scope pos) (.d (.list (row.map g))) loc1 led1 := by
  have := Ev.comp (pos := pos) (elt := elt) (t := t) (ifs := []) O (row.map fun a => some (g a)) h1 hx K (by simp) (by simpa using hz) (fun C D fz O' i y r hy hr => by
    rw [List.getElem?_map] at hy hr
    obtain ⟨a, e1, e2⟩ := Option.map_eq_some_iff.mp hy
    rw [e1] at hr
    cases hr; cases e2
    exact step C D fz O' a (List.mem_of_getElem? e1)) hs
  rw [List.filterMap_map, show (id ∘ fun a => some (g a)) = (fun a => some (g a)) from rfl] at this
  rw [← List.filterMap_eq_map]; exact this
theorem Ev.compF (O : Ok n Γ) {α : Type} {elt t iter c : Expr} {scope : Scope} {pos : Pos} {x : V} (row : List α) (f : α → V) (b : α → Bool) (g : α → PyData) {cl : List (Str × Addr)} {locC : Loc}
    (h1 : Ev Γ loc led iter x loc1 led1) (hx : Src x (row.map f)) (K : CompOk Γ scope cl loc1 locC) (hz : row.length ≤ sizeLine)
    (step : ∀ C D fz, Ok n (Γ.comp scope cl C D fz) → ∀ a ∈ row, CStep (Γ.comp scope cl C D fz) locC led1 t [c] elt (f a) (if b a = true then some (g a) else Option.none))
    (hs : autoParam (∀ x, foldedSetIterable iter Γ.env x = pure x) aI) :
    Ev Γ loc led (.ListComp elt [⟨t, iter, [c], 0⟩] scope pos) (.d (.list ((row.filter b).map g))) loc1 led1 := by
  have := Ev.comp (pos := pos) (elt := elt) (t := t) (ifs := [c]) O (row.map fun a => if b a = true then some (g a) else Option.none) h1 hx K (by simp) (by simpa using hz) (fun C D fz O' i y r hy hr => by
    rw [List.getElem?_map] at hy hr
    obtain ⟨a, e1, e2⟩ := Option.map_eq_some_iff.mp hy
    rw [e1] at hr
    cases hr; cases e2
    exact step C D fz O' a (List.mem_of_getElem? e1)) hs
  have e : ∀ row : List α, (row.map fun a => if b a = true then some (g a) else Option.none).filterMap id = (row.filter b).map g := by
    intro row
    induction row with
    | nil => rfl
    | cons a r ih =>
      by_cases q : b a = true
      · simp only [List.map_cons, q, if_true, List.filterMap_cons, id, List.filter_cons, ih]
      · simp only [List.map_cons, q, if_false, List.filterMap_cons, id, List.filter_cons, ih]; simp [ih]
  rw [e] at this; exact this
theorem Ex.whileI (O : Ok n Γ) (l : Lay Γ xs) {t : Expr} {body b : List Stmt} {pos : Pos} (σ : Nat → List (Option V)) (τ : Nat → Led) (k : Nat) (c : Nat → Bool) (ck : c k = false) (cj : ∀ j, j < k → c j = true)
    (hc : ∀ j, j ≤ k → Bt Γ (mk xs (σ j)) (τ j) t (c j) (mk xs (σ j)) (τ j)) (hb : ∀ j, j < k → Ex Γ (mk xs (σ j)) (τ j) body (.next (mk xs (σ (j + 1))) (τ (j + 1)))) (h2 : Ex Γ (mk xs (σ k)) (τ k) b o) : Ex Γ (mk xs (σ 0)) (τ 0) (.While t body [] pos :: b) o := by
  refine Ex.cons (Ex1.while_ (o' := .next (mk xs (σ k)) (τ k)) O (fun m loc led => ∃ j, j + m = k ∧ led = τ j ∧ loc = mk xs (σ j)) ?_ k ⟨0, by lia, rfl, rfl⟩) h2
  rintro m loc led ⟨j, hj, rfl, rfl⟩
  by_cases q : j = k
  · subst q
    exact .inl ⟨_, _, ck ▸ hc j (Nat.le_refl _), rfl⟩
  · have hlt : j < k := by lia
    exact .inr ⟨_, _, _, (cj j hlt) ▸ hc j (Nat.le_of_lt hlt), hb j hlt, m - 1, by lia, j + 1, by lia, rfl, rfl⟩
theorem Ev.subLast {pre post : Led} (O : Ok n Γ) {value slice : Expr} {pos : Pos} {a : Addr} {ds : List PyData} {d : PyData} (h1 : Ev Γ loc led value (.raw (.ref a)) loc1 led1) (h2 : Ev Γ loc1 led1 slice (.d (.int (-1))) loc2 (pre ++ (a, lstO ds) :: post)) (hz : ds.length ≤ sizeLine) (hx : ds.getLast? = some d)
    (hs : autoParam (∀ o i, ∃ ops, subscripted slice false o i = operate ops (getItem o i)) aE) : Ev Γ loc led (.Subscript value slice pos) (.d d) loc2 (pre ++ (a, lstO ds) :: post) := fun s Q E S h => by
  refine Subscript_ (h1 s _ E S fun u s1 S1 le1 ra => h2 s1 _ E S1 fun b s2 S2 le2 rb => ?_)
  refine aside fun zk => ?_
  cases ra
  obtain ⟨ops, e⟩ := hs (.ref a) b
  obtain ⟨t, rfl⟩ := rep_int rb
  obtain ⟨g1, g2, ob, g3, vals, k, as, c, r⟩ := S2.ld (a, lstO ds) (by simp)
  subst c
  have hn : ds ≠ [] := fun q => by rw [q] at hx; cases hx
  rw [List.getLast?_eq_getElem?] at hx
  obtain ⟨v, bs, hv, rv⟩ := readsAll_get r hx
  apply zk
  have len : vals.size = ds.length := by simpa using readsAll_length r
  have hp : 0 < ds.length := List.length_pos_iff.mpr hn
  refine tail_any ⟨_, g3, rfl⟩ PySem.slot_list_getitem.lookup (wpAny_getItem_list_neg ⟨_, g3, rfl, k, rfl⟩ (by decide) (by lia) (by decide) ?_ (h _ _ S2 (le1.trans le2) ⟨_, rv⟩)) e
  have : ((-1 : Int) + (vals.size : Nat)).toNat = ds.length - 1 := by lia
  rw [this]; simpa using hv
end
theorem nodup_lookup {β : Type} {l : List (Str × β)} (h : (l.map (·.1)).Nodup) (p : Str × β) (hp : p ∈ l) : l.lookup p.1 = some p.2 := by
  induction l with
  | nil => cases hp
  | cons q r ih =>
    have h := List.nodup_cons.mp h
    rw [List.lookup_cons]
    rcases List.mem_cons.mp hp with e | hp
    · subst e; rw [beq_self_eq_true]
    · rw [beq_eq_false_iff_ne.mpr fun e => h.1 (List.mem_map.mpr ⟨p, hp, e⟩)]
      exact ih h.2 hp
theorem map_eq_mem {α β : Type} {f g : α → β} {l : List α} (e : l.map f = l.map g) (x : α) (h : x ∈ l) : f x = g x := by
  obtain ⟨i, hi, rfl⟩ := List.mem_iff_getElem.mp h
  have := congrArg (·[i]?) e
  simpa [hi] using this
theorem compOk {Γ : Cx} {scope : Scope} {cl : List (Str × Addr)} {xs : List Str} {vs : List (Option V)} (us : List Str) (uvs : List (Option V)) (clos : closureFor scope Γ.env = pure cl) (cell : (scope.names.all fun y => !(y.2 == NameKind.cell)) = true) (kind : scope.kind = .function)
    (names : (scope.names.all fun y => !(y.2 == NameKind.local) || scope.names.lookup y.1 == some .local) = true) (hcl : cl.map (fun p => Γ.env.cells.lookup p.1) = cl.map (fun p => some p.2)) (hn : (Γ.env.cells.map (·.1)).Nodup)
    (hv : us.map (fun x => (mk xs vs).lookup x) = uvs) (h1 : us.map (fun x => cl.lookup x) = us.map (fun x => Γ.env.cells.lookup x)) (h2 : (us.all fun x => (cl.lookup x).isSome) = true)
    (h3 : (us.all fun x => ((relabel scope Γ.env).names.lookup x == some .cell || (relabel scope Γ.env).names.lookup x == some .free) && (Γ.env.kindOf x == some .cell || Γ.env.kindOf x == some .free)) = true) : CompOk Γ scope cl (mk xs vs) (mk us uvs) := by
  refine ⟨clos, fun y hy q => ?_, kind, fun y hy q => ?_, map_eq_mem hcl, fun p hp => ?_, nodup_lookup hn⟩
  · have := List.all_eq_true.mp cell y hy; rw [q] at this; cases this
  · have := List.all_eq_true.mp names y hy
    rw [q] at this; simpa using this
  · obtain ⟨i, e1, e2⟩ := mk_mem hp
    rw [← hv, List.getElem?_map, e1] at e2
    have hm := List.mem_of_getElem? e1
    refine ⟨Option.some.inj e2, ?_⟩
    obtain ⟨a, ha⟩ := Option.isSome_iff_exists.mp (List.all_eq_true.mp h2 _ hm)
    have := List.all_eq_true.mp h3 _ hm
    simp only [Bool.and_eq_true, Bool.or_eq_true, beq_iff_eq] at this
    exact ⟨a, ha, by rw [← map_eq_mem h1 _ hm]; exact ha, this.1, this.2⟩
end
section
noncomputable def natI (l : List Nat) : List Int := l.map Int.ofNat
noncomputable def sq (l : List Nat) : List Nat := l.map fun p => l.getD p 0
noncomputable def sqs (st : List Nat) : Nat → List Nat
  | 0 => st
  | t + 1 => sq (sqs st t)
noncomputable def it (st : List Nat) : Nat → Nat → Nat
  | 0, b => b
  | j + 1, b => st.getD (it st j b) 0
structure Steps (st : List Nat) : Prop where
  len : st.length = 8
  lt : ∀ x ∈ st, x < 8
theorem Steps.get {st : List Nat} (h : Steps st) (i : Nat) : st.getD i 0 < 8 := by
  by_cases q : i < st.length
  · rw [List.getD_eq_getElem?_getD, List.getElem?_eq_getElem q]; exact h.lt _ (List.getElem_mem q)
  · rw [List.getD_eq_getElem?_getD, List.getElem?_eq_none (by lia)]; decide
theorem Steps.sq {st : List Nat} (h : Steps st) : Steps (sq st) := ⟨by rw [Mine.sq, List.length_map, h.len], fun x hx => by
  obtain ⟨p, _, rfl⟩ := List.mem_map.mp hx; exact h.get p⟩
theorem Steps.sqs {st : List Nat} (h : Steps st) : ∀ t, Steps (sqs st t)
  | 0 => h
  | t + 1 => (h.sqs t).sq
theorem Steps.it {st : List Nat} (h : Steps st) {b : Nat} (hb : b < 8) : ∀ j, it st j b < 8
  | 0 => hb
  | j + 1 => h.get _
theorem natI_get {l : List Nat} {i : Nat} (h : i < l.length) : ((natI l).map PyData.int)[((i : Nat) : Int).toNat]? = some (.int ((l.getD i 0 : Nat) : Int)) := by
  rw [Int.toNat_natCast, natI, List.map_map, List.getElem?_map, List.getD_eq_getElem?_getD, List.getElem?_eq_getElem h]; rfl
theorem src_nats {l : List Nat} : Src (.d (intsD (natI l))) (l.map fun p : Nat => V.d (.int (p : Int))) := by
  have := src_list (xs := (natI l).map .int)
  have e : ((natI l).map PyData.int).map V.d = l.map fun p : Nat => V.d (.int (p : Int)) := by rw [natI, List.map_map, List.map_map]; rfl
  rw [e] at this; exact this
theorem nat_any (l : List Nat) (a : Nat) : ((natI l).any (· == ((a : Nat) : Int))) = l.contains a := by
  induction l with
  | nil => rfl
  | cons x r ih =>
    show ((Int.ofNat x == ((a : Nat) : Int)) || (natI r).any _) = _
    rw [ih, List.contains_cons]
    congr 1
    by_cases q : x = a
    · subst q; simp
    · have : Int.ofNat x ≠ (a : Int) := fun e => q (Int.ofNat.inj e)
      rw [beq_eq_false_iff_ne.mpr this, beq_eq_false_iff_ne.mpr (Ne.symm q)]
theorem natI_range (f : Nat → Nat) (k : Nat) : (natI ((List.range (k + 1)).map f)).map PyData.int = (natI ((List.range k).map f)).map PyData.int ++ [.int ((f k : Nat) : Int)] := by
  simp [natI, List.range_succ]
theorem law_walked {st : List Nat} (hst : Steps st) {b k p : Nat} (hb : b < 8) (hk : it st k b ∈ sqs st 3) (hk' : ∀ j, j < k → it st j b ∉ sqs st 3) (hp : it st (p + 1) (it st k b) = it st k b) (hp' : ∀ j, j < p → it st (j + 1) (it st k b) ≠ it st k b) (hp8 : p < 8) :
    FS 1 269 [.d (intsD (natI st)), .d (.int b)] (.d (.tuple [intsD (natI ((List.range (p + 2)).map fun j => it st j (it st k b))), intsD (natI ((List.range 8).filter fun i => !(sqs st 3).contains i))])) := by
  refine call_def1 (n := 0) ["steps", "begin"] ["on_ring", "turn", "at", "ring"] (fun w => by exact rfl) (fun w => by kernel_rfl) (by exact bind2 fun _ _ _ => BindsTo.of_eq rfl) rfl (by decide) rfl (fun C L => ⟨by decide, by decide, rfl, rfl⟩) fun C L O l => ?_
  refine Ex.let_ O l 2 (Ev.nm O l 0) ?_
  refine Ex.forI O l 3 (fun t => [some (.d (intsD (natI st))), some (.d (.int b)), some (.d (intsD (natI (sqs st t)))), none, none, none]) (fun _ => []) (Ev.callP O (nm_b_range O rfl) keep_type (Es.cons Ev.int Es.nil) (by first | with_reducible exact range1 | exact range1)) (src_range (k := 3) (by decide)) ?_ ?_
  · intro t y hy
    obtain ⟨rfl, ht⟩ := upto_get hy
    have h8 := hst.sqs t
    refine Ex.let_ O l 2 (v := .d (intsD (natI (sqs st (t + 1))))) ?_ (Ex.done l (by repeat first | exact Less.nil | refine Less.skip ?_ | refine Less.same ?_))
    have e : intsD (natI (sqs st (t + 1))) = .list ((sqs st t).map fun p => .int ((sqs st t).getD p 0 : Nat)) := by
      show PyData.list (List.map PyData.int (List.map Int.ofNat (List.map _ _))) = _
      rw [List.map_map, List.map_map]; rfl
    rw [e]
    refine Ev.compM O (sqs st t) (fun p : Nat => V.d (.int p)) _ (Ev.nm O l 2) ?_ (compOk ["on_ring"] [some (.d (intsD (natI (sqs st t))))] rfl rfl rfl rfl rfl (of_decide_eq_true rfl) rfl rfl rfl rfl) ?_ ?_
    · exact src_nats
    · rw [h8.len]; decide
    · intro C D fz O' p hp
      have l' : LayR ["place", "on_ring"] := ⟨by decide, by decide⟩
      refine cstep O' l' rfl ?_
      refine Ev.sub O' (Ev.nmR O' l' 1) (Ev.nmR O' l' 0) item_list (get_li (by lia) ?_ (natI_get ?_))
      · simp only [natI, List.length_map, h8.len]; decide
      · rw [h8.len]; exact h8.lt p hp
  · have h3 := hst.sqs 3
    have z8 : ((natI st).map PyData.int).length ≤ sizeLine := by simp only [natI, List.length_map, hst.len]; decide
    refine Ex.let_ O l 4 (v := .d (.int ((it st 0 b : Nat) : Int))) (Ev.nm O l 1) ?_
    refine Ex.whileI O l (fun j => [some (.d (intsD (natI st))), some (.d (.int b)), some (.d (intsD (natI (sqs st 3)))), none, some (.d (.int ((it st j b : Nat) : Int))), none]) (fun _ => []) k (fun j => !(natI (sqs st 3)).any (· == ((it st j b : Nat) : Int))) (by rw [nat_any]; simpa using hk) (fun j hj => by rw [nat_any]; simpa using hk' j hj) (fun j _ => (Bt.cmp O (Ev.nm O l 4) (Ev.nm O l 2) (by first | with_reducible exact notIn_strs | with_reducible exact notIn_ints))) (fun j hj => ?_) ?_
    · exact Ex.let_ O l 4 (v := .d (.int ((it st (j + 1) b : Nat) : Int))) (Ev.sub O (Ev.nm O l 0) (Ev.nm O l 4) item_list (get_li (by lia) z8 (natI_get (by rw [hst.len]; exact hst.it hb j)))) Ex.nil
    · generalize ha : it st k b = a0 at *
      have ha8 : a0 < 8 := ha ▸ hst.it hb k
      have zr : ∀ j, j ≤ 9 → ((natI ((List.range j).map fun j => it st j a0)).map PyData.int).length ≤ sizeLine := fun j hj => by simp only [natI, List.length_map, List.length_range, big]; lia
      have la : ∀ j, ((natI ((List.range (j + 1)).map fun j => it st j a0)).map PyData.int).getLast? = some (.int ((it st j a0 : Nat) : Int)) := fun j => by rw [natI_range]; simp
      refine Ex.newI O l 5 (ds := (natI ((List.range 2).map fun j => it st j a0)).map .int) (EvN.lst (Es.cons (Ev.nm O l 4) (Es.cons (Ev.sub O (Ev.nm O l 0) (Ev.nm O l 4) item_list (get_li (by lia) z8 (natI_get (by rw [hst.len]; exact ha8)))) Es.nil)) (by repeat constructor)) fun a => ?_
      refine Ex.whileI O l (fun j => [some (.d (intsD (natI st))), some (.d (.int b)), some (.d (intsD (natI (sqs st 3)))), none, some (.d (.int (a0 : Int))), some (.raw (.ref a))]) (fun j => [(a, lstO ((natI ((List.range (j + 2)).map fun j => it st j a0)).map .int))]) p (fun j => ((it st (j + 1) a0 : Nat) : Int) != (a0 : Int)) (by rw [hp]; simp) (fun j hj => by simpa using fun e => hp' j hj (by lia)) (fun j hj => Bt.cmp O (Ev.subLast (pre := []) (post := []) O (Ev.nm O l 5) (Ev.neg O Ev.int) (zr _ (by lia)) (la (j + 1))) (Ev.nm O l 4) ne_ii) (fun j hj => ?_) ?_
      · rw [natI_range _ (j + 2)]
        refine Ex.cons (Ex1.expr (v := .d .none) (Ev.meth (led2 := []) O (Ev.nm O l 5) (gm_lst F.slot_list_append F.type_list_append F.plainAttrs_list (.head _)) (Es.cons (Ev.sub O (Ev.nm O l 0) (Ev.subLast (pre := []) (post := []) O (Ev.nm O l 5) (Ev.neg O Ev.int) (zr _ (by lia)) (la (j + 1))) item_list (get_li (by lia) z8 (natI_get (by rw [hst.len]; exact hst.it ha8 _)))) Es.nil) (append_op (zr _ (by lia)))) rfl rfl) Ex.nil
      · refine Ex.freezeI l 5 ?_
        have e : intsD (natI ((List.range 8).filter fun i => !(sqs st 3).contains i)) = .list (((List.range 8).filter fun i => !(sqs st 3).contains i).map fun p => .int (p : Nat)) := by
          show PyData.list (List.map PyData.int (List.map Int.ofNat _)) = _
          rw [List.map_map]; rfl
        rw [e]
        refine Ex.retD (Ev.tup (Es.cons (Ev.nm O l 5) (Es.cons (Ev.compF O (List.range 8) (fun p : Nat => V.d (.int (p : Int))) (fun i => !(sqs st 3).contains i) (fun p => .int (p : Nat)) (Ev.callP O (nm_b_range O rfl) keep_type (Es.cons Ev.int Es.nil) (by first | with_reducible exact range1 | exact range1)) ?_ (compOk ["on_ring"] [some (.d (intsD (natI (sqs st 3))))] rfl rfl rfl rfl rfl (of_decide_eq_true rfl) rfl rfl rfl rfl) (by decide) ?_) Es.nil)) (by repeat constructor))
        · exact src_range (k := 8) (by decide)
        · intro C D fz O' p hp
          have l' : LayR ["place", "on_ring"] := ⟨by decide, by decide⟩
          rw [← nat_any]
          exact cstepIf O' l' rfl (Bt.cmp O' (Ev.nmR O' l' 0) (Ev.nmR O' l' 1) (by first | with_reducible exact notIn_strs | with_reducible exact notIn_ints)) (Ev.nmR O' l' 0)
end
section
section
variable {n : Nat} {Γ : Cx} {loc loc' loc1 loc2 : Loc} {led led' led1 led2 : Led} {s : Shared} {xs us : List Str} {vs uvs : List (Option V)} {o : Out}
theorem Ex.letComp (O : Ok n Γ) (l : Lay Γ xs) (i : Nat) {α : Type} {elt t iter : Expr} {scope : Scope} {pos spos py : Pos} {y : Str} {b : List Stmt} {x : V} (row : List α) (f : α → V) (g : α → PyData) {cl : List (Str × Addr)} {locC : Loc}
    (h1 : Ev Γ (mk xs vs) led iter x (mk xs vs) led) (hx : Src x (row.map f)) (K : CompOk Γ scope cl (mk xs vs) locC) (hz : row.length ≤ sizeLine)
    (step : ∀ C D fz, Ok n (Γ.comp scope cl C D fz) → ∀ a ∈ row, CStep (Γ.comp scope cl C D fz) locC led t [] elt (f a) (some (g a)))
    (h2 : Ex Γ (mk xs (vs.set i (some (.d (.list (row.map g)))))) led b o) (hy : autoParam (Γ.env.kindOf y = some .local) aR) (hsw : autoParam (swapsWith (.ListComp elt [⟨t, iter, [], 0⟩] scope pos) (some (.Name y py)) spos.line Γ.env = pure true) aR)
    (hs : autoParam (∀ x, foldedSetIterable iter Γ.env x = pure x) aI) (hi : autoParam (xs[i]? = some y) aR) :
    Ex Γ (mk xs vs) led (.Assign [.Name y py] (.ListComp elt [⟨t, iter, [], 0⟩] scope pos) spos :: b) o := by
  have := Ex1.assignComp (pos := pos) (elt := elt) (t := t) (ifs := []) (py := py) (y := y) (spos := spos) O (row.map fun a => some (g a)) h1 hx K (by simp) (by simpa using hz) (fun C D fz O' i y r hy hr => by
    rw [List.getElem?_map] at hy hr
    obtain ⟨a, e1, e2⟩ := Option.map_eq_some_iff.mp hy
    rw [e1] at hr
    cases hr; cases e2
    exact step C D fz O' a (List.mem_of_getElem? e1)) hy hsw hs
  rw [List.filterMap_map, show (id ∘ fun a => some (g a)) = (fun a => some (g a)) from rfl, List.filterMap_eq_map'] at this
  exact Ex.cons this (h2.weak (put_mk l.nd hi))
theorem Ex.letCompF (O : Ok n Γ) (l : Lay Γ xs) (i : Nat) {α : Type} {elt t iter c : Expr} {scope : Scope} {pos spos py : Pos} {y : Str} {b : List Stmt} {x : V} (row : List α) (f : α → V) (p : α → Bool) (g : α → PyData) {cl : List (Str × Addr)} {locC : Loc}
    (h1 : Ev Γ (mk xs vs) led iter x (mk xs vs) led) (hx : Src x (row.map f)) (K : CompOk Γ scope cl (mk xs vs) locC) (hz : row.length ≤ sizeLine)
    (step : ∀ C D fz, Ok n (Γ.comp scope cl C D fz) → ∀ a ∈ row, CStep (Γ.comp scope cl C D fz) locC led t [c] elt (f a) (if p a = true then some (g a) else Option.none))
    (h2 : Ex Γ (mk xs (vs.set i (some (.d (.list ((row.filter p).map g)))))) led b o) (hy : autoParam (Γ.env.kindOf y = some .local) aR) (hsw : autoParam (swapsWith (.ListComp elt [⟨t, iter, [c], 0⟩] scope pos) (some (.Name y py)) spos.line Γ.env = pure true) aR)
    (hs : autoParam (∀ x, foldedSetIterable iter Γ.env x = pure x) aI) (hi : autoParam (xs[i]? = some y) aR) :
    Ex Γ (mk xs vs) led (.Assign [.Name y py] (.ListComp elt [⟨t, iter, [c], 0⟩] scope pos) spos :: b) o := by
  have := Ex1.assignComp (pos := pos) (elt := elt) (t := t) (ifs := [c]) (py := py) (y := y) (spos := spos) O (row.map fun a => if p a = true then some (g a) else Option.none) h1 hx K (by simp) (by simpa using hz) (fun C D fz O' i y r hy hr => by
    rw [List.getElem?_map] at hy hr
    obtain ⟨a, e1, e2⟩ := Option.map_eq_some_iff.mp hy
    rw [e1] at hr
    cases hr; cases e2
    exact step C D fz O' a (List.mem_of_getElem? e1)) hy hsw hs
  have e : ∀ row : List α, (row.map fun a => if p a = true then some (g a) else Option.none).filterMap id = (row.filter p).map g := by
    intro row
    induction row with
    | nil => rfl
    | cons a r ih =>
      by_cases q : p a = true
      · simp only [List.map_cons, q, if_true, List.filterMap_cons, id, List.filter_cons, ih]
      · simp only [List.map_cons, q, List.filterMap_cons, id, List.filter_cons, ih]; simp
  rw [e] at this
  exact Ex.cons this (h2.weak (put_mk l.nd hi))
theorem src_strs {l : List Str} : Src (.d (strsD l)) (l.map fun x => V.d (.str x)) := by
  have := src_list (xs := l.map .str)
  rw [List.map_map] at this; exact this
theorem src_rangeN {k : Nat} (hk : k ≤ 1000000) : Src (rangeV k) ((List.range k).map fun i : Nat => V.d (.int (i : Int))) := by
  have := src_range hk
  unfold upto at this
  rw [List.map_map] at this; exact this
end
end
section
noncomputable def leastI (ts : List Str) : Int := minI (ts.map fun t => (t.length : Int))
noncomputable def cAt (x : Str) (i : Nat) : Nat := x.cps.getD i 0
noncomputable def differ (ts : List Str) (c : Nat) : Bool := ts.any fun t => cAt t c != cAt (ts.headD "") c
noncomputable def sharedOf (ts : List Str) : Nat := ((List.range (leastI ts).toNat).find? (differ ts)).getD (leastI ts).toNat
theorem minI_le : ∀ (l : List Int), ∀ a ∈ l, minI l ≤ a
  | [], a, h => nomatch h
  | [x], a, h => by rw [List.mem_singleton.mp h]; exact Int.le_refl _
  | x :: y :: r, a, h => by
    show min x (minI (y :: r)) ≤ a
    rcases List.mem_cons.mp h with rfl | h
    · exact Int.min_le_left ..
    · exact Int.le_trans (Int.min_le_right ..) (minI_le (y :: r) a h)
theorem minI_mem : ∀ (l : List Int), l ≠ [] → minI l ∈ l
  | [], h => absurd rfl h
  | [x], _ => .head _
  | x :: y :: r, _ => by
    show min x (minI (y :: r)) ∈ _
    have := minI_mem (y :: r) (by simp)
    by_cases q : x ≤ minI (y :: r)
    · rw [Int.min_eq_left q]; exact .head _
    · rw [Int.min_eq_right (by lia)]; exact .tail _ this
theorem filt_any {α β : Type} (p : α → Bool) (g : α → β) : ∀ l : List α, (!((l.filter p).map g).isEmpty) = l.any p
  | [] => rfl
  | a :: r => by
    cases q : p a with
    | true => rw [List.filter_cons_of_pos q, List.any_cons, q]; rfl
    | false => rw [List.filter_cons_of_neg (by rw [q]; decide), List.any_cons, q, Bool.false_or]; exact filt_any p g r
theorem char_ne (a b : Nat) : ((⟨#[a]⟩ : Str) != ⟨#[b]⟩) = (a != b) := by
  by_cases q : a = b
  · subst q; simp
  · have q' : (⟨#[a]⟩ : Str) ≠ ⟨#[b]⟩ := fun e => q (by injection e with e; injection e with e; injection e)
    rw [bne_iff_ne.mpr q, bne_iff_ne.mpr q']
theorem law_shared (ts : List Str) (hne : ts ≠ []) (hl : ∀ t ∈ ts, t.length ≤ 100000) (hz : ts.length ≤ 1000) : FS 1 286 [.d (strsD ts)] (.d (.int (sharedOf ts))) := by
  refine call_def1 (n := 0) ["texts"] ["least", "count"] (fun w => by exact rfl) (fun w => by kernel_rfl) (by exact bind1 fun _ _ => BindsTo.of_eq rfl) rfl (by decide) rfl (fun C L => ⟨by decide, by decide, rfl, rfl⟩) fun C L O l => ?_
  have hp : 0 < ts.length := List.length_pos_iff.mpr hne
  have hz' : ts.length ≤ sizeLine := by rw [big]; lia
  have hmem : ∃ t ∈ ts, leastI ts = (t.length : Int) := by
    obtain ⟨t, h1, h2⟩ := List.mem_map.mp (minI_mem (ts.map fun t => (t.length : Int)) (by simpa using hne))
    exact ⟨t, h1, h2.symm⟩
  have hle : ∀ t ∈ ts, leastI ts ≤ (t.length : Int) := fun t ht => minI_le _ _ (List.mem_map_of_mem ht)
  obtain ⟨t0, ht0, e0⟩ := hmem
  have b0 := hl t0 ht0
  obtain ⟨m, hm⟩ : ∃ m : Nat, leastI ts = (m : Int) := ⟨_, e0⟩
  have hm' : (leastI ts).toNat = m := by lia
  refine Ex.let_ O l 1 (v := .d (.int (leastI ts))) (Ev.callP O (nm_b_min O rfl) keep_blt (Es.cons (Ev.compM O ts (fun x => V.d (.str x)) (fun t => .int (t.length : Int)) (Ev.nm O l 0) src_strs (compOk [] [] rfl rfl rfl rfl rfl (of_decide_eq_true rfl) rfl rfl rfl rfl) hz' ?_) Es.nil) ?_) ?_
  · intro C D fz O' t ht
    have l' : LayR ["text"] := ⟨by decide, by decide⟩
    have := hl t ht
    exact cstep O' l' rfl (Ev.callP O' (nm_b_len O' rfl) keep_blt (Es.cons (Ev.nmR O' l' 0) Es.nil) (len_s (by rw [big]; lia)))
  · have := min_ints (n := 0) (xs := ts.map fun t => (t.length : Int)) (by simpa using hp)
    unfold intsD at this
    rw [List.map_map] at this
    exact this
  rw [hm]
  refine Ex.forSearchR1 O (fun c : Nat => V.d (.int (c : Int))) (differ ts) (fun c => V.d (.int (c : Int))) (List.range m) (Ev.callP O (nm_b_range O rfl) keep_type (Es.cons (Ev.nm O l 1) Es.nil) (by first | with_reducible exact range1 | exact range1)) (src_rangeN (k := m) (by lia)) ?_ ?_ ?_
  · intro c hc
    have hc := List.mem_range.mp hc
    refine ⟨_, As.nm O l 2, ?_⟩
    have hd : (ts.headD "") ∈ ts := by cases ts with
      | nil => exact absurd rfl hne
      | cons a r => exact .head _
    have g0 : ∀ t ∈ ts, t.cps[((c : Nat) : Int).toNat]? = some (cAt t c) := fun t ht => by
      have h1 := hle t ht
      have h2 : c < t.cps.size := by have : t.length = t.cps.size := rfl; lia
      rw [Int.toNat_natCast, cAt, Array.getD_eq_getD_getElem?, Array.getElem?_eq_getElem h2]; rfl
    have zl : ∀ t ∈ ts, t.length ≤ sizeLine := fun t ht => by have := hl t ht; rw [big]; lia
    have hf : (ts.map PyData.str)[((0 : Int)).toNat]? = some (.str (ts.headD "")) := by cases ts with
      | nil => exact absurd rfl hne
      | cons a r => rfl
    have hc' : (!((ts.filter fun t => (⟨#[cAt t c]⟩ : Str) != ⟨#[cAt (ts.headD "") c]⟩).map PyData.str).isEmpty) = differ ts c := by
      rw [filt_any]; unfold differ; simp only [char_ne]
    have zf : ((ts.filter fun t => (⟨#[cAt t c]⟩ : Str) != ⟨#[cAt (ts.headD "") c]⟩).map PyData.str).length ≤ sizeLine := by
      rw [List.length_map]; exact Nat.le_trans (List.length_filter_le ..) hz'
    by_cases q : differ ts c = true
    · rw [if_pos q]
      refine Ex.ret (Ex1.ifT' (hc'.trans q) (Bt.of O (Ev.compF O ts (fun x => V.d (.str x)) (fun t => (⟨#[cAt t c]⟩ : Str) != ⟨#[cAt (ts.headD "") c]⟩) .str (Ev.nm O l 0) src_strs (compOk ["texts", "count"] [some (.d (strsD ts)), some (.d (.int (c : Int)))] rfl rfl rfl rfl rfl (of_decide_eq_true rfl) rfl rfl rfl rfl) hz' ?_) (tru_list ?_)) (Ex.retD (Ev.nm O l 2)))
      · intro C D fz O' t ht
        have l' : LayR ["text", "texts", "count"] := ⟨by decide, by decide⟩
        exact cstepIf O' l' rfl (Bt.cmp O' (Ev.sub O' (Ev.nmR O' l' 0) (Ev.nmR O' l' 2) item_str (get_si (by lia) (zl t ht) (g0 t ht))) (Ev.sub O' (Ev.sub O' (Ev.nmR O' l' 1) Ev.int item_list (get_li (by decide) (by simpa using hz') hf)) (Ev.nmR O' l' 2) item_str (get_si (by lia) (zl _ hd) (g0 _ hd))) ne_ss) (Ev.nmR O' l' 0)
      · exact zf
    · rw [if_neg q]
      refine Ex.cons (Ex1.ifF' (hc'.trans (by simpa using q)) (Bt.of O (Ev.compF O ts (fun x => V.d (.str x)) (fun t => (⟨#[cAt t c]⟩ : Str) != ⟨#[cAt (ts.headD "") c]⟩) .str (Ev.nm O l 0) src_strs (compOk ["texts", "count"] [some (.d (strsD ts)), some (.d (.int (c : Int)))] rfl rfl rfl rfl rfl (of_decide_eq_true rfl) rfl rfl rfl rfl) hz' ?_) (tru_list zf)) Ex.nil) (Ex.done l (by repeat first | exact Less.nil | refine Less.skip ?_ | refine Less.same ?_))
      intro C D fz O' t ht
      have l' : LayR ["text", "texts", "count"] := ⟨by decide, by decide⟩
      exact cstepIf O' l' rfl (Bt.cmp O' (Ev.sub O' (Ev.nmR O' l' 0) (Ev.nmR O' l' 2) item_str (get_si (by lia) (zl t ht) (g0 t ht))) (Ev.sub O' (Ev.sub O' (Ev.nmR O' l' 1) Ev.int item_list (get_li (by decide) (by simpa using hz') hf)) (Ev.nmR O' l' 2) item_str (get_si (by lia) (zl _ hd) (g0 _ hd))) ne_ss) (Ev.nmR O' l' 0)
  · intro c hc
    unfold sharedOf
    rw [hm', hc]; rfl
  · intro hc
    have : sharedOf ts = m := by unfold sharedOf; rw [hm', hc]; rfl
    rw [this]
    exact Ex.retD (Ev.nm O l 1)
end
section
noncomputable def quoteS (r : Str) : Str := Str.ofString "'" ++ r ++ Str.ofString "'"
noncomputable def textOf (rows : List Str) : Str := Str.ofString "[" ++ Txt.join ", " (rows.map quoteS) ++ Str.ofString "]"
noncomputable def longestOf (ts : List Str) : Int := maxI (ts.map fun t => (t.length : Int))
noncomputable def shortT (ts : List Str) : List Str :=
  if longestOf ts ≤ 80 then ts else if longestOf ts - sharedOf ts ≤ 57 then ts.map fun t => wo t 5 (longestOf ts - 63)
  else ts.map fun t => wo (wo t (sharedOf ts + 41) (t.length - 5)) 5 (sharedOf ts - 5)
structure Small (lists : List (List Str)) : Prop where
  ne : lists ≠ []
  len : lists.length ≤ 10
  rows : ∀ r ∈ lists, r.length ≤ 20
  row : ∀ r ∈ lists, ∀ x ∈ r, x.length ≤ 20
theorem quote_len (r : Str) : (quoteS r).length = r.length + 2 := by
  unfold quoteS
  rw [Str.length_append, Str.length_append]
  have : (Str.ofString "'").length = 1 := by decide
  lia
theorem join_len (x : Str) (ys : List Str) : (Txt.join x ys).length ≤ (ys.map (·.length)).sum + ys.length * x.length := by
  rw [Txt.join, StrLaws.glued_eq_join]; exact StrLaws.join_length_le x ys
theorem sum_le {ys : List Nat} {k : Nat} (h : ∀ y ∈ ys, y ≤ k) : ys.sum ≤ ys.length * k := by
  induction ys with
  | nil => simp
  | cons a r ih =>
    have h1 := h a (.head _)
    have h2 := ih fun y hy => h y (.tail _ hy)
    rw [List.sum_cons, List.length_cons, Nat.succ_mul]; lia
theorem quotes_sum {r : List Str} (h1 : r.length ≤ 20) (h2 : ∀ x ∈ r, x.length ≤ 20) : ((r.map quoteS).map (·.length)).sum + (r.map quoteS).length * (Str.ofString ", ").length ≤ 480 := by
  have e : (Str.ofString ", ").length = 2 := by decide
  have := sum_le (ys := (r.map quoteS).map (·.length)) (k := 22) (by
    intro y hy
    rw [List.map_map] at hy
    obtain ⟨x, hx, rfl⟩ := List.mem_map.mp hy
    have := h2 x hx
    show (quoteS x).length ≤ 22
    rw [quote_len]; lia)
  simp only [List.length_map] at this ⊢
  rw [e]; lia
theorem textOf_len {r : List Str} (h1 : r.length ≤ 20) (h2 : ∀ x ∈ r, x.length ≤ 20) : (textOf r).length ≤ 482 := by
  unfold textOf
  rw [Str.length_append, Str.length_append]
  have e1 : (Str.ofString "[").length = 1 := by decide
  have e2 : (Str.ofString "]").length = 1 := by decide
  have := join_len ", " (r.map quoteS)
  have := quotes_sum h1 h2
  have e : Str.ofString ", " = (", " : Str) := rfl
  rw [e] at this
  lia
theorem maxI_le : ∀ (l : List Int) (k : Int), 0 ≤ k → (∀ a ∈ l, a ≤ k) → maxI l ≤ k
  | [], k, h, _ => h
  | [x], k, _, h => h x (.head _)
  | x :: y :: r, k, hk, h => by
    show max x (maxI (y :: r)) ≤ k
    exact Int.max_le.mpr ⟨h x (.head _), maxI_le (y :: r) k hk fun a ha => h a (.tail _ ha)⟩
theorem le_maxI : ∀ (l : List Int), ∀ a ∈ l, a ≤ maxI l
  | [], a, h => nomatch h
  | [x], a, h => by rw [List.mem_singleton.mp h]; exact Int.le_refl _
  | x :: y :: r, a, h => by
    show a ≤ max x (maxI (y :: r))
    rcases List.mem_cons.mp h with rfl | h
    · exact Int.le_max_left ..
    · exact Int.le_trans (le_maxI (y :: r) a h) (Int.le_max_right ..)
theorem wo_len (x : Str) (low : Nat) (high : Int) (hh : high.natAbs ≤ 10000) (hl : low ≤ 10000) : (wo x low high).length ≤ 2 * x.length + 108 := by
  unfold wo
  split
  · have l1 := tk_len x low
    have l2 := dr_len x high.toNat
    have l3 := num_len (i := high - low) (by lia)
    have l4 : (Str.ofString "[").length = 1 := by decide
    have l5 : (Str.ofString " chars]").length = 7 := by decide
    simp only [Str.length_append]
    have e4 : (("[" : Str)).length = 1 := l4
    have e5 : ((" chars]" : Str)).length = 7 := l5
    lia
  · lia
theorem shared_le (ts : List Str) (h : ∀ t ∈ ts, t.length ≤ 482) (hne : ts ≠ []) : sharedOf ts ≤ 482 := by
  have hm : (leastI ts).toNat ≤ 482 := by
    obtain ⟨t, h1, h2⟩ := List.mem_map.mp (minI_mem (ts.map fun t => (t.length : Int)) (by simpa using hne))
    have := h t h1
    unfold leastI; lia
  unfold sharedOf
  cases q : (List.range (leastI ts).toNat).find? (differ ts) with
  | none => exact hm
  | some c =>
    have := List.mem_range.mp (List.mem_of_find?_eq_some q)
    show c ≤ 482
    lia
theorem law_short (ls : List (List Str)) (h : Small ls) : FS 2 298 [.d (.list (ls.map strsD))] (.d (.tuple ((shortT (ls.map textOf)).map .str))) := by
  refine call_def1 (n := 1) ["lists"] ["texts", "longest", "shared", "short", "text", "behind"] (fun w => by exact rfl) (fun w => by kernel_rfl) (by exact bind1 fun _ _ => BindsTo.of_eq rfl) rfl (by decide) rfl (fun C L => ⟨by decide, by decide, rfl, rfl⟩) fun C L O l => ?_
  have hz : ls.length ≤ sizeLine := by have := h.len; rw [big]; lia
  refine Ex.letComp O l 1 ls (fun r => V.d (strsD r)) (fun r => .str (textOf r)) (Ev.nm O l 0) ?_ (compOk [] [] rfl rfl rfl rfl rfl (of_decide_eq_true rfl) rfl rfl rfl rfl) hz ?_ ?_
  · have := src_list (xs := ls.map strsD)
    rw [List.map_map] at this; exact this
  · intro C D fz O' r hr
    have l' : LayR ["rows"] := ⟨by decide, by decide⟩
    have hq := quotes_sum (h.rows r hr) (h.row r hr)
    have ht := textOf_len (h.rows r hr) (h.row r hr)
    have e1 : (Str.ofString "[").length = 1 := by decide
    have hj := join_len ", " (r.map quoteS)
    have e : Str.ofString ", " = (", " : Str) := rfl
    rw [e] at hq
    refine cstep O' l' rfl (Ev.bin O' (Ev.bin O' Ev.str (Ev.join (ys := r.map quoteS) O' Ev.str ?_ (by rw [e]; lia)) (add_ss ?_)) Ev.str (add_ss ?_))
    · have ev : strsD (r.map quoteS) = .list (r.map fun x => .str (quoteS x)) := by unfold strsD; rw [List.map_map]; rfl
      rw [ev]
      refine Ev.compM O' r (fun x => V.d (.str x)) (fun x => .str (quoteS x)) (Ev.nmR O' l' 0) src_strs (compOk [] [] rfl rfl rfl rfl rfl (of_decide_eq_true rfl) rfl rfl rfl rfl) (by have := h.rows r hr; rw [big]; lia) ?_
      intro C2 D2 fz2 O2 x hx
      have l2 : LayR ["row"] := ⟨by decide, by decide⟩
      have h20 := h.row r hr x hx
      have eq1 : (Str.ofString "'").length = 1 := by decide
      refine cstep O2 l2 rfl (Ev.bin O2 (Ev.bin O2 Ev.str (Ev.nmR O2 l2 0) (add_ss ?_)) Ev.str (add_ss ?_))
      · rw [Str.length_append, eq1, big]; lia
      · rw [Str.length_append, Str.length_append, eq1, big]; lia
    · rw [Str.length_append, e1, big]; lia
    · rw [big]; have : (textOf r).length ≤ 16777216 := by lia
      exact this
  · generalize hts : ls.map textOf = ts
    have e : (ls.map fun r => PyData.str (textOf r)) = ts.map .str := by rw [← hts, List.map_map]; rfl
    rw [e]
    have tl : ∀ t ∈ ts, t.length ≤ 482 := fun t ht => by
      rw [← hts] at ht
      obtain ⟨r, hr, rfl⟩ := List.mem_map.mp ht
      exact textOf_len (h.rows r hr) (h.row r hr)
    have tn : ts ≠ [] := by rw [← hts]; simpa using h.ne
    have tz : ts.length ≤ 10 := by rw [← hts, List.length_map]; exact h.len
    have tz' : ts.length ≤ sizeLine := by rw [big]; lia
    have sl := shared_le ts tl tn
    have ll : longestOf ts ≤ 482 := maxI_le _ _ (by decide) fun a ha => by
      obtain ⟨t, ht, rfl⟩ := List.mem_map.mp ha
      have := tl t ht; lia
    have l0 : 0 ≤ longestOf ts := by
      obtain ⟨t, ht⟩ := List.exists_mem_of_ne_nil ts tn
      have := le_maxI (ts.map fun t => (t.length : Int)) _ (List.mem_map_of_mem ht)
      unfold longestOf; lia
    refine Ex.let_ O l 2 (v := .d (.int (longestOf ts))) (Ev.callP O (nm_b_max O rfl) keep_blt (Es.cons (Ev.compM O ts (fun x => V.d (.str x)) (fun t => .int (t.length : Int)) (Ev.nm O l 1) src_strs (compOk [] [] rfl rfl rfl rfl rfl (of_decide_eq_true rfl) rfl rfl rfl rfl) tz' ?_) Es.nil) ?_) ?_
    · intro C D fz O' t ht
      have l' : LayR ["text"] := ⟨by decide, by decide⟩
      have := tl t ht
      exact cstep O' l' rfl (Ev.callP O' (nm_b_len O' rfl) keep_blt (Es.cons (Ev.nmR O' l' 0) Es.nil) (len_s (by rw [big]; lia)))
    · have := max_ints (n := 1) (xs := ts.map fun t => (t.length : Int)) (by simpa using List.length_pos_iff.mpr tn)
      unfold intsD at this
      rw [List.map_map] at this
      exact this
    refine Ex.let_ O l 3 (v := .d (.int (sharedOf ts))) (Ev.callP O (nm_law_shared O rfl) (kp_law_shared _) (Es.cons (Ev.nm O l 1) Es.nil) (law_shared ts tn (fun t ht => by have := tl t ht; lia) (by lia))) ?_
    refine Ex.ifRet (Bt.cmp O (Ev.nm O l 2) Ev.int (by with_reducible exact le_ii)) (fun hc => ?_) (fun hc => ?_)
    · have hc := of_decide_eq_true hc
      have e : shortT ts = ts := by unfold shortT; rw [if_pos hc]
      rw [e]
      exact Ex.retD (Ev.callP O (nm_b_tuple O rfl) keep_type (Es.cons (Ev.nm O l 1) Es.nil) (tupleL_op (by simpa using tz')))
    have hc := of_decide_eq_false hc
    refine Ex.ifRet (Bt.cmp O (Ev.bin O (Ev.nm O l 2) (Ev.nm O l 3) (by with_reducible exact sub_ii)) Ev.int (by with_reducible exact le_ii)) (fun hd => ?_) (fun hd => ?_)
    · have hd := of_decide_eq_true hd
      have e : (shortT ts).map PyData.str = ts.map fun t => .str (wo t 5 (longestOf ts - 63)) := by unfold shortT; rw [if_neg hc, if_pos hd, List.map_map]; rfl
      rw [e]
      refine Ex.retD (Ev.callP O (nm_b_tuple O rfl) keep_type (Es.cons (Ev.compM O ts (fun x => V.d (.str x)) (fun t => .str (wo t 5 (longestOf ts - 63))) (Ev.nm O l 1) src_strs (compOk ["longest"] [some (.d (.int (longestOf ts)))] rfl rfl rfl rfl rfl (of_decide_eq_true rfl) rfl rfl rfl rfl) tz' ?_) Es.nil) (tupleL_op (by simpa using tz')))
      intro C D fz O' t ht
      have l' : LayR ["text", "longest"] := ⟨by decide, by decide⟩
      have := tl t ht
      exact cstep O' l' rfl (Ev.callP O' (nm_law_without O' rfl) (kp_law_without _) (Es.cons (Ev.nmR O' l' 0) (Es.cons Ev.int (Es.cons (Ev.bin O' (Ev.nmR O' l' 1) Ev.int (by with_reducible exact sub_ii)) Es.nil))) (law_without t 5 (longestOf ts - 63) (by lia) (by decide) (by lia)))
    · have hd := of_decide_eq_false hd
      have e : (shortT ts).map PyData.str = ts.map fun t => .str (wo (wo t (sharedOf ts + 41) (t.length - 5)) 5 (sharedOf ts - 5)) := by unfold shortT; rw [if_neg hc, if_neg hd, List.map_map]; rfl
      rw [e]
      refine Ex.newI O l 4 (EvN.lst Es.nil .nil) fun a => ?_
      refine Ex.forI O l 5 (fun k => [some (.d (.list (ls.map strsD))), some (.d (strsD ts)), some (.d (.int (longestOf ts))), some (.d (.int (sharedOf ts))), some (.raw (.ref a)), none, none]) (fun k => [(a, lstO ((ts.take k).map fun t => .str (wo (wo t (sharedOf ts + 41) (t.length - 5)) 5 (sharedOf ts - 5))))]) (Ev.nm O l 1) src_strs ?_ ?_
      · intro k y hy
        rw [List.getElem?_map] at hy
        obtain ⟨t, ht, rfl⟩ := Option.map_eq_some_iff.mp hy
        have hm := List.mem_of_getElem? ht
        have h482 := tl t hm
        have hk : k < ts.length := (List.getElem?_eq_some_iff.mp ht).1
        have w1 := wo_len t (sharedOf ts + 41) (t.length - 5) (by lia) (by lia)
        have c41 : ((sharedOf ts : Nat) : Int) + 41 = ((sharedOf ts + 41 : Nat) : Int) := by lia
        refine Ex.let_ O l 6 (v := .d (.str (wo t (sharedOf ts + 41) (t.length - 5)))) (Ev.callP O (nm_law_without O rfl) (kp_law_without _) (vs := [.d (.str t), .d (.int ((sharedOf ts + 41 : Nat) : Int)), .d (.int ((t.length : Int) - 5))]) (c41 ▸ Es.cons (Ev.nm O l 5) (Es.cons (Ev.bin O (Ev.nm O l 3) Ev.int (by first | with_reducible exact add_ii | (with_reducible refine add_ss ?_; first | assumption | decide | lia | (simp; done) | (simp; lia)))) (Es.cons (Ev.bin O (Ev.callP O (nm_b_len O rfl) keep_blt (Es.cons (Ev.nm O l 5) Es.nil) (len_s (by rw [big]; lia))) Ev.int sub_ii) Es.nil))) (law_without t (sharedOf ts + 41) (t.length - 5) (by lia) (by lia) (by lia))) ?_
        refine Ex.cons (Ex1.expr (v := .d .none) (Ev.meth (led2 := []) O (Ev.nm O l 4) (gm_lst F.slot_list_append F.type_list_append F.plainAttrs_list (.head _)) (Es.cons (Ev.callP O (nm_law_without O rfl) (kp_law_without _) (Es.cons (Ev.nm O l 6) (Es.cons Ev.int (Es.cons (Ev.bin O (Ev.nm O l 3) Ev.int (by with_reducible exact sub_ii)) Es.nil))) (law_without _ 5 (sharedOf ts - 5) (by lia) (by decide) (by lia))) Es.nil) (append_op ?_)) rfl rfl) ?_
        · rw [List.length_map, List.length_take, big]; lia
        · have : ts.take (k + 1) = ts.take k ++ [t] := by rw [List.take_add_one, ht]; rfl
          rw [this, List.map_append]
          exact Ex.done l (by repeat first | exact Less.nil | refine Less.skip ?_ | refine Less.same ?_)
      · rw [List.length_map, List.take_length]
        refine Ex.freezeI l 4 ?_
        exact Ex.retD (Ev.callP O (nm_b_tuple O rfl) keep_type (Es.cons (Ev.nm O l 4) Es.nil) (tupleL_op (by simpa using tz')))
end
section
section
variable {n : Nat} {Γ : Cx} {loc loc' loc1 loc2 : Loc} {led led' led1 led2 : Led} {s : Shared} {xs us : List Str} {vs uvs : List (Option V)} {o : Out}
noncomputable def fmtT : Str := "%s[%d chars]%s"
theorem fmt_meets {a b : Str} {k : Int} {t ta tk tb : Tok} {r : Addr} (ha : a.length ≤ 1000) (hb : b.length ≤ 1000) (h0 : 0 ≤ k) (h1 : k ≤ 1000) :
    Meets (Builtin.«str.__mod__» ⟨[.str fmtT t, .ref r], []⟩) (fun _ R s => IsTup s.heap r #[.str a ta, .int k tk, .str b tb] ∧ ∀ t' kk, R (.ok (.ret (.str (a ++ Str.ofString "[" ++ Str.ofString (toString k) ++ Str.ofString " chars]" ++ b) t'))) { s with toks := kk }) := by
  have e : fmtT = ⟨#[37, 115, 91, 37, 100, 32, 99, 104, 97, 114, 115, 93, 37, 115]⟩ := by decide +kernel
  rw [e]
  kpt_run
end
end
section
noncomputable def rowCs : List Nat := [45, 42, 98, 99, 100, 108, 112, 114, 115, 116, 119, 120, 83, 84]
noncomputable def plain (x : Str) : Prop := ∀ c ∈ x.cps.toList, c ∈ rowCs
theorem reprChar_row : ∀ c ∈ rowCs, Builtin.Str.reprChar 39 c = [c] := by decide +kernel
theorem fold_row (l : List Nat) (h : ∀ c ∈ l, c ∈ rowCs) : ∀ acc : Array Nat, l.foldl (fun out c => out ++ (Builtin.Str.reprChar 39 c).toArray) acc = acc ++ l.toArray := by
  induction l with
  | nil => intro acc; simp
  | cons c r ih =>
    intro acc
    rw [List.foldl_cons, ih (fun x hx => h x (.tail _ hx)), reprChar_row c (h c (.head _))]
    apply Array.ext'
    simp
theorem repr_plain {x : Str} (h : plain x) : reprText x = quoteS x := by
  have hq : reprQuote x = 39 := by
    unfold reprQuote
    have : x.cps.contains 39 = false := by
      cases e : x.cps.contains 39 with
      | false => rfl
      | true =>
        have := h 39 (by simpa using e)
        exact absurd this (by decide)
    rw [this]; rfl
  unfold reprText quoteS
  rw [hq, ← Array.foldl_toList, fold_row _ h]
  obtain ⟨⟨l⟩⟩ := x
  show (⟨(#[39] ++ l.toArray).push 39⟩ : Str) = (⟨#[39]⟩ : Str) ++ ⟨⟨l⟩⟩ ++ ⟨#[39]⟩
  show (⟨(#[39] ++ l.toArray).push 39⟩ : Str) = ⟨(#[39] ++ l.toArray) ++ #[39]⟩
  congr 1
theorem textFrom_acc : ∀ (ts : List Str) (k : Nat) (acc : Str), textFrom (k + 1) acc ts = acc ++ ts.foldr (fun t r => Str.ofString ", " ++ t ++ r) Str.empty
  | [], k, acc => by show acc = acc ++ Str.empty; rw [Str.append_empty]
  | t :: r, k, acc => by
    show textFrom (k + 1 + 1) (acc ++ Str.ofString (if k + 1 > 0 then ", " else "") ++ t) r = _
    rw [textFrom_acc r (k + 1), if_pos (by lia), List.foldr_cons, Str.append_assoc, Str.append_assoc]
    congr 1
    rw [Str.append_assoc]
theorem join_fold : ∀ (ts : List Str) (x : Str), Str.join (Str.ofString ", ") (x :: ts) = x ++ ts.foldr (fun t r => Str.ofString ", " ++ t ++ r) Str.empty
  | [], x => by show x = x ++ Str.empty; rw [Str.append_empty]
  | t :: r, x => by
    show x ++ Str.ofString ", " ++ Str.join (Str.ofString ", ") (t :: r) = _
    rw [join_fold r t, List.foldr_cons, Str.append_assoc, Str.append_assoc]
theorem listText_eq (ts : List Str) : listText ts = Str.ofString "[" ++ Txt.join (Str.ofString ", ") ts ++ Str.ofString "]" := by
  unfold listText
  rw [Txt.join, StrLaws.glued_eq_join]
  cases ts with
  | nil => rfl
  | cons t r =>
    show textFrom 1 (Str.ofString "[" ++ Str.ofString "" ++ t) r ++ _ = _
    rw [textFrom_acc r 0, join_fold]
    congr 1
    have : Str.ofString "[" ++ Str.ofString "" = Str.ofString "[" := by decide
    rw [this, Str.append_assoc]
theorem shown_strs {rows : List Str} (h : ∀ x ∈ rows, plain x) : (strsD rows).shown = textOf rows := by
  have e : ∀ rows : List Str, (∀ x ∈ rows, plain x) → PyData.shownAll (rows.map .str) = rows.map quoteS := by
    intro rows
    induction rows with
    | nil => intro _; rfl
    | cons x r ih =>
      intro h
      show reprText x :: PyData.shownAll (r.map .str) = _
      rw [repr_plain (h x (.head _)), ih fun y hy => h y (.tail _ hy)]; rfl
  show listText (PyData.shownAll (rows.map .str)) = _
  rw [e rows h, listText_eq]; rfl
end
section
section
variable {n : Nat} {Γ : Cx} {loc loc' loc1 loc2 : Loc} {led led' led1 led2 : Led} {s : Shared} {xs us : List Str} {vs uvs : List (Option V)} {o : Out}
theorem fmt_op {a b : Str} {k : Int} (ha : a.length ≤ 1000) (hb : b.length ≤ 1000) (h0 : 0 ≤ k) (h1 : k ≤ 1000) :
    Op2 (binaryOp .Mod) (.d (.str fmtT)) (.d (.tuple [.str a, .int k, .str b])) (.d (.str (a ++ Str.ofString "[" ++ Str.ofString (toString k) ++ Str.ofString " chars]" ++ b))) := fun n Γ loc led s u v Q E O S ra rb h => by
  refine aside fun zk => ?_
  obtain ⟨t, rfl⟩ := rep_str ra
  obtain ⟨l, ob, vs, kk, as, rfl, g1, g2, g3, g4⟩ := rep_tuple rb
  obtain ⟨vl, rfl⟩ : ∃ vl, vs = List.toArray vl := ⟨vs.toList, rfl⟩
  apply zk
  cases g4 with
  | cons r1 q => cases q with
    | cons r2 q => cases q with
      | cons r3 q => cases q with
        | nil =>
          cases r1; cases r2; cases r3
          have ht : IsTup s.heap l _ := ⟨ob, (vget g1), g2, kk, g3⟩
          have hT : s.TypeIs (.ref l) "tuple" := ⟨ob, (vget g1), g2⟩
          exact KPt.bin_left (T := "str") (U := "tuple") (op := .Mod) (by decide) (typeIs_str s fmtT t) hT F.fills_str_mod KPt.fills_tuple F.slot_str_mod
            (call_meets F.slot_str_mod (typeIs_str s fmtT t) F.entry_str_mod (F.args_str_mod_2 _ _) (fmt_meets ha hb h0 h1) ⟨ht, fun t' k => ⟨(fun e => nomatch e), h _ _ (S.toks _) Le.rfl ⟨_, .str _ _⟩⟩⟩)
theorem showable_strs : ∀ rows : List Str, PyData.showableAll (rows.map .str) = true
  | [] => rfl
  | x :: r => by show (true && _) = true; rw [showable_strs r]; rfl
theorem noDict_strs : ∀ rows : List Str, PyData.hasDictAll (rows.map .str) = false
  | [] => rfl
  | x :: r => by show (false || _) = false; rw [noDict_strs r]; rfl
theorem repr_strs {rows : List Str} (hn : 100 ≤ n) (hd : (strsD rows).depth ≤ 10) (hz : (strsD rows).shown.length ≤ sizeLine) : OpN n (fun vals => PySem.call (.builtin "repr") vals) [.d (strsD rows)] [] (.d (.str (strsD rows).shown)) [] := fun Γ loc led s vals Q E O S rs h => by
  cases rs with
  | cons ra rq =>
  refine aside fun zk => ?_
  cases rq
  obtain ⟨l, ob, vs, kk, as, rfl, g1, g2, g3, g4⟩ := rep_list ra
  apply zk
  have un := O.un
  refine repr_of_reads' (h₀ := vis Γ led s) (d := strsD rows) (.list g1 g2 g3 g4) (showable_strs rows) (PyData.noDict_hsm (noDict_strs rows)) (O.gu hn) ?_ (fun b o e => (vget e)) (fun h' u tk kk => ?_) hz
  · have : cLine = 9900 := by rfl
    lia
  · obtain ⟨S4, le4⟩ := S.grow (h' := h') (t := tk) kk
    exact h _ _ S4 le4 ⟨_, .str _ _⟩
theorem Ev.castI {e : Expr} {a b : Int} (q : a = b) (h : Ev Γ loc led e (.d (.int a)) loc1 led1) : Ev Γ loc led e (.d (.int b)) loc1 led1 := q ▸ h
end
end
section
noncomputable def shorten (x : Str) (p q : Nat) : Str := if 12 < (x.length : Int) - p - q then tk x p ++ Str.ofString "[" ++ Str.ofString (toString ((x.length : Int) - p - q)) ++ Str.ofString " chars]" ++ dr x (x.length - q) else x
theorem shorten_g (x : Str) (p q : Nat) (hx : x.length ≤ 1000) (hp : p ≤ 1000) (hq : q ≤ 1000) : OpG 1 (fun vals => call (.ref 28) vals) [.d (.str x), .d (.int p), .d (.int q)] [] (fun w d => w = .d (.str (shorten x p q)) ∧ d = []) := by
  refine call_def1g (n := 0) ["s", "prefixlen", "suffixlen"] ["skip"] (fun w => by exact rfl) (fun w => by kernel_rfl) (by exact bind3 fun _ _ _ _ => BindsTo.of_eq rfl) rfl (by decide) rfl (fun C L => ⟨by decide, by decide, rfl, rfl⟩) fun C L O l => ?_
  have hz : x.length ≤ sizeLine := by rw [big]; lia
  refine Ex.let_ O l 3 (v := .d (.int ((x.length : Int) - p - q))) (Ev.bin O (Ev.bin O (Ev.callP O (nm_b_len O rfl) keep_blt (Es.cons (Ev.nm O l 0) Es.nil) (by first | (with_reducible refine len_l ?_; first | assumption | decide | lia | (simp; done) | (simp; lia)) | (with_reducible refine len_t ?_; first | assumption | decide | lia | (simp; done) | (simp; lia)) | (with_reducible refine len_s ?_; first | assumption | decide | lia | (simp; done) | (simp; lia)))) (Ev.nm O l 1) (by with_reducible exact sub_ii)) (Ev.nm O l 2) (by with_reducible exact sub_ii)) ?_
  refine Ex.ifs (loc1 := mk ["s", "prefixlen", "suffixlen", "skip"] [some (.d (.str (shorten x p q))), none, none, none]) (led1 := []) (Bt.cmp O (Ev.nm O l 3) (nm_PLACEHOLDER_LEN O rfl) (by with_reducible exact gt_ii)) (fun hc => ?_) (fun hc => ?_) (Ex.retD (Ev.nm O l 0))
  · have hc := of_decide_eq_true hc
    have e : shorten x p q = tk x p ++ Str.ofString "[" ++ Str.ofString (toString ((x.length : Int) - p - q)) ++ Str.ofString " chars]" ++ dr x (x.length - q) := by unfold shorten; rw [if_pos hc]
    rw [e]
    have l1 := tk_len x p
    have l2 := dr_len x (x.length - q)
    have cast : (x.length : Int) - q = ((x.length - q : Nat) : Int) := by lia
    refine Ex.let_ O l 0 (Ev.bin O Ev.str (Ev.tup (Es.cons (Ev.sub O (Ev.nm O l 0) (Ev.slice Pt.none (Pt.some (Ev.nm O l 1)) Pt.none) item_str (get_sto hz)) (Es.cons (Ev.nm O l 3) (Es.cons (Ev.sub O (Ev.nm O l 0) (Ev.slice (Pt.some (Ev.castI cast (Ev.bin O (Ev.callP O (nm_b_len O rfl) keep_blt (Es.cons (Ev.nm O l 0) Es.nil) (by first | (with_reducible refine len_l ?_; first | assumption | decide | lia | (simp; done) | (simp; lia)) | (with_reducible refine len_t ?_; first | assumption | decide | lia | (simp; done) | (simp; lia)) | (with_reducible refine len_s ?_; first | assumption | decide | lia | (simp; done) | (simp; lia)))) (Ev.nm O l 2) (by with_reducible exact sub_ii)))) Pt.none Pt.none) item_str (get_sfrom (a := x.length - q) hz)) Es.nil))) (by repeat constructor)) (fmt_op (by lia) (by lia) (by lia) (by lia))) (Ex.done l (by repeat first | exact Less.nil | refine Less.skip ?_ | refine Less.same ?_))
  · have hc := of_decide_eq_false hc
    have e : shorten x p q = x := by unfold shorten; rw [if_neg hc]
    rw [e]
    exact Ex.done l (by repeat first | exact Less.nil | refine Less.skip ?_ | refine Less.same ?_)
theorem shorten_fs (x : Str) (p q : Nat) (hx : x.length ≤ 1000) (hp : p ≤ 1000) (hq : q ≤ 1000) : FS 1 28 [.d (.str x), .d (.int p), .d (.int q)] (.d (.str (shorten x p q))) := (shorten_g x p q hx hp hq).toN
end
section
theorem call_defB {n : Nat} {f : Addr} {args args' : List V} {fp fp' : Led} {v : V} {name qual : Str} {params : Arguments} {body : List Stmt} {scope : Scope} {dV kV doc pm cdv ct oc : Value} {an od : Option Addr} {osl : Array (Option Value)} (names ys : List Str)
    (ho : ∀ w, (KF w).lookup f = some ⟨oc, od, .func (fnX name qual params body scope [] dV kV doc pm an cdv ct), osl⟩) (hcd : ∀ w, codeIn (KF w) cdv qual = true)
    (hbind : Binds (fnX name qual params body scope [] dV kV doc pm an cdv ct) names args args')
    (hkind : (names.all fun y => scope.names.lookup y == some .local || scope.names.lookup y == some .cell) = true)
    (hnd : ((cellsFrom 0 scope.names []).map (·.1)).Nodup) (hlen : names.length = args'.length) (hlay : ∀ (C : Cx0) (L : Addr), Lay (C.at (envOfC qual scope L f cdv)) (names ++ ys))
    (hbody : ∀ (C : Cx0) (L : Addr), Ok n (C.at (envOfC qual scope L f cdv)) → Lay (C.at (envOfC qual scope L f cdv)) (names ++ ys) → Ex (C.at (envOfC qual scope L f cdv)) (mk (names ++ ys) (args'.map some ++ ys.map fun _ => none)) fp body (.ret v [] fp'))
    (hco : autoParam (scope.isCoroutine = false) aR) (hgen : autoParam (scope.isGenerator = false) aR) (hk : autoParam (scope.kind = .function) aR) : OpN (n + 1) (fun vals => call (.ref f) vals) args fp v fp' := by
  have hnn : names.Nodup := by
    have C : Cx0 := ⟨⟨fun _ _ => 0, { strHash := fun _ => 0, shareClass := fun _ => 0, mergeTok := id, idOf := fun _ => 0, idOfShared := fun _ _ => 0, followText := fun _ => false, idOfImm := fun _ => 0 }⟩, {}, {}, {}, [], [], {}, [], fun _ _ => True⟩
    exact (List.nodup_append.mp (hlay C 0).nd).1
  exact OpG.toN (call_defG (P := fun w d => w = v ∧ d = fp') names ho hcd hbind hkind hnd hnn (by lia) (fun C L O => (lay_in (hbody C L O (hlay C L)) hlen).toG ⟨rfl, rfl⟩) hco hgen hk)
section
variable {n : Nat} {Γ : Cx} {loc loc' loc1 loc2 : Loc} {led led' led1 led2 : Led} {s : Shared} {xs us : List Str} {vs uvs : List (Option V)} {o : Out}
theorem Ex1.tryOk {body : List Stmt} {h₀ : ExceptHandler} {hs : List ExceptHandler} {pos : Pos} (h : Ex Γ loc led body (.next loc1 led1)) : Ex1 Γ loc led (.Try body (h₀ :: hs) [] [] pos) (.next loc1 led1) := fun s Q E S k =>
  wpAny_Try_except (h s _ _ S fun f s1 x => by obtain ⟨rfl, S1, le⟩ := x; exact wpAny_execs_nil (k _ _ ⟨rfl, S1, le⟩))
theorem Bt.notF {e : Expr} {pos : Pos} (h1 : Bt Γ loc led e false loc1 led1) : Bt Γ loc led (.UnaryOp .Not e pos) true loc1 led1 := Bt.not h1
theorem Bt.notT {e : Expr} {pos : Pos} (h1 : Bt Γ loc led e true loc1 led1) : Bt Γ loc led (.UnaryOp .Not e pos) false loc1 led1 := Bt.not h1
theorem Bt.cast {e : Expr} {b c : Bool} (q : b = c) (h1 : Bt Γ loc led e b loc1 led1) : Bt Γ loc led e c loc1 led1 := q ▸ h1
end
end
section
theorem depth_strs (rows : List Str) : (strsD rows).depth ≤ 10 := by
  have : ∀ rows : List Str, PyData.depthAll (rows.map .str) = 0 := by
    intro rows
    induction rows with
    | nil => rfl
    | cons x r ih => show max 0 (PyData.depthAll (r.map .str)) = 0; rw [ih]; rfl
  show PyData.depthAll (rows.map .str) + 1 ≤ 10
  rw [this]; decide
theorem safe_repr_fs (rows : List Str) (hp : ∀ x ∈ rows, plain x) (hz : rows.length ≤ 20) (hl : ∀ x ∈ rows, x.length ≤ 20) : FS 101 69 [.d (strsD rows)] (.d (.str (textOf rows))) := by
  refine call_defB (n := 100) (args' := [.d (strsD rows), .d (.bool false)]) ["obj", "short"] ["result"] (fun w => by exact rfl) (fun w => by kernel_rfl) ?_ rfl (by decide) rfl (fun C L => ⟨by decide, by decide, rfl, rfl⟩) fun C L O l => ?_
  · intro Γ loc led s vals A Q E X S rs h
    cases rs with
    | cons r q =>
    cases q
    refine BindsTo.of_defaults rfl (X _ _ (by exact rfl)) rfl rfl rfl _ _ _ _ (h s [_, .bool false] S Le.rfl (fun _ _ e => e) (.cons r (.cons ⟨_, .bool _⟩ .nil)))
  have e := shown_strs hp
  have t := textOf_len hz hl
  refine Ex.cons (Ex1.tryOk (Ex.let_ O l 2 (v := .d (.str (textOf rows))) ?_ Ex.nil)) ?_
  · have := repr_strs (n := 100) (by decide) (depth_strs rows) (by rw [e, big]; lia)
    rw [e] at this
    exact Ev.callP O (nm_b_repr O rfl) keep_blt (Es.cons (Ev.nm O l 0) Es.nil) this
  · exact Ex.ret (Ex1.ifT (Bt.orT (Bt.notF (Bt.of O (Ev.nm O l 1) tru_bool))) (Ex.retD (Ev.nm O l 2)))
end
section
noncomputable def lessAt (ts : List Str) (i j : Nat) : Bool := decide ((ts.getD i "").cps.toList < (ts.getD j "").cps.toList)
noncomputable def minS (ts : List Str) : Str := ts.getD (argBest (lessAt ts) (ts.length - 1)) ""
noncomputable def maxS (ts : List Str) : Str := ts.getD (argBest (fun i j => lessAt ts j i) (ts.length - 1)) ""
section
variable {n : Nat} {Γ : Cx} {loc loc' loc1 loc2 : Loc} {led led' led1 led2 : Led} {s : Shared} {xs us : List Str} {vs uvs : List (Option V)} {o : Out}
theorem type_op {x : V} {T : String} (hT : TyIs x T) (hnb : (Value.type T == Value.type "builtin_function_or_method") = false) : OpN n (fun vals => PySem.call (.type "type") vals) [x] [] (.raw (.type T)) [] := opN1 (v := .raw (.type T)) (f := fun a => call (.type "type") [a]) (fun n Γ loc led s u Q E O S ra h =>
  call_type_of (hT _ _ _ _ ra) hnb (h _ _ S Le.rfl rfl)) fun _ => rfl
theorem is_tt {a b : String} : Op2 (compareOp .Is) (.raw (.type a)) (.raw (.type b)) (.d (.bool (Value.type a == Value.type b))) := fun n Γ loc led s u v Q E O S ra rb h => by
  cases ra; cases rb
  exact wpAny_is_plain rfl (h _ _ S Le.rfl ⟨_, .bool _⟩)
theorem isNot_tt {a b : String} : Op2 (compareOp .IsNot) (.raw (.type a)) (.raw (.type b)) (.d (.bool (!(Value.type a == Value.type b)))) := fun n Γ loc led s u v Q E O S ra rb h => by
  cases ra; cases rb
  exact wpAny_isNot_plain rfl (h _ _ S Le.rfl ⟨_, .bool _⟩)
theorem strsT_walk {ts : List Str} {l : Addr} {vs : Array Value} {h : Heap} {as : List Addr} (r : ReadsAll h vs.toList (ts.map .str) as) {i : Nat} {v : Value} (hv : vs[i]? = some v) : ∃ u, v = .str (ts.getD i "") u := by
  have e := readsAll_length r
  rw [List.length_map] at e
  have hi : i < ts.length := by
    have := (Array.getElem?_eq_some_iff.mp hv).1
    rw [← e]; simpa using this
  obtain ⟨v', bs, hv', q⟩ := readsAll_get r (i := i) (d := .str (ts.getD i "")) (by rw [List.getElem?_map, List.getD_eq_getElem?_getD, List.getElem?_eq_getElem hi]; rfl)
  rw [← Array.getElem?_toList] at hv
  rw [hv] at hv'; cases hv'
  cases q; exact ⟨_, rfl⟩
theorem min_strs {ts : List Str} (hne : 0 < ts.length) : OpN n (fun vals => PySem.call (.builtin "min") vals) [.d (.tuple (ts.map .str))] [] (.d (.str (minS ts))) [] := opN1 (f := fun a => call (.builtin "min") [a]) (fun n Γ loc led s u Q E O S ra h => by
  obtain ⟨l, ob, vs, k, as, rfl, h1, h2, h3, h4⟩ := rep_tuple ra
  have e := readsAll_length h4
  rw [List.length_map] at e
  have e' : vs.size = ts.length := by rw [← e]; simp
  have hl : l ≠ s.heap.objs.size := Nat.ne_of_lt (Heap.lt_size (vget h1))
  refine call_min_walk (wpAny_pyIter_tuple (isTuple_of h1 h2 h3) ⟨_, _, _, _, _, _, lessAt ts, rfl, Walks.tuple (prog := PP) (w := Γ.w) (A := Γ.A.in1) O.hh s.heap.objs.size l hl vs, ⟨⟨_, Heap.get?_push_size _ rfl, rfl, rfl⟩, ?_⟩, ?_, by lia, ?_, ?_⟩)
  · exact ⟨ob, Heap.get?_push_of_some _ (vget h1), h2, k, h3⟩
  · intro b hb
    rw [Heap.size_push]
    rcases List.mem_cons.mp hb with rfl | hb
    · exact Nat.lt_succ_self _
    · rw [List.mem_singleton.mp hb]; exact Nat.lt_succ_of_lt (Heap.lt_size (vget h1))
  · intro i j vi vj s' Q' E' hi hj hQ
    obtain ⟨u, rfl⟩ := strsT_walk (l := l) h4 hi
    obtain ⟨u', rfl⟩ := strsT_walk (l := l) h4 hj
    exact lt_str hQ
  · intro v h' tk hv hk
    obtain ⟨u, rfl⟩ := strsT_walk (l := l) h4 hv
    obtain ⟨S4, le4⟩ := S.grow (h' := h') (t := tk) fun b o e => hk b o (fun q => by rw [List.mem_singleton.mp q] at e; exact absurd (Heap.lt_size e) (Nat.lt_irrefl _)) (Heap.get?_push_of_some _ e)
    rw [e']
    exact h _ _ S4 le4 ⟨_, .str _ _⟩) fun _ => rfl
theorem max_strs {ts : List Str} (hne : 0 < ts.length) : OpN n (fun vals => PySem.call (.builtin "max") vals) [.d (.tuple (ts.map .str))] [] (.d (.str (maxS ts))) [] := opN1 (f := fun a => call (.builtin "max") [a]) (fun n Γ loc led s u Q E O S ra h => by
  obtain ⟨l, ob, vs, k, as, rfl, h1, h2, h3, h4⟩ := rep_tuple ra
  have e := readsAll_length h4
  rw [List.length_map] at e
  have e' : vs.size = ts.length := by rw [← e]; simp
  have hl : l ≠ s.heap.objs.size := Nat.ne_of_lt (Heap.lt_size (vget h1))
  refine call_max_walk (wpAny_pyIter_tuple (isTuple_of h1 h2 h3) ⟨_, _, _, _, _, _, fun i j => lessAt ts j i, rfl, Walks.tuple (prog := PP) (w := Γ.w) (A := Γ.A.in1) O.hh s.heap.objs.size l hl vs, ⟨⟨_, Heap.get?_push_size _ rfl, rfl, rfl⟩, ?_⟩, ?_, by lia, ?_, ?_⟩)
  · exact ⟨ob, Heap.get?_push_of_some _ (vget h1), h2, k, h3⟩
  · intro b hb
    rw [Heap.size_push]
    rcases List.mem_cons.mp hb with rfl | hb
    · exact Nat.lt_succ_self _
    · rw [List.mem_singleton.mp hb]; exact Nat.lt_succ_of_lt (Heap.lt_size (vget h1))
  · intro i j vi vj s' Q' E' hi hj hQ
    obtain ⟨u, rfl⟩ := strsT_walk (l := l) h4 hi
    obtain ⟨u', rfl⟩ := strsT_walk (l := l) h4 hj
    exact PySem.P.gt_str hQ
  · intro v h' tk hv hk
    obtain ⟨u, rfl⟩ := strsT_walk (l := l) h4 hv
    obtain ⟨S4, le4⟩ := S.grow (h' := h') (t := tk) fun b o e => hk b o (fun q => by rw [List.mem_singleton.mp q] at e; exact absurd (Heap.lt_size e) (Nat.lt_irrefl _)) (Heap.get?_push_of_some _ e)
    rw [e']
    exact h _ _ S4 le4 ⟨_, .str _ _⟩) fun _ => rfl
theorem Turns.searchP {α : Type} {t : Expr} {body : List Stmt} (f : α → V) (c : α → Bool) (v : α → V) (lb : Loc) (lr : Led) (row : List α) (h : ∀ pre x post, row = pre ++ x :: post → (∀ y ∈ pre, c y = false) → ∃ loc1, As Γ loc led t (f x) loc1 ∧ Ex Γ loc1 led body (if c x = true then .ret (v x) lb lr else .next loc led)) :
    Turns Γ t body (row.map f) loc led (match row.find? c with | some x => .ret (v x) lb lr | none => .next loc led) := by
  induction row with
  | nil => rfl
  | cons x r ih =>
    refine (h [] x r rfl fun _ h => nomatch h).elim fun loc1 hB => ⟨loc1, _, hB.1, hB.2, ?_⟩
    by_cases q : c x = true
    · simp only [q, if_true, List.find?_cons_of_pos]
    · simp only [q]
      rw [List.find?_cons_of_neg q]
      exact ih fun pre y post e hp => h (x :: pre) y post (by rw [e]; rfl) fun z hz => (List.mem_cons.mp hz).elim (fun e => e ▸ (Bool.eq_false_iff.mpr q)) (hp z)
theorem Ex.forSearchP (O : Ok n Γ) {α : Type} {t iter : Expr} {body rest : List Stmt} {pos : Pos} (f : α → V) (c : α → Bool) (v : α → V) (row : List α) {u : V} {lb : Loc} {lr : Led} (hx : SrcG Γ t loc led iter (row.map f) loc led)
    (h : ∀ pre x post, row = pre ++ x :: post → (∀ y ∈ pre, c y = false) → ∃ loc1, As Γ loc led t (f x) loc1 ∧ Ex Γ loc1 led body (if c x = true then .ret (v x) lb lr else .next loc led))
    (hF : ∀ x, row.find? c = some x → v x = u) (hN : row.find? c = none → Ex Γ loc led rest (.ret u lb lr)) (hs : autoParam (∀ x, foldedSetIterable iter Γ.env x = pure x) aI) : Ex Γ loc led (.For t iter body [] pos :: rest) (.ret u lb lr) := by
  have T := Turns.searchP (Γ := Γ) f c v lb lr row h
  cases q : row.find? c with
  | some x =>
    rw [q] at T
    have T : Turns Γ t body (row.map f) loc led (.ret (v x) lb lr) := T
    rw [hF x q] at T
    exact Ex.ret (Ex1.forG (o := .ret u lb lr) O hx T rfl hs)
  | none =>
    rw [q] at T
    exact Ex.cons (Ex1.forG (o := .next loc led) O hx T Ex.nil hs) (hN q)
theorem range_split {k : Nat} {pre post : List Nat} {x : Nat} (e : List.range k = pre ++ x :: post) : x < k ∧ ∀ y, y < x → y ∈ pre := by
  have hl : pre.length < k := by
    have := congrArg List.length e
    simp at this; lia
  have hx : x = pre.length := by
    have h1 : (List.range k)[pre.length]? = some pre.length := List.getElem?_range hl
    rw [e, List.getElem?_append_right (Nat.le_refl _), Nat.sub_self] at h1
    exact Option.some.inj h1
  refine ⟨by lia, fun y hy => ?_⟩
  have h2 : (List.range k)[y]? = some y := List.getElem?_range (by lia)
  rw [e, List.getElem?_append_left (by lia)] at h2
  exact List.mem_of_getElem? h2
noncomputable def charsD (x : Str) : List PyData := (List.range x.length).map fun i => .str ⟨#[x.cps.getD i 0]⟩
theorem pairs_chars (x : Str) : pairsFrom (charsD x) = (List.range x.length).map fun i : Nat => V.d (.tuple [.int (i : Int), .str ⟨#[x.cps.getD i 0]⟩]) := by
  unfold pairsFrom
  have e : (charsD x).length = x.length := by simp [charsD]
  rw [e]
  refine List.map_congr_left fun i hi => ?_
  have hi := List.mem_range.mp hi
  unfold charsD
  rw [List.getD_eq_getElem?_getD, List.getElem?_map, List.getElem?_range hi]; rfl
theorem srcG_enumS (O : Ok n Γ) {p pos tp : Pos} {e : Expr} {elts : List Expr} {k : Nat} {x : Str} (hf : Ev Γ loc led (.Name "enumerate" p) (.raw (.type "enumerate")) loc led) (h1 : Es Γ loc led [e] [.d (.str x)] loc1 led1)
    (he : autoParam (∀ pos, (backTo pos (starEach [e] Γ.env)).any (·.1) = false) aI) : SrcG Γ (.Tuple elts k tp) loc led (.Call (.Name "enumerate" p) [e] [] pos) (pairsFrom (charsD x)) loc1 led1 := fun s Q E S h => by
  refine callP_any O hf keep_type h1 S (fun vals s1 S1 le1 rs => ?_) he
  cases rs with
  | cons ra rn =>
  cases rn
  obtain ⟨t, rfl⟩ := rep_str ra
  obtain ⟨f1, f2, f3⟩ := S1.fresh
  refine call_enumerate_str fun h' e1 e2 e3 e4 => ?_
  obtain ⟨S2, le2⟩ := S1.grow (h' := h') (t := s1.toks) e4
  refine wpAny_pyIter_enum e1 ?_
  have lenx : (charsD x).length = x.cps.size := by simp [charsD]; rfl
  have W : Draws PP Γ.w Γ.A.in1 s1.heap.objs.size [s1.heap.objs.size] (charsD x).length (fun i v => ∃ c u, x.cps[i]? = some c ∧ v = .str ⟨#[c]⟩ u) (fun i h => h.IsStrIter s1.heap.objs.size (strIterType x) x t i) := by
    rw [lenx]
    unfold strIterType
    split
    · exact Draws.strAscii (A := Γ.A.in1) O.hh _ x t
    · exact Draws.strWide (A := Γ.A.in1) O.hh _ x t
  have ex : ∀ a ∈ exOf Γ led1, a < s1.heap.objs.size := S1.ex_lt
  obtain ⟨m, F⟩ := S1.fr
  have gn : ∀ a, s1.heap.objs.size ≤ a → Γ.g.get? a = none := fun a ha => by
    cases q : Γ.g.get? a with
    | none => rfl
    | some o => exact absurd (Heap.lt_size (F.keep a o q)) (Nat.not_lt.mpr ha)
  refine h _ _ _ _ _ (runG_enum (e := s1.heap.objs.size + 1) O W (Nat.succ_ne_self _) (fun hb => Nat.succ_ne_self _ (List.mem_singleton.mp hb)) (List.mem_cons_self ..) e1 e2 ?_ ⟨gn _ (Nat.le_succ _), gn _ (Nat.le_refl _)⟩ ?_ ?_) S2 (le1.trans le2) ?_
  · intro b hb
    rcases List.mem_cons.mp hb with rfl | hb
    · exact ⟨fun q => absurd (ex _ q) (Nat.not_lt.mpr (Nat.le_succ _)), _, e1⟩
    · rw [List.mem_singleton.mp hb]
      exact ⟨f2, let ⟨o, e, _⟩ := e2; ⟨o, e⟩⟩
  · rintro i hh ⟨o, ho, hc, _⟩
    refine ⟨o, _, ho, hc, ?_⟩
    unfold strIterType; split <;> decide
  · rintro i v hi ⟨c, u, hc, rfl⟩
    have : (charsD x)[i] = .str ⟨#[c]⟩ := by
      have hi' : i < x.length := by rw [lenx] at hi; exact hi
      have : (charsD x)[i]? = some (.str ⟨#[c]⟩) := by
        unfold charsD
        rw [List.getElem?_map, List.getElem?_range hi', Option.map_some, Array.getD_eq_getD_getElem?, hc]; rfl
      rw [List.getElem?_eq_getElem hi] at this
      exact Option.some.inj this
    rw [this]
    exact ⟨_, .str _ _⟩
  · intro b hb o q
    have := Heap.lt_size (vget (le1 _ _ q))
    rcases List.mem_cons.mp hb with rfl | hb
    · exact absurd this (Nat.not_lt.mpr (Nat.le_succ _))
    · rw [List.mem_singleton.mp hb] at this; exact Nat.lt_irrefl _ this
end
end
section
theorem kind_fs (x y : Str) : FS 1 35 [.d (.str x), .d (.str y)] (.d (.str "")) := by
  refine call_def1 (n := 0) ["name", "x"] ["t"] (fun w => by exact rfl) (fun w => by kernel_rfl) (by exact bind2 fun _ _ _ => BindsTo.of_eq rfl) rfl (by decide) rfl (fun C L => ⟨by decide, by decide, rfl, rfl⟩) fun C L O l => ?_
  refine Ex.let_ O l 2 (v := .raw (.type "str")) (Ev.callP O (nm_b_type O rfl) keep_type (Es.cons (Ev.nm O l 1) Es.nil) (type_op ty_str rfl)) ?_
  exact Ex.ret (Ex1.ifT (Bt.cmp O (Ev.nm O l 2) (nm_b_str O rfl) is_tt) (Ex.retD Ev.str))
theorem fspath_fs (x y : Str) : FS 2 42 [.d (.str x), .d (.str y)] (.d (.str y)) := by
  refine call_def1 (n := 1) ["name", "x"] ["k"] (fun w => by exact rfl) (fun w => by kernel_rfl) (by exact bind2 fun _ _ _ => BindsTo.of_eq rfl) rfl (by decide) rfl (fun C L => ⟨by decide, by decide, rfl, rfl⟩) fun C L O l => ?_
  refine Ex.let_ O l 2 (v := .d (.str "")) (Ev.callP O (nm_kind O rfl) (kp_kind _) (Es.cons (Ev.nm O l 0) (Es.cons (Ev.nm O l 1) Es.nil)) (kind_fs x y)) ?_
  exact Ex.cons (Ex1.ifF' rfl (Bt.of O (Ev.nm O l 2) (tru_str (x := "") (by decide))) Ex.nil) (Ex.retD (Ev.nm O l 1))
noncomputable def partAt (a b : Str) : Nat := ((List.range a.length).find? fun i => cAt a i != cAt b i).getD a.length
theorem prefix_fs (ts : List Str) (hne : 0 < ts.length) (hl : ∀ t ∈ ts, t.length ≤ 1000) (h1 : (minS ts).length ≤ 1000) (hd : ∀ i, (∀ j, j < i → cAt (minS ts) j = cAt (maxS ts) j) → i < (minS ts).length → i < (maxS ts).length) (h2 : (maxS ts).length ≤ 1000) : FS 1 49 [.d (.tuple (ts.map .str))] (.d (.str (tk (minS ts) (partAt (minS ts) (maxS ts))))) := by
  refine call_def1 (n := 0) ["m"] ["s1", "s2", "i", "c"] (fun w => by exact rfl) (fun w => by kernel_rfl) (by exact bind1 fun _ _ => BindsTo.of_eq rfl) rfl (by decide) rfl (fun C L => ⟨by decide, by decide, rfl, rfl⟩) fun C L O l => ?_
  refine Ex.let_ O l 1 (v := .d (.str (minS ts))) (Ev.callP O (nm_b_min O rfl) keep_blt (Es.cons (Ev.nm O l 0) Es.nil) (min_strs hne)) ?_
  refine Ex.let_ O l 2 (v := .d (.str (maxS ts))) (Ev.callP O (nm_b_max O rfl) keep_blt (Es.cons (Ev.nm O l 0) Es.nil) (max_strs hne)) ?_
  refine Ex.forSearchP O (fun i : Nat => V.d (.tuple [.int (i : Int), .str ⟨#[(minS ts).cps.getD i 0]⟩])) (fun i => cAt (minS ts) i != cAt (maxS ts) i) (fun i => V.d (.str (tk (minS ts) i))) (List.range (minS ts).length) (pairs_chars (minS ts) ▸ srcG_enumS O (nm_b_enumerate O rfl) (Es.cons (Ev.nm O l 1) Es.nil)) ?_ ?_ ?_
  · intro pre i post e hpre
    obtain ⟨hi, hy⟩ := range_split e
    have h3 : i < (maxS ts).length := hd i (fun j hj => by have := hpre j (hy j hj); simpa using this) hi
    have g2 : (maxS ts).cps[((i : Nat) : Int).toNat]? = some (cAt (maxS ts) i) := by
      have h3 : i < (maxS ts).cps.size := h3
      rw [Int.toNat_natCast, cAt, Array.getD_eq_getD_getElem?, Array.getElem?_eq_getElem h3]; rfl
    have z1 : (minS ts).length ≤ sizeLine := by rw [big]; lia
    have z2 : (maxS ts).length ≤ sizeLine := by rw [big]; lia
    refine ⟨_, As.tupI O l 3 4, ?_⟩
    by_cases q : (cAt (minS ts) i != cAt (maxS ts) i) = true
    · rw [if_pos q]
      exact Ex.ret (Ex1.ifT' ((char_ne _ _).trans q) (Bt.cmp O (Ev.nm O l 4) (Ev.sub O (Ev.nm O l 2) (Ev.nm O l 3) item_str (get_si (by lia) z2 g2)) ne_ss) (Ex.retD (Ev.sub O (Ev.nm O l 1) (Ev.slice Pt.none (Pt.some (Ev.nm O l 3)) Pt.none) item_str (get_sto z1))))
    · rw [if_neg q]
      exact Ex.cons (Ex1.ifF' ((char_ne _ _).trans (by simpa using q)) (Bt.cmp O (Ev.nm O l 4) (Ev.sub O (Ev.nm O l 2) (Ev.nm O l 3) item_str (get_si (by lia) z2 g2)) ne_ss) Ex.nil) (Ex.done l (by repeat first | exact Less.nil | refine Less.skip ?_ | refine Less.same ?_))
  · intro i hi
    unfold partAt; rw [hi]; rfl
  · intro hi
    have : partAt (minS ts) (maxS ts) = (minS ts).length := by unfold partAt; rw [hi]; rfl
    rw [this]
    have e : tk (minS ts) (minS ts).length = minS ts := by
      obtain ⟨⟨z⟩⟩ := minS ts
      show (⟨(z.take z.length).toArray⟩ : Str) = _
      rw [List.take_length]
    rw [e]
    exact Ex.retD (Ev.nm O l 1)
end
section
theorem src_strsT {l : List Str} : Src (.d (.tuple (l.map .str))) (l.map fun x => V.d (.str x)) := by
  have := src_tuple (xs := l.map .str)
  rw [List.map_map] at this; exact this
theorem tru_tuple {xs : List PyData} (hz : xs.length ≤ sizeLine) : Tru (.d (.tuple xs)) (!xs.isEmpty) := fun n Γ loc led s u Q E O S ra h => by
  refine aside fun zk => ?_
  obtain ⟨l, o, vs, k, as, rfl, h1, h2, h3, h4⟩ := rep_tuple ra
  apply zk
  have e := readsAll_length h4
  have e' : vs.size = xs.length := by rw [← e]; simp
  refine truthy_tuple ⟨o, (vget h1), h2, k, h3⟩ ?_ (h _ _ (S.toks _) Le.rfl ?_)
  · rw [big] at hz; lia
  · cases xs with
    | nil => simp at e'; subst e'; rfl
    | cons x r => cases q : vs.isEmpty with
      | false => rfl
      | true => simp at q; rw [q] at e'; cases e'
theorem Ok.less {a b : Nat} {Γ : Cx} (O : Ok b Γ) (h : a ≤ b) : Ok a Γ := { O with un := by have := O.un; lia, dp := by have := O.dp; lia, hA := fun q => O.hA (Nat.le_trans q h), gu := fun q => O.gu (Nat.le_trans q h), gb := fun q => O.gb (Nat.le_trans q h), fc := fun q => O.fc (Nat.le_trans q h) }
theorem OpN.mono {a b : Nat} {f : List Value → Sem Value} {args : List V} {fp fp' : Led} {v : V} (h : OpN a f args fp v fp') (hab : a ≤ b) : OpN b f args fp v fp' := fun Γ loc led s vals Q E O => h Γ loc led s vals Q E (O.less hab)
theorem commonprefix_fs (ts : List Str) (hne : 0 < ts.length) (hz : ts.length ≤ 1000) (p : Str) (hp : FS 1 49 [.d (.tuple (ts.map .str))] (.d (.str p))) : FS 3 54 [.d (.tuple (ts.map .str))] (.d (.str p)) := by
  refine call_def1 (n := 2) ["m"] ["t", "x", "y"] (fun w => by exact rfl) (fun w => by kernel_rfl) (by exact bind1 fun _ _ => BindsTo.of_eq rfl) rfl (by decide) rfl (fun C L => ⟨by decide, by decide, rfl, rfl⟩) fun C L O l => ?_
  have hz' : ts.length ≤ sizeLine := by rw [big]; lia
  obtain ⟨t0, r, rfl⟩ : ∃ t0 r, ts = t0 :: r := by cases ts with
    | nil => cases hne
    | cons a b => exact ⟨a, b, rfl⟩
  refine Ex.cons (Ex1.ifF (Bt.andT (Bt.cast (b := true) rfl (Bt.cmp O (Ev.callP O (nm_b_type O rfl) keep_type (Es.cons (Ev.nm O l 0) Es.nil) (type_op ty_tuple rfl)) (nm_b_list O rfl) isNot_tt)) (Bt.andF (Bt.cast (b := false) rfl (Bt.cmp O (Ev.callP O (nm_b_type O rfl) keep_type (Es.cons (Ev.nm O l 0) Es.nil) (type_op ty_tuple rfl)) (nm_b_tuple O rfl) isNot_tt)))) Ex.nil) ?_
  refine Ex.cons (Ex1.ifF' rfl (Bt.notT (Bt.cast (b := true) rfl (Bt.of O (Ev.nm O l 0) (tru_tuple (xs := (t0 :: r).map .str) (by simpa using hz'))))) Ex.nil) ?_
  refine Ex.let_ O l 1 (v := .raw (.type "str")) (Ev.callP O (nm_b_type O rfl) keep_type (Es.cons (Ev.sub O (Ev.nm O l 0) Ev.int item_tuple (get_ti (by decide) (by simpa using hz') (d := .str t0) rfl)) Es.nil) (type_op ty_str rfl)) ?_
  refine Ex.cons (Ex1.ifF (Bt.orF (Bt.cast (b := false) rfl (Bt.cmp O (Ev.nm O l 1) (nm_b_list O rfl) is_tt)) (Bt.orF (Bt.cast (b := false) rfl (Bt.cmp O (Ev.nm O l 1) (nm_b_tuple O rfl) is_tt)) Bt.orN)) Ex.nil) ?_
  refine Ex.less l (vs' := [some (.d (.tuple ((t0 :: r).map .str))), none, none, none]) (by repeat first | exact Less.nil | refine Less.skip ?_ | refine Less.same ?_) ?_
  refine Ex.forI O l 2 (fun _ => [some (.d (.tuple ((t0 :: r).map .str))), none, none, none]) (fun _ => []) (Ev.nm O l 0) src_strsT ?_ ?_
  · intro k y hy
    rw [List.getElem?_map] at hy
    obtain ⟨t, ht, rfl⟩ := Option.map_eq_some_iff.mp hy
    exact Ex.cons (Ex1.expr (v := .d (.str "")) (Ev.callP O (nm_kind O rfl) (kp_kind _) (Es.cons Ev.str (Es.cons (Ev.nm O l 2) Es.nil)) ((kind_fs _ t).mono (by decide))) rfl rfl) (Ex.done l (by repeat first | exact Less.nil | refine Less.skip ?_ | refine Less.same ?_))
  · refine Ex.retD (Ev.callP O (nm_prefix O rfl) (kp_prefix _) (Es.cons (Ev.callP O (nm_b_tuple O rfl) keep_type (Es.cons (Ev.compM O (t0 :: r) (fun x => V.d (.str x)) .str (Ev.nm O l 0) src_strsT (compOk [] [] rfl rfl rfl rfl rfl (of_decide_eq_true rfl) rfl rfl rfl rfl) hz' ?_) Es.nil) (tupleL_op (by simpa using hz'))) Es.nil) (hp.mono (by decide)))
    intro C D fz O' t ht
    have l' : LayR ["x"] := ⟨by decide, by decide⟩
    exact cstep O' l' rfl (Ev.callP O' (nm_fspath O' rfl) (kp_fspath _) (Es.cons Ev.str (Es.cons (Ev.nmR O' l' 0) Es.nil)) (fspath_fs _ t))
end
section
noncomputable def Cx.up (Γ : Cx) : Cx := { Γ with A := Γ.A.in1 }
section
variable {n : Nat} {Γ : Cx} {loc loc' loc1 loc2 : Loc} {led led' led1 led2 : Led} {s : Shared}
theorem Ok.up4 (O : Ok (n + 1) Γ) : Ok n Γ.up.up.up.up := { O with un := by have := O.un; show Γ.A.units + 1 + 1 + 1 + 1 + 4 * n ≤ 1000; lia, dp := by have := O.dp; show Γ.A.depth + n ≤ 900; lia, hA := fun h => O.hA (by lia), hh := O.hh, gu := fun h => O.gu (by lia), gb := fun h => O.gb (by lia), fc := fun h => O.fc (by lia) }
theorem Ok.dn (O : Ok n Γ.up) : Ok n Γ := { O with un := by have := O.un; have : Γ.A.units + 1 + 4 * n ≤ 1000 := this; lia, dp := O.dp, hA := O.hA, hh := O.hh, gu := O.gu, gb := O.gb, fc := O.fc }
theorem St.up (S : St Γ loc led s) : St Γ.up loc led s := ⟨S.fr, S.nm, S.ld, S.nd, S.pv, S.os, S.gn, S.fz⟩
theorem St.dn (S : St Γ.up loc led s) : St Γ loc led s := ⟨S.fr, S.nm, S.ld, S.nd, S.pv, S.os, S.gn, S.fz⟩
structure WalkL (Γ : Cx) (loc : Loc) (I : Addr) (T : String) (ds : List PyData) (L : Nat → Led) (L' : Led) : Prop where
  ty : ∀ i led' s, St Γ loc (L i ++ led') s → s.TypeIs (.ref I) T
  self : ∀ led' s (Q : Value → Shared → Prop) (E : Value → Shared → Prop), St Γ loc (L 0 ++ led') s → Q (.ref I) s → wpAny (MM Γ.w) Γ.A (pyIter (.ref I)) Q E s
  item : ∀ i d led' s (Q : Option Value → Shared → Prop) (E : Value → Shared → Prop), ds[i]? = some d → St Γ loc (L i ++ led') s →
    (∀ v s', St Γ loc (L (i + 1) ++ led') s' → Le Γ (L i ++ led') s (L (i + 1) ++ led') s' → RepV (vis Γ (L (i + 1) ++ led') s') (.d d) v → Q (some v) s') → wpAny (MM Γ.w) Γ.A (pyNext (.ref I)) Q E s
  done : ∀ led' s (Q : Option Value → Shared → Prop) (E : Value → Shared → Prop), St Γ loc (L ds.length ++ led') s →
    (∀ s', St Γ loc (L' ++ led') s' → Le Γ (L ds.length ++ led') s (L' ++ led') s' → Q Option.none s') → wpAny (MM Γ.w) Γ.A (pyNext (.ref I)) Q E s
theorem extend_loopL {I : Addr} {T : String} {ds : List PyData} {L : Nat → Led} {L' : Led} (O : Ok n Γ.up) (W : WalkL Γ.up loc I T ds L L') (hz : ds.length ≤ sizeLine) (S : Addr) (res : Value) {R : Result → Shared → Prop} :
    ∀ (k i : Nat) (s : Shared), ds.length - i = k → i ≤ ds.length → St Γ.up loc (L i ++ (S, lstO (ds.take i)) :: led) s →
    (∀ s', St Γ.up loc (L' ++ (S, lstO ds) :: led) s' → Le Γ.up (L i ++ (S, lstO (ds.take i)) :: led) s (L' ++ (S, lstO ds) :: led) s' → R (.ok (.ret res)) s') →
    codeAny (MM Γ.w) Γ.A (.builtin "list.extend.loop" ⟨[.ref S, .ref I, res], []⟩) R s := by
  intro k
  induction k with
  | zero =>
    intro i s hk hi hs hR
    have hin : i = ds.length := by lia
    subst hin
    refine codeAny_builtin F.entry_extend_loop ?_
    rw [Around.under_plainId F.plain_extend_loop _]
    show wpAny _ Γ.A.in1 (pyNext (.ref I) >>= _) _ _ s
    refine wpAny_bind (W.done _ s _ _ hs fun s' S' le => ?_)
    rw [List.take_length] at S' le hR
    exact wpAny_pure (hR s' S' le)
  | succ k ih =>
    intro i s hk hi hs hR
    have hlt : i < ds.length := by lia
    refine codeAny_builtin F.entry_extend_loop ?_
    rw [Around.under_plainId F.plain_extend_loop _]
    show wpAny _ Γ.A.in1 (pyNext (.ref I) >>= _) _ _ s
    refine wpAny_bind (W.item i ds[i] _ s _ _ (List.getElem?_eq_getElem hlt) hs fun v s' S' le rv => ?_)
    refine aside fun zk => ?_
    obtain ⟨h1, h2, o, h3, vals, c, as, rfl, r⟩ := S'.ld (S, lstO (ds.take i)) (by simp)
    obtain ⟨bs, rv⟩ := rv
    apply zk
    have len := readsAll_length r
    have len' : vals.size = i := by
      have : vals.size = vals.toList.length := by simp
      rw [this, len, List.length_take]; lia
    show wpAny _ Γ.A.in1 (updateSeq S (·.push v) >>= _) _ _ _
    refine wpAny_bind ?_
    have hS' : s'.heap.get? S = some { cls := .type "list", data := .seq vals c } := h3
    refine wpAny_updateSeq hS' rfl (wpAny_pure ⟨plainId_quiet F.plain_extend_loop _, ?_⟩) (by lia) (by show (vals.push v).size ≤ sizeLine + 1; rw [Array.size_push]; lia)
    obtain ⟨S4, le4⟩ := S'.setLed (x' := lstO (ds.take (i + 1))) (h' := s'.heap.update S (Obj.mapSeq (·.push v))) (t := s'.toks) O (Heap.SameBut.update ..) (Heap.get?_update_self (Obj.mapSeq (·.push v)) hS' rfl) fun w kk => by
      obtain ⟨cs, r3⟩ := readsAll_app (readsAll_sub kk r) (.cons (reads_sub kk rv) .nil)
      refine ⟨vals.push v, _, cs, rfl, ?_⟩
      rw [List.take_add_one, List.getElem?_eq_getElem hlt]
      simpa using r3
    exact ih (i + 1) _ (by lia) hlt S4 fun s'' S'' le'' => hR s'' S'' (le.trans (le4.trans le''))
theorem collectL {I : Addr} {T : String} {ds : List PyData} {L : Nat → Led} {L' : Led} (O : Ok n Γ.up) (W : WalkL Γ.up loc I T ds L L') (hz : ds.length ≤ sizeLine) (hT : (Value.type T == Value.type "list") = false ∧ (Value.type T == Value.type "tuple") = false)
    (hl : typeLookup (.type T) "__len__" = pure none) (hh : typeLookup (.type T) "__length_hint__" = pure none) {Q : List Value → Shared → Prop} {E : Value → Shared → Prop} (S : St Γ loc (L 0 ++ led) s)
    (h : ∀ vals s', St Γ loc (L' ++ led) s' → Le Γ (L 0 ++ led) s (L' ++ led) s' → (∃ as, ReadsAll (vis Γ (L' ++ led) s') vals ds as) → Q vals s') : wpAny (MM Γ.w) Γ.A (collect (.ref I)) Q E s := by
  have hI : I < s.heap.objs.size := by obtain ⟨o, e, _⟩ := W.ty 0 led s S.up; exact Heap.lt_size e
  have hSI : s.heap.objs.size ≠ I := Nat.ne_of_gt hI
  unfold collect
  refine wpAny_bind (wpAny_runValue (codeAny_builtin F.entry_proto_collect ?_))
  rw [Around.under_plainId F.plain_proto_collect _]
  show wpAny _ Γ.A.in1 (newList [] >>= fun l => again (.builtin "list.__iadd__" ⟨[l, .ref I], []⟩)) _ _ s
  refine wpAny_bind (wpAny_newObj_type ?_)
  refine wpAny_pure ⟨plainId_quiet F.plain_list_iadd _, codeAny_builtin F.entry_list_iadd ?_⟩
  rw [Around.under_plainId F.plain_list_iadd _]
  refine aside fun zk => ?_
  obtain ⟨S1, le1⟩ := S.up.new (ob := { cls := .type "list", data := .seq ([] : List Value).toArray }) (t := s.toks) rfl (x := lstO (ds.take 0)) fun v _ => ⟨_, _, _, rfl, .nil⟩
  have pm : ((s.heap.objs.size, lstO (ds.take 0)) :: (L 0 ++ led)).Perm (L 0 ++ (s.heap.objs.size, lstO (ds.take 0)) :: led) := (List.perm_middle).symm
  obtain ⟨S2, le2⟩ := S1.perm pm
  apply zk
  have ty := W.ty 0 _ _ S2
  show wpAny _ Γ.A.in1 (Builtin.List.listExtendWith (.ref s.heap.objs.size) (.ref I) (.ref s.heap.objs.size)) _ _ _
  unfold Builtin.List.listExtendWith
  refine wpAny_bind (wpAny_typeOf ty ?_)
  have h1 : Builtin.List.listSameRef (.ref s.heap.objs.size) (.ref I) = false := by simp [Builtin.List.listSameRef, hSI]
  simp only [h1, hT.1, hT.2, Bool.or_false, Bool.false_eq_true, if_false]
  refine wpAny_bind (W.self _ _ _ _ S2 ?_)
  refine wpAny_bind (wpAny_holding ?_)
  unfold Builtin.List.listLengthHint
  refine wpAny_bind (wpAny_specialOf ty hl ?_)
  show wpAny _ Γ.A.in1 (specialOf (Value.ref I) (Str.ofString "__length_hint__") >>= _) _ _ _
  refine wpAny_bind (wpAny_specialOf ty hh ?_)
  refine wpAny_pure ?_
  show wpAny _ Γ.A.in1 (rule "list.extend.makes-room" >>= fun _ => Builtin.List.listTouch (.ref s.heap.objs.size) >>= fun _ =>
    again (.builtin "list.extend.loop" ⟨[.ref s.heap.objs.size, .ref I, .ref s.heap.objs.size], []⟩)) _ _ _
  refine wpAny_bind (wpAny_rule ?_)
  have hS₁ : (s.heap.push { cls := .type "list", data := .seq ([] : List Value).toArray }).get? s.heap.objs.size = some { cls := .type "list", data := .seq ([] : List Value).toArray } := Heap.get?_push_size _ rfl
  refine wpAny_bind ?_
  show wpAny _ Γ.A.in1 (updateSeq s.heap.objs.size (·.push .none) >>= fun _ => updateSeq s.heap.objs.size (·.pop)) _ _ _
  refine wpAny_bind (wpAny_updateSeq hS₁ rfl ?_)
  have hS₂ := Heap.get?_update_self (Obj.mapSeq (·.push Value.none)) hS₁ rfl
  refine wpAny_updateSeq hS₂ rfl ?_
  have hS₃ := Heap.get?_update_self (Obj.mapSeq (·.pop)) hS₂ rfl
  obtain ⟨S3, le3⟩ := S2.setLed (x' := lstO (ds.take 0)) (t := s.toks) O (Heap.SameBut.trans (Heap.SameBut.update ..) (Heap.SameBut.update ..)) hS₃ fun v _ => ⟨_, _, _, rfl, .nil⟩
  refine wpAny_pure ⟨plainId_quiet F.plain_extend_loop _, extend_loopL O W hz _ _ ds.length 0 _ (by lia) (Nat.zero_le _) S3 fun s' S' le' => ?_⟩
  refine aside fun zk => ?_
  obtain ⟨S4, le4⟩ := S'.perm (List.perm_middle (l₁ := L') (a := (s.heap.objs.size, lstO ds)) (l₂ := led))
  obtain ⟨q1, q2, o, q3, vals, c, as, rfl, r⟩ := S4.ld _ (.head _)
  obtain ⟨S5, le5⟩ := S4.drop
  apply zk
  show wpAny _ Γ.A (load s.heap.objs.size >>= _) _ _ s'
  refine wpAny_bind (wpAny_load q3 ?_)
  refine wpAny_pure (h _ s' S5.dn (le1.trans (le2.trans (le3.trans (le'.trans (le4.trans le5))))) ⟨as, readsAll_sub (.of le5) r⟩)
end
end
section
namespace FM
theorem mro_map : mroOf (.type "map") = pure [.type "map", .type "object"] := by rw [mroOf_type]; kernel_rfl
theorem lookup_map_new : typeLookup (.type "map") "__new__" = pure (some (.builtin "map.__new__")) := by rw [typeLookup_type, builtinLookup_eq_fast]; kernel_rfl
theorem entry_map_iter : entryFor table "map.__iter__" = some Builtin.«dict_keyiterator.__iter__» :=
  entryFor_alias (id' := "dict_keyiterator.__iter__") (by kernel_rfl) (by first | rfl | decide +kernel | (unfold String.splitOn; simp +decide [String.splitOnAux])) (by decide +kernel) (by kernel_rfl)
theorem slot_map_next : Slot "map" "__next__" "map.__next__" :=
  .of (owner := "map") (n := "__next__") (by rw [typeLookup_type, builtinLookup_eq_fast]; kernel_rfl) (by decide +kernel) (by decide +kernel) (by decide +kernel)
    (by first | exact .inl (by decide +kernel) | exact .inr (by decide +kernel)) (by rw [isSubtype_type]; kernel_rfl)
theorem slot_map_iter : Slot "map" "__iter__" "map.__iter__" :=
  .of (owner := "map") (n := "__iter__") (by rw [typeLookup_type, builtinLookup_eq_fast]; kernel_rfl) (by decide +kernel) (by decide +kernel) (by decide +kernel)
    (by first | exact .inl (by decide +kernel) | exact .inr (by decide +kernel)) (by rw [isSubtype_type]; kernel_rfl)
theorem slot_map_init : Slot "map" "__init__" "object.__init__" :=
  .of (owner := "object") (n := "__init__") (by rw [typeLookup_type, builtinLookup_eq_fast]; kernel_rfl) (by decide +kernel) (by decide +kernel) (by decide +kernel)
    (by first | exact .inl (by decide +kernel) | exact .inr (by decide +kernel)) (by rw [isSubtype_type]; kernel_rfl)
theorem entry_map_next : entryFor table "map.__next__" = some Builtin.«map.__next__» := entryFor_of_tree (by kernel_rfl)
theorem entry_map_new : entryFor table "map.__new__" = some Builtin.«map.__new__» := entryFor_of_tree (by kernel_rfl)
theorem args_map_next_1 (a : Value) : argsOk "map.__next__" ⟨[a], []⟩ := by unfold argsOk; kernel_rfl
theorem args_map_iter_1 (a : Value) : argsOk "map.__iter__" ⟨[a], []⟩ := by unfold argsOk; kernel_rfl
theorem typeCall_map_2 (a b : Value) : checkTypeCall "map" ⟨[a, b], []⟩ = pure () := by kernel_rfl
theorem newCall_map_2 (a b : Value) : checkBuiltinCall "map.__new__" ⟨[.type "map", a, b], []⟩ = pure () := by kernel_rfl
theorem nolen_map : typeLookup (.type "map") "__len__" = pure none := by rw [typeLookup_type, builtinLookup_eq_fast]; kernel_rfl
theorem nohint_map : typeLookup (.type "map") "__length_hint__" = pure none := by rw [typeLookup_type, builtinLookup_eq_fast]; kernel_rfl
theorem sub_map : isSubtype (.type "map") (.type "map") = pure true := by rw [isSubtype_type]; kernel_rfl
theorem called_map : TypeCalled "map" "map.__new__" "object.__init__" :=
  ⟨by decide +kernel, by decide +kernel, ⟨_, _, mro_map⟩, madeBy_type mro_map lookup_map_new (by decide +kernel), by decide +kernel, by rw [isSubtype_type]; kernel_rfl, slot_map_init⟩
end FM
end
section
noncomputable def anyO : O := ⟨fun _ _ => True, fun _ h => h⟩
noncomputable def tupIterO (ax : Addr) (xs : List PyData) (i : Nat) : O := ⟨fun h o => (o.cls = .type "tuple_iterator" ∧ o.data = .fields #[.ref ax, .int i 0]) ∧ ∃ ot vals k as, h.get? ax = some ot ∧ ot.cls = .type "tuple" ∧ ot.data = .seq vals k ∧ ReadsAll h vals.toList xs as,
  fun k ⟨h1, ot, vals, kk, as, h2, h3, h4, h5⟩ => ⟨h1, ot, vals, kk, as, k _ _ h2 ⟨_, by decide, h3⟩, h3, h4, readsAll_sub k h5⟩⟩
noncomputable def mapObj (its : Addr) (f : Value) : Obj := { cls := .type "map", data := .fields #[.ref its, f] }
noncomputable def itsObj (it : Addr) : Obj := { cls := .type "tuple", data := .seq #[.ref it] }
section
variable {n : Nat} {Γ : Cx} {loc loc' loc1 loc2 : Loc} {led led' led1 led2 : Led} {s : Shared}
theorem walk_map (O : Ok n Γ.up) {f : Value} {xs ds : List PyData} (hlen : xs.length = ds.length) (hf : ∀ (i : Nat) x d, xs[i]? = some x → ds[i]? = some d → OpN n (fun vals => PySem.call f vals) [.d x] [] (.d d) []) (I its it ax : Addr) :
    WalkL Γ loc I "map" ds (fun i => [(I, exactO (mapObj its f)), (its, exactO (itsObj it)), (it, tupIterO ax xs i)]) [(I, exactO (mapObj its f)), (its, exactO (itsObj it))] where
  ty := fun i led' s S => by
    refine aside fun zk => ?_
    obtain ⟨_, _, o, h3, h4⟩ := S.ld _ (.head _)
    cases h4
    apply zk
    exact ⟨_, h3, rfl⟩
  self := fun led' s Q E S h => by
    obtain ⟨_, _, o, h3, h4⟩ := S.ld _ (.head _)
    cases h4
    exact wpAny_pyIter_slot ⟨_, h3, rfl⟩ FM.slot_map_iter (wpAny_call_entry FM.slot_map_iter ⟨_, h3, rfl⟩ FM.entry_map_iter (show wpAny _ _ (PySem.ret (.ref I)) _ _ s from wpAny_pure ⟨_, rfl, "map", _, ⟨_, h3, rfl⟩, FM.slot_map_next.lookup, h⟩) (FM.args_map_iter_1 _))
  item := fun i d led' s Q E hd S h => by
    refine aside fun zk => ?_
    obtain ⟨_, _, o, h3, h4⟩ := S.ld _ (.head _)
    cases h4
    obtain ⟨_, _, o2, h5, h6⟩ := S.ld _ (.tail _ (.head _))
    cases h6
    obtain ⟨p1, p2, o3, h7, h8, ot, vals, k, as, g1, g2, g3, r⟩ := S.ld _ (.tail _ (.tail _ (.head _)))
    have hT : s.TypeIs (.ref I) "map" := ⟨_, h3, rfl⟩
    have hi : i < xs.length := by rw [hlen]; exact (List.getElem?_eq_some_iff.mp hd).1
    obtain ⟨v, bs, hv, rv⟩ := readsAll_get r (List.getElem?_eq_getElem hi)
    apply zk
    have itIs : s.heap.IsTupleIter it ax i := ⟨_, h7, h8.1, h8.2⟩
    have axIs : s.heap.IsTuple ax vals := isTuple_of g1 g2 g3
    unfold pyNext
    refine wpAny_bind (wpAny_attempt (wpAny_callSpecial?_slot (name := Str.ofString "__next__") hT FM.slot_map_next (wpAny_call_entry FM.slot_map_next hT FM.entry_map_next ?_ (FM.args_map_next_1 _))))
    show wpAny _ _ (field (.ref I) 0 >>= _) _ _ s
    refine wpAny_bind (wpAny_field h3 rfl (x := .ref its) rfl ?_)
    show wpAny _ _ (seqItems? (.ref its) >>= _) _ _ s
    refine wpAny_bind (wpAny_seqItems h5 rfl ?_)
    refine wpAny_bind ?_
    rw [← Array.forIn_toList]
    show wpAny _ Γ.A.in1 (forIn [Value.ref it] #[] _) _ _ s
    rw [List.forIn_cons]
    refine wpAny_bind (wpAny_bind (wpAny_holding (wpAny_nextOf_tuple_item itIs axIs (by simpa using hv) fun h' hit' hs' => ?_)))
    refine wpAny_pure ?_
    show wpAny _ Γ.A.in1 (forIn [] #[v] _) _ _ _
    rw [List.forIn_nil]
    refine wpAny_pure ?_
    show wpAny _ Γ.A.in1 (field (.ref I) 1 >>= _) _ _ _
    refine aside fun zk => ?_
    obtain ⟨oi, hoi, hci, hdi⟩ := id hit'
    obtain ⟨S1, le1⟩ := S.setLed (pre := [(I, exactO (mapObj its f)), (its, exactO (itsObj it))]) (x' := tupIterO ax xs (i + 1)) (post := led') (t := s.toks) O.dn hs' hoi fun w kk => ⟨⟨hci, hdi⟩, ot, vals, k, as, kk _ _ g1 ⟨_, by decide, g2⟩, g2, g3, readsAll_sub kk r⟩
    obtain ⟨_, _, o, h3', h4'⟩ := S1.ld _ (.head _)
    cases h4'
    apply zk
    refine wpAny_bind (wpAny_field h3' rfl (x := f) rfl ?_)
    show wpAny _ Γ.A.in1 (holding [v] (call f [v]) >>= _) _ _ _
    refine wpAny_bind (wpAny_holding (hf i _ d (List.getElem?_eq_getElem hi) hd Γ.up loc _ _ [v] _ _ O S1.up (.cons ⟨bs, reads_sub (.of le1) rv⟩ .nil) fun v' s2 S2 le2 r2 => ?_))
    refine wpAny_bind (wpAny_letGo (wpAny_pure ⟨_, rfl, wpAny_pure (h v' s2 S2.dn (le1.trans le2) r2)⟩))
  done := fun led' s Q E S h => by
    refine aside fun zk => ?_
    obtain ⟨_, _, o, h3, h4⟩ := S.ld _ (.head _)
    cases h4
    obtain ⟨_, _, o2, h5, h6⟩ := S.ld _ (.tail _ (.head _))
    cases h6
    obtain ⟨p1, p2, o3, h7, h8, ot, vals, k, as, g1, g2, g3, r⟩ := S.ld _ (.tail _ (.tail _ (.head _)))
    apply zk
    have hT : s.TypeIs (.ref I) "map" := ⟨_, h3, rfl⟩
    have len := readsAll_length r
    have itIs : s.heap.IsTupleIter it ax ds.length := ⟨_, h7, h8.1, h8.2⟩
    have axIs : s.heap.IsTuple ax vals := isTuple_of g1 g2 g3
    unfold pyNext
    refine wpAny_bind (wpAny_attempt (wpAny_callSpecial?_slot (name := Str.ofString "__next__") hT FM.slot_map_next (wpAny_call_entry FM.slot_map_next hT FM.entry_map_next ?_ (FM.args_map_next_1 _))))
    show wpAny _ _ (field (.ref I) 0 >>= _) _ _ s
    refine wpAny_bind (wpAny_field h3 rfl (x := .ref its) rfl ?_)
    show wpAny _ _ (seqItems? (.ref its) >>= _) _ _ s
    refine wpAny_bind (wpAny_seqItems h5 rfl ?_)
    refine wpAny_bind ?_
    rw [← Array.forIn_toList]
    show wpAny _ Γ.A.in1 (forIn [Value.ref it] #[] _) _ _ s
    rw [List.forIn_cons]
    refine wpAny_bind (wpAny_bind (wpAny_holding (wpAny_nextOf_tuple_end O.hh itIs axIs (by
      have : vals.size = ds.length := by rw [← hlen, ← len]; simp
      rw [← this]; simp) fun h' e hx he => ?_)))
    refine aside fun zk => ?_
    obtain ⟨oe, hoe, hce⟩ := he
    apply zk
    refine wpAny_bind (wpAny_isInstance (T := "StopIteration") (b := true) ⟨oe, hoe, hce⟩ isSubtype_stop ?_)
    refine wpAny_pure ?_
    refine aside fun zk => ?_
    have pm : ([(I, exactO (mapObj its f)), (its, exactO (itsObj it)), (it, tupIterO ax xs ds.length)] ++ led').Perm ((it, tupIterO ax xs ds.length) :: ([(I, exactO (mapObj its f)), (its, exactO (itsObj it))] ++ led')) := List.perm_middle (l₁ := [(I, exactO (mapObj its f)), (its, exactO (itsObj it))])
    obtain ⟨S1, le1⟩ := S.perm pm
    obtain ⟨S2, le2⟩ := S1.drop
    have nit : it ∉ exOf Γ ([(I, exactO (mapObj its f)), (its, exactO (itsObj it))] ++ led') := fun hb => (List.mem_append.mp hb).elim p1 (List.nodup_cons.mp S1.nd).1
    have kk : ∀ b ob, b ∉ [it] → s.heap.get? b = some ob → h'.get? b = some ob := fun b ob hb e => hx b ob (by simpa using hb) e
    obtain ⟨S3, _⟩ := S2.iters (wr := [it]) (h' := h') (t := s.toks) (fun J hJ => by rw [List.mem_singleton.mp hJ]; exact nit) (fun J hJ => by rw [List.mem_singleton.mp hJ]; exact p2) (fun J hJ ob e => by
      rw [List.mem_singleton.mp hJ] at e
      have e : some o3 = some ob := h7.symm.trans e
      cases e
      exact not_dat h8.1 (by decide)) kk O.dn
    apply zk
    refine h _ S3 fun b ob e => ?_
    have e1 := vget ((le2 b ob (le1 b ob e)))
    have e2 := vout ((le2 b ob (le1 b ob e)))
    have hb : b ≠ it := fun q => (vout e) (List.mem_append_right _ (by rw [q]; simp))
    exact vmk (hx b ob hb e1) e2
end
end
section
open AutoSeq1 (wpAny_loadPart') in
theorem meets_map_newT (f : Value) (l : Addr) (items : Array Value) (n : Nat) (dct : Option Addr) (sl : Array (Option Value)) :
    Meets (Builtin.«map.__new__» ⟨[.type "map", f, .ref l], []⟩) (fun _ R s => s.heap.get? l = some { cls := .type "tuple", dict := dct, data := .seq items n, slots := sl } ∧
      R (.ok (.ret (.ref (s.heap.objs.size + 2))))
        { s with heap := ((s.heap.push { cls := .type "tuple_iterator", data := .fields #[.ref l, .int 0 0] }).push (itsObj s.heap.objs.size)).push (mapObj (s.heap.objs.size + 1) f) }) :=
  .of_wp fun prog w A R s h => by
    obtain ⟨hp, g, d, tk, os⟩ := s; obtain ⟨hl, h⟩ := h
    have hsub := FM.sub_map
    have hL : Heap.IsTuple (Shared.heap ⟨hp, g, d, tk, os⟩) l items := ⟨_, hl, rfl, n, rfl⟩
    wp_walk using wpAny_loadPart' hl, wpAny_pyIter_tuple hL
    refine ⟨_, rfl, ?_⟩
    simp only [Heap.size_push]
    exact h
theorem code_tuple_newL {n : Nat} {Γ : Cx} {loc : Loc} {led : Led} {s : Shared} {I : Addr} {T : String} {ds : List PyData} {L : Nat → Led} {L' : Led} {Q₁ : Value → Shared → Prop} {E : Value → Shared → Prop} (O : Ok n Γ.up.up.up) (W : WalkL Γ.up.up.up loc I T ds L L') (hz : ds.length ≤ sizeLine) (hT : (Value.type T == Value.type "list") = false ∧ (Value.type T == Value.type "tuple") = false)
    (hl : typeLookup (.type T) "__len__" = pure none) (hh : typeLookup (.type T) "__length_hint__" = pure none) (S : St Γ loc (L 0 ++ led) s)
    (h : ∀ vals s', St Γ loc (L' ++ led) s' → Le Γ (L 0 ++ led) s (L' ++ led) s' → (∃ as, ReadsAll (vis Γ (L' ++ led) s') vals ds as) → Q₁ (.ref s'.heap.objs.size) { s' with heap := s'.heap.push { cls := .type "tuple", data := .seq vals.toArray } }) :
    codeAny (MM Γ.w) Γ.up.A (.call (.builtin "tuple.__new__") ⟨[.type "tuple", .ref I], []⟩) (wants Q₁ E) s := by
  refine codeAny_of_tree ?_
  show wpAny _ Γ.up.up.A (do checkBuiltinCall "tuple.__new__" ⟨[.type "tuple", .ref I], []⟩; again (.builtin "tuple.__new__" ⟨[.type "tuple", .ref I], []⟩)) _ _ s
  refine wpAny_bind (wpAny_of_eq (F.newCall_tuple_1 _) (wpAny_pure ⟨plainId_quiet F.plain_tuple_new _, codeAny_builtin F.entry_tuple_new ?_⟩))
  rw [Around.under_plainId F.plain_tuple_new _]
  have hsub := sub_tuple_self
  have hinit := init_tuple_lookup
  have hmh := madeHere_tuple
  have hTI := W.ty 0 led s S.up.up.up
  have Cc : ∀ {Q : List Value → Shared → Prop} {E : Value → Shared → Prop}, (∀ vals s', St Γ.up.up loc (L' ++ led) s' → Le Γ (L 0 ++ led) s (L' ++ led) s' → (∃ as, ReadsAll (vis Γ (L' ++ led) s') vals ds as) → Q vals s') → wpAny (model PP Γ.w) Γ.up.A.in1 (collect (.ref I)) Q E s := fun {Q E} k => collectL (Γ := Γ.up.up) O W hz hT hl hh S.up.up k
  wp_walk using wpAny_typeOf hTI, Cc
  intro vals s' S' le' r'
  show wpAny _ _ (Builtin.Tuple.tupleExact vals.toArray >>= fun v => PySem.ret v) _ _ _
  unfold Builtin.Tuple.tupleExact
  obtain ⟨as, r'⟩ := r'
  have len := readsAll_length r'
  refine wpAny_bind (wpAny_newObj_type ?_ (by show vals.toArray.size ≤ sizeLine; rw [List.size_toArray, len]; exact hz))
  exact wpAny_pure (h vals s' S'.dn.dn le' ⟨as, r'⟩)
end
section
section
variable {n : Nat} {Γ : Cx} {loc loc' loc1 loc2 : Loc} {led led' led1 led2 : Led} {s : Shared}
theorem map_new {f : Value} {l : Addr} {ob : Obj} {vs : Array Value} {k : Nat} {as : List Addr} {xs : List PyData} {Q : Value → Shared → Prop} {E : Value → Shared → Prop} (S : St Γ loc led s) (g1 : (vis Γ led s).get? l = some ob) (g2 : ob.cls = .type "tuple") (g3 : ob.data = .seq vs k) (r : ReadsAll (vis Γ led s) vs.toList xs as)
    (h : ∀ s', St Γ loc ([(s.heap.objs.size + 2, exactO (mapObj (s.heap.objs.size + 1) f)), (s.heap.objs.size + 1, exactO (itsObj s.heap.objs.size)), (s.heap.objs.size, tupIterO l xs 0)] ++ led) s' → Le Γ led s ([(s.heap.objs.size + 2, exactO (mapObj (s.heap.objs.size + 1) f)), (s.heap.objs.size + 1, exactO (itsObj s.heap.objs.size)), (s.heap.objs.size, tupIterO l xs 0)] ++ led) s' → Q (.ref (s.heap.objs.size + 2)) s') : wpAny (MM Γ.w) Γ.A (call (.type "map") [f, .ref l]) Q E s := by
  obtain ⟨c, dct, dt, sl⟩ := ob
  replace g2 : c = .type "tuple" := g2
  replace g3 : dt = .seq vs k := g3
  subst g2 g3
  refine callType_new FM.called_map (by decide) (FM.typeCall_map_2 _ _) (FM.newCall_map_2 _ _) (fun obj => F.args_object_init_3 obj _ _) FM.entry_map_new (meets_map_newT f l vs k dct sl) ⟨(vget g1), ?_⟩
  refine aside fun zk => ?_
  obtain ⟨S1, le1⟩ := S.new (ob := { cls := .type "tuple_iterator", data := .fields #[.ref l, .int 0 0] }) (t := s.toks) rfl (x := tupIterO l xs 0) fun v kk => ⟨⟨rfl, rfl⟩, _, vs, k, as, kk _ _ g1 ⟨_, by decide, rfl⟩, rfl, rfl, readsAll_sub kk r⟩
  obtain ⟨S2, le2⟩ := S1.new (ob := itsObj s.heap.objs.size) (t := s.toks) rfl (x := exactO (itsObj s.heap.objs.size)) fun _ _ => rfl
  obtain ⟨S3, le3⟩ := S2.new (ob := mapObj (s.heap.objs.size + 1) f) (t := s.toks) rfl (x := exactO (mapObj (s.heap.objs.size + 1) f)) fun _ _ => rfl
  apply zk
  simp only [Heap.size_push] at S2 le2 S3 le3
  refine ⟨⟨mapObj (s.heap.objs.size + 1) f, ?_, rfl⟩, h _ S3 (le1.trans (le2.trans le3))⟩
  have := Heap.get?_push_size ((s.heap.push { cls := .type "tuple_iterator", data := .fields #[.ref l, .int 0 0] }).push (itsObj s.heap.objs.size)) (o := mapObj (s.heap.objs.size + 1) f) rfl
  simpa only [Heap.size_push] using this
theorem tuple_of_walk {I : Addr} {T : String} {ds : List PyData} {L : Nat → Led} {L' : Led} {Q : Value → Shared → Prop} {E : Value → Shared → Prop} (O : Ok n Γ.up.up.up) (W : WalkL Γ.up.up.up loc I T ds L L') (hz : ds.length ≤ sizeLine) (hT : (Value.type T == Value.type "list") = false ∧ (Value.type T == Value.type "tuple") = false)
    (hl : typeLookup (.type T) "__len__" = pure none) (hh : typeLookup (.type T) "__length_hint__" = pure none) (S : St Γ loc (L 0 ++ led) s)
    (h : ∀ v s', St Γ loc (L' ++ led) s' → Le Γ (L 0 ++ led) s (L' ++ led) s' → RepV (vis Γ (L' ++ led) s') (.d (.tuple ds)) v → Q v s') : wpAny (MM Γ.w) Γ.A (call (.type "tuple") [.ref I]) Q E s := by
  refine callType_codes (Q₁ := fun obj s₁ => s₁.TypeIs obj "tuple" ∧ Q obj s₁) F.called_tuple (F.typeCall_tuple_1 _) F.entry_object_init (code_tuple_newL O W hz hT hl hh S fun vals s' S' le' r' => ⟨⟨_, Heap.get?_push_size _ rfl, rfl⟩, ?_⟩) fun obj s₁ h₁ => ?_
  · obtain ⟨as, r⟩ := r'
    obtain ⟨S4, le4, g4⟩ := S'.push (o := { cls := .type "tuple", data := .seq vals.toArray }) (t := s'.toks) rfl
    exact h _ _ S4 (le'.trans le4) ⟨_, .tuple g4 rfl rfl (readsAll_sub (.of le4) (by simpa using r))⟩
  · exact ⟨h₁.1, F.args_object_init_2 obj _, object_init_meets F.called_tuple.init.lookup F.called_tuple.made (by decide) PP Γ.w Γ.A.in1 _ s₁ ⟨h₁.1, rfl, h₁.2⟩⟩
theorem Ok.up3 (O : Ok (n + 1) Γ) : Ok n Γ.up.up.up := O.up4.dn
theorem Ev.tupleMap (O : Ok (n + 1) Γ) {p q pos pos' : Pos} {fe e : Expr} {f : Value} {xs ds : List PyData} (hlen : xs.length = ds.length) (hz : ds.length ≤ sizeLine) (hf : ∀ (i : Nat) x d, xs[i]? = some x → ds[i]? = some d → OpN n (fun vals => PySem.call f vals) [.d x] [] (.d d) [])
    (ht : Ep Γ loc led (.Name "tuple" p) (.raw (.type "tuple"))) (hm : Ep Γ loc led (.Name "map" q) (.raw (.type "map"))) (hs : Es Γ loc led [fe, e] [.raw f, .d (.tuple xs)] loc1 led1)
    (he : autoParam (∀ pos, (backTo pos (starEach [fe, e] Γ.env)).any (·.1) = false) aI) : Ev Γ loc led (.Call (.Name "tuple" p) [.Call (.Name "map" q) [fe, e] [] pos'] [] pos) (.d (.tuple ds)) loc1 led1 := fun s Q E S h => by
  refine Call_Name rfl (ht s _ E S fun a s0 S0 le0 ra => ?_)
  cases ra
  refine callWith_of (P := fun h => (KF Γ.w).In h) rfl (fun h X => keep_type h X) (evalArgs_es rfl (spliced_more (callP_any O hm keep_type hs S0 (fun vals s1 S1 le1 rs => ?_) he) rfl))
  cases rs with
  | cons r1 rq => cases rq with
    | cons r2 rq =>
      cases rq; cases r1
      refine aside fun zk => ?_
      obtain ⟨l, o, vs, k, as, rfl, g1, g2, g3, g4⟩ := rep_tuple r2
      apply zk
      refine map_new S1 g1 g2 g3 g4 fun s2 S2 le2 => ?_
      refine Es.nil pos s2 _ E S2 fun as' s3 S3 le3 rn => ⟨KX O S3, ?_⟩
      cases rn
      refine tuple_of_walk O.up3 (walk_map O.up4 hlen hf _ _ _ l) hz ⟨by decide, by decide⟩ FM.nolen_map FM.nohint_map S3 fun v s4 S4 le4 r4 => ?_
      obtain ⟨S5, le5⟩ := S4.drop
      obtain ⟨S6, le6⟩ := S5.drop
      exact h v s4 S6 (le0.trans (le1.trans (le2.trans (le3.trans (le4.trans (le5.trans le6)))))) (r4.keeps (le5.trans le6))
end
end
section
theorem walks_mapLen {w : World} {A : Around} (hh : A.handled = none) (I its it ax : Addr) (hI : I ≠ it) (hs : its ≠ it) (ha : ax ≠ it) (vals : Array Value) (ts : List Str) (hts : ∀ (i : Nat) v, vals[i]? = some v → ∃ u, v = .str (ts.getD i "") u) (hz : ∀ t ∈ ts, t.length ≤ 1000) (hlen : vals.size = ts.length) :
    Walks PP w A I [I, its, it, ax] [it] vals.size (fun i v => ∃ u, v = .int ((ts.getD i "").length : Nat) u) (fun i h => h.get? I = some (mapObj its (.builtin "len")) ∧ h.get? its = some (itsObj it) ∧ h.IsTupleIter it ax i ∧ h.IsTuple ax vals) where
  sub := fun b hb => by simp at hb; simp [hb]
  frame := fun i h h' st hk => ⟨hk I (by simp) _ st.1, hk its (by simp) _ st.2.1, let ⟨o, ho, r⟩ := st.2.2.1; ⟨o, hk it (by simp) o ho, r⟩, let ⟨o, ho, r⟩ := st.2.2.2; ⟨o, hk ax (by simp) o ho, r⟩⟩
  item := fun i s Q E hi st hQ => by
    obtain ⟨h3, h5, itIs, axIs⟩ := st
    have hT : s.TypeIs (.ref I) "map" := ⟨_, h3, rfl⟩
    obtain ⟨v, hv⟩ : ∃ v, vals[i]? = some v := ⟨_, Array.getElem?_eq_getElem hi⟩
    obtain ⟨u, rfl⟩ := hts i v hv
    have hm : (ts.getD i "").length ≤ 1000 := by
      rw [List.getD_eq_getElem?_getD, List.getElem?_eq_getElem (by lia)]; exact hz _ (List.getElem_mem _)
    unfold pyNext
    refine wpAny_bind (wpAny_attempt (wpAny_callSpecial?_slot (name := Str.ofString "__next__") hT FM.slot_map_next (wpAny_call_entry FM.slot_map_next hT FM.entry_map_next ?_ (FM.args_map_next_1 _))))
    show wpAny _ _ (field (.ref I) 0 >>= _) _ _ s
    refine wpAny_bind (wpAny_field h3 rfl (x := .ref its) rfl ?_)
    show wpAny _ _ (seqItems? (.ref its) >>= _) _ _ s
    refine wpAny_bind (wpAny_seqItems h5 rfl ?_)
    refine wpAny_bind ?_
    rw [← Array.forIn_toList]
    show wpAny _ A.in1 (forIn [Value.ref it] #[] _) _ _ s
    rw [List.forIn_cons]
    refine wpAny_bind (wpAny_bind (wpAny_holding (wpAny_nextOf_tuple_item itIs axIs hv fun h' hit' hs' => ?_)))
    refine wpAny_pure ?_
    show wpAny _ A.in1 (forIn [] #[_] _) _ _ _
    rw [List.forIn_nil]
    refine wpAny_pure ?_
    show wpAny _ A.in1 (field (.ref I) 1 >>= _) _ _ _
    have h3' : h'.get? I = some (mapObj its (.builtin "len")) := hs'.extBut I _ hI h3
    refine wpAny_bind (wpAny_field h3' rfl (x := .builtin "len") rfl ?_)
    show wpAny _ A.in1 (holding [_] (call (.builtin "len") [_]) >>= _) _ _ _
    refine wpAny_bind (wpAny_holding (PySem.P.len_str (by lia) ?_))
    refine wpAny_bind (wpAny_letGo (wpAny_pure ⟨_, rfl, wpAny_pure (hQ _ h' _ ⟨_, rfl⟩ ⟨h3', hs'.extBut its _ hs h5, hit', let ⟨o, ho, r⟩ := axIs; ⟨o, hs'.extBut ax o ha ho, r⟩⟩ fun b o hb e => hs'.extBut b o (by simpa using hb) e)⟩))
  done := fun s Q E st hQ => by
    obtain ⟨h3, h5, itIs, axIs⟩ := st
    have hT : s.TypeIs (.ref I) "map" := ⟨_, h3, rfl⟩
    unfold pyNext
    refine wpAny_bind (wpAny_attempt (wpAny_callSpecial?_slot (name := Str.ofString "__next__") hT FM.slot_map_next (wpAny_call_entry FM.slot_map_next hT FM.entry_map_next ?_ (FM.args_map_next_1 _))))
    show wpAny _ _ (field (.ref I) 0 >>= _) _ _ s
    refine wpAny_bind (wpAny_field h3 rfl (x := .ref its) rfl ?_)
    show wpAny _ _ (seqItems? (.ref its) >>= _) _ _ s
    refine wpAny_bind (wpAny_seqItems h5 rfl ?_)
    refine wpAny_bind ?_
    rw [← Array.forIn_toList]
    show wpAny _ A.in1 (forIn [Value.ref it] #[] _) _ _ s
    rw [List.forIn_cons]
    refine wpAny_bind (wpAny_bind (wpAny_holding (wpAny_nextOf_tuple_end hh itIs axIs (by simp) fun h' e hx he => ?_)))
    refine aside fun zk => ?_
    obtain ⟨oe, hoe, hce⟩ := he
    apply zk
    refine wpAny_bind (wpAny_isInstance (T := "StopIteration") (b := true) ⟨oe, hoe, hce⟩ isSubtype_stop ?_)
    exact wpAny_pure (hQ h' s.toks fun b o hb e => hx b o (by simpa using hb) e)
  self := fun i s Q E st h => by
    obtain ⟨h3, _⟩ := st
    exact wpAny_pyIter_slot ⟨_, h3, rfl⟩ FM.slot_map_iter (wpAny_call_entry FM.slot_map_iter ⟨_, h3, rfl⟩ FM.entry_map_iter (show wpAny _ _ (PySem.ret (.ref I)) _ _ s from wpAny_pure ⟨_, rfl, "map", _, ⟨_, h3, rfl⟩, FM.slot_map_next.lookup, h⟩) (FM.args_map_iter_1 _))
section
variable {n : Nat} {Γ : Cx} {loc loc' loc1 loc2 : Loc} {led led' led1 led2 : Led} {s : Shared}
theorem Ev.maxMapLen (O : Ok n Γ) {p q pos pos' : Pos} {fe e : Expr} {ts : List Str} (hne : 0 < ts.length) (hz : ∀ t ∈ ts, t.length ≤ 1000)
    (ht : Ep Γ loc led (.Name "max" p) (.raw (.builtin "max"))) (hm : Ep Γ loc led (.Name "map" q) (.raw (.type "map"))) (hs : Es Γ loc led [fe, e] [.raw (.builtin "len"), .d (.tuple (ts.map .str))] loc1 led1)
    (he : autoParam (∀ pos, (backTo pos (starEach [fe, e] Γ.env)).any (·.1) = false) aI) : Ev Γ loc led (.Call (.Name "max" p) [.Call (.Name "map" q) [fe, e] [] pos'] [] pos) (.d (.int (maxI (ts.map fun t => (t.length : Int))))) loc1 led1 := fun s Q E S h => by
  refine Call_Name rfl (ht s _ E S fun a s0 S0 le0 ra => ?_)
  cases ra
  refine callWith_of (P := fun h => (KF Γ.w).In h) rfl (fun h X => keep_blt h X) (evalArgs_es rfl (spliced_more (callP_any O hm keep_type hs S0 (fun vals s1 S1 le1 rs => ?_) he) rfl))
  cases rs with
  | cons r1 rq => cases rq with
    | cons r2 rq =>
      cases rq; cases r1
      refine aside fun zk => ?_
      obtain ⟨l, o, vs, k, as, rfl, g1, g2, g3, g4⟩ := rep_tuple r2
      apply zk
      refine map_new S1 g1 g2 g3 g4 fun s2 S2 le2 => ?_
      refine Es.nil pos s2 _ E S2 fun as' s3 S3 le3 rn => ⟨KX O S3, ?_⟩
      cases rn
      generalize hN : s1.heap.objs.size = N at *
      refine aside fun zk => ?_
      obtain ⟨_, _, o1, h3, h4⟩ := S3.ld _ (.head _)
      cases h4
      obtain ⟨_, _, o2, h5, h6⟩ := S3.ld _ (.tail _ (.head _))
      cases h6
      obtain ⟨p1, p2, o3, h7, h8, ot, vals, kk, bs, gg1, gg2, gg3, rr⟩ := S3.ld _ (.tail _ (.tail _ (.head _)))
      apply zk
      have axIs : s3.heap.IsTuple l vals := isTuple_of gg1 gg2 gg3
      have len := readsAll_length rr
      have hsz : vals.size = ts.length := by rw [List.length_map] at len; rw [← len]; simp
      have hl : l ≠ N := fun q => (vout gg1) (List.mem_append_right _ (by rw [q]; simp))
      have W := walks_mapLen (w := Γ.w) (A := Γ.A.in1) O.hh (N + 2) (N + 1) N l (Nat.ne_of_gt (Nat.lt_succ_of_lt (Nat.lt_succ_self N))) (Nat.succ_ne_self N) hl vals ts (fun i v hv => strsT_walk (l := l) rr hv) hz hsz
      refine call_max_walk (W.self 0 _ _ _ ⟨h3, h5, ⟨o3, h7, h8.1, h8.2⟩, axIs⟩ ⟨_, _, _, _, _, _, _, rfl, W, ⟨h3, h5, ⟨o3, h7, h8.1, h8.2⟩, axIs⟩, ?_, by lia, CmpOf.ints_gt (fun i => ((ts.getD i "").length : Int)) (fun i v hv => hv), fun v h' tk hv hk => ?_⟩)
      · intro b hb
        simp only [List.mem_cons, List.not_mem_nil, or_false] at hb
        rcases hb with rfl | rfl | rfl | rfl
        · exact Heap.lt_size h3
        · exact Heap.lt_size h5
        · exact Heap.lt_size h7
        · exact Heap.lt_size (vget gg1)
      · refine aside fun zk => ?_
        obtain ⟨u, rfl⟩ := hv
        have pm : ([(N + 2, exactO (mapObj (N + 1) (.builtin "len"))), (N + 1, exactO (itsObj N)), (N, tupIterO l (ts.map .str) 0)] ++ led1).Perm ((N, tupIterO l (ts.map .str) 0) :: ([(N + 2, exactO (mapObj (N + 1) (.builtin "len"))), (N + 1, exactO (itsObj N))] ++ led1)) := List.perm_middle (l₁ := [(N + 2, exactO (mapObj (N + 1) (.builtin "len"))), (N + 1, exactO (itsObj N))])
        obtain ⟨S4, le4⟩ := S3.perm pm
        obtain ⟨S5, le5⟩ := S4.drop
        have nit : N ∉ exOf Γ ([(N + 2, exactO (mapObj (N + 1) (.builtin "len"))), (N + 1, exactO (itsObj N))] ++ led1) := fun hb => (List.mem_append.mp hb).elim p1 (List.nodup_cons.mp S4.nd).1
        obtain ⟨S6, _⟩ := S5.iters (wr := [N]) (h' := h') (t := tk) (fun J hJ => by rw [List.mem_singleton.mp hJ]; exact nit) (fun J hJ => by rw [List.mem_singleton.mp hJ]; exact p2) (fun J hJ ob e => by
          rw [List.mem_singleton.mp hJ] at e
          have e : some o3 = some ob := h7.symm.trans e
          cases e
          exact not_dat h8.1 (by decide)) (fun b ob hb e => hk b ob (by simpa using hb) e) O
        obtain ⟨S7, le7⟩ := S6.drop
        obtain ⟨S8, le8⟩ := S7.drop
        apply zk
        refine h _ _ S8 (fun b ob e => ?_) ?_
        · have e3 := le3 b ob (le2 b ob (le1 b ob (le0 b ob e)))
          have e1 := vget ((le5 b ob (le4 b ob e3)))
          have e2 := vout ((le5 b ob (le4 b ob e3)))
          have hb : b ≠ N := fun q => (vout e3) (List.mem_append_right _ (by rw [q]; simp))
          exact le8 b ob (le7 b ob (vmk (hk b ob (by simpa using hb) e1) e2))
        · obtain ⟨q1, q2⟩ := argBest_gt (fun i => ((ts.getD i "").length : Int)) (vals.size - 1)
          have key := maxI_spec (ts.map fun t => (t.length : Int)) ((ts.getD (argBest (fun i j => decide (((ts.getD i "").length : Int) > ((ts.getD j "").length : Int))) (vals.size - 1)) "").length : Nat) (by
            refine List.mem_map.mpr ⟨_, ?_, rfl⟩
            rw [List.getD_eq_getElem?_getD, List.getElem?_eq_getElem (by lia)]; exact List.getElem_mem _) (fun a ha => by
            obtain ⟨t, ht, rfl⟩ := List.mem_map.mp ha
            obtain ⟨j, hj, e⟩ := List.getElem_of_mem ht
            have := q2 j (by lia)
            rw [List.getD_eq_getElem?_getD, List.getElem?_eq_getElem hj] at this
            rw [← e]; exact this)
          rw [← key]; exact of_int
end
end
section
noncomputable def tabO : O := ⟨fun _ o => ∃ ps, o = tabObj ps ∧ TriplesOk ps.toList, fun _ h => h⟩
section
variable {n : Nat} {Γ : Cx} {loc loc' loc1 loc2 : Loc} {led led' led1 led2 : Led} {s s' : Shared} {P : Addr}
theorem St.growTab (S : St Γ loc ((P, tabO) :: led) s) (O : Ok n Γ) (k : ∀ b o, b ≠ P → s.heap.get? b = some o → s'.heap.get? b = some o) {ps : Array Value} (hP : s'.heap.get? P = some (tabObj ps)) (ht : TriplesOk ps.toList)
    {A' : Around} {os' : OsState} {gs' : Array GenState → Drawn → Prop} (hos : s'.os = os') (hgs : gs' s'.gens s'.drawn) :
    St { Γ with A := A', os := os', gs := gs' } loc ((P, tabO) :: led) s' ∧ (vis Γ ((P, tabO) :: led) s).StaysIn (vis { Γ with A := A', os := os', gs := gs' } ((P, tabO) :: led) s') := by
  refine aside fun zk => ?_
  obtain ⟨p1, p2, _⟩ := S.ld _ (.head _)
  apply zk
  have nd := List.nodup_cons.mp S.nd
  have pr : ∀ a ∈ Γ.priv, a ≠ P := fun a ha q => p1 (q ▸ ha)
  have le : (vis Γ ((P, tabO) :: led) s).StaysIn (vis { Γ with A := A', os := os', gs := gs' } ((P, tabO) :: led) s') := fun b o e => by
    have e1 := vget (e)
    have e2 := vout (e)
    exact vmk (k b o (fun q => e2 (List.mem_append_right _ (by rw [q]; exact .head _))) e1) e2
  refine ⟨⟨?_, ?_, fun p hp => ?_, S.nd, fun a ha => ?_, hos, hgs, fun p hp => ?_⟩, le⟩
  · obtain ⟨m, F⟩ := S.fr
    exact ⟨m, F.ns.at' fun o e => k _ o (pr _ O.pf) e, fun b o e => k b o (fun q => by rw [q, p2] at e; cases e) (F.keep b o e), F.above⟩
  · refine aside fun zk => ?_
    obtain ⟨m, cm, h1, h2, h3⟩ := S.nm
    apply zk
    exact ⟨m, cm, h1.at' fun o e => k _ o (pr _ O.pl) e, fun x a e => let ⟨o, ho, r⟩ := h2 x a e; ⟨o, k _ _ (pr _ (O.ce x a e).1) ho, r⟩, fun x v e => let ⟨v', e', r⟩ := h3 x v e; ⟨v', e', r.keeps le⟩⟩
  · rcases List.mem_cons.mp hp with rfl | hp
    · exact ⟨p1, p2, _, hP, ps, rfl, ht⟩
    · refine aside fun zk => ?_
      obtain ⟨h1, h2, o, h3, h4⟩ := S.ld p (.tail _ hp)
      apply zk
      exact ⟨h1, h2, o, k _ _ (fun q => nd.1 (by show P ∈ _; rw [← q]; exact List.mem_map_of_mem hp)) h3, p.2.mono (.of le) h4⟩
  · obtain ⟨o, e⟩ := S.pv a ha
    exact ⟨o, k a o (pr a ha) e⟩
  · obtain ⟨o, e, r⟩ := S.fz p hp
    exact ⟨o, k _ _ (pr _ (O.fl p hp).1) e, r⟩
theorem bm_name (w : World) : nsIn (KF w) mainGlobals (Str.ofString "__builtins__") = some (some (.ref 4)) := by kernel_rfl
theorem bt_for (O : Ok n Γ) (S : St Γ loc led s) {A : Around} {Q : Addr → Shared → Prop} {E : Value → Shared → Prop} (h : Q builtinsNs s) : wpAny (MM Γ.w) A (builtinsFor Γ.env.globals Γ.env.builtins) Q E s := by
  refine aside fun zk => ?_
  obtain ⟨m, F⟩ := S.fr
  obtain ⟨_, _, mg, mb, T⟩ := O.T
  obtain ⟨ob, b1, b2, b3, b4⟩ := O.bm
  apply zk
  rw [O.eg]
  exact wpAny_builtinsFor (T.g.keeps F.keep) (mg_of O.X T.g (bm_name _)) (by decide) (F.keep _ _ b1) b2 b3 b4 h
theorem Ev.tupleGen (O : Ok n Γ) (hn : 100 ≤ n) {elt : Expr} {x y : Str} {p px py gpos pos : Pos} {scope : Scope} {cl : List (Str × Addr)} {ts us : List Str} {c : Addr}
    (ht : Ep Γ loc ((P, tabO) :: led) (.Name "tuple" p) (.raw (.type "tuple"))) (hi : Ep Γ loc ((P, tabO) :: led) (.Name y py) (.d (.tuple (ts.map .str)))) (hlen : us.length = ts.length) (hz : ts.length ≤ sizeLine)
    (hcode : Γ.env.code = .ref c) (hct : ∀ h, (KF Γ.w).In h → CodeHd h c P) (hco : scope.isCoroutine = false) (hclos : closureFor scope Γ.env = pure cl) (hcell : ∀ y ∈ scope.names, y.2 ≠ .cell)
    (h0 : scope.names.lookup (".0" : Str) = some NameKind.local) (hx : scope.names.lookup x = some .local) (hkind : scope.kind = .function)
    (helt : ∀ (A' : Around) (E' : Value → Shared → Prop) (i : Nat) t u tk (s₂ : Shared) C m code, A'.handled = Option.none → Ok 50 { Γ with A := A', os := s₂.os, gs := fun g d => g = s₂.gens ∧ d = s₂.drawn } → ts[i]? = some t → us[i]? = some u →
      St { Γ with A := A', os := s₂.os, gs := fun g d => g = s₂.gens ∧ d = s₂.drawn } loc ((P, tabO) :: led) s₂ → s₂.heap.Ns C m → m x = some (.str t tk) →
      wpAny (MM Γ.w) A' (eval elt (genEnv scope cl C code builtinsNs Γ.env)) (fun v s₃ => (∃ t', v = .str u t') ∧ Keeps s₂ s₃) E' s₂)
    (hs : autoParam (∀ x, genFold (.Name y py) Γ.env x = pure x) aI) :
    Ep Γ loc ((P, tabO) :: led) (.Call (.Name "tuple" p) [.GeneratorExp elt [⟨.Name x px, .Name y py, [], 0⟩] scope gpos] [] pos) (.d (.tuple (us.map .str))) := fun s Q E S h => by
  refine Call_Name rfl (ht s _ E S fun a s0 S0 le0 ra => ?_)
  cases ra
  refine callWith_of (P := fun h => (KF Γ.w).In h) rfl (fun h X => keep_type h X) (evalArgs_es rfl (spliced_more ?_ rfl))
  have hroom : Γ.A.depth < recursionLimit := by have := O.dp; show Γ.A.depth < 1000; lia
  refine wpAny_GeneratorExp_walksQD O.hh hco hclos hcell h0 hx hkind hroom (hi s0 _ E S0 fun xv s1 S1 le1 r1 => ?_) hs
  refine aside fun zk => ?_
  obtain ⟨l, o, vs, k, as, rfl, g1, g2, g3, g4⟩ := rep_tuple r1
  apply zk
  have ll : l < s1.heap.objs.size := Heap.lt_size (vget g1)
  have vsz : vs.size = ts.length := by have := readsAll_length g4; simpa using this
  refine wpAny_pyIter_tuple (isTuple_of g1 g2 g3) ?_
  refine aside fun zk => ?_
  obtain ⟨p1, p2, oP, p3, ps, rfl, p4⟩ := S1.ld _ (.head _)
  apply zk
  have pI : P ≠ s1.heap.objs.size := Nat.ne_of_lt (Heap.lt_size p3)
  generalize hI : s1.heap.objs.size = I at ll pI ⊢
  generalize hH : s1.heap.push { cls := .type "tuple_iterator", data := .fields #[.ref l, .int 0 0] } = H
  have kH : ∀ b o, s1.heap.get? b = some o → H.get? b = some o := fun b o e => by rw [← hH]; exact Heap.get?_push_of_some _ e
  have gI : H.get? I = some { cls := .type "tuple_iterator", data := .fields #[.ref l, .int 0 0] } := by rw [← hH, ← hI]; exact Heap.get?_push_size _ rfl
  have neI : ∀ b o, s1.heap.get? b = some o → b ≠ I := fun b o e => hI ▸ Nat.ne_of_lt (Heap.lt_size e)
  have nl1 : s1.heap.NoLimit := by
    obtain ⟨m, F⟩ := S1.fr
    obtain ⟨_, _, mg, mb, T⟩ := O.T
    exact T.nolimit.keeps F.keep
  have stI : cStatics ≠ I := by obtain ⟨_, hn, _⟩ := nl1; exact hI ▸ Nat.ne_of_lt hn.lt
  have X1 := KX O S1
  have CH : CodeHd H c P := hct _ fun a o e => kH a o (X1 a o e)
  have cP : cStatics ≠ P := fun e => by
    obtain ⟨_, hns, _⟩ := nl1
    obtain ⟨o, es, ep, ho, hd, _⟩ := hns
    rw [e, p3] at ho; cases ho; cases hd
  refine ⟨nl1.keeps kH, ?_⟩
  have key : ∀ code h3 tk ps', (∀ b o, b ≠ P → H.get? b = some o → h3.get? b = some o) → H.objs.size ≤ h3.objs.size → h3.get? P = some (tabObj ps') → TriplesOk ps'.toList →
      wpAny (MM Γ.w) Γ.A (builtinsFor Γ.env.globals Γ.env.builtins) (fun bi s₄ =>
        ∃ I' fp wr n₀ P St₀ pz F, Value.ref I = .ref I' ∧ (∀ A' : Around, A'.handled = Option.none → Walks PP Γ.w A' I' fp wr n₀ P St₀) ∧ St₀ 0 s₄.heap ∧ (∀ b ∈ fp, b < s₄.heap.objs.size) ∧ s₄.heap.NoLimit ∧ cStatics ∉ wr ∧
          (∀ href : Heap, (∀ b o, s₄.heap.get? b = some o → href.get? b = some o) →
            QuietGenD PP Γ.w (genEnv scope cl s₄.heap.objs.size code bi Γ.env) x [] elt (List.range s₄.heap.objs.size) wr P pz F href (Γ.A.depth + 1) (Γ.A.units + 8)) ∧
          (∀ a h₅ tk gs, gs.bare = true → s₄.heap.objs.size < a → h₅.objs.size = a + 1 → (∀ b o, s₄.heap.get? b = some o → h₅.get? b = some o) →
            WalksS PP Γ.w Γ.A.in4 a (a :: s₄.heap.objs.size :: List.range s₄.heap.objs.size) (s₄.heap.objs.size :: wr) (GenOnlyQ s₄.gens.size) (passing pz n₀ 0).length
              (fun j y => ∃ i, (passing pz n₀ 0)[j]? = some i ∧ F i y) (GenAt PP Γ.w Γ.A.in4 a s₄.gens.size s₄.heap.objs.size (List.range s₄.heap.objs.size) wr pz n₀ F) →
            GenAt PP Γ.w Γ.A.in4 a s₄.gens.size s₄.heap.objs.size (List.range s₄.heap.objs.size) wr pz n₀ F 0 { s₄ with gens := s₄.gens.push gs, toks := tk, heap := h₅ } →
            wpAny (MM Γ.w) Γ.A (spliced (backTo pos (starEach [] Γ.env))) (fun vs s₁ => (KF Γ.w).In s₁.heap ∧ wpAny (MM Γ.w) Γ.A (PySem.call (.type "tuple") ([] ++ ((Value.ref a) :: vs))) Q E s₁) E { s₄ with gens := s₄.gens.push gs, toks := tk, heap := h₅ })) E { s1 with heap := h3, toks := tk } := by
    intro code h3 tk ps' k3 sz3 hP3 tr3
    have k13 : ∀ b o, b ≠ P → s1.heap.get? b = some o → h3.get? b = some o := fun b o nb e => k3 b o nb (kH b o e)
    obtain ⟨S3, le3⟩ := S1.growTab (s' := { s1 with heap := h3, toks := tk }) (A' := Γ.A) (os' := Γ.os) (gs' := Γ.gs) O k13 hP3 tr3 S1.os S1.gn
    refine bt_for O S3 ?_
    have Ilt : I < h3.objs.size := Nat.lt_of_lt_of_le (Heap.lt_size gI) sz3
    have lP : l ≠ P := fun q => by rw [q] at g1; have := (vget g1); rw [p3] at this; cases this; cases g2
    refine ⟨I, [I, l], [I], vs.size, _, _, fun _ => true, fun i v => ∃ u t, us[i]? = some u ∧ v = .str u t, rfl, fun A' hA => Walks.tuple hA I l (Nat.ne_of_lt ll) vs, ?_, ?_, ?_, ?_, ?_, ?_⟩
    · refine ⟨⟨_, k3 _ _ (Ne.symm pI) gI, rfl, rfl⟩, ⟨o, k13 _ _ lP (vget g1), g2, k, g3⟩⟩
    · intro b hb
      rcases List.mem_cons.mp hb with rfl | hb
      · exact Ilt
      · rw [List.mem_singleton.mp hb]; exact Nat.lt_trans ll Ilt
    · exact nl1.extBut (a := P) (fun b o nb e => k13 b o nb e) cP
    · intro hb; exact stI (List.mem_singleton.mp hb)
    · intro href hhref
      refine ⟨fun A' E' i v s₂ m₂ hA _ _ _ _ _ _ => wpAny_tests_nil ⟨rfl, _, _, rfl, fun _ _ e => e⟩, fun A' E' i v s₂ m₂ hA hD hU hPv _ hNs hm hk => ?_⟩
      obtain ⟨iL, _⟩ := Array.getElem?_eq_some_iff.mp hPv
      have iL' : i < ts.length := by rw [← vsz]; exact iL
      obtain ⟨v', bs, hv', rv⟩ := readsAll_get g4 (by rw [List.getElem?_map, List.getElem?_eq_getElem iL']; rfl)
      have hvv : v' = v := by
        rw [← Array.getElem?_toList] at hPv
        rw [hPv] at hv'; exact (Option.some.inj hv').symm
      subst hvv
      cases rv
      have k2 : ∀ b o, b ≠ I → h3.get? b = some o → s₂.heap.get? b = some o := fun b o nb e => hk b (List.mem_range.mpr (Heap.lt_size e)) (fun q => nb (List.mem_singleton.mp q)) o (hhref b o e)
      obtain ⟨S2, le2⟩ := S1.growTab (s' := s₂) (A' := A') (os' := s₂.os) (gs' := fun g d => g = s₂.gens ∧ d = s₂.drawn) O (fun b o nb e => k2 b o (neI b o e) (k13 b o nb e)) (k2 P _ pI hP3) tr3 rfl ⟨rfl, rfl⟩
      have hu : us[i]? = some (us[i]'(by lia)) := List.getElem?_eq_getElem _
      refine wpAny_mono (helt A' E' i _ _ _ s₂ _ m₂ code hA ?_ (List.getElem?_eq_getElem iL') hu S2 hNs hm) (fun y s₃ hy => ⟨?_, hy.2⟩) fun _ _ e => e
      · exact { O with
          hA := fun q => absurd q (by decide)
          hh := hA
          gu := fun q => absurd q (by decide)
          gb := fun q => absurd q (by decide)
          fc := fun q => absurd q (by decide)
          un := by have := O.un; show A'.units + 4 * 50 ≤ 1000; lia
          dp := by have := O.dp; show A'.depth + 50 ≤ 900; lia }
      · obtain ⟨t', rfl⟩ := hy.1; exact ⟨_, t', hu, rfl⟩
    · intro a h5 tk5 gs hgb hag hsz5 hk5 W hat
      have S5 := (S1.growTab (s' := { s1 with gens := s1.gens.push gs, toks := tk5, heap := h5 }) (A' := Γ.A) (os' := Γ.os) (gs' := Γ.gs) O (fun b o nb e => hk5 b o (k13 b o nb e)) (hk5 _ _ hP3) tr3 S1.os (by
        have q := S1.gn
        rw [O.gb hn] at q ⊢
        exact AllBare.push q hgb)).1
      refine spliced_none ⟨KX O S5, ?_⟩
      have pall : passing (fun _ => true) vs.size 0 = List.range vs.size := by unfold passing; simp
      rw [pall] at W
      refine call_tuple_gen (hsz := by rw [List.length_range, vsz]; exact hz) W.in4_3 (fun i s st => st.1.typeIs) hat ?_ List.mem_cons_self fun s' acc hm hacc => ?_
      · intro b hb
        show b < h5.objs.size
        rw [hsz5]
        rcases List.mem_cons.mp hb with rfl | hb
        · exact Nat.lt_succ_self _
        · rcases List.mem_cons.mp hb with rfl | hb
          · exact Nat.lt_succ_of_lt hag
          · exact Nat.lt_succ_of_lt (Nat.lt_trans (List.mem_range.mp hb) hag)
      · have k5' : ∀ b o, b ≠ I → h3.get? b = some o → s'.heap.get? b = some o := fun b o nb e => hm.heap b o (fun q => by
          rcases List.mem_cons.mp q with q | q
          · exact Nat.lt_irrefl _ (q ▸ Heap.lt_size e)
          · exact nb (List.mem_singleton.mp q)) (hk5 b o e)
        obtain ⟨S6, le6⟩ := S1.growTab (s' := s') (A' := Γ.A) (os' := Γ.os) (gs' := Γ.gs) O (fun b o nb e => k5' b o (neI b o e) (k13 b o nb e)) (k5' P _ pI hP3) tr3 (hm.os.trans S1.os) (by
          have q := S5.gn
          have qq := O.gb hn
          rw [qq] at q ⊢
          exact GenOnlyQ.bare hm.gens q)
        obtain ⟨S7, le7, g7⟩ := St.push (Γ := Γ) S6 (o := { cls := .type "tuple", data := .seq acc }) (t := s'.toks) rfl
        refine h _ _ S7 (le0.trans (le1.trans (Le.trans le6 le7))) ?_
        have eacc : acc.size = us.length := by rw [hacc.1, List.length_range, vsz, hlen]
        obtain ⟨rs, hr⟩ := readsAll_of (h := vis Γ ((P, tabO) :: led) { s' with heap := s'.heap.push { cls := .type "tuple", data := .seq acc } }) (vs := acc.toList) (ds := us.map .str) (by simp [eacc]) fun i v d h1 h2 => by
          obtain ⟨j, h3, u, t, h4, rfl⟩ := hacc.2 i v (by simpa using h1)
          have : j = i := by
            rw [List.getElem?_range (by
              have := (List.getElem?_eq_some_iff.mp h1).1
              rw [← hacc.1.trans List.length_range]; simpa using this)] at h3
            exact (Option.some.inj h3).symm
          subst this
          rw [List.getElem?_map, h4] at h2
          cases h2
          exact ⟨[], .str _ _⟩
        exact ⟨_, .tuple g7 rfl rfl hr⟩
  cases hf : codeAmong gpos ps.toList with
  | some c' => exact wpAny_genexprCode_hit hcode (CH.code (kH _ _ p3) p4) hf (key c' H s1.toks ps (fun _ _ _ e => e) (Nat.le_refl _) (kH _ _ p3) p4)
  | none =>
    refine wpAny_genexprCodeX hcode (CH.code (kH _ _ p3) p4) (CH.tab (kH _ _ p3)) hf fun c' h' tk ext hge hlt isc rc tab more => ?_
    refine aside fun zk => ?_
    obtain ⟨_, _, _, _, _, _, _, _, _, _, _, _, _, _, _, _, _, e1, e2, tr, _⟩ := isc
    apply zk
    exact key (.ref c') h' tk _ ext (Nat.le_trans hge (Nat.le_of_lt hlt)) tab.2 tr
end
end
section
theorem binds_star0 {fd : FuncData} {ds : List PyData} (hz : ds.length ≤ sizeLine) {x1 : Str} (hb : ∀ vals, bindArgs fd ⟨vals, []⟩ = (newTuple vals >>= fun t => pure [(x1, t)])) : Binds fd [x1] (ds.map V.d) [.d (.tuple ds)] := fun Γ loc led s vals A Q E X S rs h => by
  rw [hb]
  refine aside fun zk => ?_
  obtain ⟨as, r⟩ := repAll_data rs
  obtain ⟨S4, le4, g⟩ := S.push (o := { cls := .type "tuple", data := .seq vals.toArray }) (t := s.toks) rfl
  apply zk
  refine wpAny_bind (wpAny_newTuple (wpAny_pure (h _ [_] S4 le4 (fun b o e => Heap.get?_push_of_some _ e) (.cons ⟨_, .tuple g rfl rfl (readsAll_sub (.of le4) r)⟩ .nil))) (by rw [readsAll_length r]; exact hz))
theorem binds_star1 {fd : FuncData} {x : V} {ds : List PyData} (hz : ds.length ≤ sizeLine) {x1 x2 : Str} (hb : ∀ v vals, bindArgs fd ⟨v :: vals, []⟩ = (newTuple vals >>= fun t => pure [(x1, v), (x2, t)])) : Binds fd [x1, x2] (x :: ds.map V.d) [x, .d (.tuple ds)] := fun Γ loc led s vals A Q E X S rs h => by
  cases rs with
  | cons r0 rs =>
    rw [hb]
    refine aside fun zk => ?_
    obtain ⟨as, r⟩ := repAll_data rs
    rename_i v vs
    obtain ⟨S4, le4, g⟩ := S.push (o := { cls := .type "tuple", data := .seq vs.toArray }) (t := s.toks) rfl
    apply zk
    refine wpAny_bind (wpAny_newTuple (wpAny_pure (h _ [_, _] S4 le4 (fun b o e => Heap.get?_push_of_some _ e) (.cons (r0.keeps le4) (.cons ⟨_, .tuple g rfl rfl (readsAll_sub (.of le4) r)⟩ .nil)))) (by rw [readsAll_length r]; exact hz))
theorem binds_star2 {fd : FuncData} {x y : V} {ds : List PyData} (hz : ds.length ≤ sizeLine) {x1 x2 x3 : Str} (hb : ∀ v w vals, bindArgs fd ⟨v :: w :: vals, []⟩ = (newTuple vals >>= fun t => pure [(x1, v), (x2, w), (x3, t)])) : Binds fd [x1, x2, x3] (x :: y :: ds.map V.d) [x, y, .d (.tuple ds)] := fun Γ loc led s vals A Q E X S rs h => by
  cases rs with
  | cons r0 rs => cases rs with
    | cons r1 rs =>
      rw [hb]
      refine aside fun zk => ?_
      obtain ⟨as, r⟩ := repAll_data rs
      rename_i v w vs
      obtain ⟨S4, le4, g⟩ := S.push (o := { cls := .type "tuple", data := .seq vs.toArray }) (t := s.toks) rfl
      apply zk
      refine wpAny_bind (wpAny_newTuple (wpAny_pure (h _ [_, _, _] S4 le4 (fun b o e => Heap.get?_push_of_some _ e) (.cons (r0.keeps le4) (.cons (r1.keeps le4) (.cons ⟨_, .tuple g rfl rfl (readsAll_sub (.of le4) r)⟩ .nil))))) (by rw [readsAll_length r]; exact hz))
section
variable {n : Nat} {Γ : Cx} {loc loc' loc1 loc2 : Loc} {led led' led1 led2 : Led} {s : Shared}
theorem Ex1.assert {t : Expr} {msg : Option Expr} {pos : Pos} (h1 : Bt Γ loc led t true loc1 led1) : Ex1 Γ loc led (.Assert t msg pos) (.next loc1 led1) := fun s Q E S h =>
  wpAny_Assert_holds (h1 s _ E S fun c s1 S1 le rc => ⟨rc, h _ s1 ⟨rfl, S1, le⟩⟩)
theorem St.cell (S : St Γ loc led s) {x : Str} {v : V} {a : Addr} (hl : loc.lookup x = some v) (hk : Γ.env.kindOf x = some .cell) (hc : Γ.env.cells.lookup x = some a) : ∃ v' o, s.heap.get? a = some o ∧ o.data = .cell (some v') ∧ RepV (vis Γ led s) v v' := by
  refine aside fun zk => ?_
  obtain ⟨m, cm, h1, h2, h3⟩ := S.nm
  obtain ⟨v', e, r⟩ := h3 x v hl
  obtain ⟨o, ho, hd⟩ := h2 x a hc
  apply zk
  unfold nmOf at e
  rw [hk, hc] at e
  exact ⟨v', o, ho, by rw [hd]; exact congrArg _ e, r⟩
end
theorem keeps_rfl {s : Shared} : Keeps s s := ⟨_, _, rfl, fun _ _ e => e⟩
theorem keeps_trans {a b c : Shared} (x : Keeps a b) (y : Keeps b c) : Keeps a c := by
  obtain ⟨h1, t1, rfl, k1⟩ := x
  obtain ⟨h2, t2, rfl, k2⟩ := y
  exact ⟨h2, t2, rfl, fun b o e => k2 b o (k1 b o e)⟩
theorem keeps_toks {s : Shared} (t : Nat) : Keeps s { s with toks := t } := ⟨_, _, rfl, fun _ _ e => e⟩
theorem gen_tail {w : World} {A : Around} {E : Value → Shared → Prop} {Q : Value → Shared → Prop} {s : Shared} {cenv : Env} {x y : Str} {p1 p2 p3 p4 : Pos} {m : Str → Option Value} {t : Str} {tk u : Tok} {a : Addr} {o : Obj} {k : Nat}
    (hkind : cenv.scope.kind = .function) (hx : cenv.kindOf x = some .local) (hn : s.heap.Ns cenv.locals m) (hm : m x = some (.str t tk)) (hy : cenv.kindOf y = some .free) (hc : cenv.cells.lookup y = some a) (ho : s.heap.get? a = some o) (hd : o.data = .cell (some (.int k u)))
    (hz : t.length ≤ sizeLine) (h : ∀ s' t', Keeps s s' → Q (.str (dr t k) t') s') (q1 : autoParam ((x == ("__debug__" : Str)) = false) aD) (q2 : autoParam ((y == ("__debug__" : Str)) = false) aD) (q3 : autoParam ((y == ("__classdict__" : Str)) = false) aD) :
    wpAny (MM w) A (eval (.Subscript (.Name x p1) (.Slice (some (.Name y p2)) none none p3) p4) cenv) Q E s := by
  refine Subscript_ (wpAny_Name (wpAny_loadName_local hkind hx hn hm ?_) q1)
  refine wpAny_Slice ?_
  rw [evalPart_some]
  refine wpAny_Name (wpAny_loadName_free hkind hy hc ⟨o, ho, hd⟩ ?_ q3) q2
  rw [evalPart_none]
  refine wpAny_pure (wpAny_pure ?_)
  have hl := Str.len_eq t
  refine tail_any (typeIs_str _ t tk) F.slot_str_getitem.lookup (wpAny_getItem_str_slice (l := some ((k : Int), u)) (u := none) (st := none) ⟨_, Heap.get?_push_size _ rfl, rfl, rfl⟩ rfl (post_val (y := t.cps.toList.drop k) ?_ hz ?_ ?_ ?_ fun t' kk => h _ _ ⟨_, _, rfl, fun b o e => Heap.get?_push_of_some _ e⟩)) rfl
  · rw [picked_from, pick_run, hl]
    by_cases q : k ≤ t.cps.toList.length
    · rw [Nat.min_eq_left q]; exact List.take_of_length_le (by simp)
    · have q' : t.cps.toList.length ≤ k := by omega
      rw [Nat.min_eq_right q', Nat.sub_self, List.take_zero, List.drop_eq_nil_of_le q']
  · rw [hl, List.length_drop]; omega
  · rw [picked_from, List.length_map, List.length_range, List.length_drop, hl]; omega
  · intro e
    rw [hl, List.length_drop] at e
    by_cases q : k = 0
    · subst q; rfl
    · have : t.cps.toList.length = 0 := by omega
      rw [List.eq_nil_of_length_eq_zero this]; simp
end
section
noncomputable def pfx (ts : List Str) : Str := tk (minS ts) (partAt (minS ts) (maxS ts))
noncomputable def csr (ts : List Str) : List Str :=
  let M := maxI (ts.map fun t => (t.length : Int))
  if M ≤ 80 then ts else
  let cl := 80 - (M - (pfx ts).length + 5 + 12)
  if 5 < cl then ts.map fun s => shorten (pfx ts) 5 cl.toNat ++ dr s (pfx ts).length
  else ts.map fun s => shorten (pfx ts) 5 5 ++ shorten (dr s (pfx ts).length) 41 5
theorem gen_glob {n : Nat} {Γ : Cx} {loc : Loc} {led : Led} {s : Shared} (O : Ok n Γ) (S : St Γ loc led s) {A : Around} {E : Value → Shared → Prop} {Q : Value → Shared → Prop} {cenv : Env} {x : Str} {p : Pos} {v : Value} (hkind : cenv.scope.kind = .function) (hx : cenv.kindOf x = some .globalImplicit) (hg : cenv.globals = Γ.env.globals) (e : nsIn (KF Γ.w) mainGlobals x = some (some v)) (h : Q v s)
    (hd : autoParam ((x == ("__debug__" : Str)) = false) aD) : wpAny (MM Γ.w) A (eval (.Name x p) cenv) Q E s := by
  refine aside fun zk => ?_
  obtain ⟨m, F⟩ := S.fr
  obtain ⟨_, _, mg, _, T⟩ := O.T
  apply zk
  exact Name_function_global hkind hx (loadGlobal_global (by rw [hg, O.eg]; exact T.g.keeps F.keep) (mg_of O.X T.g e) h) hd
theorem St.keeps {Γ : Cx} {loc : Loc} {led : Led} {s s' : Shared} (S : St Γ loc led s) (k : Keeps s s') : St Γ loc led s' ∧ Le Γ led s led s' := by
  obtain ⟨h', t, rfl, k⟩ := k
  exact S.grow k
theorem cut_len (x : Str) (p q : Nat) (hx : x.length ≤ 1000) : (shorten x p q).length ≤ 3000 := by
  unfold shorten
  split
  · rename_i h
    have l1 := tk_len x p
    have l2 := dr_len x (x.length - q)
    have l3 := num_len (i := (x.length : Int) - p - q) (by lia)
    have l4 : (Str.ofString "[").length = 1 := by decide
    have l5 : (Str.ofString " chars]").length = 7 := by decide
    simp only [Str.length_append, l4, l5]
    lia
  · lia
theorem code60 (w : World) (h : Heap) (X : (KF w).In h) : CodeHd h 60 56 := ⟨_, _, _, _, _, _, _, _, _, X 60 _ (by exact rfl), rfl, rfl, rfl, rfl, rfl, rfl, rfl, rfl, by decide⟩
theorem csr_fs (lists : List (List Str)) (hne : 0 < lists.length) (hz : lists.length ≤ 1000) (hp : ∀ l ∈ lists, ∀ x ∈ l, plain x) (h20 : ∀ l ∈ lists, l.length ≤ 20) (hl : ∀ l ∈ lists, ∀ x ∈ l, x.length ≤ 20)
    (hd : ∀ i, (∀ j, j < i → cAt (minS (lists.map textOf)) j = cAt (maxS (lists.map textOf)) j) → i < (minS (lists.map textOf)).length → i < (maxS (lists.map textOf)).length) (h1 : (minS (lists.map textOf)).length ≤ 1000) (h2 : (maxS (lists.map textOf)).length ≤ 1000) :
    OpN 103 (fun vals => call (.ref 61) vals) ((lists.map strsD).map V.d) [(56, tabO)] (.d (.tuple ((csr (lists.map textOf)).map .str))) [(56, tabO)] := by
  have hz' : lists.length ≤ sizeLine := by rw [big]; lia
  refine call_defB (n := 102) (args' := [.d (.tuple (lists.map strsD))]) ["args"] ["maxlen", "prefix", "prefixlen", "common_len"] (fun w => by exact rfl) (fun w => by kernel_rfl) (binds_star0 (ds := lists.map strsD) (by simpa using hz') fun vals => by cases vals <;> kernel_rfl) rfl (by decide) rfl (fun C L => ⟨by decide, by decide, rfl, rfl⟩) fun C L O l => ?_
  generalize hts : lists.map textOf = ts at hd h1 h2 ⊢
  have tl : ts.length = lists.length := by rw [← hts]; simp
  have t1000 : ∀ t ∈ ts, t.length ≤ 1000 := fun t ht => by
    rw [← hts] at ht
    obtain ⟨r, hr, rfl⟩ := List.mem_map.mp ht
    have := textOf_len (h20 r hr) (hl r hr)
    lia
  refine Ex.let_ O l 0 (v := .d (.tuple (ts.map .str))) (Ev.tupleMap (n := 101) (xs := lists.map strsD) (ds := ts.map .str) O (by simp [tl]) (by simpa [tl] using hz') (fun i x d hx hd' => ?_) (nm_b_tuple O rfl) (nm_b_map O rfl) (Es.cons (nmsafe_repr O rfl) (Es.cons (Ev.nm O l 0) Es.nil))) ?_
  · rw [List.getElem?_map] at hx hd'
    rw [← hts, List.getElem?_map] at hd'
    obtain ⟨r, hr, rfl⟩ := Option.map_eq_some_iff.mp hx
    rw [hr] at hd'
    cases hd'
    have hm := List.mem_of_getElem? hr
    exact safe_repr_fs r (hp r hm) (h20 r hm) (hl r hm)
  generalize hM : maxI (ts.map fun t => (t.length : Int)) = M
  refine Ex.let_ O l 1 (v := .d (.int M)) (hM ▸ Ev.maxMapLen O (by lia) t1000 (nm_b_max O rfl) (nm_b_map O rfl) (Es.cons (nm_b_len O rfl) (Es.cons (Ev.nm O l 0) Es.nil))) ?_
  refine Ex.ifRet (Bt.cmp O (Ev.nm O l 1) (nm_MAX_LENGTH O rfl) (by with_reducible exact le_ii)) (fun hc => ?_) (fun hc => ?_)
  · have hc := of_decide_eq_true hc
    have e : csr ts = ts := by unfold csr; simp only [hM]; rw [if_pos hc]
    rw [e]
    exact Ex.retD (Ev.nm O l 0)
  have hc := of_decide_eq_false hc
  have pl : (pfx ts).length ≤ 1000 := Nat.le_trans (tk_len _ _) h1
  have plz : (pfx ts).length ≤ sizeLine := by rw [big]; lia
  refine Ex.let_ O l 2 (v := .d (.str (pfx ts))) (Ev.callP O (nmcommonprefix O rfl) (kpcommonprefix _) (Es.cons (Ev.nm O l 0) Es.nil) ((commonprefix_fs ts (by lia) (by lia) _ (prefix_fs ts (by lia) t1000 h1 hd h2)).mono (by decide))) ?_
  refine Ex.let_ O l 3 (v := .d (.int (pfx ts).length)) (Ev.callP O (nm_b_len O rfl) keep_blt (Es.cons (Ev.nm O l 2) Es.nil) (by first | (with_reducible refine len_l ?_; first | assumption | decide | lia | (simp; done) | (simp; lia)) | (with_reducible refine len_t ?_; first | assumption | decide | lia | (simp; done) | (simp; lia)) | (with_reducible refine len_s ?_; first | assumption | decide | lia | (simp; done) | (simp; lia)))) ?_
  refine Ex.let_ O l 4 (v := .d (.int (80 - (M - (pfx ts).length + 5 + 12)))) (Ev.bin O (nm_MAX_LENGTH O rfl) (Ev.bin O (Ev.bin O (Ev.bin O (Ev.nm O l 1) (Ev.nm O l 3) (by with_reducible exact sub_ii)) (nm_MIN_BEGIN_LEN O rfl) (by first | with_reducible exact add_ii | (with_reducible refine add_ss ?_; first | assumption | decide | lia | (simp; done) | (simp; lia)))) (nm_PLACEHOLDER_LEN O rfl) (by first | with_reducible exact add_ii | (with_reducible refine add_ss ?_; first | assumption | decide | lia | (simp; done) | (simp; lia)))) (by with_reducible exact sub_ii)) ?_
  refine Ex.ifRet (Bt.cmp O (Ev.nm O l 4) (nm_MIN_COMMON_LEN O rfl) (by with_reducible exact gt_ii)) (fun hq => ?_) (fun hq => ?_)
  · have hq := of_decide_eq_true hq
    have e : csr ts = ts.map fun s => shorten (pfx ts) 5 (80 - (M - (pfx ts).length + 5 + 12)).toNat ++ dr s (pfx ts).length := by unfold csr; simp only [hM]; rw [if_neg hc, if_pos hq]
    refine Ex.cons (Ex1.assert (Bt.cast (b := decide ((5 : Int) + 12 + 5 + (M - (pfx ts).length) < 80)) (decide_eq_true (by lia)) (Bt.cmp O (Ev.bin O (Ev.bin O (Ev.bin O (nm_MIN_BEGIN_LEN O rfl) (nm_PLACEHOLDER_LEN O rfl) (by first | with_reducible exact add_ii | (with_reducible refine add_ss ?_; first | assumption | decide | lia | (simp; done) | (simp; lia)))) (nm_MIN_COMMON_LEN O rfl) (by first | with_reducible exact add_ii | (with_reducible refine add_ss ?_; first | assumption | decide | lia | (simp; done) | (simp; lia)))) (Ev.bin O (Ev.nm O l 1) (Ev.nm O l 3) (by with_reducible exact sub_ii)) (by first | with_reducible exact add_ii | (with_reducible refine add_ss ?_; first | assumption | decide | lia | (simp; done) | (simp; lia)))) (nm_MAX_LENGTH O rfl) (by with_reducible exact lt_ii)))) ?_
    have cast : (80 - (M - (pfx ts).length + 5 + 12) : Int) = ((80 - (M - (pfx ts).length + 5 + 12)).toNat : Nat) := by lia
    have cl := cut_len (pfx ts) 5 (80 - (M - (pfx ts).length + 5 + 12)).toNat pl
    refine Ex.let_ O l 2 (v := .d (.str (shorten (pfx ts) 5 (80 - (M - (pfx ts).length + 5 + 12)).toNat))) (Ev.callP O (nm_shorten O rfl) (kp_shorten _) (Es.cons (Ev.nm O l 2) (Es.cons (nm_MIN_BEGIN_LEN O rfl) (Es.cons (Ev.castI cast (Ev.nm O l 4)) Es.nil))) ((shorten_fs _ 5 _ pl (by decide) (by lia)).mono (by decide))) ?_
    rw [e]
    generalize shorten (pfx ts) 5 (80 - (M - (pfx ts).length + 5 + 12)).toNat = q at cl ⊢
    refine Ex.retD (Ev.tupleGen (ts := ts) O (by decide) (nm_b_tuple O rfl) (Ev.nm O l 0) (by simp) (by rw [tl]; exact hz') rfl (code60 _) rfl rfl (fun y hy => ?_) rfl rfl rfl fun A' E' i t u tk s₂ C m code hA O2 ht hu S2 hNs hm => ?_)
    · exact of_decide_eq_true (p := y.2 ≠ .cell) ((List.all_eq_true (p := fun y : Str × NameKind => decide (y.2 ≠ .cell))).mp rfl y hy)
    refine aside fun zk => ?_
    rw [List.getElem?_map, ht] at hu
    cases hu
    obtain ⟨v1, o1, ho1, hd1, r1⟩ := S2.cell (x := "prefix") (v := .d (.str q)) (mk_lookup l.nd (i := 2) rfl rfl) rfl rfl
    obtain ⟨v2, o2, ho2, hd2, r2⟩ := S2.cell (x := "prefixlen") (v := .d (.int (pfx ts).length)) (mk_lookup l.nd (i := 3) rfl rfl) rfl rfl
    obtain ⟨t1, rfl⟩ := rep_str r1
    obtain ⟨t2, rfl⟩ := rep_int r2
    apply zk
    have tz := t1000 t (List.mem_of_getElem? ht)
    refine wpAny_BinOp (wpAny_Name (wpAny_loadName_free rfl rfl rfl ⟨o1, ho1, hd1⟩ ?_ (by decide)) (by decide))
    refine gen_tail rfl rfl hNs hm rfl rfl ho2 hd2 (by rw [big]; lia) fun s' t' ks => ?_
    have := dr_len t (pfx ts).length
    exact SBL.add (fun t'' k _ => ⟨⟨_, rfl⟩, keeps_trans ks (keeps_toks _)⟩) (by rw [big]; lia)
  · have hq := of_decide_eq_false hq
    have e : csr ts = ts.map fun s => shorten (pfx ts) 5 5 ++ shorten (dr s (pfx ts).length) 41 5 := by unfold csr; simp only [hM]; rw [if_neg hc, if_neg hq]
    have cl := cut_len (pfx ts) 5 5 pl
    refine Ex.let_ O l 2 (v := .d (.str (shorten (pfx ts) 5 5))) (Ev.callP O (nm_shorten O rfl) (kp_shorten _) (Es.cons (Ev.nm O l 2) (Es.cons (nm_MIN_BEGIN_LEN O rfl) (Es.cons (nm_MIN_COMMON_LEN O rfl) Es.nil))) ((shorten_fs _ 5 5 pl (by decide) (by decide)).mono (by decide))) ?_
    rw [e]
    generalize shorten (pfx ts) 5 5 = q at cl ⊢
    refine Ex.retD (Ev.tupleGen (ts := ts) O (by decide) (nm_b_tuple O rfl) (Ev.nm O l 0) (by simp) (by rw [tl]; exact hz') rfl (code60 _) rfl rfl (fun y hy => ?_) rfl rfl rfl fun A' E' i t u tk s₂ C m code hA O2 ht hu S2 hNs hm => ?_)
    · exact of_decide_eq_true (p := y.2 ≠ .cell) ((List.all_eq_true (p := fun y : Str × NameKind => decide (y.2 ≠ .cell))).mp rfl y hy)
    refine aside fun zk => ?_
    rw [List.getElem?_map, ht] at hu
    cases hu
    obtain ⟨v1, o1, ho1, hd1, r1⟩ := S2.cell (x := "prefix") (v := .d (.str q)) (mk_lookup l.nd (i := 2) rfl rfl) rfl rfl
    obtain ⟨v2, o2, ho2, hd2, r2⟩ := S2.cell (x := "prefixlen") (v := .d (.int (pfx ts).length)) (mk_lookup l.nd (i := 3) rfl rfl) rfl rfl
    obtain ⟨t1, rfl⟩ := rep_str r1
    obtain ⟨t2, rfl⟩ := rep_int r2
    apply zk
    have tz := t1000 t (List.mem_of_getElem? ht)
    have dl := dr_len t (pfx ts).length
    refine wpAny_BinOp (wpAny_Name (wpAny_loadName_free rfl rfl rfl ⟨o1, ho1, hd1⟩ ?_ (by decide)) (by decide))
    refine Call_Name rfl (gen_glob O2 S2 rfl rfl rfl (gl_shorten _) ?_)
    refine callWith_of (P := fun h => (KF _).In h) rfl (fun h X => kp_shorten _ h X) (evalArgs_es rfl ?_)
    refine spliced_more (gen_tail rfl rfl hNs hm rfl rfl ho2 hd2 (by rw [big]; lia) fun s3 t3 k3 => ?_) rfl
    obtain ⟨S3, le3⟩ := S2.keeps k3
    refine spliced_more (gen_glob O2 S3 rfl rfl rfl (gl_MIN_DIFF_LEN _) ?_) rfl
    refine spliced_more (gen_glob O2 S3 rfl rfl rfl (gl_MIN_END_LEN _) ?_) rfl
    have XX := KX O2 S3
    refine spliced_none ⟨XX, ?_⟩
    have g := shorten_g (dr t (pfx ts).length) 41 5 (by lia) (by decide) (by decide)
    unfold OpG at g
    refine g _ _ ((56, tabO) :: []) s3 _ _ _ (O2.less (by decide)) S3 (.cons of_str (.cons of_int (.cons of_int .nil))) fun v fp' v' s4 hP S4 le4 r4 kp => ?_
    obtain ⟨rfl, rfl⟩ := hP
    obtain ⟨t4, rfl⟩ := rep_str r4
    have k4 : Keeps s3 s4 := by
      obtain ⟨h3, g3, d3, tk3, os3⟩ := s3
      obtain ⟨h4, g4, d4, tk4, os4⟩ := s4
      have e1 := S4.gn
      have e2 := S3.gn
      have e3 := S4.os
      have e4 := S3.os
      obtain ⟨e5, e6⟩ := e1
      obtain ⟨e7, e8⟩ := e2
      simp only at e3 e4 e5 e6 e7 e8
      subst e3 e5 e6
      refine ⟨h4, tk4, ?_, fun b o e => kp b o e (fun h => nomatch h) (.inr (by decide))⟩
      rw [e4, e7, e8]
    have cl2 := cut_len (dr t (pfx ts).length) 41 5 (by lia)
    exact SBL.add (fun t'' k _ => ⟨⟨_, rfl⟩, keeps_trans (keeps_trans k3 k4) (keeps_toks _)⟩) (by rw [big]; lia)
end
section
section
variable {n : Nat} {Γ : Cx} {loc loc' loc1 loc2 : Loc} {led led' led1 led2 fp fp' : Led} {s : Shared}
theorem star_data {x : V} {ds : List PyData} {v : Value} (hx : x = .d (.list ds) ∨ x = .d (.tuple ds)) (hz : ds.length ≤ sizeLine) (S : St Γ loc led s) (r : RepV (vis Γ led s) x v) {Q : List Value → Shared → Prop} {E : Value → Shared → Prop}
    (h : ∀ vals s', St Γ loc led s' → Le Γ led s led s' → RepAll (vis Γ led s') (ds.map V.d) vals → Q vals s') : StarOf (MM Γ.w) Γ.A E v Q s := by
  have all : ∀ {h : Heap} {vs : List Value} {ds : List PyData} {as : List Addr}, ReadsAll h vs ds as → RepAll h (ds.map V.d) vs := fun {h vs ds as} r => by
    induction vs generalizing ds as with
    | nil => cases r; exact .nil
    | cons v vs ih => cases r with
      | cons r0 r1 => exact .cons ⟨_, r0⟩ (ih r1)
  have go : ∀ (a : Addr) (o : Obj) (T : String) (its : Array Value) (k : Nat) (as : List Addr), T = "list" ∨ T = "tuple" → (vis Γ led s).get? a = some o → o.cls = .type T → o.data = .seq its k → ReadsAll (vis Γ led s) its.toList ds as → StarOf (MM Γ.w) Γ.A E (.ref a) Q s := by
    intro a o T its k as hT h1 h2 h3 h4
    have e := readsAll_length h4
    have z : wpAny (MM Γ.w) Γ.A (collect (.ref a)) Q E s := by
      refine wpAny_collect_seq a hT (vget h1) h2 h3 (fun h' hk => ?_) (by rw [← Array.length_toList]; lia)
      obtain ⟨S', le'⟩ := S.grow (t := s.toks) hk
      exact h _ _ S' le' (all (readsAll_sub (.of le') h4))
    have hT' : s.TypeIs (.ref a) T := ⟨o, (vget h1), h2⟩
    unfold StarOf notIterableAtAll
    rcases hT with rfl | rfl
    · exact wpAny_bind (wpAny_specialOf hT' PySem.F.slot_list_iter.lookup (wpAny_pure ⟨rfl, z⟩))
    · exact wpAny_bind (wpAny_specialOf hT' PySem.F.slot_tuple_iter.lookup (wpAny_pure ⟨rfl, z⟩))
  rcases hx with rfl | rfl
  · obtain ⟨a, o, vs, k, as, rfl, h1, h2, h3, h4⟩ := rep_list r
    exact go a o _ vs k as (.inl rfl) h1 h2 h3 h4
  · obtain ⟨a, o, vs, k, as, rfl, h1, h2, h3, h4⟩ := rep_tuple r
    exact go a o _ vs k as (.inr rfl) h1 h2 h3 h4
theorem Ev.callStar (O : Ok n Γ) {x : Str} {p sp pos : Pos} {e : Expr} {fv : Value} {y v : V} {ds : List PyData} (hf : Ev Γ loc led (.Name x p) (.raw fv) loc1 led1) (hk : Keep Γ.w fv) (he : Ev Γ loc1 led1 e y loc2 (fp ++ led2)) (hy : y = .d (.list ds) ∨ y = .d (.tuple ds)) (hz : ds.length ≤ sizeLine)
    (ho : OpN n (fun vals => PySem.call fv vals) (ds.map V.d) fp v fp') (hs : autoParam (starEach [.Starred e sp] Γ.env = [(true, eval e Γ.env)]) aR) : Ev Γ loc led (.Call (.Name x p) [.Starred e sp] [] pos) v loc2 (fp' ++ led2) := fun s Q E S h => by
  refine Call_Name rfl (hf s _ E S fun a s1 S1 le1 ra => ?_)
  cases ra
  have key : wpAny (MM Γ.w) Γ.A (callWith pos fv [] (backTo pos (starEach [.Starred e sp] Γ.env)) []) Q E s1 := by
    rw [hs]
    refine ks_call (P := fun h => (KF Γ.w).In h) rfl (fun h X => hk h X) (ks_lone (he s1 _ E S1 fun v1 s2 S2 le2 r2 => star_data hy hz S2 r2 fun vals s3 S3 le3 rs => ⟨KX O S3, ?_⟩))
    exact ho Γ loc2 led2 s3 vals Q E O S3 rs fun v' s4 S4 le4 rv => h v' s4 S4 (le1.trans (le2.trans (le3.trans le4))) rv
  exact key
theorem Ev.andT (O : Ok n Γ) {e₁ e₂ : Expr} {pos : Pos} {v : V} (h1 : Ev Γ loc led e₁ (.d (.bool true)) loc1 led1) (h2 : Ev Γ loc1 led1 e₂ v loc2 led2) : Ev Γ loc led (.BoolOp .And [e₁, e₂] pos) v loc2 led2 := fun s Q E S h =>
  BoolOp_and (h1 s _ E S fun a s1 S1 le1 ra => by
    rw [rep_bool ra]
    exact wpAny_truthy_bool (by rw [if_pos rfl]; exact BoolOp_one (h2 s1 Q E S1 fun v' s2 S2 le2 r => h v' s2 S2 (le1.trans le2) r)))
theorem Ev.castB {e : Expr} {a b : Bool} (q : a = b) (h : Ev Γ loc led e (.d (.bool a)) loc1 led1) : Ev Γ loc led e (.d (.bool b)) loc1 led1 := q ▸ h
end
end
section
noncomputable abbrev okS (x : Str) : Prop := PyData.strOk x = true
theorem okS_iff {x : Str} : okS x ↔ ∀ c ∈ x.cps.toList, c < 0x110000 := by
  unfold okS PyData.strOk
  rw [← Array.all_toList, List.all_eq_true]
  exact ⟨fun h c hc => of_decide_eq_true (h c hc), fun h c hc => decide_eq_true (h c hc)⟩
theorem okS_app {x y : Str} (hx : okS x) (hy : okS y) : okS (x ++ y) := by
  rw [okS_iff] at hx hy ⊢
  intro c hc
  have : (x ++ y).cps.toList = x.cps.toList ++ y.cps.toList := by
    show (x.cps ++ y.cps).toList = _
    simp
  rw [this] at hc
  exact (List.mem_append.mp hc).elim (hx c) (hy c)
theorem okS_tk {x : Str} (hx : okS x) (k : Nat) : okS (tk x k) := by
  rw [okS_iff] at hx ⊢
  intro c hc
  exact hx c (List.mem_of_mem_take (by simpa [tk] using hc))
theorem okS_dr {x : Str} (hx : okS x) (k : Nat) : okS (dr x k) := by
  rw [okS_iff] at hx ⊢
  intro c hc
  exact hx c (List.mem_of_mem_drop (by simpa [dr] using hc))
theorem okS_of (s : String) : okS (Str.ofString s) := by
  rw [okS_iff]
  intro c hc
  rw [Str.ofString_eq_toList] at hc
  have : c ∈ s.toList.map Char.toNat := by simpa using hc
  obtain ⟨ch, _, rfl⟩ := List.mem_map.mp this
  have h := ch.valid
  rcases h with h | h
  · have : ch.toNat < 55296 := h
    (first | lia | omega)
  · exact h.2
theorem okS_plain {x : Str} (h : plain x) : okS x := by
  rw [okS_iff]
  intro c hc
  have := h c hc
  unfold rowCs at this
  simp at this
  omega
theorem okS_join {x : Str} (hx : okS x) {ys : List Str} (hy : ∀ y ∈ ys, okS y) : okS (Txt.join x ys) := by
  rw [Txt.join, StrLaws.glued_eq_join]
  induction ys with
  | nil => exact okS_of ""
  | cons y r ih => cases r with
    | nil => exact hy y (.head _)
    | cons z r => exact okS_app (okS_app (hy y (.head _)) hx) (ih fun u hu => hy u (.tail _ hu))
theorem okS_shorten {x : Str} (hx : okS x) (p q : Nat) : okS (shorten x p q) := by
  unfold shorten
  split
  · exact okS_app (okS_app (okS_app (okS_app (okS_tk hx _) (okS_of _)) (okS_of _)) (okS_of _)) (okS_dr hx _)
  · exact hx
theorem okS_getD {ts : List Str} (h : ∀ t ∈ ts, okS t) (i : Nat) : okS (ts.getD i "") := by
  rw [List.getD_eq_getElem?_getD]
  cases q : ts[i]? with
  | none => exact okS_of ""
  | some t => exact h t (List.mem_of_getElem? q)
theorem okS_pfx {ts : List Str} (h : ∀ t ∈ ts, okS t) : okS (pfx ts) := okS_tk (okS_getD h _) _
theorem okS_csr {ts : List Str} (h : ∀ t ∈ ts, okS t) : ∀ t ∈ csr ts, okS t := by
  unfold csr
  simp only
  split
  · exact h
  · split
    · intro t ht
      obtain ⟨s, hs, rfl⟩ := List.mem_map.mp ht
      exact okS_app (okS_shorten (okS_pfx h) _ _) (okS_dr (h s hs) _)
    · intro t ht
      obtain ⟨s, hs, rfl⟩ := List.mem_map.mp ht
      exact okS_app (okS_shorten (okS_pfx h) _ _) (okS_shorten (okS_dr (h s hs) _) _ _)
theorem okS_text {rows : List Str} (h : ∀ x ∈ rows, plain x) : okS (textOf rows) :=
  okS_app (okS_app (okS_of _) (okS_join (okS_of _) fun y hy => by
    obtain ⟨x, hx, rfl⟩ := List.mem_map.mp hy
    exact okS_app (okS_app (okS_of _) (okS_plain (h x hx))) (okS_of _))) (okS_of _)
theorem lay_strs {l : List Str} (h : ∀ x ∈ l, okS x) : PyData.canLayAll0 (l.map .str) = true := by rw [canLayAll_strs']; exact List.all_eq_true.mpr h
theorem lay_lists : ∀ {l : List (List Str)}, (∀ r ∈ l, ∀ x ∈ r, okS x) → PyData.canLayAll0 (l.map strsD) = true
  | [], _ => rfl
  | x :: r, h => by
    show (PyData.canLayAll0 (x.map .str) && PyData.canLayAll0 (r.map strsD)) = true
    rw [lay_lists fun y hy => h y (.tail _ hy), lay_strs (h x (.head _))]; rfl
theorem dep_strs : ∀ l : List Str, PyData.depthAll (l.map .str) = 0
  | [] => rfl
  | x :: r => by show max 0 (PyData.depthAll (r.map .str)) = 0; rw [dep_strs r]; rfl
theorem dep_lists : ∀ l : List (List Str), PyData.depthAll (l.map strsD) ≤ 1
  | [] => by decide
  | x :: r => by
    have h1 := dep_lists r
    have h2 := dep_strs x
    show max (PyData.depthAll (x.map .str) + 1) (PyData.depthAll (r.map strsD)) ≤ 1
    (first | lia | omega)
theorem shp_of {d : PyData} (h1 : d.canLay0 = true) (h2 : d.depth ≤ 64) : SeqAt.shaped d = true := by unfold SeqAt.shaped; rw [h1]; simpa using h2
theorem shp_strs {l : List Str} (h : ∀ x ∈ l, okS x) : SeqAt.shaped (strsD l) = true := shp_of (lay_strs h) (by show PyData.depthAll (l.map .str) + 1 ≤ 64; rw [dep_strs]; decide)
theorem shp_strsT {l : List Str} (h : ∀ x ∈ l, okS x) : SeqAt.shaped (.tuple (l.map .str)) = true := shp_of (lay_strs h) (by show PyData.depthAll (l.map .str) + 1 ≤ 64; rw [dep_strs]; decide)
theorem shp_lists {l : List (List Str)} (h : ∀ r ∈ l, ∀ x ∈ r, okS x) : SeqAt.shaped (.list (l.map strsD)) = true := shp_of (lay_lists h) (by have := dep_lists l; show PyData.depthAll (l.map strsD) + 1 ≤ 64; (first | lia | omega))
theorem eqv_self {d : PyData} (h : SeqAt.shaped d = true) : PyData.eqv d d = true := SeqAt.eqv_refl d (SeqAt.canLay_of_shaped h)
end
section
structure ShortOk (ls : List (List Str)) : Prop where
  small : Small ls
  pl : ∀ l ∈ ls, ∀ x ∈ l, plain x
  hd : ∀ i, (∀ j, j < i → cAt (minS (ls.map textOf)) j = cAt (maxS (ls.map textOf)) j) → i < (minS (ls.map textOf)).length → i < (maxS (ls.map textOf)).length
  h1 : (minS (ls.map textOf)).length ≤ 1000
  h2 : (maxS (ls.map textOf)).length ≤ 1000
  eq : csr (ls.map textOf) = shortT (ls.map textOf)
theorem is_short_fs (ls : List (List Str)) (h : ShortOk ls) : OpN 104 (fun vals => call (.ref 303) vals) [.d (.list (ls.map strsD))] [(56, tabO)] (.d (.bool true)) [(56, tabO)] := by
  refine call_def1 (n := 103) ["lists"] ["wanted", "kept"] (fun w => by exact rfl) (fun w => by kernel_rfl) (by exact bind1 fun _ _ => BindsTo.of_eq rfl) rfl (by decide) rfl (fun C L => ⟨by decide, by decide, rfl, rfl⟩) fun C L O l => ?_
  have hl := h.small.len
  have hz : ls.length ≤ sizeLine := by rw [big]; lia
  have ok : ∀ r ∈ ls, ∀ x ∈ r, okS x := fun r hr x hx => okS_plain (h.pl r hr x hx)
  have okt : ∀ t ∈ ls.map textOf, okS t := fun t ht => by
    obtain ⟨r, hr, rfl⟩ := List.mem_map.mp ht
    exact okS_text (h.pl r hr)
  refine Ex.let_ O l 1 (v := .d (.tuple ((shortT (ls.map textOf)).map .str))) (Ev.callP O (nm_law_short O rfl) (kp_law_short _) (Es.cons (Ev.nm O l 0) Es.nil) ((law_short ls h.small).mono (by decide))) ?_
  refine Ex.letComp O l 2 ls (fun r => V.d (strsD r)) (fun r => strsD r) (Ev.nm O l 0) ?_ (compOk [] [] rfl rfl rfl rfl rfl (of_decide_eq_true rfl) rfl rfl rfl rfl) hz ?_ ?_
  · have := src_list (xs := ls.map strsD)
    rw [List.map_map] at this; exact this
  · intro C D fz O' r hr
    have l' : LayR ["rows"] := ⟨by decide, by decide⟩
    have := h.small.rows r hr
    exact cstep O' l' rfl (Ev.callP O' (nm_b_list O' rfl) keep_type (Es.cons (Ev.nmR O' l' 0) Es.nil) (listD_op (.inl rfl) (by rw [big, List.length_map]; lia)))
  · have s1 : SeqAt.shaped (.tuple ((csr (ls.map textOf)).map .str)) = true := shp_strsT (okS_csr okt)
    have s2 := shp_lists ok
    have s3 := s1
    rw [h.eq] at s3
    refine Ex.retD (Ev.andT O (Ev.castB ?_ (Ev.cmp O (Ev.callStar (fp := [(56, tabO)]) (fp' := [(56, tabO)]) (led2 := []) (ds := ls.map strsD) O (nm_common_shorten_repr O rfl) (kp_common_shorten_repr _) (Ev.nm O l 0) (.inl rfl) (by simpa using hz) (csr_fs ls (by have := h.small.ne; cases ls with | nil => exact absurd rfl this | cons a b => simp) (by lia) h.pl h.small.rows h.small.row h.hd h.h1 h.h2)) (Ev.nm O l 1) (eq_dd s1 s3))) (Ev.castB ?_ (Ev.cmp O (Ev.nm O l 0) (Ev.nm O l 2) (eq_dd s2 s2))))
    · rw [h.eq]; exact eqv_self s3
    · exact eqv_self s2
end
section
section
variable {n : Nat} {Γ : Cx} {loc loc' loc1 loc2 : Loc} {led led' led1 led2 pre post : Led} {s : Shared} {o : Out}
theorem St.turn (O : Ok n Γ) (hn : 100 ≤ n) (S : St Γ loc led s) {h' : Heap} {t : Nat} (k : ∀ b o, s.heap.get? b = some o → b ≠ Γ.fenv.locals → b ∉ frs Γ → h'.get? b = some o)
    (u : ∀ b o, s.heap.get? b = some o → b = Γ.fenv.locals ∨ b ∈ frs Γ → ∃ o', h'.get? b = some o' ∧ upTo o o') : St Γ loc led { s with heap := h', toks := t } ∧ Le Γ led s led { s with heap := h', toks := t } := by
  have notFr : ∀ b, b ∉ Γ.priv → b ≠ Γ.fenv.locals ∧ b ∉ frs Γ := fun b hb => ⟨fun q => hb (q ▸ O.pf), fun q => hb (O.fr_priv (.inr q)).1⟩
  have up : ∀ b o, s.heap.get? b = some o → ∃ o', h'.get? b = some o' ∧ upTo o o' := fun b o e => by
    by_cases q : b = Γ.fenv.locals ∨ b ∈ frs Γ
    · exact u b o e q
    · exact ⟨o, k b o e (fun z => q (.inl z)) (fun z => q (.inr z)), o.slots, rfl⟩
  have le : Le Γ led s led { s with heap := h', toks := t } := fun b o e => by
    have e1 := vget (e)
    have e2 := vout (e)
    obtain ⟨n1, n2⟩ := notFr b fun hb => e2 (List.mem_append_left _ hb)
    exact vmk (k b o e1 n1 n2) e2
  refine ⟨⟨?_, ?_, fun p hp => ?_, S.nd, fun a ha => ?_, S.os, S.gn, fun p hp => ?_⟩, le⟩
  · refine aside fun zk => ?_
    obtain ⟨m, F⟩ := S.fr
    obtain ⟨oL, es, ep, q1, q2⟩ := F.ns
    obtain ⟨o', e', uu⟩ := up _ _ q1
    apply zk
    exact ⟨m, ns_upTo F.ns q1 e' uu, fun b o e => k b o (F.keep b o e) (fun q => by rw [O.fr_g S (.inl q)] at e; cases e) (fun q => by rw [O.fr_g S (.inr q)] at e; cases e), F.above⟩
  · refine aside fun zk => ?_
    obtain ⟨m, cm, n1, n2, n3⟩ := S.nm
    obtain ⟨oL, es, ep, q1, q2⟩ := id n1
    obtain ⟨o', e', uu⟩ := up _ _ q1
    apply zk
    refine ⟨m, cm, ns_upTo n1 q1 e' uu, fun y a e => ?_, fun y v e => let ⟨v', e', r⟩ := n3 y v e; ⟨v', e', r.keeps le⟩⟩
    refine aside fun zk => ?_
    obtain ⟨o, ho, hd⟩ := n2 y a e
    obtain ⟨c1, c2, c3, c4, c5⟩ := O.ce y a e
    apply zk
    exact ⟨o, k _ _ ho c4 c5, hd⟩
  · refine aside fun zk => ?_
    obtain ⟨h1, h2, o, h3, h4⟩ := S.ld p hp
    obtain ⟨n1, n2⟩ := notFr _ h1
    apply zk
    exact ⟨h1, h2, o, k _ _ h3 n1 n2, p.2.mono (.of le) h4⟩
  · obtain ⟨o, e⟩ := S.pv a ha
    obtain ⟨o', e', _⟩ := up _ _ e
    exact ⟨o', e'⟩
  · obtain ⟨o, e, r⟩ := S.fz p hp
    by_cases q : p.1 = Γ.fenv.locals ∨ p.1 ∈ frs Γ
    · refine aside fun zk => ?_
      obtain ⟨o', e', x, rfl⟩ := u _ _ e q
      apply zk
      exact ⟨_, e', O.fc hn p hp q o x r⟩
    · exact ⟨o, k _ _ e (fun z => q (.inl z)) (fun z => q (.inr z)), r⟩
theorem Ok.funFrames (O : Ok n Γ) (S : St Γ loc led s) {h B : Heap} (hB : ∀ L, L = Γ.fenv.locals ∨ L ∈ frs Γ → B.get? L = none) (k : ∀ b o, s.heap.get? b = some o → h.get? b = some o) : h.FunFrames B (Γ.fenv :: Γ.outer) := by
  have all : ∀ e ∈ Γ.fenv :: Γ.outer, e.scope.kind ≠ .module ∧ ∃ L o, e.frame = some L ∧ B.get? L = none ∧ h.get? L = some o ∧ ∀ vs, o.data ≠ .fields vs := fun e he => by
    rcases List.mem_cons.mp he with rfl | he
    · obtain ⟨o, es, kk, h1, h2⟩ := O.fr_obj S (.inl rfl)
      exact ⟨by rw [O.hk]; decide, _, o, O.hf, hB _ (.inl rfl), k _ _ h1, fun vs q => by rw [h2] at q; cases q⟩
    · obtain ⟨e0, L, P, e1, _⟩ := O.fo e he
      have hL : L ∈ frs Γ := List.mem_filterMap.mpr ⟨e, he, e1⟩
      obtain ⟨o, es, kk, h1, h2⟩ := O.fr_obj S (.inr hL)
      exact ⟨e0, L, o, e1, hB _ (.inr hL), k _ _ h1, fun vs q => by rw [h2] at q; cases q⟩
  have : ∀ l : List Env, (∀ e ∈ l, e.scope.kind ≠ .module ∧ ∃ L o, e.frame = some L ∧ B.get? L = none ∧ h.get? L = some o ∧ ∀ vs, o.data ≠ .fields vs) → h.FunFrames B l := fun l => by
    induction l with
    | nil => intro _; trivial
    | cons e r ih => intro hl; exact ⟨(hl e (.head _)).1, (hl e (.head _)).2, ih fun x hx => hl x (.tail _ hx)⟩
  exact this _ all
theorem name_any (O : Ok n Γ) (S : St Γ loc led s) {A : Around} {E : Value → Shared → Prop} {Q : Value → Shared → Prop} {x : Str} {pos : Pos} {v : V} (hv : loc.lookup x = some v) (h : ∀ v', RepV (vis Γ led s) v v' → Q v' s) (hd : autoParam ((x == ("__debug__" : Str)) = false) aD) (hc : autoParam ((x == ("__classdict__" : Str)) = false) aD) :
    wpAny (MM Γ.w) A (eval (.Name x pos) Γ.env) Q E s := by
  obtain ⟨m, cm, hm, hcm, hl⟩ := S.nm
  obtain ⟨v', e, r⟩ := hl x v hv
  have k := h v' r
  unfold nmOf at e
  refine wpAny_Name ?_ hd
  split at e
  · rename_i hk; exact wpAny_loadName_local O.ek hk hm e k
  · rename_i hk
    obtain ⟨a, hcl, e⟩ := Option.bind_eq_some_iff.mp e
    obtain ⟨o, ho, hod⟩ := hcm x a hcl; exact wpAny_loadName_cell O.ek hk hcl ⟨o, ho, by rw [hod, e]⟩ k
  · rename_i hk
    obtain ⟨a, hcl, e⟩ := Option.bind_eq_some_iff.mp e
    obtain ⟨o, ho, hod⟩ := hcm x a hcl; exact wpAny_loadName_free O.ek hk hcl ⟨o, ho, by rw [hod, e]⟩ k hc
  · cases e
theorem blt_any (O : Ok n Γ) (S : St Γ loc led s) {A : Around} {E : Value → Shared → Prop} {Q : Value → Shared → Prop} {x : Str} {pos : Pos} {v : Value} (hx : Γ.env.kindOf x = some .globalImplicit) (e : nsIn (KF Γ.w) mainGlobals x = some none) (hv : bootBuiltins x = some v) (h : Q v s) (hn : autoParam (x ≠ "__name__") aD)
    (hd : autoParam ((x == ("__debug__" : Str)) = false) aD) : wpAny (MM Γ.w) A (eval (.Name x pos) Γ.env) Q E s := by
  obtain ⟨m, F⟩ := S.fr
  obtain ⟨_, _, mg, mb, T⟩ := O.T
  exact Name_function_global O.ek hx (loadGlobal_builtin (by rw [O.eg]; exact T.g.keeps F.keep) (mg_none_of O.X T.g e) (by rw [O.eb]; exact T.b.keeps F.keep) ((T.builtins x hn).trans hv) h) hd
theorem Ex1.tryCatch (O : Ok n Γ) (hn : 100 ≤ n) {body suite : List Stmt} {b₀ : Stmt} {x : Str} {np hpos pos : Pos} {X : String}
    (hbody : ∀ s (Q : Flow → Shared → Prop) (E : Value → Shared → Prop), St Γ loc led s → (∀ s1 h' tk e, St Γ loc1 led1 s1 → Le Γ led s led1 s1 → Heap.NewExc s1.heap h' e X → E (.ref e) { s1 with heap := h', toks := tk }) → wpAny (MM Γ.w) Γ.A (execs body Γ.env) Q E s)
    (hx : Γ.env.kindOf x = some .globalImplicit) (ex : ∀ w, nsIn (KF w) mainGlobals x = some none) (hv : bootBuiltins x = some (.type X)) (hnm : x ≠ "__name__") (hdb : (x == ("__debug__" : Str)) = false)
    (hexc : isSubtype (.type X) (.type "BaseException") = pure true) (hnt : isSubtype (.type ((Manifest.find? X).elim "type" fun x => x.metatype)) (.type "tuple") = pure false) (hsub : isSubtype (.type X) (.type X) = pure true)
    (hfe : Γ.env.frame = some Γ.fenv.locals) (hee : Γ.env = Γ.fenv)
    (hsuite : ∀ (A : Around) s (Q : Flow → Shared → Prop) (E : Value → Shared → Prop), St Γ loc1 led1 s → (∀ s', St Γ loc2 led2 s' → Le Γ led1 s led2 s' → Q .next s') → wpAny (MM Γ.w) A (execs (b₀ :: suite) Γ.env) Q E s) :
    Ex1 Γ loc led (.Try body [.ExceptHandler (some (.Name x np)) none (b₀ :: suite) hpos] [] [] pos) (.next loc2 led2) := fun s Q E S k => by
  refine wpAny_Try_except (hbody s _ _ S fun s1 h1 tk e S1 le1 nx => ?_)
  refine aside fun zk => ?_
  obtain ⟨oe, te, he, hcls, hd⟩ := nx.there
  apply zk
  let hid : List Addr := e :: Γ.fenv.locals :: frs Γ
  have hidN : ∀ L, L = Γ.fenv.locals ∨ L ∈ frs Γ → (hideAll h1 hid).get? L = none := fun L hL => hideAll_none _ (.tail _ (List.mem_cons.mpr hL))
  have FF := O.funFrames S1 (B := hideAll h1 hid) hidN nx.keeps
  have hen : (hideAll h1 hid).get? e = none := hideAll_none _ (.head _)
  obtain ⟨S2, le2⟩ := S1.grow (t := tk) nx.keeps
  -- behind every station: all but the frames stays
  have keep : ∀ h2, (hideAll h1 hid).StaysIn h2 → h1.UpToSlots h2 → ∀ t, St Γ loc1 led1 { s1 with heap := h2, toks := t } ∧ Le Γ led1 s1 led1 { s1 with heap := h2, toks := t } := fun h2 st us t => by
    refine S1.turn O hn (fun b o eb n1 n2 => st b o (hideAll_get _ (nx.keeps b o eb) fun hb => ?_)) fun b o eb hb => ?_
    · rcases List.mem_cons.mp hb with q | hb
      · rw [q, nx.new] at eb; cases eb
      · exact (List.mem_cons.mp hb).elim n1 n2
    · obtain ⟨o', es, kk, h3, h4⟩ := O.fr_obj S1 hb
      rw [eb] at h3; cases h3
      obtain ⟨sl, h5⟩ := us b o (nx.keeps b o eb) fun vs q => by rw [h4] at q; cases q
      exact ⟨_, h5, sl, rfl⟩
  unfold noteFrame
  simp only [hfe]
  refine wpAny_bind (wpAny_field he hd (x := Value.none) rfl ?_)
  rw [if_neg (by decide)]
  refine wpAny_newEntryW (base := hideAll h1 hid) (outer := Γ.outer) (by rw [O.hA hn, hee]) (by rw [hee]; exact FF) hfe he (fun b o e => (hideAll_iff.mp e).1) hen hd (by simp) rfl fun h2 ⟨w1, w2, w3, w4⟩ => ?_
  refine aside fun zk => ?_
  obtain ⟨S3, le3⟩ := keep h2 w1 w4 tk
  have fl : Heap.FlyingW (hideAll h1 hid) (Γ.env :: Γ.outer) e oe.cls te h2 := ⟨w1, hen, w2, w3⟩
  obtain ⟨ob, hob, hobc⟩ := fl.there
  apply zk
  refine wpAny_handleBy_builtin (X := X) (T := X) (b := true) hexc hnt hsub (blt_any O S3 hx (ex _) hv ⟨rfl, ⟨ob, hob, hobc.trans hcls⟩, ?_⟩ hnm hdb)
  rw [if_pos rfl]
  refine lands_againW fl fun h3 fl3 us3 => ?_
  obtain ⟨S4, le4⟩ := keep h3 fl3.1 (Heap.UpToSlots.trans w4 us3) tk
  exact hsuite _ _ _ _ S4 fun s5 S5 le5 => k _ _ ⟨rfl, S5, le1.trans (le4.trans le5)⟩
end
end
section
theorem eqGives_str (z : Str) (tz : Tok) (x : Str) (t : Tok) : MeetsSeq.EqGives (.str z tz) (.str x t) (z == x) := fun prog w A E s Q h => SeqAt.EqAt.str_str (A := A) (s := s) z tz x t prog w E Q h
theorem readsAll_eraseIdx {h : Heap} {vs : List Value} {ds : List PyData} {as : List Addr} (r : ReadsAll h vs ds as) : ∀ i, ∃ bs, ReadsAll h (vs.eraseIdx i) (ds.eraseIdx i) bs :=
  readsAll_ind (P := fun vs ds _ => ∀ i, ∃ bs, ReadsAll h (vs.eraseIdx i) (ds.eraseIdx i) bs) (fun _ => ⟨_, .nil⟩) (fun a b q i => match i with
    | 0 => ⟨_, b⟩
    | i + 1 => (q i).elim fun _ q => ⟨_, .cons a q⟩) r
theorem erase_toList (its : Array Value) (j : Nat) : (its.eraseIdxIfInBounds j).toList = its.toList.eraseIdx j := by
  unfold Array.eraseIdxIfInBounds
  split
  · rw [Array.toList_eraseIdx]
  · rw [List.eraseIdx_of_length_le]
    simp; lia
section
variable {n : Nat} {Γ : Cx} {loc loc' loc1 loc2 : Loc} {led led' led1 led2 pre post : Led} {s : Shared} {o : Out}
theorem Ev.perm {e : Expr} {v : V} {l1 l2 : Led} (h : Ev Γ loc l1 e v loc' l2) (p : led.Perm l1) (q : l2.Perm led') : Ev Γ loc led e v loc' led' := fun s Q E S k => by
  obtain ⟨S1, le1⟩ := S.perm p
  refine h s Q E S1 fun v' s' S' le' r => ?_
  obtain ⟨S2, le2⟩ := S'.perm q
  exact k v' s' S2 (le1.trans (le'.trans le2)) (r.keeps le2)
theorem St.erase {a : Addr} {ds : List PyData} (O : Ok n Γ) (S : St Γ loc (pre ++ (a, lstO ds) :: post) s) {vals : Array Value} {k : Nat} {as : List Addr} (h3 : s.heap.get? a = some { cls := .type "list", data := .seq vals k }) (r : ReadsAll (vis Γ (pre ++ (a, lstO ds) :: post) s) vals.toList ds as) (j : Nat) :
    St Γ loc (pre ++ (a, lstO (ds.eraseIdx j)) :: post) { s with heap := s.heap.update a (Obj.mapSeq fun xs => xs.eraseIdxIfInBounds j) } ∧ Le Γ (pre ++ (a, lstO ds) :: post) s (pre ++ (a, lstO (ds.eraseIdx j)) :: post) { s with heap := s.heap.update a (Obj.mapSeq fun xs => xs.eraseIdxIfInBounds j) } := by
  have g := IsL.update (n := k) h3 (fun xs => xs.eraseIdxIfInBounds j)
  exact S.setLed (x' := lstO (ds.eraseIdx j)) (t := s.toks) O (Heap.SameBut.update ..) g fun v kk => by
    obtain ⟨bs, r'⟩ := readsAll_eraseIdx (readsAll_sub kk r) j
    exact ⟨_, _, bs, rfl, by rw [erase_toList]; exact r'⟩
theorem pop_op {a : Addr} {ds : List PyData} {d : PyData} (hz : ds.length + 1 ≤ sizeLine) : OpN n (fun vals => PySem.call (.builtin "list.pop") vals) [.raw (.ref a)] [(a, lstO (ds ++ [d]))] (.d d) [(a, lstO ds)] := fun Γ loc led s vals Q E O S rs h => by
  cases rs with
  | cons r1 q => cases q with
    | nil =>
      refine aside fun zk => ?_
      cases r1
      obtain ⟨h1, h2, o, h3, vals, k, as, rfl, r⟩ := S.ld _ (.head _)
      have e := readsAll_length r
      have e' : vals.size = ds.length + 1 := by rw [← Array.length_toList, e, List.length_append]; rfl
      obtain ⟨v, bs, hv, rv⟩ := readsAll_get r (i := ds.length) (d := d) (by simp)
      apply zk
      have hv' : vals[vals.size - 1]? = some v := by rw [e', Nat.add_sub_cancel, ← Array.getElem?_toList]; exact hv
      refine call_meets PySem.F.slot_list_pop ⟨_, h3, rfl⟩ PySem.F.entry_list_pop (PySem.F.args_list_pop_1 _) (PySem.MeetsSeq.list_pop_last a _ k v hv' (by lia)) ⟨h3, ?_⟩
      obtain ⟨S4, le4⟩ := S.erase (pre := []) O h3 r (vals.size - 1)
      have ed : (ds ++ [d]).eraseIdx (vals.size - 1) = ds := by
        rw [e', Nat.add_sub_cancel, List.eraseIdx_append_of_length_le (Nat.le_refl _), Nat.sub_self]; simp
      rw [ed] at S4 le4
      exact h _ _ S4 le4 ⟨_, reads_sub (.of le4) rv⟩
theorem strs_val {h : Heap} {vs : List Value} {ys : List Str} {as : List Addr} (r : ReadsAll h vs (ys.map .str) as) (i : Nat) (y : Str) (hy : ys[i]? = some y) : ∃ t, vs[i]? = some (Value.str y t) := by
  refine aside fun zk => ?_
  obtain ⟨v, bs, hv, rv⟩ := readsAll_get r (i := i) (d := .str y) (by rw [List.getElem?_map, hy]; rfl)
  cases rv
  apply zk
  exact ⟨_, hv⟩
theorem map_eraseIdx' {α β : Type} (f : α → β) : ∀ (l : List α) (i : Nat), (l.map f).eraseIdx i = (l.eraseIdx i).map f
  | [], _ => rfl
  | _ :: _, 0 => rfl
  | x :: r, i + 1 => by simp [map_eraseIdx' f r i]
theorem remove_op {a : Addr} {ys : List Str} {x : Str} (hx : x ∈ ys) (hz : ys.length ≤ sizeLine) : OpN n (fun vals => PySem.call (.builtin "list.remove") vals) [.raw (.ref a), .d (.str x)] [(a, lstO (ys.map .str))] (.d .none) [(a, lstO ((ys.erase x).map .str))] := fun Γ loc led s vals Q E O S rs h => by
  cases rs with
  | cons r1 q => cases q with
    | cons r2 q => cases q with
      | nil =>
        refine aside fun zk => ?_
        cases r1
        obtain ⟨t, rfl⟩ := rep_str r2
        obtain ⟨h1, h2, o, h3, vals, k, as, rfl, r⟩ := S.ld _ (.head _)
        have e := readsAll_length r
        have e' : vals.size = ys.length := by rw [← Array.length_toList, e, List.length_map]
        obtain ⟨_, e2⟩ := any_isS (x := x) (reads_strs r)
        apply zk
        have hj : ys.idxOf x < ys.length := List.idxOf_lt_length_of_mem hx
        have val : ∀ m (hm : m < vals.size), ∃ tm, vals[m] = .str (ys[m]'(by lia)) tm := fun m hm => by
          obtain ⟨tm, q⟩ := strs_val r m _ (List.getElem?_eq_getElem (by lia))
          rw [Array.getElem?_toList, Array.getElem?_eq_getElem hm] at q
          exact ⟨tm, Option.some.inj q⟩
        refine call_meets PySem.F.slot_list_remove ⟨_, h3, rfl⟩ PySem.F.entry_list_remove (PySem.F.args_list_remove_2 _ _) (PySem.MeetsSeq.list_remove a _ k _ (isS x) (fun y hy => ?_) (ys.idxOf x) (by lia) ?_ (fun m hm hlt => ?_) (by lia)) ⟨h3, ?_⟩
        · obtain ⟨z, tz, rfl⟩ := e2 y (by simpa using hy)
          exact eqGives_str z tz x t
        · obtain ⟨tm, q⟩ := val (ys.idxOf x) (by lia)
          rw [q]
          show (ys[ys.idxOf x] == x) = true
          rw [List.getElem_idxOf]; exact beq_self_eq_true _
        · obtain ⟨tm, q⟩ := val m hm
          rw [q]
          show (ys[m] == x) = false
          have := List.not_of_lt_findIdx (p := fun z => z == x) (xs := ys) (i := m) hlt
          simpa using this
        · obtain ⟨S4, le4⟩ := S.erase (pre := []) O h3 r (ys.idxOf x)
          rw [map_eraseIdx', ← List.erase_eq_eraseIdx_of_idxOf (by exact rfl)] at S4 le4
          exact h _ _ S4 le4 of_none
theorem remove_not {a : Addr} {ys : List Str} {x : Str} {t : Tok} {A : Around} (hA : A.handled = none) (hx : x ∉ ys) (S : St Γ loc led s) (hm : (a, lstO (ys.map .str)) ∈ led) {Q : Value → Shared → Prop} {E : Value → Shared → Prop}
    (h : ∀ h' tk e, Heap.NewExc s.heap h' e "ValueError" → E (.ref e) { s with heap := h', toks := tk }) : wpAny (MM Γ.w) A (call (.builtin "list.remove") [.ref a, .str x t]) Q E s := by
  refine aside fun zk => ?_
  obtain ⟨h1, h2, o, h3, vals, k, as, rfl, r⟩ := S.ld _ hm
  have e := readsAll_length r
  have e' : vals.size = ys.length := by rw [← Array.length_toList, e, List.length_map]
  obtain ⟨_, e2⟩ := any_isS (x := x) (reads_strs r)
  apply zk
  refine call_meets PySem.F.slot_list_remove ⟨_, h3, rfl⟩ PySem.F.entry_list_remove (PySem.F.args_list_remove_2 _ _) (PySem.MeetsSeq.list_remove_none a _ k _ (isS x) (fun y hy => ?_) (fun m hm => ?_)) ⟨h3, hA, h⟩
  · obtain ⟨z, tz, rfl⟩ := e2 y (by simpa using hy)
    exact eqGives_str z tz x t
  · obtain ⟨tm, q⟩ := strs_val r m _ (List.getElem?_eq_getElem (by omega))
    rw [Array.getElem?_toList, Array.getElem?_eq_getElem hm] at q
    rw [Option.some.inj q]
    show (ys[m] == x) = false
    exact beq_eq_false_iff_ne.mpr fun q => hx (q ▸ List.getElem_mem _)
theorem Bt.lst (O : Ok n Γ) {e : Expr} {a : Addr} {ds : List PyData} (he : Ev Γ loc led e (.raw (.ref a)) loc1 led1) (hm : (a, lstO ds) ∈ led1) (hz : ds.length ≤ sizeLine) (hi : autoParam (isTrue e Γ.env (eval e Γ.env) = (do let v ← eval e Γ.env; standAt e.pos; holding [v] (truthy v))) aR) : Bt Γ loc led e (!ds.isEmpty) loc1 led1 := fun s Q E S h =>
  isTrue_plain (he s _ E S fun v s1 S1 le1 ra => by
    refine aside fun zk => ?_
    cases ra
    obtain ⟨h1, h2, o, h3, vals, k, as, rfl, r⟩ := S1.ld _ hm
    apply zk
    have e := readsAll_length r
    have e' : vals.size = ds.length := by rw [← Array.length_toList, e]
    refine wpAny_truthy_list ⟨_, h3, rfl, k, rfl⟩ (by rw [big] at hz; lia) (h _ _ (S1.toks _) le1 ?_)
    cases ds with
    | nil => simp at e'; subst e'; rfl
    | cons x r =>
      have : vals.isEmpty = false := by simp; intro q; subst q; simp at e'
      rw [this]; rfl) hi
theorem append_any (O : Ok n Γ) {x y : Str} {p q apos pos spos : Pos} {a : Addr} {ds : List PyData} {d : PyData} {A : Around} (hx : loc.lookup x = some (.raw (.ref a))) (hy : loc.lookup y = some (.d d)) (hz : ds.length ≤ sizeLine) (S : St Γ loc ((a, lstO ds) :: led) s) {Q : Flow → Shared → Prop} {E : Value → Shared → Prop}
    (h : ∀ s', St Γ loc ((a, lstO (ds ++ [d])) :: led) s' → Le Γ ((a, lstO ds) :: led) s ((a, lstO (ds ++ [d])) :: led) s' → Q .next s')
    (hi : interactive Γ.env = false) (x1 : (x == ("__debug__" : Str)) = false) (x2 : (x == ("__classdict__" : Str)) = false) (y1 : (y == ("__debug__" : Str)) = false) (y2 : (y == ("__classdict__" : Str)) = false)
    {pl : Sem Bool} (he : autoParam (eval (.Call (.Attribute (.Name x p) "append" apos) [.Name y q] [] pos) Γ.env = (do let ov ← eval (.Name x p) Γ.env; standAt apos.atName; let (f, first) ← holding [ov] (getMethod ov "append" pl); callWith pos f first (backTo pos (starEach [.Name y q] Γ.env)) (backToKw pos (keywordEach [] Γ.env)))) aR)
    (hs : autoParam (swapsWith (.Call (.Attribute (.Name x p) "append" apos) [.Name y q] [] pos) none spos.line Γ.env = pure false) aR) :
    wpAny (MM Γ.w) A (exec (.Expr (.Call (.Attribute (.Name x p) "append" apos) [.Name y q] [] pos) spos) Γ.env) Q E s := by
  refine wpAny_Expr_any (methodCall_KW (name_any O S hx (fun v' r => ?_) x1 x2) he) hi hs
  refine aside fun zk => ?_
  cases r
  obtain ⟨h1, h2, o, h3, vals, k, as, rfl, r⟩ := S.ld _ (.head _)
  apply zk
  refine getMethod_builtin ⟨_, h3, rfl⟩ PySem.F.plainAttrs_list slot_list_append type_list_append (fun b e => by cases e; exact ⟨_, h3, rfl⟩) ?_
  refine callWith_of (P := fun h => (KF Γ.w).In h) rfl (fun h X => keep_blt h X) (evalArgs_es rfl (spliced_more (name_any O S hy (fun v' ry => spliced_none ⟨KX O S, ?_⟩) y1 y2) rfl))
  obtain ⟨bs, ry⟩ := ry
  have e := readsAll_length r
  refine append_at h3 (fun h' hs' g' => ?_) (by rw [← Array.length_toList]; lia)
  obtain ⟨S4, le4⟩ := S.setLed (pre := []) (x' := lstO (ds ++ [d])) (t := s.toks) O hs' g' fun v kk => by
    obtain ⟨cs, r3⟩ := readsAll_app (readsAll_sub kk r) (.cons (reads_sub kk ry) .nil)
    exact ⟨vals.push _, k + 1, cs, rfl, by simpa using r3⟩
  exact h _ S4 le4
end
end
section
section
variable {n : Nat} {Γ : Cx} {xs : List Str} {vs : List (Option V)} {led led' led1 : Led} {o : Out}
theorem Ex.letE (O : Ok n Γ) (l : Lay Γ xs) (i : Nat) {x : Str} {p pos : Pos} {e : Expr} {v : V} {b : List Stmt} (h1 : Ev Γ (mk xs vs) led e v (mk xs vs) led') (h2 : Ex Γ (mk xs (vs.set i (some v))) led' b o) (hi : autoParam (xs[i]? = some x) aR) (hs : autoParam (swapsWith e (some (.Name x p)) pos.line Γ.env = pure false) aR) :
    Ex Γ (mk xs vs) led (.Assign [.Name x p] e pos :: b) o :=
  Ex.cons (Ex1.assign O h1 (l.st (List.mem_of_getElem? hi)) hs) (h2.weak (put_mk l.nd hi))
end
noncomputable def uld : List Str → List Str → List Str → List Str × List Str
  | [], ys, ms => (ms, ys)
  | x :: r, ys, ms => if x ∈ ys then uld r (ys.erase x) ms else uld r ys (ms ++ [x])
theorem gl_b_ValueError (w : World) : nsIn (KF w) mainGlobals (Str.ofString "ValueError") = some none := by kernel_rfl
theorem bt_ValueError : bootBuiltins (Str.ofString "ValueError") = some (.type "ValueError") := by boot_fast
theorem uld_fs (xs ys : List Str) (hx : xs.length ≤ 100) (hy : ys.length ≤ 100) (a b : Addr) : OpN 102 (fun vals => call (.ref 76) vals) [.raw (.ref a), .raw (.ref b)] [(a, lstO (xs.map .str)), (b, lstO (ys.map .str))]
    (.d (.tuple [strsD (uld xs.reverse ys []).1, strsD (uld xs.reverse ys []).2])) [(a, lstO [])] := by
  refine call_def1 (n := 101) ["expected", "actual"] ["missing", "item"] (fun w => by exact rfl) (fun w => by kernel_rfl) (by exact bind2 fun _ _ _ => BindsTo.of_eq rfl) rfl (by decide) rfl (fun C L => ⟨by decide, by decide, rfl, rfl⟩) fun C L O l => ?_
  refine Ex.newI O l 2 (EvN.lst Es.nil (by repeat constructor)) fun c => ?_
  generalize hres : uld xs.reverse ys [] = res
  refine Ex.cons (loc1 := mk ["expected", "actual", "missing", "item"] [some (.raw (.ref a)), some (.raw (.ref b)), some (.raw (.ref c)), none]) (led1 := [(c, lstO (res.1.map .str)), (a, lstO []), (b, lstO (res.2.map .str))]) (Ex1.while_ O (fun k loc led => ∃ r zs ms, k = r.length ∧ uld r zs ms = res ∧ zs.length ≤ 100 ∧ ms.length + r.length ≤ 100 ∧ loc = mk ["expected", "actual", "missing", "item"] [some (.raw (.ref a)), some (.raw (.ref b)), some (.raw (.ref c)), none] ∧ led = [(c, lstO (ms.map .str)), (a, lstO (r.reverse.map .str)), (b, lstO (zs.map .str))]) ?_ xs.reverse.length ⟨xs.reverse, ys, [], rfl, hres, hy, by simpa using hx, rfl, by rw [List.reverse_reverse]; rfl⟩) ?_
  · rintro k loc led ⟨r, zs, ms, rfl, hr, hz, hm, rfl, rfl⟩
    cases r with
    | nil =>
      refine .inl ⟨_, _, Bt.cast (by rfl) (Bt.lst (ds := []) O (Ev.nm O l 0) (.tail _ (.head _)) (by decide)), ?_⟩
      unfold uld at hr
      subst hr
      rfl
    | cons x r =>
      have e1 : (x :: r).reverse.map PyData.str = r.reverse.map PyData.str ++ [.str x] := by simp
      have z1 : (r.reverse.map PyData.str).length + 1 ≤ sizeLine := by rw [big]; simp at hm ⊢; lia
      refine .inr ⟨_, _, .next (mk ["expected", "actual", "missing", "item"] [some (.raw (.ref a)), some (.raw (.ref b)), some (.raw (.ref c)), none]) (if x ∈ zs then [(c, lstO (ms.map .str)), (a, lstO (r.reverse.map .str)), (b, lstO ((zs.erase x).map .str))] else [(c, lstO ((ms ++ [x]).map .str)), (a, lstO (r.reverse.map .str)), (b, lstO (zs.map .str))]), Bt.cast ?_ (Bt.lst (ds := (x :: r).reverse.map .str) O (Ev.nm O l 0) (.tail _ (.head _)) (by rw [e1, List.length_append]; exact z1)), ?_, ?_⟩
      · rw [e1]; simp
      · rw [e1]
        refine Ex.letE O l 3 (v := .d (.str x)) (led' := [(c, lstO (ms.map .str)), (a, lstO (r.reverse.map .str)), (b, lstO (zs.map .str))]) (Ev.perm (l1 := [(a, lstO (r.reverse.map .str ++ [.str x])), (c, lstO (ms.map .str)), (b, lstO (zs.map .str))]) (l2 := [(a, lstO (r.reverse.map .str)), (c, lstO (ms.map .str)), (b, lstO (zs.map .str))]) (Ev.meth (fp := [(a, lstO (r.reverse.map .str ++ [.str x]))]) (fp' := [(a, lstO (r.reverse.map .str))]) (led2 := [(c, lstO (ms.map .str)), (b, lstO (zs.map .str))]) O (Ev.nm O l 0) (gm_lst (ds := r.reverse.map .str ++ [.str x]) PySem.F.slot_list_pop PySem.F.type_list_pop PySem.F.plainAttrs_list (.head _)) Es.nil (pop_op z1)) (List.Perm.swap _ _ _) (List.Perm.swap _ _ _)) ?_
        by_cases hxz : x ∈ zs
        · rw [if_pos hxz]
          refine Ex.cons (Ex1.tryOk (Ex.cons (Ex1.expr (v := .d .none) (loc1 := mk ["expected", "actual", "missing", "item"] [some (.raw (.ref a)), some (.raw (.ref b)), some (.raw (.ref c)), some (.d (.str x))]) (led1 := [(c, lstO (ms.map .str)), (a, lstO (r.reverse.map .str)), (b, lstO ((zs.erase x).map .str))]) (Ev.perm (l1 := [(b, lstO (zs.map .str)), (c, lstO (ms.map .str)), (a, lstO (r.reverse.map .str))]) (l2 := [(b, lstO ((zs.erase x).map .str)), (c, lstO (ms.map .str)), (a, lstO (r.reverse.map .str))]) (Ev.meth (fp := [(b, lstO (zs.map .str))]) (fp' := [(b, lstO ((zs.erase x).map .str))]) (led2 := [(c, lstO (ms.map .str)), (a, lstO (r.reverse.map .str))]) O (Ev.nm O l 1) (gm_lst (ds := zs.map .str) PySem.F.slot_list_remove PySem.F.type_list_remove PySem.F.plainAttrs_list (.head _)) (Es.cons (Ev.nm O l 3) Es.nil) (remove_op hxz (by rw [big]; lia))) ?_ ?_) rfl rfl) Ex.nil)) (Ex.done l (by repeat first | exact Less.nil | refine Less.skip ?_ | refine Less.same ?_))
          · exact ((List.Perm.swap _ _ _).trans ((List.Perm.swap _ _ _).cons _)).symm
          · exact (List.Perm.swap _ _ _).trans ((List.Perm.swap _ _ _).cons _)
        · rw [if_neg hxz]
          refine Ex.cons (loc1 := mk ["expected", "actual", "missing", "item"] [some (.raw (.ref a)), some (.raw (.ref b)), some (.raw (.ref c)), some (.d (.str x))]) (led1 := [(c, lstO ((ms ++ [x]).map .str)), (a, lstO (r.reverse.map .str)), (b, lstO (zs.map .str))]) (Ex1.tryCatch (X := "ValueError") O (by decide) (loc1 := mk ["expected", "actual", "missing", "item"] [some (.raw (.ref a)), some (.raw (.ref b)), some (.raw (.ref c)), some (.d (.str x))]) (led1 := [(c, lstO (ms.map .str)), (a, lstO (r.reverse.map .str)), (b, lstO (zs.map .str))]) (fun s Q E S k => ?_) rfl gl_b_ValueError bt_ValueError (by decide) (by decide) PySem.F.isExc_ValueError PySem.F.notTuple_ValueError PySem.F.self_ValueError rfl rfl fun A s Q E S k => ?_) (Ex.done l (by repeat first | exact Less.nil | refine Less.skip ?_ | refine Less.same ?_))
          · refine wpAny_execs_cons (wpAny_Expr_any (methodCall_KW (name_any O S (mk_lookup l.nd (i := 1) rfl rfl) (fun v' rv => ?_)) rfl) rfl rfl)
            refine aside fun zk => ?_
            cases rv
            obtain ⟨h1, h2, ob, h3, vals, kk, as, rfl, r3⟩ := S.ld _ (.tail _ (.tail _ (.head _)))
            apply zk
            refine getMethod_builtin ⟨_, h3, rfl⟩ PySem.F.plainAttrs_list PySem.F.slot_list_remove PySem.F.type_list_remove (fun b e => by cases e; exact ⟨_, h3, rfl⟩) ?_
            refine callWith_of (P := fun h => (KF _).In h) rfl (fun h X => keep_blt h X) (evalArgs_es rfl (spliced_more (name_any O S (mk_lookup l.nd (i := 3) rfl rfl) (fun v' ry => spliced_none ⟨KX O S, ?_⟩)) rfl))
            obtain ⟨t, rfl⟩ := rep_str ry
            exact remove_not O.hh hxz S (.tail _ (.tail _ (.head _))) fun h' tk e nx => k s h' tk e S Le.rfl nx
          · refine wpAny_execs_cons (append_any O (mk_lookup l.nd (i := 2) rfl rfl) (mk_lookup l.nd (i := 3) rfl rfl) (by rw [big]; simp; lia) S (fun s' S' le' => wpAny_execs_nil (k s' (by simpa using S') (by simpa using le'))) rfl (by decide) (by decide) (by decide) (by decide))
      · unfold uld at hr
        by_cases hxz : x ∈ zs
        · rw [if_pos hxz] at hr ⊢
          exact ⟨r.length, by simp, r, zs.erase x, ms, rfl, hr, by have := List.length_erase_le (a := x) (l := zs); lia, by simp at hm; lia, rfl, rfl⟩
        · rw [if_neg hxz] at hr ⊢
          exact ⟨r.length, by simp, r, zs, ms ++ [x], rfl, hr, hz, by simp at hm ⊢; lia, rfl, rfl⟩
  · refine Ex.freezeI l 2 ?_
    refine Ex.perm (l' := [(b, lstO (res.2.map .str)), (a, lstO [])]) ?_ (List.Perm.swap _ _ _)
    refine Ex.freezeI l 1 ?_
    exact Ex.retD (Ev.tup (Es.cons (Ev.nm O l 2) (Es.cons (Ev.nm O l 1) Es.nil)) (by repeat constructor))
end
section
section
variable {n : Nat} {Γ : Cx} {loc loc' loc1 loc2 : Loc} {led led' led1 led2 : Led} {s : Shared}
theorem Ev.thaw {e : Expr} {a : Addr} {ds : List PyData} (h : Ev Γ loc led e (.raw (.ref a)) loc1 ((a, lstO ds) :: led1)) : Ev Γ loc led e (.d (.list ds)) loc1 led1 := fun s Q E S k =>
  h s Q E S fun v s' S' le r => by
    cases r
    exact k _ _ S'.drop.1 (le.trans S'.drop.2) S'.freeze
theorem Ev.callOwn (O : Ok n Γ) {f x : Str} {fp px lp p2 pos : Pos} {e : Expr} {fv : Value} {a : Addr} {xs ys : List PyData} {v y : V} {led3 : Led} (hf : Ep Γ loc ((a, lstO xs) :: led) (.Name f fp) (.raw fv)) (hk : Keep Γ.w fv) (hx : Ep Γ loc ((a, lstO xs) :: led) (.Name x px) (.raw (.ref a)))
    (hl : Γ.env.kindOf (Str.ofString "list") = some .globalImplicit) (hy : Ep Γ loc ((a, lstO xs) :: led) e y) (hyd : y = .d (.list ys) ∨ y = .d (.tuple ys)) (hz : ys.length ≤ sizeLine)
    (ho : ∀ b, OpN n (fun vals => PySem.call fv vals) [.raw (.ref a), .raw (.ref b)] [(a, lstO xs), (b, lstO ys)] v led3)
    (hp : autoParam (∀ pos, (backTo pos (starEach [.Name x px, .Call (.Name (Str.ofString "list") lp) [e] [] p2] Γ.env)).any (·.1) = false) aI)
    (h1 : autoParam (starEach [.Name x px, .Call (.Name (Str.ofString "list") lp) [e] [] p2] Γ.env = (false, eval (.Name x px) Γ.env) :: starEach [.Call (.Name (Str.ofString "list") lp) [e] [] p2] Γ.env) aR)
    (h2 : autoParam (starEach [.Call (.Name (Str.ofString "list") lp) [e] [] p2] Γ.env = (false, eval (.Call (.Name (Str.ofString "list") lp) [e] [] p2) Γ.env) :: starEach [] Γ.env) aR)
    (q1 : autoParam (∀ pos, (backTo pos (starEach [e] Γ.env)).any (·.1) = false) aI) (q2 : autoParam (starEach (e :: []) Γ.env = (false, eval e Γ.env) :: starEach [] Γ.env) aR) :
    Ev Γ loc ((a, lstO xs) :: led) (.Call (.Name f fp) [.Name x px, .Call (.Name (Str.ofString "list") lp) [e] [] p2] [] pos) v loc (led3 ++ led) := fun s Q E S h => by
  refine Call_Name rfl (hf s _ E S fun fa s1 S1 le1 ra => ?_)
  cases ra
  refine callWith_of (P := fun h => (KF Γ.w).In h) (by rw [hp pos]; rfl) (fun h X => hk h X) (evalArgs_es (hp pos) (spliced_more (hx s1 _ E S1 fun va s2 S2 le2 r2 => spliced_more (EvN.copy O hl hy hyd hz q1 q2 s2 _ E S2 fun b s3 S3 le3 => spliced_none ⟨KX O S3, ?_⟩) h2) h1))
  cases r2
  obtain ⟨S4, le4⟩ := S3.perm (l' := [(a, lstO xs), (b, lstO ys)] ++ led) (List.Perm.swap _ _ _)
  exact ho b Γ loc led s3 _ Q E O S4 (.cons rfl (.cons rfl .nil)) fun v' s5 S5 le5 r5 => h v' s5 S5 (le1.trans (le2.trans (le3.trans (le4.trans le5)))) r5
end
theorem dep_pair (x y : List Str) : PyData.depthAll [strsD x, strsD y] ≤ 1 := dep_lists [x, y]
theorem shp_pair {x y : List Str} (hx : ∀ r ∈ x, okS r) (hy : ∀ r ∈ y, okS r) : SeqAt.shaped (.tuple [strsD x, strsD y]) = true :=
  shp_of (lay_lists (l := [x, y]) fun r hr => by
    rcases List.mem_cons.mp hr with rfl | hr
    · exact hx
    · rw [List.mem_singleton.mp hr]; exact hy) (by have := dep_pair x y; show PyData.depthAll [strsD x, strsD y] + 1 ≤ 64; lia)
theorem bags_fs (xs ys : List Str) (hx : xs.length ≤ 100) (hy : ys.length ≤ 100) (ox : ∀ r ∈ xs, okS r) (oy : ∀ r ∈ ys, okS r) (h : uld xs.reverse ys [] = ((xs.filter fun r => !ys.any (· == r)).reverse, ys.filter fun r => !xs.any (· == r))) :
    FS 103 308 [.d (strsD xs), .d (strsD ys)] (.d (.bool true)) := by
  refine call_def1 (n := 102) ["one", "two"] ["first", "second", "bare"] (fun w => by exact rfl) (fun w => by kernel_rfl) (by exact bind2 fun _ _ _ => BindsTo.of_eq rfl) rfl (by decide) rfl (fun C L => ⟨by decide, by decide, rfl, rfl⟩) fun C L O l => ?_
  have zx : xs.length ≤ sizeLine := by rw [big]; lia
  have zy : ys.length ≤ sizeLine := by rw [big]; lia
  refine Ex.letCompF O l 2 xs (fun x => V.d (.str x)) (fun r => !ys.any (· == r)) .str (Ev.nm O l 0) src_strs (compOk ["two"] [some (.d (strsD ys))] rfl rfl rfl rfl rfl (of_decide_eq_true rfl) rfl rfl rfl rfl) zx ?_ ?_
  · intro C D fz O' t ht
    have l' : LayR ["row", "two"] := ⟨by decide, by decide⟩
    exact cstepIf O' l' rfl (Bt.cmp O' (Ev.nmR O' l' 0) (Ev.nmR O' l' 1) notIn_strs) (Ev.nmR O' l' 0)
  refine Ex.letCompF O l 3 ys (fun x => V.d (.str x)) (fun r => !xs.any (· == r)) .str (Ev.nm O l 1) src_strs (compOk ["one"] [some (.d (strsD xs))] rfl rfl rfl rfl rfl (of_decide_eq_true rfl) rfl rfl rfl rfl) zy ?_ ?_
  · intro C D fz O' t ht
    have l' : LayR ["row", "one"] := ⟨by decide, by decide⟩
    exact cstepIf O' l' rfl (Bt.cmp O' (Ev.nmR O' l' 0) (Ev.nmR O' l' 1) notIn_strs) (Ev.nmR O' l' 0)
  refine Ex.newI O l 4 (EvN.copy O rfl (Ev.nm O l 0) (.inl rfl) (by simpa using zx)) fun a => ?_
  have hr : ∀ r ∈ (xs.filter fun r => !ys.any (· == r)).reverse, okS r := fun r hr => ox r (List.mem_filter.mp (List.mem_reverse.mp hr)).1
  have hs : ∀ r ∈ ys.filter (fun r => !xs.any (· == r)), okS r := fun r hr => oy r (List.mem_filter.mp hr).1
  have s1 := shp_pair hr hs
  refine Ex.retD (Ev.andT O (Ev.castB ?_ (Ev.cmp O (y := .d (.tuple [strsD (xs.filter fun r => !ys.any (· == r)).reverse, strsD (ys.filter fun r => !xs.any (· == r))])) (Ev.callOwn (led := []) O (nmunorderable_list_difference O rfl) (kpunorderable_list_difference _) (Ev.nm O l 4) rfl (Ev.nm O l 1) (.inl rfl) (by simpa using zy) fun b => uld_fs xs ys hx hy a b) (Ev.tup (Es.cons (Ev.sub O (Ev.nm O l 2) (Ev.slice Pt.none Pt.none (Pt.some (Ev.neg O Ev.int))) item_list ?_) (Es.cons (Ev.nm O l 3) Es.nil)) (by repeat constructor)) (eq_dd (by rw [h]; exact s1) s1))) (Ev.castB ?_ (Ev.cmp O (Ev.thaw (Ev.nm O l 4)) (Ev.lst Es.nil (by repeat constructor)) (eq_dd (d := .list []) (e := .list []) rfl rfl))))
  · rw [h]; exact eqv_self s1
  · have := get_lrev (xs := (xs.filter fun r => !ys.any (· == r)).map .str) (by rw [List.length_map]; exact Nat.le_trans (List.length_filter_le ..) zx)
    rw [← List.map_reverse] at this
    exact this
  · rfl
end
section
noncomputable def EvG (Γ : Cx) (loc : Loc) (led : Led) (e : Expr) (P : V → Led → Prop) : Prop :=
  ∀ s (Q : Value → Shared → Prop) (E : Value → Shared → Prop), St Γ loc led s → (∀ v d v' s', P v d → St Γ loc d s' → Le Γ led s d s' → RepV (vis Γ d s') v v' → Q v' s') → wpAny (MM Γ.w) Γ.A (eval e Γ.env) Q E s
noncomputable def OpW (w : World) (n : Nat) (f : List Value → Sem Value) (args : List V) (fp : Led) (P : V → Led → Prop) : Prop :=
  ∀ (Γ : Cx) (loc : Loc) (led : Led) (s : Shared) (vals : List Value) (Q : Value → Shared → Prop) (E : Value → Shared → Prop), Γ.w = w → Ok n Γ → St Γ loc (fp ++ led) s → RepAll (vis Γ (fp ++ led) s) args vals →
    (∀ v fp' v' s', P v fp' → St Γ loc (fp' ++ led) s' → Le Γ (fp ++ led) s (fp' ++ led) s' → RepV (vis Γ (fp' ++ led) s') v v' → Q v' s') → wpAny (MM Γ.w) Γ.A (f vals) Q E s
theorem OpN.toW {w : World} {n : Nat} {f : List Value → Sem Value} {args : List V} {fp fp' : Led} {v : V} {P : V → Led → Prop} (h : OpN n f args fp v fp') (hP : P v fp') : OpW w n f args fp P := fun Γ loc led s vals Q E hw O S rs k =>
  h Γ loc led s vals Q E O S rs fun v' s' S' le r => k v fp' v' s' hP S' le r
theorem OpW.mono {w : World} {a b : Nat} {f : List Value → Sem Value} {args : List V} {fp : Led} {P P' : V → Led → Prop} (h : OpW w a f args fp P) (hab : a ≤ b) (hP : ∀ v d, P v d → P' v d) : OpW w b f args fp P' := fun Γ loc led s vals Q E hw O S rs k =>
  h Γ loc led s vals Q E hw (O.less hab) S rs fun v d v' s' p => k v d v' s' (hP v d p)
noncomputable def OpC (w : World) (n : Nat) (f : Addr) (args : List V) (fp : Led) (P : V → Led → Prop) : Prop :=
  ∀ (Γ : Cx) (loc : Loc) (led : Led) (s : Shared) (vals : List Value) (R : Result → Shared → Prop), Γ.w = w → Ok n Γ → St Γ loc (fp ++ led) s → RepAll (vis Γ (fp ++ led) s) args vals →
    (∀ v fp' v' s', P v fp' → St Γ loc (fp' ++ led) s' → Le Γ (fp ++ led) s (fp' ++ led) s' → RepV (vis Γ (fp' ++ led) s') v v' → R (.ok (.ret v')) s') → codeAny (MM Γ.w) Γ.A (.call (.ref f) ⟨vals, []⟩) R s
theorem OpC.toW {w : World} {n : Nat} {f : Addr} {args : List V} {fp : Led} {P : V → Led → Prop} (h : OpC w n f args fp P) : OpW w n (fun vals => call (.ref f) vals) args fp P := fun Γ loc led s vals Q E hw O S rs k =>
  wpAny_call (h Γ loc led s vals _ hw O S rs fun v fp' v' s' p S' le r => k v fp' v' s' p S' le r)
theorem call_defW {w : World} {n : Nat} {f : Addr} {args args' : List V} {fp : Led} {P : V → Led → Prop} {name qual : Str} {params : Arguments} {body : List Stmt} {scope : Scope} {dV kV doc pm cdv ct oc : Value} {an od : Option Addr} {osl : Array (Option Value)} (names ys : List Str)
    (ho : ∀ w, (KF w).lookup f = some ⟨oc, od, .func (fnX name qual params body scope [] dV kV doc pm an cdv ct), osl⟩) (hcd : ∀ w, codeIn (KF w) cdv qual = true)
    (hbind : Binds (fnX name qual params body scope [] dV kV doc pm an cdv ct) names args args')
    (hkind : (names.all fun y => scope.names.lookup y == some .local || scope.names.lookup y == some .cell) = true)
    (hnd : ((cellsFrom 0 scope.names []).map (·.1)).Nodup) (hlen : names.length = args'.length) (hlay : ∀ (C : Cx0) (L : Addr), Lay (C.at (envOfC qual scope L f cdv)) (names ++ ys))
    (hbody : ∀ (C : Cx0) (L : Addr), C.w = w → Ok n (C.at (envOfC qual scope L f cdv)) → Lay (C.at (envOfC qual scope L f cdv)) (names ++ ys) → ExG (C.at (envOfC qual scope L f cdv)) (mk (names ++ ys) (args'.map some ++ ys.map fun _ => none)) fp body (Out.back P))
    (hco : autoParam (scope.isCoroutine = false) aR) (hgen : autoParam (scope.isGenerator = false) aR) (hk : autoParam (scope.kind = .function) aR) : OpC w (n + 1) f args fp P := by
  intro Γ loc led s vals R hwΓ O S rs h
  have hnn : names.Nodup := by
    have C : Cx0 := ⟨⟨fun _ _ => 0, { strHash := fun _ => 0, shareClass := fun _ => 0, mergeTok := id, idOf := fun _ => 0, idOfShared := fun _ _ => 0, followText := fun _ => false, idOfImm := fun _ => 0 }⟩, {}, {}, {}, [], [], {}, [], fun _ _ => True⟩
    exact (List.nodup_append.mp (hlay C 0).nd).1
  have Xs := KX O S
  refine codeAny_call_function (by have := O.dp; show Γ.A.depth < 1000; lia) (Xs _ _ (ho Γ.w)) rfl hco hgen rfl (codeRec_of Xs (hcd Γ.w)) (hbind Γ loc (fp ++ led) s vals _ _ _ Xs S rs fun s0 vals' S0 le0 k0 rs' => ?_)
  refine enter_st hkind hnd hnn (Nat.le_of_eq hlen) hk O S0 rs' fun C L s₁ hw hA _ _ hl O' EN S' => ⟨hl, codeAny_func ?_⟩
  have hb := hbody C L (hw.trans hwΓ) O' (hlay C L)
  unfold ExG at hb
  rw [show (C.at (envOfC qual scope L f cdv)).w = Γ.w from hw, show (C.at (envOfC qual scope L f cdv)).A = Γ.A.deeper (envOfC qual scope L f cdv) from hA] at hb
  have S'' : St (C.at (envOfC qual scope L f cdv)) (mk (names ++ ys) (args'.map some ++ ys.map fun _ => none)) fp s₁ := S'.weak fun y u e => mk_zip (ys := ys) y u (by
    have : ∀ (xs : List Str) (vs : List (Option V)) (k : List Str), mk xs (vs ++ k.map fun _ => none) = mk xs vs := by
      intro xs
      induction xs with
      | nil => intro vs k; simp [mk]
      | cons x xs ih =>
        intro vs k
        cases vs with
        | nil =>
          cases k with
          | nil => simp
          | cons a k => simp only [List.nil_append, List.map_cons, mk]; have := ih [] k; simpa [mk] using this
        | cons v vs => cases v <;> simp [mk, ih]
    rw [this] at e; exact e) hlen
  refine hb s₁ _ _ S'' fun o fl s₂ hP ox => ?_
  have go : ∀ v loc' fp' v', P v fp' → St (C.at (envOfC qual scope L f cdv)) loc' fp' s₂ → RepV (vis (C.at (envOfC qual scope L f cdv)) fp' s₂) v v' → R (.ok (.ret v')) s₂ := fun v loc' fp' v' hP S₂ r => by
    obtain ⟨SS, le, vs, kp⟩ := EN.leave O S0 S₂
    exact h v fp' v' s₂ hP SS (le0.trans le) (r.keeps vs)
  cases o with
  | ret v loc' fp' => obtain ⟨v', rfl, S₂, le₂, r⟩ := ox; exact go v loc' fp' v' hP S₂ r
  | next loc' fp' => obtain ⟨rfl, S₂, le₂⟩ := ox; exact go _ loc' fp' _ hP S₂ of_none
  | brk loc' fp' => obtain ⟨rfl, S₂, le₂⟩ := ox; exact go _ loc' fp' _ hP S₂ of_none
  | cont loc' fp' => obtain ⟨rfl, S₂, le₂⟩ := ox; exact go _ loc' fp' _ hP S₂ of_none
theorem binds_pos {fd : FuncData} {names : List Str} {args : List V} (h : ∀ s vals, vals.length = args.length → BindsTo s fd ⟨vals, []⟩ (names.zip vals)) : Binds fd names args args := fun Γ loc led s vals A Q E X S rs k =>
  h s vals rs.length _ _ _ _ (k s vals S Le.rfl (fun _ _ e => e) rs)
section
variable {n : Nat} {Γ : Cx} {loc loc' loc1 loc2 : Loc} {led led' led1 led2 pre post fp : Led} {s : Shared} {o : Out} {P P' : Out → Prop} {xs : List Str} {vs : List (Option V)}
theorem Ev.toG {e : Expr} {v : V} {R : V → Led → Prop} (h : Ev Γ loc led e v loc led') (hR : R v led') : EvG Γ loc led e R := fun s Q E S k => h s Q E S fun v' s' S' le r => k v led' v' s' hR S' le r
theorem EvG.mono {e : Expr} {R R' : V → Led → Prop} (h : EvG Γ loc led e R) (hR : ∀ v d, R v d → R' v d) : EvG Γ loc led e R' := fun s Q E S k => h s Q E S fun v d v' s' p => k v d v' s' (hR v d p)
theorem ExG.mono {b : List Stmt} (h : ExG Γ loc led b P) (hP : ∀ o, P o → P' o) : ExG Γ loc led b P' := fun s Q E S k => h s Q E S fun o f s' p => k o f s' (hP o p)
theorem ExG.nil (h : P (.next loc led)) : ExG Γ loc led [] P := Ex.toG Ex.nil h
theorem ExG.cons {st : Stmt} {b : List Stmt} (h1 : Ex1 Γ loc led st (.next loc1 led1)) (h2 : ExG Γ loc1 led1 b P) : ExG Γ loc led (st :: b) P := fun s Q E S h =>
  wpAny_execs_cons (h1 s _ E S fun f s1 x => by obtain ⟨rfl, S1, le⟩ := x; exact h2 s1 Q E S1 fun o f s2 p y => h o f s2 p (y.le le))
theorem ExG.weak {b : List Stmt} (h1 : ExG Γ loc' led b P) (h : ∀ x v, loc'.lookup x = some v → loc.lookup x = some v) : ExG Γ loc led b P := fun s Q E S k => h1 s Q E (S.weak h) k
theorem ExG.perm {l l' : Led} {b : List Stmt} (h1 : ExG Γ loc l' b P) (h : l.Perm l') : ExG Γ loc l b P := fun s Q E S k => h1 s Q E (S.perm h).1 fun o f s' p x => k o f s' p (x.le (S.perm h).2)
theorem ExG.drop {p : Addr × O} {b : List Stmt} (h1 : ExG Γ loc led b P) : ExG Γ loc (p :: led) b P := fun s Q E S h => h1 s Q E S.drop.1 fun o f s' p x => h o f s' p (x.le S.drop.2)
theorem ExG.less (l : Lay Γ xs) {vs' : List (Option V)} {b : List Stmt} (h : Less vs' vs) (h1 : ExG Γ (mk xs vs') led b P) : ExG Γ (mk xs vs) led b P := h1.weak (mk_less l.nd h.get)
noncomputable def Ex1G (Γ : Cx) (loc : Loc) (led : Led) (st : Stmt) (P : Out → Prop) : Prop :=
  ∀ s (Q : Flow → Shared → Prop) (E : Value → Shared → Prop), St Γ loc led s → (∀ o f s', P o → Ox Γ led s o f s' → Q f s') → wpAny (MM Γ.w) Γ.A (exec st Γ.env) Q E s
noncomputable def goOn (Γ : Cx) (b : List Stmt) (P : Out → Prop) : Out → Prop
  | .next l d => ExG Γ l d b P
  | .brk l d => P (.brk l d)
  | .cont l d => P (.cont l d)
  | .ret v l d => P (.ret v l d)
theorem Ex1.toG {st : Stmt} {o : Out} (h : Ex1 Γ loc led st o) (hP : P o) : Ex1G Γ loc led st P := fun s Q E S k => h s Q E S fun f s' x => k o f s' hP x
theorem ExG.seq {st : Stmt} {b : List Stmt} (h1 : Ex1G Γ loc led st (goOn Γ b P)) : ExG Γ loc led (st :: b) P := fun s Q E S h => by
  refine wpAny_execs_cons (h1 s _ E S fun o f s1 hp x => ?_)
  cases o with
  | next l d => obtain ⟨rfl, S1, le⟩ := x; exact ExG.mono (P := P) hp (fun _ p => p) s1 Q E S1 fun o f s2 p y => h o f s2 p (y.le le)
  | brk l d => obtain ⟨rfl, S1, le⟩ := x; exact h _ _ _ hp ⟨rfl, S1, le⟩
  | cont l d => obtain ⟨rfl, S1, le⟩ := x; exact h _ _ _ hp ⟨rfl, S1, le⟩
  | ret v l d => obtain ⟨v', rfl, S1, le, r⟩ := x; exact h _ _ _ hp ⟨v', rfl, S1, le, r⟩
theorem Ex1G.assign (O : Ok n Γ) {x : Str} {p pos : Pos} {e : Expr} {R : V → Led → Prop} (h1 : EvG Γ loc led e R) (hx : Sto Γ x) (h2 : ∀ v d, R v d → P (.next (put loc x v) d)) (hs : autoParam (swapsWith e (some (.Name x p)) pos.line Γ.env = pure false) aR) :
    Ex1G Γ loc led (.Assign [.Name x p] e pos) P := fun s Q E S h =>
  wpAny_Assign_Name (h1 s _ E S fun v d v' s1 r S1 le rv => store' O hx S1 rv fun s2 S2 le2 => h _ _ s2 (h2 v d r) ⟨rfl, S2, le.trans le2⟩) hs
theorem Ex1G.expr {e : Expr} {pos : Pos} {R : V → Led → Prop} (h1 : EvG Γ loc led e R) (h2 : ∀ v d, R v d → P (.next loc d)) (hi : autoParam (interactive Γ.env = false) aR) (hs : autoParam (swapsWith e none pos.line Γ.env = pure false) aR) :
    Ex1G Γ loc led (.Expr e pos) P := fun s Q E S h =>
  wpAny_Expr_any (h1 s _ E S fun v d v' s1 r S1 le rv => h _ _ s1 (h2 v d r) ⟨rfl, S1, le⟩) hi hs
theorem Ex1G.ret {e : Expr} {pos : Pos} {R : V → Led → Prop} (h1 : EvG Γ loc led e R) (h2 : ∀ v d, R v d → P (.ret v loc d)) : Ex1G Γ loc led (.Return (some e) pos) P := fun s Q E S h =>
  wpAny_Return_some (h1 s _ E S fun v d v' s1 r S1 le rv => h _ _ s1 (h2 v d r) ⟨v', rfl, S1, le, rv⟩)
theorem Ex1G.ifT {t : Expr} {b e : List Stmt} {pos : Pos} (h1 : Bt Γ loc led t true loc1 led1) (h2 : ExG Γ loc1 led1 b P) : Ex1G Γ loc led (.If t b e pos) P := fun s Q E S h =>
  wpAny_If (h1 s _ E S fun c s1 S1 le rc => by subst rc; exact h2 s1 Q E S1 fun o f s2 p y => h o f s2 p (y.le le))
theorem Ex1G.ifF {t : Expr} {b e : List Stmt} {pos : Pos} (h1 : Bt Γ loc led t false loc1 led1) (h2 : ExG Γ loc1 led1 e P) : Ex1G Γ loc led (.If t b e pos) P := fun s Q E S h =>
  wpAny_If (h1 s _ E S fun c s1 S1 le rc => by subst rc; exact h2 s1 Q E S1 fun o f s2 p y => h o f s2 p (y.le le))
theorem ExG.let_ (O : Ok n Γ) (l : Lay Γ xs) (i : Nat) {x : Str} {p pos : Pos} {e : Expr} {v : V} {b : List Stmt} (h1 : Ev Γ (mk xs vs) led e v (mk xs vs) led') (h2 : ExG Γ (mk xs (vs.set i (some v))) led' b P) (hi : autoParam (xs[i]? = some x) aR) (hs : autoParam (swapsWith e (some (.Name x p)) pos.line Γ.env = pure false) aR) :
    ExG Γ (mk xs vs) led (.Assign [.Name x p] e pos :: b) P := ExG.cons (Ex1.assign O h1 (l.st (List.mem_of_getElem? hi)) hs) (h2.weak (put_mk l.nd hi))
theorem ExG.letG (O : Ok n Γ) (l : Lay Γ xs) (i : Nat) {x : Str} {p pos : Pos} {e : Expr} {R : V → Led → Prop} {b : List Stmt} (h1 : EvG Γ (mk xs vs) led e R) (h2 : ∀ v d, R v d → ExG Γ (mk xs (vs.set i (some v))) d b P) (hi : autoParam (xs[i]? = some x) aR) (hs : autoParam (swapsWith e (some (.Name x p)) pos.line Γ.env = pure false) aR) :
    ExG Γ (mk xs vs) led (.Assign [.Name x p] e pos :: b) P := ExG.seq (Ex1G.assign O h1 (l.st (List.mem_of_getElem? hi)) (fun v d r => (h2 v d r).weak (put_mk l.nd hi)) hs)
theorem ExG.newI (O : Ok n Γ) (l : Lay Γ xs) (i : Nat) {x : Str} {p pos : Pos} {e : Expr} {b : List Stmt} {ds : List PyData} (h1 : EvN Γ (mk xs vs) led e ds (mk xs vs) led)
    (h2 : ∀ a, ExG Γ (mk xs (vs.set i (some (.raw (.ref a))))) ((a, lstO ds) :: led) b P) (hi : autoParam (xs[i]? = some x) aR) (hs : autoParam (swapsWith e (some (.Name x p)) pos.line Γ.env = pure false) aR) : ExG Γ (mk xs vs) led (.Assign [.Name x p] e pos :: b) P :=
  ExG.letG O l i (R := fun v d => ∃ a, v = .raw (.ref a) ∧ d = (a, lstO ds) :: led) (fun s Q E S k => h1 s Q E S fun a s' S' le => k _ _ _ _ ⟨a, rfl, rfl⟩ S' le rfl) (fun v d ⟨a, e1, e2⟩ => by subst e1 e2; exact h2 a) hi hs
theorem ExG.freezeI (l : Lay Γ xs) (i : Nat) {x : Str} {a : Addr} {ds : List PyData} {b : List Stmt} (h1 : ExG Γ (mk xs (vs.set i (some (.d (.list ds))))) led b P) (hi : autoParam (xs[i]? = some x) aR) (hv : autoParam (vs[i]? = some (some (.raw (.ref a)))) aR) : ExG Γ (mk xs vs) ((a, lstO ds) :: led) b P := fun s Q E S h => by
  obtain ⟨S1, le1⟩ := S.drop
  have h1' := h1.weak (put_mk (vs := vs) (v := .d (.list ds)) l.nd hi)
  refine h1' s Q E ⟨S1.fr, ?_, S1.ld, S1.nd, S1.pv, S1.os, S1.gn, S1.fz⟩ fun o f s' p y => h o f s' p (y.le le1)
  obtain ⟨m, cm, n1, n2, n3⟩ := S1.nm
  refine ⟨m, cm, n1, n2, fun y v e => ?_⟩
  rw [put_lookup] at e
  by_cases q : y = x
  · subst q
    rw [if_pos rfl] at e; cases e
    refine aside fun zk => ?_
    obtain ⟨v', e', r⟩ := n3 y _ (mk_lookup l.nd hi hv)
    cases r
    apply zk
    exact ⟨_, e', S.freeze⟩
  · rw [if_neg q] at e; exact n3 y v e
theorem St.known {a : Addr} {x x' : O} (S : St Γ loc (pre ++ (a, x) :: post) s) (hx : ∀ h o, s.heap.get? a = some o → x.p h o → x'.p h o) : St Γ loc (pre ++ (a, x') :: post) s := by
  have ek : (pre ++ (a, x') :: post).map (·.1) = (pre ++ (a, x) :: post).map (·.1) := by simp
  have ex : exOf Γ (pre ++ (a, x') :: post) = exOf Γ (pre ++ (a, x) :: post) := by unfold exOf; rw [ek]
  have ev : vis Γ (pre ++ (a, x') :: post) s = vis Γ (pre ++ (a, x) :: post) s := by unfold vis; rw [ex]
  refine ⟨S.fr, by rw [ev]; exact S.nm, fun p hp => ?_, by rw [ek]; exact S.nd, S.pv, S.os, S.gn, S.fz⟩
  rw [ev]
  rcases List.mem_append.mp hp with hp | hp
  · exact S.ld p (List.mem_append_left _ hp)
  · rcases List.mem_cons.mp hp with rfl | hp
    · refine aside fun zk => ?_
      obtain ⟨h1, h2, o, h3, h4⟩ := S.ld (a, x) (by simp)
      apply zk
      exact ⟨h1, h2, o, h3, hx _ o h3 h4⟩
    · exact S.ld p (List.mem_append_right _ (.tail _ hp))
theorem le_known {a : Addr} {x x' : O} : Le Γ (pre ++ (a, x) :: post) s (pre ++ (a, x') :: post) s := fun b o e => by
  have ex : exOf Γ (pre ++ (a, x') :: post) = exOf Γ (pre ++ (a, x) :: post) := by unfold exOf; simp
  have e1 := vget (e)
  have e2 := vout (e)
  exact vmk e1 (by rw [ex]; exact e2)
theorem ExG.pin {a : Addr} {x : O} {b : List Stmt} (h : ∀ ob, (∃ h, x.p h ob) → ExG Γ loc (pre ++ (a, exactO ob) :: post) b P) : ExG Γ loc (pre ++ (a, x) :: post) b P := fun s Q E S k => by
  refine aside fun zk => ?_
  obtain ⟨h1, h2, o, h3, h4⟩ := S.ld (a, x) (by simp)
  apply zk
  exact h o ⟨_, h4⟩ s Q E (S.known fun _ o' e _ => by rw [h3] at e; cases e; rfl) fun o f s' p y => k o f s' p (y.le le_known)
theorem ExG.known {a : Addr} {x x' : O} {b : List Stmt} (hx : ∀ h o, x.p h o → x'.p h o) (h : ExG Γ loc (pre ++ (a, x') :: post) b P) : ExG Γ loc (pre ++ (a, x) :: post) b P := fun s Q E S k =>
  h s Q E (S.known fun h o _ p => hx h o p) fun o f s' p y => k o f s' p (y.le le_known)
end
end
section
noncomputable def SrcP (w : World) (pins : List (Addr × Obj)) (x : V) (its : List V) : Prop :=
  ∀ (n : Nat) (Γ : Cx) (loc : Loc) (led : Led) (s : Shared) (a : Value) (Q : Value → Shared → Prop) (E : Value → Shared → Prop), Γ.w = w → Ok n Γ → St Γ loc led s → pinned pins led → RepV (vis Γ led s) x a →
    (∀ I s' fp P J, RunP Γ loc led its s' I fp pins P J → Le Γ led s led s' → s.heap.get? I = none → Q (.ref I) s') → wpAny (MM Γ.w) Γ.A (pyIter a) Q E s
theorem Src.toP {w : World} {x : V} {its : List V} (h : Src x its) : SrcP w [] x its := fun n Γ loc led s a Q E _ O S _ r k => h n Γ loc led s a Q E O S r fun I s' fp P J R le new =>
  k I s' fp P J ⟨R.W, R.J0, R.st, (R.fpv I (R.W.sub I (List.mem_singleton.mpr rfl))).1, fun b hb => .inl (R.fpv b hb), R.Pv, R.gI, R.cl⟩ le new
section
variable {n : Nat} {Γ : Cx} {loc loc' loc1 loc2 : Loc} {led led' led1 led2 pre post fp : Led} {s : Shared} {o : Out} {P P' : Out → Prop} {xs : List Str} {vs : List (Option V)}
theorem Ex1G.for_ (O : Ok n Γ) {t iter : Expr} {body orelse : List Stmt} {pos : Pos} {x : V} {its : List V} (pins : List (Addr × Obj)) (h1 : Ev Γ loc led iter x loc1 led1) (hx : SrcP Γ.w pins x its) (K : Nat → Loc → Led → Prop) (K0 : K 0 loc1 led1)
    (hpin : ∀ k loc led, K k loc led → pinned pins led)
    (turn : ∀ k y loc led, its[k]? = some y → K k loc led → ∃ loc', As Γ loc led t y loc' ∧ ExG Γ loc' led body (fun o => match o with
      | .next l d => K (k + 1) l d
      | .cont l d => K (k + 1) l d
      | .brk l d => P (.next l d)
      | .ret v l d => P (.ret v l d)))
    (hend : ∀ loc led, K its.length loc led → ExG Γ loc led orelse P)
    (hs : autoParam (∀ x, foldedSetIterable iter Γ.env x = pure x) aI) : Ex1G Γ loc led (.For t iter body orelse pos) P := fun s Q E S h => by
  refine wpAny_For (h1 s _ E S fun a s1 S1 le1 ra => hx n Γ loc1 led1 s1 a _ E rfl O S1 (hpin _ _ _ K0) ra fun I s2 fp Pv J R le2 new => ?_) hs
  have ne : ∀ b o, (vis Γ led s).get? b = some o → b ≠ I := fun b o e q => by
    have := (vget (le1 b o e))
    rw [q, new] at this; cases this
  have fpI := R.W.sub I (List.mem_singleton.mpr rfl)
  have Ipriv : I ∉ Γ.priv := fun hb => R.vI (List.mem_append_left _ hb)
  have iL : I ≠ Γ.env.locals := fun q => Ipriv (q ▸ O.pl)
  have iF : I ≠ Γ.fenv.locals := fun q => Ipriv (q ▸ O.pf)
  have iC : ∀ x a, Γ.env.cells.lookup x = some a → a ≠ I := fun x a e q => Ipriv (q ▸ (O.ce x a e).1)
  have iZ : ∀ p ∈ Γ.fz, p.1 ≠ I := fun p hp q => Ipriv (q ▸ (O.fl p hp).1)
  refine codeAny_forLoop_any (fun k s' => ∃ i loc' led', i ≤ its.length ∧ k = its.length - i ∧ J i s'.heap ∧ St Γ loc' led' s' ∧ Le Γ led s led' s' ∧ Sub (vis Γ led1 s2) (vis Γ led' s') ∧ I ∉ exOf Γ led' ∧ (∀ b ∈ fp, b ∉ pins.map (·.1) → b ∉ exOf Γ led' ∧ ∃ o, s'.heap.get? b = some o) ∧ K i loc' led') ?_ its.length
    ⟨0, loc1, led1, Nat.zero_le _, rfl, R.J0, R.st, le1.trans le2, fun _ _ e _ => e, R.vI, fun b hb hn => (R.fpv b hb).elim id fun q => absurd q hn, K0⟩
  rintro k s' ⟨i, loc', led', hi, rfl, Ji, S', le', sb', vI', fv', Ki⟩
  refine aside fun zk => ?_
  obtain ⟨oI, nm, vs, eI, cI, dI, nI⟩ := R.cl i _ Ji
  apply zk
  by_cases hlt : i < its.length
  · refine R.W.item i s' _ _ hlt Ji fun v h' tk hP Ji' hk => ?_
    refine aside fun zk => ?_
    obtain ⟨y, hy, ry⟩ := R.Pv i v hlt hP
    have hk' : ∀ b o, b ≠ I → s'.heap.get? b = some o → h'.get? b = some o := fun b o q e => hk b o (by simpa using q) e
    obtain ⟨S3, sb3⟩ := S'.iter (t := tk) vI' R.gI eI (noDat_of cI nI) hk' iL iF iC iZ
    obtain ⟨oI3, nm3, vs3, eI3, cI3, dI3, nI3⟩ := R.cl (i + 1) _ Ji'
    obtain ⟨loc3, hA, hB⟩ := turn i y loc' led' hy Ki
    apply zk
    refine owned_go eI3 cI3 dI3 nI3 ?_
    refine hA _ v _ _ S3 ((ry.sub sb').sub sb3) fun s4 S4 le4 => hB s4 _ _ S4 fun o3 f s5 p3 x5 => ?_
    have old : ∀ led5, Le Γ led' s4 led5 s5 → Le Γ led s led5 s5 := fun led5 l b o e => by
      have e2 := vget ((le' b o e))
      have e3 := vout ((le' b o e))
      exact (le4.trans l) b o (vmk (hk' b o (ne b o e) e2) e3)
    have on : ∀ loc5 led5, St Γ loc5 led5 s5 → Le Γ led' s4 led5 s5 → K (i + 1) loc5 led5 → ∃ m, m < its.length - i ∧ ∃ i loc' led', i ≤ its.length ∧ m = its.length - i ∧ J i s5.heap ∧ St Γ loc' led' s5 ∧ Le Γ led s led' s5 ∧ Sub (vis Γ led1 s2) (vis Γ led' s5) ∧ I ∉ exOf Γ led' ∧ (∀ b ∈ fp, b ∉ pins.map (·.1) → b ∉ exOf Γ led' ∧ ∃ o, s5.heap.get? b = some o) ∧ K i loc' led' := fun loc5 led5 S5 l K5 => by
      have go : ∀ b o, b ∉ exOf Γ led' → h'.get? b = some o → (vis Γ led5 s5).get? b = some o := fun b o nb e => (le4.trans l) b o (vmk e nb)
      have fv3 : ∀ b ∈ fp, b ∉ pins.map (·.1) → b ∉ exOf Γ led' ∧ ∃ o, h'.get? b = some o := fun b hb hn => by
        obtain ⟨f1, o, f2⟩ := fv' b hb hn
        refine ⟨f1, ?_⟩
        by_cases q : b = I
        · exact ⟨oI3, q ▸ eI3⟩
        · exact ⟨o, hk' b o q f2⟩
      have fr : ∀ b ∈ fp, ∀ o, h'.get? b = some o → s5.heap.get? b = some o := fun b hb o e => by
        by_cases q : b ∈ pins.map (·.1)
        · obtain ⟨p, hp, rfl⟩ := List.mem_map.mp q
          have g3 := pin_get S3 (hpin _ _ _ Ki) hp
          have g5 := pin_get S5 (hpin _ _ _ K5) hp
          have : h'.get? p.1 = some p.2 := g3
          rw [this] at e; cases e; exact g5
        · exact (vget (go b o (fv3 b hb q).1 e))
      refine ⟨its.length - (i + 1), by omega, i + 1, loc5, led5, hlt, rfl, R.W.frame _ _ _ Ji' fr, S5, old led5 l, fun b o e hd => (le4.trans l) b o (sb3 b o (sb' b o e hd) hd), ?_, fun b hb hn => ?_, K5⟩
      · exact (vout (go I oI3 vI' eI3))
      · obtain ⟨f1, o, f2⟩ := fv3 b hb hn
        have := vis_iff.mp (go b o f1 f2)
        exact ⟨this.2, o, this.1⟩
    cases o3 with
    | next loc5 led5 => obtain ⟨rfl, S5, l⟩ := x5; exact on loc5 led5 S5 l p3
    | cont loc5 led5 => obtain ⟨rfl, S5, l⟩ := x5; exact on loc5 led5 S5 l p3
    | brk loc5 led5 => obtain ⟨rfl, S5, l⟩ := x5; exact h _ _ s5 p3 ⟨rfl, S5, old led5 l⟩
    | ret v loc5 led5 => obtain ⟨v', rfl, S5, l, r5⟩ := x5; exact h _ _ s5 p3 ⟨v', rfl, S5, old led5 l, r5⟩
  · have hi' : i = its.length := by omega
    subst hi'
    refine R.W.done s' _ _ Ji fun h' tk hk => ?_
    have hk' : ∀ b o, b ≠ I → s'.heap.get? b = some o → h'.get? b = some o := fun b o q e => hk b o (by simpa using q) e
    obtain ⟨S3, sb3⟩ := S'.iter (t := tk) vI' R.gI eI (noDat_of cI nI) hk' iL iF iC iZ
    refine hend loc' led' Ki _ _ _ S3 fun o f s5 p x5 => h o f s5 p ?_
    refine x5.le fun b o e => ?_
    have e2 := vget ((le' b o e))
    have e3 := vout ((le' b o e))
    exact vmk (hk' b o (ne b o e) e2) e3
theorem Ex1G.while_ (O : Ok n Γ) {t : Expr} {body orelse : List Stmt} {pos : Pos} (K : Nat → Loc → Led → Prop)
    (turn : ∀ k loc led, K k loc led → (∃ loc1 led1, Bt Γ loc led t false loc1 led1 ∧ ExG Γ loc1 led1 orelse P) ∨ (∃ loc1 led1, Bt Γ loc led t true loc1 led1 ∧ ExG Γ loc1 led1 body (fun o => match o with
      | .next loc2 led2 => ∃ m, m < k ∧ K m loc2 led2
      | .cont loc2 led2 => ∃ m, m < k ∧ K m loc2 led2
      | .brk loc2 led2 => P (.next loc2 led2)
      | .ret v loc2 led2 => P (.ret v loc2 led2)))) (k : Nat) (h0 : K k loc led) : Ex1G Γ loc led (.While t body orelse pos) P := fun s Q E S h => by
  refine wpAny_While (codeAny_whileLoop (fun k s' => ∃ loc' led', K k loc' led' ∧ St Γ loc' led' s' ∧ Le Γ led s led' s') ?_ k ⟨loc, led, h0, S, Le.rfl⟩)
  rintro k s' ⟨loc', led', hK, S', le'⟩
  rcases turn k loc' led' hK with ⟨loc1, led1, hb, he⟩ | ⟨loc1, led1, hb, he⟩
  · refine hb s' _ _ S' fun c s1 S1 le1 rc => ?_
    subst rc
    exact he s1 _ _ S1 fun o f s2 p x => h o f s2 p (x.le (le'.trans le1))
  · refine hb s' _ _ S' fun c s1 S1 le1 rc => ?_
    subst rc
    refine he s1 _ _ S1 fun o1 f s2 hm x2 => ?_
    cases o1 with
    | next loc5 led5 => obtain ⟨rfl, S5, l⟩ := x2; obtain ⟨m, h1, h2⟩ := hm; exact ⟨m, h1, loc5, led5, h2, S5, le'.trans (le1.trans l)⟩
    | cont loc5 led5 => obtain ⟨rfl, S5, l⟩ := x2; obtain ⟨m, h1, h2⟩ := hm; exact ⟨m, h1, loc5, led5, h2, S5, le'.trans (le1.trans l)⟩
    | brk loc5 led5 => obtain ⟨rfl, S5, l⟩ := x2; exact h _ _ s2 hm ⟨rfl, S5, le'.trans (le1.trans l)⟩
    | ret v loc5 led5 => obtain ⟨v', rfl, S5, l, r5⟩ := x2; exact h _ _ s2 hm ⟨v', rfl, S5, le'.trans (le1.trans l), r5⟩
end
end
section
theorem empty_get (b : Addr) : ({} : Heap).get? b = none := rfl
theorem news_all (h : Heap) (L a : Addr) (o : Obj) (ha : h.get? a = some o) (hne : a ≠ L) : ∃ post, News {} L h ((a, o) :: post) ∧ (∀ p ∈ post, p.1 ≠ a) ∧ ∀ b ob, h.get? b = some ob → b ≠ a → b ≠ L → (b, ob) ∈ post := by
  let f : Addr → Option (Addr × Obj) := fun b => if b = a ∨ b = L then none else (h.get? b).map fun ob => (b, ob)
  have key : ∀ p, p ∈ (List.range h.objs.size).filterMap f → p.1 ≠ a ∧ p.1 ≠ L ∧ h.get? p.1 = some p.2 := fun p hp => by
    obtain ⟨b, hb, e⟩ := List.mem_filterMap.mp hp
    simp only [f] at e
    split at e
    · cases e
    · rename_i hn
      obtain ⟨ob, e1, rfl⟩ := Option.map_eq_some_iff.mp e
      exact ⟨fun q => hn (.inl q), fun q => hn (.inr q), e1⟩
  refine ⟨(List.range h.objs.size).filterMap f, fun p hp => ?_, fun p hp => (key p hp).1, fun b ob e n1 n2 => ?_⟩
  · rcases List.mem_cons.mp hp with rfl | hp
    · exact ⟨ha, hne, empty_get _⟩
    · exact ⟨(key p hp).2.2, (key p hp).2.1, empty_get _⟩
  · refine List.mem_filterMap.mpr ⟨b, List.mem_range.mpr (Heap.lt_size e), ?_⟩
    simp only [f]
    rw [if_neg (fun q => q.elim n1 n2), e]; rfl
section
variable {n : Nat} {Γ : Cx} {loc loc' loc1 loc2 : Loc} {led led' led1 led2 pre post fp : Led} {s : Shared} {o : Out} {P P' : Out → Prop} {xs : List Str} {vs : List (Option V)}
theorem St.setLedL {a : Addr} {x x' : O} (S : St Γ loc (pre ++ (a, x) :: post) s) (O : Ok n Γ) (hee : Γ.env.locals = Γ.fenv.locals) {h' : Heap} {t : Nat} {oa : Obj} (k : ∀ b o, s.heap.get? b = some o → b ≠ a → b ≠ Γ.fenv.locals → h'.get? b = some o)
    (hL : ∀ m, s.heap.Ns Γ.fenv.locals m → h'.Ns Γ.fenv.locals m) (hoa : h'.get? a = some oa) (hx : ∀ v : Heap, Sub (vis Γ (pre ++ (a, x) :: post) s) v → x'.p v oa) :
    St Γ loc (pre ++ (a, x') :: post) { s with heap := h', toks := t } ∧ Le Γ (pre ++ (a, x) :: post) s (pre ++ (a, x') :: post) { s with heap := h', toks := t } := by
  refine aside fun zk => ?_
  have hm : (a, x) ∈ pre ++ (a, x) :: post := by simp
  obtain ⟨a1, a2, ao, a3, a4⟩ := S.ld _ hm
  apply zk
  have ek : (pre ++ (a, x') :: post).map (·.1) = (pre ++ (a, x) :: post).map (·.1) := by simp
  have ex : exOf Γ (pre ++ (a, x') :: post) = exOf Γ (pre ++ (a, x) :: post) := by unfold exOf; rw [ek]
  have aex : a ∈ exOf Γ (pre ++ (a, x) :: post) := List.mem_append_right _ (by simp)
  have Lex : Γ.fenv.locals ∈ exOf Γ (pre ++ (a, x) :: post) := List.mem_append_left _ O.pf
  have le : Le Γ (pre ++ (a, x) :: post) s (pre ++ (a, x') :: post) { s with heap := h', toks := t } := fun b o e => by
    have e1 := vget (e)
    have e2 := vout (e)
    exact vmk (k b o e1 (fun q => e2 (q ▸ aex)) (fun q => e2 (q ▸ Lex))) (by rw [ex]; exact e2)
  refine ⟨⟨?_, ?_, fun p hp => ?_, by rw [ek]; exact S.nd, fun b hb => ?_, S.os, S.gn, fun p hp => ?_⟩, le⟩
  · obtain ⟨m, F⟩ := S.fr
    exact ⟨m, hL m F.ns, fun b o e => k b o (F.keep b o e) (fun q => by rw [q, a2] at e; cases e) (fun q => by rw [O.fr_g S (.inl q)] at e; cases e), F.above⟩
  · refine aside fun zk => ?_
    obtain ⟨m, cm, h1, h2, h3⟩ := S.nm
    apply zk
    exact ⟨m, cm, hee ▸ hL m (hee ▸ h1), fun x b e => let ⟨o, ho, r⟩ := h2 x b e; ⟨o, k _ _ ho (fun q => a1 (q ▸ (O.ce x b e).1)) (O.ce x b e).2.2.2.1, r⟩, fun x v e => let ⟨v', e', r⟩ := h3 x v e; ⟨v', e', r.keeps le⟩⟩
  · have other : ∀ p ∈ pre ++ (a, x) :: post, p.1 ≠ a → p.1 ∉ Γ.priv ∧ Γ.g.get? p.1 = none ∧ ∃ o, h'.get? p.1 = some o ∧ p.2.p (vis Γ (pre ++ (a, x') :: post) { s with heap := h', toks := t }) o := fun p hp hne => by
      obtain ⟨h1, h2, o, h3, h4⟩ := S.ld p hp
      exact ⟨h1, h2, o, k _ _ h3 hne (fun q => h1 (q ▸ O.pf)), p.2.mono (.of le) h4⟩
    have nd := S.nd
    rw [List.map_append, List.map_cons, List.nodup_append] at nd
    rcases List.mem_append.mp hp with hp | hp
    · exact other p (List.mem_append_left _ hp) fun q => nd.2.2 p.1 (List.mem_map_of_mem hp) a (.head _) q
    · rcases List.mem_cons.mp hp with rfl | hp
      · exact ⟨a1, a2, oa, hoa, hx _ (.of le)⟩
      · exact other p (List.mem_append_right _ (.tail _ hp)) fun q => (List.nodup_cons.mp nd.2.1).1 (by show a ∈ _; rw [← q]; exact List.mem_map_of_mem hp)
  · obtain ⟨o, e⟩ := S.pv b hb
    by_cases q : b = Γ.fenv.locals
    · refine aside fun zk => ?_
      obtain ⟨m, F⟩ := S.fr
      obtain ⟨o', _, _, e', _⟩ := hL m F.ns
      apply zk
      exact ⟨o', q ▸ e'⟩
    · exact ⟨o, k b o e (fun q => a1 (q ▸ hb)) q⟩
  · obtain ⟨o, e, r⟩ := S.fz p hp
    exact ⟨o, k _ _ e (fun q => a1 (q ▸ (O.fl p hp).1)) (fun q => (O.fl p hp).2 (q.trans hee.symm)), r⟩
end
end
section
noncomputable abbrev ent (w : World) (x : Str) (t : Tok) (v : Value) : DictEntry := ⟨PyData.keyHash w.params x, .str x t, v⟩
noncomputable abbrev attrObj (w : World) (t1 t2 t3 t4 : Tok) (ep : Nat) (a b c d : Value) : Obj := { cls := .type "dict", data := .dict #[ent w "_node2info" t1 a, ent w "_ready_nodes" t2 b, ent w "_npassedout" t3 c, ent w "_nfinished" t4 d] ep }
noncomputable def attrO (w : World) (N : Addr) (rv : Value) (p q : Int) : O := ⟨fun _ o => ∃ t1 t2 t3 t4 ep u3 u4, o = attrObj w t1 t2 t3 t4 ep (.ref N) rv (.int p u3) (.int q u4), fun _ h => h⟩
theorem f_n2i (w : World) {t1 t2 t3 t4 : Tok} {ep : Nat} {a b c d : Value} : findObj (KF w) 239 (some (attrObj w t1 t2 t3 t4 ep a b c d)) "_node2info" = some (.value a) := by kernel_rfl
theorem f_rdy (w : World) {t1 t2 t3 t4 : Tok} {ep : Nat} {a b c d : Value} : findObj (KF w) 239 (some (attrObj w t1 t2 t3 t4 ep a b c d)) "_ready_nodes" = some (.value b) := by kernel_rfl
theorem f_npo (w : World) {t1 t2 t3 t4 : Tok} {ep : Nat} {a b c d : Value} : findObj (KF w) 239 (some (attrObj w t1 t2 t3 t4 ep a b c d)) "_npassedout" = some (.value c) := by kernel_rfl
theorem f_nfi (w : World) {t1 t2 t3 t4 : Tok} {ep : Nat} {a b c d : Value} : findObj (KF w) 239 (some (attrObj w t1 t2 t3 t4 ep a b c d)) "_nfinished" = some (.value d) := by kernel_rfl
theorem k_ga (w : World) : findIn (KF w) (.ref 239) "__getattribute__" = some (some (.builtin "object.__getattribute__")) := by kernel_rfl
theorem k_gn (w : World) : findIn (KF w) (.ref 239) "__getattr__" = some none := by kernel_rfl
theorem k_sa (w : World) : findIn (KF w) (.ref 239) "__setattr__" = some (some (.builtin "object.__setattr__")) := by kernel_rfl
theorem k_po (w : World) : plainOver (KF w) 239 = true := by kernel_rfl
theorem k_hd (w : World) : (clsIn (KF w) 239).any (·.hasDict) = true := by kernel_rfl
theorem k_t1 (w : World) : takerIn (KF w) 239 "_node2info" = some none := by kernel_rfl
theorem k_t2 (w : World) : takerIn (KF w) 239 "_ready_nodes" = some none := by kernel_rfl
theorem k_t3 (w : World) : takerIn (KF w) 239 "_npassedout" = some none := by kernel_rfl
theorem k_t4 (w : World) : takerIn (KF w) 239 "_nfinished" = some none := by kernel_rfl
theorem k_m182 (w : World) : findIn (KF w) (.ref 239) "_get_nodeinfo" = some (some (.ref 182)) := by kernel_rfl
theorem k_m189 (w : World) : findIn (KF w) (.ref 239) "add" = some (some (.ref 189)) := by kernel_rfl
theorem k_m194 (w : World) : findIn (KF w) (.ref 239) "prepare" = some (some (.ref 194)) := by kernel_rfl
theorem k_m201 (w : World) : findIn (KF w) (.ref 239) "get_ready" = some (some (.ref 201)) := by kernel_rfl
theorem k_m208 (w : World) : findIn (KF w) (.ref 239) "is_active" = some (some (.ref 208)) := by kernel_rfl
theorem k_m222 (w : World) : findIn (KF w) (.ref 239) "done" = some (some (.ref 222)) := by kernel_rfl
theorem k_m229 (w : World) : findIn (KF w) (.ref 239) "_find_cycle" = some (some (.ref 229)) := by kernel_rfl
theorem k_f182 (w : World) : typeIn (KF w) (.ref 182) = some (.type "function") := by kernel_rfl
theorem k_f189 (w : World) : typeIn (KF w) (.ref 189) = some (.type "function") := by kernel_rfl
theorem k_f194 (w : World) : typeIn (KF w) (.ref 194) = some (.type "function") := by kernel_rfl
theorem k_f201 (w : World) : typeIn (KF w) (.ref 201) = some (.type "function") := by kernel_rfl
theorem k_f208 (w : World) : typeIn (KF w) (.ref 208) = some (.type "function") := by kernel_rfl
theorem k_f222 (w : World) : typeIn (KF w) (.ref 222) = some (.type "function") := by kernel_rfl
theorem k_f229 (w : World) : typeIn (KF w) (.ref 229) = some (.type "function") := by kernel_rfl
theorem kp182 (w : World) : Keep w (.ref 182) := keep_fn (by kernel_rfl)
theorem kp189 (w : World) : Keep w (.ref 189) := keep_fn (by kernel_rfl)
theorem kp194 (w : World) : Keep w (.ref 194) := keep_fn (by kernel_rfl)
theorem kp201 (w : World) : Keep w (.ref 201) := keep_fn (by kernel_rfl)
theorem kp208 (w : World) : Keep w (.ref 208) := keep_fn (by kernel_rfl)
theorem kp222 (w : World) : Keep w (.ref 222) := keep_fn (by kernel_rfl)
theorem kp229 (w : World) : Keep w (.ref 229) := keep_fn (by kernel_rfl)
theorem i_ga (w : World) : findIn (KF w) (.ref 142) "__getattribute__" = some (some (.builtin "object.__getattribute__")) := by kernel_rfl
theorem i_gn (w : World) : findIn (KF w) (.ref 142) "__getattr__" = some none := by kernel_rfl
theorem i_sa (w : World) : findIn (KF w) (.ref 142) "__setattr__" = some (some (.builtin "object.__setattr__")) := by kernel_rfl
theorem i_po (w : World) : plainOver (KF w) 142 = true := by kernel_rfl
theorem i_t1 (w : World) : takerIn (KF w) 142 "node" = some (some (.ref 143)) := by kernel_rfl
theorem i_t2 (w : World) : takerIn (KF w) 142 "npredecessors" = some (some (.ref 144)) := by kernel_rfl
theorem i_t3 (w : World) : takerIn (KF w) 142 "successors" = some (some (.ref 145)) := by kernel_rfl
theorem i_d1 (w : World) : typeIn (KF w) (.ref 143) = some (.type "member_descriptor") := by kernel_rfl
theorem i_d2 (w : World) : typeIn (KF w) (.ref 144) = some (.type "member_descriptor") := by kernel_rfl
theorem i_d3 (w : World) : typeIn (KF w) (.ref 145) = some (.type "member_descriptor") := by kernel_rfl
theorem i_s1 (w : World) : slotIn (KF w) 143 142 = some 0 := by kernel_rfl
theorem i_s2 (w : World) : slotIn (KF w) 144 142 = some 1 := by kernel_rfl
theorem i_s3 (w : World) : slotIn (KF w) 145 142 = some 2 := by kernel_rfl
theorem i_f1 (w : World) : findObj (KF w) 142 (some emptyDict) "node" = some (.bind (.builtin "member_descriptor.__get__") (.ref 143)) := by kernel_rfl
theorem i_f2 (w : World) : findObj (KF w) 142 (some emptyDict) "npredecessors" = some (.bind (.builtin "member_descriptor.__get__") (.ref 144)) := by kernel_rfl
theorem i_f3 (w : World) : findObj (KF w) 142 (some emptyDict) "successors" = some (.bind (.builtin "member_descriptor.__get__") (.ref 145)) := by kernel_rfl
theorem i_mk (w : World) : makesIn (KF w) 142 = true := by kernel_rfl
theorem k_mk (w : World) : makesIn (KF w) 239 = true := by kernel_rfl
theorem i_in (w : World) : findIn (KF w) (.ref 142) "__init__" = some (some (.ref 138)) := by kernel_rfl
theorem k_in (w : World) : findIn (KF w) (.ref 239) "__init__" = some (some (.ref 175)) := by kernel_rfl
theorem i_if (w : World) : typeIn (KF w) (.ref 138) = some (.type "function") := by kernel_rfl
theorem k_if (w : World) : typeIn (KF w) (.ref 175) = some (.type "function") := by kernel_rfl
end
section
noncomputable def GA (Γ : Cx) (loc : Loc) (led : Led) (x : Addr) (name : Str) (v : V) : Prop :=
  ∀ s (Q : Value → Shared → Prop) (E : Value → Shared → Prop), St Γ loc led s → (∀ v' s', St Γ loc led s' → Le Γ led s led s' → RepV (vis Γ led s') v v' → Q v' s') → wpAny (MM Γ.w) Γ.A (getAttr (.ref x) name true) Q E s
noncomputable def SA (Γ : Cx) (loc : Loc) (led : Led) (x : Addr) (name : Str) (v : V) (led' : Led) : Prop :=
  ∀ s v' (Q : Unit → Shared → Prop) (E : Value → Shared → Prop), St Γ loc led s → RepV (vis Γ led s) v v' → (∀ s', St Γ loc led' s' → Le Γ led s led' s' → Q () s') → wpAny (MM Γ.w) Γ.A (setAttr (.ref x) name v') Q E s
section
variable {n : Nat} {Γ : Cx} {loc loc' loc1 loc2 : Loc} {led led' led1 led2 led3 pre post fp : Led} {s : Shared} {o : Out} {P P' : Out → Prop} {xs : List Str} {vs : List (Option V)}
theorem Ev.attr {e : Expr} {name : Str} {pos : Pos} {x : Addr} {v : V} (h1 : Ev Γ loc led e (.raw (.ref x)) loc1 led1) (h2 : GA Γ loc1 led1 x name v)
    (he : autoParam (eval (.Attribute e name pos) Γ.env = (do let o ← eval e Γ.env; standAt pos.atName; let r ← holding [o] (getAttr o name true); letTemporaryGo e o r; pure r)) aU) : Ev Γ loc led (.Attribute e name pos) v loc1 led1 := fun s Q E S h =>
  Attribute_any_ (h1 s _ E S fun a s1 S1 le1 ra => by cases ra; exact h2 s1 Q E S1 fun v' s2 S2 le2 r => h v' s2 S2 (le1.trans le2) r) he
theorem Ex1.setAttr {value ob : Expr} {name : Str} {p pos : Pos} {x : Addr} {v : V} (h1 : Ev Γ loc led value v loc1 led1) (h2 : Ev Γ loc1 led1 ob (.raw (.ref x)) loc2 led2) (h3 : SA Γ loc2 led2 x name v led3) (hs : autoParam (swapsWith value (some (.Attribute ob name p)) pos.line Γ.env = pure false) aR) :
    Ex1 Γ loc led (.Assign [.Attribute ob name p] value pos) (.next loc2 led3) := fun s Q E S h => by
  rw [plainObj_exec_Assign_Attribute _ _ _ _ _ hs]
  refine wpAny_bind (wpAny_standAt (wpAny_bind (h1 s _ E S fun v' s1 S1 le1 r1 => wpAny_bind ?_)))
  rw [assign_Attribute]
  refine wpAny_bind (wpAny_holding (h2 s1 _ E S1 fun ov s2 S2 le2 r2 => wpAny_bind (wpAny_standAt (wpAny_bind (wpAny_holding ?_)))))
  cases r2
  exact h3 s2 v' _ E S2 (r1.keeps le2) fun s3 S3 le3 => wpAny_release (wpAny_pure (h _ s3 ⟨rfl, S3, le1.trans (le2.trans le3)⟩))
theorem inst_srt {x D : Addr} {od : Obj} (S : St Γ loc led s) (hS : (x, exactO (instObj 239 D)) ∈ led) (hD : s.heap.get? D = some od) : InstAt s.heap x (instObj 239 D) 239 (some od) := by
  refine aside fun zk => ?_
  obtain ⟨_, _, o, h3, h4⟩ := S.ld _ hS
  have h4 : o = instObj 239 D := h4
  subst h4
  apply zk
  exact ⟨h3, rfl, rfl, hD⟩
theorem ga_srt (O : Ok n Γ) {x D N : Addr} {rv : Value} {p q : Int} {name : Str} {v : V} (hS : (x, exactO (instObj 239 D)) ∈ led) (hD : (D, attrO Γ.w N rv p q) ∈ led)
    (hf : ∀ t1 t2 t3 t4 ep u3 u4, ∃ v', findObj (KF Γ.w) 239 (some (attrObj Γ.w t1 t2 t3 t4 ep (.ref N) rv (.int p u3) (.int q u4))) name = some (.value v') ∧ handedIn v' = true ∧ ∀ h, RepV h v v') : GA Γ loc led x name v := fun s Q E S h => by
  refine aside fun zk => ?_
  obtain ⟨_, _, od, h3, t1, t2, t3, t4, ep, u3, u4, rfl⟩ := S.ld _ hD
  obtain ⟨v', f1, f2, f3⟩ := hf t1 t2 t3 t4 ep u3 u4
  apply zk
  exact get_value (KX O S) (inst_srt S hS h3) (k_ga _) f1 f2 (h _ _ (S.toks _) Le.rfl (f3 _))
theorem ga_n2i (O : Ok n Γ) {x D N : Addr} {rv : Value} {p q : Int} (hS : (x, exactO (instObj 239 D)) ∈ led) (hD : (D, attrO Γ.w N rv p q) ∈ led) : GA Γ loc led x "_node2info" (.raw (.ref N)) :=
  ga_srt O hS hD fun t1 t2 t3 t4 ep u3 u4 => ⟨_, f_n2i _, rfl, fun _ => rfl⟩
theorem ga_rdy (O : Ok n Γ) {x D N : Addr} {rv : Value} {p q : Int} (hr : handedIn rv = true) (hS : (x, exactO (instObj 239 D)) ∈ led) (hD : (D, attrO Γ.w N rv p q) ∈ led) : GA Γ loc led x "_ready_nodes" (.raw rv) :=
  ga_srt O hS hD fun t1 t2 t3 t4 ep u3 u4 => ⟨_, f_rdy _, hr, fun _ => rfl⟩
theorem ga_npo (O : Ok n Γ) {x D N : Addr} {rv : Value} {p q : Int} (hS : (x, exactO (instObj 239 D)) ∈ led) (hD : (D, attrO Γ.w N rv p q) ∈ led) : GA Γ loc led x "_npassedout" (.d (.int p)) :=
  ga_srt O hS hD fun t1 t2 t3 t4 ep u3 u4 => ⟨_, f_npo _, rfl, fun _ => of_int⟩
theorem ga_nfi (O : Ok n Γ) {x D N : Addr} {rv : Value} {p q : Int} (hS : (x, exactO (instObj 239 D)) ∈ led) (hD : (D, attrO Γ.w N rv p q) ∈ led) : GA Γ loc led x "_nfinished" (.d (.int q)) :=
  ga_srt O hS hD fun t1 t2 t3 t4 ep u3 u4 => ⟨_, f_nfi _, rfl, fun _ => of_int⟩
theorem sa_srt (O : Ok n Γ) (hee : Γ.env.locals = Γ.fenv.locals) {x D : Addr} {xo xo' : Mine.O} {name : Str} {v' : Value} {od : Obj} {es : List DictEntry} {ep : Nat} {Q : Unit → Shared → Prop} {E : Value → Shared → Prop} (S : St Γ loc (pre ++ (D, xo) :: post) s) (hS : (x, exactO (instObj 239 D)) ∈ pre ++ (D, xo) :: post) (hd : s.heap.get? D = some od)
    (ht : takerIn (KF Γ.w) 239 name = some none) (hl : (lookIn name od).isSome = true) (e' : (Obj.putName name (PyData.keyHash Γ.w.params name) (.str name (s.toks + 1)) v' od).data = .dict es.toArray ep) (hz : es.length ≤ 1000)
    (hx : ∀ h, xo'.p h (Obj.putName name (PyData.keyHash Γ.w.params name) (.str name (s.toks + 1)) v' od))
    (h : ∀ s', St Γ loc (pre ++ (D, xo') :: post) s' → Le Γ (pre ++ (D, xo) :: post) s (pre ++ (D, xo') :: post) s' → Q () s') : wpAny (MM Γ.w) Γ.A (setAttr (.ref x) name v') Q E s := by
  refine aside fun zk => ?_
  obtain ⟨m, F⟩ := S.fr
  have hm : (D, xo) ∈ pre ++ (D, xo) :: post := by simp
  obtain ⟨a1, a2, _⟩ := S.ld _ hm
  have hne : D ≠ Γ.fenv.locals := fun q => a1 (q ▸ O.pf)
  obtain ⟨rest, N, n1, n2⟩ := news_all s.heap Γ.fenv.locals D od hd hne
  apply zk
  have X := KX O S
  refine set_plain X (inst_srt S hS hd) (k_sa _) ?_
  refine osa_dict (h₀ := {}) (L := Γ.fenv.locals) (m := m) (pre := []) (post := rest) (s := { s with toks := s.toks + 1 }) ⟨F.ns, (fun b o e => absurd e (by rw [empty_get]; exact fun q => nomatch q)), Nat.zero_le _⟩ N X (inst_srt (S.toks _) hS hd) rfl (k_po _) ht (k_hd _) hl (fun _ h => nomatch h) n1 rfl e' hz fun h' F' N' => ?_
  obtain ⟨S4, le4⟩ := S.setLedL (x' := xo') (t := s.toks + 1 + 1) O hee (h' := h') (fun b o e q1 q2 => (N' _ (.tail _ (n2 b o e q1 q2))).1) (fun m' hm' => ns_unique F.ns hm' ▸ F'.ns) (N' _ (.head _)).1 fun v _ => hx v
  exact h _ S4 le4
noncomputable def infObj (D : Addr) (a b c : Option Value) : Obj := { cls := .ref 142, dict := some D, data := .plain, slots := #[a, b, c] }
noncomputable def infoO (row : Str) (np : Int) (l : Addr) : O := ⟨fun h o => ∃ D t u, o = infObj D (some (.str row t)) (some (.int np u)) (some (.ref l)) ∧ h.get? D = some emptyDict,
  fun k ⟨D, t, u, h1, h2⟩ => ⟨D, t, u, h1, k _ _ h2 ⟨_, by decide, rfl⟩⟩⟩
theorem ga_info (O : Ok n Γ) {x l p : Addr} {row : Str} {np : Int} {name : Str} {i : Nat} {v : V} (hI : (x, infoO row np l) ∈ led) (hf : findObj (KF Γ.w) 142 (some emptyDict) name = some (.bind (.builtin "member_descriptor.__get__") (.ref p))) (hp : slotIn (KF Γ.w) p 142 = some i)
    (hv : ∀ D t u, ∃ v', ((infObj D (some (.str row t)) (some (.int np u)) (some (.ref l))).slots[i]?).join = some v' ∧ handedIn v' = true ∧ ∀ h, RepV h v v') : GA Γ loc led x name v := fun s Q E S h => by
  refine aside fun zk => ?_
  obtain ⟨_, _, ob, h3, D, t, u, rfl, h4⟩ := S.ld _ hI
  obtain ⟨v', v1, v2, v3⟩ := hv D t u
  apply zk
  have X := KX O S
  have I : InstAt s.heap x (infObj D (some (.str row t)) (some (.int np u)) (some (.ref l))) 142 (some emptyDict) := ⟨h3, rfl, rfl, (vget h4)⟩
  refine get_bind X I (i_ga _) hf (i_gn _) (wpAny_call (slot_get (s := { s with toks := s.toks + 1 }) X I hp v1 ?_))
  exact handed_on v2 (h _ _ (S.toks _) Le.rfl (v3 _))
theorem ga_node (O : Ok n Γ) {x l : Addr} {row : Str} {np : Int} (hI : (x, infoO row np l) ∈ led) : GA Γ loc led x "node" (.d (.str row)) := ga_info O hI (i_f1 _) (i_s1 _) fun D t u => ⟨_, rfl, rfl, fun _ => of_str⟩
theorem ga_np (O : Ok n Γ) {x l : Addr} {row : Str} {np : Int} (hI : (x, infoO row np l) ∈ led) : GA Γ loc led x "npredecessors" (.d (.int np)) := ga_info O hI (i_f2 _) (i_s2 _) fun D t u => ⟨_, rfl, rfl, fun _ => of_int⟩
theorem ga_succ (O : Ok n Γ) {x l : Addr} {row : Str} {np : Int} (hI : (x, infoO row np l) ∈ led) : GA Γ loc led x "successors" (.raw (.ref l)) := ga_info O hI (i_f3 _) (i_s3 _) fun D t u => ⟨_, rfl, rfl, fun _ => rfl⟩
end
end
section
section
variable {n : Nat} {Γ : Cx} {loc loc' loc1 loc2 : Loc} {led led' led1 led2 led3 pre post fp : Led} {s : Shared} {o : Out} {P P' : Out → Prop} {xs : List Str} {vs : List (Option V)}
theorem sa_rdy (O : Ok n Γ) (hee : Γ.env.locals = Γ.fenv.locals) {x D N : Addr} {rv rv' : Value} {p q : Int} (hS : (x, exactO (instObj 239 D)) ∈ pre ++ (D, attrO Γ.w N rv p q) :: post) : SA Γ loc (pre ++ (D, attrO Γ.w N rv p q) :: post) x "_ready_nodes" (.raw rv') (pre ++ (D, attrO Γ.w N rv' p q) :: post) := fun s v' Q E S r h => by
  cases r
  obtain ⟨_, _, od, h3, t1, t2, t3, t4, ep, u3, u4, rfl⟩ := S.ld (D, attrO Γ.w N rv p q) (by simp)
  exact sa_srt (xo' := attrO Γ.w N rv' p q) (es := [ent Γ.w "_node2info" t1 (.ref N), ent Γ.w "_ready_nodes" t2 rv', ent Γ.w "_npassedout" t3 (.int p u3), ent Γ.w "_nfinished" t4 (.int q u4)]) (ep := ep) O hee S hS h3 (k_t2 _) rfl (by kernel_rfl) (by simp) (fun _ => ⟨t1, t2, t3, t4, ep, u3, u4, by kernel_rfl⟩) h
theorem sa_npo (O : Ok n Γ) (hee : Γ.env.locals = Γ.fenv.locals) {x D N : Addr} {rv : Value} {p p' q : Int} (hS : (x, exactO (instObj 239 D)) ∈ pre ++ (D, attrO Γ.w N rv p q) :: post) : SA Γ loc (pre ++ (D, attrO Γ.w N rv p q) :: post) x "_npassedout" (.d (.int p')) (pre ++ (D, attrO Γ.w N rv p' q) :: post) := fun s v' Q E S r h => by
  obtain ⟨u, rfl⟩ := rep_int r
  obtain ⟨_, _, od, h3, t1, t2, t3, t4, ep, u3, u4, rfl⟩ := S.ld (D, attrO Γ.w N rv p q) (by simp)
  exact sa_srt (xo' := attrO Γ.w N rv p' q) (es := [ent Γ.w "_node2info" t1 (.ref N), ent Γ.w "_ready_nodes" t2 rv, ent Γ.w "_npassedout" t3 (.int p' u), ent Γ.w "_nfinished" t4 (.int q u4)]) (ep := ep) O hee S hS h3 (k_t3 _) rfl (by kernel_rfl) (by simp) (fun _ => ⟨t1, t2, t3, t4, ep, u, u4, by kernel_rfl⟩) h
theorem sa_nfi (O : Ok n Γ) (hee : Γ.env.locals = Γ.fenv.locals) {x D N : Addr} {rv : Value} {p q q' : Int} (hS : (x, exactO (instObj 239 D)) ∈ pre ++ (D, attrO Γ.w N rv p q) :: post) : SA Γ loc (pre ++ (D, attrO Γ.w N rv p q) :: post) x "_nfinished" (.d (.int q')) (pre ++ (D, attrO Γ.w N rv p q') :: post) := fun s v' Q E S r h => by
  obtain ⟨u, rfl⟩ := rep_int r
  obtain ⟨_, _, od, h3, t1, t2, t3, t4, ep, u3, u4, rfl⟩ := S.ld (D, attrO Γ.w N rv p q) (by simp)
  exact sa_srt (xo' := attrO Γ.w N rv p q') (es := [ent Γ.w "_node2info" t1 (.ref N), ent Γ.w "_ready_nodes" t2 rv, ent Γ.w "_npassedout" t3 (.int p u3), ent Γ.w "_nfinished" t4 (.int q' u)]) (ep := ep) O hee S hS h3 (k_t4 _) rfl (by kernel_rfl) (by simp) (fun _ => ⟨t1, t2, t3, t4, ep, u3, u, by kernel_rfl⟩) h
theorem sa_slot (O : Ok n Γ) (hee : Γ.env.locals = Γ.fenv.locals) {x p : Addr} {i : Nat} {xo xo' : Mine.O} {ox : Obj} {name : Str} {v' : Value} {Q : Unit → Shared → Prop} {E : Value → Shared → Prop} (S : St Γ loc (pre ++ (x, xo) :: post) s) (I : InstAt s.heap x ox 142 (some emptyDict))
    (ht : takerIn (KF Γ.w) 142 name = some (some (.ref p))) (hT : typeIn (KF Γ.w) (.ref p) = some (.type "member_descriptor")) (hp : slotIn (KF Γ.w) p 142 = some i) (hi : i < 1000) (hfr : ox.isFreed = false)
    (hx : ∀ h, Sub (vis Γ (pre ++ (x, xo) :: post) s) h → xo'.p h { ox with slots := (ox.slots ++ Array.replicate (i + 1 - ox.slots.size) none).setIfInBounds i (some v') })
    (h : ∀ s', St Γ loc (pre ++ (x, xo') :: post) s' → Le Γ (pre ++ (x, xo) :: post) s (pre ++ (x, xo') :: post) s' → Q () s') : wpAny (MM Γ.w) Γ.A (setAttr (.ref x) name v') Q E s := by
  refine aside fun zk => ?_
  obtain ⟨m, F⟩ := S.fr
  obtain ⟨a1, a2, _⟩ := S.ld (x, xo) (by simp)
  have hne : x ≠ Γ.fenv.locals := fun q => a1 (q ▸ O.pf)
  obtain ⟨rest, N, n1, n2⟩ := news_all s.heap Γ.fenv.locals x ox I.at_ hne
  apply zk
  have X := KX O S
  refine set_plain X I (i_sa _) ?_
  refine osa_descr (s := { s with toks := s.toks + 1 }) PySem.W.KF.slot_mset X I (i_po _) ht hT ?_
  refine slot_set (h₀ := {}) (L := Γ.fenv.locals) (m := m) (pre := []) (post := rest) (s := { s with toks := s.toks + 1 }) ⟨F.ns, (fun b o e => absurd e (by rw [empty_get]; exact fun q => nomatch q)), Nat.zero_le _⟩ N X I hp hi (fun _ h => nomatch h) n1 rfl ?_ fun h' F' N' => ?_
  · obtain ⟨c, dd, dt, sl⟩ := ox; cases dt <;> first | rfl | cases hfr
  · obtain ⟨S4, le4⟩ := S.setLedL (x' := xo') (t := s.toks + 1) O hee (h' := h') (fun b o e q1 q2 => (N' _ (.tail _ (n2 b o e q1 q2))).1) (fun m' hm' => ns_unique F.ns hm' ▸ F'.ns) (N' _ (.head _)).1 fun v hv => hx v hv
    exact h _ S4 le4
theorem sa_np (O : Ok n Γ) (hee : Γ.env.locals = Γ.fenv.locals) {x l : Addr} {row : Str} {np np' : Int} : SA Γ loc (pre ++ (x, infoO row np l) :: post) x "npredecessors" (.d (.int np')) (pre ++ (x, infoO row np' l) :: post) := fun s v' Q E S r h => by
  refine aside fun zk => ?_
  obtain ⟨u, rfl⟩ := rep_int r
  obtain ⟨_, _, ob, h3, D, t, u', rfl, h4⟩ := S.ld (x, infoO row np l) (by simp)
  apply zk
  have I : InstAt s.heap x (infObj D (some (.str row t)) (some (.int np u')) (some (.ref l))) 142 (some emptyDict) := ⟨h3, rfl, rfl, (vget h4)⟩
  exact sa_slot (xo' := infoO row np' l) O hee S I (i_t2 _) (i_d2 _) (i_s2 _) (by decide) rfl (fun h k => ⟨D, t, u, by kernel_rfl, k _ _ h4 ⟨_, by decide, rfl⟩⟩) h
theorem Ex1.augAttr {ob value : Expr} {name : Str} {tpos pos : Pos} {x : Addr} {a b : Int} {op : Operator} {c : Int} (h1 : Ev Γ loc led ob (.raw (.ref x)) loc1 led1) (h2 : GA Γ loc1 led1 x name (.d (.int a))) (h3 : Ev Γ loc1 led1 value (.d (.int b)) loc1 led1) (hop : (op = .Add ∧ c = a + b) ∨ (op = .Sub ∧ c = a - b)) (h4 : SA Γ loc1 led1 x name (.d (.int c)) led2) :
    Ex1 Γ loc led (.AugAssign (.Attribute ob name tpos) op value pos) (.next loc1 led2) := fun s Q E S h =>
  wpAny_AugAssign_AttributeAny (h1 s _ E S fun ov s1 S1 le1 r1 => by
    cases r1
    refine h2 s1 _ E S1 fun old s2 S2 le2 r2 => h3 s2 _ E S2 fun v s3 S3 le3 r3 => ?_
    obtain ⟨t, rfl⟩ := rep_int r2
    obtain ⟨u, rfl⟩ := rep_int r3
    rcases hop with ⟨rfl, rfl⟩ | ⟨rfl, rfl⟩
    · exact AutoIntOps.iadd_0 (h4 _ _ _ E (S3.toks _) of_int fun s4 S4 le4 => h _ s4 ⟨rfl, S4, le1.trans (le2.trans (le3.trans (Le.trans (fun _ _ e => e) le4)))⟩)
    · exact AutoIntOps.isub_0 (h4 _ _ _ E (S3.toks _) of_int fun s4 S4 le4 => h _ s4 ⟨rfl, S4, le1.trans (le2.trans (le3.trans (Le.trans (fun _ _ e => e) le4)))⟩))
end
end
section
noncomputable def n2iO (w : World) (kvs : List (Str × Value)) : O := ⟨fun _ o => o.IsDictOf (PySem.strKind PP w) kvs, fun _ h => h⟩
section
variable {n : Nat} {Γ : Cx} {loc loc' loc1 loc2 : Loc} {led led' led1 led2 led3 pre post fp : Led} {s : Shared} {o : Out} {P P' : Out → Prop} {xs : List Str} {vs : List (Option V)}
theorem n2i_at {N : Addr} {kvs : List (Str × Value)} (S : St Γ loc led s) (hN : (N, n2iO Γ.w kvs) ∈ led) : s.heap.DictOf (PySem.strKind PP Γ.w) N kvs := by
  refine aside fun zk => ?_
  obtain ⟨_, _, ob, h3, h4⟩ := S.ld _ hN
  apply zk
  exact Heap.dictOf_iff.mpr ⟨ob, h3, h4⟩
theorem size_gt (O : Ok n Γ) (S : St Γ loc led s) : 2 < s.heap.objs.size := by
  have X := KX O S
  exact Heap.lt_size (X 2 _ (by exact rfl))
theorem EvG.dict0 (O : Ok n Γ) {pos : Pos} : EvG Γ loc led (.Dict [] [] pos) (fun v d => ∃ N, N ≠ 1 ∧ v = .raw (.ref N) ∧ d = (N, n2iO Γ.w []) :: led) := fun s Q E S h => by
  have hs := size_gt O S
  refine wpAny_Dict_empty ?_
  obtain ⟨S4, le4⟩ := S.new (ob := { cls := .type "dict", data := .dict #[] }) (x := n2iO Γ.w []) (t := s.toks) rfl fun v _ => by
    obtain ⟨ob, e1, e2⟩ := Heap.dictOf_iff.mp (Heap.DictOf.new (knd := PySem.strKind PP Γ.w) s.heap)
    rw [Heap.get?_push_size _ rfl] at e1
    cases e1
    exact e2
  exact h _ _ _ _ ⟨s.heap.objs.size, (fun q => by have q : s.heap.objs.size = 1 := q; lia), rfl, rfl⟩ S4 le4 rfl
theorem Ev.dget (O : Ok n Γ) {ob e : Expr} {apos pos : Pos} {N : Addr} {kvs : List (Str × Value)} {k : Str} (h1 : Ev Γ loc led ob (.raw (.ref N)) loc1 led1) (hn : N ≠ 1) (h2 : Ev Γ loc1 led1 e (.d (.str k)) loc2 led2) (hN1 : (N, n2iO Γ.w kvs) ∈ led1) (hN : (N, n2iO Γ.w kvs) ∈ led2)
    {pl : Sem Bool} (he : autoParam (eval (.Call (.Attribute ob "get" apos) [e] [] pos) Γ.env = (do let ov ← eval ob Γ.env; standAt apos.atName; let (f, first) ← holding [ov] (getMethod ov "get" pl); callWith pos f first (backTo pos (starEach [e] Γ.env)) (backToKw pos (keywordEach [] Γ.env)))) aR)
    (hp : autoParam (∀ pos, (backTo pos (starEach [e] Γ.env)).any (·.1) = false) aI) (hs : autoParam (starEach (e :: []) Γ.env = (false, eval e Γ.env) :: starEach [] Γ.env) aR) :
    Ev Γ loc led (.Call (.Attribute ob "get" apos) [e] [] pos) (.raw ((valueAt kvs k).getD .none)) loc2 led2 := fun s Q E S h => by
  refine methodCall_KW (h1 s _ E S fun a s1 S1 le1 ra => ?_) he
  cases ra
  have D1 := n2i_at S1 hN1
  obtain ⟨od, g1, hd⟩ := Heap.dictOf_iff.mp D1
  refine getMethod_builtin D1.typeIs PySem.F.plainAttrs_dict PySem.F.slot_dict_get PySem.F.type_dict_get (fun b e => by
    cases e
    obtain ⟨es, ep, hx, _⟩ := hd
    exact ⟨od, g1, hx.2.1⟩) ?_
  refine callWith_of (P := fun h => (KF Γ.w).In h) (by rw [hp pos]; rfl) (fun h X => keep_blt h X) (evalArgs_es (hp pos) (Es.cons h2 Es.nil hs pos s1 _ E S1 fun vals s2 S2 le2 rs => ⟨KX O S2, ?_⟩))
  cases rs with
  | cons r q =>
    cases q
    obtain ⟨t, rfl⟩ := rep_str r
    have D2 := n2i_at S2 hN
    exact call_meetsIn PySem.F.slot_dict_get D2.typeIs PySem.F.entry_dict_get (PySem.F.args_dict_get_2 _ _) (meets_dict_get (knd := PySem.strKind PP Γ.w) (d := N) (strKind_is _ _ k t) (by simpa [sysModules] using hn)) ⟨valueAt kvs, D2.mapOf, h _ _ (S2.toks _) (le1.trans le2) rfl⟩
theorem Ev.dsub (O : Ok n Γ) {ob e : Expr} {pos : Pos} {N : Addr} {kvs : List (Str × Value)} {k : Str} {v : Value} (h1 : Ev Γ loc led ob (.raw (.ref N)) loc1 led1) (h2 : Ev Γ loc1 led1 e (.d (.str k)) loc2 led2) (hN : (N, n2iO Γ.w kvs) ∈ led2) (hv : valueAt kvs k = some v)
    (hs : autoParam (∀ o i, ∃ ops, subscripted e false o i = operate ops (getItem o i)) aE) : Ev Γ loc led (.Subscript ob e pos) (.raw v) loc2 led2 := fun s Q E S h => by
  refine Subscript_ (h1 s _ E S fun a s1 S1 le1 ra => h2 s1 _ E S1 fun b s2 S2 le2 rb => ?_)
  cases ra
  obtain ⟨t, rfl⟩ := rep_str rb
  obtain ⟨ops, e⟩ := hs (.ref N) (.str k t)
  have D2 := n2i_at S2 hN
  exact tail_any D2.typeIs PySem.slot_dict_getitem.lookup (wpAny_getItem_of (strKind_is _ _ k t) D2.mapOf hv (h _ _ (S2.toks _) (le1.trans le2) rfl)) e
theorem Ev.dinB (O : Ok n Γ) {ob e : Expr} {pos : Pos} {N : Addr} {kvs : List (Str × Value)} {k : Str} (h1 : Ev Γ loc led e (.d (.str k)) loc1 led1) (h2 : Ev Γ loc1 led1 ob (.raw (.ref N)) loc2 led2) (hn : N ≠ 1) (hN : (N, n2iO Γ.w kvs) ∈ led2) (hm : autoParam (behindInMarks .In ob = false) aU) :
    Bt Γ loc led (.Compare e [.In] [ob] pos) (valueAt kvs k).isSome loc2 led2 := fun s Q E S h =>
  wpAny_isTrue_Compare1 (h1 s _ E S fun a s1 S1 le1 ra => h2 s1 _ E S1 fun b s2 S2 le2 rb => by
    cases rb
    obtain ⟨t, rfl⟩ := rep_str ra
    have D2 := n2i_at S2 hN
    exact wpAny_in_of (strKind_is _ _ k t) (by simpa [sysModules] using hn) D2.mapOf (wpAny_truthy_bool (h _ _ (S2.toks _) (le1.trans le2) rfl))) hm
theorem dset (O : Ok n Γ) {N : Addr} {kvs : List (Str × Value)} {k : Str} {t : Tok} {v : Value} {A : Around} {Q : Unit → Shared → Prop} {E : Value → Shared → Prop} (S : St Γ loc (pre ++ (N, n2iO Γ.w kvs) :: post) s) (hz : kvs.length ≤ sizeLine)
    (h : ∀ s', St Γ loc (pre ++ (N, n2iO Γ.w (stored kvs k v)) :: post) s' → Le Γ (pre ++ (N, n2iO Γ.w kvs) :: post) s (pre ++ (N, n2iO Γ.w (stored kvs k v)) :: post) s' → Q () s') : wpAny (MM Γ.w) A (setItem (.ref N) (.str k t) v) Q E s := by
  have D := n2i_at S (by simp : (N, n2iO Γ.w kvs) ∈ pre ++ (N, n2iO Γ.w kvs) :: post)
  refine wpAny_setItem_pairs (strKind_is _ _ k t) D (fun h' hd' hs' => ?_) hz
  obtain ⟨ob, g1, g2⟩ := Heap.dictOf_iff.mp hd'
  obtain ⟨S4, le4⟩ := S.setLed (x' := n2iO Γ.w (stored kvs k v)) (t := s.toks + 1) O hs' g1 fun _ _ => g2
  exact h _ S4 le4
theorem EvG.methF (O : Ok n Γ) {ob : Expr} {name : Str} {apos pos : Pos} {as : List Expr} {x D N f : Addr} {rv : Value} {p q : Int} {us : List V} {R : V → Led → Prop} (h1 : Ev Γ loc led ob (.raw (.ref x)) loc led1) (hS : (x, exactO (instObj 239 D)) ∈ led1) (hD : (D, attrO Γ.w N rv p q) ∈ led1)
    (hf : findIn (KF Γ.w) (.ref 239) name = some (some (.ref f))) (ht : typeIn (KF Γ.w) (.ref f) = some (.type "function")) (hsh : ∀ t1 t2 t3 t4 ep a b c d, shadowIn (some (attrObj Γ.w t1 t2 t3 t4 ep a b c d)) name = some false) (hk : Keep Γ.w (.ref f))
    (ha : Es Γ loc led1 as us loc (fp ++ led2)) (ho : OpW Γ.w n (fun vals => PySem.call (.ref f) vals) (.raw (.ref x) :: us) fp R) (hp : autoParam (∀ pos, (backTo pos (starEach as Γ.env)).any (·.1) = false) aI)
    {pl : Sem Bool} (he : autoParam (eval (.Call (.Attribute ob name apos) as [] pos) Γ.env = (do let ov ← eval ob Γ.env; standAt apos.atName; let (f, first) ← holding [ov] (getMethod ov name pl); callWith pos f first (backTo pos (starEach as Γ.env)) (backToKw pos (keywordEach [] Γ.env)))) aR) :
    EvG Γ loc led (.Call (.Attribute ob name apos) as [] pos) (fun v d => ∃ fp', R v fp' ∧ d = fp' ++ led2) := fun s Q E S h => by
  refine methodCall_KW (h1 s _ E S fun a s1 S1 le1 ra => ?_) he
  refine aside fun zk => ?_
  cases ra
  obtain ⟨_, _, od, h3, t1, t2, t3, t4, ep, u3, u4, rfl⟩ := S1.ld _ hD
  apply zk
  refine method_fn (KX O S1) (inst_srt S1 hS h3) (k_ga _) (k_gn _) hf ht (hsh _ _ _ _ _ _ _ _ _) ?_
  refine callWith_of (P := fun h => (KF Γ.w).In h) (by rw [hp pos]; rfl) (fun h X => hk h X) (evalArgs_es (hp pos) (ha pos s1 _ E S1 fun vals s2 S2 le2 rs => ⟨KX O S2, ?_⟩))
  exact ho Γ loc led2 s2 (.ref x :: vals) Q E rfl O S2 (.cons rfl rs) fun v fp' v' s3 r S3 le3 rv => h v _ v' s3 ⟨fp', r, rfl⟩ S3 (le1.trans (le2.trans le3)) rv
end
end
section
noncomputable abbrev tcCode (C : Addr) (rest : List Value) : Code := .builtin "type.__call__" ⟨.ref C :: rest, []⟩
theorem tc_weight (C : Addr) (rest : List Value) : (tcCode C rest).weight ≤ 1 := by
  unfold Code.weight
  have h1 : (tcCode C rest).isGuard = false := by rfl
  have h2 : (tcCode C rest).isCaller = false := by rfl
  have h3 : (tcCode C rest).frames = 0 := by rfl
  rw [h1, h2, h3]
  split <;> simp
noncomputable def Cx.tc (Γ : Cx) (C : Addr) (rest : List Value) : Cx := { Γ with A := Γ.A.under (tcCode C rest) }
section
variable {n : Nat} {Γ : Cx} {loc loc' loc1 loc2 : Loc} {led led' led1 led2 led3 pre post fp : Led} {s : Shared} {C : Addr} {rest : List Value}
theorem Ok.tc (O : Ok (n + 1) Γ) : Ok n (Γ.tc C rest) := { O with
  hA := fun h => by
    have := O.hA (by lia)
    show pushEnvs (tcCode C rest).envs Γ.A.frames = _
    rw [this]; rfl
  gu := fun h => by
    have := O.gu (by lia)
    show pushGuards (tcCode C rest).guards Γ.A.guards = _
    rw [this]; rfl
  gb := fun h => O.gb (by lia)
  fc := fun h => O.fc (by lia)
  un := by have := O.un; show Γ.A.units + 1 + 4 * n ≤ 1000; lia
  dp := by have := O.dp; have := tc_weight C rest; show Γ.A.depth + (tcCode C rest).weight + n ≤ 900; lia }
theorem St.tc (S : St Γ loc led s) : St (Γ.tc C rest) loc led s := ⟨S.fr, S.nm, S.ld, S.nd, S.pv, S.os, S.gn, S.fz⟩
theorem St.ofTc (S : St (Γ.tc C rest) loc led s) : St Γ loc led s := ⟨S.fr, S.nm, S.ld, S.nd, S.pv, S.os, S.gn, S.fz⟩
theorem make_any (O : Ok (n + 1) Γ) {fI : Addr} {us : List V} (ini : Addr → Addr → Led) {R : Addr → Led → Prop} (hm : makesIn (KF Γ.w) C = true) (hi : findIn (KF Γ.w) (.ref C) "__init__" = some (some (.ref fI))) (hf : typeIn (KF Γ.w) (.ref fI) = some (.type "function"))
    (ho : ∀ x D, OpC Γ.w n fI (.raw (.ref x) :: us) (ini x D) (fun v d => v = .d .none ∧ R x d)) (S : St Γ loc led s) (rs : RepAll (vis Γ led s) us rest)
    (hini : St Γ loc (ini (s.heap.objs.size + 1) s.heap.objs.size ++ led) { s with heap := (s.heap.push emptyDict).push (instObj C s.heap.objs.size) } ∧ Le Γ led s (ini (s.heap.objs.size + 1) s.heap.objs.size ++ led) { s with heap := (s.heap.push emptyDict).push (instObj C s.heap.objs.size) })
    {Q : Value → Shared → Prop} {E : Value → Shared → Prop} (h : ∀ x d s', R x d → St Γ loc (d ++ led) s' → Le Γ led s (d ++ led) s' → Q (.ref x) s') : wpAny (MM Γ.w) Γ.A (call (.ref C) rest) Q E s := by
  have X := KX O S
  obtain ⟨S2, le2⟩ := hini
  refine wpAny_call ?_
  obtain ⟨hp, g, dr, t, os⟩ := s
  refine make_core (makes_of X hm) (looks_findIn X hi) (fun self => bind_fn X self hf) (.inl rfl) ?_
  refine ho (hp.objs.size + 1) hp.objs.size (Γ.tc C rest) loc led _ (.ref (hp.objs.size + 1) :: rest) _ rfl O.tc S2.tc (.cons rfl (rs.keeps le2)) fun v d v' s' hv S' le' r => ?_
  obtain ⟨rfl, hR⟩ := hv
  refine ⟨rep_none r, ?_⟩
  exact h _ d s' hR S'.ofTc (le2.trans le')
noncomputable def iniO (D : Addr) : O := ⟨fun h o => o = instObj 142 D ∧ h.get? D = some emptyDict, fun k ⟨h1, h2⟩ => ⟨h1, k _ _ h2 ⟨_, by decide, rfl⟩⟩⟩
theorem ini_srt (S : St Γ loc led s) : St Γ loc ([(s.heap.objs.size + 1, exactO (instObj 239 s.heap.objs.size)), (s.heap.objs.size, exactO emptyDict)] ++ led) { s with heap := (s.heap.push emptyDict).push (instObj 239 s.heap.objs.size) } ∧
    Le Γ led s ([(s.heap.objs.size + 1, exactO (instObj 239 s.heap.objs.size)), (s.heap.objs.size, exactO emptyDict)] ++ led) { s with heap := (s.heap.push emptyDict).push (instObj 239 s.heap.objs.size) } := by
  refine aside fun zk => ?_
  obtain ⟨S1, le1⟩ := S.new (ob := emptyDict) (t := s.toks) rfl (x := exactO emptyDict) fun _ _ => rfl
  obtain ⟨S2, le2⟩ := S1.new (ob := instObj 239 s.heap.objs.size) (t := s.toks) rfl (x := exactO (instObj 239 s.heap.objs.size)) fun _ _ => rfl
  apply zk
  simp only [Heap.size_push] at S2 le2
  exact ⟨S2, le1.trans le2⟩
theorem ini_inf (S : St Γ loc led s) : St Γ loc ([(s.heap.objs.size + 1, iniO s.heap.objs.size)] ++ led) { s with heap := (s.heap.push emptyDict).push (instObj 142 s.heap.objs.size) } ∧
    Le Γ led s ([(s.heap.objs.size + 1, iniO s.heap.objs.size)] ++ led) { s with heap := (s.heap.push emptyDict).push (instObj 142 s.heap.objs.size) } := by
  refine aside fun zk => ?_
  obtain ⟨S1, le1, g1⟩ := S.push (o := emptyDict) (t := s.toks) rfl
  obtain ⟨S2, le2⟩ := S1.new (ob := instObj 142 s.heap.objs.size) (t := s.toks) rfl (x := iniO s.heap.objs.size) fun v k => ⟨rfl, k _ _ g1 ⟨_, by decide, rfl⟩⟩
  apply zk
  simp only [Heap.size_push] at S2 le2
  exact ⟨S2, le1.trans le2⟩
theorem EvG.make (O : Ok (n + 1) Γ) {c : Str} {p pos : Pos} {as : List Expr} {fI : Addr} {us : List V} (ini : Addr → Addr → Led) {R : Addr → Led → Prop} (hc : Ep Γ loc led (.Name c p) (.raw (.ref C))) (hk : Keep Γ.w (.ref C)) (ha : Es Γ loc led as us loc led)
    (hm : makesIn (KF Γ.w) C = true) (hi : findIn (KF Γ.w) (.ref C) "__init__" = some (some (.ref fI))) (hf : typeIn (KF Γ.w) (.ref fI) = some (.type "function")) (ho : ∀ x D, OpC Γ.w n fI (.raw (.ref x) :: us) (ini x D) (fun v d => v = .d .none ∧ R x d))
    (hini : ∀ {s : Shared}, St Γ loc led s → St Γ loc (ini (s.heap.objs.size + 1) s.heap.objs.size ++ led) { s with heap := (s.heap.push emptyDict).push (instObj C s.heap.objs.size) } ∧ Le Γ led s (ini (s.heap.objs.size + 1) s.heap.objs.size ++ led) { s with heap := (s.heap.push emptyDict).push (instObj C s.heap.objs.size) })
    (he : autoParam (∀ pos, (backTo pos (starEach as Γ.env)).any (·.1) = false) aI) : EvG Γ loc led (.Call (.Name c p) as [] pos) (fun v d => ∃ x d', v = .raw (.ref x) ∧ R x d' ∧ d = d' ++ led) := fun s Q E S h => by
  refine Call_Name rfl (hc s _ E S fun a s1 S1 le1 ra => ?_)
  cases ra
  refine callWith_of (P := fun h => (KF Γ.w).In h) (by rw [he pos]; rfl) (fun h X => hk h X) (evalArgs_es (he pos) (ha pos s1 _ E S1 fun vals s2 S2 le2 rs => ⟨KX O S2, ?_⟩))
  exact make_any O ini hm hi hf ho S2 rs (hini S2) fun x d s' r S' le' => h _ _ _ _ ⟨x, d, rfl, r, rfl⟩ S' (le1.trans (le2.trans le')) rfl
end
end
section
noncomputable def i1O (D : Addr) (row : Str) : O := ⟨fun h o => ∃ t, o = { cls := .ref 142, dict := some D, data := .plain, slots := #[some (.str row t)] } ∧ h.get? D = some emptyDict, fun k ⟨t, h1, h2⟩ => ⟨t, h1, k _ _ h2 ⟨_, by decide, rfl⟩⟩⟩
noncomputable def i2O (D : Addr) (row : Str) : O := ⟨fun h o => ∃ t u, o = { cls := .ref 142, dict := some D, data := .plain, slots := #[some (.str row t), some (.int 0 u)] } ∧ h.get? D = some emptyDict, fun k ⟨t, u, h1, h2⟩ => ⟨t, u, h1, k _ _ h2 ⟨_, by decide, rfl⟩⟩⟩
noncomputable abbrev dObj (es : List DictEntry) (ep : Nat) : Obj := { cls := .type "dict", data := .dict es.toArray ep }
noncomputable def a1O (w : World) (N : Addr) : O := ⟨fun _ o => ∃ t1 ep, o = dObj [ent w "_node2info" t1 (.ref N)] ep, fun _ h => h⟩
noncomputable def a2O (w : World) (N : Addr) : O := ⟨fun _ o => ∃ t1 t2 ep, o = dObj [ent w "_node2info" t1 (.ref N), ent w "_ready_nodes" t2 .none] ep, fun _ h => h⟩
noncomputable def a3O (w : World) (N : Addr) : O := ⟨fun _ o => ∃ t1 t2 t3 u3 ep, o = dObj [ent w "_node2info" t1 (.ref N), ent w "_ready_nodes" t2 .none, ent w "_npassedout" t3 (.int 0 u3)] ep, fun _ h => h⟩
section
variable {n : Nat} {Γ : Cx} {loc loc' loc1 loc2 : Loc} {led led' led1 led2 led3 pre post fp : Led} {s : Shared} {P : Out → Prop}
theorem Ex1G.setAttr {value ob : Expr} {name : Str} {p pos : Pos} {x : Addr} {R : V → Led → Prop} (h1 : EvG Γ loc led value R) (h2 : ∀ v d, R v d → ∃ d', Ep Γ loc d ob (.raw (.ref x)) ∧ SA Γ loc d x name v d' ∧ P (.next loc d')) (hs : autoParam (swapsWith value (some (.Attribute ob name p)) pos.line Γ.env = pure false) aR) :
    Ex1G Γ loc led (.Assign [.Attribute ob name p] value pos) P := fun s Q E S h => by
  rw [plainObj_exec_Assign_Attribute _ _ _ _ _ hs]
  refine wpAny_bind (wpAny_standAt (wpAny_bind (h1 s _ E S fun v d v' s1 r S1 le1 r1 => wpAny_bind ?_)))
  refine aside fun zk => ?_
  obtain ⟨d', e1, e2, e3⟩ := h2 v d r
  apply zk
  rw [assign_Attribute]
  refine wpAny_bind (wpAny_holding (e1 s1 _ E S1 fun ov s2 S2 le2 r2 => wpAny_bind (wpAny_standAt (wpAny_bind (wpAny_holding ?_)))))
  cases r2
  exact e2 s2 v' _ E S2 (r1.keeps le2) fun s3 S3 le3 => wpAny_release (wpAny_pure (h _ _ s3 e3 ⟨rfl, S3, le1.trans (le2.trans le3)⟩))
theorem sa_i1 (O : Ok n Γ) (hee : Γ.env.locals = Γ.fenv.locals) {x D : Addr} {row : Str} : SA Γ loc (pre ++ (x, iniO D) :: post) x "node" (.d (.str row)) (pre ++ (x, i1O D row) :: post) := fun s v' Q E S r h => by
  refine aside fun zk => ?_
  obtain ⟨t, rfl⟩ := rep_str r
  obtain ⟨_, _, ob, h3, rfl, h4⟩ := S.ld (x, iniO D) (by simp)
  apply zk
  exact sa_slot (xo' := i1O D row) O hee S ⟨h3, rfl, rfl, (vget h4)⟩ (i_t1 _) (i_d1 _) (i_s1 _) (by decide) rfl (fun h k => ⟨t, by kernel_rfl, k _ _ h4 ⟨_, by decide, rfl⟩⟩) h
theorem sa_i2 (O : Ok n Γ) (hee : Γ.env.locals = Γ.fenv.locals) {x D : Addr} {row : Str} : SA Γ loc (pre ++ (x, i1O D row) :: post) x "npredecessors" (.d (.int 0)) (pre ++ (x, i2O D row) :: post) := fun s v' Q E S r h => by
  obtain ⟨u, rfl⟩ := rep_int r
  obtain ⟨_, _, ob, h3, t, rfl, h4⟩ := S.ld (x, i1O D row) (by simp)
  exact sa_slot (xo' := i2O D row) O hee S ⟨h3, rfl, rfl, (vget h4)⟩ (i_t2 _) (i_d2 _) (i_s2 _) (by decide) rfl (fun h k => ⟨t, u, by kernel_rfl, k _ _ h4 ⟨_, by decide, rfl⟩⟩) h
theorem sa_i3 (O : Ok n Γ) (hee : Γ.env.locals = Γ.fenv.locals) {x D l : Addr} {row : Str} : SA Γ loc (pre ++ (x, i2O D row) :: post) x "successors" (.raw (.ref l)) (pre ++ (x, infoO row 0 l) :: post) := fun s v' Q E S r h => by
  cases r
  obtain ⟨_, _, ob, h3, t, u, rfl, h4⟩ := S.ld (x, i2O D row) (by simp)
  exact sa_slot (xo' := infoO row 0 l) O hee S ⟨h3, rfl, rfl, (vget h4)⟩ (i_t3 _) (i_d3 _) (i_s3 _) (by decide) rfl (fun h k => ⟨D, t, u, by kernel_rfl, k _ _ h4 ⟨_, by decide, rfl⟩⟩) h
theorem sa_a1 (O : Ok n Γ) (hee : Γ.env.locals = Γ.fenv.locals) {x D N : Addr} (hS : (x, exactO (instObj 239 D)) ∈ pre ++ (D, exactO emptyDict) :: post) : SA Γ loc (pre ++ (D, exactO emptyDict) :: post) x "_node2info" (.raw (.ref N)) (pre ++ (D, a1O Γ.w N) :: post) := fun s v' Q E S r h => by
  cases r
  obtain ⟨_, _, od, h3, h4⟩ := S.ld (D, exactO emptyDict) (by simp)
  have h4 : od = emptyDict := h4
  subst h4
  exact sa_srt (xo' := a1O Γ.w N) (es := [ent Γ.w "_node2info" (s.toks + 1) (.ref N)]) (ep := 1) O hee S hS h3 (k_t1 _) rfl (by kernel_rfl) (by simp) (fun _ => ⟨s.toks + 1, 1, by kernel_rfl⟩) h
theorem sa_a2 (O : Ok n Γ) (hee : Γ.env.locals = Γ.fenv.locals) {x D N : Addr} (hS : (x, exactO (instObj 239 D)) ∈ pre ++ (D, a1O Γ.w N) :: post) : SA Γ loc (pre ++ (D, a1O Γ.w N) :: post) x "_ready_nodes" (.d .none) (pre ++ (D, a2O Γ.w N) :: post) := fun s v' Q E S r h => by
  rw [rep_none r]
  refine aside fun zk => ?_
  obtain ⟨_, _, od, h3, t1, ep, rfl⟩ := S.ld (D, a1O Γ.w N) (by simp)
  apply zk
  exact sa_srt (xo' := a2O Γ.w N) (es := [ent Γ.w "_node2info" t1 (.ref N), ent Γ.w "_ready_nodes" (s.toks + 1) .none]) (ep := ep + 1) O hee S hS h3 (k_t2 _) rfl (by kernel_rfl) (by simp) (fun _ => ⟨t1, s.toks + 1, ep + 1, by kernel_rfl⟩) h
theorem sa_a3 (O : Ok n Γ) (hee : Γ.env.locals = Γ.fenv.locals) {x D N : Addr} (hS : (x, exactO (instObj 239 D)) ∈ pre ++ (D, a2O Γ.w N) :: post) : SA Γ loc (pre ++ (D, a2O Γ.w N) :: post) x "_npassedout" (.d (.int 0)) (pre ++ (D, a3O Γ.w N) :: post) := fun s v' Q E S r h => by
  obtain ⟨u, rfl⟩ := rep_int r
  obtain ⟨_, _, od, h3, t1, t2, ep, rfl⟩ := S.ld (D, a2O Γ.w N) (by simp)
  exact sa_srt (xo' := a3O Γ.w N) (es := [ent Γ.w "_node2info" t1 (.ref N), ent Γ.w "_ready_nodes" t2 .none, ent Γ.w "_npassedout" (s.toks + 1) (.int 0 u)]) (ep := ep + 1) O hee S hS h3 (k_t3 _) rfl (by kernel_rfl) (by simp) (fun _ => ⟨t1, t2, s.toks + 1, u, ep + 1, by kernel_rfl⟩) h
theorem sa_a4 (O : Ok n Γ) (hee : Γ.env.locals = Γ.fenv.locals) {x D N : Addr} (hS : (x, exactO (instObj 239 D)) ∈ pre ++ (D, a3O Γ.w N) :: post) : SA Γ loc (pre ++ (D, a3O Γ.w N) :: post) x "_nfinished" (.d (.int 0)) (pre ++ (D, attrO Γ.w N .none 0 0) :: post) := fun s v' Q E S r h => by
  obtain ⟨u, rfl⟩ := rep_int r
  obtain ⟨_, _, od, h3, t1, t2, t3, u3, ep, rfl⟩ := S.ld (D, a3O Γ.w N) (by simp)
  exact sa_srt (xo' := attrO Γ.w N .none 0 0) (es := [ent Γ.w "_node2info" t1 (.ref N), ent Γ.w "_ready_nodes" t2 .none, ent Γ.w "_npassedout" t3 (.int 0 u3), ent Γ.w "_nfinished" (s.toks + 1) (.int 0 u)]) (ep := ep + 1) O hee S hS h3 (k_t4 _) rfl (by kernel_rfl) (by simp) (fun _ => ⟨t1, t2, t3, s.toks + 1, ep + 1, u3, u, by kernel_rfl⟩) h
end
end
section
noncomputable def plainRN : Value → Bool
  | .ref _ => true
  | .none => true
  | _ => false
section
variable {n : Nat} {Γ : Cx} {loc loc' loc1 loc2 : Loc} {led led' led1 led2 led3 pre post fp : Led} {s : Shared} {P : Out → Prop} {xs : List Str} {vs : List (Option V)}
theorem is_none {v : Value} (hv : plainRN v = true) : Op2 (compareOp .Is) (.raw v) (.d .none) (.d (.bool (v == Value.none))) := fun n Γ loc led s a b Q E O S ra rb h => by
  cases ra
  rw [rep_none rb]
  cases v <;> first | exact wpAny_is_plain rfl (h _ _ S Le.rfl ⟨_, .bool _⟩) | exact absurd hv Bool.false_ne_true
theorem isNot_none {v : Value} (hv : plainRN v = true) : Op2 (compareOp .IsNot) (.raw v) (.d .none) (.d (.bool (!(v == Value.none)))) := fun n Γ loc led s a b Q E O S ra rb h => by
  cases ra
  rw [rep_none rb]
  cases v <;> first | exact wpAny_isNot_plain rfl (h _ _ S Le.rfl ⟨_, .bool _⟩) | exact absurd hv Bool.false_ne_true
theorem isNot_noneD : Op2 (compareOp .IsNot) (.d .none) (.d .none) (.d (.bool false)) := fun n Γ loc led s a b Q E O S ra rb h => by
  rw [rep_none ra, rep_none rb]
  exact wpAny_isNot_plain rfl (h _ _ S Le.rfl ⟨_, .bool _⟩)
theorem Ev.walrus (O : Ok n Γ) (l : Lay Γ xs) (i : Nat) {x : Str} {p pos : Pos} {e : Expr} {v : V} (h : Ep Γ (mk xs vs) led e v) (hi : autoParam (xs[i]? = some x) aR) : Ev Γ (mk xs vs) led (.NamedExpr (.Name x p) e pos) v (mk xs (vs.set i (some v))) led := fun s Q E S k =>
  wpAny_NamedExpr (h s _ E S fun v' s1 S1 le1 r => wpAny_assign_Name (store' O (l.st (List.mem_of_getElem? hi)) S1 r fun s2 S2 le2 => k v' s2 (S2.weak (put_mk l.nd hi)) (le1.trans le2) (r.keeps le2)))
theorem Ex1G.setTwo (O : Ok n Γ) {ob ke e : Expr} {x : Str} {p sp pos : Pos} {N : Addr} {kk : Str} {R : V → Led → Prop} (h1 : EvG Γ loc led e R) (hx : Sto Γ x)
    (h2 : ∀ v d, R v d → ∃ vv pre post kvs, v = .raw vv ∧ d = pre ++ (N, n2iO Γ.w kvs) :: post ∧ kvs.length ≤ sizeLine ∧ Ep Γ loc d ob (.raw (.ref N)) ∧ Ep Γ loc d ke (.d (.str kk)) ∧ P (.next (put loc x v) (pre ++ (N, n2iO Γ.w (stored kvs kk vv)) :: post)))
    (hsl : (match ke with | .Slice _ _ none _ => false | _ => true) = true)
    (he : autoParam ((assignEach [.Subscript ob ke sp, .Name x p] Γ.env).map (·.2) = [PySem.assign (.Subscript ob ke sp) Γ.env, PySem.assign (.Name x p) Γ.env]) aR)
    (hw : autoParam (swappedStores [.Subscript ob ke sp, .Name x p] e Γ.env = pure none) aR) : Ex1G Γ loc led (.Assign [.Subscript ob ke sp, .Name x p] e pos) P := fun s Q E S h => by
  refine wpAny_Assign_two (h1 s _ E S fun v d v' s1 r S1 le1 r1 => ?_) he hw
  refine aside fun zk => ?_
  obtain ⟨vv, pre, post, kvs, rfl, rfl, hz, e1, e2, e3⟩ := h2 v d r
  cases r1
  apply zk
  rw [assign_Subscript]
  refine wpAny_bind (wpAny_holding (e1 s1 _ E S1 fun ov s2 S2 le2 r2 => wpAny_bind (wpAny_holding (e2 s2 _ E S2 fun iv s3 S3 le3 r3 => wpAny_bind (wpAny_standAt (wpAny_bind (wpAny_holding ?_)))))))
  cases r2
  obtain ⟨t, rfl⟩ := rep_str r3
  exact dset O S3 hz fun s4 S4 le4 => wpAny_release (wpAny_assign_Name (store' O hx S4 (v := .raw v') rfl fun s5 S5 le5 => h _ _ s5 e3 ⟨rfl, S5, le1.trans (le2.trans (le3.trans (le4.trans le5)))⟩))
end
end
section
structure Info where
  row : Str
  a : Addr
  l : Addr
  np : Int
  succ : List Str
noncomputable def Info.led (i : Info) : Led := [(i.a, infoO i.row i.np i.l), (i.l, lstO (i.succ.map .str))]
noncomputable def infosLed (is : List Info) : Led := is.flatMap Info.led
noncomputable def kvsOfI (is : List Info) : List (Str × Value) := is.map fun i => (i.row, Value.ref i.a)
structure Srt where
  S : Addr
  D : Addr
  N : Addr
  is : List Info
  rv : Value
  p : Int
  q : Int
noncomputable def Srt.led (w : World) (σ : Srt) : Led := (σ.S, exactO (instObj 239 σ.D)) :: (σ.D, attrO w σ.N σ.rv σ.p σ.q) :: (σ.N, n2iO w (kvsOfI σ.is)) :: infosLed σ.is
theorem OpC.mono {w : World} {a b : Nat} {f : Addr} {args : List V} {fp : Led} {P P' : V → Led → Prop} (h : OpC w a f args fp P) (hab : a ≤ b) (hP : ∀ v d, P v d → P' v d) : OpC w b f args fp P' := fun Γ loc led s vals R hw O S rs k =>
  h Γ loc led s vals R hw (O.less hab) S rs fun v d v' s' p => k v d v' s' (hP v d p)
theorem info_init (w : World) (x D : Addr) (row : Str) : OpC w 1 138 [.raw (.ref x), .d (.str row)] [(x, iniO D)] (fun v d => v = .d .none ∧ ∃ l, d = [(x, infoO row 0 l), (l, lstO [])]) := by
  refine call_defW (n := 0) ["self", "node"] [] (fun w => by exact rfl) (fun w => by kernel_rfl) (binds_pos (by exact bind2 fun _ _ _ => BindsTo.of_eq rfl)) rfl (by decide) rfl (fun C L => ⟨by decide, by decide, rfl, rfl⟩) fun C L hw O l => ?_
  refine ExG.cons (Ex1.setAttr (led3 := [(x, i1O D row)]) (Ev.nm O l 1) (Ev.nm O l 0) (sa_i1 (pre := []) (post := []) O rfl)) ?_
  refine ExG.cons (Ex1.setAttr (led3 := [(x, i2O D row)]) Ev.int (Ev.nm O l 0) (sa_i2 (pre := []) (post := []) O rfl)) ?_
  refine ExG.seq (Ex1G.setAttr (x := x) (R := fun v d => ∃ l, v = .raw (.ref l) ∧ d = [(l, lstO []), (x, i2O D row)]) (fun s Q E S k => EvN.lst Es.nil AllD.nil (by decide) s Q E S fun a s' S' le => k _ _ _ _ ⟨a, rfl, rfl⟩ S' le rfl) fun v d ⟨lA, e1, e2⟩ => ?_)
  subst e1 e2
  refine ⟨_, (Ev.nm O l 0), sa_i3 (pre := [(lA, lstO [])]) (post := []) O rfl, ?_⟩
  refine ExG.perm (l' := [(x, infoO row 0 lA), (lA, lstO [])]) (ExG.nil ⟨rfl, lA, rfl⟩) (List.Perm.swap _ _ _)
theorem srt_init (w : World) (x D : Addr) : OpC w 1 175 [.raw (.ref x)] [(x, exactO (instObj 239 D)), (D, exactO emptyDict)] (fun v d => v = .d .none ∧ ∃ N, N ≠ 1 ∧ d = Srt.led w ⟨x, D, N, [], .none, 0, 0⟩) := by
  refine call_defW (n := 0) (args' := [.raw (.ref x), .d .none]) ["self", "graph"] ["node", "predecessors"] (fun w => by exact rfl) (fun w => by kernel_rfl) ?_ rfl (by decide) rfl (fun C L => ⟨by decide, by decide, rfl, rfl⟩) fun C L hw O l => ?_
  · intro Γ loc led s vals A Q E X S rs h
    cases rs with
    | cons r q =>
      cases q
      refine BindsTo.of_defaults rfl (X _ _ (by exact rfl)) rfl rfl rfl _ _ _ _ (h s [_, .none] S Le.rfl (fun _ _ e => e) (.cons r (.cons ⟨_, .none⟩ .nil)))
  subst hw
  refine ExG.seq (Ex1G.setAttr (x := x) (EvG.dict0 O) fun v d ⟨N, hN, e1, e2⟩ => ?_)
  subst e1 e2
  refine ⟨_, (Ev.nm O l 0), sa_a1 (pre := [(N, n2iO _ []), (x, exactO (instObj 239 D))]) (post := []) O rfl (.tail _ (.head _)), ?_⟩
  refine ExG.cons (Ex1.setAttr (led3 := [(N, n2iO _ []), (x, exactO (instObj 239 D)), (D, a2O _ N)]) Ev.none (Ev.nm O l 0) (sa_a2 (pre := [(N, n2iO _ []), (x, exactO (instObj 239 D))]) (post := []) O rfl (.tail _ (.head _)))) ?_
  refine ExG.cons (Ex1.setAttr (led3 := [(N, n2iO _ []), (x, exactO (instObj 239 D)), (D, a3O _ N)]) Ev.int (Ev.nm O l 0) (sa_a3 (pre := [(N, n2iO _ []), (x, exactO (instObj 239 D))]) (post := []) O rfl (.tail _ (.head _)))) ?_
  refine ExG.cons (Ex1.setAttr (led3 := [(N, n2iO _ []), (x, exactO (instObj 239 D)), (D, attrO _ N .none 0 0)]) Ev.int (Ev.nm O l 0) (sa_a4 (pre := [(N, n2iO _ []), (x, exactO (instObj 239 D))]) (post := []) O rfl (.tail _ (.head _)))) ?_
  refine ExG.cons (Ex1.ifF (Bt.cmp O (Ev.nm O l 1) Ev.none isNot_noneD) Ex.nil) ?_
  refine ExG.perm (l' := Srt.led C.w ⟨x, D, N, [], .none, 0, 0⟩) (ExG.nil ⟨rfl, N, hN, rfl⟩) ?_
  exact (List.Perm.swap _ _ _).trans ((List.Perm.swap _ _ _).cons _)
end
section
section
variable {n : Nat} {Γ : Cx} {loc loc' loc1 loc2 : Loc} {led led' led1 led2 : Led}
theorem Ev.castV {e : Expr} {v v' : V} (q : v = v') (h : Ev Γ loc led e v loc1 led1) : Ev Γ loc led e v' loc1 led1 := q ▸ h
end
theorem infosLed_app (is js : List Info) : infosLed (is ++ js) = infosLed is ++ infosLed js := by unfold infosLed; rw [List.flatMap_append]
theorem kvs_app (is js : List Info) : kvsOfI (is ++ js) = kvsOfI is ++ kvsOfI js := by unfold kvsOfI; rw [List.map_append]
theorem gni (w : World) (σ : Srt) (row : Str) (hN : σ.N ≠ 1) (hz : σ.is.length ≤ 100) : OpC w 3 182 [.raw (.ref σ.S), .d (.str row)] (σ.led w) (fun v d => match valueAt (kvsOfI σ.is) row with
    | some u => v = .raw u ∧ d = σ.led w
    | none => ∃ a l, v = .raw (.ref a) ∧ d = Srt.led w { σ with is := σ.is ++ [⟨row, a, l, 0, []⟩] }) := by
  refine call_defW (n := 2) ["self", "node"] ["result"] (fun w => by exact rfl) (fun w => by kernel_rfl) (binds_pos (by exact bind2 fun _ _ _ => BindsTo.of_eq rfl)) rfl (by decide) rfl (fun C L => ⟨by decide, by decide, rfl, rfl⟩) fun C L hw O l => ?_
  subst hw
  have hS : (σ.S, exactO (instObj 239 σ.D)) ∈ σ.led C.w := .head _
  have hD : (σ.D, attrO C.w σ.N σ.rv σ.p σ.q) ∈ σ.led C.w := .tail _ (.head _)
  have hNl : (σ.N, n2iO C.w (kvsOfI σ.is)) ∈ σ.led C.w := .tail _ (.tail _ (.head _))
  have kr : ∀ u, valueAt (kvsOfI σ.is) row = some u → ∃ a, u = .ref a := fun u hu => by
    unfold valueAt at hu
    obtain ⟨p, hp, rfl⟩ := Option.map_eq_some_iff.mp hu
    obtain ⟨i, _, rfl⟩ := List.mem_map.mp (List.mem_of_find?_eq_some hp)
    exact ⟨_, rfl⟩
  cases hv : valueAt (kvsOfI σ.is) row with
  | some u =>
    obtain ⟨a, rfl⟩ := kr u hv
    refine ExG.cons (Ex1.ifF (Bt.cmp O (Ev.walrus O l 2 (v := .raw (.ref a)) (Ev.castV (by rw [hv]; rfl) (Ev.dget O (Ev.attr (Ev.nm O l 0) (ga_n2i O hS hD)) hN (Ev.nm O l 1) hNl hNl))) Ev.none (is_none (v := .ref a) rfl)) Ex.nil) ?_
    exact (Ex.retD (Ev.nm O l 2)).toG ⟨rfl, rfl⟩
  | none =>
    refine ExG.seq (Ex1G.ifT (Bt.cmp O (Ev.walrus O l 2 (v := .raw .none) (Ev.castV (by rw [hv]; rfl) (Ev.dget O (Ev.attr (Ev.nm O l 0) (ga_n2i O hS hD)) hN (Ev.nm O l 1) hNl hNl))) Ev.none (is_none (v := .none) rfl)) ?_)
    refine ExG.seq (Ex1G.setTwo (N := σ.N) (kk := row) O (EvG.make (n := 1) (C := 142) O (fun x D => [(x, iniO D)]) (R := fun x d => ∃ l, d = [(x, infoO row 0 l), (l, lstO [])]) (nm_NodeInfo O rfl) (kp_NodeInfo _) (Es.cons (Ev.nm O l 1) Es.nil) (i_mk _) (i_in _) (i_if _) (fun x D => info_init _ x D row) ini_inf) (l.st (by simp)) (fun v d ⟨x, d', e1, ⟨lA, e2⟩, e3⟩ => ?_) rfl)
    subst e1 e2 e3
    refine ⟨.ref x, [(x, infoO row 0 lA), (lA, lstO []), (σ.S, exactO (instObj 239 σ.D)), (σ.D, attrO C.w σ.N σ.rv σ.p σ.q)], infosLed σ.is, kvsOfI σ.is, rfl, rfl, by unfold kvsOfI; rw [List.length_map, big]; lia, Ev.attr (Ev.nm O l 0) (ga_n2i O (.tail _ (.tail _ hS)) (.tail _ (.tail _ hD))), (Ev.nm O l 1), ?_⟩
    refine ExG.nil ?_
    refine ExG.weak (loc' := mk ["self", "node", "result"] [some (.raw (.ref σ.S)), some (.d (.str row)), some (.raw (.ref x))]) ?_ (put_mk (vs := [some (.raw (.ref σ.S)), some (.d (.str row)), some (.raw .none)]) (i := 2) (v := .raw (.ref x)) l.nd rfl)
    refine ExG.perm (l' := Srt.led C.w { σ with is := σ.is ++ [⟨row, x, lA, 0, []⟩] }) ?_ ?_
    · exact (Ex.retD (Ev.nm O l 2)).toG ⟨x, lA, rfl, rfl⟩
    · show List.Perm ([(x, infoO row 0 lA), (lA, lstO [])] ++ ((σ.S, exactO (instObj 239 σ.D)) :: (σ.D, attrO C.w σ.N σ.rv σ.p σ.q) :: (σ.N, n2iO C.w (stored (kvsOfI σ.is) row (.ref x))) :: infosLed σ.is)) _
      rw [stored_absent hv]
      show List.Perm _ ((σ.S, exactO (instObj 239 σ.D)) :: (σ.D, attrO C.w σ.N σ.rv σ.p σ.q) :: (σ.N, n2iO C.w (kvsOfI (σ.is ++ [⟨row, x, lA, 0, []⟩]))) :: infosLed (σ.is ++ [⟨row, x, lA, 0, []⟩]))
      rw [kvs_app, infosLed_app]
      exact List.perm_append_comm
end
section
theorem EvG.methF0 {n : Nat} {Γ : Cx} {loc : Loc} {led fp : Led} (O : Ok n Γ) {ob : Expr} {name : Str} {apos pos : Pos} {as : List Expr} {x D N f : Addr} {rv : Value} {p q : Int} {us : List V} {R : V → Led → Prop} (h1 : Ev Γ loc led ob (.raw (.ref x)) loc fp) (hS : (x, exactO (instObj 239 D)) ∈ fp) (hD : (D, attrO Γ.w N rv p q) ∈ fp)
    (hf : findIn (KF Γ.w) (.ref 239) name = some (some (.ref f))) (ht : typeIn (KF Γ.w) (.ref f) = some (.type "function")) (hsh : ∀ t1 t2 t3 t4 ep a b c d, shadowIn (some (attrObj Γ.w t1 t2 t3 t4 ep a b c d)) name = some false) (hk : Keep Γ.w (.ref f))
    (ha : Es Γ loc fp as us loc fp) (ho : OpW Γ.w n (fun vals => PySem.call (.ref f) vals) (.raw (.ref x) :: us) fp R) (hp : autoParam (∀ pos, (backTo pos (starEach as Γ.env)).any (·.1) = false) aI)
    {pl : Sem Bool} (he : autoParam (eval (.Call (.Attribute ob name apos) as [] pos) Γ.env = (do let ov ← eval ob Γ.env; standAt apos.atName; let (f, first) ← holding [ov] (getMethod ov name pl); callWith pos f first (backTo pos (starEach as Γ.env)) (backToKw pos (keywordEach [] Γ.env)))) aR) :
    EvG Γ loc led (.Call (.Attribute ob name apos) as [] pos) R :=
  (EvG.methF (led2 := []) O h1 hS hD hf ht hsh hk (by rw [List.append_nil]; exact ha) ho hp he).mono fun v d ⟨fp', r, e⟩ => by rw [e, List.append_nil]; exact r
noncomputable def rowsOf (is : List Info) : List Str := is.map (·.row)
noncomputable def onRow (is : List Info) (row : Str) (f : Info → Info) : List Info := is.map fun i => if i.row = row then f i else i
theorem onRow_split {is1 is2 : List Info} {i : Info} {f : Info → Info} (hn : (rowsOf (is1 ++ i :: is2)).Nodup) : onRow (is1 ++ i :: is2) i.row f = is1 ++ f i :: is2 := by
  refine aside fun zk => ?_
  unfold rowsOf at hn
  rw [List.map_append, List.map_cons, List.nodup_append] at hn
  obtain ⟨_, h2, h3⟩ := hn
  apply zk
  have h2 := (List.nodup_cons.mp h2).1
  unfold onRow
  rw [List.map_append, List.map_cons, if_pos rfl]
  congr 1
  · refine (List.map_congr_left fun x hx => ?_).trans (List.map_id _)
    rw [if_neg (fun q => h3 _ (List.mem_map_of_mem hx) _ (.head _) q)]; rfl
  · congr 1
    refine (List.map_congr_left fun x hx => ?_).trans (List.map_id _)
    rw [if_neg (fun q => h2 (by rw [← q]; exact List.mem_map_of_mem (f := fun i : Info => i.row) hx))]; rfl
theorem onRow_rows (is : List Info) (row : Str) (f : Info → Info) (hf : ∀ i, (f i).row = i.row) : rowsOf (onRow is row f) = rowsOf is := by
  unfold rowsOf onRow
  rw [List.map_map]
  refine List.map_congr_left fun i _ => ?_
  show (if i.row = row then f i else i).row = i.row
  split
  · exact hf i
  · rfl
theorem onRow_kvs (is : List Info) (row : Str) (f : Info → Info) (hf : ∀ i, (f i).row = i.row ∧ (f i).a = i.a) : kvsOfI (onRow is row f) = kvsOfI is := by
  unfold kvsOfI onRow
  rw [List.map_map]
  refine List.map_congr_left fun i _ => ?_
  show ((if i.row = row then f i else i).row, Value.ref (if i.row = row then f i else i).a) = (i.row, Value.ref i.a)
  split
  · rw [(hf i).1, (hf i).2]
  · rfl
theorem row_split {is : List Info} {row : Str} (h : row ∈ rowsOf is) : ∃ is1 i is2, is = is1 ++ i :: is2 ∧ i.row = row := by
  refine aside fun zk => ?_
  obtain ⟨i, hi, e⟩ := List.mem_map.mp h
  obtain ⟨a, b, e2⟩ := List.append_of_mem hi
  apply zk
  exact ⟨a, i, b, e2, e⟩
theorem kvs_get {is1 is2 : List Info} {i : Info} (hn : (rowsOf (is1 ++ i :: is2)).Nodup) : valueAt (kvsOfI (is1 ++ i :: is2)) i.row = some (.ref i.a) :=
  valueAt_of_get (i := is1.length) (by unfold kvsOfI; rw [List.map_map]; exact hn) (by unfold kvsOfI; rw [List.map_append, List.getElem?_append_right (by simp)]; simp)
theorem kvs_none {is : List Info} {row : Str} (h : row ∉ rowsOf is) : valueAt (kvsOfI is) row = none := valueAt_none_of_not_mem (by unfold kvsOfI; rw [List.map_map]; exact h)
noncomputable def bump (k : Int) (i : Info) : Info := { i with np := i.np + k }
noncomputable def grow (x : Str) (i : Info) : Info := { i with succ := i.succ ++ [x] }
theorem led_split (w : World) (σ : Srt) {is1 is2 : List Info} {i : Info} (h : σ.is = is1 ++ i :: is2) : σ.led w = ((σ.S, exactO (instObj 239 σ.D)) :: (σ.D, attrO w σ.N σ.rv σ.p σ.q) :: (σ.N, n2iO w (kvsOfI (is1 ++ i :: is2))) :: infosLed is1) ++ (i.a, infoO i.row i.np i.l) :: (i.l, lstO (i.succ.map .str)) :: infosLed is2 := by
  unfold Srt.led
  rw [h, infosLed_app]
  rfl
theorem add_new (w : World) (σ : Srt) (row : Str) (hN : σ.N ≠ 1) (hz : σ.is.length < 100) (hr : σ.rv = .none) (hrow : row ∉ rowsOf σ.is) : OpC w 4 189 [.raw (.ref σ.S), .d (.str row)] (σ.led w) (fun v d => v = .d .none ∧ ∃ a l, d = Srt.led w { σ with is := σ.is ++ [⟨row, a, l, 0, []⟩] }) := by
  refine call_defW (n := 3) (args' := [.raw (.ref σ.S), .d (.str row), .d (.tuple [])]) ["self", "node", "predecessors"] ["nodeinfo", "pred", "pred_info"] (fun w => by exact rfl) (fun w => by kernel_rfl) (binds_star2 (ds := []) (by decide) fun v w vals => by cases vals <;> kernel_rfl) rfl (by decide) rfl (fun C L => ⟨by decide, by decide, rfl, rfl⟩) fun C L hw O l => ?_
  subst hw
  have hS : (σ.S, exactO (instObj 239 σ.D)) ∈ σ.led C.w := .head _
  have hD : (σ.D, attrO C.w σ.N σ.rv σ.p σ.q) ∈ σ.led C.w := .tail _ (.head _)
  refine ExG.cons (Ex1.ifF (Bt.cmp O (Ev.attr (Ev.nm O l 0) (ga_rdy O (by rw [hr]; rfl) hS hD)) Ev.none (by rw [hr]; exact isNot_none (v := .none) rfl)) Ex.nil) ?_
  refine ExG.letG O l 3 (EvG.methF0 O (Ev.nm O l 0) hS hD (k_m182 _) (k_f182 _) (fun _ _ _ _ _ _ _ _ _ => by kernel_rfl) (kp182 _) (Es.cons (Ev.nm O l 1) Es.nil) (gni C.w σ row hN (by lia)).toW) fun v d hd => ?_
  rw [kvs_none hrow] at hd
  obtain ⟨a, lA, rfl, rfl⟩ := hd
  have e1 := led_split C.w { σ with is := σ.is ++ [⟨row, a, lA, 0, []⟩] } (is1 := σ.is) (i := ⟨row, a, lA, 0, []⟩) (is2 := []) rfl
  rw [e1]
  refine ExG.cons (Ex1.augAttr (op := .Add) (a := 0) (b := 0) (c := 0) (Ev.nm O l 3) (ga_np O (List.mem_append_right _ (.head _))) (Ev.callP O (nm_b_len O rfl) keep_blt (Es.cons (Ev.nm O l 2) Es.nil) (len_t (xs := []) (by decide))) (.inl ⟨rfl, rfl⟩) (sa_np O rfl)) ?_
  rw [← e1]
  refine ExG.seq (Ex1G.for_ O [] (Ev.nm O l 2) (src_tuple (xs := [])).toP (fun _ loc led => loc = mk ["self", "node", "predecessors", "nodeinfo", "pred", "pred_info"] [some (.raw (.ref σ.S)), some (.d (.str row)), some (.d (.tuple [])), some (.raw (.ref a)), none, none] ∧ led = Srt.led C.w { σ with is := σ.is ++ [⟨row, a, lA, 0, []⟩] }) ⟨rfl, rfl⟩ (fun _ _ _ _ _ h => nomatch h) (fun k y loc led hy => by simp at hy) fun loc led hK => ?_)
  obtain ⟨rfl, rfl⟩ := hK
  exact ExG.nil (ExG.nil ⟨rfl, a, lA, rfl⟩)
end
section
theorem add_edge (w : World) (σ : Srt) (ra rb : Str) (hN : σ.N ≠ 1) (hz : σ.is.length ≤ 100) (hs : ∀ i ∈ σ.is, i.succ.length ≤ 100) (hr : σ.rv = .none) (hn : (rowsOf σ.is).Nodup) (ha : ra ∈ rowsOf σ.is) (hb : rb ∈ rowsOf σ.is) : OpC w 4 189 [.raw (.ref σ.S), .d (.str ra), .d (.str rb)] (σ.led w)
    (fun v d => v = .d .none ∧ d = Srt.led w { σ with is := onRow (onRow σ.is ra (bump 1)) rb (grow ra) }) := by
  refine call_defW (n := 3) (args' := [.raw (.ref σ.S), .d (.str ra), .d (.tuple [.str rb])]) ["self", "node", "predecessors"] ["nodeinfo", "pred", "pred_info"] (fun w => by exact rfl) (fun w => by kernel_rfl) (binds_star2 (ds := [.str rb]) (by rw [big]; simp) fun v w vals => by cases vals <;> kernel_rfl) rfl (by decide) rfl (fun C L => ⟨by decide, by decide, rfl, rfl⟩) fun C L hw O l => ?_
  subst hw
  have hS : (σ.S, exactO (instObj 239 σ.D)) ∈ σ.led C.w := .head _
  have hD : (σ.D, attrO C.w σ.N σ.rv σ.p σ.q) ∈ σ.led C.w := .tail _ (.head _)
  obtain ⟨is1, i, is2, e1, rfl⟩ := row_split ha
  have hv := kvs_get (e1 ▸ hn)
  rw [← e1] at hv
  refine ExG.cons (Ex1.ifF (Bt.cmp O (Ev.attr (Ev.nm O l 0) (ga_rdy O (by rw [hr]; rfl) hS hD)) Ev.none (by rw [hr]; exact isNot_none (v := .none) rfl)) Ex.nil) ?_
  refine ExG.letG O l 3 (EvG.methF0 O (Ev.nm O l 0) hS hD (k_m182 _) (k_f182 _) (fun _ _ _ _ _ _ _ _ _ => by kernel_rfl) (kp182 _) (Es.cons (Ev.nm O l 1) Es.nil) (gni C.w σ i.row hN hz).toW) fun v d hd => ?_
  rw [hv] at hd
  obtain ⟨rfl, rfl⟩ := hd
  have e2 := led_split C.w σ e1
  have o1 : onRow σ.is i.row (bump 1) = is1 ++ bump 1 i :: is2 := by rw [e1]; exact onRow_split (e1 ▸ hn)
  generalize hσ1 : ({ σ with is := onRow σ.is i.row (bump 1) } : Srt) = σ1
  refine aside fun zk => ?_
  have f1 : σ1.is = is1 ++ bump 1 i :: is2 := by rw [← hσ1]; exact o1
  have e3 := led_split C.w σ1 f1
  have n1 : (rowsOf σ1.is).Nodup := by rw [← hσ1]; show (rowsOf (onRow σ.is i.row (bump 1))).Nodup; rw [onRow_rows σ.is i.row (bump 1) fun _ => rfl]; exact hn
  have b1 : rb ∈ rowsOf σ1.is := by rw [← hσ1]; show rb ∈ rowsOf (onRow σ.is i.row (bump 1)); rw [onRow_rows σ.is i.row (bump 1) fun _ => rfl]; exact hb
  have s1 : ∀ j ∈ σ1.is, j.succ.length ≤ 100 := fun j hj => by
    rw [f1] at hj
    rcases List.mem_append.mp hj with h | h
    · exact hs j (by rw [e1]; exact List.mem_append_left _ h)
    · rcases List.mem_cons.mp h with rfl | h
      · exact hs i (by rw [e1]; simp)
      · exact hs j (by rw [e1]; exact List.mem_append_right _ (.tail _ h))
  have z1 : σ1.is.length ≤ 100 := by rw [← hσ1]; show (onRow σ.is i.row (bump 1)).length ≤ 100; unfold onRow; rw [List.length_map]; exact hz
  have q1 : σ1.S = σ.S ∧ σ1.D = σ.D ∧ σ1.N = σ.N ∧ σ1.rv = σ.rv ∧ σ1.p = σ.p ∧ σ1.q = σ.q := by rw [← hσ1]; exact ⟨rfl, rfl, rfl, rfl, rfl, rfl⟩
  obtain ⟨qS, qD, qN, qr, qp, qq⟩ := q1
  apply zk
  rw [e2]
  refine ExG.cons (Ex1.augAttr (op := .Add) (a := i.np) (b := 1) (c := i.np + 1) (Ev.nm O l 3) (ga_np O (List.mem_append_right _ (.head _))) (Ev.callP O (nm_b_len O rfl) keep_blt (Es.cons (Ev.nm O l 2) Es.nil) (len_t (xs := [.str rb]) (by rw [big]; simp))) (.inl ⟨rfl, rfl⟩) (sa_np O rfl)) ?_
  refine aside fun zk => ?_
  have e4 : ((σ.S, exactO (instObj 239 σ.D)) :: (σ.D, attrO C.w σ.N σ.rv σ.p σ.q) :: (σ.N, n2iO C.w (kvsOfI (is1 ++ i :: is2))) :: infosLed is1) ++ (i.a, infoO i.row (i.np + 1) i.l) :: (i.l, lstO (i.succ.map .str)) :: infosLed is2 = σ1.led C.w := by
    rw [e3, qS, qD, qN, qr, qp, qq, kvs_app, kvs_app]
    rfl
  have hS1 : (σ.S, exactO (instObj 239 σ.D)) ∈ σ1.led C.w := by rw [← qS, ← qD]; exact .head _
  have hD1 : (σ.D, attrO C.w σ.N σ.rv σ.p σ.q) ∈ σ1.led C.w := by rw [← qD, ← qN, ← qr, ← qp, ← qq]; exact .tail _ (.head _)
  obtain ⟨js1, j, js2, g1, rfl⟩ := row_split b1
  apply zk
  have hv1 := kvs_get (g1 ▸ n1)
  rw [← g1] at hv1
  have e5 := led_split C.w σ1 g1
  generalize hσ2 : ({ σ with is := onRow (onRow σ.is i.row (bump 1)) j.row (grow i.row) } : Srt) = σ2
  have f2 : σ2.is = js1 ++ grow i.row j :: js2 := by rw [← hσ2]; show onRow (onRow σ.is i.row (bump 1)) j.row (grow i.row) = _; rw [show onRow σ.is i.row (bump 1) = σ1.is from by rw [← hσ1], g1]; exact onRow_split (g1 ▸ n1)
  have e6 := led_split C.w σ2 f2
  have gn := (gni C.w σ1 j.row (by rw [qN]; exact hN) z1).toW
  rw [qS] at gn
  rw [e4]
  refine ExG.seq (Ex1G.for_ O [] (Ev.nm O l 2) (src_tuple (xs := [.str j.row])).toP (fun k loc led => (k = 0 ∧ loc = mk ["self", "node", "predecessors", "nodeinfo", "pred", "pred_info"] [some (.raw (.ref σ.S)), some (.d (.str i.row)), some (.d (.tuple [.str j.row])), some (.raw (.ref i.a)), none, none] ∧ led = σ1.led C.w) ∨ (k = 1 ∧ led = σ2.led C.w)) (.inl ⟨rfl, rfl, rfl⟩) (fun _ _ _ _ _ h => nomatch h) (fun k y loc led hy hK => ?_) fun loc led hK => ?_)
  · rcases hK with ⟨rfl, rfl, rfl⟩ | ⟨rfl, _⟩
    · cases hy
      refine ⟨_, As.nm O l 4, ?_⟩
      refine ExG.letG O l 5 (EvG.methF0 O (Ev.nm O l 0) hS1 hD1 (k_m182 _) (k_f182 _) (fun _ _ _ _ _ _ _ _ _ => by kernel_rfl) (kp182 _) (Es.cons (Ev.nm O l 4) Es.nil) gn) fun v d hd => ?_
      rw [hv1] at hd
      obtain ⟨rfl, rfl⟩ := hd
      have hz1 : (j.succ.map PyData.str).length ≤ sizeLine := by rw [List.length_map, big]; have := s1 j (by rw [g1]; simp); lia
      rw [e5]
      have hI : (j.a, infoO j.row j.np j.l) ∈ (j.l, lstO (j.succ.map .str)) :: (((σ1.S, exactO (instObj 239 σ1.D)) :: (σ1.D, attrO C.w σ1.N σ1.rv σ1.p σ1.q) :: (σ1.N, n2iO C.w (kvsOfI (js1 ++ j :: js2))) :: infosLed js1) ++ (j.a, infoO j.row j.np j.l) :: infosLed js2) := .tail _ (List.mem_append_right _ (.head _))
      refine ExG.perm (l' := (j.l, lstO (j.succ.map .str)) :: (((σ1.S, exactO (instObj 239 σ1.D)) :: (σ1.D, attrO C.w σ1.N σ1.rv σ1.p σ1.q) :: (σ1.N, n2iO C.w (kvsOfI (js1 ++ j :: js2))) :: infosLed js1) ++ (j.a, infoO j.row j.np j.l) :: infosLed js2)) ?_ ?_
      · refine ExG.cons (Ex1.expr (v := .d .none) (led1 := (j.l, lstO (j.succ.map .str ++ [.str i.row])) :: (((σ1.S, exactO (instObj 239 σ1.D)) :: (σ1.D, attrO C.w σ1.N σ1.rv σ1.p σ1.q) :: (σ1.N, n2iO C.w (kvsOfI (js1 ++ j :: js2))) :: infosLed js1) ++ (j.a, infoO j.row j.np j.l) :: infosLed js2)) (Ev.meth (fp := [(j.l, lstO (j.succ.map .str))]) (fp' := [(j.l, lstO (j.succ.map .str ++ [.str i.row]))]) (led2 := ((σ1.S, exactO (instObj 239 σ1.D)) :: (σ1.D, attrO C.w σ1.N σ1.rv σ1.p σ1.q) :: (σ1.N, n2iO C.w (kvsOfI (js1 ++ j :: js2))) :: infosLed js1) ++ (j.a, infoO j.row j.np j.l) :: infosLed js2) O (Ev.attr (Ev.nm O l 5) (ga_succ O hI)) (gm_lst (ds := j.succ.map .str) slot_list_append type_list_append PySem.F.plainAttrs_list (.head _)) (Es.cons (Ev.nm O l 1) Es.nil) (append_op hz1)) rfl rfl) ?_
        refine ExG.perm (l' := σ2.led C.w) (ExG.nil (.inr ⟨rfl, rfl⟩)) ?_
        rw [e6]
        refine aside fun zk => ?_
        have q2 : σ2.S = σ1.S ∧ σ2.D = σ1.D ∧ σ2.N = σ1.N ∧ σ2.rv = σ1.rv ∧ σ2.p = σ1.p ∧ σ2.q = σ1.q := by rw [← hσ2, ← hσ1]; exact ⟨rfl, rfl, rfl, rfl, rfl, rfl⟩
        obtain ⟨r1, r2, r3, r4, r5, r6⟩ := q2
        apply zk
        rw [r1, r2, r3, r4, r5, r6]
        have kk : kvsOfI (js1 ++ grow i.row j :: js2) = kvsOfI (js1 ++ j :: js2) := by rw [kvs_app, kvs_app]; rfl
        rw [kk]
        show List.Perm _ (_ ++ (j.a, infoO j.row j.np j.l) :: (j.l, lstO ((j.succ ++ [i.row]).map .str)) :: infosLed js2)
        rw [List.map_append]
        exact List.perm_middle.symm.trans ((List.Perm.swap _ _ _).append_left _)
      · exact ((List.Perm.swap _ _ _).append_left _).trans List.perm_middle
    · cases hy
  · rcases hK with ⟨h0, _⟩ | ⟨_, rfl⟩
    · cases h0
    · exact ExG.nil (ExG.nil ⟨rfl, by rw [← hσ2]⟩)
end
section
theorem meets_bool_lst (l : Addr) (items : Array Value) (hfit : (items.size : Int) < 2 ^ 63) : Meets (Builtin.«bool.__new__» ⟨[.type "bool", .ref l], []⟩) (fun _ R s => s.heap.IsList l items ∧ R (.ok (.ret (.bool (!items.isEmpty)))) { s with toks := s.toks + 1 + 1 }) :=
  Meets.of_wp fun prog w A R s hs => by
    obtain ⟨hp, g, d, tk, os⟩ := s
    obtain ⟨hl, hs⟩ := hs
    have f1 := F.conv_sub_bool
    repeat (any_goals (first | assumption | (with_reducible refine wpAny_truthy_list hl hfit ?_) | wp_step))
    all_goals first | exact ⟨_, rfl, hs⟩ | exact hs | skip
section
variable {n : Nat} {Γ : Cx} {loc loc' loc1 loc2 : Loc} {led led' led1 led2 pre post fp : Led} {s : Shared}
theorem bool_lst {R : Addr} {ds : List PyData} (hz : ds.length ≤ sizeLine) : OpN n (fun vals => PySem.call (.type "bool") vals) [.raw (.ref R)] [(R, lstO ds)] (.d (.bool (!ds.isEmpty))) [(R, lstO ds)] := fun Γ loc led s vals Q E O S rs h => by
  cases rs with
  | cons r1 q => cases q with
    | nil =>
      cases r1
      obtain ⟨h1, h2, o, h3, vals, k, as, rfl, r⟩ := S.ld _ (.head _)
      have e := readsAll_length r
      have e' : vals.size = ds.length := by rw [← Array.length_toList, e]
      refine call_bool_1 (meets_bool_lst R vals (by rw [big] at hz; lia)) ⟨⟨_, h3, rfl, k, rfl⟩, ⟨rfl, h _ _ (S.toks _) Le.rfl ?_⟩⟩
      have : vals.isEmpty = ds.isEmpty := by
        cases ds with
        | nil => simp at e'; subst e'; rfl
        | cons x r => cases q : vals.isEmpty with
          | false => rfl
          | true => simp at q; rw [q] at e'; simp at e'
      rw [this]; exact of_bool
theorem clear_op {R : Addr} {ds : List PyData} (hz : ds.length ≤ sizeLine) : OpN n (fun vals => PySem.call (.builtin "list.clear") vals) [.raw (.ref R)] [(R, lstO ds)] (.d .none) [(R, lstO [])] := fun Γ loc led s vals Q E O S rs h => by
  cases rs with
  | cons r1 q => cases q with
    | nil =>
      cases r1
      obtain ⟨h1, h2, o, h3, vals, k, as, rfl, r⟩ := S.ld _ (.head _)
      have e := readsAll_length r
      have e' : vals.size = ds.length := by rw [← Array.length_toList, e]
      refine call_meets PySem.F.slot_list_clear ⟨_, h3, rfl⟩ PySem.F.entry_list_clear (PySem.F.args_list_clear_1 _) (PySem.AutoSeq1.list_clear_list_0 R _ k (by lia)) ⟨h3, ?_⟩
      have g := IsL.update (n := k) h3 (fun _ => (#[] : Array Value))
      obtain ⟨S4, le4⟩ := S.setLed (pre := []) (x' := lstO []) (t := s.toks) O (Heap.SameBut.update ..) g fun v kk => ⟨_, _, [], rfl, .nil⟩
      exact h _ _ S4 le4 of_none
theorem Ev.orF (O : Ok n Γ) {e₁ e₂ : Expr} {pos : Pos} {v : V} (h1 : Ev Γ loc led e₁ (.d (.bool false)) loc1 led1) (h2 : Ev Γ loc1 led1 e₂ v loc2 led2) : Ev Γ loc led (.BoolOp .Or [e₁, e₂] pos) v loc2 led2 := fun s Q E S h =>
  BoolOp_or (h1 s _ E S fun a s1 S1 le1 ra => by
    rw [rep_bool ra]
    exact wpAny_truthy_bool (by rw [if_neg (by decide)]; exact BoolOp_one (h2 s1 Q E S1 fun v' s2 S2 le2 r => h v' s2 S2 (le1.trans le2) r)))
end
end
section
noncomputable def Srt.ledR (w : World) (σ : Srt) (R : Addr) (rdy : List Str) : Led := (R, lstO (rdy.map .str)) :: σ.led w
noncomputable def setNp (k : Int) (i : Info) : Info := { i with np := k }
theorem led_on (w : World) (σ : Srt) {is1 is2 : List Info} {i : Info} {f : Info → Info} (h : σ.is = is1 ++ i :: is2) (hn : (rowsOf σ.is).Nodup) (hf : (f i).row = i.row ∧ (f i).a = i.a ∧ (f i).l = i.l ∧ (f i).succ = i.succ) :
    Srt.led w { σ with is := onRow σ.is i.row f } = ((σ.S, exactO (instObj 239 σ.D)) :: (σ.D, attrO w σ.N σ.rv σ.p σ.q) :: (σ.N, n2iO w (kvsOfI (is1 ++ i :: is2))) :: infosLed is1) ++ (i.a, infoO i.row (f i).np i.l) :: (i.l, lstO (i.succ.map .str)) :: infosLed is2 := by
  have o : onRow σ.is i.row f = is1 ++ f i :: is2 := by rw [h]; exact onRow_split (h ▸ hn)
  have := led_split w { σ with is := onRow σ.is i.row f } (is1 := is1) (i := f i) (is2 := is2) o
  rw [this]
  have kk : kvsOfI (is1 ++ f i :: is2) = kvsOfI (is1 ++ i :: is2) := by
    rw [kvs_app, kvs_app]
    show _ ++ ((f i).row, Value.ref (f i).a) :: _ = _ ++ (i.row, Value.ref i.a) :: _
    rw [hf.1, hf.2.1]
  rw [kk, hf.1, hf.2.1, hf.2.2.1, hf.2.2.2]
theorem is_active_op (w : World) (σ : Srt) (R : Addr) (rdy : List Str) (hr : σ.rv = .ref R) (hpq : σ.q = σ.p) (hz : rdy.length ≤ 100) : OpC w 1 208 [.raw (.ref σ.S)] (σ.ledR w R rdy) (fun v d => v = .d (.bool (!rdy.isEmpty)) ∧ d = σ.ledR w R rdy) := by
  refine call_defW (n := 0) ["self"] [] (fun w => by exact rfl) (fun w => by kernel_rfl) (binds_pos (by exact bind1 fun _ _ => BindsTo.of_eq rfl)) rfl (by decide) rfl (fun C L => ⟨by decide, by decide, rfl, rfl⟩) fun C L hw O l => ?_
  subst hw
  have hS : (σ.S, exactO (instObj 239 σ.D)) ∈ σ.ledR C.w R rdy := .tail _ (.head _)
  have hD : (σ.D, attrO C.w σ.N σ.rv σ.p σ.q) ∈ σ.ledR C.w R rdy := .tail _ (.tail _ (.head _))
  have hz' : (rdy.map PyData.str).length ≤ sizeLine := by rw [List.length_map, big]; lia
  refine ExG.cons (Ex1.ifF (Bt.cmp O (Ev.attr (Ev.nm O l 0) (ga_rdy O (by rw [hr]; rfl) hS hD)) Ev.none (by rw [hr]; exact is_none (v := .ref R) rfl)) Ex.nil) ?_
  have eb : (!(rdy.map PyData.str).isEmpty) = !rdy.isEmpty := by cases rdy <;> rfl
  refine (Ex.retD (v := .d (.bool (!rdy.isEmpty))) (Ev.orF O (Ev.castB (b := false) (by rw [hpq]; simp) (Ev.cmp O (Ev.attr (Ev.nm O l 0) (ga_nfi O hS hD)) (Ev.attr (Ev.nm O l 0) (ga_npo O hS hD)) lt_ii)) (eb ▸ Ev.call (fp := [(R, lstO (rdy.map .str))]) (fp' := [(R, lstO (rdy.map .str))]) (led2 := σ.led C.w) O (nm_b_bool O rfl) keep_type (Es.cons (Ev.castV (by rw [hr]) (Ev.attr (Ev.nm O l 0) (ga_rdy O (by rw [hr]; rfl) hS hD))) Es.nil) (bool_lst hz')))).toG ⟨rfl, rfl⟩
noncomputable def markAll (k : Int) (rdy : List Str) (is : List Info) : List Info := rdy.foldl (fun is r => onRow is r (setNp k)) is
theorem markAll_rows (k : Int) (rdy : List Str) : ∀ is : List Info, rowsOf (markAll k rdy is) = rowsOf is := by
  induction rdy with
  | nil => intro is; rfl
  | cons r rdy ih => intro is; show rowsOf (markAll k rdy (onRow is r (setNp k))) = _; rw [ih, onRow_rows is r (setNp k) fun _ => rfl]
theorem markAll_snoc (k : Int) (rdy : List Str) (r : Str) (is : List Info) : markAll k (rdy ++ [r]) is = onRow (markAll k rdy is) r (setNp k) := by unfold markAll; rw [List.foldl_append]; rfl
theorem get_ready_op (w : World) (σ : Srt) (R : Addr) (rdy : List Str) (hN : σ.N ≠ 1) (hr : σ.rv = .ref R) (hz : rdy.length ≤ 100) (hn : (rowsOf σ.is).Nodup) (hm : ∀ r ∈ rdy, r ∈ rowsOf σ.is) : OpC w 1 201 [.raw (.ref σ.S)] (σ.ledR w R rdy)
    (fun v d => v = .d (.tuple (rdy.map .str)) ∧ d = Srt.ledR w { σ with is := markAll (-1) rdy σ.is, p := σ.p + rdy.length } R []) := by
  refine call_defW (n := 0) ["self"] ["result", "n2i", "node"] (fun w => by exact rfl) (fun w => by kernel_rfl) (binds_pos (by exact bind1 fun _ _ => BindsTo.of_eq rfl)) rfl (by decide) rfl (fun C L => ⟨by decide, by decide, rfl, rfl⟩) fun C L hw O l => ?_
  subst hw
  have hS : ∀ τ : Srt, τ.S = σ.S → τ.D = σ.D → (σ.S, exactO (instObj 239 σ.D)) ∈ τ.ledR C.w R rdy := fun τ h1 h2 => by rw [← h1, ← h2]; exact .tail _ (.head _)
  have hD : (σ.D, attrO C.w σ.N σ.rv σ.p σ.q) ∈ σ.ledR C.w R rdy := .tail _ (.tail _ (.head _))
  have hz' : (rdy.map PyData.str).length ≤ sizeLine := by rw [List.length_map, big]; lia
  refine ExG.cons (Ex1.ifF (Bt.cmp O (Ev.attr (Ev.nm O l 0) (ga_rdy O (by rw [hr]; rfl) (hS σ rfl rfl) hD)) Ev.none (by rw [hr]; exact is_none (v := .ref R) rfl)) Ex.nil) ?_
  refine ExG.let_ O l 1 (led' := σ.ledR C.w R rdy) (Ev.call (fp := [(R, lstO (rdy.map .str))]) (fp' := [(R, lstO (rdy.map .str))]) (led2 := σ.led C.w) O (nm_b_tuple O rfl) keep_type (Es.cons (Ev.castV (by rw [hr]) (Ev.attr (Ev.nm O l 0) (ga_rdy O (by rw [hr]; rfl) (hS σ rfl rfl) hD))) Es.nil) (tupleO_op hz')) ?_
  refine ExG.let_ O l 2 (Ev.attr (Ev.nm O l 0) (ga_n2i O (hS σ rfl rfl) hD)) ?_
  refine ExG.seq (Ex1G.for_ O [] (Ev.nm O l 1) src_strsT.toP (fun k loc led => (∃ u, loc = mk ["self", "result", "n2i", "node"] [some (.raw (.ref σ.S)), some (.d (.tuple (rdy.map .str))), some (.raw (.ref σ.N)), u]) ∧ led = Srt.ledR C.w { σ with is := markAll (-1) (rdy.take k) σ.is } R rdy) ⟨⟨none, rfl⟩, rfl⟩ (fun _ _ _ _ _ h => nomatch h) (fun k y loc led hy hK => ?_) fun loc led hK => ?_)
  · refine aside fun zk => ?_
    obtain ⟨⟨u, rfl⟩, rfl⟩ := hK
    rw [List.getElem?_map] at hy
    obtain ⟨r, hr', rfl⟩ := Option.map_eq_some_iff.mp hy
    have hrm := hm r (List.mem_of_getElem? hr')
    have hn' : (rowsOf (markAll (-1) (rdy.take k) σ.is)).Nodup := by rw [markAll_rows]; exact hn
    obtain ⟨is1, i, is2, e1, rfl⟩ := row_split (is := markAll (-1) (rdy.take k) σ.is) (by rw [markAll_rows]; exact hrm)
    apply zk
    have e2 := led_split C.w { σ with is := markAll (-1) (rdy.take k) σ.is } e1
    have e3 := led_on C.w { σ with is := markAll (-1) (rdy.take k) σ.is } (f := setNp (-1)) e1 hn' ⟨rfl, rfl, rfl, rfl⟩
    have hv := kvs_get (e1 ▸ hn')
    refine ⟨_, As.nm O l 3, ?_⟩
    unfold Srt.ledR
    rw [e2]
    refine ExG.cons (Ex1.setAttr (x := i.a) (nm_NODE_OUT O rfl) (Ev.dsub O (Ev.nm O l 2) (Ev.nm O l 3) (kvs := kvsOfI (is1 ++ i :: is2)) (.tail _ (.tail _ (.tail _ (.head _)))) hv) (sa_np (pre := (R, lstO (rdy.map .str)) :: (σ.S, exactO (instObj 239 σ.D)) :: (σ.D, attrO C.w σ.N σ.rv σ.p σ.q) :: (σ.N, n2iO C.w (kvsOfI (is1 ++ i :: is2))) :: infosLed is1) O rfl)) ?_
    refine ExG.nil ⟨⟨some (.d (.str i.row)), rfl⟩, ?_⟩
    have tk1 : rdy.take (k + 1) = rdy.take k ++ [i.row] := by rw [List.take_add_one, hr']; rfl
    rw [tk1, markAll_snoc]
    show _ = (R, lstO (rdy.map .str)) :: Srt.led C.w { σ with is := onRow (markAll (-1) (rdy.take k) σ.is) i.row (setNp (-1)) }
    rw [show Srt.led C.w { σ with is := onRow (markAll (-1) (rdy.take k) σ.is) i.row (setNp (-1)) } = _ from e3]
    rfl
  · obtain ⟨⟨u, rfl⟩, rfl⟩ := hK
    refine ExG.nil ?_
    rw [List.length_map, List.take_length]
    have hD2 : ∀ X : Mine.O, (σ.D, attrO C.w σ.N σ.rv σ.p σ.q) ∈ (R, X) :: Srt.led C.w { σ with is := markAll (-1) rdy σ.is } := fun X => .tail _ (.tail _ (.head _))
    have hS2 : ∀ X : Mine.O, (σ.S, exactO (instObj 239 σ.D)) ∈ (R, X) :: Srt.led C.w { σ with is := markAll (-1) rdy σ.is } := fun X => .tail _ (.head _)
    refine ExG.cons (Ex1.expr (v := .d .none) (led1 := (R, lstO []) :: Srt.led C.w { σ with is := markAll (-1) rdy σ.is }) (Ev.meth (fp := [(R, lstO (rdy.map .str))]) (fp' := [(R, lstO [])]) (led2 := Srt.led C.w { σ with is := markAll (-1) rdy σ.is }) O (Ev.castV (by rw [hr]) (Ev.attr (Ev.nm O l 0) (ga_rdy O (by rw [hr]; rfl) (hS2 _) (hD2 _)))) (gm_lst (ds := rdy.map .str) PySem.F.slot_list_clear PySem.F.type_list_clear PySem.F.plainAttrs_list (.head _)) Es.nil (clear_op hz')) rfl rfl) ?_
    refine ExG.cons (Ex1.augAttr (op := .Add) (a := σ.p) (b := rdy.length) (c := σ.p + rdy.length) (Ev.nm O l 0) (ga_npo O (hS2 _) (hD2 _)) (Ev.castI (by rw [List.length_map]) (Ev.callP O (nm_b_len O rfl) keep_blt (Es.cons (Ev.nm O l 1) Es.nil) (len_t hz'))) (.inl ⟨rfl, rfl⟩) (sa_npo (pre := [(R, lstO []), (σ.S, exactO (instObj 239 σ.D))]) O rfl (.tail _ (.head _)))) ?_
    exact (Ex.retD (Ev.nm O l 1)).toG ⟨rfl, rfl⟩
end
section
noncomputable def infosLedG (g : Info → O) (is : List Info) : Led := is.flatMap fun i => [(i.a, infoO i.row i.np i.l), (i.l, g i)]
noncomputable def Srt.ledG (w : World) (σ : Srt) (g : Info → O) : Led := (σ.S, exactO (instObj 239 σ.D)) :: (σ.D, attrO w σ.N σ.rv σ.p σ.q) :: (σ.N, n2iO w (kvsOfI σ.is)) :: infosLedG g σ.is
noncomputable def lstG (i : Info) : O := lstO (i.succ.map .str)
theorem ledG_lst (w : World) (σ : Srt) : σ.ledG w lstG = σ.led w := rfl
theorem infosLedG_app (g : Info → O) (is js : List Info) : infosLedG g (is ++ js) = infosLedG g is ++ infosLedG g js := by unfold infosLedG; rw [List.flatMap_append]
theorem infosLedG_congr {g g' : Info → O} {is : List Info} (h : ∀ i ∈ is, g i = g' i) : infosLedG g is = infosLedG g' is := by
  unfold infosLedG
  induction is with
  | nil => rfl
  | cons i r ih =>
    rw [List.flatMap_cons, List.flatMap_cons, ih fun j hj => h j (.tail _ hj), h i (.head _)]
theorem ledG_split (w : World) (σ : Srt) (g : Info → O) {is1 is2 : List Info} {i : Info} (h : σ.is = is1 ++ i :: is2) : σ.ledG w g = ((σ.S, exactO (instObj 239 σ.D)) :: (σ.D, attrO w σ.N σ.rv σ.p σ.q) :: (σ.N, n2iO w (kvsOfI (is1 ++ i :: is2))) :: infosLedG g is1) ++ (i.a, infoO i.row i.np i.l) :: (i.l, g i) :: infosLedG g is2 := by
  unfold Srt.ledG
  rw [h, infosLedG_app]
  rfl
theorem ledG_on (w : World) (σ : Srt) (g : Info → O) {is1 is2 : List Info} {i : Info} {f : Info → Info} (h : σ.is = is1 ++ i :: is2) (hn : (rowsOf σ.is).Nodup) (hf : (f i).row = i.row ∧ (f i).a = i.a ∧ (f i).l = i.l) (hg : g (f i) = g i) :
    Srt.ledG w { σ with is := onRow σ.is i.row f } g = ((σ.S, exactO (instObj 239 σ.D)) :: (σ.D, attrO w σ.N σ.rv σ.p σ.q) :: (σ.N, n2iO w (kvsOfI (is1 ++ i :: is2))) :: infosLedG g is1) ++ (i.a, infoO i.row (f i).np i.l) :: (i.l, g i) :: infosLedG g is2 := by
  have o : onRow σ.is i.row f = is1 ++ f i :: is2 := by rw [h]; exact onRow_split (h ▸ hn)
  have := ledG_split w { σ with is := onRow σ.is i.row f } g (is1 := is1) (i := f i) (is2 := is2) o
  rw [this]
  have kk : kvsOfI (is1 ++ f i :: is2) = kvsOfI (is1 ++ i :: is2) := by
    rw [kvs_app, kvs_app]
    show _ ++ ((f i).row, Value.ref (f i).a) :: _ = _ ++ (i.row, Value.ref i.a) :: _
    rw [hf.1, hf.2.1]
  rw [kk, hf.1, hf.2.1, hf.2.2, hg]
theorem srcP_lst {w : World} {l : Addr} {ob : Obj} {xs : List Str} (hob : ∃ h, (lstO (xs.map .str)).p h ob) : SrcP w [(l, ob)] (.raw (.ref l)) (xs.map fun x => V.d (.str x)) := fun n Γ loc led s a Q E hw O S hp ra h => by
  refine aside fun zk => ?_
  cases ra
  obtain ⟨hh, vals, k, as, rfl, r⟩ := hob
  have g1 := pin_get S hp (.head _)
  have e : vals.size = (xs.map fun x => V.d (.str x)).length := by rw [List.length_map, ← Array.length_toList, readsAll_length r, List.length_map]
  obtain ⟨f1, f2, f3⟩ := S.fresh
  apply zk
  have hl : s.heap.IsList l vals := ⟨_, g1, rfl, k, rfl⟩
  refine wpAny_pyIter_list hl ?_
  obtain ⟨S4, le4, g⟩ := S.push (o := { cls := .type "list_iterator", data := .fields #[.ref l, .int 0 0] }) (t := s.toks) rfl
  have hne : l ≠ s.heap.objs.size := Nat.ne_of_lt (Heap.lt_size g1)
  have W := Walks.list (prog := PP) (w := Γ.w) (A := Γ.A) O.hh s.heap.objs.size l hne vals
  rw [e] at W
  refine h s.heap.objs.size _ [s.heap.objs.size, l] _ _ ⟨W, ⟨⟨_, (vget g), rfl, rfl⟩, ⟨_, Heap.get?_push_of_some _ g1, rfl, k, rfl⟩⟩, S4, f2, ?_, ?_, f3, ?_⟩ le4 f1
  · intro b hb
    rcases List.mem_cons.mp hb with rfl | hb
    · exact .inl ⟨f2, _, (vget g)⟩
    · rw [List.mem_singleton.mp hb]; exact .inr (.head _)
  · intro i v hi hv
    rw [List.length_map] at hi
    obtain ⟨t, hv'⟩ := strs_val r i _ (List.getElem?_eq_getElem hi)
    rw [Array.getElem?_toList, hv] at hv'
    cases hv'
    exact ⟨.d (.str xs[i]), by rw [List.getElem?_map, List.getElem?_eq_getElem hi]; rfl, of_str⟩
  · rintro i h ⟨⟨o, ho, hc, hd⟩, _⟩
    exact ⟨o, _, _, ho, hc, hd, by decide⟩
end
section
noncomputable def npOf (is : List Info) (x : Str) : Int := ((is.find? fun i => i.row = x).map (·.np)).getD 0
theorem npOf_split {is1 is2 : List Info} {i : Info} (hn : (rowsOf (is1 ++ i :: is2)).Nodup) : npOf (is1 ++ i :: is2) i.row = i.np := by
  unfold rowsOf at hn
  rw [List.map_append, List.map_cons, List.nodup_append] at hn
  obtain ⟨_, _, h3⟩ := hn
  unfold npOf
  have : is1.find? (fun j => j.row = i.row) = none := List.find?_eq_none.mpr fun j hj => by
    simpa using h3 _ (List.mem_map_of_mem hj) _ (.head _)
  rw [List.find?_append, this]
  simp
theorem npOf_other (is : List Info) {x y : Str} (f : Info → Info) (hf : ∀ i, (f i).row = i.row) (h : y ≠ x) : npOf (onRow is x f) y = npOf is y := by
  unfold npOf onRow
  induction is with
  | nil => rfl
  | cons i r ih =>
    rw [List.map_cons, List.find?_cons, List.find?_cons]
    by_cases q : i.row = x
    · rw [if_pos q]
      have : ¬ i.row = y := fun z => h (z.symm.trans q)
      rw [show decide ((f i).row = y) = false from by rw [hf i]; simpa using this, show decide (i.row = y) = false from by simpa using this]
      exact ih
    · rw [if_neg q]
      by_cases z : i.row = y
      · simp [z]
      · simp only [z, decide_false]; exact ih
noncomputable def doneOne (next : Str → Str) (st : List Info × List Str) (r : Str) : List Info × List Str :=
  let is' := onRow (onRow st.1 r (setNp (-2))) (next r) (bump (-1))
  (is', if npOf is' (next r) = 0 then st.2 ++ [next r] else st.2)
noncomputable def doneAll (next : Str → Str) (nodes : List Str) (st : List Info × List Str) : List Info × List Str := nodes.foldl (doneOne next) st
theorem doneAll_snoc (next : Str → Str) (nodes : List Str) (r : Str) (st : List Info × List Str) : doneAll next (nodes ++ [r]) st = doneOne next (doneAll next nodes st) r := by unfold doneAll; rw [List.foldl_append]; rfl
theorem onRow_mem {is : List Info} {x : Str} {f : Info → Info} {j : Info} (h : j ∈ onRow is x f) : ∃ i ∈ is, j = i ∨ (i.row = x ∧ j = f i) := by
  obtain ⟨i, hi, rfl⟩ := List.mem_map.mp h
  refine ⟨i, hi, ?_⟩
  split
  · exact .inr ⟨by assumption, rfl⟩
  · exact .inl rfl
structure DoneOk (next : Str → Str) (rows : List Str) (is : List Info) : Prop where
  rows : rowsOf is = rows
  succ : ∀ i ∈ is, i.succ = [next i.row]
theorem DoneOk.on {next : Str → Str} {rows : List Str} {is : List Info} (h : DoneOk next rows is) (x : Str) (f : Info → Info) (hf : ∀ i, (f i).row = i.row ∧ (f i).succ = i.succ) : DoneOk next rows (onRow is x f) :=
  ⟨(onRow_rows is x f fun i => (hf i).1).trans h.rows, fun j hj => by
    obtain ⟨i, hi, rfl | ⟨_, rfl⟩⟩ := onRow_mem hj
    · exact h.succ _ hi
    · rw [(hf i).2, (hf i).1]; exact h.succ i hi⟩
theorem DoneOk.all {next : Str → Str} {rows : List Str} (nodes : List Str) : ∀ {st : List Info × List Str}, DoneOk next rows st.1 → DoneOk next rows (doneAll next nodes st).1 := by
  induction nodes with
  | nil => intro st h; exact h
  | cons r nodes ih => intro st h; exact ih (st := doneOne next st r) ((h.on r (setNp (-2)) fun _ => ⟨rfl, rfl⟩).on (next r) (bump (-1)) fun _ => ⟨rfl, rfl⟩)
theorem np_all (next : Str → Str) (nodes : List Str) {y : Str} (hy : y ∉ nodes) (hx : ∀ r ∈ nodes, next r ≠ y) : ∀ (st : List Info × List Str), npOf (doneAll next nodes st).1 y = npOf st.1 y := by
  induction nodes with
  | nil => intro st; rfl
  | cons r nodes ih =>
    intro st
    show npOf (doneAll next nodes (doneOne next st r)).1 y = _
    rw [ih (fun h => hy (.tail _ h)) (fun z hz => hx z (.tail _ hz))]
    show npOf (onRow (onRow st.1 r (setNp (-2))) (next r) (bump (-1))) y = _
    rw [npOf_other _ (bump (-1)) (fun _ => rfl) (fun q => hx r (.head _) q.symm), npOf_other _ (setNp (-2)) (fun _ => rfl) (fun q => hy (by rw [q]; exact .head _))]
end
section
theorem reads_any {h h' : Heap} : ∀ {vs : List Value} {xs : List Str} {as : List Addr}, ReadsAll h vs (xs.map .str) as → ∃ bs, ReadsAll h' vs (xs.map .str) bs
  | _, [], _, .nil => ⟨_, .nil⟩
  | _, _ :: _, _, .cons r q => by
    obtain ⟨bs, q'⟩ := reads_any (h' := h') q
    cases r
    exact ⟨_, .cons (.str _ _) q'⟩
theorem lst_any {xs : List Str} {ob : Obj} (h : ∃ h, (lstO (xs.map .str)).p h ob) (h' : Heap) : (lstO (xs.map .str)).p h' ob := by
  refine aside fun zk => ?_
  obtain ⟨h, vals, k, as, e, r⟩ := h
  obtain ⟨bs, r'⟩ := reads_any (h' := h') r
  apply zk
  exact ⟨vals, k, bs, e, r'⟩
theorem done_op (w : World) (σ : Srt) (R : Addr) (rdy nodes : List Str) (next : Str → Str) (hN : σ.N ≠ 1) (hr : σ.rv = .ref R) (hz : rdy.length + nodes.length ≤ 100) (hn : (rowsOf σ.is).Nodup) (hm : ∀ r ∈ nodes, r ∈ rowsOf σ.is) (hx : ∀ r ∈ rowsOf σ.is, next r ∈ rowsOf σ.is) (hs : ∀ i ∈ σ.is, i.succ = [next i.row])
    (hnd : nodes.Nodup) (hne : ∀ r ∈ nodes, next r ∉ nodes) (h1 : ∀ r ∈ nodes, npOf σ.is r = -1) : OpC w 1 222 (.raw (.ref σ.S) :: (nodes.map PyData.str).map V.d) (σ.ledR w R rdy)
    (fun v d => v = .d .none ∧ d = Srt.ledR w { σ with is := (doneAll next nodes (σ.is, rdy)).1, q := σ.q + nodes.length } R (doneAll next nodes (σ.is, rdy)).2) := by
  refine call_defW (n := 0) (args' := [.raw (.ref σ.S), .d (.tuple (nodes.map .str))]) ["self", "nodes"] ["n2i", "node", "nodeinfo", "stat", "successor", "successor_info"] (fun w => by exact rfl) (fun w => by kernel_rfl) (binds_star1 (ds := nodes.map .str) (by rw [List.length_map, big]; lia) fun v vals => by cases vals <;> kernel_rfl) rfl (by decide) rfl (fun C L => ⟨by decide, by decide, rfl, rfl⟩) fun C L hw O l => ?_
  subst hw
  have hS : (σ.S, exactO (instObj 239 σ.D)) ∈ σ.ledR C.w R rdy := .tail _ (.head _)
  have hD : (σ.D, attrO C.w σ.N σ.rv σ.p σ.q) ∈ σ.ledR C.w R rdy := .tail _ (.tail _ (.head _))
  refine ExG.cons (Ex1.ifF (Bt.cmp O (Ev.attr (Ev.nm O l 0) (ga_rdy O (by rw [hr]; rfl) hS hD)) Ev.none (by rw [hr]; exact is_none (v := .ref R) rfl)) Ex.nil) ?_
  refine ExG.let_ O l 2 (Ev.attr (Ev.nm O l 0) (ga_n2i O hS hD)) ?_
  have D0 : DoneOk next (rowsOf σ.is) σ.is := ⟨rfl, hs⟩
  have hlen : ∀ k, (doneAll next (nodes.take k) (σ.is, rdy)).2.length ≤ rdy.length + k := by
    intro k
    induction k with
    | zero => simp [doneAll]
    | succ k ih =>
      by_cases hk : k < nodes.length
      · rw [List.take_add_one, List.getElem?_eq_getElem hk]
        show (doneAll next (nodes.take k ++ [nodes[k]]) (σ.is, rdy)).2.length ≤ _
        rw [doneAll_snoc]
        unfold doneOne
        dsimp only
        split
        · rw [List.length_append]; simp; lia
        · lia
      · rw [List.take_of_length_le (by lia)] at ih ⊢; lia
  refine ExG.seq (Ex1G.for_ O [] (Ev.nm O l 1) src_strsT.toP (fun k loc led => (∃ u1 u2 u3 u4 u5, loc = mk ["self", "nodes", "n2i", "node", "nodeinfo", "stat", "successor", "successor_info"] [some (.raw (.ref σ.S)), some (.d (.tuple (nodes.map .str))), some (.raw (.ref σ.N)), u1, u2, u3, u4, u5]) ∧ led = Srt.ledR C.w { σ with is := (doneAll next (nodes.take k) (σ.is, rdy)).1, q := σ.q + k } R (doneAll next (nodes.take k) (σ.is, rdy)).2) ⟨⟨none, none, none, none, none, rfl⟩, by show σ.ledR C.w R rdy = Srt.ledR C.w { σ with q := σ.q + 0 } R rdy; rw [Int.add_zero]⟩ (fun _ _ _ _ _ h => nomatch h) (fun k y loc led hy hK => ?_) fun loc led hK => ?_)
  · obtain ⟨⟨u1, u2, u3, u4, u5, rfl⟩, rfl⟩ := hK
    rw [List.getElem?_map] at hy
    obtain ⟨r, hr', rfl⟩ := Option.map_eq_some_iff.mp hy
    have hkl : k < nodes.length := (List.getElem?_eq_some_iff.mp hr').1
    have hrm := List.mem_of_getElem? hr'
    have rk : nodes[k] = r := (List.getElem?_eq_some_iff.mp hr').2
    have rt : r ∉ nodes.take k := fun h => by
      obtain ⟨j, hj, e⟩ := List.mem_iff_getElem.mp h
      rw [List.length_take] at hj
      rw [List.getElem_take] at e
      have := (List.pairwise_iff_getElem.mp hnd) j k (by lia) hkl (by lia)
      exact this (e.trans rk.symm)
    have hst := D0.all (st := (σ.is, rdy)) (nodes.take k)
    have np1 : npOf (doneAll next (nodes.take k) (σ.is, rdy)).1 r = -1 := by
      rw [np_all next (nodes.take k) rt (fun z hz q => hne z (List.mem_of_mem_take hz) (q ▸ hrm))]; exact h1 r hrm
    have hl2 := hlen k
    have tk1 : nodes.take (k + 1) = nodes.take k ++ [r] := by rw [List.take_add_one, hr']; rfl
    rw [tk1, doneAll_snoc]
    generalize doneAll next (nodes.take k) (σ.is, rdy) = st at hst np1 hl2 ⊢
    refine aside fun zk => ?_
    obtain ⟨ist, rst⟩ := st
    dsimp only at hst np1 hl2
    have nd1 : (rowsOf ist).Nodup := by rw [hst.rows]; exact hn
    obtain ⟨is1, i, is2, e1, rfl⟩ := row_split (is := ist) (by rw [hst.rows]; exact hm r hrm)
    apply zk
    have hv := kvs_get (e1 ▸ nd1)
    rw [← e1] at hv
    have inp : i.np = -1 := by rw [← np1, e1]; exact (npOf_split (e1 ▸ nd1)).symm
    generalize hσk : ({ σ with is := ist, q := σ.q + (k : Nat) } : Srt) = σk
    refine aside fun zk => ?_
    have qk : σk.S = σ.S ∧ σk.D = σ.D ∧ σk.N = σ.N ∧ σk.rv = σ.rv ∧ σk.p = σ.p ∧ σk.is = ist ∧ σk.q = σ.q + (k : Nat) := by rw [← hσk]; exact ⟨rfl, rfl, rfl, rfl, rfl, rfl, rfl⟩
    obtain ⟨qS, qD, qN, qr, qp, qi, qq⟩ := qk
    apply zk
    have ndk : (rowsOf σk.is).Nodup := by rw [qi]; exact nd1
    have ek : σk.is = is1 ++ i :: is2 := by rw [qi, e1]
    refine ⟨_, As.nm O l 3, ?_⟩
    unfold Srt.ledR
    have e2 := led_split C.w σk ek
    have hI : (i.a, infoO i.row i.np i.l) ∈ (R, lstO (rst.map .str)) :: σk.led C.w := .tail _ (by rw [e2]; exact List.mem_append_right _ (.head _))
    have hNl : (σ.N, n2iO C.w (kvsOfI ist)) ∈ (R, lstO (rst.map .str)) :: σk.led C.w := by rw [← qN, ← qi]; exact .tail _ (.tail _ (.tail _ (.head _)))
    refine ExG.cons (Ex1.ifF (Bt.cmp O (Ev.walrus O l 4 (v := .raw (.ref i.a)) (Ev.castV (by rw [hv]; rfl) (Ev.dget O (Ev.nm O l 2) hN (Ev.nm O l 3) hNl hNl))) Ev.none (is_none (v := .ref i.a) rfl)) Ex.nil) ?_
    refine ExG.let_ O l 5 (v := .d (.int (-1))) (Ev.castV (by rw [inp]) (Ev.attr (Ev.nm O l 4) (ga_np O hI))) ?_
    refine ExG.cons (Ex1.ifF (Bt.cmp O (Ev.nm O l 5) (nm_NODE_OUT O rfl) (ne_ii (a := -1) (b := -1))) Ex.nil) ?_
    refine aside fun zk => ?_
    have e3 := led_on C.w σk (f := setNp (-2)) ek ndk ⟨rfl, rfl, rfl, rfl⟩
    generalize hσ2 : ({ σk with is := onRow σk.is i.row (setNp (-2)) } : Srt) = σ2 at e3
    have q2 : σ2.S = σ.S ∧ σ2.D = σ.D ∧ σ2.N = σ.N ∧ σ2.rv = σ.rv ∧ σ2.p = σ.p ∧ σ2.is = onRow ist i.row (setNp (-2)) ∧ σ2.q = σ.q + (k : Nat) := by rw [← hσ2]; exact ⟨qS, qD, qN, qr, qp, by show onRow σk.is i.row _ = _; rw [qi], qq⟩
    obtain ⟨pS, pD, pN, pr, pp, pi, pq⟩ := q2
    apply zk
    have hst2 : DoneOk next (rowsOf σ.is) σ2.is := by rw [pi]; exact hst.on i.row (setNp (-2)) fun _ => ⟨rfl, rfl⟩
    have nd2 : (rowsOf σ2.is).Nodup := by rw [hst2.rows]; exact hn
    have f2 : σ2.is = is1 ++ setNp (-2) i :: is2 := by rw [pi, e1]; exact onRow_split (e1 ▸ nd1)
    have e4 : ((R, lstO (rst.map .str)) :: (σk.S, exactO (instObj 239 σk.D)) :: (σk.D, attrO C.w σk.N σk.rv σk.p σk.q) :: (σk.N, n2iO C.w (kvsOfI (is1 ++ i :: is2))) :: infosLed is1) ++ (i.a, infoO i.row (-2) i.l) :: (i.l, lstO (i.succ.map .str)) :: infosLed is2 = (R, lstO (rst.map .str)) :: σ2.led C.w := by rw [e3]; rfl
    rw [e2]
    refine ExG.cons (Ex1.setAttr (x := i.a) (nm_NODE_DONE O rfl) (Ev.nm O l 4) (sa_np (pre := (R, lstO (rst.map .str)) :: (σk.S, exactO (instObj 239 σk.D)) :: (σk.D, attrO C.w σk.N σk.rv σk.p σk.q) :: (σk.N, n2iO C.w (kvsOfI (is1 ++ i :: is2))) :: infosLed is1) O rfl)) ?_
    rw [e4]
    -- the list of successors, pinned
    have e5 := led_split C.w σ2 f2
    have e6 : (R, lstO (rst.map .str)) :: σ2.led C.w = ((R, lstO (rst.map .str)) :: (σ2.S, exactO (instObj 239 σ2.D)) :: (σ2.D, attrO C.w σ2.N σ2.rv σ2.p σ2.q) :: (σ2.N, n2iO C.w (kvsOfI (is1 ++ setNp (-2) i :: is2))) :: (infosLed is1 ++ [(i.a, infoO i.row (-2) i.l)])) ++ (i.l, lstO (i.succ.map .str)) :: infosLed is2 := by rw [e5]; simp [setNp]
    rw [e6]
    refine ExG.pin fun ob hob => ?_
    generalize hg : (fun j : Info => if j.row = i.row then exactO ob else lstG j) = g
    have gi : ∀ j : Info, j.row = i.row → g j = exactO ob := fun j hj => by rw [← hg]; exact if_pos hj
    have gn : ∀ j : Info, j.row ≠ i.row → g j = lstG j := fun j hj => by rw [← hg]; exact if_neg hj
    have other : ∀ {js1 js2 : List Info} {j0 : Info}, j0.row = i.row → (rowsOf (js1 ++ j0 :: js2)).Nodup → infosLedG g js1 = infosLed js1 ∧ infosLedG g js2 = infosLed js2 := fun {js1 js2 j0} h0 hnn => by
      unfold rowsOf at hnn
      rw [List.map_append, List.map_cons, List.nodup_append] at hnn
      obtain ⟨_, h2, h3⟩ := hnn
      have h2 := (List.nodup_cons.mp h2).1
      refine ⟨infosLedG_congr fun j hj => gn j fun q => ?_, infosLedG_congr fun j hj => gn j fun q => ?_⟩
      · exact h3 _ (List.mem_map_of_mem hj) _ (.head _) (q.trans h0.symm)
      · exact h2 (by rw [h0, ← q]; exact List.mem_map_of_mem (f := fun i : Info => i.row) hj)
    have e7 : ((R, lstO (rst.map .str)) :: (σ2.S, exactO (instObj 239 σ2.D)) :: (σ2.D, attrO C.w σ2.N σ2.rv σ2.p σ2.q) :: (σ2.N, n2iO C.w (kvsOfI (is1 ++ setNp (-2) i :: is2))) :: (infosLed is1 ++ [(i.a, infoO i.row (-2) i.l)])) ++ (i.l, exactO ob) :: infosLed is2 = (R, lstO (rst.map .str)) :: σ2.ledG C.w g := by
      rw [ledG_split C.w σ2 g f2, (other (j0 := setNp (-2) i) rfl (f2 ▸ nd2)).1, (other (j0 := setNp (-2) i) rfl (f2 ▸ nd2)).2, gi (setNp (-2) i) rfl]
      simp [setNp]
    rw [e7]
    refine aside fun zk => ?_
    have sx : i.succ = [next i.row] := hst.succ i (by rw [e1]; simp)
    have xm : next i.row ∈ rowsOf σ2.is := by rw [hst2.rows]; exact hx _ (hm _ hrm)
    obtain ⟨js1, j, js2, g1, hj⟩ := row_split xm
    have hv2 := kvs_get (g1 ▸ nd2)
    rw [← g1] at hv2
    have gb : ∀ (f : Info → Info), (∀ z, (f z).row = z.row ∧ (f z).succ = z.succ) → g (f j) = g j := fun f hf => by
      by_cases q : j.row = i.row
      · rw [gi j q, gi (f j) ((hf j).1.trans q)]
      · rw [gn j q, gn (f j) (by rw [(hf j).1]; exact q)]; unfold lstG; rw [(hf j).2]
    have e8 := ledG_split C.w σ2 g g1
    have e9 := ledG_on C.w σ2 g (f := bump (-1)) g1 nd2 ⟨rfl, rfl, rfl⟩ (gb _ fun _ => ⟨rfl, rfl⟩)
    generalize hσ3 : ({ σ2 with is := onRow σ2.is j.row (bump (-1)) } : Srt) = σ3 at e9
    have q3 : σ3.S = σ.S ∧ σ3.D = σ.D ∧ σ3.N = σ.N ∧ σ3.rv = σ.rv ∧ σ3.p = σ.p ∧ σ3.is = onRow (onRow ist i.row (setNp (-2))) (next i.row) (bump (-1)) ∧ σ3.q = σ.q + (k : Nat) := by rw [← hσ3]; exact ⟨pS, pD, pN, pr, pp, by show onRow σ2.is j.row _ = _; rw [pi, hj], pq⟩
    obtain ⟨tS, tD, tN, tr, tp, ti, tq⟩ := q3
    apply zk
    have f3 : σ3.is = js1 ++ bump (-1) j :: js2 := by rw [← hσ3]; show onRow σ2.is j.row (bump (-1)) = _; rw [g1]; exact onRow_split (g1 ▸ nd2)
    have hst3 : DoneOk next (rowsOf σ.is) σ3.is := by rw [ti, ← pi]; exact hst2.on _ (bump (-1)) fun _ => ⟨rfl, rfl⟩
    have nd3 : (rowsOf σ3.is).Nodup := by rw [hst3.rows]; exact hn
    have np3 : npOf σ3.is (next i.row) = j.np - 1 := by rw [f3, ← hj]; exact npOf_split (i := bump (-1) j) (f3 ▸ nd3)
    have hpinG : ∀ τ : Srt, (∃ a1 b1 j1, τ.is = a1 ++ j1 :: b1 ∧ j1.row = i.row ∧ j1.l = i.l) → (i.l, exactO ob) ∈ τ.ledG C.w g := fun τ ⟨a1, b1, j1, h1, h2, h3⟩ => by
      rw [ledG_split C.w τ g h1]
      exact List.mem_append_right _ (.tail _ (by rw [gi j1 h2, h3]; exact .head _))
    have hp2 := hpinG σ2 ⟨is1, is2, setNp (-2) i, f2, rfl, rfl⟩
    have hp3 : ∃ a1 b1 j1, σ3.is = a1 ++ j1 :: b1 ∧ j1.row = i.row ∧ j1.l = i.l := by
      rw [← hσ3]
      show ∃ a1 b1 j1, onRow σ2.is j.row (bump (-1)) = a1 ++ j1 :: b1 ∧ j1.row = i.row ∧ j1.l = i.l
      unfold onRow
      rw [f2, List.map_append, List.map_cons]
      refine ⟨_, _, _, rfl, ?_, ?_⟩ <;> (split <;> rfl)
    generalize hrs : (if npOf σ3.is (next i.row) = 0 then rst ++ [next i.row] else rst) = rst'
    have hI2 : (i.a, infoO i.row (-2) i.l) ∈ (R, lstO (rst.map .str)) :: σ2.ledG C.w g := .tail _ (by rw [ledG_split C.w σ2 g f2]; exact List.mem_append_right _ (.head _))
    refine ExG.seq (Ex1G.for_ O [(i.l, ob)] (Ev.attr (Ev.nm O l 4) (ga_succ O hI2)) (srcP_lst (xs := i.succ) hob) (fun k' loc led => (k' = 0 ∧ loc = mk ["self", "nodes", "n2i", "node", "nodeinfo", "stat", "successor", "successor_info"] [some (.raw (.ref σ.S)), some (.d (.tuple (nodes.map .str))), some (.raw (.ref σ.N)), some (.d (.str i.row)), some (.raw (.ref i.a)), some (.d (.int (-1))), u4, u5] ∧ led = (R, lstO (rst.map .str)) :: σ2.ledG C.w g) ∨ (k' = 1 ∧ (∃ u4 u5, loc = mk ["self", "nodes", "n2i", "node", "nodeinfo", "stat", "successor", "successor_info"] [some (.raw (.ref σ.S)), some (.d (.tuple (nodes.map .str))), some (.raw (.ref σ.N)), some (.d (.str i.row)), some (.raw (.ref i.a)), some (.d (.int (-1))), u4, u5]) ∧ led = (R, lstO (rst'.map .str)) :: σ3.ledG C.w g)) (.inl ⟨rfl, rfl, rfl⟩) (fun k' loc led hK p hp => ?_) (fun k' y loc led hy hK => ?_) fun loc led hK => ?_)
    · rw [List.mem_singleton.mp hp]
      rcases hK with ⟨_, _, rfl⟩ | ⟨_, _, rfl⟩
      · exact .tail _ hp2
      · exact .tail _ (hpinG σ3 hp3)
    · rcases hK with ⟨rfl, rfl, rfl⟩ | ⟨rfl, _⟩
      · rw [sx] at hy
        cases hy
        have hS3 : ∀ X : Mine.O, (σ.S, exactO (instObj 239 σ.D)) ∈ (R, X) :: σ3.ledG C.w g := fun X => by rw [← tS, ← tD]; exact .tail _ (.head _)
        have hD3 : ∀ X : Mine.O, (σ.D, attrO C.w σ.N σ.rv σ.p σ3.q) ∈ (R, X) :: σ3.ledG C.w g := fun X => by rw [← tD, ← tN, ← tr, ← tp]; exact .tail _ (.tail _ (.head _))
        have hN2 : (σ.N, n2iO C.w (kvsOfI σ2.is)) ∈ (R, lstO (rst.map .str)) :: σ2.ledG C.w g := by rw [← pN]; exact .tail _ (.tail _ (.tail _ (.head _)))
        rw [← hj]
        refine ⟨_, As.nm O l 6, ?_⟩
        refine ExG.let_ O l 7 (Ev.dsub O (Ev.nm O l 2) (Ev.nm O l 6) hN2 hv2) ?_
        have e10 : ((R, lstO (rst.map .str)) :: (σ2.S, exactO (instObj 239 σ2.D)) :: (σ2.D, attrO C.w σ2.N σ2.rv σ2.p σ2.q) :: (σ2.N, n2iO C.w (kvsOfI (js1 ++ j :: js2))) :: infosLedG g js1) ++ (j.a, infoO j.row (j.np - 1) j.l) :: (j.l, g j) :: infosLedG g js2 = (R, lstO (rst.map .str)) :: σ3.ledG C.w g := by rw [e9]; rfl
        rw [e8]
        refine ExG.cons (Ex1.augAttr (op := .Sub) (a := j.np) (b := 1) (c := j.np - 1) (Ev.nm O l 7) (ga_np O (l := j.l) (row := j.row) (.tail _ (List.mem_append_right _ (.head _)))) Ev.int (.inr ⟨rfl, rfl⟩) (sa_np (pre := (R, lstO (rst.map .str)) :: (σ2.S, exactO (instObj 239 σ2.D)) :: (σ2.D, attrO C.w σ2.N σ2.rv σ2.p σ2.q) :: (σ2.N, n2iO C.w (kvsOfI (js1 ++ j :: js2))) :: infosLedG g js1) O rfl)) ?_
        rw [e10]
        have hI3 : (j.a, infoO j.row (j.np - 1) j.l) ∈ (R, lstO (rst.map .str)) :: σ3.ledG C.w g := by rw [← e10]; exact List.mem_append_right _ (.head _)
        by_cases hq : j.np - 1 = 0
        · have er : rst' = rst ++ [j.row] := by rw [← hrs, if_pos (by rw [np3]; exact hq), hj]
          rw [er]
          refine ExG.seq (Ex1G.ifT (Bt.cast (b := j.np - 1 == 0) (by simpa using hq) (Bt.cmp O (Ev.attr (Ev.nm O l 7) (ga_np O hI3)) Ev.int eq_ii)) ?_)
          refine ExG.cons (Ex1.expr (v := .d .none) (led1 := (R, lstO (rst.map .str ++ [.str j.row])) :: σ3.ledG C.w g) (Ev.meth (fp := [(R, lstO (rst.map .str))]) (fp' := [(R, lstO (rst.map .str ++ [.str j.row]))]) (led2 := σ3.ledG C.w g) O (Ev.castV (by rw [hr]) (Ev.attr (Ev.nm O l 0) (ga_rdy O (by rw [hr]; rfl) (hS3 _) (hD3 _)))) (gm_lst (ds := rst.map .str) slot_list_append type_list_append PySem.F.plainAttrs_list (.head _)) (Es.cons (Ev.nm O l 6) Es.nil) (append_op (by rw [List.length_map, big]; lia))) rfl rfl) ?_
          refine ExG.nil (ExG.nil (.inr ⟨rfl, ⟨_, _, rfl⟩, ?_⟩))
          rw [List.map_append]; rfl
        · have er : rst' = rst := by rw [← hrs, if_neg (by rw [np3]; exact hq)]
          rw [er]
          refine ExG.cons (Ex1.ifF (Bt.cast (b := j.np - 1 == 0) (by simpa using hq) (Bt.cmp O (Ev.attr (Ev.nm O l 7) (ga_np O hI3)) Ev.int eq_ii)) Ex.nil) ?_
          exact ExG.nil (.inr ⟨rfl, ⟨_, _, rfl⟩, rfl⟩)
      · rw [sx] at hy; cases hy
    · rcases hK with ⟨h0, _⟩ | ⟨_, ⟨v4, v5, rfl⟩, rfl⟩
      · rw [sx] at h0; cases h0
      · refine ExG.nil ?_
        have hS3 : (σ.S, exactO (instObj 239 σ.D)) ∈ (R, lstO (rst'.map .str)) :: σ3.ledG C.w g := by rw [← tS, ← tD]; exact .tail _ (.head _)
        have hD3 : (σ.D, attrO C.w σ.N σ.rv σ.p (σ.q + (k : Nat))) ∈ (R, lstO (rst'.map .str)) :: σ3.ledG C.w g := by rw [← tD, ← tN, ← tr, ← tp, ← tq]; exact .tail _ (.tail _ (.head _))
        have e11 : (R, lstO (rst'.map .str)) :: σ3.ledG C.w g = [(R, lstO (rst'.map .str)), (σ.S, exactO (instObj 239 σ.D))] ++ (σ.D, attrO C.w σ.N σ.rv σ.p (σ.q + (k : Nat))) :: (σ.N, n2iO C.w (kvsOfI σ3.is)) :: infosLedG g σ3.is := by unfold Srt.ledG; rw [tS, tD, tN, tr, tp, tq]; rfl
        refine ExG.cons (Ex1.augAttr (op := .Add) (a := σ.q + (k : Nat)) (b := 1) (c := σ.q + (k : Nat) + 1) (Ev.nm O l 0) (ga_nfi O hS3 hD3) Ev.int (.inl ⟨rfl, rfl⟩) (by rw [e11]; exact sa_nfi (pre := [(R, lstO (rst'.map .str)), (σ.S, exactO (instObj 239 σ.D))]) O rfl (.tail _ (.head _)))) ?_
        obtain ⟨a1, b1, j1, h1, h2, h3⟩ := hp3
        have oth := other (js1 := a1) (js2 := b1) (j0 := j1) h2 (h1 ▸ nd3)
        have sj : j1.succ = i.succ := by rw [sx, hst3.succ j1 (by rw [h1]; simp), h2]
        rw [h1, infosLedG_app]
        show ExG _ _ (((R, lstO (rst'.map .str)) :: (σ.S, exactO (instObj 239 σ.D)) :: (σ.D, attrO C.w σ.N σ.rv σ.p (σ.q + (k : Nat) + 1)) :: (σ.N, n2iO C.w (kvsOfI (a1 ++ j1 :: b1))) :: (infosLedG g a1 ++ (j1.a, infoO j1.row j1.np j1.l) :: (j1.l, g j1) :: infosLedG g b1))) _ _
        rw [gi j1 h2, oth.1, oth.2]
        have e12 : ((R, lstO (rst'.map .str)) :: (σ.S, exactO (instObj 239 σ.D)) :: (σ.D, attrO C.w σ.N σ.rv σ.p (σ.q + (k : Nat) + 1)) :: (σ.N, n2iO C.w (kvsOfI (a1 ++ j1 :: b1))) :: (infosLed a1 ++ (j1.a, infoO j1.row j1.np j1.l) :: (j1.l, exactO ob) :: infosLed b1)) = ((R, lstO (rst'.map .str)) :: (σ.S, exactO (instObj 239 σ.D)) :: (σ.D, attrO C.w σ.N σ.rv σ.p (σ.q + (k : Nat) + 1)) :: (σ.N, n2iO C.w (kvsOfI (a1 ++ j1 :: b1))) :: (infosLed a1 ++ [(j1.a, infoO j1.row j1.np j1.l)])) ++ (j1.l, exactO ob) :: infosLed b1 := by simp
        rw [e12]
        refine ExG.known (x' := lstO (j1.succ.map .str)) (fun h o ho => by have ho : o = ob := ho; rw [ho, sj]; exact lst_any hob h) ?_
        refine ExG.nil ⟨⟨_, _, _, _, _, rfl⟩, ?_⟩
        have er : (doneOne next (ist, rst) i.row) = (σ3.is, rst') := by unfold doneOne; rw [← hrs, ti]
        rw [er]
        show _ = (R, lstO (rst'.map .str)) :: Srt.led C.w { σ with is := σ3.is, q := σ.q + ((k + 1 : Nat) : Int) }
        have e13 := led_split C.w { σ with is := σ3.is, q := σ.q + ((k + 1 : Nat) : Int) } h1
        rw [e13]
        have qk : σ.q + (k : Nat) + 1 = σ.q + ((k : Nat) + 1) := by lia
        simp
        rw [qk]
  · refine aside fun zk => ?_
    obtain ⟨⟨u1, u2, u3, u4, u5, rfl⟩, rfl⟩ := hK
    apply zk
    refine ExG.nil (ExG.nil ⟨rfl, ?_⟩)
    rw [List.length_map, List.take_length]
end
section
open Sem (wp)
theorem iter_list {w : World} {A : Around} {E : Value → Shared → Prop} {s : Shared} {l : Addr} {items : Array Value} {Q : Value → Shared → Prop} (hl : s.heap.IsList l items)
    (hQ : Q (.ref s.heap.objs.size) { s with heap := s.heap.push { cls := .type "list_iterator", data := .fields #[.ref l, .int 0 0] } }) : wpAny (MM w) A (call (.builtin "iter") [.ref l]) Q E s := by
  refine call_function_entry (by decide +kernel) (by decide +kernel) kdk_entry_iter (kdk_args_iter _) ?_
  unfold Builtin.«iter»
  refine wpAny_bind (m := someArgs "iter" 1 2 _) (wpAny_of_eq (a := [Value.ref l]) (by first | rfl | kernel_rfl!) ?_)
  show wpAny _ _ (pyIter (.ref l) >>= _) _ _ _
  refine wpAny_bind (wpAny_pyIter_list hl ?_)
  exact wpAny_pure ⟨_, rfl, hQ⟩
theorem li_getattr_none : typeLookup (.type "list_iterator") "__getattr__" = pure none := by rw [typeLookup_type, builtinLookup_eq_fast]; kernel_rfl
theorem li_slot_ga : Slot "list_iterator" "__getattribute__" "object.__getattribute__" :=
  .of (owner := "object") (n := "__getattribute__") (by rw [typeLookup_type, builtinLookup_eq_fast]; kernel_rfl) (by decide +kernel) (by decide +kernel) (by decide +kernel)
    (by first | exact .inl (by decide +kernel) | exact .inr (by decide +kernel)) (by rw [isSubtype_type]; kernel_rfl)
theorem wd_ty : typeOf (.builtin "list_iterator.__next__") = pure (.type "wrapper_descriptor") := by kernel_rfl
theorem wd_get : typeLookup (.type "wrapper_descriptor") "__get__" = pure (some (.builtin "wrapper_descriptor.__get__")) := by rw [typeLookup_type, builtinLookup_eq_fast]; kernel_rfl
theorem wd_set : typeLookup (.type "wrapper_descriptor") "__set__" = pure none := by rw [typeLookup_type, builtinLookup_eq_fast]; kernel_rfl
theorem wd_del : typeLookup (.type "wrapper_descriptor") "__delete__" = pure none := by rw [typeLookup_type, builtinLookup_eq_fast]; kernel_rfl
theorem wd_slot : Slot "wrapper_descriptor" "__get__" "wrapper_descriptor.__get__" :=
  .of (owner := "wrapper_descriptor") (n := "__get__") (by rw [typeLookup_type, builtinLookup_eq_fast]; kernel_rfl) (by decide +kernel) (by decide +kernel) (by decide +kernel)
    (by first | exact .inl (by decide +kernel) | exact .inr (by decide +kernel)) (by rw [isSubtype_type]; kernel_rfl)
theorem wd_entry : entryFor table "wrapper_descriptor.__get__" = some Builtin.«wrapper_descriptor.__get__» := entryFor_of_fast (by kernel_rfl)
theorem wd_args (a b c : Value) : argsOk "wrapper_descriptor.__get__" ⟨[a, b, c], []⟩ := by unfold argsOk; kernel_rfl
theorem li_sub : isSubtype (.type "list_iterator") (.type "list_iterator") = pure true := by rw [isSubtype_type]; kernel_rfl
theorem meets_wd (it : Addr) : Meets (Builtin.«wrapper_descriptor.__get__» ⟨[.builtin "list_iterator.__next__", .ref it, .type "list_iterator"], []⟩) (fun A R s => s.TypeIs (.ref it) "list_iterator" ∧ R (.ok (.ret (.ref s.heap.objs.size))) { s with heap := s.heap.push { cls := .type "method-wrapper", data := .fields #[.builtin "list_iterator.__next__", .ref it] } }) :=
  Meets.of_wp fun prog w A R s hs => by
    obtain ⟨hp, g, d, tk, os⟩ := s
    obtain ⟨hx, hs⟩ := hs
    unfold Builtin.«wrapper_descriptor.__get__»
    have f1 := li_sub
    repeat (any_goals (first | assumption | wp_step))
    rw [show ".".intercalate ("list_iterator.__next__".cutAt '.').dropLast = "list_iterator" from by decide +kernel]
    rw [f1]
    refine wpAny_pure ?_
    rw [if_neg (by decide)]
    refine wpAny_pure (wpAny_bind (wpAny_newObj_type (wpAny_pure ⟨_, rfl, hs⟩)))
theorem find_next (it : Addr) {prog : Program} {w : World} {A : Around} {E : Value → Shared → Prop} {s : Shared} {Q : Builtin.ObjectAttr.Found → Shared → Prop} {ob : Obj} (hi : s.heap.get? it = some ob) (hc : ob.cls = .type "list_iterator") (hd : ob.dict = none) {dd : Array Value} (hdd : ob.data = .fields dd)
    (h : Q (.bind (.builtin "wrapper_descriptor.__get__") (.builtin "list_iterator.__next__")) s) : wpAny (model prog w) A (Builtin.ObjectAttr.find (.ref it) (.type "list_iterator") "__next__") Q E s := by
  obtain ⟨c, dct, dat, sl⟩ := ob
  simp only at hc hd hdd
  subst hc hd hdd
  obtain ⟨hp, g, d, tk, os⟩ := s
  have hT : (⟨hp, g, d, tk, os⟩ : Shared).TypeIs (.ref it) "list_iterator" := ⟨_, hi, rfl⟩
  have f1 := slot_listiter_next.lookup
  have f2 := wd_ty
  have f3 := wd_get
  have f4 := wd_set
  have f5 := wd_del
  unfold Builtin.ObjectAttr.find
  repeat (any_goals (first | assumption | wp_step))
theorem meets_ga_next (it : Addr) (u : Tok) : Meets (Builtin.«object.__getattribute__» ⟨[.ref it, .str "__next__" u], []⟩) (fun A R s => (∃ ob dd, s.heap.get? it = some ob ∧ ob.cls = .type "list_iterator" ∧ ob.dict = none ∧ ob.data = .fields dd) ∧ R (.ok (.ret (.ref s.heap.objs.size))) { s with heap := s.heap.push { cls := .type "method-wrapper", data := .fields #[.builtin "list_iterator.__next__", .ref it] } }) :=
  Meets.of_wp fun prog w A R s hs => by
    refine aside fun zk => ?_
    obtain ⟨⟨ob, dd, h1, h2, h3, h4⟩, hs⟩ := hs
    apply zk
    have hT : s.TypeIs (.ref it) "list_iterator" := ⟨_, h1, h2⟩
    unfold Builtin.«object.__getattribute__»
    refine wpAny_bind (m := slotArgs "__getattribute__" 1 _) (wpAny_of_eq (a := (Value.ref it, [Value.str "__next__" u])) (by first | rfl | kernel_rfl!) ?_)
    show wpAny _ _ (Builtin.ObjectAttr.attrName (.str "__next__" u) >>= _) _ _ _
    refine wpAny_bind (wpAny_of_eq (a := Str.ofString "__next__") rfl ?_)
    refine wpAny_bind (wpAny_typeOf hT ?_)
    refine wpAny_bind (find_next it h1 h2 h3 h4 ?_)
    show wpAny _ _ (Builtin.ObjectAttr.bindTo _ _ _ _) _ _ _
    unfold Builtin.ObjectAttr.bindTo
    refine wpAny_bind (wpAny_holding (call_meets wd_slot (by show typeOf _ = _; exact wd_ty) wd_entry (wd_args _ _ _) (meets_wd it) ⟨hT, ?_⟩))
    exact wpAny_pure ⟨_, rfl, hs⟩
noncomputable abbrev mwObj (it : Addr) : Obj := { cls := .type "method-wrapper", data := .fields #[.builtin "list_iterator.__next__", .ref it] }
theorem get_next {w : World} {A : Around} {E : Value → Shared → Prop} {s : Shared} {it : Addr} {ob : Obj} {dd : Array Value} {Q : Value → Shared → Prop} (h1 : s.heap.get? it = some ob) (h2 : ob.cls = .type "list_iterator") (h3 : ob.dict = none) (h4 : ob.data = .fields dd)
    (hQ : Q (.ref s.heap.objs.size) { s with heap := s.heap.push (mwObj it), toks := s.toks + 1 }) : wpAny (MM w) A (getAttr (.ref it) "__next__" true) Q E s := by
  have hT : ∀ t, ({ s with toks := t } : Shared).TypeIs (.ref it) "list_iterator" := fun _ => ⟨_, h1, h2⟩
  unfold getAttr getAttrBy
  refine wpAny_bind (wpAny_mkText (wpAny_holding (wpAny_bind (wpAny_typeOf (hT _) (wpAny_bind (wpAny_of_eq li_slot_ga.lookup ?_))))))
  show wpAny _ _ (getAttrByItsOwn _ _ _ _ _ _) _ _ _
  unfold getAttrByItsOwn
  refine wpAny_bind (wpAny_of_eq (a := none) rfl (wpAny_bind (wpAny_attempt (wpAny_holding ?_))))
  show wpAny _ _ (boundAndCalled _ _ _) _ _ _
  unfold boundAndCalled
  refine wpAny_bind (wpAny_of_eq (li_slot_ga.bind _) ?_)
  refine call_meets li_slot_ga (hT _) PySem.F.entry_object_getattribute (PySem.F.args_object_getattribute_2 _ _) (meets_ga_next it _) ⟨⟨ob, dd, h1, h2, h3, h4⟩, ?_⟩
  exact wpAny_pure hQ
theorem wpAny_call_next {w : World} {A : Around} {E : Value → Shared → Prop} {s : Shared} {it l mw : Addr} {i : Nat} {items} {x : Value} {Q : Value → Shared → Prop} (hm : s.heap.get? mw = some (mwObj it)) (hit : s.heap.IsListIter it l i)
    (hl : s.heap.IsList l items) (hx : items[i]? = some x) (hQ : ∀ h', h'.IsListIter it l (i + 1) → Heap.SameBut it s.heap h' → Q x { s with heap := h' }) : wpAny (MM w) A (call (.ref mw) []) Q E s := by
  refine wpAny_call (codeAny_of_tree ?_)
  show wpAny _ _ (callAny (.ref mw) ⟨[], []⟩) _ _ _
  unfold callAny
  refine wpAny_bind (wpAny_load hm ?_)
  show wpAny _ _ (checkBoundCall "list_iterator.__next__" ⟨[.ref it], []⟩ >>= fun _ => again (.builtin "list_iterator.__next__" ⟨[.ref it], []⟩)) _ _ _
  refine wpAny_bind (wpAny_of_eq (a := ()) (by kernel_rfl) (wpAny_pure (And.intro (by kernel_rfl) (codeAny_builtin entry_listiter_next ?_))))
  refine aside fun zk => ?_
  obtain ⟨o, ho, hc, hd⟩ := id hit
  obtain ⟨ol, hol, _, nl, hdl⟩ := hl
  apply zk
  show wpAny _ _ (field (.ref it) 0 >>= _) _ _ s
  refine wpAny_bind (wpAny_field ho hd (x := .ref l) rfl ?_)
  show wpAny _ _ (if (Value.ref l == Value.none) = true then _ else _) _ _ s
  rw [if_neg (show ¬ ((Value.ref l == Value.none) = true) from Bool.false_ne_true)]
  show wpAny _ _ (field (.ref it) 1 >>= _) _ _ s
  refine wpAny_bind (wpAny_field ho hd (x := .int i 0) rfl ?_)
  show wpAny _ _ (seqItems? (.ref l) >>= _) _ _ s
  refine wpAny_bind (wpAny_seqItems hol hdl ?_)
  simp only [Int.toNat_natCast, hx]
  refine wpAny_bind (wpAny_setField ho hd (by simp) (wpAny_pure (hQ _ ?_ (Heap.SameBut.update ..))))
  exact ⟨_, Heap.get?_update_self _ ho (Obj.isFreed_of_fields (Obj.data_mapFields hd _)), (Obj.cls_mapFields ..).trans hc, by
    rw [Obj.data_mapFields hd]; simp [rawInt]⟩
end
section
noncomputable def setO (w : World) (S : Str → Bool) (n : Nat) : O := ⟨fun _ o => ∃ es ep t, o.ExactSet ∧ o.data = .set es ep t ∧ ElemsOf (PySem.strKind PP w) es.toList ∧ (∀ k, S k = true ↔ ∃ e ∈ es.toList, (PySem.strKind PP w).is k e.2 = true) ∧ es.size < scanBound ∧ t.fits es.size = true ∧ es.size = n, fun _ h => h⟩
theorem setO_iff {w : World} {S : Str → Bool} {n : Nat} {h : Heap} {a : Addr} : h.SetOf (PySem.strKind PP w) a S n ↔ ∃ o, h.get? a = some o ∧ ∀ h', (setO w S n).p h' o :=
  ⟨fun ⟨o, es, ep, t, h1, r⟩ => ⟨o, h1, fun _ => ⟨es, ep, t, r⟩⟩, fun ⟨o, h1, r⟩ => let ⟨es, ep, t, r⟩ := r h; ⟨o, es, ep, t, h1, r⟩⟩
noncomputable def itsO (k : Nat) (top : Option Addr) : O := ⟨fun _ o => ∃ vals ep, o = { cls := .type "list", data := .seq vals ep } ∧ vals.size = k ∧ ∀ a, top = some a → vals[k - 1]? = some (.ref a) ∧ 0 < k, fun _ h => h⟩
noncomputable def itO (l : Addr) (i : Nat) : O := ⟨fun _ o => o.cls = .type "list_iterator" ∧ o.data = .fields #[.ref l, .int i 0], fun _ h => h⟩
section
variable {n : Nat} {Γ : Cx} {loc loc' loc1 loc2 : Loc} {led led' led1 led2 led3 pre post fp : Led} {s : Shared} {P : Out → Prop} {xs : List Str} {vs : List (Option V)}
theorem set_at {a : Addr} {S' : Str → Bool} {k : Nat} (S : St Γ loc led s) (h : (a, setO Γ.w S' k) ∈ led) : s.heap.SetOf (PySem.strKind PP Γ.w) a S' k := by
  refine aside fun zk => ?_
  obtain ⟨_, _, o, h3, h4⟩ := S.ld _ h
  apply zk
  exact setO_iff.mpr ⟨o, h3, fun _ => h4⟩
theorem EvG.set0 (O : Ok n Γ) {p pos : Pos} (hc : Ep Γ loc led (.Name "set" p) (.raw (.type "set"))) : EvG Γ loc led (.Call (.Name "set" p) [] [] pos) (fun v d => ∃ a, v = .raw (.ref a) ∧ d = (a, setO Γ.w (fun _ => false) 0) :: led) := fun s Q E S h => by
  refine Call_Name rfl (hc s _ E S fun a s1 S1 le1 ra => ?_)
  cases ra
  refine callWith_type0 (call_set_0 fun b => ?_)
  obtain ⟨S4, le4⟩ := S1.new (ob := { cls := .type "set", dict := none, data := .set #[] 0 (.fresh 0 0 b) }) (x := setO Γ.w (fun _ => false) 0) (t := s1.toks) rfl fun v _ => ⟨#[], 0, _, ⟨rfl, rfl, rfl⟩, rfl, fun e he => by simp at he, fun k => by simp, by decide, by rfl, rfl⟩
  exact h _ _ _ _ ⟨_, rfl, rfl⟩ S4 (le1.trans le4) rfl
theorem Bt.inSet (O : Ok n Γ) {ob e : Expr} {pos : Pos} {N : Addr} {S' : Str → Bool} {m : Nat} {k : Str} (h1 : Ev Γ loc led e (.d (.str k)) loc1 led1) (h2 : Ev Γ loc1 led1 ob (.raw (.ref N)) loc2 led2) (hN : (N, setO Γ.w S' m) ∈ led2) (hm : autoParam (behindInMarks .In ob = false) aU) :
    Bt Γ loc led (.Compare e [.In] [ob] pos) (S' k) loc2 led2 := fun s Q E S h =>
  wpAny_isTrue_Compare1 (h1 s _ E S fun a s1 S1 le1 ra => h2 s1 _ E S1 fun b s2 S2 le2 rb => by
    cases rb
    obtain ⟨t, rfl⟩ := rep_str ra
    exact wpAny_inSet_of (strKind_is _ _ k t) rfl (set_at S2 hN) (wpAny_truthy_bool (h _ _ (S2.toks _) (le1.trans le2) rfl))) hm
theorem setAdd_op {w : World} {N : Addr} {S' : Str → Bool} {m : Nat} {k : Str} (hk : S' k = false) (hz : m < 4000) : OpW w n (fun vals => PySem.call (.builtin "set.add") vals) [.raw (.ref N), .d (.str k)] [(N, setO w S' m)] (fun v d => v = .d .none ∧ d = [(N, setO w (fun x => S' x || decide (x = k)) (m + 1))]) := fun Γ loc led s vals Q E hw O S rs h => by
  subst hw
  cases rs with
  | cons r1 q => cases q with
    | cons r2 q => cases q with
      | nil =>
        cases r1
        obtain ⟨t, rfl⟩ := rep_str r2
        refine call_set_add (strKind_is _ _ k t) rfl (set_at S (.head _)) (by show m + 1 < 4096; lia) fun h' hs' hS' => ?_
        rw [if_neg (by rw [hk]; exact Bool.false_ne_true)] at hS'
        obtain ⟨ob, g1, g2⟩ := setO_iff.mp hS'
        obtain ⟨S4, le4⟩ := S.setLed (pre := []) (x' := setO Γ.w (fun x => S' x || decide (x = k)) (m + 1)) (t := s.toks + 1) O hs' g1 fun v _ => g2 v
        exact h _ _ _ _ ⟨rfl, rfl⟩ S4 le4 of_none
theorem EvG.methB (O : Ok n Γ) {o : Expr} {name : Str} {apos pos : Pos} {as : List Expr} {x : V} {vs : List V} {id : String} {fp : Led} {R : V → Led → Prop} (h1 : Ev Γ loc led o x loc led1)
    (hm : ∀ s a (Q : Value × List Value → Shared → Prop) (E : Value → Shared → Prop) (pl : Sem Bool), St Γ loc led1 s → RepV (vis Γ led1 s) x a → Q (.builtin id, [a]) s → wpAny (MM Γ.w) Γ.A (getMethod a name pl) Q E s)
    (ha : Es Γ loc led1 as vs loc (fp ++ led2)) (ho : OpW Γ.w n (fun vals => PySem.call (.builtin id) vals) (x :: vs) fp R) (hp : autoParam (∀ pos, (backTo pos (starEach as Γ.env)).any (·.1) = false) aI)
    {pl : Sem Bool} (he : autoParam (eval (.Call (.Attribute o name apos) as [] pos) Γ.env = (do let ov ← eval o Γ.env; standAt apos.atName; let (f, first) ← holding [ov] (getMethod ov name pl); callWith pos f first (backTo pos (starEach as Γ.env)) (backToKw pos (keywordEach [] Γ.env)))) aR) :
    EvG Γ loc led (.Call (.Attribute o name apos) as [] pos) (fun v d => ∃ fp', R v fp' ∧ d = fp' ++ led2) := fun s Q E S h => by
  refine methodCall_KW (h1 s _ E S fun a s1 S1 le1 ra => hm s1 a _ E pl S1 ra ?_) he
  refine callWith_of (P := fun h => (KF Γ.w).In h) (by rw [hp pos]; rfl) (fun h X => keep_blt h X) (evalArgs_es (hp pos) (ha pos s1 _ E S1 fun vals s2 S2 le2 rs => ⟨KX O S2, ?_⟩))
  exact ho Γ loc led2 s2 (a :: vals) Q E rfl O S2 (.cons (ra.keeps le2) rs) fun v fp' v' s3 r S3 le3 rv => h v _ v' s3 ⟨fp', r, rfl⟩ S3 (le1.trans (le2.trans le3)) rv
theorem gm_set {a : Addr} {S' : Str → Bool} {m : Nat} (hm : (a, setO Γ.w S' m) ∈ led1) :
    ∀ s v (Q : Value × List Value → Shared → Prop) (E : Value → Shared → Prop) (pl : Sem Bool), St Γ loc led1 s → RepV (vis Γ led1 s) (.raw (.ref a)) v → Q (.builtin "set.add", [v]) s → wpAny (MM Γ.w) Γ.A (getMethod v "add" pl) Q E s := fun s v Q E pl S r h => by
  cases r
  exact getMethod_set_add (set_at S hm) h
theorem EvG.iterNext (O : Ok n Γ) {e : Expr} {p pos pos' : Pos} {l : Addr} {ob : Obj} {items : Array Value} {ep : Nat} (hc : Ep Γ loc led (.Name "iter" p) (.raw (.builtin "iter"))) (h1 : Ep Γ loc led e (.raw (.ref l))) (hl : (l, exactO ob) ∈ led) (hob : ob.cls = .type "list" ∧ ob.data = .seq items ep)
    (hs : autoParam (starEach [e] Γ.env = [(false, eval e Γ.env)]) aR)
    (he : autoParam (eval (.Attribute (.Call (.Name "iter" p) [e] [] pos) "__next__" pos') Γ.env = (do let o ← eval (.Call (.Name "iter" p) [e] [] pos) Γ.env; standAt pos'.atName; let r ← holding [o] (getAttr o "__next__" true); letTemporaryGo (.Call (.Name "iter" p) [e] [] pos) o r; pure r)) aU) :
    EvG Γ loc led (.Attribute (.Call (.Name "iter" p) [e] [] pos) "__next__" pos') (fun v d => ∃ it mw, v = .raw (.ref mw) ∧ d = (mw, exactO (mwObj it)) :: (it, itO l 0) :: led) := fun s Q E S h => by
  refine Attribute_any_ (Call_Name rfl (hc s _ E S fun a s1 S1 le1 ra => ?_)) he
  cases ra
  have hp : (backTo pos (starEach [e] Γ.env)).any (·.1) = false := by rw [hs]; rfl
  refine callWith_of (P := fun h => (KF Γ.w).In h) (by rw [hp]; rfl) (fun h X => keep_blt h X) (evalArgs_es hp (Es.cons h1 Es.nil (by rw [hs]; rfl) pos s1 _ E S1 fun vals s2 S2 le2 rs => ⟨KX O S2, ?_⟩))
  cases rs with
  | cons r1 q =>
    refine aside fun zk => ?_
    cases q
    cases r1
    obtain ⟨_, _, o, h3, h4⟩ := S2.ld _ hl
    have h4 : o = ob := h4
    subst h4
    apply zk
    refine iter_list ⟨_, h3, hob.1, ep, hob.2⟩ ?_
    obtain ⟨S3, le3⟩ := S2.new (ob := { cls := .type "list_iterator", data := .fields #[.ref l, .int 0 0] }) (x := itO l 0) (t := s2.toks) rfl fun v _ => ⟨rfl, rfl⟩
    refine get_next (Heap.get?_push_size _ rfl) rfl rfl rfl ?_
    obtain ⟨S4, le4⟩ := S3.new (ob := mwObj s2.heap.objs.size) (x := exactO (mwObj s2.heap.objs.size)) (t := s2.toks + 1) rfl fun v _ => rfl
    exact h _ _ _ _ ⟨_, _, rfl, rfl⟩ S4 (le1.trans (le2.trans (le3.trans le4))) rfl
end
end
section
section
variable {n : Nat} {Γ : Cx} {loc loc' loc1 loc2 : Loc} {led led' led1 led2 led3 pre post fp : Led} {s : Shared} {P : Out → Prop} {xs : List Str} {vs : List (Option V)}
theorem add_ll {as bs : List PyData} (hz : as.length + bs.length ≤ sizeLine) : Op2 (binaryOp .Add) (.d (.list as)) (.d (.list bs)) (.d (.list (as ++ bs))) := fun n Γ loc led s u v Q E O S ra rb h => by
  refine aside fun zk => ?_
  obtain ⟨l, ⟨c1, d1, t1, sl1⟩, vs, k, us, rfl, h1, h2, h3, h4⟩ := rep_list ra
  obtain ⟨b, ⟨c2, d2, t2, sl2⟩, ws, k2, us2, rfl, g1, g2, g3, g4⟩ := rep_list rb
  apply zk
  simp only at h2 h3 g2 g3
  refine aside fun zk => ?_
  subst h2 h3 g2 g3
  apply zk
  have e1 := readsAll_length h4
  have e2 := readsAll_length g4
  have h1' := (vget h1)
  have g1' := (vget g1)
  refine concat_meets ⟨_, h1', rfl⟩ ⟨_, g1', rfl⟩ noFill_list_add seq_list_add PySem.F.slot_list_add PySem.F.entry_list_add (PySem.F.args_list_add_2 _ _) (list_addW l b vs ws k k2 d1 d2 sl1 sl2 (by rw [← Array.length_toList, ← Array.length_toList, e1, e2]; exact hz)) ⟨h1', g1', ?_⟩
  obtain ⟨S4, le4, g⟩ := S.push (o := { cls := .type "list", data := .seq (vs ++ ws) }) (t := s.toks) rfl
  obtain ⟨cs, r⟩ := readsAll_app (readsAll_sub (.of le4) h4) (readsAll_sub (.of le4) g4)
  exact h _ _ S4 le4 ⟨_, .list g rfl rfl (by simpa using r)⟩
theorem len_lst {R : Addr} {ds : List PyData} (hz : ds.length ≤ sizeLine) : OpN n (fun vals => PySem.call (.builtin "len") vals) [.raw (.ref R)] [(R, lstO ds)] (.d (.int ds.length)) [(R, lstO ds)] := fun Γ loc led s vals Q E O S rs h => by
  cases rs with
  | cons r1 q => cases q with
    | nil =>
      refine aside fun zk => ?_
      cases r1
      obtain ⟨h1, h2, o, h3, vals, k, as, rfl, r⟩ := S.ld _ (.head _)
      apply zk
      have e := readsAll_length r
      have e' : vals.size = ds.length := by rw [← Array.length_toList, e]
      exact call_len_list ⟨_, h3, rfl, k, rfl⟩ (by rw [big] at hz; lia) (h _ _ (S.toks _) Le.rfl (by rw [e']; exact of_int))
theorem Ex1G.setDict (O : Ok n Γ) {ov iv value : Expr} {p pos : Pos} {N : Addr} {kvs : List (Str × Value)} {k : Str} {i : Int} (h1 : Ep Γ loc (pre ++ (N, n2iO Γ.w kvs) :: post) value (.d (.int i))) (h2 : Ep Γ loc (pre ++ (N, n2iO Γ.w kvs) :: post) ov (.raw (.ref N))) (h3 : Ep Γ loc (pre ++ (N, n2iO Γ.w kvs) :: post) iv (.d (.str k)))
    (hz : kvs.length ≤ sizeLine) (hP : ∀ t, P (.next loc (pre ++ (N, n2iO Γ.w (stored kvs k (.int i t))) :: post))) (hs : autoParam (swapsWith value (some (.Subscript ov iv p)) pos.line Γ.env = pure false) aR) :
    Ex1G Γ loc (pre ++ (N, n2iO Γ.w kvs) :: post) (.Assign [.Subscript ov iv p] value pos) P := fun s Q E S h =>
  wpAny_Assign_Subscript (h1 s _ E S fun v s1 S1 le1 rv => h2 s1 _ E S1 fun u s2 S2 le2 ru => h3 s2 _ E S2 fun w s3 S3 le3 rw_ => by
    cases ru
    obtain ⟨t, rfl⟩ := rep_str rw_
    obtain ⟨t', rfl⟩ := rep_int rv
    exact dset O S3 hz fun s4 S4 le4 => h _ _ _ (hP t') ⟨rfl, S4, le1.trans (le2.trans (le3.trans le4))⟩) hs
theorem Ex1G.appendG (O : Ok n Γ) {o e : Expr} {apos pos spos : Pos} {T : Addr} {k : Nat} {R : V → Led → Prop} (h1 : Ep Γ loc led o (.raw (.ref T))) (hT : ∃ top, (T, itsO k top) ∈ led) (h2 : EvG Γ loc led e R)
    (h3 : ∀ v d, R v d → ∃ mw pre post top, v = .raw (.ref mw) ∧ d = pre ++ (T, itsO k top) :: post ∧ P (.next loc (pre ++ (T, itsO (k + 1) (some mw)) :: post))) (hz : k ≤ sizeLine)
    (hs : autoParam (starEach [e] Γ.env = [(false, eval e Γ.env)]) aR) (hi : autoParam (interactive Γ.env = false) aR) (hsw : autoParam (swapsWith (.Call (.Attribute o "append" apos) [e] [] pos) none spos.line Γ.env = pure false) aR)
    {pl : Sem Bool} (he : autoParam (eval (.Call (.Attribute o "append" apos) [e] [] pos) Γ.env = (do let ov ← eval o Γ.env; standAt apos.atName; let (f, first) ← holding [ov] (getMethod ov "append" pl); callWith pos f first (backTo pos (starEach [e] Γ.env)) (backToKw pos (keywordEach [] Γ.env)))) aR) :
    Ex1G Γ loc led (.Expr (.Call (.Attribute o "append" apos) [e] [] pos) spos) P := fun s Q E S h => by
  refine wpAny_Expr_any ?_ hi hsw
  refine methodCall_KW (h1 s _ E S fun a s1 S1 le1 ra => ?_) he
  refine aside fun zk => ?_
  cases ra
  obtain ⟨top, hT⟩ := hT
  obtain ⟨_, _, ob, g3, vals, ep, rfl, _⟩ := S1.ld _ hT
  apply zk
  refine getMethod_builtin ⟨_, g3, rfl⟩ PySem.F.plainAttrs_list PySem.F.slot_list_append PySem.F.type_list_append (fun b e => by cases e; exact ⟨_, g3, rfl⟩) ?_
  have hp : (backTo pos (starEach [e] Γ.env)).any (·.1) = false := by rw [hs]; rfl
  refine callWith_of (P := fun h => (KF Γ.w).In h) (by rw [hp]; rfl) (fun h X => keep_blt h X) ?_
  rw [hs]
  refine evalArgs_plain (spliced_cons (h2 s1 _ E S1 fun v d v' s2 r S2 le2 rv => ?_))
  refine aside fun zk => ?_
  obtain ⟨mw, pre, post, top2, rfl, rfl, hP⟩ := h3 v d r
  cases rv
  apply zk
  refine spliced_nil ⟨KX O S2, ?_⟩
  refine aside fun zk => ?_
  obtain ⟨_, _, ob, g4, vals2, ep2, rfl, z1, _⟩ := S2.ld (T, itsO k top2) (by simp)
  apply zk
  refine append_at g4 (fun h' hs' g' => ?_) (by lia)
  obtain ⟨S4, le4⟩ := S2.setLed (x' := itsO (k + 1) (some mw)) (t := s2.toks) O hs' g' fun v kk => ⟨_, _, rfl, by simp [z1], fun a ha => by cases ha; simp [← z1]⟩
  exact h _ _ _ hP ⟨rfl, S4, le1.trans (le2.trans le4)⟩
end
end
section
theorem isStr_shape {w : World} {k : Str} {v : Value} (h : (PySem.strKind PP w).is k v = true) : ∃ t, v = .str k t := PySem.Value.isStrOf_shape h
theorem srcP_n2i {w : World} {N : Addr} {ob : Obj} {kvs : List (Str × Value)} (hN : N ≠ 1) (hob : ob.IsDictOf (PySem.strKind PP w) kvs) : SrcP w [(N, ob)] (.raw (.ref N)) (kvs.map fun p => V.d (.str p.1)) := fun n Γ loc led s a Q E hw O S hp ra h => by
  subst hw
  cases ra
  have g1 := pin_get S hp (.head _)
  obtain ⟨ep, ha⟩ := KdkAt.of hob
  obtain ⟨f1, f2, f3⟩ := S.fresh
  refine wpAny_pyIter_dict (by simpa [sysModules] using hN) (ha.dictAt g1) ?_
  obtain ⟨S4, le4, g⟩ := S.push (o := { cls := .type "dict_keyiterator", data := .fields #[.ref N, .int 0 0, .int kvs.length 0, .int ep 0] }) (t := s.toks) rfl
  have hne : N ≠ s.heap.objs.size := Nat.ne_of_lt (Heap.lt_size g1)
  have W := Walks.dictKeys (prog := PP) (w := Γ.w) (A := Γ.A) (knd := PySem.strKind PP Γ.w) O.hh s.heap.objs.size N hne kvs ep
  have e : kvs.length = (kvs.map fun p => V.d (.str p.1)).length := by rw [List.length_map]
  refine h s.heap.objs.size _ [s.heap.objs.size, N] _ _ ⟨e ▸ W, ⟨⟨_, (vget g), rfl, by rw [← e]; rfl⟩, e ▸ ha.dictAt (Heap.get?_push_of_some _ g1)⟩, S4, f2, ?_, ?_, f3, ?_⟩ le4 f1
  · intro b hb
    rcases List.mem_cons.mp hb with rfl | hb
    · exact .inl ⟨f2, _, (vget g)⟩
    · rw [List.mem_singleton.mp hb]; exact .inr (.head _)
  · rintro i v hi ⟨k, x, hx, hk⟩
    refine aside fun zk => ?_
    obtain ⟨t, rfl⟩ := isStr_shape hk
    apply zk
    exact ⟨.d (.str k), by rw [List.getElem?_map, hx]; rfl, of_str⟩
  · rintro i h ⟨⟨o, ho, hc, hd⟩, _⟩
    exact ⟨o, _, _, ho, hc, hd, by decide⟩
theorem keep_mw {M : Model} {it mw : Addr} (h : Heap) (X : h.get? mw = some (mwObj it)) : ∃ k, (k = Keeper.frame ∨ k = Keeper.machine ∨ k = Keeper.boundFrame) ∧ Looks M h (keeperOf (.ref mw)) k :=
  ⟨.machine, .inr (.inl rfl), (Looks.ld (part := none) X).andThen .now⟩
section
variable {n : Nat} {Γ : Cx} {loc loc' loc1 loc2 : Loc} {led led' led1 led2 led3 pre post fp : Led} {s : Shared} {P : Out → Prop} {xs : List Str} {vs : List (Option V)}
theorem Ev.drop {e : Expr} {v : V} {p : Addr × O} (h : Ev Γ loc led e v loc1 (p :: led1)) : Ev Γ loc led e v loc1 led1 := fun s Q E S k =>
  h s Q E S fun v' s' S' le r => k v' s' S'.drop.1 (le.trans S'.drop.2) (r.keeps S'.drop.2)
theorem Ev.dropL {e : Expr} {v : V} : ∀ (X : Led), Ev Γ loc led e v loc1 (X ++ led1) → Ev Γ loc led e v loc1 led1
  | [], h => h
  | _ :: X, h => Ev.dropL X (Ev.drop h)
theorem Ev.knownE {e : Expr} {v : V} {a : Addr} {x x' : O} (h : Ev Γ loc led e v loc1 (pre ++ (a, x) :: post)) (hx : ∀ h o, x.p h o → x'.p h o) : Ev Γ loc led e v loc1 (pre ++ (a, x') :: post) := fun s Q E S k =>
  h s Q E S fun v' s' S' le r => k v' s' (S'.known fun h o _ p => hx h o p) (le.trans le_known) (r.keeps le_known)
theorem Ev.dsubP (O : Ok n Γ) {ob e : Expr} {pos : Pos} {N : Addr} {dob : Obj} {kvs : List (Str × Value)} {k : Str} {v : Value} (h1 : Ev Γ loc led ob (.raw (.ref N)) loc1 led1) (h2 : Ev Γ loc1 led1 e (.d (.str k)) loc2 led2) (hN : (N, exactO dob) ∈ led2) (hob : dob.IsDictOf (PySem.strKind PP Γ.w) kvs) (hv : valueAt kvs k = some v)
    (hs : autoParam (∀ o i, ∃ ops, subscripted e false o i = operate ops (getItem o i)) aE) : Ev Γ loc led (.Subscript ob e pos) (.raw v) loc2 led2 := fun s Q E S h => by
  refine Subscript_ (h1 s _ E S fun a s1 S1 le1 ra => h2 s1 _ E S1 fun b s2 S2 le2 rb => ?_)
  cases ra
  obtain ⟨t, rfl⟩ := rep_str rb
  obtain ⟨ops, e⟩ := hs (.ref N) (.str k t)
  obtain ⟨_, _, o, h3, h4⟩ := S2.ld _ hN
  have h4 : o = dob := h4
  subst h4
  have D2 : s2.heap.DictOf (PySem.strKind PP Γ.w) N kvs := Heap.dictOf_iff.mpr ⟨_, h3, hob⟩
  exact tail_any D2.typeIs PySem.slot_dict_getitem.lookup (wpAny_getItem_of (strKind_is _ _ k t) D2.mapOf hv (h _ _ (S2.toks _) (le1.trans le2) rfl)) e
theorem Ev.rawI {e : Expr} {i : Int} {t : Tok} (h : Ev Γ loc led e (.raw (.int i t)) loc1 led1) : Ev Γ loc led e (.d (.int i)) loc1 led1 := fun s Q E S k =>
  h s Q E S fun v' s' S' le r => by cases r; exact k _ _ S' le of_int
theorem EvG.iterNextL (O : Ok n Γ) {e : Expr} {p pos pos' : Pos} {l : Addr} {ds : List PyData} (hc : Ep Γ loc led (.Name "iter" p) (.raw (.builtin "iter"))) (h1 : Ep Γ loc led e (.raw (.ref l))) (hl : (l, lstO ds) ∈ led)
    (hs : autoParam (starEach [e] Γ.env = [(false, eval e Γ.env)]) aR)
    (he : autoParam (eval (.Attribute (.Call (.Name "iter" p) [e] [] pos) "__next__" pos') Γ.env = (do let o ← eval (.Call (.Name "iter" p) [e] [] pos) Γ.env; standAt pos'.atName; let r ← holding [o] (getAttr o "__next__" true); letTemporaryGo (.Call (.Name "iter" p) [e] [] pos) o r; pure r)) aU) :
    EvG Γ loc led (.Attribute (.Call (.Name "iter" p) [e] [] pos) "__next__" pos') (fun v d => ∃ it mw, v = .raw (.ref mw) ∧ d = (mw, exactO (mwObj it)) :: (it, itO l 0) :: led) := fun s Q E S h => by
  refine Attribute_any_ (Call_Name rfl (hc s _ E S fun a s1 S1 le1 ra => ?_)) he
  cases ra
  have hp : (backTo pos (starEach [e] Γ.env)).any (·.1) = false := by rw [hs]; rfl
  refine callWith_of (P := fun h => (KF Γ.w).In h) (by rw [hp]; rfl) (fun h X => keep_blt h X) (evalArgs_es hp (Es.cons h1 Es.nil (by rw [hs]; rfl) pos s1 _ E S1 fun vals s2 S2 le2 rs => ⟨KX O S2, ?_⟩))
  cases rs with
  | cons r1 q =>
    refine aside fun zk => ?_
    cases q
    cases r1
    obtain ⟨_, _, o, h3, vals, ep, as, rfl, r⟩ := S2.ld _ hl
    apply zk
    refine iter_list ⟨_, h3, rfl, ep, rfl⟩ ?_
    obtain ⟨S3, le3⟩ := S2.new (ob := { cls := .type "list_iterator", data := .fields #[.ref l, .int 0 0] }) (x := itO l 0) (t := s2.toks) rfl fun v _ => ⟨rfl, rfl⟩
    refine get_next (Heap.get?_push_size _ rfl) rfl rfl rfl ?_
    obtain ⟨S4, le4⟩ := S3.new (ob := mwObj s2.heap.objs.size) (x := exactO (mwObj s2.heap.objs.size)) (t := s2.toks + 1) rfl fun v _ => rfl
    exact h _ _ _ _ ⟨_, _, rfl, rfl⟩ S4 (le1.trans (le2.trans (le3.trans le4))) rfl
theorem Ev.callTop (O : Ok n Γ) {value slice : Expr} {pos pos' : Pos} {T mw it l : Addr} {k i : Nat} {ds : List PyData} {d : PyData} (h1 : Ep Γ loc (pre ++ (it, itO l i) :: post) value (.raw (.ref T))) (h2 : Ep Γ loc (pre ++ (it, itO l i) :: post) slice (.d (.int (-1))))
    (hT : (T, itsO k (some mw)) ∈ pre ++ (it, itO l i) :: post) (hm : (mw, exactO (mwObj it)) ∈ pre ++ (it, itO l i) :: post) (hl : (l, lstO ds) ∈ pre ++ (it, itO l i) :: post) (hx : ds[i]? = some d) (hz : k ≤ sizeLine)
    (hs : autoParam (∀ o i, ∃ ops, subscripted slice false o i = operate ops (getItem o i)) aE)
    (he : autoParam (eval (.Call (.Subscript value slice pos') [] [] pos) Γ.env = (do callWith pos (← eval (.Subscript value slice pos') Γ.env) [] (backTo pos (starEach [] Γ.env)) (backToKw pos (keywordEach [] Γ.env)))) aR) :
    Ev Γ loc (pre ++ (it, itO l i) :: post) (.Call (.Subscript value slice pos') [] [] pos) (.d d) loc (pre ++ (it, itO l (i + 1)) :: post) := fun s Q E S h => by
  refine Call_ (Subscript_ (h1 s _ E S fun u s1 S1 le1 ra => h2 s1 _ E S1 fun b s2 S2 le2 rb => ?_)) he
  refine aside fun zk => ?_
  cases ra
  obtain ⟨t, rfl⟩ := rep_int rb
  obtain ⟨ops, e⟩ := hs (.ref T) (.int (-1) t)
  obtain ⟨_, _, o, g3, vals, ep, rfl, z1, z2⟩ := S2.ld _ hT
  obtain ⟨z3, z4⟩ := z2 mw rfl
  apply zk
  refine tail_any ⟨_, g3, rfl⟩ PySem.slot_list_getitem.lookup (wpAny_getItem_list_neg ⟨_, g3, rfl, ep, rfl⟩ (by decide) (by lia) (by decide) (x := .ref mw) ?_ ?_) e
  · have : ((-1 : Int) + (vals.size : Nat)).toNat = k - 1 := by lia
    rw [this]; exact z3
  refine aside fun zk => ?_
  obtain ⟨_, _, om, m3, m4⟩ := S2.ld _ hm
  have m4 : om = mwObj it := m4
  subst m4
  apply zk
  refine callWith_of (P := fun h => h.get? mw = some (mwObj it)) rfl keep_mw (evalArgs_nil3 ⟨m3, ?_⟩)
  refine aside fun zk => ?_
  obtain ⟨_, _, oi, i3, i4, i5⟩ := S2.ld (it, itO l i) (by simp)
  obtain ⟨_, _, ol, l3, lvals, lep, las, rfl, lr⟩ := S2.ld _ hl
  obtain ⟨x, bs, hx', rx⟩ := readsAll_get lr hx
  apply zk
  refine wpAny_call_next m3 ⟨_, i3, i4, i5⟩ ⟨_, l3, rfl, lep, rfl⟩ (i := i) (x := x) (by simpa using hx') fun h' hit hsb => ?_
  refine aside fun zk => ?_
  obtain ⟨o', ho', hc', hd'⟩ := hit
  obtain ⟨S4, le4⟩ := S2.setLed (x' := itO l (i + 1)) (t := s2.toks) O hsb ho' fun v _ => ⟨hc', hd'⟩
  apply zk
  exact h _ _ S4 (le1.trans (le2.trans le4)) ((RepV.keeps (x := .d d) ⟨_, rx⟩ le4))
theorem Ex1G.tryOk {body : List Stmt} {h₀ : ExceptHandler} {hs : List ExceptHandler} {pos : Pos} (h : ExG Γ loc led body P) : Ex1G Γ loc led (.Try body (h₀ :: hs) [] [] pos) P := fun s Q E S k =>
  wpAny_Try_except (h s _ _ S fun o f s1 p x => by
    cases o with
    | next l d => obtain ⟨rfl, S1, le⟩ := x; exact wpAny_execs_nil (k _ _ _ p ⟨rfl, S1, le⟩)
    | brk l d => obtain ⟨rfl, S1, le⟩ := x; exact k _ _ _ p ⟨rfl, S1, le⟩
    | cont l d => obtain ⟨rfl, S1, le⟩ := x; exact k _ _ _ p ⟨rfl, S1, le⟩
    | ret v l d => obtain ⟨v', rfl, S1, le, r⟩ := x; exact k _ _ _ p ⟨v', rfl, S1, le, r⟩)
theorem Ex1G.brk {pos : Pos} (h : P (.brk loc led)) : Ex1G Γ loc led (.Break pos) P := Ex1.brk.toG h
theorem Ex1G.cont {pos : Pos} (h : P (.cont loc led)) : Ex1G Γ loc led (.Continue pos) P := Ex1.cont.toG h
theorem ExG.last {st : Stmt} {b : List Stmt} (h : Ex1G Γ loc led st (fun o => match o with | .next _ _ => False | o => P o)) : ExG Γ loc led (st :: b) P := ExG.seq fun s Q E S k => h s Q E S fun o f s' p x => k o f s' (by cases o with | next => exact p.elim | _ => exact p) x
theorem Bt.tt {k : Nat} {pos : Pos} (O : Ok n Γ) : Bt Γ loc led (.Constant (.bool true) k pos) true loc led := Bt.of O Ev.bool tru_bool
theorem Ex1G.mono {st : Stmt} {P' : Out → Prop} (h : Ex1G Γ loc led st P) (hP : ∀ o, P o → P' o) : Ex1G Γ loc led st P' := fun s Q E S k => h s Q E S fun o f s' p => k o f s' (hP o p)
end
end
section
section
variable {n : Nat} {Γ : Cx} {loc loc' loc1 loc2 : Loc} {led led' led1 led2 led3 pre post fp : Led} {s : Shared} {P : Out → Prop} {xs : List Str} {vs : List (Option V)}
theorem Ev.callKeep (O : Ok n Γ) {x : Str} {p : Pos} {as : List Expr} {pos : Pos} {fv : Value} {us : List V} {v : V} {a : Addr} {ao : Mine.O} (hf : Ep Γ loc led (.Name x p) (.raw fv)) (hk : Keep Γ.w fv) (ha : Es Γ loc led as us loc led) (hm : (a, ao) ∈ led)
    (ho : OpN n (fun vals => PySem.call fv vals) us [(a, ao)] v [(a, ao)]) (he : autoParam (∀ pos, (backTo pos (starEach as Γ.env)).any (·.1) = false) aI) : Ep Γ loc led (.Call (.Name x p) as [] pos) v := fun s Q E S h => by
  refine Call_Name rfl (hf s _ E S fun a1 s1 S1 le1 ra => ?_)
  cases ra
  refine callWith_of (P := fun h => (KF Γ.w).In h) (by rw [he pos]; rfl) (fun h X => hk h X) (evalArgs_es (he pos) (ha pos s1 _ E S1 fun vals s2 S2 le2 rs => ⟨KX O S2, ?_⟩))
  refine aside fun zk => ?_
  obtain ⟨pre, post, rfl⟩ := List.append_of_mem hm
  obtain ⟨S3, le3⟩ := S2.perm (l' := [(a, ao)] ++ (pre ++ post)) List.perm_middle
  apply zk
  refine ho Γ loc (pre ++ post) s2 vals Q E O S3 (rs.keeps le3) fun v' s4 S4 le4 rv => ?_
  obtain ⟨S5, le5⟩ := St.perm (l := (a, ao) :: (pre ++ post)) (l' := pre ++ (a, ao) :: post) S4 List.perm_middle.symm
  exact h v' s4 S5 (le1.trans (le2.trans (le3.trans (le4.trans le5)))) (rv.keeps le5)
end
noncomputable def fcPath (next : Str → Str) (r : Str) : Nat → Str
  | 0 => r
  | j + 1 => next (fcPath next r j)
noncomputable def fcKvs (f : Nat → Str) (ts : Nat → Tok) (c : Nat) : List (Str × Value) := (List.range c).map fun a => (f a, Value.int (a : Int) (ts a))
theorem fcKvs_at {f : Nat → Str} {ts : Nat → Tok} {m : Nat} (hi : ∀ a b, a < m → b < m → f a = f b → a = b) : ∀ (c j : Nat), c ≤ m → j < c → valueAt (fcKvs f ts c) (f j) = some (.int (j : Int) (ts j))
  | 0, j, _, h => by lia
  | c + 1, j, hc, hj => by
    unfold fcKvs valueAt
    rw [List.range_succ, List.map_append, List.find?_append]
    by_cases q : j < c
    · have := fcKvs_at (ts := ts) hi c j (by lia) q
      unfold fcKvs valueAt at this
      obtain ⟨p, hp, e⟩ := Option.map_eq_some_iff.mp this
      rw [hp]
      simp [e]
    · have : j = c := by lia
      subst this
      have hn : ((List.range j).map fun a => (f a, Value.int (a : Int) (ts a))).find? (fun e => e.1 = f j) = none := List.find?_eq_none.mpr fun p hp => by
        obtain ⟨a, ha, rfl⟩ := List.mem_map.mp hp
        have ha := List.mem_range.mp ha
        have : f a ≠ f j := fun e => by have := hi a j (by lia) (by lia) e; lia
        simpa using this
      rw [hn]
      simp
theorem fcKvs_none {f : Nat → Str} {ts : Nat → Tok} {m c : Nat} (hi : ∀ a b, a < m → b < m → f a = f b → a = b) (hc : c < m) : valueAt (fcKvs f ts c) (f c) = none := by
  unfold fcKvs valueAt
  have hn : ((List.range c).map fun a => (f a, Value.int (a : Int) (ts a))).find? (fun e => e.1 = f c) = none := List.find?_eq_none.mpr fun p hp => by
    obtain ⟨a, ha, rfl⟩ := List.mem_map.mp hp
    have ha := List.mem_range.mp ha
    have : f a ≠ f c := fun e => by have := hi a c (by lia) hc e; lia
    simpa using this
  rw [hn]; rfl
theorem fcKvs_snoc (f : Nat → Str) (ts : Nat → Tok) (c : Nat) (t : Tok) : fcKvs f ts c ++ [(f c, Value.int (c : Int) t)] = fcKvs f (fun a => if a = c then t else ts a) (c + 1) := by
  unfold fcKvs
  rw [List.range_succ, List.map_append]
  congr 1
  · refine List.map_congr_left fun a ha => ?_
    have := List.mem_range.mp ha
    show _ = (f a, Value.int (a : Int) (if a = c then t else ts a))
    rw [if_neg (by lia)]
  · simp
theorem fc_cut (f : Nat → Str) {j m : Nat} (h : j < m) : (((List.range m).map f).map PyData.str).drop j ++ [.str (f m)] = ((List.range (m - j + 1)).map fun t => f (j + t)).map PyData.str := by
  rw [List.range_succ, List.map_append, List.map_append, List.map_drop.symm]
  congr 1
  · rw [List.map_map]
    have : ((List.range m).map f).drop j = (List.range (m - j)).map fun t => f (j + t) := by
      apply List.ext_getElem
      · simp
      · intro i h1 h2; simp
    rw [this, List.map_map]
  · show _ = [PyData.str (f (j + (m - j)))]
    rw [Nat.add_sub_cancel' (Nat.le_of_lt h)]
theorem find_cycle_op (w : World) (σ : Srt) (next : Str → Str) {i0 : Info} {is' : List Info} (hN : σ.N ≠ 1) (h0 : σ.is = i0 :: is') (hn : (rowsOf σ.is).Nodup) (hx : ∀ r ∈ rowsOf σ.is, next r ∈ rowsOf σ.is) (hs : ∀ i ∈ σ.is, i.succ = [next i.row]) {m j : Nat} (hjm : j < m) (hm : m ≤ 100)
    (hrep : fcPath next i0.row m = fcPath next i0.row j) (hinj : ∀ a b, a < m → b < m → fcPath next i0.row a = fcPath next i0.row b → a = b) :
    OpC w 1 229 [.raw (.ref σ.S)] (σ.led w) (fun v d => v = .d (strsD ((List.range (m - j + 1)).map fun t => fcPath next i0.row (j + t))) ∧ d = σ.led w) := by
  refine call_defW (n := 0) ["self"] ["n2i", "stack", "itstack", "seen", "node2stacki", "node"] (fun w => by exact rfl) (fun w => by kernel_rfl) (binds_pos (by exact bind1 fun _ _ => BindsTo.of_eq rfl)) rfl (by decide) rfl (fun C L => ⟨by decide, by decide, rfl, rfl⟩) fun C L hw O l => ?_
  subst hw
  have hS : (σ.S, exactO (instObj 239 σ.D)) ∈ σ.led C.w := .head _
  have hD : (σ.D, attrO C.w σ.N σ.rv σ.p σ.q) ∈ σ.led C.w := .tail _ (.head _)
  generalize hf : fcPath next i0.row = f at *
  have f0 : f 0 = i0.row := by rw [← hf]; rfl
  have fs : ∀ c, f (c + 1) = next (f c) := fun c => by rw [← hf]; rfl
  have fm : ∀ c, f c ∈ rowsOf σ.is := fun c => by
    induction c with
    | zero => rw [f0, h0]; exact .head _
    | succ c ih => rw [fs]; exact hx _ ih
  refine ExG.let_ O l 1 (Ev.attr (Ev.nm O l 0) (ga_n2i O hS hD)) ?_
  refine ExG.newI O l 2 (EvN.lst Es.nil AllD.nil) fun stk => ?_
  refine ExG.newI O l 3 (EvN.lst Es.nil AllD.nil) fun T => ?_
  refine ExG.known (pre := []) (x' := itsO 0 none) (fun h o ⟨vals, k, as, e, r⟩ => ⟨vals, k, e, by have := readsAll_length r; simpa using this, fun a q => nomatch q⟩) ?_
  refine ExG.letG O l 4 (EvG.set0 O (nm_b_set O rfl)) fun v d ⟨seen, e1, e2⟩ => ?_
  subst e1 e2
  refine ExG.letG O l 5 (EvG.dict0 O) fun v d ⟨n2s, hn2s, e1, e2⟩ => ?_
  subst e1 e2
  refine ExG.perm (l' := (stk, lstO []) :: (n2s, n2iO C.w []) :: (seen, setO C.w (fun _ => false) 0) :: (T, itsO 0 none) :: σ.led C.w) ?_ (List.perm_middle (l₁ := [_, _, _]))
  refine ExG.pin (a := σ.N) (x := n2iO C.w (kvsOfI σ.is)) (pre := [(stk, lstO []), (n2s, n2iO C.w []), (seen, setO C.w (fun _ => false) 0), (T, itsO 0 none), (σ.S, exactO (instObj 239 σ.D)), (σ.D, attrO C.w σ.N σ.rv σ.p σ.q)]) (post := infosLed σ.is) fun ob hob => ?_
  have hob : ob.IsDictOf (PySem.strKind PP C.w) (kvsOfI σ.is) := let ⟨_, h⟩ := hob; h
  generalize hrest : (σ.S, exactO (instObj 239 σ.D)) :: (σ.D, attrO C.w σ.N σ.rv σ.p σ.q) :: (σ.N, exactO ob) :: infosLed σ.is = rest
  have hNr : (σ.N, exactO ob) ∈ rest := by rw [← hrest]; exact .tail _ (.tail _ (.head _))
  have hinf : ∀ i ∈ σ.is, (i.a, infoO i.row i.np i.l) ∈ rest ∧ (i.l, lstO (i.succ.map .str)) ∈ rest := fun i hi => by
    rw [← hrest]
    have h1 : ∀ p ∈ i.led, p ∈ infosLed σ.is := fun p hp => List.mem_flatMap.mpr ⟨i, hi, hp⟩
    exact ⟨.tail _ (.tail _ (.tail _ (h1 _ (.head _)))), .tail _ (.tail _ (.tail _ (h1 _ (.tail _ (.head _)))))⟩
  have hq : ([(stk, lstO []), (n2s, n2iO C.w []), (seen, setO C.w (fun _ => false) 0), (T, itsO 0 none), (σ.S, exactO (instObj 239 σ.D)), (σ.D, attrO C.w σ.N σ.rv σ.p σ.q)] ++ (σ.N, exactO ob) :: infosLed σ.is : Led) = (stk, lstO []) :: (n2s, n2iO C.w []) :: (seen, setO C.w (fun _ => false) 0) :: (T, itsO 0 none) :: rest := by rw [← hrest]; rfl
  rw [hq]
  refine ExG.seq (Ex1G.for_ O [(σ.N, ob)] (Ev.nm O l 1) (srcP_n2i hN hob) (fun k loc led => k = 0 ∧ loc = mk ["self", "n2i", "stack", "itstack", "seen", "node2stacki", "node"] [some (.raw (.ref σ.S)), some (.raw (.ref σ.N)), some (.raw (.ref stk)), some (.raw (.ref T)), some (.raw (.ref seen)), some (.raw (.ref n2s)), none] ∧ led = (stk, lstO []) :: (n2s, n2iO C.w []) :: (seen, setO C.w (fun _ => false) 0) :: (T, itsO 0 none) :: rest) ⟨rfl, rfl, rfl⟩ (fun k loc led hK p hp => ?_) (fun k y loc led hy hK => ?_) fun loc led hK => ?_)
  · obtain ⟨_, _, rfl⟩ := hK
    rw [List.mem_singleton.mp hp]
    exact .tail _ (.tail _ (.tail _ (.tail _ hNr)))
  · obtain ⟨rfl, rfl, rfl⟩ := hK
    have hy : y = .d (.str (f 0)) := by rw [h0] at hy; rw [f0]; exact (Option.some.inj hy).symm
    subst hy
    refine ⟨_, As.nm O l 6, ?_⟩
    refine ExG.cons (Ex1.ifF (Bt.inSet O (Ev.nm O l 6) (Ev.nm O l 4) (.tail _ (.tail _ (.head _)))) Ex.nil) ?_
    refine ExG.last (Ex1G.while_ O (fun fuel loc led => ∃ c S' ts top, c ≤ m ∧ fuel = m - c ∧ (∀ x, S' x = true ↔ ∃ a, a < c ∧ f a = x) ∧ loc = mk ["self", "n2i", "stack", "itstack", "seen", "node2stacki", "node"] [some (.raw (.ref σ.S)), some (.raw (.ref σ.N)), some (.raw (.ref stk)), some (.raw (.ref T)), some (.raw (.ref seen)), some (.raw (.ref n2s)), some (.d (.str (f c)))] ∧
      led = (stk, lstO (((List.range c).map f).map .str)) :: (n2s, n2iO C.w (fcKvs f ts c)) :: (seen, setO C.w S' c) :: (T, itsO c top) :: rest) (fun fuel loc led hK => ?_) m ⟨0, fun _ => false, fun _ => 0, none, by omega, by omega, fun x => ⟨fun h => (nomatch h), fun ⟨a, h, _⟩ => by omega⟩, rfl, rfl⟩)
    refine aside fun zk => ?_
    obtain ⟨c, S', ts, top, hc, rfl, hS', rfl, rfl⟩ := hK
    apply zk
    refine .inr ⟨_, _, Bt.tt O, ?_⟩
    have zc : (((List.range c).map f).map PyData.str).length ≤ sizeLine := by simp [big]; omega
    by_cases hcm : c = m
    · subst hcm
      have s1 : S' (f c) = true := (hS' _).mpr ⟨j, hjm, hrep.symm⟩
      refine ExG.last (Ex1G.ifT (Bt.cast s1 (Bt.inSet (S' := S') (m := c) (k := f c) O (Ev.nm O l 6) (Ev.nm O l 4) (.tail _ (.tail _ (.head _))))) ?_)
      have kv := fcKvs_at (ts := ts) hinj c j (Nat.le_refl _) hjm
      rw [← hrep] at kv
      refine ExG.last (Ex1G.ifT (Bt.cast (b := (valueAt (fcKvs f ts c) (f c)).isSome) (by rw [kv]; rfl) (Ev.dinB O (Ev.nm O l 6) (Ev.nm O l 5) hn2s (.tail _ (.head _)))) ?_)
      refine ExG.freezeI l 2 ?_
      refine ExG.last (Ex1G.ret (R := fun v d => v = .d (strsD ((List.range (c - j + 1)).map fun t => f (j + t))) ∧ d = σ.led C.w) (Ev.toG (v := .d (strsD ((List.range (c - j + 1)).map fun t => f (j + t)))) (led' := σ.led C.w) ?_ ⟨rfl, rfl⟩) fun v d h => h)
      have ee : strsD ((List.range (c - j + 1)).map fun t => f (j + t)) = .list ((((List.range c).map f).map PyData.str).drop j ++ [.str (f c)]) := by rw [fc_cut f hjm]
      rw [ee]
      refine Ev.knownE (pre := [(σ.S, exactO (instObj 239 σ.D)), (σ.D, attrO C.w σ.N σ.rv σ.p σ.q)]) (a := σ.N) (x := exactO ob) (x' := n2iO C.w (kvsOfI σ.is)) (post := infosLed σ.is) ?_ (fun h o ho => by have ho : o = ob := ho; rw [ho]; exact hob)
      refine Ev.dropL [(n2s, n2iO C.w (fcKvs f ts c)), (seen, setO C.w S' c), (T, itsO c top)] ?_
      show Ev _ _ _ _ _ _ ((n2s, n2iO C.w (fcKvs f ts c)) :: (seen, setO C.w S' c) :: (T, itsO c top) :: (σ.S, exactO (instObj 239 σ.D)) :: (σ.D, attrO C.w σ.N σ.rv σ.p σ.q) :: (σ.N, exactO ob) :: infosLed σ.is)
      rw [hrest]
      refine Ev.bin O (Ev.sub O (Ev.nm O l 2) (Ev.slice (Pt.some (Ev.rawI (Ev.dsub O (Ev.nm O l 5) (Ev.nm O l 6) (.head _) kv))) Pt.none Pt.none) item_list (get_lfrom zc)) (Ev.lst (Es.cons (Ev.nm O l 6) Es.nil) (by repeat constructor)) (add_ll ?_)
      simp [big]; omega
    · refine aside fun zk => ?_
      have hlt : c < m := by omega
      have s1 : S' (f c) = false := by
        cases q : S' (f c) with
        | false => rfl
        | true => obtain ⟨a, ha, e⟩ := (hS' _).mp q; have := hinj a c (by omega) hlt e; omega
      have kn := fcKvs_none (ts := ts) hinj hlt
      obtain ⟨is1, i, is2, e1, hi⟩ := row_split (fm c)
      have him : i ∈ σ.is := by rw [e1]; simp
      have hv := kvs_get (e1 ▸ hn)
      rw [← e1, hi] at hv
      obtain ⟨hI, hL⟩ := hinf i him
      apply zk
      have sx : i.succ = [f (c + 1)] := by rw [hs i him, hi, fs]
      rw [sx] at hL
      refine ExG.seq (Ex1G.ifF (Bt.cast s1 (Bt.inSet (S' := S') (m := c) (k := f c) O (Ev.nm O l 6) (Ev.nm O l 4) (.tail _ (.tail _ (.head _))))) ?_)
      refine ExG.perm (l' := (seen, setO C.w S' c) :: (stk, lstO (((List.range c).map f).map .str)) :: (n2s, n2iO C.w (fcKvs f ts c)) :: (T, itsO c top) :: rest) ?_ (List.perm_middle (l₁ := [_, _]))
      refine ExG.seq (Ex1G.expr (EvG.methB (led2 := (stk, lstO (((List.range c).map f).map .str)) :: (n2s, n2iO C.w (fcKvs f ts c)) :: (T, itsO c top) :: rest) O (Ev.nm O l 4) (gm_set (.head _)) (Es.cons (Ev.nm O l 6) Es.nil) (setAdd_op s1 (by omega))) fun v d h => ?_)
      obtain ⟨fp', ⟨e1, e2⟩, e3⟩ := h
      subst e1 e2 e3
      generalize hS2 : (fun x => S' x || decide (x = f c)) = S2
      have hS2' : ∀ x, S2 x = true ↔ ∃ a, a < c + 1 ∧ f a = x := fun x => by
        rw [← hS2]
        simp only [Bool.or_eq_true, decide_eq_true_eq, hS']
        constructor
        · rintro (⟨a, h1, h2⟩ | rfl)
          · exact ⟨a, by omega, h2⟩
          · exact ⟨c, by omega, rfl⟩
        · rintro ⟨a, h1, h2⟩
          by_cases q : a = c
          · subst q; exact .inr h2.symm
          · exact .inl ⟨a, by omega, h2⟩
      refine ExG.seq (Ex1G.appendG (k := c) O (Ev.nm O l 3) ⟨top, .tail _ (.tail _ (.tail _ (.head _)))⟩ (EvG.iterNextL (ds := [.str (f (c + 1))]) O (nm_b_iter O rfl) (Ev.attr (Ev.dsubP O (Ev.nm O l 1) (Ev.nm O l 6) (.tail _ (.tail _ (.tail _ (.tail _ hNr)))) hob hv) (ga_succ O (.tail _ (.tail _ (.tail _ (.tail _ hI)))))) (.tail _ (.tail _ (.tail _ (.tail _ hL))))) (fun v d ⟨it, mw, e1, e2⟩ => ?_) (by rw [big]; omega))
      subst e1 e2
      refine ⟨mw, [(mw, exactO (mwObj it)), (it, itO i.l 0), (seen, setO C.w S2 (c + 1)), (stk, lstO (((List.range c).map f).map .str)), (n2s, n2iO C.w (fcKvs f ts c))], rest, top, rfl, rfl, ?_⟩
      refine ExG.seq (Ex1G.setDict (N := n2s) (kvs := fcKvs f ts c) (k := f c) (i := c) (pre := [(mw, exactO (mwObj it)), (it, itO i.l 0), (seen, setO C.w S2 (c + 1)), (stk, lstO (((List.range c).map f).map .str))]) O (Ev.castI (by simp) (Ev.callKeep O (nm_b_len O rfl) keep_blt (Es.cons (Ev.nm O l 2) Es.nil) (.tail _ (.tail _ (.tail _ (.head _)))) (len_lst zc))) (Ev.nm O l 5) (Ev.nm O l 6) (by simp [fcKvs, big]; omega) fun t => ?_)
      rw [stored_absent kn, fcKvs_snoc]
      generalize (fun a => if a = c then t else ts a) = ts2
      refine ExG.perm (l' := (stk, lstO (((List.range c).map f).map .str)) :: (mw, exactO (mwObj it)) :: (it, itO i.l 0) :: (seen, setO C.w S2 (c + 1)) :: (n2s, n2iO C.w (fcKvs f ts2 (c + 1))) :: (T, itsO (c + 1) (some mw)) :: rest) ?_ (List.perm_middle (l₁ := [_, _, _]))
      have sn : ((List.range c).map f).map PyData.str ++ [.str (f c)] = ((List.range (c + 1)).map f).map .str := by rw [List.range_succ]; simp
      refine ExG.cons (Ex1.expr (v := .d .none) (led1 := (stk, lstO (((List.range (c + 1)).map f).map .str)) :: (mw, exactO (mwObj it)) :: (it, itO i.l 0) :: (seen, setO C.w S2 (c + 1)) :: (n2s, n2iO C.w (fcKvs f ts2 (c + 1))) :: (T, itsO (c + 1) (some mw)) :: rest) (sn ▸ Ev.meth (fp := [(stk, lstO (((List.range c).map f).map .str))]) (fp' := [(stk, lstO (((List.range c).map f).map PyData.str ++ [PyData.str (f c)]))]) (led2 := (mw, exactO (mwObj it)) :: (it, itO i.l 0) :: (seen, setO C.w S2 (c + 1)) :: (n2s, n2iO C.w (fcKvs f ts2 (c + 1))) :: (T, itsO (c + 1) (some mw)) :: rest) O (Ev.nm O l 2) (gm_lst (ds := ((List.range c).map f).map .str) slot_list_append type_list_append PySem.F.plainAttrs_list (.head _)) (Es.cons (Ev.nm O l 6) Es.nil) (append_op zc)) rfl rfl) ?_
      refine ExG.nil ?_
      have z1 : (((List.range (c + 1)).map f).map PyData.str).length ≤ sizeLine := by simp [big]; omega
      refine ExG.seq (Ex1G.while_ O (fun k loc led => k = 0 ∧ loc = mk ["self", "n2i", "stack", "itstack", "seen", "node2stacki", "node"] [some (.raw (.ref σ.S)), some (.raw (.ref σ.N)), some (.raw (.ref stk)), some (.raw (.ref T)), some (.raw (.ref seen)), some (.raw (.ref n2s)), some (.d (.str (f c)))] ∧ led = (stk, lstO (((List.range (c + 1)).map f).map .str)) :: (mw, exactO (mwObj it)) :: (it, itO i.l 0) :: (seen, setO C.w S2 (c + 1)) :: (n2s, n2iO C.w (fcKvs f ts2 (c + 1))) :: (T, itsO (c + 1) (some mw)) :: rest) (fun k loc led hK => ?_) 0 ⟨rfl, rfl, rfl⟩)
      obtain ⟨rfl, rfl, rfl⟩ := hK
      refine .inr ⟨_, _, Bt.cast (b := !(((List.range (c + 1)).map f).map PyData.str).isEmpty) (by simp) (Bt.lst O (Ev.nm O l 2) (.head _) z1), ?_⟩
      refine ExG.last (Ex1G.tryOk ?_)
      refine ExG.let_ O l 6 (v := .d (.str (f (c + 1)))) (led' := (stk, lstO (((List.range (c + 1)).map f).map .str)) :: (mw, exactO (mwObj it)) :: (it, itO i.l 1) :: (seen, setO C.w S2 (c + 1)) :: (n2s, n2iO C.w (fcKvs f ts2 (c + 1))) :: (T, itsO (c + 1) (some mw)) :: rest) (Ev.callTop (pre := [(stk, lstO (((List.range (c + 1)).map f).map .str)), (mw, exactO (mwObj it))]) (post := (seen, setO C.w S2 (c + 1)) :: (n2s, n2iO C.w (fcKvs f ts2 (c + 1))) :: (T, itsO (c + 1) (some mw)) :: rest) (k := c + 1) (ds := [.str (f (c + 1))]) O (Ev.nm O l 3) (Ev.neg O Ev.int) (.tail _ (.tail _ (.tail _ (.tail _ (.tail _ (.head _)))))) (.tail _ (.head _)) (.tail _ (.tail _ (.tail _ (.tail _ (.tail _ (.tail _ hL)))))) rfl (by rw [big]; omega)) ?_
      refine ExG.last (Ex1G.brk ?_)
      refine ExG.perm (l' := (mw, exactO (mwObj it)) :: (it, itO i.l 1) :: (stk, lstO (((List.range (c + 1)).map f).map .str)) :: (n2s, n2iO C.w (fcKvs f ts2 (c + 1))) :: (seen, setO C.w S2 (c + 1)) :: (T, itsO (c + 1) (some mw)) :: rest) ?_ ?_
      · refine ExG.drop (ExG.drop (ExG.nil ⟨m - (c + 1), by omega, c + 1, S2, ts2, some mw, by omega, rfl, hS2', rfl, rfl⟩))
      · exact (List.perm_middle (l₁ := [_, _]) (l₂ := (seen, setO C.w S2 (c + 1)) :: (n2s, n2iO C.w (fcKvs f ts2 (c + 1))) :: (T, itsO (c + 1) (some mw)) :: rest)).symm.trans ((((List.Perm.swap _ _ _).cons _).cons _).cons _)
  · refine aside fun zk => ?_
    obtain ⟨h, _, _⟩ := hK
    apply zk
    rw [h0] at h
    simp [kvsOfI] at h
end
section
noncomputable abbrev viewObj (N : Addr) : Obj := { cls := .type "dict_values", data := .fields #[.ref N] }
theorem srcP_values {w : World} {V0 N : Addr} {ob : Obj} {kvs : List (Str × Value)} (hob : ob.IsDictOf (PySem.strKind PP w) kvs) : SrcP w [(V0, viewObj N), (N, ob)] (.raw (.ref V0)) (kvs.map fun p => V.raw p.2) := fun n Γ loc led s a Q E hw O S hp ra h => by
  subst hw
  cases ra
  have g0 := pin_get S hp (.head _)
  have g1 := pin_get S hp (.tail _ (.head _))
  obtain ⟨ep, ha⟩ := KdkAt.of hob
  obtain ⟨f1, f2, f3⟩ := S.fresh
  refine wpAny_pyIter_values (d := N) (kvs := kvs) (ep := ep) ⟨_, g0, rfl, rfl⟩ (ha.dictAt g1) ?_
  obtain ⟨S4, le4, g⟩ := S.push (o := { cls := .type "dict_valueiterator", data := .fields #[.ref N, .int 0 0, .int kvs.length 0, .int ep 0] }) (t := s.toks) rfl
  have hne : N ≠ s.heap.objs.size := Nat.ne_of_lt (Heap.lt_size g1)
  have W := Walks.dictValues (prog := PP) (w := Γ.w) (A := Γ.A) (knd := PySem.strKind PP Γ.w) O.hh s.heap.objs.size N hne kvs ep
  have e : kvs.length = (kvs.map fun p => V.raw p.2).length := by rw [List.length_map]
  refine h s.heap.objs.size _ [s.heap.objs.size, N] _ _ ⟨e ▸ W, ⟨⟨_, (vget g), rfl, by rw [← e]; rfl⟩, e ▸ ha.dictAt (Heap.get?_push_of_some _ g1)⟩, S4, f2, ?_, ?_, f3, ?_⟩ le4 f1
  · intro b hb
    rcases List.mem_cons.mp hb with rfl | hb
    · exact .inl ⟨f2, _, (vget g)⟩
    · rw [List.mem_singleton.mp hb]; exact .inr (.tail _ (.head _))
  · rintro i v hi ⟨k, hx⟩
    exact ⟨.raw v, by rw [List.getElem?_map, hx]; rfl, rfl⟩
  · rintro i h ⟨⟨o, ho, hc, hd⟩, _⟩
    exact ⟨o, _, _, ho, hc, hd, by decide⟩
section
variable {n : Nat} {Γ : Cx} {loc loc' loc1 loc2 : Loc} {led led' led1 led2 led3 pre post fp : Led} {s : Shared} {xs : List Str} {vs : List (Option V)}
theorem EvG.dvalues (O : Ok n Γ) {ob : Expr} {apos pos : Pos} {N : Addr} {dob : Obj} {kvs : List (Str × Value)} (h1 : Ep Γ loc led ob (.raw (.ref N))) (hn : N ≠ 1) (hN : (N, exactO dob) ∈ led) (hob : dob.IsDictOf (PySem.strKind PP Γ.w) kvs)
    {pl : Sem Bool} (he : autoParam (eval (.Call (.Attribute ob "values" apos) [] [] pos) Γ.env = (do let ov ← eval ob Γ.env; standAt apos.atName; let (f, first) ← holding [ov] (getMethod ov "values" pl); callWith pos f first (backTo pos (starEach [] Γ.env)) (backToKw pos (keywordEach [] Γ.env)))) aR) :
    EvG Γ loc led (.Call (.Attribute ob "values" apos) [] [] pos) (fun v d => ∃ V0, v = .raw (.ref V0) ∧ d = (V0, exactO (viewObj N)) :: led) := fun s Q E S h => by
  refine methodCall_KW (h1 s _ E S fun a s1 S1 le1 ra => ?_) he
  refine aside fun zk => ?_
  cases ra
  obtain ⟨_, _, o, h3, h4⟩ := S1.ld _ hN
  have h4 : o = dob := h4
  subst h4
  apply zk
  have D1 : s1.heap.DictOf (PySem.strKind PP Γ.w) N kvs := Heap.dictOf_iff.mpr ⟨_, h3, hob⟩
  refine getMethod_builtin D1.typeIs PySem.F.plainAttrs_dict PySem.F.slot_dict_values PySem.F.type_dict_values (fun b e => by
    cases e
    obtain ⟨es, ep, hx, _⟩ := hob
    exact ⟨_, h3, hx.2.1⟩) ?_
  refine callWith_of (P := fun h => (KF Γ.w).In h) rfl (fun h X => keep_blt h X) (evalArgs_nil3 ⟨KX O S1, ?_⟩)
  refine call_meetsIn PySem.F.slot_dict_values D1.typeIs PySem.F.entry_dict_values (PySem.F.args_dict_values_1 _) (meets_dict_values (PySem.strKind PP Γ.w) N (by simpa [sysModules] using hn)) ⟨⟨kvs, D1⟩, ?_⟩
  obtain ⟨S4, le4⟩ := S1.new (ob := viewObj N) (x := exactO (viewObj N)) (t := s1.toks) rfl fun v _ => rfl
  exact h _ _ _ _ ⟨_, rfl, rfl⟩ S4 (le1.trans le4) rfl
theorem EvG.compP (O : Ok n Γ) {elt t iter : Expr} {ifs : List Expr} {scope : Scope} {pos : Pos} {R P : V → Led → Prop} {its : List V} (res : List (Option PyData)) {cl : List (Str × Addr)} {locC : Loc}
    (h1 : EvG Γ loc led iter R) (hx : ∀ x d, R x d → ∃ pins, SrcP Γ.w pins x its ∧ pinned pins d ∧ ∀ C D fz, Ok n (Γ.comp scope cl C D fz) → ∀ (i : Nat) x r, its[i]? = some x → res[i]? = some r → CStep (Γ.comp scope cl C D fz) locC d t ifs elt x r)
    (K : CompOk Γ scope cl loc locC) (hlen : res.length = its.length) (hz : its.length ≤ sizeLine) (hP : ∀ x d, R x d → ∀ D, P (.raw (.ref D)) ((D, lstO (res.filterMap id)) :: d))
    (hs : autoParam (∀ x, foldedSetIterable iter Γ.env x = pure x) aI) :
    EvG Γ loc led (.ListComp elt [⟨t, iter, ifs, 0⟩] scope pos) P := fun s Q E S h => by
  rw [eval_ListComp]
  refine wpAny_comprehension_free (use := Option.none) rfl hs K.clos K.kind K.names (h1 s _ E S fun x d a s1 r S1 le1 ra => ?_)
  refine aside fun zk => ?_
  obtain ⟨pins, hx, hpin, step⟩ := hx x d r
  apply zk
  refine hx n Γ loc d s1 a _ E rfl O S1 hpin ra fun I s2 fp Pv J R le2 new => ?_
  refine comp_core (pins := pins) O S1 R hpin le2 new K.cell K.kind K.hcl (fun x v e => K.hloc _ (mem_of_lookup e)) K.hcn hlen hz step (RR := fun acc C => compPost (MM Γ.w) Γ.A E Option.none Q acc C) ?_
  rintro D C s' ⟨m, hm⟩ hC exC k
  refine ⟨m, hm, fun h' hs' => ?_⟩
  obtain ⟨S', le'⟩ := k h' s'.toks hs'
  exact h _ _ _ _ (hP x d r D) S' (le1.trans le') rfl
theorem Ev.fstr1 {e : Expr} {pos : Pos} {v : V} (h : Ev Γ loc led e v loc1 led1) : Ev Γ loc led (.JoinedStr [e] pos) v loc1 led1 := fun s Q E S k => JoinedStr_one (h s Q E S k)
end
noncomputable abbrev veTail : List Value := [.type "ValueError", .type "Exception", .type "BaseException", .type "object"]
noncomputable abbrev cycO : Obj := excClassObj "CycleError" "CycleError" 157 156 [.type "ValueError"] veTail true [] [] false none none (some (.ref 148)) none (some (.str "CycleError" 421)) (some (.str "CycleError" 429)) (some (.bool true)) "ValueError.__new__"
theorem cyc_at (w : World) : (KF w).lookup 157 = some cycO := by kernel_rfl
theorem cyc_ns (w : World) : nsOkIn (KF w) 156 = true := by kernel_rfl
theorem cyc_none (w : World) : (quietNames.all fun x => nsIn (KF w) 156 x == some none) = true := by kernel_rfl
theorem cyc_get {n : Nat} {Γ : Cx} (O : Ok n Γ) : Γ.g.get? 157 = some cycO := O.X 157 _ (cyc_at _)
theorem cyc_own {n : Nat} {Γ : Cx} (O : Ok n Γ) : ∃ mN, Γ.g.Ns 156 mN ∧ ∀ n ∈ quietNames, mN n = none :=
  ⟨_, .of_isNs (isNs_of_in O.X (cyc_ns _)), fun x hx => nsMap_none_of_in O.X (cyc_ns _) (eq_of_beq (List.all_eq_true.mp (cyc_none _) x hx))⟩
noncomputable def ExE (Γ : Cx) (loc : Loc) (led : Led) (b : List Stmt) (P : Led → List PyData → Prop) : Prop :=
  ∀ s (Q : Flow → Shared → Prop) (E : Value → Shared → Prop), St Γ loc led s → (∀ loc1 led1 ds s1 h' e vs, P led1 ds → St Γ loc1 led1 s1 → Le Γ led s led1 s1 → Heap.MadeExcOf s1.heap h' e (.ref 157) vs → (∃ as, ReadsAll (vis Γ led1 s1) vs ds as) → E (.ref e) { s1 with heap := h' }) → wpAny (MM Γ.w) Γ.A (execs b Γ.env) Q E s
section
variable {n : Nat} {Γ : Cx} {loc loc' loc1 loc2 : Loc} {led led' led1 led2 led3 pre post fp : Led} {s : Shared} {xs : List Str} {vs : List (Option V)} {P : Led → List PyData → Prop}
theorem ExE.cons {st : Stmt} {b : List Stmt} (h1 : Ex1 Γ loc led st (.next loc1 led1)) (h2 : ExE Γ loc1 led1 b P) : ExE Γ loc led (st :: b) P := fun s Q E S h =>
  wpAny_execs_cons (h1 s _ E S fun f s1 x => by obtain ⟨rfl, S1, le⟩ := x; exact h2 s1 Q E S1 fun l d ds s2 h' e vs p S2 le2 mx r => h l d ds s2 h' e vs p S2 (le.trans le2) mx r)
theorem ExE.seq {st : Stmt} {b : List Stmt} (h1 : Ex1G Γ loc led st (fun o => match o with | .next l d => ExE Γ l d b P | _ => False)) : ExE Γ loc led (st :: b) P := fun s Q E S h =>
  wpAny_execs_cons (h1 s _ E S fun o f s1 p x => by
    cases o with
    | next l d => obtain ⟨rfl, S1, le⟩ := x; exact p s1 Q E S1 fun l d ds s2 h' e vs p S2 le2 mx r => h l d ds s2 h' e vs p S2 (le.trans le2) mx r
    | _ => exact p.elim)
theorem ExE.weak {b : List Stmt} (h1 : ExE Γ loc' led b P) (h : ∀ x v, loc'.lookup x = some v → loc.lookup x = some v) : ExE Γ loc led b P := fun s Q E S k => h1 s Q E (S.weak h) k
theorem ExE.perm {l l' : Led} {b : List Stmt} (h1 : ExE Γ loc l' b P) (h : l.Perm l') : ExE Γ loc l b P := fun s Q E S k => h1 s Q E (S.perm h).1 fun l d ds s2 h' e vs p S2 le2 mx r => k l d ds s2 h' e vs p S2 ((S.perm h).2.trans le2) mx r
theorem ExE.drop {p : Addr × O} {b : List Stmt} (h1 : ExE Γ loc led b P) : ExE Γ loc (p :: led) b P := fun s Q E S k => h1 s Q E S.drop.1 fun l d ds s2 h' e vs p S2 le2 mx r => k l d ds s2 h' e vs p S2 (S.drop.2.trans le2) mx r
theorem ExE.known {a : Addr} {x x' : O} {b : List Stmt} (hx : ∀ h o, x.p h o → x'.p h o) (h1 : ExE Γ loc (pre ++ (a, x') :: post) b P) : ExE Γ loc (pre ++ (a, x) :: post) b P := fun s Q E S k => h1 s Q E (S.known fun h o _ p => hx h o p) fun l d ds s2 h' e vs p S2 le2 mx r => k l d ds s2 h' e vs p S2 (le_known.trans le2) mx r
theorem ExE.pin {a : Addr} {x : O} {b : List Stmt} (h1 : ∀ ob, (∃ h, x.p h ob) → ExE Γ loc (pre ++ (a, exactO ob) :: post) b P) : ExE Γ loc (pre ++ (a, x) :: post) b P := fun s Q E S k => by
  obtain ⟨_, _, o, h3, h4⟩ := S.ld (a, x) (by simp)
  exact h1 o ⟨_, h4⟩ s Q E (S.known fun _ o' e _ => by rw [h3] at e; cases e; rfl) fun l d ds s2 h' e vs p S2 le2 mx r => k l d ds s2 h' e vs p S2 (le_known.trans le2) mx r
theorem ExE.ifT {t : Expr} {b e r : List Stmt} {pos : Pos} (h1 : Bt Γ loc led t true loc1 led1) (h2 : ExE Γ loc1 led1 b P) : ExE Γ loc led (.If t b e pos :: r) P := fun s Q E S k =>
  wpAny_execs_cons (wpAny_If (h1 s _ E S fun c s1 S1 le rc => by
    subst rc
    exact h2 s1 _ E S1 fun l d ds s2 h' e vs p S2 le2 mx r => k l d ds s2 h' e vs p S2 (le.trans le2) mx r))
theorem ExE.raise (O : Ok n Γ) {np cpos pos : Pos} {args : List Expr} {r : List Stmt} {ds : List PyData} (hx : Γ.env.kindOf (Str.ofString "CycleError") = some .globalImplicit) (ha : Es Γ loc led args (ds.map V.d) loc1 led1) (hz : ds.length ≤ sizeLine) (hP : P led1 ds)
    (hp : autoParam (∀ pos, (backTo pos (starEach args Γ.env)).any (·.1) = false) aI) : ExE Γ loc led (.Raise (some (.Call (.Name (Str.ofString "CycleError") np) args [] cpos)) none pos :: r) P := fun s Q E S k => by
  refine (cyc_own O).elim fun mN hN => ?_
  have hc : Ep Γ loc led (.Name (Str.ofString "CycleError") np) (.raw (.ref 157)) := Ev.glob O hx (glCycleError _)
  refine wpAny_execs_cons (wpAny_Raise_call_sub PySem.F.excBase_ValueError (C := 157) (nm := "CycleError") (q := "CycleError") (N := 156) (bs := [.type "ValueError"]) (hdct := true) (sn := []) (sub := []) (ab := false) (col := none) (dd := none) (k0 := some (.ref 148)) (k1 := none) (k2 := some (.str "CycleError" 421)) (k3 := some (.str "CycleError" 429)) (k5 := some (.bool true)) (mN := mN) O.hh (hp cpos) (hN.2 _ (.head _)) (hc s _ E S fun v s1 S1 le1 r1 => ?_))
  cases r1
  refine ⟨rfl, evalArgs_es (hp cpos) (ha cpos s1 _ E S1 fun vals s2 S2 le2 rs => ?_)⟩
  obtain ⟨m2, F2⟩ := S2.fr
  refine ⟨rfl, ?_, F2.keep _ _ (cyc_get O), hN.1.keeps F2.keep, fun h' e mx => k _ _ ds s2 h' e vals hP S2 (le1.trans le2) mx (repAll_data rs)⟩
  rw [rs.length, List.length_map]; exact hz
end
noncomputable def OpE (w : World) (n : Nat) (f : Addr) (args : List V) (fp : Led) (P : Led → List PyData → Prop) : Prop :=
  ∀ (Γ : Cx) (loc : Loc) (led : Led) (s : Shared) (vals : List Value) (R : Result → Shared → Prop), Γ.w = w → Ok n Γ → St Γ loc (fp ++ led) s → RepAll (vis Γ (fp ++ led) s) args vals →
    (∀ (fp' : Led) (ds : List PyData) (s₂ : Shared) (h' : Heap) (e t : Addr) (vs : List Value) (B : Heap), P fp' ds → Heap.FlyingW B (Γ.fenv :: Γ.outer) e (.ref 157) (.ref t) h' → h'.TupAt t vs → B.get? t = none → s₂.heap.UpToSlots h' →
      (∀ h3 tk, B.StaysIn h3 → s₂.heap.UpToSlots h3 → St Γ loc (fp' ++ led) { s₂ with heap := h3, toks := tk } ∧ Le Γ (fp ++ led) s (fp' ++ led) { s₂ with heap := h3, toks := tk } ∧ ∃ as, ReadsAll (vis Γ (fp' ++ led) { s₂ with heap := h3, toks := tk }) vs ds as) →
      (∀ b o, s₂.heap.get? b = some o → (∃ es k, o.data = .dict es k) ∨ B.get? b = some o) → (∀ b ∈ exOf Γ (fp' ++ led), ∃ o, s₂.heap.get? b = some o) → R (.error (.ref e)) { s₂ with heap := h' }) → codeAny (MM Γ.w) Γ.A (.call (.ref f) ⟨vals, []⟩) R s
theorem call_defE {w : World} {n : Nat} (hn : 100 ≤ n) {f : Addr} {args args' : List V} {fp : Led} {P : Led → List PyData → Prop} {name qual : Str} {params : Arguments} {body : List Stmt} {scope : Scope} {dV kV doc pm cdv ct oc : Value} {an od : Option Addr} {osl : Array (Option Value)} (names ys : List Str)
    (ho : ∀ w, (KF w).lookup f = some ⟨oc, od, .func (fnX name qual params body scope [] dV kV doc pm an cdv ct), osl⟩) (hcd : ∀ w, codeIn (KF w) cdv qual = true)
    (hbind : Binds (fnX name qual params body scope [] dV kV doc pm an cdv ct) names args args')
    (hkind : (names.all fun y => scope.names.lookup y == some .local || scope.names.lookup y == some .cell) = true)
    (hnd : ((cellsFrom 0 scope.names []).map (·.1)).Nodup) (hlen : names.length = args'.length) (hlay : ∀ (C : Cx0) (L : Addr), Lay (C.at (envOfC qual scope L f cdv)) (names ++ ys))
    (hbody : ∀ (C : Cx0) (L : Addr), C.w = w → Ok n (C.at (envOfC qual scope L f cdv)) → Lay (C.at (envOfC qual scope L f cdv)) (names ++ ys) → ExE (C.at (envOfC qual scope L f cdv)) (mk (names ++ ys) (args'.map some ++ ys.map fun _ => none)) fp body P)
    (hco : autoParam (scope.isCoroutine = false) aR) (hgen : autoParam (scope.isGenerator = false) aR) (hk : autoParam (scope.kind = .function) aR) : OpE w (n + 1) f args fp P := by
  intro Γ loc led s vals R hwΓ O S rs h
  have hnn : names.Nodup := by
    have C : Cx0 := ⟨⟨fun _ _ => 0, { strHash := fun _ => 0, shareClass := fun _ => 0, mergeTok := id, idOf := fun _ => 0, idOfShared := fun _ _ => 0, followText := fun _ => false, idOfImm := fun _ => 0 }⟩, {}, {}, {}, [], [], {}, [], fun _ _ => True⟩
    exact (List.nodup_append.mp (hlay C 0).nd).1
  have Xs := KX O S
  refine codeAny_call_function (by have := O.dp; show Γ.A.depth < 1000; lia) (Xs _ _ (ho Γ.w)) rfl hco hgen rfl (codeRec_of Xs (hcd Γ.w)) (hbind Γ loc (fp ++ led) s vals _ _ _ Xs S rs fun s0 vals' S0 le0 k0 rs' => ?_)
  refine enter_st hkind hnd hnn (Nat.le_of_eq hlen) hk O S0 rs' fun C L s₁ hw hA hO _ hl O' EN S' => ⟨hl, codeAny_func ?_⟩
  have hb := hbody C L (hw.trans hwΓ) O' (hlay C L)
  unfold ExE at hb
  rw [show (C.at (envOfC qual scope L f cdv)).w = Γ.w from hw, show (C.at (envOfC qual scope L f cdv)).A = Γ.A.deeper (envOfC qual scope L f cdv) from hA] at hb
  have S'' : St (C.at (envOfC qual scope L f cdv)) (mk (names ++ ys) (args'.map some ++ ys.map fun _ => none)) fp s₁ := S'.weak fun y u e => mk_zip (ys := ys) y u (by
    have : ∀ (xs : List Str) (vs : List (Option V)) (k : List Str), mk xs (vs ++ k.map fun _ => none) = mk xs vs := by
      intro xs
      induction xs with
      | nil => intro vs k; simp [mk]
      | cons x xs ih =>
        intro vs k
        cases vs with
        | nil =>
          cases k with
          | nil => simp
          | cons a k => simp only [List.nil_append, List.map_cons, mk]; have := ih [] k; simpa [mk] using this
        | cons v vs => cases v <;> simp [mk, ih]
    rw [this] at e; exact e) hlen
  refine hb s₁ _ _ S'' fun loc1 fp' ds s₂ h' e vs hP S₂ le₂ mx rd => ?_
  generalize hΓ' : C.at (envOfC qual scope L f cdv) = Γ' at *
  have hfe : Γ'.fenv = envOfC qual scope L f cdv := by rw [← hΓ']; rfl
  have hou : Γ'.outer = Γ.fenv :: Γ.outer := by rw [← hΓ']; exact hO
  have hAA : Γ'.A = Γ.A.deeper (envOfC qual scope L f cdv) := by rw [← hΓ']; exact hA
  have hfr := O'.hA hn
  rw [hAA, hfe, hou] at hfr
  have inHid : ∀ b, b ∈ Γ'.fenv.locals :: frs Γ' ↔ b = Γ'.fenv.locals ∨ b ∈ frs Γ' := fun b => List.mem_cons
  have FF := O'.funFrames S₂ (B := hideAll s₂.heap (Γ'.fenv.locals :: frs Γ')) (h := s₂.heap) (fun L' hL => hideAll_none _ ((inHid L').mpr hL)) (fun _ _ e => e)
  rw [hfe, hou] at FF
  rw [hfe] at inHid
  refine wpAny_leaves_madeW (base := hideAll s₂.heap ((envOfC qual scope L f cdv).locals :: frs Γ')) hfr rfl (fun b o q => of_hideAll _ q) FF mx fun h'' t x1 x2 x3 x4 => ?_
  have up : s₂.heap.UpToSlots h'' := (Heap.UpToSlots.of_keeps mx.keeps).trans x4
  refine h fp' ds s₂ h'' e t vs _ hP x1 x2 x3 up (fun h3 tk st3 up3 => ?_) (fun b o eb => ?_) fun b hb => ?_
  · refine aside fun zk => ?_
    obtain ⟨T1, l1⟩ := S₂.turn O' hn (h' := h3) (t := tk) (fun b o eb n1 n2 => st3 b o (hideAll_get _ eb fun hb => ((inHid b).mp hb).elim (fun q => n1 (by rw [hfe]; exact q)) n2)) fun b o eb hb => by
      obtain ⟨o', es, kk, h3', h4⟩ := O'.fr_obj S₂ hb
      rw [eb] at h3'; cases h3'
      obtain ⟨sl, h5⟩ := up3 b o eb fun vs q => by rw [h4] at q; cases q
      exact ⟨_, h5, sl, rfl⟩
    obtain ⟨T2, l2, v2, _⟩ := EN.leave O S0 T1
    obtain ⟨as, rd⟩ := rd
    apply zk
    exact ⟨T2, le0.trans l2, as, readsAll_sub (.of v2) (readsAll_sub (.of l1) rd)⟩
  · by_cases hb : b = Γ'.fenv.locals ∨ b ∈ frs Γ'
    · refine aside fun zk => ?_
      obtain ⟨o', es, kk, h3', h4⟩ := O'.fr_obj S₂ hb
      apply zk
      rw [eb] at h3'; cases h3'
      exact .inl ⟨es, kk, h4⟩
    · exact .inr (hideAll_get _ eb fun q => hb (by rw [hfe]; exact (inHid b).mp q))
  · obtain ⟨T2, _⟩ := EN.leave O S0 S₂
    rcases List.mem_append.mp hb with h | h
    · exact T2.pv b h
    · obtain ⟨pp, hp, rfl⟩ := List.mem_map.mp h
      obtain ⟨_, _, o', e', _⟩ := T2.ld pp hp
      exact ⟨o', e'⟩
end
section
noncomputable def rdyOf (is : List Info) : List Str := (is.filter fun i => i.np == 0).map (·.row)
theorem rdy_filter (is : List Info) : (is.map fun i => if (i.np == 0) = true then some (PyData.str i.row) else none).filterMap id = (rdyOf is).map .str := by
  unfold rdyOf
  induction is with
  | nil => rfl
  | cons i r ih =>
    by_cases q : (i.np == 0) = true
    · simp only [List.map_cons, q, if_true, List.filterMap_cons, id, List.filter_cons, ih]
    · simp only [List.map_cons, q, List.filterMap_cons, id, List.filter_cons, ih]; simp [ih]
theorem prepare_op (w : World) (σ : Srt) (next : Str → Str) {i0 : Info} {is' : List Info} (hN : σ.N ≠ 1) (hr : σ.rv = .none) (h0 : σ.is = i0 :: is') (hz : σ.is.length ≤ 100) (hn : (rowsOf σ.is).Nodup) (hx : ∀ r ∈ rowsOf σ.is, next r ∈ rowsOf σ.is) (hs : ∀ i ∈ σ.is, i.succ = [next i.row]) {m j : Nat} (hjm : j < m) (hm : m ≤ 100)
    (hrep : fcPath next i0.row m = fcPath next i0.row j) (hinj : ∀ a b, a < m → b < m → fcPath next i0.row a = fcPath next i0.row b → a = b) :
    OpE w 102 194 [.raw (.ref σ.S)] (σ.led w) (fun d ds => ds = [.str "nodes are in a cycle", strsD ((List.range (m - j + 1)).map fun t => fcPath next i0.row (j + t))] ∧ ∃ R, d = Srt.ledR w { σ with rv := .ref R } R (rdyOf σ.is)) := by
  refine call_defE (n := 101) (by decide) ["self"] ["cycle"] (fun w => by exact rfl) (fun w => by kernel_rfl) (binds_pos (by exact bind1 fun _ _ => BindsTo.of_eq rfl)) rfl (by decide) rfl (fun C L => ⟨by decide, by decide, rfl, rfl⟩) fun C L hw O l => ?_
  subst hw
  have hS : (σ.S, exactO (instObj 239 σ.D)) ∈ σ.led C.w := .head _
  have hD : (σ.D, attrO C.w σ.N σ.rv σ.p σ.q) ∈ σ.led C.w := .tail _ (.head _)
  refine ExE.cons (Ex1.ifF (Bt.cmp O (Ev.attr (Ev.nm O l 0) (ga_rdy O (by rw [hr]; rfl) hS hD)) Ev.none (by rw [hr]; exact isNot_none (v := .none) rfl)) Ex.nil) ?_
  refine ExE.pin (a := σ.N) (x := n2iO C.w (kvsOfI σ.is)) (pre := [(σ.S, exactO (instObj 239 σ.D)), (σ.D, attrO C.w σ.N σ.rv σ.p σ.q)]) (post := infosLed σ.is) fun ob hob => ?_
  have hob : ob.IsDictOf (PySem.strKind PP C.w) (kvsOfI σ.is) := let ⟨_, h⟩ := hob; h
  generalize hled : ([(σ.S, exactO (instObj 239 σ.D)), (σ.D, attrO C.w σ.N σ.rv σ.p σ.q)] ++ (σ.N, exactO ob) :: infosLed σ.is : Led) = led0
  have hS0 : (σ.S, exactO (instObj 239 σ.D)) ∈ led0 := by rw [← hled]; exact .head _
  have hD0 : (σ.D, attrO C.w σ.N σ.rv σ.p σ.q) ∈ led0 := by rw [← hled]; exact .tail _ (.head _)
  have hN0 : (σ.N, exactO ob) ∈ led0 := by rw [← hled]; exact .tail _ (.tail _ (.head _))
  have hI0 : ∀ i ∈ σ.is, (i.a, infoO i.row i.np i.l) ∈ led0 := fun i hi => by
    rw [← hled]
    exact .tail _ (.tail _ (.tail _ (List.mem_flatMap.mpr ⟨i, hi, .head _⟩)))
  refine ExE.seq (Ex1G.setAttr (x := σ.S) (R := fun v d => ∃ V0 R, v = .raw (.ref R) ∧ d = (R, lstO ((rdyOf σ.is).map .str)) :: (V0, exactO (viewObj σ.N)) :: led0) (EvG.compP (its := (kvsOfI σ.is).map fun p => V.raw p.2) O (σ.is.map fun i => if (i.np == 0) = true then some (PyData.str i.row) else none) (EvG.dvalues O (Ev.attr (Ev.nm O l 0) (ga_n2i O hS0 hD0)) hN hN0 hob) (fun x d h => ?_) (compOk [] [] rfl rfl rfl rfl rfl (of_decide_eq_true rfl) rfl rfl rfl rfl) (by simp [kvsOfI]) (by simp [kvsOfI, big]; lia) fun x d h D => ?_) fun v d h => ?_)
  · obtain ⟨V0, rfl, rfl⟩ := h
    refine ⟨[(V0, viewObj σ.N), (σ.N, ob)], srcP_values hob, fun p hp => ?_, fun C' D fz O' i x r hi hr' => ?_⟩
    · rcases List.mem_cons.mp hp with rfl | hp
      · exact .head _
      · rw [List.mem_singleton.mp hp]; exact .tail _ hN0
    · unfold kvsOfI at hi
      rw [List.map_map, List.getElem?_map] at hi
      rw [List.getElem?_map] at hr'
      obtain ⟨q, h1, rfl⟩ := Option.map_eq_some_iff.mp hi
      rw [h1] at hr'
      cases hr'
      have l' : LayR ["i"] := ⟨by decide, by decide⟩
      have hI := List.mem_cons_of_mem (V0, exactO (viewObj σ.N)) (hI0 q (List.mem_of_getElem? h1))
      exact cstepIf O' l' rfl (Bt.cmp O' (Ev.attr (Ev.nmR O' l' 0) (ga_np O' hI)) Ev.int eq_ii) (Ev.attr (Ev.nmR O' l' 0) (ga_node O' hI))
  · obtain ⟨V0, rfl, rfl⟩ := h
    exact ⟨V0, D, rfl, by rw [rdy_filter]⟩
  obtain ⟨V0, R, rfl, rfl⟩ := h
  refine ⟨(R, lstO ((rdyOf σ.is).map .str)) :: (V0, exactO (viewObj σ.N)) :: (σ.S, exactO (instObj 239 σ.D)) :: (σ.D, attrO C.w σ.N (.ref R) σ.p σ.q) :: (σ.N, exactO ob) :: infosLed σ.is, (Ev.nm O l 0), ?_, ?_⟩
  · rw [← hled]
    exact sa_rdy (pre := [(R, lstO ((rdyOf σ.is).map .str)), (V0, exactO (viewObj σ.N)), (σ.S, exactO (instObj 239 σ.D))]) (post := (σ.N, exactO ob) :: infosLed σ.is) O rfl (.tail _ (.tail _ (.head _)))
  refine ExE.perm (l' := (V0, exactO (viewObj σ.N)) :: (R, lstO ((rdyOf σ.is).map .str)) :: (σ.S, exactO (instObj 239 σ.D)) :: (σ.D, attrO C.w σ.N (.ref R) σ.p σ.q) :: (σ.N, exactO ob) :: infosLed σ.is) (ExE.drop ?_) (List.Perm.swap _ _ _)
  refine ExE.known (pre := [(R, lstO ((rdyOf σ.is).map .str)), (σ.S, exactO (instObj 239 σ.D)), (σ.D, attrO C.w σ.N (.ref R) σ.p σ.q)]) (a := σ.N) (x := exactO ob) (x' := n2iO C.w (kvsOfI σ.is)) (post := infosLed σ.is) (fun h o ho => by have ho : o = ob := ho; rw [ho]; exact hob) ?_
  generalize hσ' : ({ σ with rv := .ref R } : Srt) = σ'
  refine aside fun zk => ?_
  have q1 : σ'.S = σ.S ∧ σ'.D = σ.D ∧ σ'.N = σ.N ∧ σ'.rv = .ref R ∧ σ'.is = σ.is := by rw [← hσ']; exact ⟨rfl, rfl, rfl, rfl, rfl⟩
  obtain ⟨qS, qD, qN, qr, qi⟩ := q1
  apply zk
  have e1 : ([(R, lstO ((rdyOf σ.is).map .str)), (σ.S, exactO (instObj 239 σ.D)), (σ.D, attrO C.w σ.N (.ref R) σ.p σ.q)] ++ (σ.N, n2iO C.w (kvsOfI σ.is)) :: infosLed σ.is : Led) = (R, lstO ((rdyOf σ.is).map .str)) :: σ'.led C.w := by rw [← hσ']; rfl
  rw [e1]
  refine ExE.perm (l' := σ'.led C.w ++ [(R, lstO ((rdyOf σ.is).map .str))]) ?_ (List.perm_append_singleton _ _).symm
  have hS1 : (σ'.S, exactO (instObj 239 σ'.D)) ∈ σ'.led C.w ++ [(R, lstO ((rdyOf σ.is).map .str))] := .head _
  have hD1 : (σ'.D, attrO C.w σ'.N σ'.rv σ'.p σ'.q) ∈ σ'.led C.w ++ [(R, lstO ((rdyOf σ.is).map .str))] := .tail _ (.head _)
  have fc := (find_cycle_op C.w σ' next (by rw [qN]; exact hN) (by rw [qi]; exact h0) (by rw [qi]; exact hn) (by rw [qi]; exact hx) (by rw [qi]; exact hs) hjm hm hrep hinj).toW
  rw [qS] at fc hS1
  refine ExE.seq (Ex1G.assign O (EvG.methF (led2 := [(R, lstO ((rdyOf σ.is).map .str))]) O (Ev.nm O l 0) hS1 hD1 (k_m229 _) (k_f229 _) (fun _ _ _ _ _ _ _ _ _ => by kernel_rfl) (kp229 _) Es.nil (fc.mono (by decide) fun _ _ h => h)) (l.st (by simp)) fun v d h => ?_)
  obtain ⟨fp', ⟨rfl, rfl⟩, rfl⟩ := h
  refine ExE.weak (loc' := mk ["self", "cycle"] [some (.raw (.ref σ.S)), some (.d (strsD ((List.range (m - j + 1)).map fun t => fcPath next i0.row (j + t))))]) ?_ (put_mk (vs := [some (.raw (.ref σ.S)), none]) (i := 1) l.nd rfl)
  refine ExE.ifT (Bt.cast (b := !(((List.range (m - j + 1)).map fun t => fcPath next i0.row (j + t)).map PyData.str).isEmpty) (by simp) (Bt.of O (Ev.nm O l 1) (tru_list (by simp [big]; lia)))) ?_
  refine ExE.perm (l' := (R, lstO ((rdyOf σ.is).map .str)) :: σ'.led C.w) ?_ (List.perm_append_singleton _ _)
  exact ExE.raise (ds := [.str "nodes are in a cycle", strsD ((List.range (m - j + 1)).map fun t => fcPath next i0.row (j + t))]) O rfl (Es.cons (Ev.fstr1 Ev.str) (Es.cons (Ev.nm O l 1) Es.nil)) (by show 2 ≤ sizeLine; decide) ⟨rfl, R, by rw [← hσ']; rfl⟩
end
section
section
variable {n : Nat} {Γ : Cx} {loc loc' loc1 loc2 : Loc} {led led' led1 led2 led3 pre post fp : Led} {s : Shared} {xs : List Str} {vs : List (Option V)} {P : Out → Prop}
theorem Ex1.mono1 {st : Stmt} {o : Out} (h : Ex1G Γ loc led st (fun o' => o' = o)) : Ex1 Γ loc led st o := fun s Q E S k => h s Q E S fun o' f s' e x => k f s' (e ▸ x)
theorem EvG.toEv {e : Expr} {v : V} (h : EvG Γ loc led e (fun v' d => v' = v ∧ d = led')) : Ev Γ loc led e v loc led' := fun s Q E S k => h s Q E S fun v' d v1 s' p S' le r => by
  obtain ⟨rfl, rfl⟩ := p; exact k v1 s' S' le r
theorem St.unset (O : Ok n Γ) (S : St Γ loc led s) {x : Str} {v : Option Value} {m : Str → Option Value} {h' : Heap} {t : Nat} (hm : s.heap.Ns Γ.env.locals m)
    (hn : h'.Ns Γ.env.locals (fun z => if z = x then v else m z)) (hs : Heap.SameBut Γ.env.locals s.heap h') (hl : ∀ y u, loc'.lookup y = some u → y ≠ x ∧ loc.lookup y = some u) :
    St Γ loc' led { s with heap := h', toks := t } ∧ Le Γ led s led { s with heap := h', toks := t } := by
  refine aside fun zk => ?_
  obtain ⟨m', cm, hm', hcm, hl0⟩ := S.nm
  have := ns_unique hm hm'
  subst this
  obtain ⟨mf, F⟩ := S.fr
  obtain ⟨oL, _, _, hoL, _⟩ := id hn
  obtain ⟨le, l1, l2⟩ := S.setAt O (t := t) O.pl O.lg hs hoL
  apply zk
  refine ⟨⟨?_, ⟨_, cm, hn, fun y a e => ?_, fun y u e => ?_⟩, l1, S.nd, l2, S.os, S.gn, fun p hp => let ⟨o, e, r⟩ := S.fz p hp; ⟨o, (hs.2 _ (O.fl p hp).2).trans e, r⟩⟩, le⟩
  · by_cases q : Γ.env.locals = Γ.fenv.locals
    · exact ⟨_, q ▸ hn, fun b o e => (hs.2 b fun q' => by rw [q', O.lg] at e; cases e).trans (F.keep b o e), F.above⟩
    · exact ⟨mf, F.ns.sameBut hs (Ne.symm q), fun b o e => (hs.2 b fun q' => by rw [q', O.lg] at e; cases e).trans (F.keep b o e), F.above⟩
  · obtain ⟨o, ho, hd⟩ := hcm y a e
    exact ⟨o, (hs.2 a (O.ce y a e).2.2.1).trans ho, hd⟩
  · refine aside fun zk => ?_
    obtain ⟨q, e⟩ := hl y u e
    obtain ⟨u', e', ru⟩ := hl0 y u e
    apply zk
    refine ⟨u', ?_, ru.keeps le⟩
    unfold nmOf at e' ⊢
    split at e' <;> simp_all
theorem Ex1G.tryTold (O : Ok n Γ) (hn : 100 ≤ n) (l : Lay Γ xs) (ie it : Nat) {body : List Stmt} {y z : Str} {np ap zp ep tpos hpos pos : Pos} {P0 : Led → List PyData → Prop}
    (hbody : ∀ s (Q : Flow → Shared → Prop) (E : Value → Shared → Prop), St Γ (mk xs vs) led s → (∀ (d : Led) (ds : List PyData) (s₂ : Shared) (h' : Heap) (e t : Addr) (us : List Value) (B : Heap), P0 d ds → Heap.FlyingW B (Γ.fenv :: Γ.outer) e (.ref 157) (.ref t) h' → h'.TupAt t us → B.get? t = none → s₂.heap.UpToSlots h' →
      (∀ h3 tk, B.StaysIn h3 → s₂.heap.UpToSlots h3 → St Γ (mk xs vs) d { s₂ with heap := h3, toks := tk } ∧ Le Γ led s d { s₂ with heap := h3, toks := tk } ∧ ∃ as, ReadsAll (vis Γ d { s₂ with heap := h3, toks := tk }) us ds as) →
      (∀ b o, s₂.heap.get? b = some o → (∃ es k, o.data = .dict es k) ∨ B.get? b = some o) → (∀ b ∈ exOf Γ d, ∃ o, s₂.heap.get? b = some o) → E (.ref e) { s₂ with heap := h' }) → wpAny (MM Γ.w) Γ.A (execs body Γ.env) Q E s)
    (hfe : Γ.env.frame = some Γ.fenv.locals) (hee : Γ.env = Γ.fenv) (hk : Γ.env.kindOf (Str.ofString "CycleError") = some .globalImplicit) (hye : Γ.env.kindOf y = some .local) (hcl : (Γ.env.scope.kind == .class || (Γ.env.scope.kind == .module && Γ.env.locals != Γ.env.globals)) = false)
    (hne : ie ≠ it) (hP : ∀ d ds, P0 d ds → P (.next (mk xs ((vs.set ie none).set it (some (.d (.tuple ds))))) d)) (hi : autoParam (xs[ie]? = some y) aR) (ht : autoParam (xs[it]? = some z) aR)
    (hs : autoParam (swapsWith (.Attribute (.Name y ep) "args" ap) (some (.Name z zp)) tpos.line Γ.env = pure false) aR)
    (he : autoParam (eval (.Attribute (.Name y ep) "args" ap) Γ.env = (do let o ← eval (.Name y ep) Γ.env; standAt ap.atName; let r ← holding [o] (getAttr o "args" true); letTemporaryGo (.Name y ep) o r; pure r)) aU) :
    Ex1G Γ (mk xs vs) led (.Try body [.ExceptHandler (some (.Name (Str.ofString "CycleError") np)) (some y) [.Assign [.Name z zp] (.Attribute (.Name y ep) "args" ap) tpos] hpos] [] [] pos) P := fun s Q E S k => by
  refine wpAny_Try_except (hbody s _ _ S fun d ds s₂ h' e t us B hP0 fl tup tn up later dicts ex => ?_)
  refine wpAny_looks_onW (env := Γ.env) (outer := Γ.outer) (by rw [O.hA hn, hee]) hfe (by rw [hee]; exact fl) fun h4 held4 up4 => ?_
  refine wpAny_landsW held4 fun h5 fl5 up5 => ?_
  refine aside fun zk => ?_
  have u5 := up.trans (up4.trans up5)
  obtain ⟨S5, le5, _⟩ := later h5 s₂.toks fl5.1 u5
  apply zk
  refine wpAny_handleBy_cons (codeAny_handlers_test ?_) (by intro q; cases q)
  refine gen_glob O S5 O.ek hk rfl (glCycleError _) ?_
  refine aside fun zk => ?_
  obtain ⟨m5, F5⟩ := S5.fr
  obtain ⟨ob, hob, hobc⟩ := fl5.there
  apply zk
  refine wpAny_excMatches_sub_self (F5.keep _ _ (cyc_get O)) hob hobc (by decide) (codeAny_handlers_suite_as ?_)
  refine lands_againW fl5 fun h6 fl6 up6 => ?_
  refine aside fun zk => ?_
  have u6 := u5.trans up6
  obtain ⟨S6, le6, as6, rd6⟩ := later h6 s₂.toks fl6.1 u6
  obtain ⟨oe, ws, hoe, hoec, hoed, hoe0⟩ := fl6.first
  obtain ⟨ot, nt, hot, hotc, hotd⟩ := tup.of_slots (up4.trans (up5.trans up6))
  apply zk
  -- neither the exception nor its tuple is anybody's
  have nobody : ∀ b o, h6.get? b = some o → (∀ es kk, o.data ≠ .dict es kk) → B.get? b = none → b ∉ exOf Γ d := fun b o hb hnd hB hex => by
    obtain ⟨o', e'⟩ := ex b hex
    rcases dicts b o' e' with ⟨es, kk, hd⟩ | hd
    · obtain ⟨sl, hs6⟩ := u6 b o' e' fun vs q => by rw [hd] at q; cases q
      rw [hb] at hs6; cases hs6
      exact hnd es kk hd
    · rw [hB] at hd; cases hd
  have ne := nobody e oe hoe (fun es kk q => by rw [hoed] at q; cases q) fl6.2.1
  have nt' := nobody t ot hot (fun es kk q => by rw [hotd] at q; cases q) tn
  refine store O (.inl hye) (.inr hye) (v := .raw (.ref e)) S6 rfl fun s7 S7 le7 => ?_
  have he7 := (vget (le7 e oe (vmk hoe ne)))
  obtain ⟨m7, F7⟩ := S7.fr
  have hly := List.all_eq_true.mp l.dbg y (List.mem_of_getElem? hi)
  simp only [Bool.and_eq_true, Bool.not_eq_true'] at hly
  refine wpAny_execs_cons (wpAny_Assign_Name (Attribute_any_ (name_any O S7 (v := .raw (.ref e)) (by rw [put_lookup, if_pos rfl]) (fun v' r7 => ?_) hly.1 hly.2) he) hs)
  cases r7
  obtain ⟨hp7, g7, d7, t7, os7⟩ := s7
  refine (cyc_own O).elim fun mN hN => ?_
  refine args_attr_own PySem.F.attrBase_ValueError (F7.keep _ _ (cyc_get O)) (hN.1.keeps F7.keep) hN.2 .base he7 hoec hoed hoe0 ?_
  have S7' := S7.toks (t7 + 1)
  have rt : RepV (vis Γ d ⟨hp7, g7, d7, t7 + 1, os7⟩) (.d (.tuple ds)) (.ref t) := RepV.keeps (x := .d (.tuple ds)) ⟨_, .tuple (vmk hot nt') hotc hotd (by simpa using rd6)⟩ le7
  have hz := l.st (List.mem_of_getElem? ht)
  refine store O (hz.imp id fun h => ⟨h.1, h.2.1⟩) (hz.symm.imp (fun h => h.2.2) id) S7' rt fun s8 S8 le8 => wpAny_execs_nil ?_
  refine aside fun zk => ?_
  obtain ⟨m8, cm8, n8, _, _⟩ := id S8.nm
  apply zk
  refine wpAny_nameGoes_keeps hye n8 hcl fun h9 v9 n9 s9 => ?_
  have names : ∀ w u, (mk xs ((vs.set ie none).set it (some (.d (.tuple ds))))).lookup w = some u → w ≠ y ∧ (put (put (mk xs vs) y (.raw (.ref e))) z (.d (.tuple ds))).lookup w = some u := fun w u e => by
    obtain ⟨j, e1, e2⟩ := mk_mem (mem_of_lookup e)
    have hj : j ≠ ie := fun q => by
      subst q
      rw [List.getElem?_set_ne (Ne.symm hne)] at e2
      have := (List.getElem?_eq_some_iff.mp e2).1
      rw [List.getElem?_set_self (by simpa using this)] at e2
      cases e2
    have wy : w ≠ y := fun q => hj (nodup_idx l.nd (q ▸ e1) hi)
    refine ⟨wy, ?_⟩
    rw [put_lookup]
    by_cases q : j = it
    · subst q
      have : w = z := by rw [ht] at e1; exact (Option.some.inj e1).symm
      rw [if_pos this]
      have hl : j < ((vs.set ie none).set j (some (.d (.tuple ds)))).length := (List.getElem?_eq_some_iff.mp e2).1
      rw [List.getElem?_set_self (by simpa using hl)] at e2
      exact Option.some.inj e2
    · have wz : w ≠ z := fun z' => q (nodup_idx l.nd (z' ▸ e1) ht)
      rw [if_neg wz, put_lookup, if_neg wy]
      rw [List.getElem?_set_ne (Ne.symm q), List.getElem?_set_ne (Ne.symm hj)] at e2
      exact mk_lookup l.nd e1 e2
  obtain ⟨S9, le9⟩ := S8.unset (loc' := mk xs ((vs.set ie none).set it (some (.d (.tuple ds))))) (t := s8.toks + 1) O n8 n9 s9 names
  exact k _ _ _ (hP d ds hP0) ⟨rfl, S9, le6.trans (le7.trans (Le.trans (fun _ _ q => q) (le8.trans le9)))⟩
end
end
section
theorem pigeon : ∀ (n : Nat) (f : Nat → Nat), (∀ i, i ≤ n → f i < n) → ∃ i j, i < j ∧ j ≤ n ∧ f i = f j
  | 0, f, h => absurd (h 0 (Nat.le_refl _)) (Nat.not_lt_zero _)
  | n + 1, f, h => by
    by_cases q : ∃ i, i < n + 1 ∧ f i = f (n + 1)
    · obtain ⟨i, h1, h2⟩ := q; exact ⟨i, n + 1, h1, Nat.le_refl _, h2⟩
    · refine aside fun zk => ?_
      have ne : ∀ i, i < n + 1 → f i ≠ f (n + 1) := fun i hi e => q ⟨i, hi, e⟩
      have hv := h (n + 1) (Nat.le_refl _)
      obtain ⟨i, j, h1, h2, h3⟩ := pigeon n (fun i => if f (n + 1) < f i then f i - 1 else f i) fun i hi => by
        have a := h i (by lia)
        have b := ne i (by lia)
        show (if f (n + 1) < f i then f i - 1 else f i) < n
        split <;> lia
      apply zk
      have e1 := ne i (by lia)
      have e2 := ne j (by lia)
      have h3 : (if f (n + 1) < f i then f i - 1 else f i) = (if f (n + 1) < f j then f j - 1 else f j) := h3
      refine ⟨i, j, h1, by lia, ?_⟩
      split at h3 <;> split at h3 <;> lia
theorem least {P : Nat → Prop} : ∀ n, P n → ∃ k, k ≤ n ∧ P k ∧ ∀ j, j < k → ¬ P j := by
  intro n
  induction n using Nat.strongRecOn with
  | _ n ih =>
    intro h
    by_cases q : ∃ j, j < n ∧ P j
    · refine aside fun zk => ?_
      obtain ⟨j, h1, h2⟩ := q
      obtain ⟨k, h3, h4, h5⟩ := ih j h1 h2
      apply zk
      exact ⟨k, by lia, h4, h5⟩
    · exact ⟨n, Nat.le_refl _, h, fun j hj hp => q ⟨j, hj, hp⟩⟩
section
variable {st : List Nat}
theorem it_add (a b x : Nat) : it st (a + b) x = it st a (it st b x) := by
  induction a with
  | zero => rw [Nat.zero_add]; rfl
  | succ a ih => rw [Nat.succ_add]; show st.getD (it st (a + b) x) 0 = st.getD (it st a (it st b x)) 0; rw [ih]
theorem it_mul {d x : Nat} (h : it st d x = x) (k : Nat) : it st (k * d) x = x := by
  induction k with
  | zero => rw [Nat.zero_mul]; rfl
  | succ k ih => rw [Nat.succ_mul, it_add, h, ih]
theorem sq_get {l : List Nat} (h : Steps l) {x : Nat} (hx : x < 8) : (sq l).getD x 0 = l.getD (l.getD x 0) 0 := by
  unfold sq
  have hl : x < l.length := by rw [h.len]; exact hx
  rw [List.getD_eq_getElem?_getD, List.getElem?_map, List.getElem?_eq_getElem hl]
  show l.getD (l[x]) 0 = l.getD (l.getD x 0) 0
  rw [List.getD_eq_getElem?_getD (l := l) (i := x), List.getElem?_eq_getElem hl]; rfl
theorem sqs_get (h : Steps st) : ∀ (t : Nat) {x : Nat}, x < 8 → (sqs st t).getD x 0 = it st (2 ^ t) x
  | 0, x, hx => rfl
  | t + 1, x, hx => by
    show (sq (sqs st t)).getD x 0 = _
    rw [sq_get (h.sqs t) hx, sqs_get h t hx, sqs_get h t (h.it hx _), Nat.pow_succ, Nat.mul_two, it_add]
theorem mem_sqs (h : Steps st) {y : Nat} : y ∈ sqs st 3 ↔ ∃ x, x < 8 ∧ it st 8 x = y := by
  have h3 := h.sqs 3
  constructor
  · intro hy
    obtain ⟨x, hx, e⟩ := List.mem_iff_getElem.mp hy
    have hx8 : x < 8 := by rw [← h3.len]; exact hx
    refine ⟨x, hx8, ?_⟩
    have := sqs_get h 3 hx8
    rw [List.getD_eq_getElem?_getD, List.getElem?_eq_getElem hx] at this
    rw [← e]; exact this.symm
  · rintro ⟨x, hx, e⟩
    have := sqs_get h 3 hx
    have hx' : x < (sqs st 3).length := by rw [h3.len]; exact hx
    rw [List.getD_eq_getElem?_getD, List.getElem?_eq_getElem hx'] at this
    have this : (sqs st 3)[x] = it st 8 x := this
    rw [← e, ← this]; exact List.getElem_mem _
noncomputable def Im (st : List Nat) (t y : Nat) : Prop := ∃ x, x < 8 ∧ it st t x = y
theorem Im.lt (h : Steps st) {t y : Nat} (hy : Im st t y) : y < 8 := by obtain ⟨x, hx, rfl⟩ := hy; exact h.it hx t
theorem im_back (h : Steps st) {t y : Nat} (hy : Im st (t + 1) y) : Im st t y := by
  obtain ⟨x, hx, rfl⟩ := hy
  exact ⟨it st 1 x, h.it hx 1, (it_add t 1 x).symm⟩
theorem im_succ (h : Steps st) {t y : Nat} : Im st (t + 1) y ↔ ∃ z, Im st t z ∧ st.getD z 0 = y := by
  constructor
  · rintro ⟨x, hx, rfl⟩; exact ⟨it st t x, ⟨x, hx, rfl⟩, rfl⟩
  · rintro ⟨z, ⟨x, hx, rfl⟩, rfl⟩; exact ⟨x, hx, rfl⟩
theorem ring_of (h : Steps st) {y : Nat} (hy : Im st 8 y) : ∃ d, 0 < d ∧ d ≤ 8 ∧ it st d y = y := by
  refine aside fun zk => ?_
  obtain ⟨x, hx, rfl⟩ := hy
  obtain ⟨i, j, h1, h2, h3⟩ := pigeon 8 (fun i => it st i x) fun i _ => h.it hx i
  apply zk
  refine ⟨j - i, by lia, by lia, ?_⟩
  have e1 : it st (j - i) (it st 8 x) = it st (8 - i + j) x := by rw [← it_add]; congr 1; lia
  have e2 : it st 8 x = it st (8 - i + i) x := by congr 1; lia
  rw [e1, it_add, ← h3, ← it_add, ← e2]
theorem of_ring (h : Steps st) {y d : Nat} (hy : y < 8) (hd : 0 < d) (e : it st d y = y) (t : Nat) : Im st t y := by
  have := it_mul e t
  refine ⟨it st (t * d - t) y, h.it hy _, ?_⟩
  rw [← it_add, show t + (t * d - t) = t * d from by have := Nat.le_mul_of_pos_right t hd; omega]
  exact this
theorem im_nine (h : Steps st) {y : Nat} : Im st 9 y ↔ Im st 8 y := ⟨im_back h, fun hy => by
  obtain ⟨d, h1, _, h3⟩ := ring_of h hy
  exact of_ring h (hy.lt h) h1 h3 9⟩
structure Walk (st : List Nat) (b k p : Nat) : Prop where
  hk : it st k b ∈ sqs st 3
  hk' : ∀ j, j < k → it st j b ∉ sqs st 3
  hp : it st (p + 1) (it st k b) = it st k b
  hp' : ∀ j, j < p → it st (j + 1) (it st k b) ≠ it st k b
  p8 : p < 8
  k8 : k ≤ 8
  inj : ∀ x y, x < k + p + 1 → y < k + p + 1 → it st x b = it st y b → x = y
theorem walk (h : Steps st) {b : Nat} (hb : b < 8) : ∃ k p, Walk st b k p := by
  refine aside fun zk => ?_
  obtain ⟨k, k8, hk, hk'⟩ := least (P := fun k => it st k b ∈ sqs st 3) 8 ((mem_sqs h).mpr ⟨b, hb, rfl⟩)
  have ha : it st k b < 8 := h.it hb k
  obtain ⟨d, d1, d2, d3⟩ := ring_of h ((mem_sqs h).mp hk)
  obtain ⟨p, p8, hp, hp'⟩ := least (P := fun p => it st (p + 1) (it st k b) = it st k b) (d - 1) (by rw [show d - 1 + 1 = d from by lia]; exact d3)
  apply zk
  have half : ∀ x y, x < y → y < k + p + 1 → it st x b ≠ it st y b := fun x y hxy hy e => by
    by_cases q : x < k
    · refine hk' x q ((mem_sqs h).mpr (of_ring h (h.it hb x) (d := y - x) (by lia) ?_ 8))
      rw [← it_add, show y - x + x = y from by lia]; exact e.symm
    · have e' : it st (x - k) (it st k b) = it st (y - k) (it st k b) := by
        rw [← it_add, ← it_add, show x - k + k = x from by lia, show y - k + k = y from by lia]; exact e
      generalize it st k b = a at *
      have e2 : it st (y - x) a = a := by
        have c1 : it st (p + 1 - (x - k)) (it st (x - k) a) = a := by rw [← it_add, show p + 1 - (x - k) + (x - k) = p + 1 from by lia]; exact hp
        rw [e', ← it_add, show p + 1 - (x - k) + (y - k) = (y - x) + (p + 1) from by lia, it_add, hp] at c1
        exact c1
      exact hp' (y - x - 1) (by lia) (by rw [show y - x - 1 + 1 = y - x from by lia]; exact e2)
  refine ⟨k, p, hk, hk', hp, hp', by lia, k8, fun x y hx hy e => ?_⟩
  rcases Nat.lt_trichotomy x y with q | q | q
  · exact absurd e (half x y q hy)
  · exact q
  · exact absurd e.symm (half y x q hx)
noncomputable def ringOf (st : List Nat) (b k p : Nat) : List Nat := (List.range (p + 2)).map fun j => it st j (it st k b)
theorem ring_len (b k p : Nat) : (ringOf st b k p).length = p + 2 := by unfold ringOf; simp
theorem ring_lt (h : Steps st) {b k p : Nat} (hb : b < 8) : ∀ x ∈ ringOf st b k p, x < 8 := fun x hx => by
  obtain ⟨j, _, rfl⟩ := List.mem_map.mp hx
  exact h.it (h.it hb k) j
theorem ring_tail {b k p : Nat} (w : Walk st b k p) : ((ringOf st b k p).drop 1).Nodup := by
  have e : (ringOf st b k p).drop 1 = (List.range (p + 1)).map fun j => it st (j + 1) (it st k b) := by
    unfold ringOf
    apply List.ext_getElem
    · simp
    · intro i h1 h2; simp
  rw [e]
  rw [List.Nodup, List.pairwise_iff_getElem]
  intro i j hi hj hij
  simp only [List.getElem_map, List.getElem_range]
  simp at hi hj
  intro q
  have wrap : ∀ u, u < p + 1 → ∃ v, v < p + 1 ∧ it st (u + 1) (it st k b) = it st (v + k) b ∧ (v = u + 1 ∨ (v = 0 ∧ u = p)) := fun u hu => by
    by_cases hq : u = p
    · exact ⟨0, by lia, by rw [hq, w.hp, Nat.zero_add], .inr ⟨rfl, hq⟩⟩
    · exact ⟨u + 1, by lia, (it_add (u + 1) k b).symm, .inl rfl⟩
  obtain ⟨v1, a1, a2, a3⟩ := wrap i hi
  obtain ⟨v2, b1, b2, b3⟩ := wrap j hj
  rw [a2, b2] at q
  have := w.inj (v1 + k) (v2 + k) (by lia) (by lia) q
  lia
end
end
section
theorem count_nodup {α : Type} [DecidableEq α] {a : α} : ∀ {l : List α}, l.Nodup → l.count a = if a ∈ l then 1 else 0
  | [], _ => by simp
  | x :: r, h => by
    have h := List.nodup_cons.mp h
    rw [List.count_cons, count_nodup h.2]
    by_cases q : x = a
    · subst q; simp [h.1]
    · have q' : ¬ a = x := fun e => q e.symm
      simp [q, q']
theorem perm_of {α : Type} [DecidableEq α] {l1 l2 : List α} (n1 : l1.Nodup) (n2 : l2.Nodup) (h : ∀ x, x ∈ l1 ↔ x ∈ l2) : l1.Perm l2 :=
  List.perm_iff_count.mpr fun a => by rw [count_nodup n1, count_nodup n2]; simp [h a]
theorem split_len {α : Type} (p q : α → Bool) : ∀ l : List α, (l.filter p).length = (l.filter fun x => p x && q x).length + (l.filter fun x => p x && !q x).length
  | [] => rfl
  | x :: r => by
    have ih := split_len p q r
    cases hp : p x <;> cases hq : q x <;> simp [List.filter_cons, hp, hq, ih] <;> lia
theorem rows_set {is : List Info} {x : Str} {k : Int} : rowsOf (onRow is x (setNp k)) = rowsOf is := onRow_rows is x (setNp k) fun _ => rfl
theorem rows_bump {is : List Info} {x : Str} {k : Int} : rowsOf (onRow is x (bump k)) = rowsOf is := onRow_rows is x (bump k) fun _ => rfl
theorem npOf_set {is : List Info} {x : Str} {k : Int} (h : x ∈ rowsOf is) : npOf (onRow is x (setNp k)) x = k := by
  induction is with
  | nil => cases h
  | cons i r ih =>
    unfold npOf onRow
    rw [List.map_cons, List.find?_cons]
    by_cases q : i.row = x
    · rw [if_pos q]
      simp [setNp, q]
    · rw [if_neg q]
      simp only [q, decide_false]
      refine ih ?_
      rcases List.mem_cons.mp h with e | e
      · exact absurd e.symm q
      · exact e
theorem npOf_bump {is : List Info} {x : Str} {k : Int} (h : x ∈ rowsOf is) : npOf (onRow is x (bump k)) x = npOf is x + k := by
  induction is with
  | nil => cases h
  | cons i r ih =>
    unfold npOf onRow
    rw [List.map_cons, List.find?_cons, List.find?_cons]
    by_cases q : i.row = x
    · rw [if_pos q]
      simp [bump, q]
    · rw [if_neg q]
      simp only [q, decide_false]
      refine ih ?_
      rcases List.mem_cons.mp h with e | e
      · exact absurd e.symm q
      · exact e
theorem npOf_mark {k : Int} {y : Str} : ∀ (g : List Str) (is : List Info), (∀ r ∈ g, r ∈ rowsOf is) → npOf (markAll k g is) y = if y ∈ g then k else npOf is y
  | [], is, _ => by simp [markAll]
  | r :: g, is, h => by
    show npOf (markAll k g (onRow is r (setNp k))) y = _
    rw [npOf_mark g _ fun z hz => by rw [onRow_rows is r (setNp k) fun _ => rfl]; exact h z (.tail _ hz)]
    by_cases q : y ∈ g
    · simp [q]
    · by_cases e : y = r
      · subst e; simp [q, npOf_set (h y (.head _))]
      · rw [if_neg q, if_neg (by simp [q, e]), npOf_other is (setNp k) (fun _ => rfl) e]
noncomputable def hits (next : Str → Str) (g : List Str) (s : Str) : Nat := (g.filter fun r => decide (next r = s)).length
theorem hits_pos {next : Str → Str} {g : List Str} {s : Str} : 0 < hits next g s ↔ ∃ r ∈ g, next r = s := by
  unfold hits
  rw [List.length_pos_iff_exists_mem]
  simp [List.mem_filter]
theorem done_np {next : Str → Str} : ∀ (g : List Str) (is : List Info) (rs : List Str), (∀ r ∈ g, next r ∈ rowsOf is) → (∀ r ∈ g, next r ∉ g) → ∀ y, y ∉ g → npOf (doneAll next g (is, rs)).1 y = npOf is y - hits next g y
  | [], is, rs, _, _, y, _ => by simp [doneAll, hits]
  | r :: g, is, rs, h1, h2, y, hy => by
    have hy' : y ∉ g := fun h => hy (.tail _ h)
    have yr : y ≠ r := fun h => hy (h ▸ .head _)
    have e1 : rowsOf (onRow (onRow is r (setNp (-2))) (next r) (bump (-1))) = rowsOf is := by rw [rows_bump, rows_set]
    show npOf (doneAll next g (doneOne next (is, rs) r)).1 y = _
    have ih := done_np (next := next) g (onRow (onRow is r (setNp (-2))) (next r) (bump (-1))) (doneOne next (is, rs) r).2 (fun z hz => by rw [e1]; exact h1 z (.tail _ hz)) (fun z hz q => h2 z (.tail _ hz) (.tail _ q)) y hy'
    have ee : doneOne next (is, rs) r = (onRow (onRow is r (setNp (-2))) (next r) (bump (-1)), (doneOne next (is, rs) r).2) := rfl
    rw [ee, ih]
    have hc : hits next (r :: g) y = hits next g y + if next r = y then 1 else 0 := by unfold hits; rw [List.filter_cons]; by_cases q : next r = y <;> simp [q]
    by_cases q : next r = y
    · subst q
      have hm : next r ∈ rowsOf (onRow is r (setNp (-2))) := by rw [rows_set]; exact h1 r (.head _)
      rw [npOf_bump hm, npOf_other is (setNp (-2)) (fun _ => rfl) yr, hc]; simp; lia
    · rw [npOf_other _ (bump (-1)) (fun _ => rfl) (Ne.symm q), npOf_other is (setNp (-2)) (fun _ => rfl) yr, hc, if_neg q]; simp
theorem done_rdy {next : Str → Str} : ∀ (g : List Str) (is : List Info) (rs : List Str), (∀ r ∈ g, next r ∈ rowsOf is) → (∀ r ∈ g, next r ∉ g) → (∀ r ∈ g, (hits next g (next r) : Int) ≤ npOf is (next r)) → rs.Nodup → (∀ s ∈ rs, ∀ r ∈ g, next r ≠ s) →
    (doneAll next g (is, rs)).2.Nodup ∧ ∀ s, s ∈ (doneAll next g (is, rs)).2 ↔ s ∈ rs ∨ ((∃ r ∈ g, next r = s) ∧ npOf is s = hits next g s)
  | [], is, rs, _, _, _, hn, _ => ⟨hn, fun s => by simp [doneAll]⟩
  | r :: g, is, rs, h1, h2, h3, hn, h4 => by
    have e1 : rowsOf (onRow (onRow is r (setNp (-2))) (next r) (bump (-1))) = rowsOf is := by rw [rows_bump, rows_set]
    have hc : ∀ y, hits next (r :: g) y = hits next g y + if next r = y then 1 else 0 := fun y => by unfold hits; rw [List.filter_cons]; by_cases q : next r = y <;> simp [q]
    have nr : next r ≠ r := fun e => h2 r (.head _) (by rw [e]; exact .head _)
    have hm : next r ∈ rowsOf (onRow is r (setNp (-2))) := by rw [rows_set]; exact h1 r (.head _)
    have n1 : npOf (onRow (onRow is r (setNp (-2))) (next r) (bump (-1))) (next r) = npOf is (next r) - 1 := by
      rw [npOf_bump hm, npOf_other is (setNp (-2)) (fun _ => rfl) nr]; lia
    have n2 : ∀ y, y ≠ next r → y ≠ r → npOf (onRow (onRow is r (setNp (-2))) (next r) (bump (-1))) y = npOf is y := fun y q1 q2 => by
      rw [npOf_other _ (bump (-1)) (fun _ => rfl) q1, npOf_other is (setNp (-2)) (fun _ => rfl) q2]
    have ee : doneOne next (is, rs) r = (onRow (onRow is r (setNp (-2))) (next r) (bump (-1)), if npOf (onRow (onRow is r (setNp (-2))) (next r) (bump (-1))) (next r) = 0 then rs ++ [next r] else rs) := rfl
    show (doneAll next g (doneOne next (is, rs) r)).2.Nodup ∧ ∀ s, s ∈ (doneAll next g (doneOne next (is, rs) r)).2 ↔ _
    rw [ee]
    generalize hi : onRow (onRow is r (setNp (-2))) (next r) (bump (-1)) = is1 at *
    have c1 : ∀ z ∈ g, (hits next g (next z) : Int) ≤ npOf is1 (next z) := fun z hz => by
      have a1 := h3 z (.tail _ hz)
      rw [hc] at a1
      by_cases q : next z = next r
      · rw [q, n1]; rw [q, if_pos rfl] at a1; lia
      · rw [n2 _ q (fun e => h2 z (.tail _ hz) (by rw [e]; exact .head _))]
        rw [if_neg (Ne.symm q)] at a1; simpa using a1
    have hz0 : npOf is1 (next r) = 0 → hits next g (next r) = 0 := fun h => by
      cases q : hits next g (next r) with
      | zero => rfl
      | succ k =>
        obtain ⟨z, hz, e⟩ := hits_pos.mp (show 0 < hits next g (next r) by lia)
        have := c1 z hz
        rw [e] at this; lia
    generalize hrs : (if npOf is1 (next r) = 0 then rs ++ [next r] else rs) = rs1
    have m1 : ∀ s, s ∈ rs1 ↔ s ∈ rs ∨ (s = next r ∧ npOf is1 (next r) = 0) := fun s => by
      rw [← hrs]; split
      · rename_i h; simp [h]
      · rename_i h; simp [h]
    have n3 : rs1.Nodup := by
      rw [← hrs]; split
      · rw [List.nodup_append]
        refine ⟨hn, by simp, fun a ha b hb => ?_⟩
        rw [List.mem_singleton.mp hb]
        exact fun e => h4 a ha r (.head _) e.symm
      · exact hn
    have c4 : ∀ s ∈ rs1, ∀ z ∈ g, next z ≠ s := fun s hs z hz e => by
      rcases (m1 s).mp hs with h | ⟨rfl, h⟩
      · exact h4 s h z (.tail _ hz) e
      · have := hits_pos.mpr ⟨z, hz, e⟩
        have := hz0 h; lia
    obtain ⟨a, b⟩ := done_rdy (next := next) g is1 rs1 (fun z hz => by rw [e1]; exact h1 z (.tail _ hz)) (fun z hz q => h2 z (.tail _ hz) (.tail _ q)) c1 n3 c4
    refine ⟨a, fun s => ?_⟩
    rw [b s, m1 s, hc s]
    by_cases q : s = next r
    · subst q
      rw [if_pos rfl, n1]
      constructor
      · rintro ((h | ⟨_, h⟩) | ⟨h, e⟩)
        · exact .inl h
        · have := hz0 (by rw [n1]; exact h)
          exact .inr ⟨⟨r, .head _, rfl⟩, by rw [this]; simp; lia⟩
        · exact .inr ⟨⟨r, .head _, rfl⟩, by simp; lia⟩
      · rintro (h | ⟨_, e⟩)
        · exact .inl (.inl h)
        · by_cases z : hits next g (next r) = 0
          · exact .inl (.inr ⟨rfl, by rw [z] at e; simp at e; lia⟩)
          · exact .inr ⟨hits_pos.mp (by lia), by simp at e; lia⟩
    · rw [if_neg (Ne.symm q)]
      by_cases sr : s = r
      · subst sr
        have no1 : ¬ ∃ z ∈ g, next z = s := fun ⟨z, hz, e⟩ => h2 z (.tail _ hz) (by rw [e]; exact .head _)
        have no2 : ¬ ∃ z ∈ s :: g, next z = s := fun ⟨z, hz, e⟩ => h2 z hz (by rw [e]; exact .head _)
        simp only [no1, no2, q, false_and, or_false]
      · rw [n2 s q sr]
        constructor
        · rintro ((h | ⟨h, _⟩) | ⟨⟨z, hz, e⟩, e2⟩)
          · exact .inl h
          · exact absurd h q
          · exact .inr ⟨⟨z, .tail _ hz, e⟩, by simpa using e2⟩
        · rintro (h | ⟨⟨z, hz, e⟩, e2⟩)
          · exact .inl (.inl h)
          · rcases List.mem_cons.mp hz with rfl | hz
            · exact absurd e.symm q
            · exact .inr ⟨⟨z, hz, e⟩, by simpa using e2⟩
section
open Classical
noncomputable def cntI (st : List Nat) (t x : Nat) : Nat := ((List.range 8).filter fun y => decide (Im st t y ∧ st.getD y 0 = x)).length
structure Named (st : List Nat) (R : Nat → Str) (next : Str → Str) : Prop where
  h : Steps st
  inj : ∀ x y, x < 8 → y < 8 → R x = R y → x = y
  nx : ∀ x, x < 8 → next (R x) = R (st.getD x 0)
structure Kahn (st : List Nat) (R : Nat → Str) (t : Nat) (is : List Info) (rdy given : List Str) : Prop where
  rows : ∀ x, x < 8 → R x ∈ rowsOf is
  rdyN : rdy.Nodup
  rdyM : ∀ s, s ∈ rdy ↔ ∃ x, Im st t x ∧ ¬ Im st (t + 1) x ∧ R x = s
  givN : given.Nodup
  givM : ∀ s, s ∈ given ↔ ∃ x, x < 8 ∧ ¬ Im st t x ∧ R x = s
  np : ∀ x, Im st t x → npOf is (R x) = cntI st t x
theorem nodup_map {α β : Type} {f : α → β} : ∀ {l : List α}, l.Nodup → (∀ a ∈ l, ∀ b ∈ l, f a = f b → a = b) → (l.map f).Nodup
  | [], _, _ => by simp
  | x :: r, hn, h => by
    have hn := List.nodup_cons.mp hn
    rw [List.map_cons, List.nodup_cons]
    refine ⟨fun hm => ?_, nodup_map hn.2 fun a ha b hb => h a (.tail _ ha) b (.tail _ hb)⟩
    obtain ⟨y, hy, e⟩ := List.mem_map.mp hm
    exact hn.1 (h y (.tail _ hy) x (.head _) e ▸ hy)
theorem Kahn.group {st : List Nat} {R : Nat → Str} {next : Str → Str} {t : Nat} {is : List Info} {rdy given : List Str} (N : Named st R next) (K : Kahn st R t is rdy given) :
    (∀ r ∈ rdy, next r ∉ rdy) ∧ (∀ r ∈ rdy, r ∈ rowsOf is) ∧ (∀ r ∈ rdy, next r ∈ rowsOf is) := by
  refine ⟨fun r hr hx => ?_, fun r hr => ?_, fun r hr => ?_⟩
  · obtain ⟨x, h1, h2, rfl⟩ := (K.rdyM r).mp hr
    have x8 := h1.lt N.h
    rw [N.nx x x8] at hx
    obtain ⟨y, g1, g2, e⟩ := (K.rdyM _).mp hx
    have := N.inj y _ (g1.lt N.h) (N.h.get x) e
    exact g2 (this ▸ (im_succ N.h).mpr ⟨x, h1, rfl⟩)
  · obtain ⟨x, h1, _, rfl⟩ := (K.rdyM r).mp hr
    exact K.rows x (h1.lt N.h)
  · obtain ⟨x, h1, _, rfl⟩ := (K.rdyM r).mp hr
    rw [N.nx x (h1.lt N.h)]
    exact K.rows _ (N.h.get x)
theorem Kahn.hit {st : List Nat} {R : Nat → Str} {next : Str → Str} {t : Nat} {is : List Info} {rdy given : List Str} (N : Named st R next) (K : Kahn st R t is rdy given) {x : Nat} (hx : x < 8) : cntI st t x = cntI st (t + 1) x + hits next rdy (R x) := by
  have p : rdy.Perm (((List.range 8).filter fun y => decide (Im st t y ∧ ¬ Im st (t + 1) y)).map R) := by
    refine perm_of K.rdyN (nodup_map (List.nodup_range.filter _) fun a ha b hb e => ?_) fun s => ?_
    · exact N.inj a b (List.mem_range.mp (List.mem_filter.mp ha).1) (List.mem_range.mp (List.mem_filter.mp hb).1) e
    · rw [K.rdyM s, List.mem_map]
      constructor
      · rintro ⟨y, h1, h2, e⟩
        exact ⟨y, List.mem_filter.mpr ⟨List.mem_range.mpr (h1.lt N.h), decide_eq_true ⟨h1, h2⟩⟩, e⟩
      · rintro ⟨y, hy, e⟩
        obtain ⟨h1, h2⟩ := of_decide_eq_true (List.mem_filter.mp hy).2
        exact ⟨y, h1, h2, e⟩
  have e1 : hits next rdy (R x) = ((List.range 8).filter fun y => decide (Im st t y ∧ st.getD y 0 = x) && !decide (Im st (t + 1) y)).length := by
    unfold hits
    rw [(p.filter _).length_eq, List.filter_map, List.length_map, List.filter_filter]
    refine congrArg List.length (List.filter_congr fun y hy => ?_)
    have y8 := List.mem_range.mp hy
    have : (next (R y) = R x) ↔ st.getD y 0 = x := by
      rw [N.nx y y8]
      exact ⟨fun e => N.inj _ _ (N.h.get y) hx e, fun e => by rw [e]⟩
    simp only [Function.comp, this]
    by_cases a : Im st t y <;> by_cases b : Im st (t + 1) y <;> by_cases c : st.getD y 0 = x <;> simp [a, b, c]
  have e2 : cntI st (t + 1) x = ((List.range 8).filter fun y => decide (Im st t y ∧ st.getD y 0 = x) && decide (Im st (t + 1) y)).length := by
    unfold cntI
    refine congrArg List.length (List.filter_congr fun y hy => ?_)
    by_cases b : Im st (t + 1) y
    · have a := im_back N.h b
      by_cases c : st.getD y 0 = x <;> simp [a, b, c]
    · simp [b]
  rw [e1, e2]
  unfold cntI
  exact split_len _ _ _
theorem Kahn.step {st : List Nat} {R : Nat → Str} {next : Str → Str} {t : Nat} {is : List Info} {rdy given : List Str} (N : Named st R next) (K : Kahn st R t is rdy given) :
    Kahn st R (t + 1) (doneAll next rdy (markAll (-1) rdy is, [])).1 (doneAll next rdy (markAll (-1) rdy is, [])).2 (given ++ rdy) := by
  obtain ⟨g1, g2, g3⟩ := K.group N
  have hm : ∀ r ∈ rdy, next r ∈ rowsOf (markAll (-1) rdy is) := fun r hr => by rw [markAll_rows]; exact g3 r hr
  have notR : ∀ x, Im st (t + 1) x → R x ∉ rdy := fun x hx h => by
    obtain ⟨y, a1, a2, e⟩ := (K.rdyM _).mp h
    exact a2 (N.inj y x (a1.lt N.h) (hx.lt N.h) e ▸ hx)
  have npM : ∀ x, Im st (t + 1) x → npOf (markAll (-1) rdy is) (R x) = cntI st t x := fun x hx => by
    rw [npOf_mark rdy is g2, if_neg (notR x hx)]; exact K.np x (im_back N.h hx)
  have hle : ∀ r ∈ rdy, (hits next rdy (next r) : Int) ≤ npOf (markAll (-1) rdy is) (next r) := fun r hr => by
    obtain ⟨x, h1, h2, rfl⟩ := (K.rdyM r).mp hr
    have x8 := h1.lt N.h
    rw [N.nx x x8, npM _ ((im_succ N.h).mpr ⟨x, h1, rfl⟩), K.hit N (N.h.get x)]
    lia
  obtain ⟨r1, r2⟩ := done_rdy rdy (markAll (-1) rdy is) [] hm g1 hle List.nodup_nil (fun _ h => nomatch h)
  refine ⟨fun x hx => ?_, r1, fun s => ?_, ?_, fun s => ?_, fun x hx => ?_⟩
  · have : ∀ (g : List Str) (q : List Info × List Str), rowsOf (doneAll next g q).1 = rowsOf q.1 := by
      intro g
      induction g with
      | nil => intro q; rfl
      | cons r g ih => intro q; show rowsOf (doneAll next g (doneOne next q r)).1 = _; rw [ih]; show rowsOf (onRow (onRow q.1 r (setNp (-2))) (next r) (bump (-1))) = _; rw [rows_bump, rows_set]
    rw [this]
    show R x ∈ rowsOf (markAll (-1) rdy is)
    rw [markAll_rows]; exact K.rows x hx
  · rw [r2 s]
    constructor
    · rintro (h | ⟨⟨r, hr, rfl⟩, e⟩)
      · cases h
      · obtain ⟨x, h1, h2, rfl⟩ := (K.rdyM r).mp hr
        have x8 := h1.lt N.h
        have im : Im st (t + 1) (st.getD x 0) := (im_succ N.h).mpr ⟨x, h1, rfl⟩
        refine ⟨st.getD x 0, im, fun h => ?_, (N.nx x x8).symm⟩
        rw [N.nx x x8, npM _ im, K.hit N (N.h.get x)] at e
        obtain ⟨z, z1, z2⟩ := (im_succ N.h).mp h
        have : 0 < cntI st (t + 1) (st.getD x 0) := by
          unfold cntI
          exact List.length_pos_of_mem (List.mem_filter.mpr ⟨List.mem_range.mpr (z1.lt N.h), decide_eq_true ⟨z1, z2⟩⟩)
        lia
    · rintro ⟨y, h1, h2, rfl⟩
      refine aside fun zk => ?_
      have y8 := h1.lt N.h
      obtain ⟨x, a1, rfl⟩ := (im_succ N.h).mp h1
      apply zk
      have x8 := a1.lt N.h
      have nx : ¬ Im st (t + 1) x := fun h => h2 ((im_succ N.h).mpr ⟨x, h, rfl⟩)
      have c0 : cntI st (t + 1) (st.getD x 0) = 0 := by
        unfold cntI
        rw [List.length_eq_zero_iff, List.filter_eq_nil_iff]
        intro z hz q
        obtain ⟨q1, q2⟩ := of_decide_eq_true q
        exact h2 ((im_succ N.h).mpr ⟨z, q1, q2⟩)
      refine .inr ⟨⟨R x, (K.rdyM _).mpr ⟨x, a1, nx, rfl⟩, N.nx x x8⟩, ?_⟩
      rw [npM _ h1, K.hit N y8, c0]; simp
  · rw [List.nodup_append]
    refine ⟨K.givN, K.rdyN, fun a ha b hb e => ?_⟩
    subst e
    obtain ⟨x, x8, h1, rfl⟩ := (K.givM a).mp ha
    obtain ⟨y, h2, _, e⟩ := (K.rdyM _).mp hb
    exact h1 (N.inj y x (h2.lt N.h) x8 e ▸ h2)
  · rw [List.mem_append, K.givM, K.rdyM]
    constructor
    · rintro (⟨x, x8, h1, e⟩ | ⟨x, h1, h2, e⟩)
      · exact ⟨x, x8, fun h => h1 (im_back N.h h), e⟩
      · exact ⟨x, h1.lt N.h, h2, e⟩
    · rintro ⟨x, x8, h1, e⟩
      by_cases q : Im st t x
      · exact .inr ⟨x, q, h1, e⟩
      · exact .inl ⟨x, x8, q, e⟩
  · rw [done_np rdy _ [] hm g1 _ (notR x hx), npM x hx, K.hit N (hx.lt N.h)]
    lia
theorem Kahn.last {st : List Nat} {R : Nat → Str} {next : Str → Str} {is : List Info} {rdy given : List Str} (N : Named st R next) (K : Kahn st R 9 is rdy given) : given.Perm (((List.range 8).filter fun i => !(sqs st 3).contains i).map R) := by
  refine perm_of K.givN (nodup_map (List.nodup_range.filter _) fun a ha b hb e => ?_) fun s => ?_
  · exact N.inj a b (List.mem_range.mp (List.mem_filter.mp ha).1) (List.mem_range.mp (List.mem_filter.mp hb).1) e
  · rw [K.givM s, List.mem_map]
    have key : ∀ x, (!(sqs st 3).contains x) = true ↔ ¬ Im st 9 x := fun x => by
      rw [im_nine N.h]
      simp only [Bool.not_eq_true', List.contains_iff_mem.symm, Bool.not_eq_eq_eq_not]
      rw [show Im st 8 x ↔ x ∈ sqs st 3 from (mem_sqs N.h).symm]
      simp
    constructor
    · rintro ⟨x, x8, h1, e⟩
      exact ⟨x, List.mem_filter.mpr ⟨List.mem_range.mpr x8, (key x).mpr h1⟩, e⟩
    · rintro ⟨x, hx, e⟩
      obtain ⟨a, b⟩ := List.mem_filter.mp hx
      exact ⟨x, List.mem_range.mp a, (key x).mp b, e⟩
end
end
section
noncomputable def toL (x : Str) : List Nat := x.cps.toList
theorem toL_inj {a b : Str} (h : toL a = toL b) : a = b := by
  obtain ⟨⟨a⟩⟩ := a; obtain ⟨⟨b⟩⟩ := b
  have h : a = b := h
  rw [h]
theorem toL_app (a b : Str) : toL (a ++ b) = toL a ++ toL b := by
  obtain ⟨⟨a⟩⟩ := a; obtain ⟨⟨b⟩⟩ := b
  show ((⟨a⟩ : Array Nat) ++ ⟨b⟩).toList = a ++ b
  simp
theorem toL_tk (x : Str) (n : Nat) : toL (tk x n) = (toL x).take n := rfl
theorem toL_dr (x : Str) (n : Nat) : toL (dr x n) = (toL x).drop n := rfl
theorem toL_len (x : Str) : (toL x).length = x.length := by simp [toL, Str.length]
theorem cAt_L (x : Str) (i : Nat) : cAt x i = (toL x).getD i 0 := by
  unfold cAt toL
  rw [Array.getD_eq_getD_getElem?, List.getD_eq_getElem?_getD, Array.getElem?_toList]
theorem ll_cons {a b : Nat} {x y : List Nat} : a :: x < b :: y ↔ a < b ∨ a = b ∧ x < y := List.cons_lt_cons_iff
theorem ll_irrefl : ∀ x : List Nat, ¬ x < x
  | [] => by simp
  | a :: x => by rw [ll_cons]; rintro (h | ⟨_, h⟩); exact Nat.lt_irrefl _ h; exact ll_irrefl x h
theorem ll_trans : ∀ {x y z : List Nat}, x < y → y < z → x < z
  | _, [], _, h, _ => absurd h (by simp)
  | _, _ :: _, [], _, h => absurd h (by simp)
  | [], _ :: _, _ :: _, _, _ => by simp
  | a :: x, b :: y, c :: z, h1, h2 => by
    rw [ll_cons] at *
    rcases h1 with h1 | ⟨rfl, h1⟩ <;> rcases h2 with h2 | ⟨rfl, h2⟩
    · exact .inl (Nat.lt_trans h1 h2)
    · exact .inl h1
    · exact .inl h2
    · exact .inr ⟨rfl, ll_trans h1 h2⟩
theorem ll_between : ∀ (p : Nat) {m M t : List Nat}, ¬ t < m → ¬ M < t → p ≤ m.length → p ≤ M.length → m.take p = M.take p → p ≤ t.length ∧ t.take p = m.take p
  | 0, _, _, _, _, _, _, _, _ => by simp
  | p + 1, [], _, _, _, _, h, _, _ => by simp at h
  | p + 1, _ :: _, [], _, _, _, _, h, _ => by simp at h
  | p + 1, a :: m, b :: M, [], h1, _, _, _, _ => absurd (by simp) h1
  | p + 1, a :: m, b :: M, c :: t, h1, h2, h3, h4, h5 => by
    simp only [List.take_succ_cons, List.cons.injEq, List.length_cons, Nat.add_le_add_iff_right] at *
    obtain ⟨rfl, h5⟩ := h5
    rw [ll_cons] at h1 h2
    have e : c = a := by
      rcases Nat.lt_trichotomy c a with q | q | q
      · exact absurd (.inl q) h1
      · exact q
      · exact absurd (.inl q) h2
    subst e
    obtain ⟨r1, r2⟩ := ll_between p (fun q => h1 (.inr ⟨rfl, q⟩)) (fun q => h2 (.inr ⟨rfl, q⟩)) h3 h4 h5
    exact ⟨r1, rfl, r2⟩
theorem ll_head : ∀ (i : Nat) {m M : List Nat}, ¬ M < m → (∀ j, j < i → m.getD j 0 = M.getD j 0) → i < m.length → i < M.length
  | _, [], _, _, _, h => by simp at h
  | _, _ :: _, [], h, _, _ => absurd (by simp) h
  | 0, _ :: _, _ :: _, _, _, _ => by simp
  | i + 1, a :: m, b :: M, h1, h2, h3 => by
    have e : a = b := h2 0 (by lia)
    subst e
    have := ll_head i (m := m) (M := M) (fun q => h1 (ll_cons.mpr (.inr ⟨rfl, q⟩))) (fun j hj => h2 (j + 1) (by lia)) (by simpa using h3)
    simpa using this
theorem take_of_getD {i : Nat} : ∀ {m M : List Nat}, i ≤ m.length → i ≤ M.length → (∀ j, j < i → m.getD j 0 = M.getD j 0) → m.take i = M.take i := fun {m M} h1 h2 h => by
  apply List.ext_getElem
  · simp; lia
  · intro j q1 q2
    have hj : j < i := by simp at q1; lia
    have := h j hj
    rw [List.getD_eq_getElem?_getD, List.getD_eq_getElem?_getD, List.getElem?_eq_getElem (by lia), List.getElem?_eq_getElem (by lia)] at this
    simpa using this
theorem best_min (x : Nat → List Nat) : ∀ k, argBest (fun i j => decide (x i < x j)) k ≤ k ∧ ∀ j, j ≤ k → ¬ x j < x (argBest (fun i j => decide (x i < x j)) k)
  | 0 => ⟨Nat.le_refl _, fun j hj => by have : j = 0 := by lia
                                        subst this; exact ll_irrefl _⟩
  | k + 1 => by
    obtain ⟨h1, h2⟩ := best_min x k
    unfold argBest
    by_cases q : x (k + 1) < x (argBest (fun i j => decide (x i < x j)) k)
    · simp only [q, decide_true, if_true]
      refine ⟨Nat.le_refl _, fun j hj e => ?_⟩
      by_cases z : j = k + 1
      · subst z; exact ll_irrefl _ e
      · exact h2 j (by lia) (ll_trans e q)
    · simp only [q, decide_false]
      refine ⟨by simp; lia, fun j hj => ?_⟩
      by_cases z : j = k + 1
      · subst z; simpa using q
      · simpa using h2 j (by lia)
theorem best_max (x : Nat → List Nat) : ∀ k, argBest (fun i j => decide (x j < x i)) k ≤ k ∧ ∀ j, j ≤ k → ¬ x (argBest (fun i j => decide (x j < x i)) k) < x j
  | 0 => ⟨Nat.le_refl _, fun j hj => by have : j = 0 := by lia
                                        subst this; exact ll_irrefl _⟩
  | k + 1 => by
    obtain ⟨h1, h2⟩ := best_max x k
    unfold argBest
    by_cases q : x (argBest (fun i j => decide (x j < x i)) k) < x (k + 1)
    · simp only [q, decide_true, if_true]
      refine ⟨Nat.le_refl _, fun j hj e => ?_⟩
      by_cases z : j = k + 1
      · subst z; exact ll_irrefl _ e
      · exact h2 j (by lia) (ll_trans q e)
    · simp only [q, decide_false]
      refine ⟨by simp; lia, fun j hj => ?_⟩
      by_cases z : j = k + 1
      · subst z; simpa using q
      · simpa using h2 j (by lia)
section
variable {ts : List Str}
theorem getD_mem (hne : ts ≠ []) {i : Nat} (h : i ≤ ts.length - 1) : ts.getD i "" ∈ ts := by
  have : i < ts.length := by have := List.length_pos_iff.mpr hne; lia
  rw [List.getD_eq_getElem?_getD, List.getElem?_eq_getElem this]
  exact List.getElem_mem _
theorem min_mem (hne : ts ≠ []) : minS ts ∈ ts := getD_mem hne (best_min (fun i => toL (ts.getD i "")) _).1
theorem max_mem (hne : ts ≠ []) : maxS ts ∈ ts := getD_mem hne (best_max (fun i => toL (ts.getD i "")) _).1
theorem min_le (hne : ts ≠ []) {t : Str} (ht : t ∈ ts) : ¬ toL t < toL (minS ts) := by
  obtain ⟨j, hj, rfl⟩ := List.mem_iff_getElem.mp ht
  have := (best_min (fun i => toL (ts.getD i "")) (ts.length - 1)).2 j (by omega)
  have e : ts.getD j "" = ts[j] := by rw [List.getD_eq_getElem?_getD, List.getElem?_eq_getElem hj]; rfl
  rw [← e]; exact this
theorem le_max (hne : ts ≠ []) {t : Str} (ht : t ∈ ts) : ¬ toL (maxS ts) < toL t := by
  obtain ⟨j, hj, rfl⟩ := List.mem_iff_getElem.mp ht
  have := (best_max (fun i => toL (ts.getD i "")) (ts.length - 1)).2 j (by lia)
  have e : ts.getD j "" = ts[j] := by rw [List.getD_eq_getElem?_getD, List.getElem?_eq_getElem hj]; rfl
  rw [← e]; exact this
theorem short_hd (hne : ts ≠ []) : ∀ i, (∀ j, j < i → cAt (minS ts) j = cAt (maxS ts) j) → i < (minS ts).length → i < (maxS ts).length := fun i h1 h2 => by
  rw [← toL_len] at h2 ⊢
  exact ll_head i (min_le hne (max_mem hne)) (fun j hj => by rw [← cAt_L, ← cAt_L]; exact h1 j hj) h2
theorem find_range {n : Nat} {f : Nat → Bool} : let p := ((List.range n).find? f).getD n; p ≤ n ∧ (∀ j, j < p → f j = false) ∧ (p < n → f p = true) := by
  dsimp only
  cases q : (List.range n).find? f with
  | none =>
    have := List.find?_eq_none.mp q
    exact ⟨Nat.le_refl _, fun j hj => by simpa using this j (List.mem_range.mpr hj), fun h => absurd h (Nat.lt_irrefl _)⟩
  | some c =>
    have hc := List.mem_range.mp (List.mem_of_find?_eq_some q)
    refine ⟨Nat.le_of_lt hc, fun j hj => ?_, fun _ => List.find?_some q⟩
    have hj : j < c := hj
    obtain ⟨h1, as, bs, e, h3⟩ := List.find?_eq_some_iff_append.mp q
    have hl : as.length = c := by
      have : (List.range n)[as.length]? = some c := by rw [e]; simp
      rw [List.getElem?_range (by have := congrArg List.length e; simp at this; lia)] at this
      exact Option.some.inj this
    have : as[j]? = some j := by
      have h4 : (List.range n)[j]? = some j := List.getElem?_range (by lia)
      rw [e, List.getElem?_append_left (by lia)] at h4; exact h4
    simpa using h3 j (List.mem_of_getElem? this)
structure Pfx (ts : List Str) (p : Nat) : Prop where
  le : p ≤ (toL (minS ts)).length
  all : ∀ t ∈ ts, p ≤ (toL t).length ∧ (toL t).take p = (toL (minS ts)).take p
  sh : sharedOf ts = p
theorem pfx_ok (hne : ts ≠ []) : Pfx ts (partAt (minS ts) (maxS ts)) := by
  obtain ⟨p1, p2, p3⟩ := find_range (n := (minS ts).length) (f := fun i => cAt (minS ts) i != cAt (maxS ts) i)
  have hp : ((List.range (minS ts).length).find? fun i => cAt (minS ts) i != cAt (maxS ts) i).getD (minS ts).length = partAt (minS ts) (maxS ts) := rfl
  rw [hp] at p1 p2 p3
  generalize partAt (minS ts) (maxS ts) = p at *
  have eqj : ∀ j, j < p → cAt (minS ts) j = cAt (maxS ts) j := fun j hj => by simpa using p2 j hj
  have pM : p ≤ (toL (maxS ts)).length := by
    by_cases q : p = 0
    · lia
    · have := short_hd hne (p - 1) (fun j hj => eqj j (by lia)) (by lia)
      rw [toL_len]; lia
  have pm : p ≤ (toL (minS ts)).length := by rw [toL_len]; exact p1
  have tk1 : (toL (minS ts)).take p = (toL (maxS ts)).take p := take_of_getD pm pM fun j hj => by rw [← cAt_L, ← cAt_L]; exact eqj j hj
  have all : ∀ t ∈ ts, p ≤ (toL t).length ∧ (toL t).take p = (toL (minS ts)).take p := fun t ht => ll_between p (min_le hne ht) (le_max hne ht) pm pM tk1
  refine ⟨pm, all, ?_⟩
  have h0 : ts.headD "" ∈ ts := by cases ts with
    | nil => exact absurd rfl hne
    | cons a r => exact .head _
  have hmin : ∀ t ∈ ts, leastI ts ≤ (t.length : Int) := fun t ht => minI_le _ _ (List.mem_map_of_mem ht)
  obtain ⟨t0, ht0, e0⟩ : ∃ t ∈ ts, leastI ts = (t.length : Int) := by
    obtain ⟨t, h1, h2⟩ := List.mem_map.mp (minI_mem (ts.map fun t => (t.length : Int)) (by simpa using hne))
    exact ⟨t, h1, h2.symm⟩
  have cj : ∀ t ∈ ts, ∀ j, j < p → cAt t j = cAt (minS ts) j := fun t ht j hj => by
    obtain ⟨q1, q2⟩ := all t ht
    have := congrArg (fun l => l.getD j 0) q2
    simp only [List.getD_eq_getElem?_getD, List.getElem?_take, hj, if_true] at this
    rw [cAt_L, cAt_L, List.getD_eq_getElem?_getD, List.getD_eq_getElem?_getD]; exact this
  obtain ⟨s1, s2, s3⟩ := find_range (n := (leastI ts).toNat) (f := differ ts)
  have hs : ((List.range (leastI ts).toNat).find? (differ ts)).getD (leastI ts).toNat = sharedOf ts := rfl
  rw [hs] at s1 s2 s3
  have pl : p ≤ (leastI ts).toNat := by
    have := (all t0 ht0).1
    rw [toL_len] at this; lia
  rcases Nat.lt_trichotomy (sharedOf ts) p with q | q | q
  · have d := s3 (by lia)
    unfold differ at d
    obtain ⟨t, ht, e⟩ := List.any_eq_true.mp d
    have e : cAt t (sharedOf ts) ≠ cAt (ts.headD "") (sharedOf ts) := by simpa using e
    exact absurd ((cj t ht _ q).trans (cj _ h0 _ q).symm) e
  · exact q
  · have d := s2 p q
    unfold differ at d
    have e : ∀ t ∈ ts, cAt t p = cAt (ts.headD "") p := fun t ht => by
      have := List.any_eq_false.mp d t ht
      simpa using this
    have hlt : p < (minS ts).length := by
      have := hmin _ (min_mem hne)
      lia
    have := p3 hlt
    rw [e _ (min_mem hne), e _ (max_mem hne)] at this
    simp at this
theorem csr_short (hne : ts ≠ []) : csr ts = shortT ts := by
  have P := pfx_ok hne
  have hM : maxI (ts.map fun t => (t.length : Int)) = longestOf ts := rfl
  have hpl : (pfx ts).length = sharedOf ts := by
    rw [← toL_len]; unfold pfx; rw [toL_tk, List.length_take, P.sh]; have := P.le; lia
  have hpx : ∀ t ∈ ts, toL (pfx ts) = (toL t).take (sharedOf ts) ∧ sharedOf ts ≤ (toL t).length := fun t ht => by
    obtain ⟨a, b⟩ := P.all t ht
    unfold pfx; rw [toL_tk, P.sh]; exact ⟨b.symm, a⟩
  have hMt : ∀ t ∈ ts, (t.length : Int) ≤ longestOf ts := fun t ht => le_maxI _ _ (List.mem_map_of_mem ht)
  obtain ⟨t0, ht0⟩ := List.exists_mem_of_ne_nil ts hne
  have hpM : (sharedOf ts : Int) ≤ longestOf ts := by
    have := (hpx t0 ht0).2; have := hMt t0 ht0; rw [toL_len] at *; lia
  unfold csr shortT
  simp only [hM, hpl]
  generalize sharedOf ts = p at *
  generalize longestOf ts = M at *
  generalize pfx ts = px at *
  by_cases c1 : M ≤ 80
  · rw [if_pos c1, if_pos c1]
  rw [if_neg c1, if_neg c1]
  by_cases c2 : M - p ≤ 57
  · rw [if_pos (show 5 < 80 - (M - (p : Int) + 5 + 12) from by lia), if_pos c2]
    refine List.map_congr_left fun t ht => ?_
    obtain ⟨h1, h2⟩ := hpx t ht
    generalize hcl : (80 - (M - (p : Int) + 5 + 12)).toNat = cl
    have hcl' : (cl : Int) = 63 - M + p := by lia
    unfold shorten wo
    rw [hpl, if_pos (show 12 < (p : Int) - (5 : Nat) - cl from by lia), if_pos (show (12 : Int) < M - 63 - (5 : Nat) from by lia)]
    have n1 : (p : Int) - (5 : Nat) - cl = M - 63 - (5 : Nat) := by lia
    rw [n1]
    apply toL_inj
    simp only [toL_app, toL_tk, toL_dr, h1]
    have t5 : List.take 5 (List.take p (toL t)) = List.take 5 (toL t) := by rw [List.take_take]; congr 1; lia
    have d5 : List.drop (p - cl) (List.take p (toL t)) ++ List.drop p (toL t) = List.drop (M - 63).toNat (toL t) := by
      rw [show (M - 63).toNat = p - cl from by lia]
      rw [← List.drop_append_of_le_length (by rw [List.length_take]; lia), List.take_append_drop]
    rw [t5, List.append_assoc, d5]
  · rw [if_neg (show ¬ 5 < 80 - (M - (p : Int) + 5 + 12) from by lia), if_neg c2]
    refine List.map_congr_left fun t ht => ?_
    obtain ⟨h1, h2⟩ := hpx t ht
    have e1 : wo t (p + 41) ((t.length : Int) - 5) = px ++ shorten (dr t p) 41 5 := by
      have dl : ((dr t p).length : Int) = (t.length : Int) - p := by
        rw [← toL_len, ← toL_len, toL_dr, List.length_drop]; lia
      unfold wo shorten
      rw [dl]
      by_cases c : (12 : Int) < (t.length : Int) - 5 - ((p + 41 : Nat) : Int)
      · rw [if_pos c, if_pos (show (12 : Int) < (t.length : Int) - p - (41 : Nat) - (5 : Nat) from by lia)]
        have n1 : (t.length : Int) - p - (41 : Nat) - (5 : Nat) = (t.length : Int) - 5 - ((p + 41 : Nat) : Int) := by lia
        rw [n1]
        apply toL_inj
        have tl := toL_len t
        have dl2 : (dr t p).length = (toL t).length - p := by rw [← toL_len, toL_dr, List.length_drop]
        simp only [toL_app, toL_tk, toL_dr, h1, List.drop_drop]
        rw [show p + ((dr t p).length - 5) = ((t.length : Int) - 5).toNat from by lia]
        rw [List.take_add]
        simp only [List.append_assoc]
      · rw [if_neg c, if_neg (show ¬ (12 : Int) < (t.length : Int) - p - (41 : Nat) - (5 : Nat) from by lia)]
        apply toL_inj
        rw [toL_app, toL_dr, h1, List.take_append_drop]
    rw [e1]
    generalize shorten (dr t p) 41 5 = rest
    unfold shorten wo
    rw [hpl]
    have pl : (toL px).length = p := by rw [toL_len]; exact hpl
    by_cases c : (12 : Int) < (p : Int) - (5 : Nat) - (5 : Nat)
    · rw [if_pos c, if_pos (show (12 : Int) < (p : Int) - 5 - (5 : Nat) from by lia)]
      have n1 : (p : Int) - (5 : Nat) - (5 : Nat) = (p : Int) - 5 - (5 : Nat) := by lia
      rw [n1]
      apply toL_inj
      simp only [toL_app, toL_tk, toL_dr]
      rw [List.take_append_of_le_length (by lia), List.drop_append_of_le_length (by lia), show ((p : Int) - 5).toNat = p - 5 from by lia]
      simp only [List.append_assoc]
    · rw [if_neg c, if_neg (show ¬ (12 : Int) < (p : Int) - 5 - (5 : Nat) from by lia)]
end
theorem shortOk {ls : List (List Str)} (s : Small ls) (pl : ∀ l ∈ ls, ∀ x ∈ l, plain x) : ShortOk ls := by
  have hne : ls.map textOf ≠ [] := by simpa using s.ne
  have tl : ∀ t ∈ ls.map textOf, t.length ≤ 1000 := fun t ht => by
    obtain ⟨r, hr, rfl⟩ := List.mem_map.mp ht
    have := textOf_len (s.rows r hr) (s.row r hr); lia
  exact ⟨s, pl, short_hd hne, tl _ (min_mem hne), tl _ (max_mem hne), csr_short hne⟩
end
section
theorem any_eq_mem (l : List Str) (x : Str) : (l.any (· == x)) = decide (x ∈ l) := by
  by_cases q : x ∈ l
  · rw [decide_eq_true q]; exact List.any_eq_true.mpr ⟨x, q, by simp⟩
  · rw [decide_eq_false q]; exact List.any_eq_false.mpr fun y hy => by simpa using fun e : y = x => q (e ▸ hy)
theorem uld_go : ∀ (r ys ms : List Str), r.Nodup → ys.Nodup → uld r ys ms = (ms ++ r.filter (fun x => !decide (x ∈ ys)), ys.filter fun y => !decide (y ∈ r))
  | [], ys, ms, _, _ => by unfold uld; simp; exact (List.filter_eq_self.mpr fun _ _ => rfl).symm
  | x :: r, ys, ms, hr, hy => by
    have hr := List.nodup_cons.mp hr
    unfold uld
    by_cases q : x ∈ ys
    · rw [if_pos q, uld_go r _ ms hr.2 (hy.erase x)]
      have e1 : r.filter (fun z => !decide (z ∈ ys.erase x)) = r.filter fun z => !decide (z ∈ ys) := List.filter_congr fun z hz => by
        have : z ≠ x := fun e => hr.1 (e ▸ hz)
        simp [List.mem_erase_of_ne this]
      have e2 : (ys.erase x).filter (fun y => !decide (y ∈ r)) = ys.filter fun y => !decide (y ∈ x :: r) := by
        rw [hy.erase_eq_filter, List.filter_filter]
        exact List.filter_congr fun z _ => by by_cases a : z = x <;> by_cases b : z ∈ r <;> simp [a, b]
      rw [e1, e2, List.filter_cons_of_neg (by simp [q])]
    · rw [if_neg q, uld_go r ys (ms ++ [x]) hr.2 hy, List.filter_cons_of_pos (by simp [q])]
      have e2 : ys.filter (fun y => !decide (y ∈ r)) = ys.filter fun y => !decide (y ∈ x :: r) := List.filter_congr fun z hz => by
        have : z ≠ x := fun e => q (e ▸ hz)
        simp [this]
      rw [e2]; simp
theorem uld_law {xs ys : List Str} (hx : xs.Nodup) (hy : ys.Nodup) : uld xs.reverse ys [] = ((xs.filter fun r => !ys.any (· == r)).reverse, ys.filter fun r => !xs.any (· == r)) := by
  rw [uld_go _ _ _ ((List.reverse_perm xs).nodup_iff.mpr hx) hy, List.nil_append, List.filter_reverse]
  congr 1
  · congr 1; exact List.filter_congr fun z _ => by rw [any_eq_mem]
  · exact List.filter_congr fun z _ => by rw [any_eq_mem]; simp
end
section
noncomputable def kindAt (look : Int) (i : Nat) : Int := (look.fdiv 4 + (look.fdiv 28).fmod 7 * (i : Int)).fmod 7
noncomputable def rightsAt (rights look : Int) (i : Nat) : Int := (rights + stepOf look * (i : Int)).fmod 4096
noncomputable def baseRow (rights look : Int) (i : Nat) : Str := rowTo (kindAt look i) (rightsAt rights look i) 3
noncomputable def starsN (c : Int) (i : Nat) : Int := (c.fdiv (4 ^ i)).fmod 4
noncomputable def fullRow (rights look c : Int) (i : Nat) : Str := baseRow rights look i ++ Txt.mul "*" (starsN c i)
theorem fdiv_pos {a b : Int} (h : 0 ≤ b) : a.fdiv b = a / b := Int.fdiv_eq_ediv_of_nonneg a h
theorem fmod_pos {a b : Int} (h : 0 ≤ b) : a.fmod b = a % b := Int.fmod_eq_emod_of_nonneg a h
theorem starsN_lt (c : Int) (i : Nat) : 0 ≤ starsN c i ∧ starsN c i < 4 := fmod_lt (by decide)
theorem stars_toL (c : Int) (i : Nat) : toL (Txt.mul "*" (starsN c i)) = List.replicate (starsN c i).toNat 42 := mul_one_list 42 _
theorem digit_lt (r : Int) (t : Nat) : 0 ≤ digitOf r t ∧ digitOf r t < 8 := fmod_lt (by decide)
theorem last_lt (r : Int) (t : Nat) : 0 ≤ lastOf r t ∧ lastOf r t < 4 := by
  unfold lastOf
  have h1 := fmod_lt (a := digitOf r t) (k := 2) (by decide)
  have h2 := fmod_lt (a := r.fdiv (sh2 t)) (k := 2) (by decide)
  omega
theorem lastC_all : ∀ t < 3, ∀ j < 4, lastC t ((j : Nat) : Int) ∈ rowCs := by decide
theorem lastC_mem {t : Nat} {j : Int} (ht : t < 3) (h : 0 ≤ j ∧ j < 4) : lastC t j ∈ rowCs :=
  Int.toNat_of_nonneg h.1 ▸ lastC_all t ht j.toNat ((Int.toNat_lt h.1).mpr h.2)
theorem kindC_all : ∀ k < 7, ([112, 99, 100, 98, 45, 108, 115] : List Nat).getD k 0 ∈ rowCs := by decide
theorem kindC_mem {k : Int} (h : 0 ≤ k ∧ k < 7) : ([112, 99, 100, 98, 45, 108, 115] : List Nat).getD k.toNat 0 ∈ rowCs := kindC_all k.toNat ((Int.toNat_lt h.1).mpr h.2)
theorem trip_mem (r : Int) {t : Nat} (ht : t < 3) : ∀ c ∈ toL (tripC r t), c ∈ rowCs := fun c hc => by
  have hc : c ∈ [if 3 < digitOf r t then 114 else 45, if ((digitOf r t).fdiv 2).fmod 2 == 1 then 119 else 45, lastC t (lastOf r t)] := hc
  simp only [List.mem_cons, List.not_mem_nil, or_false] at hc
  rcases hc with rfl | rfl | rfl
  · split <;> decide
  · split <;> decide
  · exact lastC_mem ht (last_lt r t)
theorem plain_app {x y : Str} (hx : plain x) (hy : plain y) : plain (x ++ y) := fun c hc => by
  have hc : c ∈ toL (x ++ y) := hc
  rw [toL_app] at hc
  exact (List.mem_append.mp hc).elim (hx c) (hy c)
theorem rowTo_plain {k r : Int} (hk : 0 ≤ k ∧ k < 7) : ∀ t, t ≤ 3 → plain (rowTo k r t)
  | 0, _ => fun c hc => by
    have hc : c ∈ [([112, 99, 100, 98, 45, 108, 115] : List Nat).getD k.toNat 0] := hc
    rw [List.mem_singleton.mp hc]; exact kindC_mem hk
  | t + 1, h => plain_app (rowTo_plain hk t (by lia)) (trip_mem r (by lia))
theorem kindAt_lt (look : Int) (i : Nat) : 0 ≤ kindAt look i ∧ kindAt look i < 7 := fmod_lt (by decide)
theorem rightsAt_lt (rights look : Int) (i : Nat) : 0 ≤ rightsAt rights look i ∧ rightsAt rights look i < 4096 := fmod_lt (by decide)
theorem full_plain (rights look c : Int) (i : Nat) : plain (fullRow rights look c i) := plain_app (rowTo_plain (kindAt_lt look i) 3 (by decide)) fun x hx => by
  have hx : x ∈ toL (Txt.mul "*" (starsN c i)) := hx
  rw [stars_toL] at hx
  rw [(List.mem_replicate.mp hx).2]; decide
theorem full_len (rights look c : Int) (i : Nat) : (fullRow rights look c i).length ≤ 13 := by
  rw [← toL_len]
  unfold fullRow
  rw [toL_app, stars_toL, List.length_append, List.length_replicate, toL_len]
  have := starsN_lt c i
  have h : (baseRow rights look i).length = 10 := rowTo_len _ _ 3
  lia
theorem trips_toL (k r : Int) : toL (rowTo k r 3) = [([112, 99, 100, 98, 45, 108, 115] : List Nat).getD k.toNat 0] ++ toL (tripC r 0) ++ toL (tripC r 1) ++ toL (tripC r 2) := by
  show toL (((kindC k ++ tripC r 0) ++ tripC r 1) ++ tripC r 2) = _
  rw [toL_app, toL_app, toL_app]; rfl
noncomputable def tripD (t : Nat) (d b : Int) : List Nat := [if 3 < d then 114 else 45, if (d.fdiv 2).fmod 2 == 1 then 119 else 45, lastC t (d.fmod 2 + 2 * b)]
noncomputable def invJ (t : Nat) (l : List Nat) : Nat := (([[45, 120, 83, 115], [45, 120, 83, 115], [45, 120, 84, 116]] : List (List Nat)).getD t []).idxOf (l.getD 2 0)
noncomputable def invD (t : Nat) (l : List Nat) : Nat := (if l.getD 0 0 == 114 then 4 else 0) + (if l.getD 1 0 == 119 then 2 else 0) + invJ t l % 2
theorem inv_all : ∀ t < 3, ∀ d < 8, ∀ b < 2, invD t (tripD t ((d : Nat) : Int) ((b : Nat) : Int)) = d ∧ invJ t (tripD t ((d : Nat) : Int) ((b : Nat) : Int)) / 2 = b := by decide +kernel
noncomputable abbrev bitOf (r : Int) (t : Nat) : Int := (r.fdiv (sh2 t)).fmod 2
theorem trip_inv {t : Nat} (ht : t < 3) {d b : Int} (hd : 0 ≤ d ∧ d < 8) (hb : 0 ≤ b ∧ b < 2) : (invD t (tripD t d b) : Int) = d ∧ ((invJ t (tripD t d b) / 2 : Nat) : Int) = b := by
  have := inv_all t ht d.toNat ((Int.toNat_lt hd.1).mpr hd.2) b.toNat ((Int.toNat_lt hb.1).mpr hb.2)
  rw [Int.toNat_of_nonneg hd.1, Int.toNat_of_nonneg hb.1] at this
  rw [this.1, this.2, Int.toNat_of_nonneg hd.1, Int.toNat_of_nonneg hb.1]
  exact ⟨rfl, rfl⟩
theorem trip_inj {r r' : Int} {t : Nat} (ht : t < 3) (e : toL (tripC r t) = toL (tripC r' t)) : digitOf r t = digitOf r' t ∧ bitOf r t = bitOf r' t := by
  have a := trip_inv ht (digit_lt r t) (fmod_lt (a := r.fdiv (sh2 t)) (k := 2) (by decide))
  have b := trip_inv ht (digit_lt r' t) (fmod_lt (a := r'.fdiv (sh2 t)) (k := 2) (by decide))
  have e : tripD t (digitOf r t) (bitOf r t) = tripD t (digitOf r' t) (bitOf r' t) := e
  rw [e] at a
  exact ⟨a.1.symm.trans b.1, a.2.symm.trans b.2⟩
noncomputable def recon (r : Int) : Int := 64 * digitOf r 0 + 8 * digitOf r 1 + digitOf r 2 + 2048 * bitOf r 0 + 1024 * bitOf r 1 + 512 * bitOf r 2
theorem recon_all : ((List.range 4096).all fun k => 64 * (k / 64 % 8) + 8 * (k / 8 % 8) + k / 1 % 8 + 2048 * (k / 2048 % 2) + 1024 * (k / 1024 % 2) + 512 * (k / 512 % 2) == k) = true := by kernel_rfl
theorem cast_dm (k a b : Nat) : ((k : Int).fdiv a).fmod b = ((k / a % b : Nat) : Int) := by rw [Int.ofNat_fmod, Int.ofNat_fdiv]
theorem recon_eq {r : Int} (h : 0 ≤ r ∧ r < 4096) : recon r = r := by
  have e := eq_of_beq (List.all_eq_true.mp recon_all r.toNat (List.mem_range.mpr ((Int.toNat_lt h.1).mpr h.2)))
  rw [← Int.toNat_of_nonneg h.1]
  generalize r.toNat = k at e
  refine Eq.trans ?_ (congrArg Int.ofNat e)
  show 64 * ((k : Int).fdiv (64 : Nat)).fmod (8 : Nat) + 8 * ((k : Int).fdiv (8 : Nat)).fmod (8 : Nat) + ((k : Int).fdiv (1 : Nat)).fmod (8 : Nat) + 2048 * ((k : Int).fdiv (2048 : Nat)).fmod (2 : Nat) + 1024 * ((k : Int).fdiv (1024 : Nat)).fmod (2 : Nat) + 512 * ((k : Int).fdiv (512 : Nat)).fmod (2 : Nat) = _
  rw [cast_dm, cast_dm, cast_dm, cast_dm, cast_dm, cast_dm]
  rfl
theorem rights_of {r r' : Int} (hr : 0 ≤ r ∧ r < 4096) (hr' : 0 ≤ r' ∧ r' < 4096) (e0 : toL (tripC r 0) = toL (tripC r' 0)) (e1 : toL (tripC r 1) = toL (tripC r' 1)) (e2 : toL (tripC r 2) = toL (tripC r' 2)) : r = r' := by
  have a0 := trip_inj (by decide) e0
  have a1 := trip_inj (by decide) e1
  have a2 := trip_inj (by decide) e2
  have : recon r = recon r' := by unfold recon; rw [a0.1, a0.2, a1.1, a1.2, a2.1, a2.2]
  exact (recon_eq hr).symm.trans (this.trans (recon_eq hr'))
theorem step_fin : ∀ q < 4, ∀ i < 8, ∀ j < 8, (([1, 8, 64, 512] : List Int).getD q 0 * ((i : Nat) : Int) - ([1, 8, 64, 512] : List Int).getD q 0 * ((j : Nat) : Int)) % 4096 = 0 → i = j := by decide +kernel
theorem full_inj (rights look c : Int) {i j : Nat} (hi : i < 8) (hj : j < 8) (e : fullRow rights look c i = fullRow rights look c j) : i = j := by
  have e := congrArg (fun x => (toL x).take 10) e
  have tk : ∀ i, (toL (fullRow rights look c i)).take 10 = toL (baseRow rights look i) := fun i => by
    unfold fullRow
    rw [toL_app, List.take_left']
    rw [toL_len]; exact rowTo_len _ _ 3
  simp only [tk] at e
  unfold baseRow at e
  rw [trips_toL, trips_toL] at e
  have t3 : ∀ (r : Int) (t : Nat), (toL (tripC r t)).length = 3 := fun _ _ => rfl
  have e := List.append_inj e (by simp [t3])
  have e' := List.append_inj e.1 (by simp [t3])
  have hr := rights_of (rightsAt_lt rights look i) (rightsAt_lt rights look j) (List.append_inj e'.1 (by simp)).2 e'.2 e.2
  unfold rightsAt at hr
  rw [fmod_pos (by decide), fmod_pos (by decide), Int.emod_eq_emod_iff_emod_sub_eq_zero, Int.add_sub_add_left] at hr
  have h := fmod_lt (a := look) (k := 4) (by decide)
  exact step_fin (look.fmod 4).toNat ((Int.toNat_lt h.1).mpr h.2) i hi j hj hr
noncomputable def fullRows (rights look c : Int) : List Str := (List.range 8).map (fullRow rights look c)
theorem fullRows_len (rights look c : Int) : (fullRows rights look c).length = 8 := by unfold fullRows; simp
theorem fullRows_nodup (rights look c : Int) : (fullRows rights look c).Nodup := by
  unfold fullRows
  rw [List.Nodup, List.pairwise_iff_getElem]
  intro i j hi hj hij
  simp only [List.getElem_map, List.getElem_range]
  simp at hi hj
  exact fun e => by have := full_inj rights look c hi hj e; lia
theorem fullRows_plain (rights look c : Int) : ∀ x ∈ fullRows rights look c, plain x := fun x hx => by
  obtain ⟨i, _, rfl⟩ := List.mem_map.mp hx; exact full_plain _ _ _ i
theorem fullRows_short (rights look c : Int) : ∀ x ∈ fullRows rights look c, x.length ≤ 13 := fun x hx => by
  obtain ⟨i, _, rfl⟩ := List.mem_map.mp hx; exact full_len _ _ _ i
end
section
theorem ll_tri : ∀ a b : List Nat, a < b ∨ a = b ∨ b < a
  | [], [] => .inr (.inl rfl)
  | [], _ :: _ => .inl (by simp)
  | _ :: _, [] => .inr (.inr (by simp))
  | a :: x, b :: y => by
    rw [ll_cons, ll_cons]
    rcases Nat.lt_trichotomy a b with q | rfl | q
    · exact .inl (.inl q)
    · rcases ll_tri x y with h | rfl | h
      · exact .inl (.inr ⟨rfl, h⟩)
      · exact .inr (.inl rfl)
      · exact .inr (.inr (.inr ⟨rfl, h⟩))
    · exact .inr (.inr (.inl q))
noncomputable def leS (a b : Str) : Bool := !decide (toL b < toL a)
theorem leS_trans (a b c : Str) (h1 : leS a b = true) (h2 : leS b c = true) : leS a c = true := by
  unfold leS at *
  simp only [Bool.not_eq_true', decide_eq_false_iff_not] at *
  intro h
  rcases ll_tri (toL b) (toL c) with q | q | q
  · exact h1 (ll_trans q h)
  · rw [← q] at h; exact h1 h
  · exact h2 q
theorem leS_total (a b : Str) : (leS a b || leS b a) = true := by
  unfold leS
  by_cases q : toL b < toL a
  · have : ¬ toL a < toL b := fun h => ll_irrefl _ (ll_trans q h)
    simp [q, this]
  · simp [q]
theorem leS_anti (a b : Str) (h1 : leS a b = true) (h2 : leS b a = true) : a = b := by
  unfold leS at *
  simp only [Bool.not_eq_true', decide_eq_false_iff_not] at *
  rcases ll_tri (toL a) (toL b) with q | q | q
  · exact absurd q h2
  · exact toL_inj q
  · exact absurd q h1
noncomputable def srt (l : List Str) : List Str := l.mergeSort leS
theorem srt_perm (l : List Str) : (srt l).Perm l := List.mergeSort_perm l leS
theorem rising_pair : ∀ (l : List Str) (p : Str), risingS p l = true → (p :: l).Pairwise fun a b => leS a b = true
  | [], p, _ => by simp
  | x :: r, p, h => by
    unfold risingS at h
    simp only [Bool.and_eq_true] at h
    have ih := rising_pair r x h.2
    have px : leS p x = true := by unfold leS; rw [← ltCps_eq]; exact h.1
    rw [List.pairwise_cons]
    refine ⟨fun y hy => ?_, ih⟩
    rcases List.mem_cons.mp hy with rfl | hy
    · exact px
    · exact leS_trans p x y px ((List.pairwise_cons.mp ih).1 y hy)
theorem srt_uniq {l ss : List Str} (p : ss.Perm l) (h : sortedS ss = true) : ss = srt l := by
  have pw : ss.Pairwise fun a b => leS a b = true := by
    cases ss with
    | nil => simp
    | cons x r => exact rising_pair r x h
  exact List.Perm.eq_of_pairwise (fun a b _ _ => leS_anti a b) pw (List.pairwise_mergeSort leS_trans leS_total l) (p.trans (srt_perm l).symm)
theorem srt_congr {l m : List Str} (p : l.Perm m) : srt l = srt m :=
  List.Perm.eq_of_pairwise (fun a b _ _ => leS_anti a b) (List.pairwise_mergeSort leS_trans leS_total l) (List.pairwise_mergeSort leS_trans leS_total m) ((srt_perm l).trans (p.trans (srt_perm m).symm))
end
section
section
variable {n : Nat} {Γ : Cx} {loc loc' loc1 loc2 : Loc} {led led' led1 led2 led3 pre post fp : Led} {s : Shared} {xs : List Str} {vs : List (Option V)} {P : Out → Prop}
theorem isinst_tup {ds : List PyData} : OpN n (fun vals => PySem.call (.builtin "isinstance") vals) [.d (.tuple ds), .raw (.type "tuple")] [] (.d (.bool true)) [] := fun Γ loc led s vals Q E O S rs h => by
  cases rs with
  | cons r1 q => cases q with
    | cons r2 q => cases q with
      | nil =>
        cases r2
        exact call_isinstance_yes (ty_tuple _ _ _ _ r1) (by kernel_rfl) (by rw [isSubtype_type]; kernel_rfl) (h _ s S Le.rfl of_bool)
theorem EvG.methStar (O : Ok n Γ) {ob : Expr} {name : Str} {apos sp pos : Pos} {e : Expr} {x D N f : Addr} {rv : Value} {p q : Int} {y : V} {ds : List PyData} {R : V → Led → Prop} (h1 : Ev Γ loc led ob (.raw (.ref x)) loc fp) (hS : (x, exactO (instObj 239 D)) ∈ fp) (hD : (D, attrO Γ.w N rv p q) ∈ fp)
    (hf : ∀ t1 t2 t3 t4 ep a b c d, findObj (KF Γ.w) 239 (some (attrObj Γ.w t1 t2 t3 t4 ep a b c d)) name = some (.bind (.builtin "function.__get__") (.ref f))) (ht : typeIn (KF Γ.w) (.ref f) = some (.type "function")) (hfn : fnIn (KF Γ.w) f = true)
    (he : Ep Γ loc fp e y) (hy : y = .d (.list ds) ∨ y = .d (.tuple ds)) (hz : ds.length ≤ sizeLine) (ho : OpC Γ.w n f (.raw (.ref x) :: ds.map V.d) fp R) (hs : autoParam (starEach [.Starred e sp] Γ.env = [(true, eval e Γ.env)]) aR)
    (hev : autoParam (eval (.Call (.Attribute ob name apos) [.Starred e sp] [] pos) Γ.env = (do let ov ← eval ob Γ.env; standAt apos.atName; let (f, first) ← holding [ov] (do pure ((← getAttr ov name true), ([] : List Value))); callWith pos f first (backTo pos (starEach [.Starred e sp] Γ.env)) (backToKw pos (keywordEach [] Γ.env)))) aR) :
    EvG Γ loc led (.Call (.Attribute ob name apos) [.Starred e sp] [] pos) R := fun s Q E S h => by
  rw [hev]
  refine wpAny_bind (h1 s _ E S fun a s1 S1 le1 ra => wpAny_bind (wpAny_standAt (wpAny_bind (wpAny_holding (wpAny_bind ?_)))))
  refine aside fun zk => ?_
  cases ra
  obtain ⟨_, _, od, h3, t1, t2, t3, t4, ep, u3, u4, rfl⟩ := S1.ld _ hD
  apply zk
  have X := KX O S1
  refine get_bind X (inst_srt S1 hS h3) (k_ga _) (hf _ _ _ _ _ _ _ _ _) (k_gn _) (wpAny_call (fn_get (s := { s1 with toks := s1.toks + 1 }) X ht ?_))
  refine handed_on rfl (wpAny_pure ?_)
  refine aside fun zk => ?_
  obtain ⟨S2, le2, g2⟩ := S1.push (o := methodObj (.ref f) (.ref x)) (t := s1.toks + 1) rfl
  apply zk
  have key : wpAny (MM Γ.w) Γ.A (callWith pos (.ref s1.heap.objs.size) [] (backTo pos (starEach [.Starred e sp] Γ.env)) []) Q E { s1 with heap := s1.heap.push (methodObj (.ref f) (.ref x)), toks := s1.toks + 1 } := by
    rw [hs]
    refine ks_call (P := MethP (KF Γ.w) s1.heap.objs.size f (.ref x)) rfl (fun h X => keeps_M hfn h X) (ks_lone (he _ _ E S2 fun v1 s3 S3 le3 r3 => star_data hy hz S3 r3 fun vals s4 S4 le4 rs => ?_))
    have hm := (vget (le4 _ _ (le3 _ _ g2)))
    refine ⟨⟨hm, KX O S4⟩, ?_⟩
    obtain ⟨S5, le5⟩ := S4.perm (l' := fp ++ []) (by rw [List.append_nil])
    refine wpAny_call (method_call hm (ho Γ loc [] s4 (.ref x :: vals) _ rfl O S5 (.cons rfl (rs.keeps le5)) fun v fp' v' s6 r S6 le6 rv => ?_))
    simp only [List.append_nil] at S6 le6 rv le5
    exact h v fp' v' s6 r S6 (le1.trans (le2.trans (le3.trans (le4.trans (le5.trans le6))))) rv
  exact key
theorem prep_body (O : Ok n Γ) {ob : Expr} {name : Str} {apos pos spos : Pos} {x D N f : Addr} {rv : Value} {p q : Int} {P0 : Led → List PyData → Prop} (h1 : Ep Γ loc fp ob (.raw (.ref x))) (hS : (x, exactO (instObj 239 D)) ∈ fp) (hD : (D, attrO Γ.w N rv p q) ∈ fp)
    (hf : findIn (KF Γ.w) (.ref 239) name = some (some (.ref f))) (ht : typeIn (KF Γ.w) (.ref f) = some (.type "function")) (hsh : ∀ t1 t2 t3 t4 ep a b c d, shadowIn (some (attrObj Γ.w t1 t2 t3 t4 ep a b c d)) name = some false) (hk : Keep Γ.w (.ref f))
    (ho : OpE Γ.w n f [.raw (.ref x)] fp P0) (hi : interactive Γ.env = false) (hsw : swapsWith (.Call (.Attribute ob name apos) [] [] pos) none spos.line Γ.env = pure false)
    {pl : Sem Bool} (hev : eval (.Call (.Attribute ob name apos) [] [] pos) Γ.env = (do let ov ← eval ob Γ.env; standAt apos.atName; let (f, first) ← holding [ov] (getMethod ov name pl); callWith pos f first (backTo pos (starEach [] Γ.env)) (backToKw pos (keywordEach [] Γ.env)))) :
    ∀ s (Q : Flow → Shared → Prop) (E : Value → Shared → Prop), St Γ loc fp s → (∀ (d : Led) (ds : List PyData) (s₂ : Shared) (h' : Heap) (e t : Addr) (us : List Value) (B : Heap), P0 d ds → Heap.FlyingW B (Γ.fenv :: Γ.outer) e (.ref 157) (.ref t) h' → h'.TupAt t us → B.get? t = none → s₂.heap.UpToSlots h' →
      (∀ h3 tk, B.StaysIn h3 → s₂.heap.UpToSlots h3 → St Γ loc d { s₂ with heap := h3, toks := tk } ∧ Le Γ fp s d { s₂ with heap := h3, toks := tk } ∧ ∃ as, ReadsAll (vis Γ d { s₂ with heap := h3, toks := tk }) us ds as) →
      (∀ b o, s₂.heap.get? b = some o → (∃ es k, o.data = .dict es k) ∨ B.get? b = some o) → (∀ b ∈ exOf Γ d, ∃ o, s₂.heap.get? b = some o) → E (.ref e) { s₂ with heap := h' }) → wpAny (MM Γ.w) Γ.A (execs [.Expr (.Call (.Attribute ob name apos) [] [] pos) spos] Γ.env) Q E s := fun s Q E S k => by
  refine wpAny_execs_cons (wpAny_Expr_any (methodCall_KW (h1 s _ E S fun a s1 S1 le1 ra => ?_) hev) hi hsw)
  refine aside fun zk => ?_
  cases ra
  obtain ⟨_, _, od, h3, t1, t2, t3, t4, ep, u3, u4, rfl⟩ := S1.ld _ hD
  apply zk
  refine method_fn (KX O S1) (inst_srt S1 hS h3) (k_ga _) (k_gn _) hf ht (hsh _ _ _ _ _ _ _ _ _) ?_
  refine callWith_of (P := fun h => (KF Γ.w).In h) rfl (fun h X => hk h X) (evalArgs_nil3 ⟨KX O S1, ?_⟩)
  obtain ⟨S4, le4⟩ := S1.perm (l' := fp ++ []) (by rw [List.append_nil])
  refine wpAny_call (ho Γ loc [] s1 [.ref x] _ rfl O S4 (.cons rfl .nil) fun fp' ds s₂ h' e t us B hP fl tup tn up later dicts ex => ?_)
  rw [List.append_nil] at later ex
  exact k fp' ds s₂ h' e t us B hP fl tup tn up (fun h3 tk q1 q2 => let ⟨a, b, c⟩ := later h3 tk q1 q2; ⟨a, le1.trans (le4.trans b), c⟩) dicts ex
end
end
section
theorem rows_grow {is : List Info} {x z : Str} : rowsOf (onRow is x (grow z)) = rowsOf is := onRow_rows is x (grow z) fun _ => rfl
theorem npOf_grow (is : List Info) (x z y : Str) : npOf (onRow is x (grow z)) y = npOf is y := by
  unfold npOf onRow
  induction is with
  | nil => rfl
  | cons i r ih =>
    rw [List.map_cons, List.find?_cons, List.find?_cons]
    by_cases q : i.row = x
    · rw [if_pos q]
      by_cases w : i.row = y
      · have : (grow z i).row = y := w
        simp [this, w]; rfl
      · have : ¬ (grow z i).row = y := w
        simp only [this, w, decide_false]; exact ih
    · rw [if_neg q]
      by_cases w : i.row = y
      · simp [w]
      · simp only [w, decide_false]; exact ih
structure Added (st : List Nat) (R : Nat → Str) (rows0 : List Str) (k : Nat) (is : List Info) : Prop where
  rows : rowsOf is = rows0
  np : ∀ x, x < 8 → npOf is (R x) = ((List.range k).filter fun p => decide (st.getD p 0 = x)).length
  succ : ∀ i ∈ is, ∃ x, x < 8 ∧ i.row = R x ∧ i.succ = if x < k then [R (st.getD x 0)] else []
theorem mem_npOf {is : List Info} (hn : (rowsOf is).Nodup) {i : Info} (hi : i ∈ is) : npOf is i.row = i.np := by
  obtain ⟨a, b, rfl⟩ := List.append_of_mem hi
  exact npOf_split hn
section
variable {st : List Nat} {R : Nat → Str} {next : Str → Str} {rows0 : List Str}
theorem Added.step (N : Named st R next) (hm : ∀ x, x < 8 → R x ∈ rows0) {k : Nat} {is : List Info} (A : Added st R rows0 k is) (hk : k < 8) : Added st R rows0 (k + 1) (onRow (onRow is (R (st.getD k 0)) (bump 1)) (R k) (grow (R (st.getD k 0)))) := by
  refine ⟨by rw [rows_grow, rows_bump]; exact A.rows, fun x hx => ?_, fun i hi => ?_⟩
  · rw [npOf_grow, List.range_succ, List.filter_append, List.length_append]
    by_cases q : st.getD k 0 = x
    · subst q
      rw [npOf_bump (by rw [A.rows]; exact hm _ hx), A.np _ hx]
      simp
    · have : R x ≠ R (st.getD k 0) := fun e => q (N.inj _ _ hx (N.h.get k) e).symm
      rw [npOf_other is (bump 1) (fun _ => rfl) this, A.np _ hx, show [k].filter (fun p => decide (st.getD p 0 = x)) = [] from List.filter_eq_nil_iff.mpr fun z hz w => q (by rw [← List.mem_singleton.mp hz]; exact of_decide_eq_true w)]
      simp
  · obtain ⟨i1, h1, hq⟩ := onRow_mem hi
    obtain ⟨i2, h2, hr⟩ := onRow_mem h1
    obtain ⟨x, x8, e1, e2⟩ := A.succ i2 h2
    have r1 : i1.row = R x ∧ i1.succ = if x < k then [R (st.getD x 0)] else [] := by
      rcases hr with rfl | ⟨_, rfl⟩
      · exact ⟨e1, e2⟩
      · exact ⟨e1, e2⟩
    rcases hq with rfl | ⟨q, rfl⟩
    · have hne : x ≠ k := fun e => by
        subst e
        -- the row at k is grown
        obtain ⟨j, hj, e⟩ := List.mem_map.mp hi
        split at e
        · rename_i hjr
          have := congrArg (fun i : Info => i.succ.length) e
          obtain ⟨j2, hj2, hr2⟩ := onRow_mem hj
          obtain ⟨x2, x28, f1, f2⟩ := A.succ j2 hj2
          have g1 : j.row = R x2 ∧ j.succ = if x2 < x then [R (st.getD x2 0)] else [] := by
            rcases hr2 with rfl | ⟨_, rfl⟩
            · exact ⟨f1, f2⟩
            · exact ⟨f1, f2⟩
          have : x2 = x := N.inj _ _ x28 x8 (g1.1.symm.trans hjr)
          subst this
          have a1 := r1.2
          rw [← e] at a1
          have a2 : (grow (R (st.getD x2 0)) j).succ = j.succ ++ [R (st.getD x2 0)] := rfl
          rw [a2, g1.2] at a1
          simp at a1
        · rename_i hjr
          subst e
          exact hjr r1.1
      refine ⟨x, x8, r1.1, r1.2.trans ?_⟩
      by_cases z : x < k
      · rw [if_pos z, if_pos (by lia)]
      · rw [if_neg z, if_neg (by lia)]
    · have : x = k := N.inj _ _ x8 hk (r1.1.symm.trans q)
      subst this
      refine ⟨x, x8, r1.1, ?_⟩
      show i1.succ ++ [R (st.getD x 0)] = _
      rw [r1.2, if_neg (Nat.lt_irrefl _), if_pos (by lia)]; rfl
theorem Added.done (N : Named st R next) {is : List Info} (A : Added st R rows0 8 is) : DoneOk next rows0 is := ⟨A.rows, fun i hi => by
  obtain ⟨x, x8, e1, e2⟩ := A.succ i hi
  rw [e2, if_pos x8, e1, N.nx x x8]⟩
theorem Added.kahn (N : Named st R next) (hm : ∀ x, x < 8 → R x ∈ rows0) (hn : rows0.Nodup) {is : List Info} (A : Added st R rows0 8 is) : Kahn st R 0 is (rdyOf is) [] := by
  have hn' : (rowsOf is).Nodup := by rw [A.rows]; exact hn
  have im0 : ∀ x, Im st 0 x ↔ x < 8 := fun x => ⟨fun h => h.lt N.h, fun h => ⟨x, h, rfl⟩⟩
  have zero : ∀ x, x < 8 → (npOf is (R x) = 0 ↔ ¬ Im st 1 x) := fun x hx => by
    rw [A.np x hx]
    constructor
    · intro h h1
      obtain ⟨z, z1, z2⟩ := (im_succ N.h).mp h1
      have : 0 < ((List.range 8).filter fun p => decide (st.getD p 0 = x)).length := List.length_pos_of_mem (List.mem_filter.mpr ⟨List.mem_range.mpr ((im0 z).mp z1), decide_eq_true z2⟩)
      lia
    · intro h
      have : ((List.range 8).filter fun p => decide (st.getD p 0 = x)) = [] := List.filter_eq_nil_iff.mpr fun z hz q => h ((im_succ N.h).mpr ⟨z, (im0 z).mpr (List.mem_range.mp hz), of_decide_eq_true q⟩)
      rw [this]; rfl
  refine ⟨fun x hx => by rw [A.rows]; exact hm x hx, ?_, fun s => ?_, List.nodup_nil, fun s => ?_, fun x hx => ?_⟩
  · exact (List.filter_sublist.map _).nodup hn'
  · unfold rdyOf
    rw [List.mem_map]
    constructor
    · rintro ⟨i, hi, rfl⟩
      obtain ⟨h1, h2⟩ := List.mem_filter.mp hi
      obtain ⟨x, x8, e1, _⟩ := A.succ i h1
      have := mem_npOf hn' h1
      rw [e1] at this
      exact ⟨x, (im0 x).mpr x8, (zero x x8).mp (by rw [this]; simpa using h2), e1.symm⟩
    · rintro ⟨x, h1, h2, rfl⟩
      have x8 := (im0 x).mp h1
      have hmem : R x ∈ rowsOf is := by rw [A.rows]; exact hm x x8
      obtain ⟨i, hi, e⟩ := List.mem_map.mp hmem
      refine ⟨i, List.mem_filter.mpr ⟨hi, ?_⟩, e⟩
      have := mem_npOf hn' hi
      rw [e, (zero x x8).mpr h2] at this
      simp [← this]
  · constructor
    · intro h; cases h
    · rintro ⟨x, h1, h2, _⟩; exact absurd ((im0 x).mpr h1) h2
  · rw [A.np x ((im0 x).mp hx)]
    unfold cntI
    congr 2
    exact List.filter_congr fun y hy => by
      have : Im st 0 y := (im0 y).mpr (List.mem_range.mp hy)
      by_cases q : st.getD y 0 = x <;> simp [this, q]
end
end
section
section
variable {n : Nat} {Γ : Cx} {loc loc' loc1 loc2 : Loc} {led led' led1 led2 : Led}
theorem Ev.dropAll {e : Expr} {v : V} (h : Ev Γ loc led e v loc1 led1) : Ev Γ loc led e v loc1 [] := Ev.dropL led1 (by rw [List.append_nil]; exact h)
end
noncomputable def rowAt (rows : List Str) (x : Nat) : Str := rows.getD x ""
noncomputable def nextOf (st : List Nat) (rows : List Str) (s : Str) : Str := rowAt rows (st.getD (rows.idxOf s) 0)
theorem rowAt_get {rows : List Str} {x : Nat} (h : x < rows.length) : rowAt rows x = rows[x] := by unfold rowAt; rw [List.getD_eq_getElem?_getD, List.getElem?_eq_getElem h]; rfl
theorem rowAt_str {rows : List Str} {x : Nat} (h : x < rows.length) : (rows.map PyData.str)[((x : Nat) : Int).toNat]? = some (.str (rowAt rows x)) := by
  rw [Int.toNat_natCast, List.getElem?_map, List.getElem?_eq_getElem h, rowAt_get h]; rfl
theorem named {st : List Nat} {rows : List Str} (h : Steps st) (hl : rows.length = 8) (hn : rows.Nodup) : Named st (rowAt rows) (nextOf st rows) := by
  have inj : ∀ x y, x < 8 → y < 8 → rowAt rows x = rowAt rows y → x = y := fun x y hx hy e => by
    rw [rowAt_get (by lia), rowAt_get (by lia)] at e
    exact nodup_idx hn (x := rows[y]) (by rw [List.getElem?_eq_getElem (show x < rows.length by lia), e]) (List.getElem?_eq_getElem (by lia))
  refine ⟨h, inj, fun x hx => ?_⟩
  have hm : rowAt rows x ∈ rows := by rw [rowAt_get (by lia)]; exact List.getElem_mem _
  have hi : rows.idxOf (rowAt rows x) = x := by
    have hlt := List.idxOf_lt_length_of_mem hm
    refine inj _ _ (by lia) hx ?_
    rw [rowAt_get hlt]; exact List.getElem_idxOf hlt
  unfold nextOf
  rw [hi]
theorem fc_it {st : List Nat} {R : Nat → Str} {next : Str → Str} (N : Named st R next) {b : Nat} (hb : b < 8) : ∀ j, fcPath next (R b) j = R (it st j b)
  | 0 => rfl
  | j + 1 => by
    show next (fcPath next (R b) j) = R (st.getD (it st j b) 0)
    rw [fc_it N hb j, N.nx _ (N.h.it hb j)]
noncomputable def rows0 (R : Nat → Str) (b : Nat) : List Str := (List.range 8).map fun p => R ((b + p) % 8)
theorem len8 {R : Nat → Str} {l : List Str} (hn : l.Nodup) (hi : ∀ x y, x < 8 → y < 8 → R x = R y → x = y) (h : ∀ s ∈ l, ∃ x, x < 8 ∧ R x = s) : l.length ≤ 8 := by
  have p : l.Perm (((List.range 8).filter fun x => decide (R x ∈ l)).map R) := by
    refine perm_of hn (nodup_map (List.nodup_range.filter _) fun a ha b hb e => hi a b (List.mem_range.mp (List.mem_filter.mp ha).1) (List.mem_range.mp (List.mem_filter.mp hb).1) e) fun s => ?_
    rw [List.mem_map]
    constructor
    · intro hs
      obtain ⟨x, hx, e⟩ := h s hs
      exact ⟨x, List.mem_filter.mpr ⟨List.mem_range.mpr hx, decide_eq_true (by rw [e]; exact hs)⟩, e⟩
    · rintro ⟨x, hx, e⟩
      rw [← e]; exact of_decide_eq_true (List.mem_filter.mp hx).2
  rw [p.length_eq, List.length_map]
  have := List.length_filter_le (fun x => decide (R x ∈ l)) (List.range 8)
  simpa using this
theorem rows0_nodup {R : Nat → Str} {b : Nat} (hi : ∀ x y, x < 8 → y < 8 → R x = R y → x = y) : ∀ k, k ≤ 8 → ((List.range k).map fun p => R ((b + p) % 8)).Nodup := fun k hk =>
  nodup_map List.nodup_range fun x hx y hy e => by
    have hx := List.mem_range.mp hx
    have hy := List.mem_range.mp hy
    have := hi _ _ (Nat.mod_lt _ (by decide)) (Nat.mod_lt _ (by decide)) e
    omega
theorem rows0_mem {R : Nat → Str} {b x : Nat} (hb : b < 8) (hx : x < 8) : R x ∈ rows0 R b := List.mem_map.mpr ⟨(x + 8 - b) % 8, List.mem_range.mpr (Nat.mod_lt _ (by decide)), by congr 1; lia⟩
noncomputable def toldV (rows : List Str) (st : List Nat) (b k p : Nat) : PyData := .tuple [.tuple [.str "nodes are in a cycle", strsD ((ringOf st b k p).map (rowAt rows))], strsD (srt (((List.range 8).filter fun i => !(sqs st 3).contains i).map (rowAt rows)))]
theorem told_op (w : World) (rows : List Str) (st : List Nat) (hst : Steps st) (hl : rows.length = 8) (hn : rows.Nodup) {b k p : Nat} (hb : b < 8) (W : Walk st b k p) :
    OpC w 103 276 [.d (strsD rows), .d (intsD (natI st)), .d (.int b)] [] (fun v d => v = .d (toldV rows st b k p) ∧ d = []) := by
  refine call_defW (n := 102) ["rows", "steps", "begin"] ["sorter", "place", "told", "error", "given", "turn", "group"] (fun w => by exact rfl) (fun w => by kernel_rfl) (binds_pos (by exact bind3 fun _ _ _ _ => BindsTo.of_eq rfl)) rfl (by decide) rfl (fun C L => ⟨by decide, by decide, rfl, rfl⟩) fun C L hw O l => ?_
  subst hw
  have N := named hst hl hn
  have zr : (rows.map PyData.str).length ≤ sizeLine := by rw [List.length_map, hl]; decide
  have zs : ((natI st).map PyData.int).length ≤ sizeLine := by simp only [natI, List.length_map, hst.len]; decide
  generalize hR : rowAt rows = R at *
  generalize hx : nextOf st rows = next at *
  refine ExG.letG O l 3 (EvG.make (n := 101) (C := 239) O (fun x D => [(x, exactO (instObj 239 D)), (D, exactO emptyDict)]) (R := fun x d' => ∃ D N, N ≠ 1 ∧ d' = Srt.led C.w ⟨x, D, N, [], .none, 0, 0⟩) (nmTopologicalSorter O rfl) (kpTopologicalSorter _) Es.nil (k_mk _) (k_in _) (k_if _) (fun x D => (srt_init _ x D).mono (by decide) fun v d ⟨h1, Na, h2, h3⟩ => ⟨h1, D, Na, h2, h3⟩) ini_srt) fun v d h => ?_
  refine aside fun zk => ?_
  obtain ⟨x, d', e1, ⟨D, Na, hNa, e2⟩, e3⟩ := h
  subst e1 e2 e3
  apply zk
  rw [List.append_nil]
  refine ExG.seq (Ex1G.for_ O [] (Ev.callP O (nm_b_range O rfl) keep_type (Es.cons Ev.int Es.nil) (by first | with_reducible exact range1 | exact range1)) (src_range (k := 8) (by decide)).toP (fun k loc led => ∃ is u, rowsOf is = (List.range k).map (fun p => R ((b + p) % 8)) ∧ (∀ i ∈ is, i.np = 0 ∧ i.succ = []) ∧ loc = mk ["rows", "steps", "begin", "sorter", "place", "told", "error", "given", "turn", "group"] [some (.d (strsD rows)), some (.d (intsD (natI st))), some (.d (.int b)), some (.raw (.ref x)), u, none, none, none, none, none] ∧ led = Srt.led C.w ⟨x, D, Na, is, .none, 0, 0⟩) ⟨[], none, rfl, fun i hi => (nomatch hi), rfl, rfl⟩ (fun _ _ _ _ _ h => nomatch h) (fun k y loc led hy hK => ?_) fun loc led hK => ?_)
  · refine aside fun zk => ?_
    obtain ⟨is, u, h1, h2, rfl, rfl⟩ := hK
    obtain ⟨rfl, hk8⟩ := upto_get hy
    apply zk
    refine ⟨_, As.nm O l 4, ?_⟩
    have hidx : ((b : Int) + (k : Int)).fmod 8 = (((b + k) % 8 : Nat) : Int) := by
      have := fmod_nat (b + k) 8
      rw [← this]; congr 1
    have hrow : R ((b + k) % 8) ∉ rowsOf is := by
      rw [h1]
      intro h
      have nd := rows0_nodup (R := R) (b := b) N.inj (k + 1) (by lia)
      rw [List.range_succ, List.map_append, List.nodup_append] at nd
      exact nd.2.2 _ h _ (.head _) rfl
    have lis : is.length = k := by have := congrArg List.length h1; simpa [rowsOf] using this
    refine ExG.seq (Ex1G.expr (EvG.methF0 (R := fun v d => ∃ a l, d = Srt.led C.w ⟨x, D, Na, is ++ [⟨R ((b + k) % 8), a, l, 0, []⟩], .none, 0, 0⟩) O (Ev.nm O l 3) (.head _) (.tail _ (.head _)) (k_m189 _) (k_f189 _) (fun _ _ _ _ _ _ _ _ _ => by kernel_rfl) (kp189 _) (Es.cons (Ev.sub O (Ev.nm O l 0) (Ev.castI hidx (Ev.bin O (Ev.bin O (Ev.nm O l 2) (Ev.nm O l 4) (by first | with_reducible exact add_ii | (with_reducible refine add_ss ?_; first | assumption | decide | lia | (simp; done) | (simp; lia)))) Ev.int (by (with_reducible refine mod_ii ?_; first | assumption | decide | lia | (simp; done) | (simp; lia))))) item_list (get_li (d := .str (R ((b + k) % 8))) (by lia) zr (by rw [← hR]; exact rowAt_str (by lia)))) Es.nil) ((add_new C.w ⟨x, D, Na, is, .none, 0, 0⟩ (R ((b + k) % 8)) hNa (by show is.length < 100; lia) rfl hrow).toW.mono (by decide) fun v d h => h.2)) fun v d h => ?_)
    refine aside fun zk => ?_
    obtain ⟨a, la, rfl⟩ := h
    apply zk
    refine ExG.nil ⟨is ++ [⟨R ((b + k) % 8), a, la, 0, []⟩], _, ?_, fun i hi => ?_, rfl, rfl⟩
    · rw [List.range_succ, List.map_append, ← h1]; unfold rowsOf; rw [List.map_append]; rfl
    · rcases List.mem_append.mp hi with hi | hi
      · exact h2 i hi
      · rw [List.mem_singleton.mp hi]; exact ⟨rfl, rfl⟩
  obtain ⟨is, u, h1, h2, rfl, rfl⟩ := hK
  have h1 : rowsOf is = rows0 R b := by rw [h1]; rfl
  refine ExG.nil ?_
  have hmem : ∀ x, x < 8 → R x ∈ rows0 R b := fun x hx => rows0_mem hb hx
  have hnd : (rows0 R b).Nodup := rows0_nodup N.inj 8 (by decide)
  have A0 : Added st R (rows0 R b) 0 is := by
    refine ⟨h1, fun x hx => ?_, fun i hi => ?_⟩
    · obtain ⟨i, hi, e⟩ := List.mem_map.mp (show R x ∈ rowsOf is by rw [h1]; exact hmem x hx)
      rw [← e, mem_npOf (by rw [h1]; exact hnd) hi, (h2 i hi).1]; rfl
    · have : i.row ∈ rows0 R b := by rw [← h1]; exact List.mem_map_of_mem (f := fun i : Info => i.row) hi
      obtain ⟨q, hq, e⟩ := List.mem_map.mp this
      exact ⟨(b + q) % 8, Nat.mod_lt _ (by decide), e.symm, by rw [(h2 i hi).2]; simp⟩
  refine ExG.seq (Ex1G.for_ O [] (Ev.callP O (nm_b_range O rfl) keep_type (Es.cons Ev.int Es.nil) (by first | with_reducible exact range1 | exact range1)) (src_range (k := 8) (by decide)).toP (fun k loc led => ∃ is u, Added st R (rows0 R b) k is ∧ loc = mk ["rows", "steps", "begin", "sorter", "place", "told", "error", "given", "turn", "group"] [some (.d (strsD rows)), some (.d (intsD (natI st))), some (.d (.int b)), some (.raw (.ref x)), u, none, none, none, none, none] ∧ led = Srt.led C.w ⟨x, D, Na, is, .none, 0, 0⟩) ⟨is, _, A0, rfl, rfl⟩ (fun _ _ _ _ _ h => nomatch h) (fun k y loc led hy hK => ?_) fun loc led hK => ?_)
  · obtain ⟨is, u, A, rfl, rfl⟩ := hK
    obtain ⟨rfl, hk8⟩ := upto_get hy
    refine ⟨_, As.nm O l 4, ?_⟩
    have hsk := hst.get k
    have lis : is.length = 8 := by have := congrArg List.length A.rows; simpa [rowsOf, rows0] using this
    refine ExG.seq (Ex1G.expr (EvG.methF0 (R := fun v d => d = Srt.led C.w ⟨x, D, Na, onRow (onRow is (R (st.getD k 0)) (bump 1)) (R k) (grow (R (st.getD k 0))), .none, 0, 0⟩) O (Ev.nm O l 3) (.head _) (.tail _ (.head _)) (k_m189 _) (k_f189 _) (fun _ _ _ _ _ _ _ _ _ => by kernel_rfl) (kp189 _) (Es.cons (Ev.sub O (Ev.nm O l 0) (Ev.sub O (Ev.nm O l 1) (Ev.nm O l 4) item_list (get_li (d := .int ((st.getD k 0 : Nat) : Int)) (by lia) zs (natI_get (by rw [hst.len]; exact hk8)))) item_list (get_li (d := .str (R (st.getD k 0))) (by lia) zr (by rw [← hR]; exact rowAt_str (by lia)))) (Es.cons (Ev.sub O (Ev.nm O l 0) (Ev.nm O l 4) item_list (get_li (d := .str (R k)) (by lia) zr (by rw [← hR]; exact rowAt_str (by lia)))) Es.nil))
      ((add_edge C.w ⟨x, D, Na, is, .none, 0, 0⟩ (R (st.getD k 0)) (R k) hNa (by show is.length ≤ 100; lia) (fun i hi => by
        obtain ⟨q, _, _, e⟩ := A.succ i hi
        rw [e]; split <;> simp) rfl (by show (rowsOf is).Nodup; rw [A.rows]; exact hnd) (by show _ ∈ rowsOf is; rw [A.rows]; exact hmem _ hsk) (by show _ ∈ rowsOf is; rw [A.rows]; exact hmem _ hk8)).toW.mono (by decide) fun v d h => h.2)) fun v d h => ?_)
    subst h
    exact ExG.nil ⟨_, _, A.step N hmem hk8, rfl, rfl⟩
  obtain ⟨is, u, A, rfl, rfl⟩ := hK
  have A : Added st R (rows0 R b) 8 is := A
  refine ExG.nil ?_
  have K0 := A.kahn N hmem hnd
  have D0 := A.done N
  have lis : is.length = 8 := by have := congrArg List.length A.rows; simpa [rowsOf, rows0] using this
  obtain ⟨i0, is', e0⟩ : ∃ i0 is', is = i0 :: is' := by cases is with
    | nil => simp at lis
    | cons i r => exact ⟨i, r, rfl⟩
  have ei0 : i0.row = R b := by
    have := A.rows
    rw [e0] at this
    have h0 : (rowsOf (i0 :: is'))[0]? = (rows0 R b)[0]? := by rw [this]
    simp [rowsOf, rows0] at h0
    rw [h0, Nat.mod_eq_of_lt hb]
  refine ExG.let_ O l 5 (v := .d (.tuple [.str "no ring", .list []])) (Ev.tup (Es.cons Ev.str (Es.cons (Ev.lst Es.nil (by repeat constructor)) Es.nil)) (by repeat constructor)) ?_
  have P := prepare_op C.w ⟨x, D, Na, is, .none, 0, 0⟩ next (m := k + p + 1) (j := k) hNa rfl e0 (by show is.length ≤ 100; lia) (by show (rowsOf is).Nodup; rw [A.rows]; exact hnd) (fun r hr => by
      have hr : r ∈ rowsOf is := hr
      rw [A.rows] at hr
      obtain ⟨q, _, rfl⟩ := List.mem_map.mp hr
      show next _ ∈ rowsOf is
      rw [A.rows, N.nx _ (Nat.mod_lt _ (by decide))]; exact hmem _ (hst.get _)) D0.succ (by lia) (by have := W.p8; have := W.k8; lia)
    (by rw [ei0, fc_it N hb, fc_it N hb, show k + p + 1 = p + 1 + k from by lia, it_add, W.hp])
    (fun x y hx hy e => by rw [ei0, fc_it N hb, fc_it N hb] at e; exact W.inj x y hx hy (N.inj _ _ (hst.it hb _) (hst.it hb _) e))
  have er : ((List.range (k + p + 1 - k + 1)).map fun t => fcPath next i0.row (k + t)) = (ringOf st b k p).map R := by
    unfold ringOf
    rw [List.map_map, show k + p + 1 - k + 1 = p + 2 from by lia]
    refine List.map_congr_left fun t _ => ?_
    rw [ei0, fc_it N hb, Nat.add_comm k t, it_add]; rfl
  rw [er] at P
  refine ExG.seq (Ex1G.tryTold O (by decide) l 6 5 (prep_body O (Ev.nm O l 3) (.head _) (.tail _ (.head _)) (k_m194 _) (k_f194 _) (fun _ _ _ _ _ _ _ _ _ => by kernel_rfl) (kp194 _) P rfl rfl rfl) rfl rfl rfl rfl rfl (by decide) fun d ds h => ?_)
  obtain ⟨rfl, Rr, rfl⟩ := h
  show ExG _ (mk ["rows", "steps", "begin", "sorter", "place", "told", "error", "given", "turn", "group"] [some (.d (strsD rows)), some (.d (intsD (natI st))), some (.d (.int b)), some (.raw (.ref x)), u, some (.d (.tuple [.str "nodes are in a cycle", strsD ((ringOf st b k p).map R)])), none, none, none, none]) _ _ _
  refine ExG.let_ O l 7 (v := .d (strsD [])) (Ev.lst Es.nil (by repeat constructor)) ?_
  refine ExG.seq (Ex1G.for_ O [] (Ev.callP O (nm_b_range O rfl) keep_type (Es.cons Ev.int Es.nil) (by first | with_reducible exact range1 | exact range1)) (src_range (k := 9) (by decide)).toP (fun t loc led => ∃ is rdy given pq u8 u9, Kahn st R t is rdy given ∧ DoneOk next (rows0 R b) is ∧ loc = mk ["rows", "steps", "begin", "sorter", "place", "told", "error", "given", "turn", "group"] [some (.d (strsD rows)), some (.d (intsD (natI st))), some (.d (.int b)), some (.raw (.ref x)), u, some (.d (.tuple [.str "nodes are in a cycle", strsD ((ringOf st b k p).map R)])), none, some (.d (strsD given)), u8, u9] ∧ led = Srt.ledR C.w ⟨x, D, Na, is, .ref Rr, pq, pq⟩ Rr rdy) ⟨is, rdyOf is, [], 0, none, none, K0, D0, rfl, rfl⟩ (fun _ _ _ _ _ h => nomatch h) (fun t y loc led hy hK => ?_) fun loc led hK => ?_)
  · obtain ⟨is, rdy, given, pq, u8, u9, K, Dk, rfl, rfl⟩ := hK
    obtain ⟨rfl, ht9⟩ := upto_get hy
    refine ⟨_, As.nm O l 8, ?_⟩
    obtain ⟨g1, g2, g3⟩ := K.group N
    have l1 : rdy.length ≤ 8 := len8 (R := R) K.rdyN N.inj fun s hs => by obtain ⟨x, a, _, e⟩ := (K.rdyM s).mp hs; exact ⟨x, a.lt hst, e⟩
    have l2 : given.length ≤ 8 := len8 (R := R) K.givN N.inj fun s hs => by obtain ⟨x, a, _, e⟩ := (K.givM s).mp hs; exact ⟨x, a, e⟩
    have hnr : (rowsOf is).Nodup := by rw [Dk.rows]; exact hnd
    have hact : ∀ loc, loc = mk ["rows", "steps", "begin", "sorter", "place", "told", "error", "given", "turn", "group"] [some (.d (strsD rows)), some (.d (intsD (natI st))), some (.d (.int b)), some (.raw (.ref x)), u, some (.d (.tuple [.str "nodes are in a cycle", strsD ((ringOf st b k p).map R)])), none, some (.d (strsD given)), some (.d (.int (t : Int))), u9] → True := fun _ _ => trivial
    have act := (is_active_op C.w ⟨x, D, Na, is, .ref Rr, pq, pq⟩ Rr rdy rfl rfl (by lia)).toW.mono (b := 102) (by decide) fun _ _ h => h
    cases rdy with
    | nil =>
      refine ExG.seq (Ex1G.ifF (Bt.of O (EvG.toEv (EvG.methF0 O (Ev.nm O l 3) (.tail _ (.head _)) (.tail _ (.tail _ (.head _))) (k_m208 _) (k_f208 _) (fun _ _ _ _ _ _ _ _ _ => by kernel_rfl) (kp208 _) Es.nil act)) tru_bool) ?_)
      have := K.step N
      rw [List.append_nil] at this
      exact ExG.nil (ExG.nil ⟨is, [], given, pq, _, _, this, Dk, rfl, rfl⟩)
    | cons r0 rr =>
      generalize hrdy : r0 :: rr = rdy at *
      have hne : (!rdy.isEmpty) = true := by rw [← hrdy]; rfl
      refine ExG.seq (Ex1G.ifT (Bt.of O (Ev.castB hne (EvG.toEv (EvG.methF0 O (Ev.nm O l 3) (.tail _ (.head _)) (.tail _ (.tail _ (.head _))) (k_m208 _) (k_f208 _) (fun _ _ _ _ _ _ _ _ _ => by kernel_rfl) (kp208 _) Es.nil act))) tru_bool) ?_)
      refine ExG.letG O l 9 (EvG.methF0 O (Ev.nm O l 3) (.tail _ (.head _)) (.tail _ (.tail _ (.head _))) (k_m201 _) (k_f201 _) (fun _ _ _ _ _ _ _ _ _ => by kernel_rfl) (kp201 _) Es.nil ((get_ready_op C.w ⟨x, D, Na, is, .ref Rr, pq, pq⟩ Rr rdy hNa rfl (by lia) hnr g2).toW.mono (by decide) fun _ _ h => h)) fun v d h => ?_
      obtain ⟨rfl, rfl⟩ := h
      have zg : (rdy.map PyData.str).length ≤ sizeLine := by rw [List.length_map, big]; lia
      refine ExG.let_ O l 7 (v := .d (strsD (given ++ rdy))) (Ev.castV (by unfold strsD; rw [List.map_append]) (Ev.bin O (Ev.nm O l 7) (Ev.callP O (nm_b_list O rfl) keep_type (Es.cons (Ev.nm O l 9) Es.nil) (listD_op (.inr rfl) zg)) (add_ll (by rw [List.length_map, List.length_map, big]; lia)))) ?_
      refine ExG.cons (Ex1.ifF (Bt.notT (Bt.of O (Ev.callP O (nm_b_isinstance O rfl) keep_blt (Es.cons (Ev.nm O l 9) (Es.cons (nm_b_tuple O rfl) Es.nil)) isinst_tup) tru_bool)) Ex.nil) ?_
      have Dm : DoneOk next (rows0 R b) (markAll (-1) rdy is) := by
        have : ∀ (g : List Str) (is : List Info), DoneOk next (rows0 R b) is → DoneOk next (rows0 R b) (markAll (-1) g is) := by
          intro g
          induction g with
          | nil => intro is h; exact h
          | cons r g ih => intro is h; exact ih _ (h.on r (setNp (-1)) fun _ => ⟨rfl, rfl⟩)
        exact this rdy is Dk
      refine ExG.seq (Ex1G.expr (EvG.methStar (ds := rdy.map .str) O (Ev.nm O l 3) (.tail _ (.head _)) (.tail _ (.tail _ (.head _))) (fun _ _ _ _ _ _ _ _ _ => by kernel_rfl) (k_f222 _) (by kernel_rfl) (Ev.nm O l 9) (.inr rfl) zg ((done_op C.w ⟨x, D, Na, markAll (-1) rdy is, .ref Rr, pq + rdy.length, pq⟩ Rr [] rdy next hNa rfl (by simp; lia) (by show (rowsOf (markAll (-1) rdy is)).Nodup; rw [markAll_rows]; exact hnr) (fun r hr => by show r ∈ rowsOf (markAll (-1) rdy is); rw [markAll_rows]; exact g2 r hr)
        (fun r hr => by
          have hr : r ∈ rowsOf (markAll (-1) rdy is) := hr
          show next r ∈ rowsOf (markAll (-1) rdy is)
          rw [markAll_rows, Dk.rows] at hr ⊢
          obtain ⟨q, _, rfl⟩ := List.mem_map.mp hr
          rw [N.nx _ (Nat.mod_lt _ (by decide))]; exact hmem _ (hst.get _)) Dm.succ K.rdyN g1 (fun r hr => by show npOf (markAll (-1) rdy is) r = -1; rw [npOf_mark rdy is g2, if_pos hr])).mono (by decide) fun _ _ h => h)) fun v d h => ?_)
      obtain ⟨_, rfl⟩ := h
      exact ExG.nil (ExG.nil ⟨_, _, _, _, _, _, K.step N, Dm.all (st := (markAll (-1) rdy is, [])) rdy, rfl, rfl⟩)
  refine aside fun zk => ?_
  obtain ⟨is, rdy, given, pq, u8, u9, K, Dk, rfl, rfl⟩ := hK
  apply zk
  have K : Kahn st R 9 is rdy given := K
  refine ExG.nil ?_
  have l2 : given.length ≤ 8 := len8 (R := R) K.givN N.inj fun s hs => by obtain ⟨x, a, _, e⟩ := (K.givM s).mp hs; exact ⟨x, a, e⟩
  have es : srt given = srt (((List.range 8).filter fun i => !(sqs st 3).contains i).map R) := srt_congr (K.last N)
  refine ExG.last (Ex1G.ret (R := fun v d => v = .d (toldV rows st b k p) ∧ d = []) (Ev.toG (v := .d (toldV rows st b k p)) (Ev.dropAll (loc1 := mk ["rows", "steps", "begin", "sorter", "place", "told", "error", "given", "turn", "group"] [some (.d (strsD rows)), some (.d (intsD (natI st))), some (.d (.int b)), some (.raw (.ref x)), u, some (.d (.tuple [.str "nodes are in a cycle", strsD ((ringOf st b k p).map R)])), none, some (.d (strsD given)), u8, u9]) (led1 := Srt.ledR C.w ⟨x, D, Na, is, .ref Rr, pq, pq⟩ Rr rdy) ?_) ⟨rfl, rfl⟩) fun v d h => h)
  unfold toldV
  rw [hR, ← es]
  exact Ev.tup (Es.cons (Ev.nm O l 5) (Es.cons (Ev.callP O (nm_b_sorted O rfl) keep_blt (Es.cons (Ev.nm O l 7) Es.nil) (sorted_op (ss := given) (ts := srt given) (by lia) fun ss' p h => srt_uniq p h)) Es.nil)) (by repeat constructor)
end
section
section
variable {n : Nat} {Γ : Cx} {loc loc' loc1 loc2 : Loc} {led led' led1 led2 : Led}
theorem Ex1.assignT {elts : List Expr} {k : Nat} {tpos pos : Pos} {value : Expr} {v : V} (h1 : Ev Γ loc led value v loc1 led1) (h2 : As Γ loc1 led1 (.Tuple elts k tpos) v loc2) (hs : autoParam (swapsWithSole [.Tuple elts k tpos] value pos.line Γ.env = pure false) aR)
    (hw : autoParam (swappedStores [.Tuple elts k tpos] value Γ.env = pure none) aR) : Ex1 Γ loc led (.Assign [.Tuple elts k tpos] value pos) (.next loc2 led1) := fun s Q E S h =>
  Assign_Tuple (h1 s _ E S fun v' s1 S1 le1 r => h2 s1 v' _ E S1 r fun s2 S2 le2 => h _ s2 ⟨rfl, S2, le1.trans le2⟩) hs hw
end
theorem strs_map {α : Type} (l : List α) (f : α → Str) : PyData.list (l.map fun x => .str (f x)) = strsD (l.map f) := by unfold strsD; rw [List.map_map]; rfl
theorem shp_told {l : List Str} (h : ∀ x ∈ l, okS x) : SeqAt.shaped (.tuple [.str "nodes are in a cycle", strsD l]) = true := by
  refine shp_of ?_ ?_
  · show (PyData.canLay0 (.str "nodes are in a cycle") && PyData.canLayAll0 [strsD l]) = true
    have h1 : PyData.canLayAll0 [strsD l] = true := lay_lists (l := [l]) fun r hr => by rw [List.mem_singleton.mp hr]; exact h
    rw [h1, show PyData.canLay0 (.str "nodes are in a cycle") = true from okS_of _]; rfl
  · have h1 : PyData.depthAll [strsD l] ≤ 1 := dep_lists [l]
    show max 0 (PyData.depthAll [strsD l]) + 1 ≤ 64
    lia
theorem is_told_fs (rows : List Str) (st : List Nat) (hst : Steps st) (hl : rows.length = 8) (hok : ∀ r ∈ rows, okS r) {b k p : Nat} (hb : b < 8) (W : Walk st b k p) :
    FS 2 281 [.d (toldV rows st b k p), .d (strsD rows), .d (intsD (natI st)), .d (.int b)] (.d (.bool true)) := by
  refine call_def1 (n := 1) ["told", "rows", "steps", "begin"] ["ring", "off"] (fun w => by exact rfl) (fun w => by kernel_rfl) (bind4 fun _ _ _ _ _ => BindsTo.of_eq rfl) rfl (by decide) rfl (fun C L => ⟨by decide, by decide, rfl, rfl⟩) fun C L O l => ?_
  have zr : (rows.map PyData.str).length ≤ sizeLine := by rw [List.length_map, hl]; decide
  have rmem : ∀ x, x < 8 → okS (rowAt rows x) := fun x hx => by rw [rowAt_get (by lia)]; exact hok _ (List.getElem_mem _)
  generalize hring : ringOf st b k p = ring
  generalize hoff : ((List.range 8).filter fun i => !(sqs st 3).contains i) = off
  have r8 : ∀ x ∈ ring, x < 8 := fun x hx => by rw [← hring] at hx; exact ring_lt hst hb x hx
  have o8 : ∀ x ∈ off, x < 8 := fun x hx => by rw [← hoff] at hx; exact List.mem_range.mp (List.mem_filter.mp hx).1
  have rl : ring.length ≤ 9 := by rw [← hring, ring_len]; have := W.p8; lia
  have ol : off.length ≤ 8 := by rw [← hoff]; have := List.length_filter_le (fun i => !(sqs st 3).contains i) (List.range 8); simpa using this
  have eT : toldV rows st b k p = .tuple [.tuple [.str "nodes are in a cycle", strsD (ring.map (rowAt rows))], strsD (srt (off.map (rowAt rows)))] := by unfold toldV; rw [hring, hoff]
  rw [eT]
  have wk := law_walked hst hb W.hk W.hk' W.hp W.hp' W.p8
  have e1 : ((List.range (p + 2)).map fun j => it st j (it st k b)) = ring := hring
  rw [e1, hoff] at wk
  refine Ex.cons (Ex1.assignT (Ev.callP O (nm_law_walked O rfl) (kp_law_walked _) (Es.cons (Ev.nm O l 2) (Es.cons (Ev.nm O l 3) Es.nil)) wk) (As.tupI O l 4 5)) ?_
  have s1 : SeqAt.shaped (.tuple [.str "nodes are in a cycle", strsD (ring.map (rowAt rows))]) = true := shp_told fun x hx => by
    obtain ⟨y, hy, rfl⟩ := List.mem_map.mp hx; exact rmem y (r8 y hy)
  have s2 : SeqAt.shaped (strsD (srt (off.map (rowAt rows)))) = true := shp_strs fun x hx => by
    obtain ⟨y, hy, rfl⟩ := List.mem_map.mp ((srt_perm _).mem_iff.mp hx); exact rmem y (o8 y hy)
  refine Ex.cons (Ex1.ifF (Bt.cast (b := !PyData.eqv (.tuple [.str "nodes are in a cycle", strsD (ring.map (rowAt rows))]) (.tuple [.str "nodes are in a cycle", strsD (ring.map (rowAt rows))])) (by rw [eqv_self s1]; rfl) (Bt.cmp O (Ev.sub O (Ev.nm O l 0) Ev.int item_tuple (get_ti (by decide) (by show 2 ≤ sizeLine; decide) (d := .tuple [.str "nodes are in a cycle", strsD (ring.map (rowAt rows))]) rfl)) (Ev.tup (Es.cons Ev.str (Es.cons (Ev.castV (congrArg V.d (strs_map ring (rowAt rows))) (Ev.compM O ring (fun p : Nat => V.d (.int (p : Int))) (fun p => .str (rowAt rows p)) (Ev.nm O l 4) src_nats (compOk ["rows"] [some (.d (strsD rows))] rfl rfl rfl rfl rfl (of_decide_eq_true rfl) rfl rfl rfl rfl) (by rw [big]; lia) ?_)) Es.nil)) (by repeat constructor)) (ne_dd s1 s1))) Ex.nil) ?_
  · intro C' D fz O' q hq
    have l' : LayR ["place", "rows"] := ⟨by decide, by decide⟩
    have := r8 q hq
    exact cstep O' l' rfl (Ev.sub O' (Ev.nmR O' l' 1) (Ev.nmR O' l' 0) item_list (get_li (by lia) zr (rowAt_str (by lia))))
  refine Ex.retD (Ev.castB (a := PyData.eqv (strsD (srt (off.map (rowAt rows)))) (strsD (srt (off.map (rowAt rows))))) (eqv_self s2) (Ev.cmp O (Ev.sub O (Ev.nm O l 0) Ev.int item_tuple (get_ti (by decide) (by show 2 ≤ sizeLine; decide) (d := strsD (srt (off.map (rowAt rows)))) rfl)) (Ev.callP O (nm_b_sorted O rfl) keep_blt (Es.cons (Ev.castV (congrArg V.d (strs_map off (rowAt rows))) (Ev.compM O off (fun p : Nat => V.d (.int (p : Int))) (fun p => .str (rowAt rows p)) (Ev.nm O l 5) src_nats (compOk ["rows"] [some (.d (strsD rows))] rfl rfl rfl rfl rfl (of_decide_eq_true rfl) rfl rfl rfl rfl) (by rw [big]; lia) ?_)) Es.nil) (sorted_op (ss := off.map (rowAt rows)) (ts := srt (off.map (rowAt rows))) (by rw [List.length_map]; lia) fun ss' p h => srt_uniq p h)) (eq_dd s2 s2)))
  · intro C' D fz O' q hq
    have l' : LayR ["place", "rows"] := ⟨by decide, by decide⟩
    have := o8 q hq
    exact cstep O' l' rfl (Ev.sub O' (Ev.nmR O' l' 1) (Ev.nmR O' l' 0) item_list (get_li (by lia) zr (rowAt_str (by lia))))
end
section
theorem OpC.toN {n : Nat} {f : Addr} {args : List V} {fp fp' : Led} {v : V} (h : ∀ w, OpC w n f args fp (fun v' d => v' = v ∧ d = fp')) : OpN n (fun vals => call (.ref f) vals) args fp v fp' := fun Γ loc led s vals Q E O S rs k =>
  (h Γ.w).toW Γ loc led s vals Q E rfl O S rs fun v1 d v' s' p S' le r => by obtain ⟨rfl, rfl⟩ := p; exact k v' s' S' le r
theorem pow_ii {a n : Int} (h0 : 0 ≤ n) (hz : (Builtin.Int.intBits a : Int) * n ≤ 2 ^ 27) : Op2 (binaryOp .Pow) (.d (.int a)) (.d (.int n)) (.d (.int (a ^ n.toNat))) := fun m Γ loc led s u v Q E O S ra rb h => by
  obtain ⟨t, rfl⟩ := rep_int ra; obtain ⟨t', rfl⟩ := rep_int rb
  exact pow_int h0 hz (h _ _ (S.toks _) Le.rfl of_int)
theorem mul_si {x : Str} {n : Int} (hok : MulOk x n) : Op2 (binaryOp .Mult) (.d (.str x)) (.d (.int n)) (.d (.str (Txt.mul x n))) := fun m Γ loc led s u v Q E O S ra rb h => by
  obtain ⟨t, rfl⟩ := rep_str ra; obtain ⟨t', rfl⟩ := rep_int rb
  exact SB.mul hok fun t' k => h _ _ (S.toks _) Le.rfl of_str
section
variable {n : Nat} {Γ : Cx} {xs : List Str} {vs : List (Option V)} {led : Led} {o : Out}
theorem Ex.freezeWI (l : Lay Γ xs) (i : Nat) {x : Str} {a : Addr} {ds : List PyData} {b : List Stmt} (h1 : Ex Γ (mk xs (vs.set i (some (.d (.list ds))))) led b o) (hi : autoParam (xs[i]? = some x) aR) (hv : autoParam (vs[i]? = some (some (.raw (.ref a)))) aR) : Ex Γ (mk xs vs) ((a, lstW ds) :: led) b o :=
  Ex.freezeW (mk_lookup l.nd hi hv) (h1.weak (put_mk l.nd hi))
end
theorem mulOk3 {n : Int} (h : 0 ≤ n ∧ n < 4) : MulOk (Str.ofString "*") n := by
  have : n = 0 ∨ n = 1 ∨ n = 2 ∨ n = 3 := by lia
  have l1 : (Str.ofString "*").length = 1 := by decide
  unfold MulOk
  rw [l1]
  rcases this with rfl | rfl | rfl | rfl <;> decide
noncomputable def stepsOf (cs : List Int) : List Nat := (List.range 8).map fun p : Nat => (((p : Int) + 1 + cs.getD p 0).fmod 8).toNat
theorem stepsOf_ok (cs : List Int) : Steps (stepsOf cs) := ⟨by unfold stepsOf; simp, fun x hx => by
  obtain ⟨p, _, rfl⟩ := List.mem_map.mp hx
  have := fmod_lt (a := (p : Int) + 1 + cs.getD p 0) (k := 8) (by decide)
  omega⟩
theorem set_ok {st : List Nat} (h : Steps st) {i v : Nat} (hv : v < 8) : Steps (st.set i v) := ⟨by rw [List.length_set]; exact h.len, fun x hx => by
  rcases List.mem_or_eq_of_mem_set hx with h' | rfl
  · exact h.lt x h'
  · exact hv⟩
end
section
theorem nat_row {rows : List Str} {ring : List Nat} (hr : (ring.drop 1).Nodup) (h8 : ∀ x ∈ ring, x < 8) (inj : ∀ x y, x < 8 → y < 8 → rowAt rows x = rowAt rows y → x = y) : ((ring.map (rowAt rows)).drop 1).Nodup := by
  rw [← List.map_drop]
  exact nodup_map hr fun a ha b hb e => inj a b (h8 a (List.mem_of_mem_drop ha)) (h8 b (List.mem_of_mem_drop hb)) e
theorem files_eq (rights look : Int) : (upto 8).map (fileAt rights look) = (List.range 8).map fun i : Nat => PyData.tuple [.int (kindAt look i), .int (rightsAt rights look i)] := by unfold upto; rw [List.map_map]; rfl
theorem mode_base (rights look : Int) (i : Nat) : modeRow (kinds (kindAt look i) * 4096 + rightsAt rights look i) = baseRow rights look i :=
  mode_row _ _ (kindAt_lt look i).1 (kindAt_lt look i).2 (rightsAt_lt rights look i).1 (rightsAt_lt rights look i).2
theorem kind_get {k : Int} (h : 0 ≤ k ∧ k < 7) : ([.int 1, .int 2, .int 4, .int 6, .int 8, .int 10, .int 12] : List PyData)[k.toNat]? = some (.int (kinds k)) := by
  have : k = 0 ∨ k = 1 ∨ k = 2 ∨ k = 3 ∨ k = 4 ∨ k = 5 ∨ k = 6 := by lia
  rcases this with rfl | rfl | rfl | rfl | rfl | rfl | rfl <;> rfl
theorem four_pow {i : Nat} (h : i < 8) : (4 : Int) ^ i ≠ 0 ∧ ((4 : Int) ^ i).natAbs < 1073741824 := by
  have : i = 0 ∨ i = 1 ∨ i = 2 ∨ i = 3 ∨ i = 4 ∨ i = 5 ∨ i = 6 ∨ i = 7 := by lia
  rcases this with rfl | rfl | rfl | rfl | rfl | rfl | rfl | rfl <;> decide
theorem steps_ints (cs : List Int) : PyData.list ((List.range 8).map fun p : Nat => .int (((p : Int) + 1 + cs.getD p 0).fmod 8)) = intsD (natI (stepsOf cs)) := by
  unfold intsD natI stepsOf
  rw [List.map_map, List.map_map]
  congr 1
  refine List.map_congr_left fun p _ => ?_
  have := fmod_lt (a := (p : Int) + 1 + cs.getD p 0) (k := 8) (by decide)
  show PyData.int _ = PyData.int (((((p : Int) + 1 + cs.getD p 0).fmod 8).toNat : Nat) : Int)
  congr 1
  omega
theorem base_row (rights look c : Int) {i : Nat} (hi : i < 8) : (((List.range 8).map (baseRow rights look)).map PyData.str)[((i : Nat) : Int).toNat]? = some (.str (baseRow rights look i)) := by
  rw [Int.toNat_natCast, List.getElem?_map, List.getElem?_map, List.getElem?_range hi]; rfl
theorem law_holds_fs (cs : List Int) (hl : cs.length = 13) : OpN 105 (fun vals => call (.ref 313) vals) [.d (intsD cs)] [(56, tabO)] (.d (.bool true)) [(56, tabO)] := by
  refine call_def1 (n := 104) ["cells"] ["files", "modes", "rows", "steps", "changed", "first", "second", "one", "two", "three", "rings"] (fun w => by exact rfl) (fun w => by kernel_rfl) (by exact bind1 fun _ _ => BindsTo.of_eq rfl) rfl (by decide) rfl (fun C L => ⟨by decide, by decide, rfl, rfl⟩) fun C L O l => ?_
  have zc : (cs.map PyData.int).length ≤ sizeLine := by rw [List.length_map, hl]; decide
  have cg : ∀ i : Nat, i < 13 → (cs.map PyData.int)[i]? = some (.int (cs.getD i 0)) := fun i hi => by
    rw [List.getElem?_map, List.getD_eq_getElem?_getD, List.getElem?_eq_getElem (by lia)]; rfl
  generalize hrights : cs.getD 10 0 = rights
  generalize hlook : cs.getD 11 0 = look
  generalize hc12 : cs.getD 12 0 = c12
  have g10 := cg 10 (by decide)
  have g11 := cg 11 (by decide)
  have g12 := cg 12 (by decide)
  have g8 := cg 8 (by decide)
  have g9 := cg 9 (by decide)
  rw [hrights] at g10
  rw [hlook] at g11
  rw [hc12] at g12
  generalize cs.getD 8 0 = c8 at g8
  generalize cs.getD 9 0 = c9 at g9
  refine Ex.let_ O l 1 (v := .d (.list ((List.range 8).map fun i : Nat => PyData.tuple [.int (kindAt look i), .int (rightsAt rights look i)]))) (files_eq rights look ▸ Ev.callP O (nm_law_files O rfl) (kp_law_files _) (Es.cons (Ev.sub O (Ev.nm O l 0) Ev.int item_list (get_li (by decide) zc g10)) (Es.cons (Ev.sub O (Ev.nm O l 0) Ev.int item_list (get_li (by decide) zc g11)) Es.nil)) ((law_files rights look).mono (by decide))) ?_
  have sf : Src (.d (.list ((List.range 8).map fun i : Nat => PyData.tuple [.int (kindAt look i), .int (rightsAt rights look i)]))) ((List.range 8).map fun i : Nat => V.d (.tuple [.int (kindAt look i), .int (rightsAt rights look i)])) := by
    have := src_list (xs := (List.range 8).map fun i : Nat => PyData.tuple [.int (kindAt look i), .int (rightsAt rights look i)])
    rw [List.map_map] at this; exact this
  have z8 : (List.range 8).length ≤ sizeLine := by decide
  refine Ex.letComp O l 2 (List.range 8) (fun i : Nat => V.d (.tuple [.int (kindAt look i), .int (rightsAt rights look i)])) (fun i => .int (kinds (kindAt look i) * 4096 + rightsAt rights look i)) (Ev.nm O l 1) sf (compOk [] [] rfl rfl rfl rfl rfl (of_decide_eq_true rfl) rfl rfl rfl rfl) z8 ?_ ?_
  · intro C' D fz O' i hi
    have l' : LayR ["kind", "rights"] := ⟨by decide, by decide⟩
    have hk := kindAt_lt look i
    exact cstep2 O' l' rfl rfl (Ev.bin O' (Ev.bin O' (Ev.sub O' (Ev.tup (Es.cons Ev.int (Es.cons Ev.int (Es.cons Ev.int (Es.cons Ev.int (Es.cons Ev.int (Es.cons Ev.int (Es.cons Ev.int Es.nil))))))) (by repeat constructor)) (Ev.nmR O' l' 0) item_tuple (get_ti hk.1 (by decide) (kind_get hk))) Ev.int (mul_ii (mulOk_small (by decide)))) (Ev.nmR O' l' 1) add_ii)
  have sm : Src (.d (.list ((List.range 8).map fun i : Nat => PyData.int (kinds (kindAt look i) * 4096 + rightsAt rights look i)))) ((List.range 8).map fun i : Nat => V.d (.int (kinds (kindAt look i) * 4096 + rightsAt rights look i))) := by
    have := src_list (xs := (List.range 8).map fun i : Nat => PyData.int (kinds (kindAt look i) * 4096 + rightsAt rights look i))
    rw [List.map_map] at this; exact this
  refine Ex.let_ O l 3 (v := .d (strsD ((List.range 8).map (baseRow rights look)))) (Ev.castV (congrArg V.d (strs_map (List.range 8) (baseRow rights look))) (Ev.compM O (List.range 8) (fun i : Nat => V.d (.int (kinds (kindAt look i) * 4096 + rightsAt rights look i))) (fun i => .str (baseRow rights look i)) (Ev.nm O l 2) sm (compOk [] [] rfl rfl rfl rfl rfl (of_decide_eq_true rfl) rfl rfl rfl rfl) z8 ?_)) ?_
  · intro C' D fz O' i hi
    have l' : LayR ["mode"] := ⟨by decide, by decide⟩
    exact cstep O' l' rfl (Ev.castV (by rw [mode_base]) (Ev.callP O' (nmfilemode O' rfl) (kpfilemode _) (Es.cons (Ev.nmR O' l' 0) Es.nil) ((filemode_fs _).mono (by decide))))
  have shb : SeqAt.shaped (strsD ((List.range 8).map (baseRow rights look))) = true := shp_strs fun x hx => by
    obtain ⟨i, _, rfl⟩ := List.mem_map.mp hx
    exact okS_plain (rowTo_plain (kindAt_lt look i) 3 (by decide))
  refine Ex.cons (Ex1.ifF (Bt.cast (b := !PyData.eqv (strsD ((List.range 8).map (baseRow rights look))) (strsD ((List.range 8).map (baseRow rights look)))) (by rw [eqv_self shb]; rfl) (Bt.cmp O (Ev.nm O l 3) (Ev.castV (congrArg V.d (strs_map (List.range 8) (baseRow rights look))) (Ev.compM O (List.range 8) (fun i : Nat => V.d (.tuple [.int (kindAt look i), .int (rightsAt rights look i)])) (fun i => .str (baseRow rights look i)) (Ev.nm O l 1) sf (compOk [] [] rfl rfl rfl rfl rfl (of_decide_eq_true rfl) rfl rfl rfl rfl) z8 ?_)) (ne_dd shb shb))) Ex.nil) ?_
  · intro C' D fz O' i hi
    have l' : LayR ["kind", "rights"] := ⟨by decide, by decide⟩
    have hk := kindAt_lt look i
    exact cstep2 O' l' rfl rfl (Ev.callP O' (nm_law_row O' rfl) (kp_law_row _) (Es.cons (Ev.nmR O' l' 0) (Es.cons (Ev.nmR O' l' 1) Es.nil)) ((law_row _ _ hk.1 hk.2).mono (by decide)))
  generalize hrows : fullRows rights look c12 = rows
  have rlen : rows.length = 8 := by rw [← hrows]; exact fullRows_len _ _ _
  have rnd : rows.Nodup := by rw [← hrows]; exact fullRows_nodup _ _ _
  have rpl : ∀ x ∈ rows, plain x := by rw [← hrows]; exact fullRows_plain _ _ _
  have rsh : ∀ x ∈ rows, x.length ≤ 13 := by rw [← hrows]; exact fullRows_short _ _ _
  have zb : (((List.range 8).map (baseRow rights look)).map PyData.str).length ≤ sizeLine := by simp [big]
  refine Ex.let_ O l 3 (v := .d (strsD rows)) (Ev.castV (by rw [← hrows]; exact congrArg V.d (strs_map (List.range 8) (fullRow rights look c12))) (Ev.compM O (List.range 8) (fun i : Nat => V.d (.int (i : Int))) (fun i => .str (fullRow rights look c12 i)) (Ev.callP O (nm_b_range O rfl) keep_type (Es.cons Ev.int Es.nil) (by first | with_reducible exact range1 | exact range1)) (src_rangeN (k := 8) (by decide)) (compOk ["rows", "cells"] [some (.d (strsD ((List.range 8).map (baseRow rights look)))), some (.d (intsD cs))] rfl rfl rfl rfl rfl (of_decide_eq_true rfl) rfl rfl rfl rfl) z8 ?_)) ?_
  · intro C' D fz O' i hi
    have l' : LayR ["place", "rows", "cells"] := ⟨by decide, by decide⟩
    have hi := List.mem_range.mp hi
    have fp := four_pow hi
    have hpw : (4 : Int) ^ ((i : Int)).toNat = 4 ^ i := by rw [Int.toNat_natCast]
    have sl := starsN_lt c12 i
    have b10 : (baseRow rights look i).length = 10 := rowTo_len _ _ 3
    have fl := full_len rights look c12 i
    refine cstep O' l' rfl (Ev.bin O' (Ev.sub O' (Ev.nmR O' l' 1) (Ev.nmR O' l' 0) item_list (get_li (by lia) zb (base_row rights look c12 hi))) (Ev.bin O' Ev.str (Ev.bin O' (Ev.bin O' (Ev.sub O' (Ev.nmR O' l' 2) Ev.int item_list (get_li (by decide) zc g12)) (Ev.castI hpw (Ev.bin O' Ev.int (Ev.nmR O' l' 0) (pow_ii (by lia) ?_))) (div_ii fp.1 fp.2)) Ev.int (mod_ii (by decide))) (mul_si (mulOk3 sl))) (add_ss ?_))
    · have : Builtin.Int.intBits 4 = 3 := by decide
      rw [this]; lia
    · have e : (baseRow rights look i ++ Txt.mul (Str.ofString "*") (Int.fmod (Int.fdiv c12 (4 ^ i)) 4)).length = (fullRow rights look c12 i).length := rfl
      rw [e, big]; lia
  have S := stepsOf_ok cs
  refine Ex.letComp O l 4 (List.range 8) (fun i : Nat => V.d (.int (i : Int))) (fun p => .int (((p : Int) + 1 + cs.getD p 0).fmod 8)) (Ev.callP O (nm_b_range O rfl) keep_type (Es.cons Ev.int Es.nil) (by first | with_reducible exact range1 | exact range1)) (src_rangeN (k := 8) (by decide)) (compOk ["cells"] [some (.d (intsD cs))] rfl rfl rfl rfl rfl (of_decide_eq_true rfl) rfl rfl rfl rfl) z8 ?_ ?_
  · intro C' D fz O' i hi
    have l' : LayR ["place", "cells"] := ⟨by decide, by decide⟩
    have hi := List.mem_range.mp hi
    exact cstep O' l' rfl (Ev.bin O' (Ev.bin O' (Ev.bin O' (Ev.nmR O' l' 0) Ev.int add_ii) (Ev.sub O' (Ev.nmR O' l' 1) (Ev.nmR O' l' 0) item_list (get_li (by lia) zc (by rw [Int.toNat_natCast]; exact cg i (by lia)))) add_ii) Ev.int (mod_ii (by decide)))
  rw [steps_ints]
  generalize hst : stepsOf cs = st at S
  have zs : ((natI st).map PyData.int).length ≤ sizeLine := by simp only [natI, List.length_map, S.len]; decide
  have q9 := fmod_lt (a := c9) (k := 8) (by decide)
  have q9' := fmod_lt (a := c9.fdiv 8) (k := 8) (by decide)
  have q8 := fmod_lt (a := c8) (k := 8) (by decide)
  have q8' := fmod_lt (a := c8.fdiv 8) (k := 8) (by decide)
  generalize hi9 : (c9.fmod 8).toNat = i9
  generalize hv9 : ((c9.fdiv 8).fmod 8).toNat = v9
  generalize hf1 : (c8.fmod 8).toNat = f1
  generalize hf2 : ((c8.fdiv 8).fmod 8).toNat = f2
  have Sc : Steps (st.set i9 v9) := set_ok S (by lia)
  refine Ex.newI O l 5 (EvN.copy O rfl (Ev.nm O l 4) (.inl rfl) zs) fun a => ?_
  refine Ex.weakO toW ?_
  refine Ex.cons (Ex1.setW (pre := []) (post := [(56, tabO)]) (i := c9.fmod 8) (d := .int ((v9 : Nat) : Int)) O (Ev.castI (by lia) (Ev.bin O (Ev.bin O (Ev.sub O (Ev.nm O l 0) Ev.int item_list (get_li (by decide) zc g9)) Ev.int (div_ii (by decide) (by decide))) Ev.int (mod_ii (by decide)))) (Ev.nm O l 5) (Ev.bin O (Ev.sub O (Ev.nm O l 0) Ev.int item_list (get_li (by decide) zc g9)) Ev.int (mod_ii (by decide))) q9.1 zs (by simp only [natI, List.length_map, S.len]; lia)) ?_
  have es : ((natI st).map PyData.int).set (c9.fmod 8).toNat (.int ((v9 : Nat) : Int)) = (natI (st.set i9 v9)).map .int := by
    rw [hi9]; unfold natI; rw [List.map_set, List.map_set]; rfl
  rw [es]
  refine Ex.freezeWI l 5 ?_
  generalize hch : st.set i9 v9 = ch at Sc
  refine Ex.let_ O l 6 (v := .d (.int ((f1 : Nat) : Int))) (Ev.castI (by lia) (Ev.bin O (Ev.sub O (Ev.nm O l 0) Ev.int item_list (get_li (by decide) zc g8)) Ev.int (mod_ii (by decide)))) ?_
  refine Ex.let_ O l 7 (v := .d (.int ((f2 : Nat) : Int))) (Ev.castI (by lia) (Ev.bin O (Ev.bin O (Ev.sub O (Ev.nm O l 0) Ev.int item_list (get_li (by decide) zc g8)) Ev.int (div_ii (by decide) (by decide))) Ev.int (mod_ii (by decide)))) ?_
  refine aside fun zk => ?_
  have h1 : f1 < 8 := by lia
  have h2 : f2 < 8 := by lia
  obtain ⟨k1, p1, W1⟩ := walk S h1
  obtain ⟨k2, p2, W2⟩ := walk S h2
  obtain ⟨k3, p3, W3⟩ := walk Sc h1
  apply zk
  refine Ex.let_ O l 8 (v := .d (toldV rows st f1 k1 p1)) (Ev.callP O (nm_law_told O rfl) (kp_law_told _) (Es.cons (Ev.nm O l 3) (Es.cons (Ev.nm O l 4) (Es.cons (Ev.nm O l 6) Es.nil))) ((OpC.toN fun w => told_op w rows st S rlen rnd h1 W1).mono (by decide))) ?_
  refine Ex.let_ O l 9 (v := .d (toldV rows st f2 k2 p2)) (Ev.callP O (nm_law_told O rfl) (kp_law_told _) (Es.cons (Ev.nm O l 3) (Es.cons (Ev.nm O l 4) (Es.cons (Ev.nm O l 7) Es.nil))) ((OpC.toN fun w => told_op w rows st S rlen rnd h2 W2).mono (by decide))) ?_
  refine Ex.let_ O l 10 (v := .d (toldV rows ch f1 k3 p3)) (Ev.callP O (nm_law_told O rfl) (kp_law_told _) (Es.cons (Ev.nm O l 3) (Es.cons (Ev.nm O l 5) (Es.cons (Ev.nm O l 6) Es.nil))) ((OpC.toN fun w => told_op w rows ch Sc rlen rnd h1 W3).mono (by decide))) ?_
  have rok : ∀ x ∈ rows, okS x := fun x hx => okS_plain (rpl x hx)
  refine Ex.cons (Ex1.ifF (Bt.orF (Bt.notT (Bt.of O (Ev.callP O (nm_law_is_told O rfl) (kp_law_is_told _) (Es.cons (Ev.nm O l 8) (Es.cons (Ev.nm O l 3) (Es.cons (Ev.nm O l 4) (Es.cons (Ev.nm O l 6) Es.nil)))) ((is_told_fs rows st S rlen rok h1 W1).mono (by decide))) tru_bool)) (Bt.orF (Bt.notT (Bt.of O (Ev.callP O (nm_law_is_told O rfl) (kp_law_is_told _) (Es.cons (Ev.nm O l 9) (Es.cons (Ev.nm O l 3) (Es.cons (Ev.nm O l 4) (Es.cons (Ev.nm O l 7) Es.nil)))) ((is_told_fs rows st S rlen rok h2 W2).mono (by decide))) tru_bool)) Bt.orN)) Ex.nil) ?_
  refine Ex.cons (Ex1.ifF (Bt.notT (Bt.of O (Ev.callP O (nm_law_is_told O rfl) (kp_law_is_told _) (Es.cons (Ev.nm O l 10) (Es.cons (Ev.nm O l 3) (Es.cons (Ev.nm O l 5) (Es.cons (Ev.nm O l 6) Es.nil)))) ((is_told_fs rows ch Sc rlen rok h1 W3).mono (by decide))) tru_bool)) Ex.nil) ?_
  have inj := (named S rlen rnd).inj
  have rmem : ∀ x, x < 8 → rowAt rows x ∈ rows := fun x hx => by rw [rowAt_get (by lia)]; exact List.getElem_mem _
  have t1 := nat_row (rows := rows) (ring_tail W1) (ring_lt S h1) inj
  have t2 := nat_row (rows := rows) (ring_tail W2) (ring_lt S h2) inj
  have t3 := nat_row (rows := rows) (ring_tail W3) (ring_lt Sc h1) inj
  have len1 : (ringOf st f1 k1 p1).length ≤ 9 := by rw [ring_len]; have := W1.p8; lia
  have len2 : (ringOf st f2 k2 p2).length ≤ 9 := by rw [ring_len]; have := W2.p8; lia
  have len3 : (ringOf ch f1 k3 p3).length ≤ 9 := by rw [ring_len]; have := W3.p8; lia
  have ml1 : ∀ x ∈ (ringOf st f1 k1 p1).map (rowAt rows), x ∈ rows := fun x hx => by obtain ⟨y, hy, rfl⟩ := List.mem_map.mp hx; exact rmem y (ring_lt S h1 y hy)
  have ml2 : ∀ x ∈ (ringOf st f2 k2 p2).map (rowAt rows), x ∈ rows := fun x hx => by obtain ⟨y, hy, rfl⟩ := List.mem_map.mp hx; exact rmem y (ring_lt S h2 y hy)
  have ml3 : ∀ x ∈ (ringOf ch f1 k3 p3).map (rowAt rows), x ∈ rows := fun x hx => by obtain ⟨y, hy, rfl⟩ := List.mem_map.mp hx; exact rmem y (ring_lt Sc h1 y hy)
  have off : ∀ s : List Nat, (srt (((List.range 8).filter fun i => !s.contains i).map (rowAt rows))).length ≤ 8 ∧ ∀ x ∈ srt (((List.range 8).filter fun i => !s.contains i).map (rowAt rows)), x ∈ rows := fun s => by
    refine ⟨?_, fun x hx => ?_⟩
    · rw [(srt_perm _).length_eq, List.length_map]
      have := List.length_filter_le (fun i => !s.contains i) (List.range 8)
      simpa using this
    · obtain ⟨y, hy, rfl⟩ := List.mem_map.mp ((srt_perm _).mem_iff.mp hx)
      exact rmem y (List.mem_range.mp (List.mem_filter.mp hy).1)
  have o1 := off (sqs st 3)
  have o3 := off (sqs ch 3)
  unfold toldV
  generalize hr1 : (ringOf st f1 k1 p1).map (rowAt rows) = r1 at *
  generalize hr2 : (ringOf st f2 k2 p2).map (rowAt rows) = r2 at *
  generalize hr3 : (ringOf ch f1 k3 p3).map (rowAt rows) = r3 at *
  have l1 : r1.length ≤ 9 := by rw [← hr1, List.length_map]; exact len1
  have l2 : r2.length ≤ 9 := by rw [← hr2, List.length_map]; exact len2
  have l3 : r3.length ≤ 9 := by rw [← hr3, List.length_map]; exact len3
  generalize srt (((List.range 8).filter fun i => !(sqs st 3).contains i).map (rowAt rows)) = d1 at *
  generalize srt (((List.range 8).filter fun i => !(sqs st 3).contains i).map (rowAt rows)) = d2 at *
  generalize srt (((List.range 8).filter fun i => !(sqs ch 3).contains i).map (rowAt rows)) = d3 at *
  have two : ∀ {a b : PyData}, [a, b].length ≤ sizeLine := fun {a b} => by show 2 ≤ sizeLine; decide
  have three : ∀ {a b c : PyData}, [a, b, c].length ≤ sizeLine := fun {a b c} => by show 3 ≤ sizeLine; decide
  have ok : ∀ ls : List (List Str), ls ≠ [] → ls.length ≤ 10 → (∀ r ∈ ls, r.length ≤ 20 ∧ ∀ x ∈ r, x ∈ rows) → ShortOk ls := fun ls a b c => shortOk ⟨a, b, fun r hr => (c r hr).1, fun r hr x hx => Nat.le_trans (rsh x ((c r hr).2 x hx)) (by decide)⟩ fun r hr x hx => rpl x ((c r hr).2 x hx)
  refine Ex.let_ O l 11 (v := .d (.list ([r1, r2, r3].map strsD))) (Ev.lst (Es.cons (Ev.sub O (Ev.sub O (Ev.nm O l 8) Ev.int item_tuple (get_ti (by decide) two (d := .tuple [.str "nodes are in a cycle", strsD r1]) rfl)) Ev.int item_tuple (get_ti (by decide) two (d := strsD r1) rfl)) (Es.cons (Ev.sub O (Ev.sub O (Ev.nm O l 9) Ev.int item_tuple (get_ti (by decide) two (d := .tuple [.str "nodes are in a cycle", strsD r2]) rfl)) Ev.int item_tuple (get_ti (by decide) two (d := strsD r2) rfl)) (Es.cons (Ev.sub O (Ev.sub O (Ev.nm O l 10) Ev.int item_tuple (get_ti (by decide) two (d := .tuple [.str "nodes are in a cycle", strsD r3]) rfl)) Ev.int item_tuple (get_ti (by decide) two (d := strsD r3) rfl)) Es.nil))) (by repeat constructor)) ?_
  have u1 : r1.length ≤ 20 ∧ ∀ x ∈ r1, x ∈ rows := ⟨by lia, ml1⟩
  have u2 : r2.length ≤ 20 ∧ ∀ x ∈ r2, x ∈ rows := ⟨by lia, ml2⟩
  have u3 : r3.length ≤ 20 ∧ ∀ x ∈ r3, x ∈ rows := ⟨by lia, ml3⟩
  have v1 : d1.length ≤ 20 ∧ ∀ x ∈ d1, x ∈ rows := ⟨by have := o1.1; lia, o1.2⟩
  have v3 : d3.length ≤ 20 ∧ ∀ x ∈ d3, x ∈ rows := ⟨by have := o3.1; lia, o3.2⟩
  have two' : ∀ {a b : List Str}, (a.length ≤ 20 ∧ ∀ x ∈ a, x ∈ rows) → (b.length ≤ 20 ∧ ∀ x ∈ b, x ∈ rows) → ShortOk [a, b] := fun {a b} ha hb => ok [a, b] (by simp) (by simp) fun r hr => by
    rcases List.mem_cons.mp hr with rfl | hr
    · exact ha
    · rw [List.mem_singleton.mp hr]; exact hb
  have K1 : ShortOk [r1, r2, r3] := ok [r1, r2, r3] (by simp) (by simp) fun r hr => by
    rcases List.mem_cons.mp hr with rfl | hr
    · exact u1
    · rcases List.mem_cons.mp hr with rfl | hr
      · exact u2
      · rw [List.mem_singleton.mp hr]; exact u3
  refine Ex.cons (Ex1.ifF (Bt.orF (Bt.notT (Bt.of O (Ev.call (fp := [(56, tabO)]) (fp' := [(56, tabO)]) (led2 := []) O (nm_law_is_short O rfl) (kp_law_is_short _) (Es.cons (Ev.nm O l 11) Es.nil) (is_short_fs [r1, r2, r3] K1)) tru_bool)) (Bt.orF (Bt.notT (Bt.of O (Ev.call (fp := [(56, tabO)]) (fp' := [(56, tabO)]) (led2 := []) O (nm_law_is_short O rfl) (kp_law_is_short _) (Es.cons (Ev.lst (Es.cons (Ev.sub O (Ev.nm O l 11) Ev.int item_list (get_li (by decide) three (d := strsD r1) rfl)) (Es.cons (Ev.sub O (Ev.nm O l 11) Ev.int item_list (get_li (by decide) three (d := strsD r3) rfl)) Es.nil)) (by repeat constructor)) Es.nil) (is_short_fs [r1, r3] (two' u1 u3))) tru_bool)) (Bt.orF (Bt.notT (Bt.of O (Ev.call (fp := [(56, tabO)]) (fp' := [(56, tabO)]) (led2 := []) O (nm_law_is_short O rfl) (kp_law_is_short _) (Es.cons (Ev.lst (Es.cons (Ev.sub O (Ev.nm O l 8) Ev.int item_tuple (get_ti (by decide) two (d := strsD d1) rfl)) (Es.cons (Ev.sub O (Ev.nm O l 10) Ev.int item_tuple (get_ti (by decide) two (d := strsD d3) rfl)) Es.nil)) (by repeat constructor)) Es.nil) (is_short_fs [d1, d3] (two' v1 v3))) tru_bool)) Bt.orN))) Ex.nil) ?_
  have zr : ∀ r : List Str, r.length ≤ 9 → (r.map PyData.str).length ≤ sizeLine := fun r h => by rw [List.length_map, big]; lia
  have cut : ∀ r : List Str, V.d (.list ((r.map PyData.str).drop 1)) = .d (strsD (r.drop 1)) := fun r => by unfold strsD; rw [List.map_drop]
  have bags : ∀ {a b : List Str}, a.length ≤ 9 → b.length ≤ 9 → (a.drop 1).Nodup → (b.drop 1).Nodup → (∀ x ∈ a, x ∈ rows) → (∀ x ∈ b, x ∈ rows) → FS 104 308 [.d (strsD (a.drop 1)), .d (strsD (b.drop 1))] (.d (.bool true)) := fun {a b} q1 q2 q3 q4 q5 q6 =>
    (bags_fs (a.drop 1) (b.drop 1) (by rw [List.length_drop]; lia) (by rw [List.length_drop]; lia) (fun x hx => rok x (q5 x (List.mem_of_mem_drop hx))) (fun x hx => rok x (q6 x (List.mem_of_mem_drop hx))) (uld_law q3 q4)).mono (by decide)
  exact Ex.retD (Ev.andT O (Ev.callP O (nm_law_bags_are_told O rfl) (kp_law_bags_are_told _) (Es.cons (Ev.castV (cut r1) (Ev.sub O (Ev.sub O (Ev.nm O l 11) Ev.int item_list (get_li (by decide) three (d := strsD r1) rfl)) (Ev.slice (Pt.some Ev.int) Pt.none Pt.none) item_list (get_lfrom (a := 1) (zr r1 l1)))) (Es.cons (Ev.castV (cut r2) (Ev.sub O (Ev.sub O (Ev.nm O l 11) Ev.int item_list (get_li (by decide) three (d := strsD r2) rfl)) (Ev.slice (Pt.some Ev.int) Pt.none Pt.none) item_list (get_lfrom (a := 1) (zr r2 l2)))) Es.nil)) (bags l1 l2 t1 t2 ml1 ml2))
    (Ev.callP O (nm_law_bags_are_told O rfl) (kp_law_bags_are_told _) (Es.cons (Ev.castV (cut r1) (Ev.sub O (Ev.sub O (Ev.nm O l 11) Ev.int item_list (get_li (by decide) three (d := strsD r1) rfl)) (Ev.slice (Pt.some Ev.int) Pt.none Pt.none) item_list (get_lfrom (a := 1) (zr r1 l1)))) (Es.cons (Ev.castV (cut r3) (Ev.sub O (Ev.sub O (Ev.nm O l 11) Ev.int item_list (get_li (by decide) three (d := strsD r3) rfl)) (Ev.slice (Pt.some Ev.int) Pt.none Pt.none) item_list (get_lfrom (a := 1) (zr r3 l3)))) Es.nil)) (bags l1 l3 t1 t3 ml1 ml3)))
end
section
theorem law_fs (sc : List Int) (hl : sc.length ≤ 63) : OpN 106 (fun vals => call (.ref 320) vals) [.d (intsD sc)] [(56, tabO)] (.d (.bool true)) [(56, tabO)] := by
  refine call_def1 (n := 105) ["script"] [] (fun w => by exact rfl) (fun w => by kernel_rfl) (by exact bind1 fun _ _ => BindsTo.of_eq rfl) rfl (by decide) rfl (fun C L => ⟨by decide, by decide, rfl, rfl⟩) fun C L O l => ?_
  exact Ex.retD (Ev.call (fp := [(56, tabO)]) (fp' := [(56, tabO)]) (led2 := []) O (nm_law_holds O rfl) (kp_law_holds _) (Es.cons (Ev.callP O (nm_law_cells O rfl) (kp_law_cells _) (Es.cons (Ev.nm O l 0) Es.nil) ((law_cells sc hl).mono (by decide))) Es.nil) (law_holds_fs (cellsTo sc sc.length) (cellsTo_len _ _)))
end
section
noncomputable abbrev lawScope : Scope := { kind := .function, names := [(Str.ofString "script", .local), (Str.ofString "_law_holds", .globalImplicit), (Str.ofString "_law_cells", .globalImplicit)], isGenerator := false, isCoroutine := false }
noncomputable abbrev lawBody : List Stmt := [Stmt.Return (some ((Expr.Name (Str.ofString "_law_holds") ⟨369, 11, 369, 21⟩).Call [(Expr.Name (Str.ofString "_law_cells") ⟨369, 22, 369, 32⟩).Call [Expr.Name (Str.ofString "script") ⟨369, 33, 369, 39⟩] [] ⟨369, 22, 369, 40⟩] [] ⟨369, 11, 369, 41⟩)) ⟨369, 4, 369, 41⟩]
theorem law_run {w : World} {s₁ : Shared} {h₁ : Heap} {tk : Tok} {p : Program} {loose : List Str} {mean : ExcName → Option Value} {mg mb : Str → Option Value} {fa a : Addr} {cd : Value} {sc : List Int} {as : List Addr} {Q : Flow → Shared → Prop} {E : Value → Shared → Prop}
    (KX : (KF w).In s₁.heap) (T : Top p loose mean mg mb s₁.heap) (hT : TabsAt [(60, 56)] s₁.heap) (hK : noTabs (KF w) = true) (hg : s₁.gens = #[])
    (F : Fr s₁.heap s₁.heap.objs.size h₁ (fun x => List.lookup x [((Str.ofString "script"), Value.ref a)].reverse)) (r0 : Reads s₁.heap (.ref a) (intsD sc) as) (hlen : sc.length ≤ 63)
    (h : ∀ s', OldK s₁.heap s'.heap → s'.os = s₁.os → AllBare s'.gens → Q (.ret (.bool true)) s') :
    wpAny (MM w) (callerA.deeper (envOf (Str.ofString "law") lawScope s₁.heap.objs.size fa cd)) (execs lawBody (envOf (Str.ofString "law") lawScope s₁.heap.objs.size fa cd)) Q E { s₁ with heap := h₁, toks := tk } := by
  let env := envOf (Str.ofString "law") lawScope s₁.heap.objs.size fa cd
  let g := ghostOf s₁.heap [(60, 56)]
  let C : Cx0 := ⟨w, callerA.deeper env, g, g, [], [s₁.heap.objs.size], s₁.os, [], fun gn _ => AllBare gn⟩
  have hP := (hT (60, 56) (.head _)).2
  have sub : g.StaysIn s₁.heap := fun b o e => of_hideAll _ e
  have fresh : g.get? s₁.heap.objs.size = none := ghost_fresh (Heap.get?_none_of_le (Nat.le_refl _))
  have T' := ghost_top hT T
  have O : Ok 105 (C.at env) := {
    bs := fun _ _ e => e
    X := ghost_K hT KX hK
    T := ⟨_, _, _, _, topRead_of T'⟩
    bm := by
      obtain ⟨bm, ob, b1, b2, b3, b4, b5, b6⟩ := T.bmain
      have e := mg_of KX T.g (bm_name w)
      have e2 := b1.symm.trans e
      cases e2
      exact ⟨ob, ghost_get hT b3 (fun q => by rw [q] at b4; cases b4), b4, b5, b6⟩
    hA := fun _ => rfl
    hf := rfl
    hk := rfl
    ek := rfl
    eg := rfl
    eb := rfl
    hh := rfl
    gu := fun _ => rfl
    gb := fun _ => rfl
    un := by show 4 + 3 + 4 * 105 ≤ 1000; decide
    dp := by show 1 + claimMargin + 1 + 105 ≤ 900; decide
    pl := .head _
    pf := .head _
    lg := fresh
    ce := fun x a e => by cases e
    ci := fun x y a e => by cases e
    fl := fun p hp => by cases hp
    fe := fun _ p hp => by cases hp
    fo := fun e he => by cases he
    fc := fun _ p hp => by cases hp
    kb := ghost_K hT KX hK
    kp := fun a ha => by
      rcases List.mem_cons.mp ha with rfl | ha
      · exact fresh
      · cases ha }
  have l : Lay (C.at env) ["script"] := ⟨by decide, by decide, rfl, rfl⟩
  have hne : (56 : Addr) ≠ s₁.heap.objs.size := Nat.ne_of_lt (Heap.lt_size hP)
  have sd : Sub s₁.heap (vis (C.at env) [(56, tabO)] { s₁ with heap := h₁, toks := tk }) := fun b o e hd => by
    refine vmk (F.keep b o e) (fun hb => ?_)
    rcases List.mem_cons.mp hb with rfl | hb
    · exact absurd (Heap.lt_size e) (Nat.lt_irrefl _)
    · rcases List.mem_cons.mp hb with rfl | hb
      · rw [hP] at e; cases e
        obtain ⟨nm, _, q⟩ := hd
        cases q
      · cases hb
  have S : St (C.at env) [((Str.ofString "script"), .d (intsD sc))] [(56, tabO)] { s₁ with heap := h₁, toks := tk } := {
    fr := ⟨_, ghost_fr hT F⟩
    nm := ⟨_, fun _ => none, F.ns, (fun x a e => by cases e), (fun x v e => by
      rw [List.lookup_cons] at e
      split at e
      · rename_i q
        cases e
        rw [eq_of_beq q]
        exact ⟨.ref a, rfl, as, reads_sub sd r0⟩
      · cases e)⟩
    ld := fun p hp => by
      rcases List.mem_cons.mp hp with rfl | hp
      · refine ⟨fun q => ?_, hideAll_none _ (.head _), _, F.keep _ _ hP, #[], rfl, ?_⟩
        · rcases List.mem_cons.mp q with q | q
          · exact hne q
          · cases q
        · exact True.intro
      · cases hp
    nd := List.nodup_cons.mpr ⟨List.not_mem_nil, List.nodup_nil⟩
    pv := fun a ha => by
      rcases List.mem_cons.mp ha with rfl | ha
      · obtain ⟨o, _, _, e, _⟩ := F.ns; exact ⟨o, e⟩
      · cases ha
    os := rfl
    gn := .of_eq hg
    fz := fun p hp => by cases hp }
  have X : Ex (C.at env) (mk ["script"] [some (.d (intsD sc))]) [(56, tabO)] lawBody (.ret (.d (.bool true)) [] [(56, tabO)]) := by
    exact Ex.retD (Ev.call (fp := [(56, tabO)]) (fp' := [(56, tabO)]) (led2 := []) O (nm_law_holds O rfl) (kp_law_holds _) (Es.cons (Ev.callP O (nm_law_cells O rfl) (kp_law_cells _) (Es.cons (Ev.nm O l 0) Es.nil) ((law_cells sc hlen).mono (by decide))) Es.nil) (law_holds_fs (cellsTo sc sc.length) (cellsTo_len _ _)))
  refine X _ Q E S fun f s' x => ?_
  obtain ⟨v', rfl, S', _, as', r⟩ := x
  cases r
  refine h s' ⟨fun b o e => ?_, fun b o e => ?_⟩ S'.os S'.gn
  · by_cases q : b = 56
    · subst q
      rw [hP] at e; cases e
      refine aside fun zk => ?_
      obtain ⟨_, _, o', e', ps, rfl, _⟩ := S'.ld _ (.head _)
      apply zk
      exact .inr (.inl ⟨((hT (60, 56) (.head _)).1.tab hP).isCodeTable, rfl, #[], ps, rfl, by rw [Array.empty_append]; exact e'⟩)
    · obtain ⟨m, F'⟩ := S'.fr
      exact .inl (F'.keep b o (ghost_ne e fun hb => q (by rcases List.mem_cons.mp hb with hb | hb; exact hb; cases hb)))
  · by_cases q : b = 56
    · refine aside fun zk => ?_
      subst q
      obtain ⟨_, _, o', e', _⟩ := S'.ld _ (.head _)
      apply zk
      exact ⟨o', e'⟩
    · obtain ⟨m, F'⟩ := S'.fr
      exact ⟨o, F'.keep b o (ghost_ne e fun hb => q (by rcases List.mem_cons.mp hb with hb | hb; exact hb; cases hb))⟩
end
section
theorem KF_noTabs (w : World) : noTabs (KF w) = true := by kernel_rfl
theorem KF_tab (w : World) : tabIn (KF w) "_common_shorten_repr" = some (60, 56) := by kernel_rfl
end
end Mine
open PySem PySem.W PyProof.Rows
theorem PySem.Challenge.cw_ny0359_01_holds : PySem.Challenge.rw_ny0359_01.Holds := by

  refine holds_law Mine.said9 fun said => ?_
  refine holds_open (q := Mine.vw) (loose := Mine.loose9) (Xt := fun _ => true) (XP := fun _ _ => True) (Yf := Mine.hk9.obs) (Ya := Mine.hk9.val) (YP := Mine.hk9.says) (N := 4526) Mine.left9 Mine.hk9.of Mine.hk9.keeps (fun _ _ => trivial) (fun _ _ _ _ _ => trivial) (by rfl) (by rfl) (by rfl) (fun _ _ => recFacts_nil rfl) (by rfl) said Mine.ok9 Mine.bare9 ?hw ?hc
  case hw => w_witness2
  intro w s₀ s₁ mg mb G Y fa o pm cd doc dV kV ho hd hcd hD hmg hg args vals as hpre hlay hrd hwl hlo
  have KX := kIn_of Y
  refine Ground.open G ?_
  intro T B D TE TW
  clear D
  have hT : TabsAt [(60, 56)] s₁.heap := fun q hq => by
    rcases List.mem_cons.mp hq with rfl | hq
    · exact tab_of (x := PySem.Str.ofString "_common_shorten_repr") (c := 60) (P := 56) T KX rfl (Mine.KF_tab w)
    · cases hq
  wrow_args hpre hlay hrd hwl hlo
  refine enter_call ?_
  w_top on
  have K0 := below_caller (Top.heap T)
  w_call any ho hd hcd hD T F
  rename Reads _ _ _ _ => r0
  rename (¬ ((63 : Int) < _)) => hc9
  refine Mine.law_run (sc := _) KX T hT (Mine.KF_noTabs w) hg F r0 (by omega) fun s' k1 k2 k3 => ?_
  refine ⟨.inl ⟨_, .bool true, [], rfl, raisesW_false ?_, .bool _, ?_, fun _ => ⟨List.nodup_nil, fun _ h => nomatch h⟩⟩, k1, k2, k3⟩
  · wrow_none_raised
  · wrow_post
