import PyProof.Rows.All
import Wide.All
import OpenK.AllK
import Wide.FinOn
import PySem.Challenge.RW_in0253_01
set_option Elab.async false
set_option autoImplicit false
set_option linter.all false
namespace Mine
-- part T0
section
open PySem PySem.W PyProof.Rows PySem.Calls
set_option maxRecDepth 100000
set_option maxHeartbeats 4000000
noncomputable abbrev PW : Program := PySem.Challenge.pw_in0253_01
/-- the i-th statement of the top, a def: its parameters, its body, its scope -/
noncomputable def fnParts (i : Nat) : Arguments × List Stmt × Scope := match PW.main.body[i]? with
  | some (.FunctionDef _ a b _ _ _ sc _ _ _) => (a, b, sc)
  | _ => default
noncomputable abbrev fp3 : Arguments := (fun (b : Arguments) (_ : b = (fnParts 3).1) => b) _ (by conv => { rhs; whnf })
noncomputable abbrev fb3 : List Stmt := (fun (b : List Stmt) (_ : b = (fnParts 3).2.1) => b) _ (by conv => { rhs; whnf })
noncomputable abbrev fs3 : Scope := (fun (b : Scope) (_ : b = (fnParts 3).2.2) => b) _ (by conv => { rhs; whnf })
noncomputable abbrev fp4 : Arguments := (fun (b : Arguments) (_ : b = (fnParts 4).1) => b) _ (by conv => { rhs; whnf })
noncomputable abbrev fb4 : List Stmt := (fun (b : List Stmt) (_ : b = (fnParts 4).2.1) => b) _ (by conv => { rhs; whnf })
noncomputable abbrev fs4 : Scope := (fun (b : Scope) (_ : b = (fnParts 4).2.2) => b) _ (by conv => { rhs; whnf })
noncomputable abbrev fp7 : Arguments := (fun (b : Arguments) (_ : b = (fnParts 7).1) => b) _ (by conv => { rhs; whnf })
noncomputable abbrev fb7 : List Stmt := (fun (b : List Stmt) (_ : b = (fnParts 7).2.1) => b) _ (by conv => { rhs; whnf })
noncomputable abbrev fs7 : Scope := (fun (b : Scope) (_ : b = (fnParts 7).2.2) => b) _ (by conv => { rhs; whnf })
noncomputable abbrev fp10 : Arguments := (fun (b : Arguments) (_ : b = (fnParts 10).1) => b) _ (by conv => { rhs; whnf })
noncomputable abbrev fb10 : List Stmt := (fun (b : List Stmt) (_ : b = (fnParts 10).2.1) => b) _ (by conv => { rhs; whnf })
noncomputable abbrev fs10 : Scope := (fun (b : Scope) (_ : b = (fnParts 10).2.2) => b) _ (by conv => { rhs; whnf })
noncomputable abbrev fp12 : Arguments := (fun (b : Arguments) (_ : b = (fnParts 12).1) => b) _ (by conv => { rhs; whnf })
noncomputable abbrev fb12 : List Stmt := (fun (b : List Stmt) (_ : b = (fnParts 12).2.1) => b) _ (by conv => { rhs; whnf })
noncomputable abbrev fs12 : Scope := (fun (b : Scope) (_ : b = (fnParts 12).2.2) => b) _ (by conv => { rhs; whnf })
noncomputable abbrev fp13 : Arguments := (fun (b : Arguments) (_ : b = (fnParts 13).1) => b) _ (by conv => { rhs; whnf })
noncomputable abbrev fb13 : List Stmt := (fun (b : List Stmt) (_ : b = (fnParts 13).2.1) => b) _ (by conv => { rhs; whnf })
noncomputable abbrev fs13 : Scope := (fun (b : Scope) (_ : b = (fnParts 13).2.2) => b) _ (by conv => { rhs; whnf })
noncomputable abbrev fp15 : Arguments := (fun (b : Arguments) (_ : b = (fnParts 15).1) => b) _ (by conv => { rhs; whnf })
noncomputable abbrev fb15 : List Stmt := (fun (b : List Stmt) (_ : b = (fnParts 15).2.1) => b) _ (by conv => { rhs; whnf })
noncomputable abbrev fs15 : Scope := (fun (b : Scope) (_ : b = (fnParts 15).2.2) => b) _ (by conv => { rhs; whnf })
noncomputable abbrev fp39 : Arguments := (fun (b : Arguments) (_ : b = (fnParts 39).1) => b) _ (by conv => { rhs; whnf })
noncomputable abbrev fb39 : List Stmt := (fun (b : List Stmt) (_ : b = (fnParts 39).2.1) => b) _ (by conv => { rhs; whnf })
noncomputable abbrev fs39 : Scope := (fun (b : Scope) (_ : b = (fnParts 39).2.2) => b) _ (by conv => { rhs; whnf })
noncomputable abbrev fp41 : Arguments := (fun (b : Arguments) (_ : b = (fnParts 41).1) => b) _ (by conv => { rhs; whnf })
noncomputable abbrev fb41 : List Stmt := (fun (b : List Stmt) (_ : b = (fnParts 41).2.1) => b) _ (by conv => { rhs; whnf })
noncomputable abbrev fs41 : Scope := (fun (b : Scope) (_ : b = (fnParts 41).2.2) => b) _ (by conv => { rhs; whnf })
noncomputable abbrev fp42 : Arguments := (fun (b : Arguments) (_ : b = (fnParts 42).1) => b) _ (by conv => { rhs; whnf })
noncomputable abbrev fb42 : List Stmt := (fun (b : List Stmt) (_ : b = (fnParts 42).2.1) => b) _ (by conv => { rhs; whnf })
noncomputable abbrev fs42 : Scope := (fun (b : Scope) (_ : b = (fnParts 42).2.2) => b) _ (by conv => { rhs; whnf })
noncomputable abbrev fp43 : Arguments := (fun (b : Arguments) (_ : b = (fnParts 43).1) => b) _ (by conv => { rhs; whnf })
noncomputable abbrev fb43 : List Stmt := (fun (b : List Stmt) (_ : b = (fnParts 43).2.1) => b) _ (by conv => { rhs; whnf })
noncomputable abbrev fs43 : Scope := (fun (b : Scope) (_ : b = (fnParts 43).2.2) => b) _ (by conv => { rhs; whnf })
noncomputable abbrev fp44 : Arguments := (fun (b : Arguments) (_ : b = (fnParts 44).1) => b) _ (by conv => { rhs; whnf })
noncomputable abbrev fb44 : List Stmt := (fun (b : List Stmt) (_ : b = (fnParts 44).2.1) => b) _ (by conv => { rhs; whnf })
noncomputable abbrev fs44 : Scope := (fun (b : Scope) (_ : b = (fnParts 44).2.2) => b) _ (by conv => { rhs; whnf })
noncomputable abbrev fp45 : Arguments := (fun (b : Arguments) (_ : b = (fnParts 45).1) => b) _ (by conv => { rhs; whnf })
noncomputable abbrev fb45 : List Stmt := (fun (b : List Stmt) (_ : b = (fnParts 45).2.1) => b) _ (by conv => { rhs; whnf })
noncomputable abbrev fs45 : Scope := (fun (b : Scope) (_ : b = (fnParts 45).2.2) => b) _ (by conv => { rhs; whnf })
noncomputable abbrev fp46 : Arguments := (fun (b : Arguments) (_ : b = (fnParts 46).1) => b) _ (by conv => { rhs; whnf })
noncomputable abbrev fb46 : List Stmt := (fun (b : List Stmt) (_ : b = (fnParts 46).2.1) => b) _ (by conv => { rhs; whnf })
noncomputable abbrev fs46 : Scope := (fun (b : Scope) (_ : b = (fnParts 46).2.2) => b) _ (by conv => { rhs; whnf })
noncomputable abbrev fp47 : Arguments := (fun (b : Arguments) (_ : b = (fnParts 47).1) => b) _ (by conv => { rhs; whnf })
noncomputable abbrev fb47 : List Stmt := (fun (b : List Stmt) (_ : b = (fnParts 47).2.1) => b) _ (by conv => { rhs; whnf })
noncomputable abbrev fs47 : Scope := (fun (b : Scope) (_ : b = (fnParts 47).2.2) => b) _ (by conv => { rhs; whnf })
noncomputable abbrev fp48 : Arguments := (fun (b : Arguments) (_ : b = (fnParts 48).1) => b) _ (by conv => { rhs; whnf })
noncomputable abbrev fb48 : List Stmt := (fun (b : List Stmt) (_ : b = (fnParts 48).2.1) => b) _ (by conv => { rhs; whnf })
noncomputable abbrev fs48 : Scope := (fun (b : Scope) (_ : b = (fnParts 48).2.2) => b) _ (by conv => { rhs; whnf })
/-- what of the heap behind the top the walk leans on -/
noncomputable def KF (P : Params) : Frag := [
  (3, ⟨(.type "dict"), none, .dict [⟨PyData.keyHash P "__name__", (.str "__name__" 165), (.str "law_in0253_01" 647)⟩,
    ⟨PyData.keyHash P "__doc__", (.str "__doc__" 166), .none⟩,
    ⟨PyData.keyHash P "__package__", (.str "__package__" 167), .none⟩,
    ⟨PyData.keyHash P "__loader__", (.str "__loader__" 168), (.builtin "__main__.__loader__#opaque")⟩,
    ⟨PyData.keyHash P "__spec__", (.str "__spec__" 169), .none⟩,
    ⟨PyData.keyHash P "__annotations__", (.str "__annotations__" 170), (.ref 6)⟩,
    ⟨PyData.keyHash P "__builtins__", (.str "__builtins__" 171), (.ref 4)⟩,
    ⟨PyData.keyHash P "__file__", (.str "__file__" 173), (.str "/claim/cut.py" 172)⟩,
    ⟨PyData.keyHash P "__cached__", (.str "__cached__" 174), .none⟩,
    ⟨PyData.keyHash P "_sre", (.str "_sre" 275), (.ref 12)⟩,
    ⟨PyData.keyHash P "StatisticsError", (.str "StatisticsError" 301), (.ref 41)⟩,
    ⟨PyData.keyHash P "median_low", (.str "median_low" 309), (.ref 51)⟩,
    ⟨PyData.keyHash P "median_high", (.str "median_high" 317), (.ref 58)⟩,
    ⟨PyData.keyHash P "_twin_re_1", (.str "_twin_re_1" 357), (.ref 63)⟩,
    ⟨PyData.keyHash P "translate", (.str "translate" 366), (.ref 70)⟩,
    ⟨PyData.keyHash P "_special_chars_map", (.str "_special_chars_map" 514), (.ref 72)⟩,
    ⟨PyData.keyHash P "escape", (.str "escape" 521), (.ref 82)⟩,
    ⟨PyData.keyHash P "_translate", (.str "_translate" 542), (.ref 89)⟩,
    ⟨PyData.keyHash P "_join_translated_parts", (.str "_join_translated_parts" 555), (.ref 96)⟩,
    ⟨PyData.keyHash P "S_IFMT", (.str "S_IFMT" 564), (.ref 103)⟩,
    ⟨PyData.keyHash P "S_IFDIR", (.str "S_IFDIR" 566), (.int 16384 565)⟩,
    ⟨PyData.keyHash P "S_IFCHR", (.str "S_IFCHR" 568), (.int 8192 567)⟩,
    ⟨PyData.keyHash P "S_IFBLK", (.str "S_IFBLK" 570), (.int 24576 569)⟩,
    ⟨PyData.keyHash P "S_IFREG", (.str "S_IFREG" 572), (.int 32768 571)⟩,
    ⟨PyData.keyHash P "S_IFIFO", (.str "S_IFIFO" 574), (.int 4096 573)⟩,
    ⟨PyData.keyHash P "S_IFLNK", (.str "S_IFLNK" 576), (.int 40960 575)⟩,
    ⟨PyData.keyHash P "S_IFSOCK", (.str "S_IFSOCK" 578), (.int 49152 577)⟩,
    ⟨PyData.keyHash P "S_ISUID", (.str "S_ISUID" 580), (.int 2048 579)⟩,
    ⟨PyData.keyHash P "S_ISGID", (.str "S_ISGID" 582), (.int 1024 581)⟩,
    ⟨PyData.keyHash P "S_ISVTX", (.str "S_ISVTX" 584), (.int 512 583)⟩,
    ⟨PyData.keyHash P "S_IRWXU", (.str "S_IRWXU" 586), (.int 448 585)⟩,
    ⟨PyData.keyHash P "S_IRUSR", (.str "S_IRUSR" 588), (.int 256 587)⟩,
    ⟨PyData.keyHash P "S_IWUSR", (.str "S_IWUSR" 590), (.int 128 589)⟩,
    ⟨PyData.keyHash P "S_IXUSR", (.str "S_IXUSR" 592), (.int 64 591)⟩,
    ⟨PyData.keyHash P "S_IRWXG", (.str "S_IRWXG" 594), (.int 56 593)⟩,
    ⟨PyData.keyHash P "S_IRGRP", (.str "S_IRGRP" 596), (.int 32 595)⟩,
    ⟨PyData.keyHash P "S_IWGRP", (.str "S_IWGRP" 598), (.int 16 597)⟩,
    ⟨PyData.keyHash P "S_IXGRP", (.str "S_IXGRP" 600), (.int 8 599)⟩,
    ⟨PyData.keyHash P "S_IRWXO", (.str "S_IRWXO" 602), (.int 7 601)⟩,
    ⟨PyData.keyHash P "S_IROTH", (.str "S_IROTH" 604), (.int 4 603)⟩,
    ⟨PyData.keyHash P "S_IWOTH", (.str "S_IWOTH" 606), (.int 2 605)⟩,
    ⟨PyData.keyHash P "S_IXOTH", (.str "S_IXOTH" 608), (.int 1 607)⟩,
    ⟨PyData.keyHash P "_filemode_table", (.str "_filemode_table" 634), (.ref 136)⟩,
    ⟨PyData.keyHash P "filemode", (.str "filemode" 646), (.ref 143)⟩,
    ⟨PyData.keyHash P "_law_number", (.str "_law_number" 657), (.ref 150)⟩,
    ⟨PyData.keyHash P "_law_back", (.str "_law_back" 667), (.ref 157)⟩,
    ⟨PyData.keyHash P "_law_pattern", (.str "_law_pattern" 676), (.ref 164)⟩,
    ⟨PyData.keyHash P "_law_read", (.str "_law_read" 686), (.ref 171)⟩,
    ⟨PyData.keyHash P "_law_pads", (.str "_law_pads" 696), (.ref 178)⟩,
    ⟨PyData.keyHash P "_law_signs", (.str "_law_signs" 702), (.ref 183)⟩,
    ⟨PyData.keyHash P "_law_taken", (.str "_law_taken" 708), (.ref 188)⟩,
    ⟨PyData.keyHash P "law", (.str "law" 714), (.ref 193)⟩].toArray 52, #[]⟩),
  (50, ⟨(.type "code"), none, .fields [(.str "median_low" 302), (.str "median_low" 303), (.str "/claim/cut.py" 304), (.int 5 0), (.int 1 0), (.int 0 0), (.int 0 0), (.int 3 0), (.ref 45), (.bool true), (.int 276 0), (.ref 46), .none, (.ref 47), (.ref 48), (.ref 49), (.int 307 0), (.int 5 0), (.str "/claim/cut.py" 308)].toArray, #[]⟩),
  (51, ⟨(.type "function"), none, .func { name := "median_low", qualname := "median_low", params := fp3, body := .stmts fb3, scope := fs3, globals := 3, closure := [], defaults := .none, kwdefaults := .none, doc := .none, pyModule := (.str "cpy313.statistics" 282), annotations := none, code := (.ref 50), closureTuple := .none, builtins := 0 }, #[]⟩),
  (57, ⟨(.type "code"), none, .fields [(.str "median_high" 310), (.str "median_high" 311), (.str "/claim/cut.py" 312), (.int 14 0), (.int 1 0), (.int 0 0), (.int 0 0), (.int 3 0), (.ref 52), (.bool true), (.int 276 0), (.ref 53), .none, (.ref 54), (.ref 55), (.ref 56), (.int 315 0), (.int 14 0), (.str "/claim/cut.py" 316)].toArray, #[]⟩),
  (58, ⟨(.type "function"), none, .func { name := "median_high", qualname := "median_high", params := fp4, body := .stmts fb4, scope := fs4, globals := 3, closure := [], defaults := .none, kwdefaults := .none, doc := .none, pyModule := (.str "cpy313.statistics" 282), annotations := none, code := (.ref 57), closureTuple := .none, builtins := 0 }, #[]⟩),
  (69, ⟨(.type "code"), none, .fields [(.str "translate" 358), (.str "translate" 359), (.str "/claim/cut.py" 360), (.int 22 0), (.int 1 0), (.int 0 0), (.int 0 0), (.int 3 0), (.ref 64), (.bool true), (.int 276 0), (.ref 65), .none, (.ref 66), (.ref 67), (.ref 68), (.int 364 0), (.int 22 0), (.str "/claim/cut.py" 365)].toArray, #[]⟩),
  (70, ⟨(.type "function"), none, .func { name := "translate", qualname := "translate", params := fp7, body := .stmts fb7, scope := fs7, globals := 3, closure := [], defaults := .none, kwdefaults := .none, doc := .none, pyModule := (.str "cpy313.fnmatch" 318), annotations := none, code := (.ref 69), closureTuple := .none, builtins := 0 }, #[]⟩),
  (72, ⟨(.type "dict"), none, .dict [⟨40, (.int 40 370), (.str "\\(" 374)⟩,
    ⟨41, (.int 41 376), (.str "\\)" 380)⟩,
    ⟨91, (.int 91 382), (.str "\\[" 386)⟩,
    ⟨93, (.int 93 388), (.str "\\]" 392)⟩,
    ⟨123, (.int 123 394), (.str "\\{" 398)⟩,
    ⟨125, (.int 125 400), (.str "\\}" 404)⟩,
    ⟨63, (.int 63 406), (.str "\\?" 410)⟩,
    ⟨42, (.int 42 412), (.str "\\*" 416)⟩,
    ⟨43, (.int 43 418), (.str "\\+" 422)⟩,
    ⟨45, (.int 45 424), (.str "\\-" 428)⟩,
    ⟨124, (.int 124 430), (.str "\\|" 434)⟩,
    ⟨94, (.int 94 436), (.str "\\^" 440)⟩,
    ⟨36, (.int 36 442), (.str "\\$" 446)⟩,
    ⟨92, (.int 92 448), (.str "\\\\" 452)⟩,
    ⟨46, (.int 46 454), (.str "\\." 458)⟩,
    ⟨38, (.int 38 460), (.str "\\&" 464)⟩,
    ⟨126, (.int 126 466), (.str "\\~" 470)⟩,
    ⟨35, (.int 35 472), (.str "\\#" 476)⟩,
    ⟨32, (.int 32 478), (.str "\\ " 482)⟩,
    ⟨9, (.int 9 484), (.str "\\\t" 488)⟩,
    ⟨10, (.int 10 490), (.str "\\\n" 494)⟩,
    ⟨13, (.int 13 496), (.str "\\\x0d" 500)⟩,
    ⟨11, (.int 11 502), (.str "\\\x0b" 506)⟩,
    ⟨12, (.int 12 508), (.str "\\\x0c" 512)⟩].toArray 24, #[]⟩),
  (81, ⟨(.type "code"), none, .fields [(.str "escape" 515), (.str "escape" 516), (.str "/claim/cut.py" 517), (.int 28 0), (.int 1 0), (.int 0 0), (.int 0 0), (.int 3 0), (.ref 76), (.bool true), (.int 276 0), (.ref 77), .none, (.ref 78), (.ref 79), (.ref 80), (.int 519 0), (.int 28 0), (.str "/claim/cut.py" 520)].toArray, #[]⟩),
  (82, ⟨(.type "function"), none, .func { name := "escape", qualname := "escape", params := fp10, body := .stmts fb10, scope := fs10, globals := 3, closure := [], defaults := .none, kwdefaults := .none, doc := .none, pyModule := (.str "re" 367), annotations := none, code := (.ref 81), closureTuple := .none, builtins := 0 }, #[]⟩),
  (88, ⟨(.type "code"), none, .fields [(.str "_translate" 524), (.str "_translate" 525), (.str "/claim/cut.py" 526), (.int 35 0), (.int 3 0), (.int 0 0), (.int 0 0), (.int 3 0), (.ref 83), (.bool true), (.int 276 0), (.ref 84), .none, (.ref 85), (.ref 86), (.ref 87), (.int 540 0), (.int 35 0), (.str "/claim/cut.py" 541)].toArray, #[]⟩),
  (89, ⟨(.type "function"), none, .func { name := "_translate", qualname := "_translate", params := fp12, body := .stmts fb12, scope := fs12, globals := 3, closure := [], defaults := .none, kwdefaults := .none, doc := .none, pyModule := (.str "cpy313.fnmatch" 522), annotations := none, code := (.ref 88), closureTuple := .none, builtins := 0 }, #[]⟩),
  (95, ⟨(.type "code"), none, .fields [(.str "_join_translated_parts" 543), (.str "_join_translated_parts" 544), (.str "/claim/cut.py" 545), (.int 97 0), (.int 2 0), (.int 0 0), (.int 0 0), (.int 3 0), (.ref 90), (.bool true), (.int 276 0), (.ref 91), .none, (.ref 92), (.ref 93), (.ref 94), (.int 553 0), (.int 97 0), (.str "/claim/cut.py" 554)].toArray, #[]⟩),
  (96, ⟨(.type "function"), none, .func { name := "_join_translated_parts", qualname := "_join_translated_parts", params := fp13, body := .stmts fb13, scope := fs13, globals := 3, closure := [], defaults := .none, kwdefaults := .none, doc := .none, pyModule := (.str "cpy313.fnmatch" 522), annotations := none, code := (.ref 95), closureTuple := .none, builtins := 0 }, #[]⟩),
  (102, ⟨(.type "code"), none, .fields [(.str "S_IFMT" 558), (.str "S_IFMT" 559), (.str "/claim/cut.py" 560), (.int 125 0), (.int 1 0), (.int 0 0), (.int 0 0), (.int 3 0), (.ref 97), (.bool true), (.int 276 0), (.ref 98), .none, (.ref 99), (.ref 100), (.ref 101), (.int 562 0), (.int 125 0), (.str "/claim/cut.py" 563)].toArray, #[]⟩),
  (103, ⟨(.type "function"), none, .func { name := "S_IFMT", qualname := "S_IFMT", params := fp15, body := .stmts fb15, scope := fs15, globals := 3, closure := [], defaults := .none, kwdefaults := .none, doc := .none, pyModule := (.str "cpy313.stat" 556), annotations := none, code := (.ref 102), closureTuple := .none, builtins := 0 }, #[]⟩),
  (104, ⟨(.type "tuple"), none, .seq [(.int 40960 575), (.str "l" 609)].toArray 0, #[]⟩),
  (105, ⟨(.type "tuple"), none, .seq [(.int 49152 577), (.str "s" 610)].toArray 0, #[]⟩),
  (106, ⟨(.type "tuple"), none, .seq [(.int 32768 571), (.str "-" 611)].toArray 0, #[]⟩),
  (107, ⟨(.type "tuple"), none, .seq [(.int 24576 569), (.str "b" 612)].toArray 0, #[]⟩),
  (108, ⟨(.type "tuple"), none, .seq [(.int 16384 565), (.str "d" 613)].toArray 0, #[]⟩),
  (109, ⟨(.type "tuple"), none, .seq [(.int 8192 567), (.str "c" 614)].toArray 0, #[]⟩),
  (110, ⟨(.type "tuple"), none, .seq [(.int 4096 573), (.str "p" 615)].toArray 0, #[]⟩),
  (111, ⟨(.type "tuple"), none, .seq [(.ref 104), (.ref 105), (.ref 106), (.ref 107), (.ref 108), (.ref 109), (.ref 110)].toArray 0, #[]⟩),
  (112, ⟨(.type "tuple"), none, .seq [(.int 256 587), (.str "r" 616)].toArray 0, #[]⟩),
  (113, ⟨(.type "tuple"), none, .seq [(.ref 112)].toArray 0, #[]⟩),
  (114, ⟨(.type "tuple"), none, .seq [(.int 128 589), (.str "w" 617)].toArray 0, #[]⟩),
  (115, ⟨(.type "tuple"), none, .seq [(.ref 114)].toArray 0, #[]⟩),
  (116, ⟨(.type "tuple"), none, .seq [(.int 2112 618), (.str "s" 619)].toArray 0, #[]⟩),
  (117, ⟨(.type "tuple"), none, .seq [(.int 2048 579), (.str "S" 620)].toArray 0, #[]⟩),
  (118, ⟨(.type "tuple"), none, .seq [(.int 64 591), (.str "x" 621)].toArray 0, #[]⟩),
  (119, ⟨(.type "tuple"), none, .seq [(.ref 116), (.ref 117), (.ref 118)].toArray 0, #[]⟩),
  (120, ⟨(.type "tuple"), none, .seq [(.int 32 595), (.str "r" 622)].toArray 0, #[]⟩),
  (121, ⟨(.type "tuple"), none, .seq [(.ref 120)].toArray 0, #[]⟩),
  (122, ⟨(.type "tuple"), none, .seq [(.int 16 597), (.str "w" 623)].toArray 0, #[]⟩),
  (123, ⟨(.type "tuple"), none, .seq [(.ref 122)].toArray 0, #[]⟩),
  (124, ⟨(.type "tuple"), none, .seq [(.int 1032 624), (.str "s" 625)].toArray 0, #[]⟩),
  (125, ⟨(.type "tuple"), none, .seq [(.int 1024 581), (.str "S" 626)].toArray 0, #[]⟩),
  (126, ⟨(.type "tuple"), none, .seq [(.int 8 599), (.str "x" 627)].toArray 0, #[]⟩),
  (127, ⟨(.type "tuple"), none, .seq [(.ref 124), (.ref 125), (.ref 126)].toArray 0, #[]⟩),
  (128, ⟨(.type "tuple"), none, .seq [(.int 4 603), (.str "r" 628)].toArray 0, #[]⟩),
  (129, ⟨(.type "tuple"), none, .seq [(.ref 128)].toArray 0, #[]⟩),
  (130, ⟨(.type "tuple"), none, .seq [(.int 2 605), (.str "w" 629)].toArray 0, #[]⟩),
  (131, ⟨(.type "tuple"), none, .seq [(.ref 130)].toArray 0, #[]⟩),
  (132, ⟨(.type "tuple"), none, .seq [(.int 513 630), (.str "t" 631)].toArray 0, #[]⟩),
  (133, ⟨(.type "tuple"), none, .seq [(.int 512 583), (.str "T" 632)].toArray 0, #[]⟩),
  (134, ⟨(.type "tuple"), none, .seq [(.int 1 607), (.str "x" 633)].toArray 0, #[]⟩),
  (135, ⟨(.type "tuple"), none, .seq [(.ref 132), (.ref 133), (.ref 134)].toArray 0, #[]⟩),
  (136, ⟨(.type "tuple"), none, .seq [(.ref 111), (.ref 113), (.ref 115), (.ref 119), (.ref 121), (.ref 123), (.ref 127), (.ref 129), (.ref 131), (.ref 135)].toArray 0, #[]⟩),
  (142, ⟨(.type "code"), none, .fields [(.str "filemode" 635), (.str "filemode" 636), (.str "/claim/cut.py" 637), (.int 150 0), (.int 1 0), (.int 0 0), (.int 0 0), (.int 3 0), (.ref 137), (.bool true), (.int 276 0), (.ref 138), .none, (.ref 139), (.ref 140), (.ref 141), (.int 644 0), (.int 150 0), (.str "/claim/cut.py" 645)].toArray, #[]⟩),
  (143, ⟨(.type "function"), none, .func { name := "filemode", qualname := "filemode", params := fp39, body := .stmts fb39, scope := fs39, globals := 3, closure := [], defaults := .none, kwdefaults := .none, doc := .none, pyModule := (.str "cpy313.stat" 556), annotations := none, code := (.ref 142), closureTuple := .none, builtins := 0 }, #[]⟩),
  (149, ⟨(.type "code"), none, .fields [(.str "_law_number" 649), (.str "_law_number" 650), (.str "/claim/cut.py" 651), (.int 168 0), (.int 3 0), (.int 0 0), (.int 0 0), (.int 3 0), (.ref 144), (.bool true), (.int 276 0), (.ref 145), .none, (.ref 146), (.ref 147), (.ref 148), (.int 655 0), (.int 168 0), (.str "/claim/cut.py" 656)].toArray, #[]⟩),
  (150, ⟨(.type "function"), none, .func { name := "_law_number", qualname := "_law_number", params := fp41, body := .stmts fb41, scope := fs41, globals := 3, closure := [], defaults := .none, kwdefaults := .none, doc := .none, pyModule := (.str "law_in0253_01" 647), annotations := none, code := (.ref 149), closureTuple := .none, builtins := 0 }, #[]⟩),
  (156, ⟨(.type "code"), none, .fields [(.str "_law_back" 658), (.str "_law_back" 659), (.str "/claim/cut.py" 660), (.int 170 0), (.int 1 0), (.int 0 0), (.int 0 0), (.int 3 0), (.ref 151), (.bool true), (.int 276 0), (.ref 152), .none, (.ref 153), (.ref 154), (.ref 155), (.int 665 0), (.int 170 0), (.str "/claim/cut.py" 666)].toArray, #[]⟩),
  (157, ⟨(.type "function"), none, .func { name := "_law_back", qualname := "_law_back", params := fp42, body := .stmts fb42, scope := fs42, globals := 3, closure := [], defaults := .none, kwdefaults := .none, doc := .none, pyModule := (.str "law_in0253_01" 647), annotations := none, code := (.ref 156), closureTuple := .none, builtins := 0 }, #[]⟩),
  (163, ⟨(.type "code"), none, .fields [(.str "_law_pattern" 668), (.str "_law_pattern" 669), (.str "/claim/cut.py" 670), (.int 180 0), (.int 1 0), (.int 0 0), (.int 0 0), (.int 3 0), (.ref 158), (.bool true), (.int 276 0), (.ref 159), .none, (.ref 160), (.ref 161), (.ref 162), (.int 674 0), (.int 180 0), (.str "/claim/cut.py" 675)].toArray, #[]⟩),
  (164, ⟨(.type "function"), none, .func { name := "_law_pattern", qualname := "_law_pattern", params := fp43, body := .stmts fb43, scope := fs43, globals := 3, closure := [], defaults := .none, kwdefaults := .none, doc := .none, pyModule := (.str "law_in0253_01" 647), annotations := none, code := (.ref 163), closureTuple := .none, builtins := 0 }, #[]⟩),
  (170, ⟨(.type "code"), none, .fields [(.str "_law_read" 677), (.str "_law_read" 678), (.str "/claim/cut.py" 679), (.int 184 0), (.int 1 0), (.int 0 0), (.int 0 0), (.int 3 0), (.ref 165), (.bool true), (.int 276 0), (.ref 166), .none, (.ref 167), (.ref 168), (.ref 169), (.int 684 0), (.int 184 0), (.str "/claim/cut.py" 685)].toArray, #[]⟩),
  (171, ⟨(.type "function"), none, .func { name := "_law_read", qualname := "_law_read", params := fp44, body := .stmts fb44, scope := fs44, globals := 3, closure := [], defaults := .none, kwdefaults := .none, doc := .none, pyModule := (.str "law_in0253_01" 647), annotations := none, code := (.ref 170), closureTuple := .none, builtins := 0 }, #[]⟩),
  (177, ⟨(.type "code"), none, .fields [(.str "_law_pads" 687), (.str "_law_pads" 688), (.str "/claim/cut.py" 689), (.int 202 0), (.int 4 0), (.int 0 0), (.int 0 0), (.int 3 0), (.ref 172), (.bool true), (.int 276 0), (.ref 173), .none, (.ref 174), (.ref 175), (.ref 176), (.int 694 0), (.int 202 0), (.str "/claim/cut.py" 695)].toArray, #[]⟩),
  (178, ⟨(.type "function"), none, .func { name := "_law_pads", qualname := "_law_pads", params := fp45, body := .stmts fb45, scope := fs45, globals := 3, closure := [], defaults := .none, kwdefaults := .none, doc := .none, pyModule := (.str "law_in0253_01" 647), annotations := none, code := (.ref 177), closureTuple := .none, builtins := 0 }, #[]⟩),
  (182, ⟨(.type "code"), none, .fields [(.str "_law_signs" 697), (.str "_law_signs" 698), (.str "/claim/cut.py" 699), (.int 204 0), (.int 1 0), (.int 0 0), (.int 0 0), (.int 3 0), (.ref 179), (.bool true), (.int 276 0), (.ref 180), .none, .none, .none, (.ref 181), (.int 700 0), (.int 204 0), (.str "/claim/cut.py" 701)].toArray, #[]⟩),
  (183, ⟨(.type "function"), none, .func { name := "_law_signs", qualname := "_law_signs", params := fp46, body := .stmts fb46, scope := fs46, globals := 3, closure := [], defaults := .none, kwdefaults := .none, doc := .none, pyModule := (.str "law_in0253_01" 647), annotations := none, code := (.ref 182), closureTuple := .none, builtins := 0 }, #[]⟩),
  (187, ⟨(.type "code"), none, .fields [(.str "_law_taken" 703), (.str "_law_taken" 704), (.str "/claim/cut.py" 705), (.int 206 0), (.int 2 0), (.int 0 0), (.int 0 0), (.int 3 0), (.ref 184), (.bool true), (.int 276 0), (.ref 185), .none, .none, .none, (.ref 186), (.int 706 0), (.int 206 0), (.str "/claim/cut.py" 707)].toArray, #[]⟩),
  (188, ⟨(.type "function"), none, .func { name := "_law_taken", qualname := "_law_taken", params := fp47, body := .stmts fb47, scope := fs47, globals := 3, closure := [], defaults := .none, kwdefaults := .none, doc := .none, pyModule := (.str "law_in0253_01" 647), annotations := none, code := (.ref 187), closureTuple := .none, builtins := 0 }, #[]⟩),
  (192, ⟨(.type "code"), none, .fields [(.str "law" 709), (.str "law" 710), (.str "/claim/cut.py" 711), (.int 208 0), (.int 1 0), (.int 0 0), (.int 0 0), (.int 3 0), (.ref 189), (.bool true), (.int 276 0), (.ref 190), .none, .none, .none, (.ref 191), (.int 712 0), (.int 208 0), (.str "/claim/cut.py" 713)].toArray, #[]⟩),
  (193, ⟨(.type "function"), none, .func { name := "law", qualname := "law", params := fp48, body := .stmts fb48, scope := fs48, globals := 3, closure := [], defaults := .none, kwdefaults := .none, doc := .none, pyModule := (.str "law_in0253_01" 647), annotations := none, code := (.ref 192), closureTuple := .none, builtins := 0 }, #[]⟩)]
noncomputable def asL : List Addr := [3, 50, 51, 57, 58, 69, 70, 72, 81, 82, 88, 89, 95, 96, 102, 103, 104, 105, 106, 107, 108, 109, 110, 111, 112, 113, 114, 115, 116, 117, 118, 119, 120, 121, 122, 123, 124, 125, 126, 127, 128, 129, 130, 131, 132, 133, 134, 135, 136, 142, 143, 149, 150, 156, 157, 163, 164, 170, 171, 177, 178, 182, 183, 187, 188, 192, 193]


noncomputable def keepL : List Nat := [0, 2, 3, 4, 6, 7, 9, 10, 12, 13, 15, 16, 17, 18, 19, 20, 21, 22, 23, 24, 25, 26, 27, 28, 29, 30, 31, 32, 33, 34, 35, 36, 37, 38, 39, 41, 42, 43, 44, 45, 46, 47, 48]
noncomputable def qv : Program := view PW keepL
noncomputable def looseL : List Str := ["_twin_re_1", "_special_chars_map", "_filemode_table"]
noncomputable def xt (s : Shared) : Bool := xlAt qv [] s && recOk [] s
noncomputable def yf (s : Shared) : List (Option Obj) := asL.map s.heap.get?
noncomputable def ya (w : World) : List (Option Obj) := (KF w.params).map fun p => some p.2
end
-- part S0
section
open PySem PySem.W PyProof.Rows PySem.Calls
set_option maxRecDepth 100000
set_option maxHeartbeats 4000000
noncomputable def ho0 (P : Params) : Obj := ⟨(.type "dict"), none, .dict [⟨PyData.keyHash P "__name__", (.str "__name__" 1), (.str "builtins" 160)⟩,
    ⟨PyData.keyHash P "__doc__", (.str "__doc__" 2), (.builtin "builtins.__doc__:str#opaque")⟩,
    ⟨PyData.keyHash P "__package__", (.str "__package__" 3), (.builtin "builtins.__package__:str#opaque")⟩,
    ⟨PyData.keyHash P "__loader__", (.str "__loader__" 4), (.builtin "builtins.__loader__:shared#opaque")⟩,
    ⟨PyData.keyHash P "__spec__", (.str "__spec__" 5), (.builtin "builtins.__spec__#opaque")⟩,
    ⟨PyData.keyHash P "__build_class__", (.str "__build_class__" 6), (.builtin "__build_class__")⟩,
    ⟨PyData.keyHash P "__import__", (.str "__import__" 7), (.builtin "__import__")⟩,
    ⟨PyData.keyHash P "abs", (.str "abs" 8), (.builtin "abs")⟩,
    ⟨PyData.keyHash P "all", (.str "all" 9), (.builtin "all")⟩,
    ⟨PyData.keyHash P "any", (.str "any" 10), (.builtin "any")⟩,
    ⟨PyData.keyHash P "ascii", (.str "ascii" 11), (.builtin "ascii")⟩,
    ⟨PyData.keyHash P "bin", (.str "bin" 12), (.builtin "bin")⟩,
    ⟨PyData.keyHash P "breakpoint", (.str "breakpoint" 13), (.builtin "breakpoint")⟩,
    ⟨PyData.keyHash P "callable", (.str "callable" 14), (.builtin "callable")⟩,
    ⟨PyData.keyHash P "chr", (.str "chr" 15), (.builtin "chr")⟩,
    ⟨PyData.keyHash P "compile", (.str "compile" 16), (.builtin "compile")⟩,
    ⟨PyData.keyHash P "delattr", (.str "delattr" 17), (.builtin "delattr")⟩,
    ⟨PyData.keyHash P "dir", (.str "dir" 18), (.builtin "dir")⟩,
    ⟨PyData.keyHash P "divmod", (.str "divmod" 19), (.builtin "divmod")⟩,
    ⟨PyData.keyHash P "eval", (.str "eval" 20), (.builtin "eval")⟩,
    ⟨PyData.keyHash P "exec", (.str "exec" 21), (.builtin "exec")⟩,
    ⟨PyData.keyHash P "format", (.str "format" 22), (.builtin "format")⟩,
    ⟨PyData.keyHash P "getattr", (.str "getattr" 23), (.builtin "getattr")⟩,
    ⟨PyData.keyHash P "globals", (.str "globals" 24), (.builtin "globals")⟩,
    ⟨PyData.keyHash P "hasattr", (.str "hasattr" 25), (.builtin "hasattr")⟩,
    ⟨PyData.keyHash P "hash", (.str "hash" 26), (.builtin "hash")⟩,
    ⟨PyData.keyHash P "hex", (.str "hex" 27), (.builtin "hex")⟩,
    ⟨PyData.keyHash P "id", (.str "id" 28), (.builtin "id")⟩,
    ⟨PyData.keyHash P "input", (.str "input" 29), (.builtin "input")⟩,
    ⟨PyData.keyHash P "isinstance", (.str "isinstance" 30), (.builtin "isinstance")⟩,
    ⟨PyData.keyHash P "issubclass", (.str "issubclass" 31), (.builtin "issubclass")⟩,
    ⟨PyData.keyHash P "iter", (.str "iter" 32), (.builtin "iter")⟩,
    ⟨PyData.keyHash P "aiter", (.str "aiter" 33), (.builtin "aiter")⟩,
    ⟨PyData.keyHash P "len", (.str "len" 34), (.builtin "len")⟩,
    ⟨PyData.keyHash P "locals", (.str "locals" 35), (.builtin "locals")⟩,
    ⟨PyData.keyHash P "max", (.str "max" 36), (.builtin "max")⟩,
    ⟨PyData.keyHash P "min", (.str "min" 37), (.builtin "min")⟩,
    ⟨PyData.keyHash P "next", (.str "next" 38), (.builtin "next")⟩,
    ⟨PyData.keyHash P "anext", (.str "anext" 39), (.builtin "anext")⟩,
    ⟨PyData.keyHash P "oct", (.str "oct" 40), (.builtin "oct")⟩,
    ⟨PyData.keyHash P "ord", (.str "ord" 41), (.builtin "ord")⟩,
    ⟨PyData.keyHash P "pow", (.str "pow" 42), (.builtin "pow")⟩,
    ⟨PyData.keyHash P "print", (.str "print" 43), (.builtin "print")⟩,
    ⟨PyData.keyHash P "repr", (.str "repr" 44), (.builtin "repr")⟩,
    ⟨PyData.keyHash P "round", (.str "round" 45), (.builtin "round")⟩,
    ⟨PyData.keyHash P "setattr", (.str "setattr" 46), (.builtin "setattr")⟩,
    ⟨PyData.keyHash P "sorted", (.str "sorted" 47), (.builtin "sorted")⟩,
    ⟨PyData.keyHash P "sum", (.str "sum" 48), (.builtin "sum")⟩,
    ⟨PyData.keyHash P "vars", (.str "vars" 49), (.builtin "vars")⟩,
    ⟨PyData.keyHash P "None", (.str "None" 50), .none⟩,
    ⟨PyData.keyHash P "Ellipsis", (.str "Ellipsis" 51), .ellipsis⟩,
    ⟨PyData.keyHash P "NotImplemented", (.str "NotImplemented" 52), .notImplemented⟩,
    ⟨PyData.keyHash P "False", (.str "False" 53), (.bool false)⟩,
    ⟨PyData.keyHash P "True", (.str "True" 54), (.bool true)⟩,
    ⟨PyData.keyHash P "bool", (.str "bool" 55), (.type "bool")⟩,
    ⟨PyData.keyHash P "memoryview", (.str "memoryview" 56), (.type "memoryview")⟩,
    ⟨PyData.keyHash P "bytearray", (.str "bytearray" 57), (.type "bytearray")⟩,
    ⟨PyData.keyHash P "bytes", (.str "bytes" 58), (.type "bytes")⟩,
    ⟨PyData.keyHash P "classmethod", (.str "classmethod" 59), (.type "classmethod")⟩,
    ⟨PyData.keyHash P "complex", (.str "complex" 60), (.type "complex")⟩,
    ⟨PyData.keyHash P "dict", (.str "dict" 61), (.type "dict")⟩,
    ⟨PyData.keyHash P "enumerate", (.str "enumerate" 62), (.type "enumerate")⟩,
    ⟨PyData.keyHash P "filter", (.str "filter" 63), (.type "filter")⟩,
    ⟨PyData.keyHash P "float", (.str "float" 64), (.type "float")⟩,
    ⟨PyData.keyHash P "frozenset", (.str "frozenset" 65), (.type "frozenset")⟩,
    ⟨PyData.keyHash P "property", (.str "property" 66), (.type "property")⟩,
    ⟨PyData.keyHash P "int", (.str "int" 67), (.type "int")⟩,
    ⟨PyData.keyHash P "list", (.str "list" 68), (.type "list")⟩,
    ⟨PyData.keyHash P "map", (.str "map" 69), (.type "map")⟩,
    ⟨PyData.keyHash P "object", (.str "object" 70), (.type "object")⟩,
    ⟨PyData.keyHash P "range", (.str "range" 71), (.type "range")⟩,
    ⟨PyData.keyHash P "reversed", (.str "reversed" 72), (.type "reversed")⟩,
    ⟨PyData.keyHash P "set", (.str "set" 73), (.type "set")⟩,
    ⟨PyData.keyHash P "slice", (.str "slice" 74), (.type "slice")⟩,
    ⟨PyData.keyHash P "staticmethod", (.str "staticmethod" 75), (.type "staticmethod")⟩,
    ⟨PyData.keyHash P "str", (.str "str" 76), (.type "str")⟩,
    ⟨PyData.keyHash P "super", (.str "super" 77), (.type "super")⟩,
    ⟨PyData.keyHash P "tuple", (.str "tuple" 78), (.type "tuple")⟩,
    ⟨PyData.keyHash P "type", (.str "type" 79), (.type "type")⟩,
    ⟨PyData.keyHash P "zip", (.str "zip" 80), (.type "zip")⟩,
    ⟨PyData.keyHash P "__debug__", (.str "__debug__" 81), (.bool true)⟩,
    ⟨PyData.keyHash P "BaseException", (.str "BaseException" 82), (.type "BaseException")⟩,
    ⟨PyData.keyHash P "BaseExceptionGroup", (.str "BaseExceptionGroup" 83), (.type "BaseExceptionGroup")⟩,
    ⟨PyData.keyHash P "Exception", (.str "Exception" 84), (.type "Exception")⟩,
    ⟨PyData.keyHash P "GeneratorExit", (.str "GeneratorExit" 85), (.type "GeneratorExit")⟩,
    ⟨PyData.keyHash P "KeyboardInterrupt", (.str "KeyboardInterrupt" 86), (.type "KeyboardInterrupt")⟩,
    ⟨PyData.keyHash P "SystemExit", (.str "SystemExit" 87), (.type "SystemExit")⟩,
    ⟨PyData.keyHash P "ArithmeticError", (.str "ArithmeticError" 88), (.type "ArithmeticError")⟩,
    ⟨PyData.keyHash P "AssertionError", (.str "AssertionError" 89), (.type "AssertionError")⟩,
    ⟨PyData.keyHash P "AttributeError", (.str "AttributeError" 90), (.type "AttributeError")⟩,
    ⟨PyData.keyHash P "BufferError", (.str "BufferError" 91), (.type "BufferError")⟩,
    ⟨PyData.keyHash P "EOFError", (.str "EOFError" 92), (.type "EOFError")⟩,
    ⟨PyData.keyHash P "ImportError", (.str "ImportError" 93), (.type "ImportError")⟩,
    ⟨PyData.keyHash P "LookupError", (.str "LookupError" 94), (.type "LookupError")⟩,
    ⟨PyData.keyHash P "MemoryError", (.str "MemoryError" 95), (.type "MemoryError")⟩,
    ⟨PyData.keyHash P "NameError", (.str "NameError" 96), (.type "NameError")⟩,
    ⟨PyData.keyHash P "OSError", (.str "OSError" 97), (.type "OSError")⟩,
    ⟨PyData.keyHash P "ReferenceError", (.str "ReferenceError" 98), (.type "ReferenceError")⟩,
    ⟨PyData.keyHash P "RuntimeError", (.str "RuntimeError" 99), (.type "RuntimeError")⟩,
    ⟨PyData.keyHash P "StopAsyncIteration", (.str "StopAsyncIteration" 100), (.type "StopAsyncIteration")⟩,
    ⟨PyData.keyHash P "StopIteration", (.str "StopIteration" 101), (.type "StopIteration")⟩,
    ⟨PyData.keyHash P "SyntaxError", (.str "SyntaxError" 102), (.type "SyntaxError")⟩,
    ⟨PyData.keyHash P "SystemError", (.str "SystemError" 103), (.type "SystemError")⟩,
    ⟨PyData.keyHash P "TypeError", (.str "TypeError" 104), (.type "TypeError")⟩,
    ⟨PyData.keyHash P "ValueError", (.str "ValueError" 105), (.type "ValueError")⟩,
    ⟨PyData.keyHash P "Warning", (.str "Warning" 106), (.type "Warning")⟩,
    ⟨PyData.keyHash P "FloatingPointError", (.str "FloatingPointError" 107), (.type "FloatingPointError")⟩,
    ⟨PyData.keyHash P "OverflowError", (.str "OverflowError" 108), (.type "OverflowError")⟩,
    ⟨PyData.keyHash P "ZeroDivisionError", (.str "ZeroDivisionError" 109), (.type "ZeroDivisionError")⟩,
    ⟨PyData.keyHash P "BytesWarning", (.str "BytesWarning" 110), (.type "BytesWarning")⟩,
    ⟨PyData.keyHash P "DeprecationWarning", (.str "DeprecationWarning" 111), (.type "DeprecationWarning")⟩,
    ⟨PyData.keyHash P "EncodingWarning", (.str "EncodingWarning" 112), (.type "EncodingWarning")⟩,
    ⟨PyData.keyHash P "FutureWarning", (.str "FutureWarning" 113), (.type "FutureWarning")⟩,
    ⟨PyData.keyHash P "ImportWarning", (.str "ImportWarning" 114), (.type "ImportWarning")⟩,
    ⟨PyData.keyHash P "PendingDeprecationWarning", (.str "PendingDeprecationWarning" 115), (.type "PendingDeprecationWarning")⟩,
    ⟨PyData.keyHash P "ResourceWarning", (.str "ResourceWarning" 116), (.type "ResourceWarning")⟩,
    ⟨PyData.keyHash P "RuntimeWarning", (.str "RuntimeWarning" 117), (.type "RuntimeWarning")⟩,
    ⟨PyData.keyHash P "SyntaxWarning", (.str "SyntaxWarning" 118), (.type "SyntaxWarning")⟩,
    ⟨PyData.keyHash P "UnicodeWarning", (.str "UnicodeWarning" 119), (.type "UnicodeWarning")⟩,
    ⟨PyData.keyHash P "UserWarning", (.str "UserWarning" 120), (.type "UserWarning")⟩,
    ⟨PyData.keyHash P "BlockingIOError", (.str "BlockingIOError" 121), (.type "BlockingIOError")⟩,
    ⟨PyData.keyHash P "ChildProcessError", (.str "ChildProcessError" 122), (.type "ChildProcessError")⟩,
    ⟨PyData.keyHash P "ConnectionError", (.str "ConnectionError" 123), (.type "ConnectionError")⟩,
    ⟨PyData.keyHash P "FileExistsError", (.str "FileExistsError" 124), (.type "FileExistsError")⟩,
    ⟨PyData.keyHash P "FileNotFoundError", (.str "FileNotFoundError" 125), (.type "FileNotFoundError")⟩,
    ⟨PyData.keyHash P "InterruptedError", (.str "InterruptedError" 126), (.type "InterruptedError")⟩,
    ⟨PyData.keyHash P "IsADirectoryError", (.str "IsADirectoryError" 127), (.type "IsADirectoryError")⟩,
    ⟨PyData.keyHash P "NotADirectoryError", (.str "NotADirectoryError" 128), (.type "NotADirectoryError")⟩,
    ⟨PyData.keyHash P "PermissionError", (.str "PermissionError" 129), (.type "PermissionError")⟩,
    ⟨PyData.keyHash P "ProcessLookupError", (.str "ProcessLookupError" 130), (.type "ProcessLookupError")⟩,
    ⟨PyData.keyHash P "TimeoutError", (.str "TimeoutError" 131), (.type "TimeoutError")⟩,
    ⟨PyData.keyHash P "IndentationError", (.str "IndentationError" 132), (.type "IndentationError")⟩,
    ⟨PyData.keyHash P "_IncompleteInputError", (.str "_IncompleteInputError" 133), (.type "_IncompleteInputError")⟩,
    ⟨PyData.keyHash P "IndexError", (.str "IndexError" 134), (.type "IndexError")⟩,
    ⟨PyData.keyHash P "KeyError", (.str "KeyError" 135), (.type "KeyError")⟩,
    ⟨PyData.keyHash P "ModuleNotFoundError", (.str "ModuleNotFoundError" 136), (.type "ModuleNotFoundError")⟩,
    ⟨PyData.keyHash P "NotImplementedError", (.str "NotImplementedError" 137), (.type "NotImplementedError")⟩,
    ⟨PyData.keyHash P "PythonFinalizationError", (.str "PythonFinalizationError" 138), (.type "PythonFinalizationError")⟩,
    ⟨PyData.keyHash P "RecursionError", (.str "RecursionError" 139), (.type "RecursionError")⟩,
    ⟨PyData.keyHash P "UnboundLocalError", (.str "UnboundLocalError" 140), (.type "UnboundLocalError")⟩,
    ⟨PyData.keyHash P "UnicodeError", (.str "UnicodeError" 141), (.type "UnicodeError")⟩,
    ⟨PyData.keyHash P "BrokenPipeError", (.str "BrokenPipeError" 142), (.type "BrokenPipeError")⟩,
    ⟨PyData.keyHash P "ConnectionAbortedError", (.str "ConnectionAbortedError" 143), (.type "ConnectionAbortedError")⟩,
    ⟨PyData.keyHash P "ConnectionRefusedError", (.str "ConnectionRefusedError" 144), (.type "ConnectionRefusedError")⟩,
    ⟨PyData.keyHash P "ConnectionResetError", (.str "ConnectionResetError" 145), (.type "ConnectionResetError")⟩,
    ⟨PyData.keyHash P "TabError", (.str "TabError" 146), (.type "TabError")⟩,
    ⟨PyData.keyHash P "UnicodeDecodeError", (.str "UnicodeDecodeError" 147), (.type "UnicodeDecodeError")⟩,
    ⟨PyData.keyHash P "UnicodeEncodeError", (.str "UnicodeEncodeError" 148), (.type "UnicodeEncodeError")⟩,
    ⟨PyData.keyHash P "UnicodeTranslateError", (.str "UnicodeTranslateError" 149), (.type "UnicodeTranslateError")⟩,
    ⟨PyData.keyHash P "ExceptionGroup", (.str "ExceptionGroup" 150), (.type "ExceptionGroup")⟩,
    ⟨PyData.keyHash P "EnvironmentError", (.str "EnvironmentError" 151), (.type "OSError")⟩,
    ⟨PyData.keyHash P "IOError", (.str "IOError" 152), (.type "OSError")⟩,
    ⟨PyData.keyHash P "open", (.str "open" 153), (.builtin "open")⟩,
    ⟨PyData.keyHash P "quit", (.str "quit" 154), (.builtin "builtins.quit#opaque")⟩,
    ⟨PyData.keyHash P "exit", (.str "exit" 155), (.builtin "builtins.exit#opaque")⟩,
    ⟨PyData.keyHash P "copyright", (.str "copyright" 156), (.builtin "builtins.copyright#opaque")⟩,
    ⟨PyData.keyHash P "credits", (.str "credits" 157), (.builtin "builtins.credits#opaque")⟩,
    ⟨PyData.keyHash P "license", (.str "license" 158), (.builtin "builtins.license#opaque")⟩,
    ⟨PyData.keyHash P "help", (.str "help" 159), (.builtin "builtins.help#opaque")⟩].toArray 159, [].toArray⟩
noncomputable def ho1 (P : Params) : Obj := ⟨(.type "dict"), none, .dict [⟨PyData.keyHash P "builtins", (.str "builtins" 162), (.ref 4)⟩,
    ⟨PyData.keyHash P "__main__", (.str "__main__" 163), (.ref 5)⟩,
    ⟨PyData.keyHash P "_sre", (.str "_sre" 244), (.ref 12)⟩].toArray 3, [].toArray⟩
noncomputable def ho2 (P : Params) : Obj := ⟨.none, none, .dict [⟨PyData.keyHash P (⟨[105, 109, 112, 111, 114, 116, 46, 108, 111, 97, 100, 101, 100, 46, 95, 115, 114, 101].toArray⟩ : Str), (.str (⟨[105, 109, 112, 111, 114, 116, 46, 108, 111, 97, 100, 101, 100, 46, 95, 115, 114, 101].toArray⟩ : Str) 183), (.bool true)⟩,
    ⟨PyData.keyHash P "class._frozen_importlib.BuiltinImporter", (.str "class._frozen_importlib.BuiltinImporter" 185), (.ref 14)⟩,
    ⟨PyData.keyHash P (⟨[119, 97, 116, 99, 104, 101, 100, 46, 105, 109, 112, 111, 114, 116].toArray⟩ : Str), (.str (⟨[119, 97, 116, 99, 104, 101, 100, 46, 105, 109, 112, 111, 114, 116].toArray⟩ : Str) 206), (.ref 18)⟩,
    ⟨PyData.keyHash P "class._frozen_importlib.ModuleSpec", (.str "class._frozen_importlib.ModuleSpec" 216), (.ref 22)⟩,
    ⟨PyData.keyHash P "sys.modules.booked-epoch", (.str "sys.modules.booked-epoch" 245), (.int 3 0)⟩,
    ⟨PyData.keyHash P (⟨[105, 109, 112, 111, 114, 116, 46, 108, 97, 116, 101, 114, 45, 108, 97, 105, 100, 46, 95, 115, 114, 101].toArray⟩ : Str), (.str (⟨[105, 109, 112, 111, 114, 116, 46, 108, 97, 116, 101, 114, 45, 108, 97, 105, 100, 46, 95, 115, 114, 101].toArray⟩ : Str) 270), (.bool true)⟩,
    ⟨PyData.keyHash P "watched.library", (.str "watched.library" 272), (.ref 27)⟩,
    ⟨PyData.keyHash P "watched.library-objects", (.str "watched.library-objects" 0), (.str ⟨[12].toArray⟩ 0)⟩,
    ⟨PyData.keyHash P "watched.library-deep._sre", (.str "watched.library-deep._sre" 273), (.str ⟨[4, 0, 0, 11, 4, 0, 0, 11, 4, 0, 0, 3, 4, 0, 0, 11, 8, 4, 100, 105, 99, 116, 2].toArray⟩ 0)⟩].toArray 9, [].toArray⟩
noncomputable def ho3 (P : Params) : Obj := ⟨(.type "dict"), none, .dict [⟨PyData.keyHash P "__name__", (.str "__name__" 165), (.str "__main__" 164)⟩,
    ⟨PyData.keyHash P "__doc__", (.str "__doc__" 166), .none⟩,
    ⟨PyData.keyHash P "__package__", (.str "__package__" 167), .none⟩,
    ⟨PyData.keyHash P "__loader__", (.str "__loader__" 168), (.builtin "__main__.__loader__#opaque")⟩,
    ⟨PyData.keyHash P "__spec__", (.str "__spec__" 169), .none⟩,
    ⟨PyData.keyHash P "__annotations__", (.str "__annotations__" 170), (.ref 6)⟩,
    ⟨PyData.keyHash P "__builtins__", (.str "__builtins__" 171), (.ref 4)⟩,
    ⟨PyData.keyHash P "__file__", (.str "__file__" 173), (.str "/claim/cut.py" 172)⟩,
    ⟨PyData.keyHash P "__cached__", (.str "__cached__" 174), .none⟩,
    ⟨PyData.keyHash P "_sre", (.str "_sre" 275), (.ref 12)⟩].toArray 10, [].toArray⟩
noncomputable def ho4 (P : Params) : Obj := ⟨(.type "module"), (some 0), .plain, [].toArray⟩
noncomputable def ho5 (P : Params) : Obj := ⟨(.type "module"), (some 3), .plain, [].toArray⟩
noncomputable def ho6 (P : Params) : Obj := ⟨(.type "dict"), none, .dict [].toArray 0, [].toArray⟩
noncomputable def ho7 (P : Params) : Obj := ⟨(.type "tuple"), none, .seq [].toArray 0, [].toArray⟩
noncomputable def ho8 (P : Params) : Obj := ⟨.none, none, .fields [].toArray, [].toArray⟩
noncomputable def ho9 (P : Params) : Obj := ⟨(.type "code"), none, .fields [(.str "<module>" 176), (.str "<module>" 177), (.str "/claim/cut.py" 178), (.int 1 0), (.int 0 0), (.int 0 0), (.int 0 0), (.int 0 0), (.ref 7), (.bool false), (.int 175 0), (.ref 8), .none, .none, .none, .none, (.int 179 0), (.int 1 0), (.str "/claim/cut.py" 180)].toArray, [].toArray⟩
noncomputable def ho10 (P : Params) : Obj := ⟨(.type "frame"), none, .plain, [(some (.ref 9)), (some (.ref 3)), (some (.ref 3)), none, (some (.str "__main__" 164)), none, (some (.ref 0))].toArray⟩
noncomputable def ho11 (P : Params) : Obj := ⟨(.type "dict"), none, .dict [⟨PyData.keyHash P "__name__", (.str "__name__" 247), (.str "_sre" 246)⟩,
    ⟨PyData.keyHash P "__doc__", (.str "__doc__" 248), .none⟩,
    ⟨PyData.keyHash P "__package__", (.str "__package__" 250), (.str "" 249)⟩,
    ⟨PyData.keyHash P "__loader__", (.str "__loader__" 251), (.builtin "off-the-table:_sre.__loader__:shared#opaque")⟩,
    ⟨PyData.keyHash P "__spec__", (.str "__spec__" 252), (.builtin "off-the-table:_sre.__spec__:shared#opaque")⟩,
    ⟨PyData.keyHash P "compile", (.str "compile" 253), (.builtin "_sre.compile")⟩,
    ⟨PyData.keyHash P "template", (.str "template" 254), (.builtin "off-the-table:_sre.template:shared#opaque")⟩,
    ⟨PyData.keyHash P "getcodesize", (.str "getcodesize" 255), (.builtin "off-the-table:_sre.getcodesize:shared#opaque")⟩,
    ⟨PyData.keyHash P "ascii_iscased", (.str "ascii_iscased" 256), (.builtin "off-the-table:_sre.ascii_iscased:shared#opaque")⟩,
    ⟨PyData.keyHash P "unicode_iscased", (.str "unicode_iscased" 257), (.builtin "off-the-table:_sre.unicode_iscased:shared#opaque")⟩,
    ⟨PyData.keyHash P "ascii_tolower", (.str "ascii_tolower" 258), (.builtin "off-the-table:_sre.ascii_tolower:shared#opaque")⟩,
    ⟨PyData.keyHash P "unicode_tolower", (.str "unicode_tolower" 259), (.builtin "off-the-table:_sre.unicode_tolower:shared#opaque")⟩,
    ⟨PyData.keyHash P "MAGIC", (.str "MAGIC" 261), (.int 20230612 260)⟩,
    ⟨PyData.keyHash P "CODESIZE", (.str "CODESIZE" 263), (.int 4 262)⟩,
    ⟨PyData.keyHash P "MAXREPEAT", (.str "MAXREPEAT" 265), (.int 4294967295 264)⟩,
    ⟨PyData.keyHash P "MAXGROUPS", (.str "MAXGROUPS" 267), (.int 1073741823 266)⟩,
    ⟨PyData.keyHash P "copyright", (.str "copyright" 269), (.str " SRE 2.2.2 Copyright (c) 1997-2002 by Secret Labs AB " 268)⟩].toArray 17, [].toArray⟩
noncomputable def ho12 (P : Params) : Obj := ⟨(.type "module"), (some 11), .plain, [].toArray⟩
noncomputable def ho13 (P : Params) : Obj := ⟨(.type "dict"), none, .dict [⟨PyData.keyHash P "__module__", (.str "__module__" 189), (.str "_frozen_importlib" 186)⟩,
    ⟨PyData.keyHash P "__firstlineno__", (.str "__firstlineno__" 190), (.int 971 187)⟩,
    ⟨PyData.keyHash P "__doc__", (.str "__doc__" 191), (.builtin "_frozen_importlib.BuiltinImporter.__doc__:str#opaque")⟩,
    ⟨PyData.keyHash P "_ORIGIN", (.str "_ORIGIN" 192), (.str "built-in" 188)⟩,
    ⟨PyData.keyHash P "find_spec", (.str "find_spec" 193), (.builtin "_frozen_importlib.BuiltinImporter.find_spec#opaque")⟩,
    ⟨PyData.keyHash P "create_module", (.str "create_module" 194), (.builtin "_frozen_importlib.BuiltinImporter.create_module#opaque")⟩,
    ⟨PyData.keyHash P "exec_module", (.str "exec_module" 195), (.builtin "_frozen_importlib.BuiltinImporter.exec_module#opaque")⟩,
    ⟨PyData.keyHash P "get_code", (.str "get_code" 196), (.builtin "_frozen_importlib.BuiltinImporter.get_code#opaque")⟩,
    ⟨PyData.keyHash P "get_source", (.str "get_source" 197), (.builtin "_frozen_importlib.BuiltinImporter.get_source#opaque")⟩,
    ⟨PyData.keyHash P "is_package", (.str "is_package" 198), (.builtin "_frozen_importlib.BuiltinImporter.is_package#opaque")⟩,
    ⟨PyData.keyHash P "load_module", (.str "load_module" 199), (.builtin "_frozen_importlib.BuiltinImporter.load_module#opaque")⟩,
    ⟨PyData.keyHash P "__static_attributes__", (.str "__static_attributes__" 200), (.ref 15)⟩,
    ⟨PyData.keyHash P "__dict__", (.str "__dict__" 202), (.ref 16)⟩,
    ⟨PyData.keyHash P "__weakref__", (.str "__weakref__" 204), (.ref 17)⟩].toArray 14, [].toArray⟩
noncomputable def ho14 (P : Params) : Obj := ⟨(.type "type"), none, .cls { name := "BuiltinImporter", bases := [(.type "object")], mro := [(.ref 14), (.type "object")], ns := 13, qualname := "BuiltinImporter", hasDict := true, slotNames := [], subclasses := [], abstract := false, collection := none, hasDel := false }, [].toArray⟩
noncomputable def ho15 (P : Params) : Obj := ⟨(.type "getset_descriptor"), none, .fields [(.str "__dict__" 201), (.ref 14), (.builtin "function.__dict__"), (.builtin "function.__dict__#set")].toArray, [].toArray⟩
noncomputable def ho16 (P : Params) : Obj := ⟨(.type "getset_descriptor"), none, .fields [(.str "__weakref__" 203), (.ref 14), (.builtin "ExceptionGroup.__weakref__"), .none].toArray, [].toArray⟩
noncomputable def ho17 (P : Params) : Obj := ⟨.none, none, .seq [(.int 13 0), (.str ⟨[6, 189, 10, 95, 95, 109, 111, 100, 117, 108, 101, 95, 95, 6, 186, 17, 95, 102, 114, 111, 122, 101, 110, 95, 105, 109, 112, 111, 114, 116, 108, 105, 98, 6, 190, 15, 95, 95, 102, 105, 114, 115, 116, 108, 105, 110, 101, 110, 111, 95, 95, 4, 187, 0, 971, 6, 191, 7, 95, 95, 100, 111, 99, 95, 95, 9, 52, 95, 102, 114, 111, 122, 101, 110, 95, 105, 109, 112, 111, 114, 116, 108, 105, 98, 46, 66, 117, 105, 108, 116, 105, 110, 73, 109, 112, 111, 114, 116, 101, 114, 46, 95, 95, 100, 111, 99, 95, 95, 58, 115, 116, 114, 35, 111, 112, 97, 113, 117, 101, 6, 192, 7, 95, 79, 82, 73, 71, 73, 78, 6, 188, 8, 98, 117, 105, 108, 116, 45, 105, 110, 6, 193, 9, 102, 105, 110, 100, 95, 115, 112, 101, 99, 9, 50, 95, 102, 114, 111, 122, 101, 110, 95, 105, 109, 112, 111, 114, 116, 108, 105, 98, 46, 66, 117, 105, 108, 116, 105, 110, 73, 109, 112, 111, 114, 116, 101, 114, 46, 102, 105, 110, 100, 95, 115, 112, 101, 99, 35, 111, 112, 97, 113, 117, 101, 6, 194, 13, 99, 114, 101, 97, 116, 101, 95, 109, 111, 100, 117, 108, 101, 9, 54, 95, 102, 114, 111, 122, 101, 110, 95, 105, 109, 112, 111, 114, 116, 108, 105, 98, 46, 66, 117, 105, 108, 116, 105, 110, 73, 109, 112, 111, 114, 116, 101, 114, 46, 99, 114, 101, 97, 116, 101, 95, 109, 111, 100, 117, 108, 101, 35, 111, 112, 97, 113, 117, 101, 6, 195, 11, 101, 120, 101, 99, 95, 109, 111, 100, 117, 108, 101, 9, 52, 95, 102, 114, 111, 122, 101, 110, 95, 105, 109, 112, 111, 114, 116, 108, 105, 98, 46, 66, 117, 105, 108, 116, 105, 110, 73, 109, 112, 111, 114, 116, 101, 114, 46, 101, 120, 101, 99, 95, 109, 111, 100, 117, 108, 101, 35, 111, 112, 97, 113, 117, 101, 6, 196, 8, 103, 101, 116, 95, 99, 111, 100, 101, 9, 49, 95, 102, 114, 111, 122, 101, 110, 95, 105, 109, 112, 111, 114, 116, 108, 105, 98, 46, 66, 117, 105, 108, 116, 105, 110, 73, 109, 112, 111, 114, 116, 101, 114, 46, 103, 101, 116, 95, 99, 111, 100, 101, 35, 111, 112, 97, 113, 117, 101, 6, 197, 10, 103, 101, 116, 95, 115, 111, 117, 114, 99, 101, 9, 51, 95, 102, 114, 111, 122, 101, 110, 95, 105, 109, 112, 111, 114, 116, 108, 105, 98, 46, 66, 117, 105, 108, 116, 105, 110, 73, 109, 112, 111, 114, 116, 101, 114, 46, 103, 101, 116, 95, 115, 111, 117, 114, 99, 101, 35, 111, 112, 97, 113, 117, 101, 6, 198, 10, 105, 115, 95, 112, 97, 99, 107, 97, 103, 101, 9, 51, 95, 102, 114, 111, 122, 101, 110, 95, 105, 109, 112, 111, 114, 116, 108, 105, 98, 46, 66, 117, 105, 108, 116, 105, 110, 73, 109, 112, 111, 114, 116, 101, 114, 46, 105, 115, 95, 112, 97, 99, 107, 97, 103, 101, 35, 111, 112, 97, 113, 117, 101, 6, 199, 11, 108, 111, 97, 100, 95, 109, 111, 100, 117, 108, 101, 9, 52, 95, 102, 114, 111, 122, 101, 110, 95, 105, 109, 112, 111, 114, 116, 108, 105, 98, 46, 66, 117, 105, 108, 116, 105, 110, 73, 109, 112, 111, 114, 116, 101, 114, 46, 108, 111, 97, 100, 95, 109, 111, 100, 117, 108, 101, 35, 111, 112, 97, 113, 117, 101, 6, 200, 21, 95, 95, 115, 116, 97, 116, 105, 99, 95, 97, 116, 116, 114, 105, 98, 117, 116, 101, 115, 95, 95, 4, 0, 0, 15, 6, 202, 8, 95, 95, 100, 105, 99, 116, 95, 95, 4, 0, 0, 16, 6, 204, 11, 95, 95, 119, 101, 97, 107, 114, 101, 102, 95, 95, 4, 0, 0, 17].toArray⟩ 0), (.bool true), (.bool true), (.str "" 205), (.int 21 0), (.str ⟨[6, 227, 10, 95, 95, 109, 111, 100, 117, 108, 101, 95, 95, 6, 217, 17, 95, 102, 114, 111, 122, 101, 110, 95, 105, 109, 112, 111, 114, 116, 108, 105, 98, 6, 228, 15, 95, 95, 102, 105, 114, 115, 116, 108, 105, 110, 101, 110, 111, 95, 95, 4, 218, 0, 562, 6, 229, 7, 95, 95, 100, 111, 99, 95, 95, 9, 47, 95, 102, 114, 111, 122, 101, 110, 95, 105, 109, 112, 111, 114, 116, 108, 105, 98, 46, 77, 111, 100, 117, 108, 101, 83, 112, 101, 99, 46, 95, 95, 100, 111, 99, 95, 95, 58, 115, 116, 114, 35, 111, 112, 97, 113, 117, 101, 6, 230, 8, 95, 95, 105, 110, 105, 116, 95, 95, 9, 44, 95, 102, 114, 111, 122, 101, 110, 95, 105, 109, 112, 111, 114, 116, 108, 105, 98, 46, 77, 111, 100, 117, 108, 101, 83, 112, 101, 99, 46, 95, 95, 105, 110, 105, 116, 95, 95, 35, 111, 112, 97, 113, 117, 101, 6, 231, 8, 95, 95, 114, 101, 112, 114, 95, 95, 9, 44, 95, 102, 114, 111, 122, 101, 110, 95, 105, 109, 112, 111, 114, 116, 108, 105, 98, 46, 77, 111, 100, 117, 108, 101, 83, 112, 101, 99, 46, 95, 95, 114, 101, 112, 114, 95, 95, 35, 111, 112, 97, 113, 117, 101, 6, 232, 6, 95, 95, 101, 113, 95, 95, 9, 42, 95, 102, 114, 111, 122, 101, 110, 95, 105, 109, 112, 111, 114, 116, 108, 105, 98, 46, 77, 111, 100, 117, 108, 101, 83, 112, 101, 99, 46, 95, 95, 101, 113, 95, 95, 35, 111, 112, 97, 113, 117, 101, 6, 233, 6, 99, 97, 99, 104, 101, 100, 9, 42, 95, 102, 114, 111, 122, 101, 110, 95, 105, 109, 112, 111, 114, 116, 108, 105, 98, 46, 77, 111, 100, 117, 108, 101, 83, 112, 101, 99, 46, 99, 97, 99, 104, 101, 100, 35, 111, 112, 97, 113, 117, 101, 6, 234, 6, 112, 97, 114, 101, 110, 116, 9, 42, 95, 102, 114, 111, 122, 101, 110, 95, 105, 109, 112, 111, 114, 116, 108, 105, 98, 46, 77, 111, 100, 117, 108, 101, 83, 112, 101, 99, 46, 112, 97, 114, 101, 110, 116, 35, 111, 112, 97, 113, 117, 101, 6, 235, 12, 104, 97, 115, 95, 108, 111, 99, 97, 116, 105, 111, 110, 9, 48, 95, 102, 114, 111, 122, 101, 110, 95, 105, 109, 112, 111, 114, 116, 108, 105, 98, 46, 77, 111, 100, 117, 108, 101, 83, 112, 101, 99, 46, 104, 97, 115, 95, 108, 111, 99, 97, 116, 105, 111, 110, 35, 111, 112, 97, 113, 117, 101, 6, 236, 21, 95, 95, 115, 116, 97, 116, 105, 99, 95, 97, 116, 116, 114, 105, 98, 117, 116, 101, 115, 95, 95, 4, 0, 0, 23, 6, 238, 8, 95, 95, 100, 105, 99, 116, 95, 95, 4, 0, 0, 24, 6, 240, 11, 95, 95, 119, 101, 97, 107, 114, 101, 102, 95, 95, 4, 0, 0, 25, 6, 241, 8, 95, 95, 104, 97, 115, 104, 95, 95, 0].toArray⟩ 0), (.bool true), (.bool true), (.str "" 242)].toArray 1, [].toArray⟩
noncomputable def ho18 (P : Params) : Obj := ⟨(.type "list"), none, .seq [].toArray 0, [].toArray⟩
noncomputable def ho19 (P : Params) : Obj := ⟨(.type "dict"), none, .dict [⟨PyData.keyHash P "name", (.str "name" 208), (.str "_sre" 207)⟩,
    ⟨PyData.keyHash P "loader", (.str "loader" 209), (.ref 14)⟩,
    ⟨PyData.keyHash P "origin", (.str "origin" 210), (.str "built-in" 184)⟩,
    ⟨PyData.keyHash P "loader_state", (.str "loader_state" 211), .none⟩,
    ⟨PyData.keyHash P "submodule_search_locations", (.str "submodule_search_locations" 212), .none⟩,
    ⟨PyData.keyHash P "_uninitialized_submodules", (.str "_uninitialized_submodules" 213), (.ref 19)⟩,
    ⟨PyData.keyHash P "_set_fileattr", (.str "_set_fileattr" 214), (.bool false)⟩,
    ⟨PyData.keyHash P "_cached", (.str "_cached" 215), .none⟩,
    ⟨PyData.keyHash P "_initializing", (.str "_initializing" 243), (.bool false)⟩].toArray 9, [].toArray⟩
noncomputable def ho20 (P : Params) : Obj := ⟨(.type "dict"), none, .dict [⟨PyData.keyHash P "__module__", (.str "__module__" 227), (.str "_frozen_importlib" 217)⟩,
    ⟨PyData.keyHash P "__firstlineno__", (.str "__firstlineno__" 228), (.int 562 218)⟩,
    ⟨PyData.keyHash P "__doc__", (.str "__doc__" 229), (.builtin "_frozen_importlib.ModuleSpec.__doc__:str#opaque")⟩,
    ⟨PyData.keyHash P "__init__", (.str "__init__" 230), (.builtin "_frozen_importlib.ModuleSpec.__init__#opaque")⟩,
    ⟨PyData.keyHash P "__repr__", (.str "__repr__" 231), (.builtin "_frozen_importlib.ModuleSpec.__repr__#opaque")⟩,
    ⟨PyData.keyHash P "__eq__", (.str "__eq__" 232), (.builtin "_frozen_importlib.ModuleSpec.__eq__#opaque")⟩,
    ⟨PyData.keyHash P "cached", (.str "cached" 233), (.builtin "_frozen_importlib.ModuleSpec.cached#opaque")⟩,
    ⟨PyData.keyHash P "parent", (.str "parent" 234), (.builtin "_frozen_importlib.ModuleSpec.parent#opaque")⟩,
    ⟨PyData.keyHash P "has_location", (.str "has_location" 235), (.builtin "_frozen_importlib.ModuleSpec.has_location#opaque")⟩,
    ⟨PyData.keyHash P "__static_attributes__", (.str "__static_attributes__" 236), (.ref 23)⟩,
    ⟨PyData.keyHash P "__dict__", (.str "__dict__" 238), (.ref 24)⟩,
    ⟨PyData.keyHash P "__weakref__", (.str "__weakref__" 240), (.ref 25)⟩,
    ⟨PyData.keyHash P "__hash__", (.str "__hash__" 241), .none⟩].toArray 13, [].toArray⟩
noncomputable def ho21 (P : Params) : Obj := ⟨(.type "type"), none, .cls { name := "ModuleSpec", bases := [(.type "object")], mro := [(.ref 22), (.type "object")], ns := 21, qualname := "ModuleSpec", hasDict := true, slotNames := [], subclasses := [], abstract := false, collection := none, hasDel := false }, [].toArray⟩
noncomputable def ho22 (P : Params) : Obj := ⟨(.type "tuple"), none, .seq [(.str "_cached" 219), (.str "_set_fileattr" 220), (.str "_uninitialized_submodules" 221), (.str "loader" 222), (.str "loader_state" 223), (.str "name" 224), (.str "origin" 225), (.str "submodule_search_locations" 226)].toArray 0, [].toArray⟩
noncomputable def ho23 (P : Params) : Obj := ⟨(.type "getset_descriptor"), none, .fields [(.str "__dict__" 237), (.ref 22), (.builtin "function.__dict__"), (.builtin "function.__dict__#set")].toArray, [].toArray⟩
noncomputable def ho24 (P : Params) : Obj := ⟨(.type "getset_descriptor"), none, .fields [(.str "__weakref__" 239), (.ref 22), (.builtin "ExceptionGroup.__weakref__"), .none].toArray, [].toArray⟩
noncomputable def ho25 (P : Params) : Obj := ⟨(.ref 22), (some 20), .plain, [].toArray⟩
noncomputable def ho26 (P : Params) : Obj := ⟨.none, none, .seq [(.int 11 0), (.str ⟨[6, 247, 8, 95, 95, 110, 97, 109, 101, 95, 95, 6, 246, 4, 95, 115, 114, 101, 6, 248, 7, 95, 95, 100, 111, 99, 95, 95, 0, 6, 250, 11, 95, 95, 112, 97, 99, 107, 97, 103, 101, 95, 95, 6, 249, 0, 6, 251, 10, 95, 95, 108, 111, 97, 100, 101, 114, 95, 95, 4, 0, 0, 14, 6, 252, 8, 95, 95, 115, 112, 101, 99, 95, 95, 4, 0, 0, 26, 6, 253, 7, 99, 111, 109, 112, 105, 108, 101, 9, 12, 95, 115, 114, 101, 46, 99, 111, 109, 112, 105, 108, 101, 6, 254, 8, 116, 101, 109, 112, 108, 97, 116, 101, 9, 13, 95, 115, 114, 101, 46, 116, 101, 109, 112, 108, 97, 116, 101, 6, 255, 11, 103, 101, 116, 99, 111, 100, 101, 115, 105, 122, 101, 9, 16, 95, 115, 114, 101, 46, 103, 101, 116, 99, 111, 100, 101, 115, 105, 122, 101, 6, 256, 13, 97, 115, 99, 105, 105, 95, 105, 115, 99, 97, 115, 101, 100, 9, 18, 95, 115, 114, 101, 46, 97, 115, 99, 105, 105, 95, 105, 115, 99, 97, 115, 101, 100, 6, 257, 15, 117, 110, 105, 99, 111, 100, 101, 95, 105, 115, 99, 97, 115, 101, 100, 9, 20, 95, 115, 114, 101, 46, 117, 110, 105, 99, 111, 100, 101, 95, 105, 115, 99, 97, 115, 101, 100, 6, 258, 13, 97, 115, 99, 105, 105, 95, 116, 111, 108, 111, 119, 101, 114, 9, 18, 95, 115, 114, 101, 46, 97, 115, 99, 105, 105, 95, 116, 111, 108, 111, 119, 101, 114, 6, 259, 15, 117, 110, 105, 99, 111, 100, 101, 95, 116, 111, 108, 111, 119, 101, 114, 9, 20, 95, 115, 114, 101, 46, 117, 110, 105, 99, 111, 100, 101, 95, 116, 111, 108, 111, 119, 101, 114, 6, 261, 5, 77, 65, 71, 73, 67, 4, 260, 0, 20230612, 6, 263, 8, 67, 79, 68, 69, 83, 73, 90, 69, 4, 262, 0, 4, 6, 265, 9, 77, 65, 88, 82, 69, 80, 69, 65, 84, 4, 264, 0, 4294967295, 6, 267, 9, 77, 65, 88, 71, 82, 79, 85, 80, 83, 4, 266, 0, 1073741823, 6, 269, 9, 99, 111, 112, 121, 114, 105, 103, 104, 116, 6, 268, 53, 32, 83, 82, 69, 32, 50, 46, 50, 46, 50, 32, 67, 111, 112, 121, 114, 105, 103, 104, 116, 32, 40, 99, 41, 32, 49, 57, 57, 55, 45, 50, 48, 48, 50, 32, 98, 121, 32, 83, 101, 99, 114, 101, 116, 32, 76, 97, 98, 115, 32, 65, 66, 32].toArray⟩ 0), (.bool true), (.bool false), (.str "_sre" 271)].toArray 0, [].toArray⟩
noncomputable def ho27 (P : Params) : Obj := ⟨(.type "code"), none, .fields [(.str "<module>" 277), (.str "<module>" 278), (.str "/claim/cut.py" 279), (.int 1 0), (.int 0 0), (.int 0 0), (.int 0 0), (.int 0 0), (.ref 28), (.bool false), (.int 276 0), (.ref 29), .none, .none, .none, .none, (.int 280 0), (.int 1 0), (.str "/claim/cut.py" 281)].toArray, [].toArray⟩
noncomputable def ho28 (P : Params) : Obj := ⟨(.type "frame"), none, .plain, [(some (.ref 30)), (some (.ref 3)), (some (.ref 3)), none, (some (.str "__main__" 164)), none, (some (.ref 0))].toArray⟩
noncomputable def ho29 (P : Params) : Obj := ⟨(.type "dict"), none, .dict [⟨PyData.keyHash P "__name__", (.str "__name__" 165), (.str "re" 367)⟩,
    ⟨PyData.keyHash P "__doc__", (.str "__doc__" 166), .none⟩,
    ⟨PyData.keyHash P "__package__", (.str "__package__" 167), .none⟩,
    ⟨PyData.keyHash P "__loader__", (.str "__loader__" 168), (.builtin "__main__.__loader__#opaque")⟩,
    ⟨PyData.keyHash P "__spec__", (.str "__spec__" 169), .none⟩,
    ⟨PyData.keyHash P "__annotations__", (.str "__annotations__" 170), (.ref 6)⟩,
    ⟨PyData.keyHash P "__builtins__", (.str "__builtins__" 171), (.ref 4)⟩,
    ⟨PyData.keyHash P "__file__", (.str "__file__" 173), (.str "/claim/cut.py" 172)⟩,
    ⟨PyData.keyHash P "__cached__", (.str "__cached__" 174), .none⟩,
    ⟨PyData.keyHash P "_sre", (.str "_sre" 275), (.ref 12)⟩,
    ⟨PyData.keyHash P "StatisticsError", (.str "StatisticsError" 301), (.ref 41)⟩,
    ⟨PyData.keyHash P "median_low", (.str "median_low" 309), (.ref 51)⟩,
    ⟨PyData.keyHash P "median_high", (.str "median_high" 317), (.ref 58)⟩,
    ⟨PyData.keyHash P "_twin_re_1", (.str "_twin_re_1" 357), (.ref 63)⟩,
    ⟨PyData.keyHash P "translate", (.str "translate" 366), (.ref 70)⟩].toArray 15, [].toArray⟩
noncomputable def ho30 (P : Params) : Obj := ⟨.none, none, .fields [(.int 3 0), (.int 0 0), (.ref 37), (.int 5 0), (.int 0 0), (.ref 50), (.int 14 0), (.int 0 0), (.ref 57), (.int 22 0), (.int 0 0), (.ref 69)].toArray, [].toArray⟩
noncomputable def ho31 (P : Params) : Obj := ⟨(.type "tuple"), none, .seq [(.type "ValueError")].toArray 0, [].toArray⟩
noncomputable def ho32 (P : Params) : Obj := ⟨(.type "builtin_function_or_method"), none, .fields [(.builtin "type.__prepare__"), (.type "type")].toArray, [].toArray⟩
noncomputable def ho33 (P : Params) : Obj := ⟨(.type "dict"), none, .dict [⟨PyData.keyHash P "__module__", (.str "__module__" 291), (.str "cpy313.statistics" 282)⟩,
    ⟨PyData.keyHash P "__qualname__", (.str "__qualname__" 293), (.str "StatisticsError" 292)⟩,
    ⟨PyData.keyHash P "__firstlineno__", (.str "__firstlineno__" 295), (.int 3 294)⟩,
    ⟨PyData.keyHash P "__static_attributes__", (.str "__static_attributes__" 296), (.ref 39)⟩].toArray 4, [].toArray⟩
noncomputable def ho34 (P : Params) : Obj := ⟨(.type "code"), none, .fields [(.str "StatisticsError" 286), (.str "StatisticsError" 287), (.str "/claim/cut.py" 288), (.int 3 0), (.int 0 0), (.int 0 0), (.int 0 0), (.int 0 0), (.ref 35), (.bool false), (.int 276 0), (.ref 36), .none, .none, .none, .none, (.int 289 0), (.int 3 0), (.str "/claim/cut.py" 290)].toArray, [].toArray⟩
noncomputable def ho35 (P : Params) : Obj := ⟨(.type "frame"), none, .plain, [(some (.ref 37)), (some (.ref 3)), (some (.ref 34)), none, (some (.str "cpy313.statistics" 282)), none, (some (.ref 0))].toArray⟩
noncomputable def ho36 (P : Params) : Obj := ⟨(.type "dict"), none, .dict [⟨PyData.keyHash P "__module__", (.str "__module__" 291), (.str "cpy313.statistics" 282)⟩,
    ⟨PyData.keyHash P "__firstlineno__", (.str "__firstlineno__" 295), (.int 3 294)⟩,
    ⟨PyData.keyHash P "__static_attributes__", (.str "__static_attributes__" 296), (.ref 39)⟩,
    ⟨PyData.keyHash P "__weakref__", (.str "__weakref__" 298), (.ref 42)⟩,
    ⟨PyData.keyHash P "__doc__", (.str "__doc__" 299), .none⟩].toArray 3, [].toArray⟩
noncomputable def ho37 (P : Params) : Obj := ⟨(.type "type"), none, .cls { name := "StatisticsError", bases := [(.type "ValueError")], mro := [(.ref 41), (.type "ValueError"), (.type "Exception"), (.type "BaseException"), (.type "object")], ns := 40, qualname := "StatisticsError", hasDict := true, slotNames := [], subclasses := [], abstract := false, collection := none, hasDel := false }, [(some (.ref 32)), none, (some (.str "StatisticsError" 284)), (some (.str "StatisticsError" 292)), (some (.builtin "ValueError.__new__")), (some (.bool true))].toArray⟩
noncomputable def ho38 (P : Params) : Obj := ⟨(.type "getset_descriptor"), none, .fields [(.str "__weakref__" 297), (.ref 41), (.builtin "ExceptionGroup.__weakref__"), .none].toArray, [].toArray⟩
noncomputable def ho39 (P : Params) : Obj := ⟨(.type "super"), none, .fields [(.ref 41), (.ref 41), (.ref 41)].toArray, [].toArray⟩
noncomputable def ho40 (P : Params) : Obj := ⟨(.type "builtin_function_or_method"), none, .fields [(.builtin "object.__init_subclass__"), (.ref 41)].toArray, [].toArray⟩
noncomputable def ho41 (P : Params) : Obj := ⟨(.type "tuple"), none, .seq [(.str "data" 305), (.str "n" 306)].toArray 0, [].toArray⟩
noncomputable def ho42 (P : Params) : Obj := ⟨.none, none, .func { name := "median_low", qualname := "median_low", params := fp3, body := .stmts fb3, scope := fs3, globals := 0, closure := [], defaults := .none, kwdefaults := .none, doc := .none, pyModule := .none, annotations := none, code := .none, closureTuple := .none, builtins := 0 }, [].toArray⟩
noncomputable def ho43 (P : Params) : Obj := ⟨(.type "code"), none, .fields [(.str "median_low" 302), (.str "median_low" 303), (.str "/claim/cut.py" 304), (.int 5 0), (.int 1 0), (.int 0 0), (.int 0 0), (.int 3 0), (.ref 45), (.bool true), (.int 276 0), (.ref 46), .none, (.ref 47), (.ref 48), (.ref 49), (.int 307 0), (.int 5 0), (.str "/claim/cut.py" 308)].toArray, [].toArray⟩
noncomputable def ho44 (P : Params) : Obj := ⟨(.type "function"), none, .func { name := "median_low", qualname := "median_low", params := fp3, body := .stmts fb3, scope := fs3, globals := 3, closure := [], defaults := .none, kwdefaults := .none, doc := .none, pyModule := (.str "cpy313.statistics" 282), annotations := none, code := (.ref 50), closureTuple := .none, builtins := 0 }, [].toArray⟩
noncomputable def ho45 (P : Params) : Obj := ⟨(.type "tuple"), none, .seq [(.str "data" 313), (.str "n" 314)].toArray 0, [].toArray⟩
noncomputable def ho46 (P : Params) : Obj := ⟨.none, none, .func { name := "median_high", qualname := "median_high", params := fp4, body := .stmts fb4, scope := fs4, globals := 0, closure := [], defaults := .none, kwdefaults := .none, doc := .none, pyModule := .none, annotations := none, code := .none, closureTuple := .none, builtins := 0 }, [].toArray⟩
noncomputable def ho47 (P : Params) : Obj := ⟨(.type "code"), none, .fields [(.str "median_high" 310), (.str "median_high" 311), (.str "/claim/cut.py" 312), (.int 14 0), (.int 1 0), (.int 0 0), (.int 0 0), (.int 3 0), (.ref 52), (.bool true), (.int 276 0), (.ref 53), .none, (.ref 54), (.ref 55), (.ref 56), (.int 315 0), (.int 14 0), (.str "/claim/cut.py" 316)].toArray, [].toArray⟩
noncomputable def ho48 (P : Params) : Obj := ⟨(.type "function"), none, .func { name := "median_high", qualname := "median_high", params := fp4, body := .stmts fb4, scope := fs4, globals := 3, closure := [], defaults := .none, kwdefaults := .none, doc := .none, pyModule := (.str "cpy313.statistics" 282), annotations := none, code := (.ref 57), closureTuple := .none, builtins := 0 }, [].toArray⟩
noncomputable def ho49 (P : Params) : Obj := ⟨(.type "list"), none, .seq [(.int 14 323), (.int 14 324), (.int 4 325), (.int 1 326), (.int 1 327), (.int 9 328), (.int 0 329), (.int 64 330), (.int 0 331), (.int 1342177280 332), (.int 0 333), (.int 0 334), (.int 0 335), (.int 0 336), (.int 0 337), (.int 17 338), (.int 0 339), (.int 13 340), (.int 11 341), (.int 9 342), (.int 0 343), (.int 64 344), (.int 0 345), (.int 1342177280 346), (.int 0 347), (.int 0 348), (.int 0 349), (.int 0 350), (.int 0 351), (.int 17 352), (.int 1 353), (.int 1 354)].toArray 0, [].toArray⟩
noncomputable def ho50 (P : Params) : Obj := ⟨(.type "tuple"), none, .seq [.none, .none].toArray 0, [].toArray⟩
noncomputable def ho51 (P : Params) : Obj := ⟨(.type "tuple"), none, .seq [(.int 14 0), (.int 14 0), (.int 4 0), (.int 1 0), (.int 1 0), (.int 9 0), (.int 0 0), (.int 64 0), (.int 0 0), (.int 1342177280 0), (.int 0 0), (.int 0 0), (.int 0 0), (.int 0 0), (.int 0 0), (.int 17 0), (.int 0 0), (.int 13 0), (.int 11 0), (.int 9 0), (.int 0 0), (.int 64 0), (.int 0 0), (.int 1342177280 0), (.int 0 0), (.int 0 0), (.int 0 0), (.int 0 0), (.int 0 0), (.int 17 0), (.int 1 0), (.int 1 0)].toArray 0, [].toArray⟩
noncomputable def ho52 (P : Params) : Obj := ⟨(.type "re.Pattern"), none, .fields [(.str "([&~|])" 321), (.int 32 356), (.int 1 0), .none, .none, (.ref 62), (.int 0 0)].toArray, [].toArray⟩
noncomputable def ho53 (P : Params) : Obj := ⟨(.type "tuple"), none, .seq [(.str "pat" 361), (.str "STAR" 362), (.str "parts" 363)].toArray 0, [].toArray⟩
noncomputable def ho54 (P : Params) : Obj := ⟨.none, none, .func { name := "translate", qualname := "translate", params := fp7, body := .stmts fb7, scope := fs7, globals := 0, closure := [], defaults := .none, kwdefaults := .none, doc := .none, pyModule := .none, annotations := none, code := .none, closureTuple := .none, builtins := 0 }, [].toArray⟩
noncomputable def ho55 (P : Params) : Obj := ⟨(.type "code"), none, .fields [(.str "translate" 358), (.str "translate" 359), (.str "/claim/cut.py" 360), (.int 22 0), (.int 1 0), (.int 0 0), (.int 0 0), (.int 3 0), (.ref 64), (.bool true), (.int 276 0), (.ref 65), .none, (.ref 66), (.ref 67), (.ref 68), (.int 364 0), (.int 22 0), (.str "/claim/cut.py" 365)].toArray, [].toArray⟩
noncomputable def ho56 (P : Params) : Obj := ⟨(.type "function"), none, .func { name := "translate", qualname := "translate", params := fp7, body := .stmts fb7, scope := fs7, globals := 3, closure := [], defaults := .none, kwdefaults := .none, doc := .none, pyModule := (.str "cpy313.fnmatch" 318), annotations := none, code := (.ref 69), closureTuple := .none, builtins := 0 }, [].toArray⟩
noncomputable def ho57 (P : Params) : Obj := ⟨(.type "dict"), none, .dict [⟨PyData.keyHash P "__name__", (.str "__name__" 165), (.str "re" 367)⟩,
    ⟨PyData.keyHash P "__doc__", (.str "__doc__" 166), .none⟩,
    ⟨PyData.keyHash P "__package__", (.str "__package__" 167), .none⟩,
    ⟨PyData.keyHash P "__loader__", (.str "__loader__" 168), (.builtin "__main__.__loader__#opaque")⟩,
    ⟨PyData.keyHash P "__spec__", (.str "__spec__" 169), .none⟩,
    ⟨PyData.keyHash P "__annotations__", (.str "__annotations__" 170), (.ref 6)⟩,
    ⟨PyData.keyHash P "__builtins__", (.str "__builtins__" 171), (.ref 4)⟩,
    ⟨PyData.keyHash P "__file__", (.str "__file__" 173), (.str "/claim/cut.py" 172)⟩,
    ⟨PyData.keyHash P "__cached__", (.str "__cached__" 174), .none⟩,
    ⟨PyData.keyHash P "_sre", (.str "_sre" 275), (.ref 12)⟩,
    ⟨PyData.keyHash P "StatisticsError", (.str "StatisticsError" 301), (.ref 41)⟩,
    ⟨PyData.keyHash P "median_low", (.str "median_low" 309), (.ref 51)⟩,
    ⟨PyData.keyHash P "median_high", (.str "median_high" 317), (.ref 58)⟩,
    ⟨PyData.keyHash P "_twin_re_1", (.str "_twin_re_1" 357), (.ref 63)⟩,
    ⟨PyData.keyHash P "translate", (.str "translate" 366), (.ref 70)⟩,
    ⟨PyData.keyHash P "_special_chars_map", (.str "_special_chars_map" 514), (.ref 72)⟩].toArray 16, [].toArray⟩
noncomputable def ho58 (P : Params) : Obj := ⟨(.type "bytes_iterator"), none, .fields [.none, (.int 24 0)].toArray, [].toArray⟩
noncomputable def ho59 (P : Params) : Obj := ⟨(.type "dict"), none, .dict [⟨40, (.int 40 370), (.str "\\(" 374)⟩,
    ⟨41, (.int 41 376), (.str "\\)" 380)⟩,
    ⟨91, (.int 91 382), (.str "\\[" 386)⟩,
    ⟨93, (.int 93 388), (.str "\\]" 392)⟩,
    ⟨123, (.int 123 394), (.str "\\{" 398)⟩,
    ⟨125, (.int 125 400), (.str "\\}" 404)⟩,
    ⟨63, (.int 63 406), (.str "\\?" 410)⟩,
    ⟨42, (.int 42 412), (.str "\\*" 416)⟩,
    ⟨43, (.int 43 418), (.str "\\+" 422)⟩,
    ⟨45, (.int 45 424), (.str "\\-" 428)⟩,
    ⟨124, (.int 124 430), (.str "\\|" 434)⟩,
    ⟨94, (.int 94 436), (.str "\\^" 440)⟩,
    ⟨36, (.int 36 442), (.str "\\$" 446)⟩,
    ⟨92, (.int 92 448), (.str "\\\\" 452)⟩,
    ⟨46, (.int 46 454), (.str "\\." 458)⟩,
    ⟨38, (.int 38 460), (.str "\\&" 464)⟩,
    ⟨126, (.int 126 466), (.str "\\~" 470)⟩,
    ⟨35, (.int 35 472), (.str "\\#" 476)⟩,
    ⟨32, (.int 32 478), (.str "\\ " 482)⟩,
    ⟨9, (.int 9 484), (.str ⟨[92, 9].toArray⟩ 488)⟩,
    ⟨10, (.int 10 490), (.str ⟨[92, 10].toArray⟩ 494)⟩,
    ⟨13, (.int 13 496), (.str ⟨[92, 13].toArray⟩ 500)⟩,
    ⟨11, (.int 11 502), (.str ⟨[92, 11].toArray⟩ 506)⟩,
    ⟨12, (.int 12 508), (.str ⟨[92, 12].toArray⟩ 512)⟩].toArray 24, [].toArray⟩
noncomputable def ho60 (P : Params) : Obj := ⟨(.type "dict"), none, .dict [].toArray 2, [].toArray⟩
noncomputable def ho61 (P : Params) : Obj := ⟨(.type "StopIteration"), none, .fields [(.ref 74), .none, .none, .none, (.bool false), .none].toArray, [].toArray⟩
noncomputable def ho62 (P : Params) : Obj := ⟨(.type "dict"), none, .dict [⟨PyData.keyHash P "__name__", (.str "__name__" 165), (.str "law_in0253_01" 647)⟩,
    ⟨PyData.keyHash P "__doc__", (.str "__doc__" 166), .none⟩,
    ⟨PyData.keyHash P "__package__", (.str "__package__" 167), .none⟩,
    ⟨PyData.keyHash P "__loader__", (.str "__loader__" 168), (.builtin "__main__.__loader__#opaque")⟩,
    ⟨PyData.keyHash P "__spec__", (.str "__spec__" 169), .none⟩,
    ⟨PyData.keyHash P "__annotations__", (.str "__annotations__" 170), (.ref 6)⟩,
    ⟨PyData.keyHash P "__builtins__", (.str "__builtins__" 171), (.ref 4)⟩,
    ⟨PyData.keyHash P "__file__", (.str "__file__" 173), (.str "/claim/cut.py" 172)⟩,
    ⟨PyData.keyHash P "__cached__", (.str "__cached__" 174), .none⟩,
    ⟨PyData.keyHash P "_sre", (.str "_sre" 275), (.ref 12)⟩,
    ⟨PyData.keyHash P "StatisticsError", (.str "StatisticsError" 301), (.ref 41)⟩,
    ⟨PyData.keyHash P "median_low", (.str "median_low" 309), (.ref 51)⟩,
    ⟨PyData.keyHash P "median_high", (.str "median_high" 317), (.ref 58)⟩,
    ⟨PyData.keyHash P "_twin_re_1", (.str "_twin_re_1" 357), (.ref 63)⟩,
    ⟨PyData.keyHash P "translate", (.str "translate" 366), (.ref 70)⟩,
    ⟨PyData.keyHash P "_special_chars_map", (.str "_special_chars_map" 514), (.ref 72)⟩,
    ⟨PyData.keyHash P "escape", (.str "escape" 521), (.ref 82)⟩,
    ⟨PyData.keyHash P "_translate", (.str "_translate" 542), (.ref 89)⟩,
    ⟨PyData.keyHash P "_join_translated_parts", (.str "_join_translated_parts" 555), (.ref 96)⟩,
    ⟨PyData.keyHash P "S_IFMT", (.str "S_IFMT" 564), (.ref 103)⟩,
    ⟨PyData.keyHash P "S_IFDIR", (.str "S_IFDIR" 566), (.int 16384 565)⟩,
    ⟨PyData.keyHash P "S_IFCHR", (.str "S_IFCHR" 568), (.int 8192 567)⟩,
    ⟨PyData.keyHash P "S_IFBLK", (.str "S_IFBLK" 570), (.int 24576 569)⟩,
    ⟨PyData.keyHash P "S_IFREG", (.str "S_IFREG" 572), (.int 32768 571)⟩,
    ⟨PyData.keyHash P "S_IFIFO", (.str "S_IFIFO" 574), (.int 4096 573)⟩,
    ⟨PyData.keyHash P "S_IFLNK", (.str "S_IFLNK" 576), (.int 40960 575)⟩,
    ⟨PyData.keyHash P "S_IFSOCK", (.str "S_IFSOCK" 578), (.int 49152 577)⟩,
    ⟨PyData.keyHash P "S_ISUID", (.str "S_ISUID" 580), (.int 2048 579)⟩,
    ⟨PyData.keyHash P "S_ISGID", (.str "S_ISGID" 582), (.int 1024 581)⟩,
    ⟨PyData.keyHash P "S_ISVTX", (.str "S_ISVTX" 584), (.int 512 583)⟩,
    ⟨PyData.keyHash P "S_IRWXU", (.str "S_IRWXU" 586), (.int 448 585)⟩,
    ⟨PyData.keyHash P "S_IRUSR", (.str "S_IRUSR" 588), (.int 256 587)⟩,
    ⟨PyData.keyHash P "S_IWUSR", (.str "S_IWUSR" 590), (.int 128 589)⟩,
    ⟨PyData.keyHash P "S_IXUSR", (.str "S_IXUSR" 592), (.int 64 591)⟩,
    ⟨PyData.keyHash P "S_IRWXG", (.str "S_IRWXG" 594), (.int 56 593)⟩,
    ⟨PyData.keyHash P "S_IRGRP", (.str "S_IRGRP" 596), (.int 32 595)⟩,
    ⟨PyData.keyHash P "S_IWGRP", (.str "S_IWGRP" 598), (.int 16 597)⟩,
    ⟨PyData.keyHash P "S_IXGRP", (.str "S_IXGRP" 600), (.int 8 599)⟩,
    ⟨PyData.keyHash P "S_IRWXO", (.str "S_IRWXO" 602), (.int 7 601)⟩,
    ⟨PyData.keyHash P "S_IROTH", (.str "S_IROTH" 604), (.int 4 603)⟩,
    ⟨PyData.keyHash P "S_IWOTH", (.str "S_IWOTH" 606), (.int 2 605)⟩,
    ⟨PyData.keyHash P "S_IXOTH", (.str "S_IXOTH" 608), (.int 1 607)⟩,
    ⟨PyData.keyHash P "_filemode_table", (.str "_filemode_table" 634), (.ref 136)⟩,
    ⟨PyData.keyHash P "filemode", (.str "filemode" 646), (.ref 143)⟩,
    ⟨PyData.keyHash P "_law_number", (.str "_law_number" 657), (.ref 150)⟩,
    ⟨PyData.keyHash P "_law_back", (.str "_law_back" 667), (.ref 157)⟩,
    ⟨PyData.keyHash P "_law_pattern", (.str "_law_pattern" 676), (.ref 164)⟩,
    ⟨PyData.keyHash P "_law_read", (.str "_law_read" 686), (.ref 171)⟩,
    ⟨PyData.keyHash P "_law_pads", (.str "_law_pads" 696), (.ref 178)⟩,
    ⟨PyData.keyHash P "_law_signs", (.str "_law_signs" 702), (.ref 183)⟩,
    ⟨PyData.keyHash P "_law_taken", (.str "_law_taken" 708), (.ref 188)⟩,
    ⟨PyData.keyHash P "law", (.str "law" 714), (.ref 193)⟩].toArray 52, [].toArray⟩
noncomputable def ho63 (P : Params) : Obj := ⟨.none, none, .fields [(.int 3 0), (.int 0 0), (.ref 37), (.int 5 0), (.int 0 0), (.ref 50), (.int 14 0), (.int 0 0), (.ref 57), (.int 22 0), (.int 0 0), (.ref 69), (.int 28 0), (.int 0 0), (.ref 81), (.int 35 0), (.int 0 0), (.ref 88), (.int 97 0), (.int 0 0), (.ref 95), (.int 125 0), (.int 0 0), (.ref 102), (.int 150 0), (.int 0 0), (.ref 142), (.int 168 0), (.int 0 0), (.ref 149), (.int 170 0), (.int 0 0), (.ref 156), (.int 180 0), (.int 0 0), (.ref 163), (.int 184 0), (.int 0 0), (.ref 170), (.int 202 0), (.int 0 0), (.ref 177), (.int 204 0), (.int 0 0), (.ref 182), (.int 206 0), (.int 0 0), (.ref 187), (.int 208 0), (.int 0 0), (.ref 192)].toArray, [].toArray⟩
noncomputable def ho64 (P : Params) : Obj := ⟨(.type "tuple"), none, .seq [(.str "pattern" 518)].toArray 0, [].toArray⟩
noncomputable def ho65 (P : Params) : Obj := ⟨.none, none, .func { name := "escape", qualname := "escape", params := fp10, body := .stmts fb10, scope := fs10, globals := 0, closure := [], defaults := .none, kwdefaults := .none, doc := .none, pyModule := .none, annotations := none, code := .none, closureTuple := .none, builtins := 0 }, [].toArray⟩
noncomputable def ho66 (P : Params) : Obj := ⟨(.type "code"), none, .fields [(.str "escape" 515), (.str "escape" 516), (.str "/claim/cut.py" 517), (.int 28 0), (.int 1 0), (.int 0 0), (.int 0 0), (.int 3 0), (.ref 76), (.bool true), (.int 276 0), (.ref 77), .none, (.ref 78), (.ref 79), (.ref 80), (.int 519 0), (.int 28 0), (.str "/claim/cut.py" 520)].toArray, [].toArray⟩
noncomputable def ho67 (P : Params) : Obj := ⟨(.type "function"), none, .func { name := "escape", qualname := "escape", params := fp10, body := .stmts fb10, scope := fs10, globals := 3, closure := [], defaults := .none, kwdefaults := .none, doc := .none, pyModule := (.str "re" 367), annotations := none, code := (.ref 81), closureTuple := .none, builtins := 0 }, [].toArray⟩
noncomputable def ho68 (P : Params) : Obj := ⟨(.type "tuple"), none, .seq [(.str "pat" 527), (.str "STAR" 528), (.str "QUESTION_MARK" 529), (.str "res" 530), (.str "add" 531), (.str "i" 532), (.str "n" 533), (.str "c" 534), (.str "j" 535), (.str "stuff" 536), (.str "chunks" 537), (.str "k" 538), (.str "chunk" 539)].toArray 0, [].toArray⟩
noncomputable def ho69 (P : Params) : Obj := ⟨.none, none, .func { name := "_translate", qualname := "_translate", params := fp12, body := .stmts fb12, scope := fs12, globals := 0, closure := [], defaults := .none, kwdefaults := .none, doc := .none, pyModule := .none, annotations := none, code := .none, closureTuple := .none, builtins := 0 }, [].toArray⟩
noncomputable def ho70 (P : Params) : Obj := ⟨(.type "code"), none, .fields [(.str "_translate" 524), (.str "_translate" 525), (.str "/claim/cut.py" 526), (.int 35 0), (.int 3 0), (.int 0 0), (.int 0 0), (.int 3 0), (.ref 83), (.bool true), (.int 276 0), (.ref 84), .none, (.ref 85), (.ref 86), (.ref 87), (.int 540 0), (.int 35 0), (.str "/claim/cut.py" 541)].toArray, [].toArray⟩
noncomputable def ho71 (P : Params) : Obj := ⟨(.type "function"), none, .func { name := "_translate", qualname := "_translate", params := fp12, body := .stmts fb12, scope := fs12, globals := 3, closure := [], defaults := .none, kwdefaults := .none, doc := .none, pyModule := (.str "cpy313.fnmatch" 522), annotations := none, code := (.ref 88), closureTuple := .none, builtins := 0 }, [].toArray⟩
noncomputable def ho72 (P : Params) : Obj := ⟨(.type "tuple"), none, .seq [(.str "inp" 546), (.str "STAR" 547), (.str "res" 548), (.str "add" 549), (.str "i" 550), (.str "n" 551), (.str "fixed" 552)].toArray 0, [].toArray⟩
noncomputable def ho73 (P : Params) : Obj := ⟨.none, none, .func { name := "_join_translated_parts", qualname := "_join_translated_parts", params := fp13, body := .stmts fb13, scope := fs13, globals := 0, closure := [], defaults := .none, kwdefaults := .none, doc := .none, pyModule := .none, annotations := none, code := .none, closureTuple := .none, builtins := 0 }, [].toArray⟩
noncomputable def ho74 (P : Params) : Obj := ⟨(.type "code"), none, .fields [(.str "_join_translated_parts" 543), (.str "_join_translated_parts" 544), (.str "/claim/cut.py" 545), (.int 97 0), (.int 2 0), (.int 0 0), (.int 0 0), (.int 3 0), (.ref 90), (.bool true), (.int 276 0), (.ref 91), .none, (.ref 92), (.ref 93), (.ref 94), (.int 553 0), (.int 97 0), (.str "/claim/cut.py" 554)].toArray, [].toArray⟩
noncomputable def ho75 (P : Params) : Obj := ⟨(.type "function"), none, .func { name := "_join_translated_parts", qualname := "_join_translated_parts", params := fp13, body := .stmts fb13, scope := fs13, globals := 3, closure := [], defaults := .none, kwdefaults := .none, doc := .none, pyModule := (.str "cpy313.fnmatch" 522), annotations := none, code := (.ref 95), closureTuple := .none, builtins := 0 }, [].toArray⟩
noncomputable def ho76 (P : Params) : Obj := ⟨(.type "tuple"), none, .seq [(.str "mode" 561)].toArray 0, [].toArray⟩
noncomputable def ho77 (P : Params) : Obj := ⟨.none, none, .func { name := "S_IFMT", qualname := "S_IFMT", params := fp15, body := .stmts fb15, scope := fs15, globals := 0, closure := [], defaults := .none, kwdefaults := .none, doc := .none, pyModule := .none, annotations := none, code := .none, closureTuple := .none, builtins := 0 }, [].toArray⟩
noncomputable def ho78 (P : Params) : Obj := ⟨(.type "code"), none, .fields [(.str "S_IFMT" 558), (.str "S_IFMT" 559), (.str "/claim/cut.py" 560), (.int 125 0), (.int 1 0), (.int 0 0), (.int 0 0), (.int 3 0), (.ref 97), (.bool true), (.int 276 0), (.ref 98), .none, (.ref 99), (.ref 100), (.ref 101), (.int 562 0), (.int 125 0), (.str "/claim/cut.py" 563)].toArray, [].toArray⟩
noncomputable def ho79 (P : Params) : Obj := ⟨(.type "function"), none, .func { name := "S_IFMT", qualname := "S_IFMT", params := fp15, body := .stmts fb15, scope := fs15, globals := 3, closure := [], defaults := .none, kwdefaults := .none, doc := .none, pyModule := (.str "cpy313.stat" 556), annotations := none, code := (.ref 102), closureTuple := .none, builtins := 0 }, [].toArray⟩
noncomputable def ho80 (P : Params) : Obj := ⟨(.type "tuple"), none, .seq [(.int 40960 575), (.str "l" 609)].toArray 0, [].toArray⟩
noncomputable def ho81 (P : Params) : Obj := ⟨(.type "tuple"), none, .seq [(.int 49152 577), (.str "s" 610)].toArray 0, [].toArray⟩
noncomputable def ho82 (P : Params) : Obj := ⟨(.type "tuple"), none, .seq [(.int 32768 571), (.str "-" 611)].toArray 0, [].toArray⟩
noncomputable def ho83 (P : Params) : Obj := ⟨(.type "tuple"), none, .seq [(.int 24576 569), (.str "b" 612)].toArray 0, [].toArray⟩
noncomputable def ho84 (P : Params) : Obj := ⟨(.type "tuple"), none, .seq [(.int 16384 565), (.str "d" 613)].toArray 0, [].toArray⟩
noncomputable def ho85 (P : Params) : Obj := ⟨(.type "tuple"), none, .seq [(.int 8192 567), (.str "c" 614)].toArray 0, [].toArray⟩
noncomputable def ho86 (P : Params) : Obj := ⟨(.type "tuple"), none, .seq [(.int 4096 573), (.str "p" 615)].toArray 0, [].toArray⟩
noncomputable def ho87 (P : Params) : Obj := ⟨(.type "tuple"), none, .seq [(.ref 104), (.ref 105), (.ref 106), (.ref 107), (.ref 108), (.ref 109), (.ref 110)].toArray 0, [].toArray⟩
noncomputable def ho88 (P : Params) : Obj := ⟨(.type "tuple"), none, .seq [(.int 256 587), (.str "r" 616)].toArray 0, [].toArray⟩
noncomputable def ho89 (P : Params) : Obj := ⟨(.type "tuple"), none, .seq [(.ref 112)].toArray 0, [].toArray⟩
noncomputable def ho90 (P : Params) : Obj := ⟨(.type "tuple"), none, .seq [(.int 128 589), (.str "w" 617)].toArray 0, [].toArray⟩
noncomputable def ho91 (P : Params) : Obj := ⟨(.type "tuple"), none, .seq [(.ref 114)].toArray 0, [].toArray⟩
noncomputable def ho92 (P : Params) : Obj := ⟨(.type "tuple"), none, .seq [(.int 2112 618), (.str "s" 619)].toArray 0, [].toArray⟩
noncomputable def ho93 (P : Params) : Obj := ⟨(.type "tuple"), none, .seq [(.int 2048 579), (.str "S" 620)].toArray 0, [].toArray⟩
noncomputable def ho94 (P : Params) : Obj := ⟨(.type "tuple"), none, .seq [(.int 64 591), (.str "x" 621)].toArray 0, [].toArray⟩
noncomputable def ho95 (P : Params) : Obj := ⟨(.type "tuple"), none, .seq [(.ref 116), (.ref 117), (.ref 118)].toArray 0, [].toArray⟩
noncomputable def ho96 (P : Params) : Obj := ⟨(.type "tuple"), none, .seq [(.int 32 595), (.str "r" 622)].toArray 0, [].toArray⟩
noncomputable def ho97 (P : Params) : Obj := ⟨(.type "tuple"), none, .seq [(.ref 120)].toArray 0, [].toArray⟩
noncomputable def ho98 (P : Params) : Obj := ⟨(.type "tuple"), none, .seq [(.int 16 597), (.str "w" 623)].toArray 0, [].toArray⟩
noncomputable def ho99 (P : Params) : Obj := ⟨(.type "tuple"), none, .seq [(.ref 122)].toArray 0, [].toArray⟩
noncomputable def ho100 (P : Params) : Obj := ⟨(.type "tuple"), none, .seq [(.int 1032 624), (.str "s" 625)].toArray 0, [].toArray⟩
noncomputable def ho101 (P : Params) : Obj := ⟨(.type "tuple"), none, .seq [(.int 1024 581), (.str "S" 626)].toArray 0, [].toArray⟩
noncomputable def ho102 (P : Params) : Obj := ⟨(.type "tuple"), none, .seq [(.int 8 599), (.str "x" 627)].toArray 0, [].toArray⟩
noncomputable def ho103 (P : Params) : Obj := ⟨(.type "tuple"), none, .seq [(.ref 124), (.ref 125), (.ref 126)].toArray 0, [].toArray⟩
noncomputable def ho104 (P : Params) : Obj := ⟨(.type "tuple"), none, .seq [(.int 4 603), (.str "r" 628)].toArray 0, [].toArray⟩
noncomputable def ho105 (P : Params) : Obj := ⟨(.type "tuple"), none, .seq [(.ref 128)].toArray 0, [].toArray⟩
noncomputable def ho106 (P : Params) : Obj := ⟨(.type "tuple"), none, .seq [(.int 2 605), (.str "w" 629)].toArray 0, [].toArray⟩
noncomputable def ho107 (P : Params) : Obj := ⟨(.type "tuple"), none, .seq [(.ref 130)].toArray 0, [].toArray⟩
noncomputable def ho108 (P : Params) : Obj := ⟨(.type "tuple"), none, .seq [(.int 513 630), (.str "t" 631)].toArray 0, [].toArray⟩
noncomputable def ho109 (P : Params) : Obj := ⟨(.type "tuple"), none, .seq [(.int 512 583), (.str "T" 632)].toArray 0, [].toArray⟩
noncomputable def ho110 (P : Params) : Obj := ⟨(.type "tuple"), none, .seq [(.int 1 607), (.str "x" 633)].toArray 0, [].toArray⟩
noncomputable def ho111 (P : Params) : Obj := ⟨(.type "tuple"), none, .seq [(.ref 132), (.ref 133), (.ref 134)].toArray 0, [].toArray⟩
noncomputable def ho112 (P : Params) : Obj := ⟨(.type "tuple"), none, .seq [(.ref 111), (.ref 113), (.ref 115), (.ref 119), (.ref 121), (.ref 123), (.ref 127), (.ref 129), (.ref 131), (.ref 135)].toArray 0, [].toArray⟩
noncomputable def ho113 (P : Params) : Obj := ⟨(.type "tuple"), none, .seq [(.str "mode" 638), (.str "perm" 639), (.str "index" 640), (.str "table" 641), (.str "bit" 642), (.str "char" 643)].toArray 0, [].toArray⟩
noncomputable def ho114 (P : Params) : Obj := ⟨.none, none, .func { name := "filemode", qualname := "filemode", params := fp39, body := .stmts fb39, scope := fs39, globals := 0, closure := [], defaults := .none, kwdefaults := .none, doc := .none, pyModule := .none, annotations := none, code := .none, closureTuple := .none, builtins := 0 }, [].toArray⟩
noncomputable def ho115 (P : Params) : Obj := ⟨(.type "code"), none, .fields [(.str "filemode" 635), (.str "filemode" 636), (.str "/claim/cut.py" 637), (.int 150 0), (.int 1 0), (.int 0 0), (.int 0 0), (.int 3 0), (.ref 137), (.bool true), (.int 276 0), (.ref 138), .none, (.ref 139), (.ref 140), (.ref 141), (.int 644 0), (.int 150 0), (.str "/claim/cut.py" 645)].toArray, [].toArray⟩
noncomputable def ho116 (P : Params) : Obj := ⟨(.type "function"), none, .func { name := "filemode", qualname := "filemode", params := fp39, body := .stmts fb39, scope := fs39, globals := 3, closure := [], defaults := .none, kwdefaults := .none, doc := .none, pyModule := (.str "cpy313.stat" 556), annotations := none, code := (.ref 142), closureTuple := .none, builtins := 0 }, [].toArray⟩
noncomputable def ho117 (P : Params) : Obj := ⟨(.type "tuple"), none, .seq [(.str "kind" 652), (.str "upper" 653), (.str "lower" 654)].toArray 0, [].toArray⟩
noncomputable def ho118 (P : Params) : Obj := ⟨.none, none, .func { name := "_law_number", qualname := "_law_number", params := fp41, body := .stmts fb41, scope := fs41, globals := 0, closure := [], defaults := .none, kwdefaults := .none, doc := .none, pyModule := .none, annotations := none, code := .none, closureTuple := .none, builtins := 0 }, [].toArray⟩
noncomputable def ho119 (P : Params) : Obj := ⟨(.type "code"), none, .fields [(.str "_law_number" 649), (.str "_law_number" 650), (.str "/claim/cut.py" 651), (.int 168 0), (.int 3 0), (.int 0 0), (.int 0 0), (.int 3 0), (.ref 144), (.bool true), (.int 276 0), (.ref 145), .none, (.ref 146), (.ref 147), (.ref 148), (.int 655 0), (.int 168 0), (.str "/claim/cut.py" 656)].toArray, [].toArray⟩
noncomputable def ho120 (P : Params) : Obj := ⟨(.type "function"), none, .func { name := "_law_number", qualname := "_law_number", params := fp41, body := .stmts fb41, scope := fs41, globals := 3, closure := [], defaults := .none, kwdefaults := .none, doc := .none, pyModule := (.str "law_in0253_01" 647), annotations := none, code := (.ref 149), closureTuple := .none, builtins := 0 }, [].toArray⟩
noncomputable def ho121 (P : Params) : Obj := ⟨(.type "tuple"), none, .seq [(.str "row" 661), (.str "number" 662), (.str "k" 663), (.str "place" 664)].toArray 0, [].toArray⟩
noncomputable def ho122 (P : Params) : Obj := ⟨.none, none, .func { name := "_law_back", qualname := "_law_back", params := fp42, body := .stmts fb42, scope := fs42, globals := 0, closure := [], defaults := .none, kwdefaults := .none, doc := .none, pyModule := .none, annotations := none, code := .none, closureTuple := .none, builtins := 0 }, [].toArray⟩
noncomputable def ho123 (P : Params) : Obj := ⟨(.type "code"), none, .fields [(.str "_law_back" 658), (.str "_law_back" 659), (.str "/claim/cut.py" 660), (.int 170 0), (.int 1 0), (.int 0 0), (.int 0 0), (.int 3 0), (.ref 151), (.bool true), (.int 276 0), (.ref 152), .none, (.ref 153), (.ref 154), (.ref 155), (.int 665 0), (.int 170 0), (.str "/claim/cut.py" 666)].toArray, [].toArray⟩
noncomputable def ho124 (P : Params) : Obj := ⟨(.type "function"), none, .func { name := "_law_back", qualname := "_law_back", params := fp42, body := .stmts fb42, scope := fs42, globals := 3, closure := [], defaults := .none, kwdefaults := .none, doc := .none, pyModule := (.str "law_in0253_01" 647), annotations := none, code := (.ref 156), closureTuple := .none, builtins := 0 }, [].toArray⟩
noncomputable def ho125 (P : Params) : Obj := ⟨(.type "tuple"), none, .seq [(.str "signs" 671), (.str "text" 672), (.str "bare" 673)].toArray 0, [].toArray⟩
noncomputable def ho126 (P : Params) : Obj := ⟨.none, none, .func { name := "_law_pattern", qualname := "_law_pattern", params := fp43, body := .stmts fb43, scope := fs43, globals := 0, closure := [], defaults := .none, kwdefaults := .none, doc := .none, pyModule := .none, annotations := none, code := .none, closureTuple := .none, builtins := 0 }, [].toArray⟩
noncomputable def ho127 (P : Params) : Obj := ⟨(.type "code"), none, .fields [(.str "_law_pattern" 668), (.str "_law_pattern" 669), (.str "/claim/cut.py" 670), (.int 180 0), (.int 1 0), (.int 0 0), (.int 0 0), (.int 3 0), (.ref 158), (.bool true), (.int 276 0), (.ref 159), .none, (.ref 160), (.ref 161), (.ref 162), (.int 674 0), (.int 180 0), (.str "/claim/cut.py" 675)].toArray, [].toArray⟩
noncomputable def ho128 (P : Params) : Obj := ⟨(.type "function"), none, .func { name := "_law_pattern", qualname := "_law_pattern", params := fp43, body := .stmts fb43, scope := fs43, globals := 3, closure := [], defaults := .none, kwdefaults := .none, doc := .none, pyModule := (.str "law_in0253_01" 647), annotations := none, code := (.ref 163), closureTuple := .none, builtins := 0 }, [].toArray⟩
noncomputable def ho129 (P : Params) : Obj := ⟨(.type "tuple"), none, .seq [(.str "text" 680), (.str "body" 681), (.str "signs" 682), (.str "k" 683)].toArray 0, [].toArray⟩
noncomputable def ho130 (P : Params) : Obj := ⟨.none, none, .func { name := "_law_read", qualname := "_law_read", params := fp44, body := .stmts fb44, scope := fs44, globals := 0, closure := [], defaults := .none, kwdefaults := .none, doc := .none, pyModule := .none, annotations := none, code := .none, closureTuple := .none, builtins := 0 }, [].toArray⟩
noncomputable def ho131 (P : Params) : Obj := ⟨(.type "code"), none, .fields [(.str "_law_read" 677), (.str "_law_read" 678), (.str "/claim/cut.py" 679), (.int 184 0), (.int 1 0), (.int 0 0), (.int 0 0), (.int 3 0), (.ref 165), (.bool true), (.int 276 0), (.ref 166), .none, (.ref 167), (.ref 168), (.ref 169), (.int 684 0), (.int 184 0), (.str "/claim/cut.py" 685)].toArray, [].toArray⟩
noncomputable def ho132 (P : Params) : Obj := ⟨(.type "function"), none, .func { name := "_law_read", qualname := "_law_read", params := fp44, body := .stmts fb44, scope := fs44, globals := 3, closure := [], defaults := .none, kwdefaults := .none, doc := .none, pyModule := (.str "law_in0253_01" 647), annotations := none, code := (.ref 170), closureTuple := .none, builtins := 0 }, [].toArray⟩
noncomputable def ho133 (P : Params) : Obj := ⟨(.type "tuple"), none, .seq [(.str "size" 690), (.str "k" 691), (.str "lowest" 692), (.str "highest" 693)].toArray 0, [].toArray⟩
noncomputable def ho134 (P : Params) : Obj := ⟨.none, none, .func { name := "_law_pads", qualname := "_law_pads", params := fp45, body := .stmts fb45, scope := fs45, globals := 0, closure := [], defaults := .none, kwdefaults := .none, doc := .none, pyModule := .none, annotations := none, code := .none, closureTuple := .none, builtins := 0 }, [].toArray⟩
noncomputable def ho135 (P : Params) : Obj := ⟨(.type "code"), none, .fields [(.str "_law_pads" 687), (.str "_law_pads" 688), (.str "/claim/cut.py" 689), (.int 202 0), (.int 4 0), (.int 0 0), (.int 0 0), (.int 3 0), (.ref 172), (.bool true), (.int 276 0), (.ref 173), .none, (.ref 174), (.ref 175), (.ref 176), (.int 694 0), (.int 202 0), (.str "/claim/cut.py" 695)].toArray, [].toArray⟩
noncomputable def ho136 (P : Params) : Obj := ⟨(.type "function"), none, .func { name := "_law_pads", qualname := "_law_pads", params := fp45, body := .stmts fb45, scope := fs45, globals := 3, closure := [], defaults := .none, kwdefaults := .none, doc := .none, pyModule := (.str "law_in0253_01" 647), annotations := none, code := (.ref 177), closureTuple := .none, builtins := 0 }, [].toArray⟩
noncomputable def ho137 (P : Params) : Obj := ⟨.none, none, .func { name := "_law_signs", qualname := "_law_signs", params := fp46, body := .stmts fb46, scope := fs46, globals := 0, closure := [], defaults := .none, kwdefaults := .none, doc := .none, pyModule := .none, annotations := none, code := .none, closureTuple := .none, builtins := 0 }, [].toArray⟩
noncomputable def ho138 (P : Params) : Obj := ⟨(.type "code"), none, .fields [(.str "_law_signs" 697), (.str "_law_signs" 698), (.str "/claim/cut.py" 699), (.int 204 0), (.int 1 0), (.int 0 0), (.int 0 0), (.int 3 0), (.ref 179), (.bool true), (.int 276 0), (.ref 180), .none, .none, .none, (.ref 181), (.int 700 0), (.int 204 0), (.str "/claim/cut.py" 701)].toArray, [].toArray⟩
noncomputable def ho139 (P : Params) : Obj := ⟨(.type "function"), none, .func { name := "_law_signs", qualname := "_law_signs", params := fp46, body := .stmts fb46, scope := fs46, globals := 3, closure := [], defaults := .none, kwdefaults := .none, doc := .none, pyModule := (.str "law_in0253_01" 647), annotations := none, code := (.ref 182), closureTuple := .none, builtins := 0 }, [].toArray⟩
noncomputable def ho140 (P : Params) : Obj := ⟨.none, none, .func { name := "_law_taken", qualname := "_law_taken", params := fp47, body := .stmts fb47, scope := fs47, globals := 0, closure := [], defaults := .none, kwdefaults := .none, doc := .none, pyModule := .none, annotations := none, code := .none, closureTuple := .none, builtins := 0 }, [].toArray⟩
noncomputable def ho141 (P : Params) : Obj := ⟨(.type "code"), none, .fields [(.str "_law_taken" 703), (.str "_law_taken" 704), (.str "/claim/cut.py" 705), (.int 206 0), (.int 2 0), (.int 0 0), (.int 0 0), (.int 3 0), (.ref 184), (.bool true), (.int 276 0), (.ref 185), .none, .none, .none, (.ref 186), (.int 706 0), (.int 206 0), (.str "/claim/cut.py" 707)].toArray, [].toArray⟩
noncomputable def ho142 (P : Params) : Obj := ⟨(.type "function"), none, .func { name := "_law_taken", qualname := "_law_taken", params := fp47, body := .stmts fb47, scope := fs47, globals := 3, closure := [], defaults := .none, kwdefaults := .none, doc := .none, pyModule := (.str "law_in0253_01" 647), annotations := none, code := (.ref 187), closureTuple := .none, builtins := 0 }, [].toArray⟩
noncomputable def ho143 (P : Params) : Obj := ⟨.none, none, .func { name := "law", qualname := "law", params := fp48, body := .stmts fb48, scope := fs48, globals := 0, closure := [], defaults := .none, kwdefaults := .none, doc := .none, pyModule := .none, annotations := none, code := .none, closureTuple := .none, builtins := 0 }, [].toArray⟩
noncomputable def ho144 (P : Params) : Obj := ⟨(.type "code"), none, .fields [(.str "law" 709), (.str "law" 710), (.str "/claim/cut.py" 711), (.int 208 0), (.int 1 0), (.int 0 0), (.int 0 0), (.int 3 0), (.ref 189), (.bool true), (.int 276 0), (.ref 190), .none, .none, .none, (.ref 191), (.int 712 0), (.int 208 0), (.str "/claim/cut.py" 713)].toArray, [].toArray⟩
noncomputable def ho145 (P : Params) : Obj := ⟨(.type "function"), none, .func { name := "law", qualname := "law", params := fp48, body := .stmts fb48, scope := fs48, globals := 3, closure := [], defaults := .none, kwdefaults := .none, doc := .none, pyModule := (.str "law_in0253_01" 647), annotations := none, code := (.ref 192), closureTuple := .none, builtins := 0 }, [].toArray⟩
noncomputable def hpz (P : Params) : Heap := ⟨[ho0 P, ho1 P, ho2 P, ho3 P, ho4 P, ho5 P, ho6 P, ho7 P, ho8 P, ho9 P, ho10 P, ho11 P, ho12 P, ho13 P, ho14 P, ho7 P, ho15 P, ho16 P, ho17 P, ho18 P, ho19 P, ho20 P, ho21 P, ho22 P, ho23 P, ho24 P, ho25 P, ho26 P].toArray, ⟨[], [], [], 0, [], [], false, [].toArray, [], 0, false, false, false, 0, [2000, 10, 10], false, 0, true, [], [], 0, false⟩⟩
noncomputable def hpa (P : Params) : Heap := ⟨[ho0 P, ho1 P, ho2 P, ho3 P, ho4 P, ho5 P, ho6 P, ho7 P, ho8 P, ho9 P, ho10 P, ho11 P, ho12 P, ho13 P, ho14 P, ho7 P, ho15 P, ho16 P, ho17 P, ho18 P, ho19 P, ho20 P, ho21 P, ho22 P, ho23 P, ho24 P, ho25 P, ho26 P, ho7 P, ho8 P, ho27 P, ho28 P].toArray, ⟨[], [], [], 0, [], [], false, [].toArray, [], 0, false, false, false, 0, [2000, 10, 10], false, 0, true, [], [], 0, false⟩⟩
noncomputable def hpb (P : Params) : Heap := ⟨[ho0 P, ho1 P, ho2 P, ho3 P, ho4 P, ho5 P, ho6 P, ho7 P, ho8 P, ho9 P, ho10 P, ho11 P, ho12 P, ho13 P, ho14 P, ho7 P, ho15 P, ho16 P, ho17 P, ho18 P, ho19 P, ho20 P, ho21 P, ho22 P, ho23 P, ho24 P, ho25 P, ho26 P, ho7 P, ho8 P, ho27 P, ho28 P].toArray, ⟨[], [], [], 0, [], [], false, [].toArray, [], 0, false, false, false, 0, [2000, 10, 10], false, 0, true, [], [], 0, false⟩⟩
noncomputable def hpc (P : Params) : Heap := ⟨[ho0 P, ho1 P, ho2 P, ho29 P, ho4 P, ho5 P, ho6 P, ho7 P, ho8 P, ho9 P, ho10 P, ho11 P, ho12 P, ho13 P, ho14 P, ho7 P, ho15 P, ho16 P, ho17 P, ho18 P, ho19 P, ho20 P, ho21 P, ho22 P, ho23 P, ho24 P, ho25 P, ho26 P, ho7 P, ho30 P, ho27 P, ho28 P, ho31 P, ho32 P, ho33 P, ho7 P, ho8 P, ho34 P, ho35 P, ho7 P, ho36 P, ho37 P, ho38 P, ho39 P, ho40 P, ho7 P, ho8 P, ho41 P, ho7 P, ho42 P, ho43 P, ho44 P, ho7 P, ho8 P, ho45 P, ho7 P, ho46 P, ho47 P, ho48 P, ho49 P, ho6 P, ho50 P, ho51 P, ho52 P, ho7 P, ho8 P, ho53 P, ho7 P, ho54 P, ho55 P, ho56 P].toArray, ⟨[], [], [], 0, [], [], false, [].toArray, [], 0, false, false, false, 0, [2000, 10, 10], false, 0, true, [], [], 0, false⟩⟩
noncomputable def hpd (P : Params) : Heap := ⟨[ho0 P, ho1 P, ho2 P, ho57 P, ho4 P, ho5 P, ho6 P, ho7 P, ho8 P, ho9 P, ho10 P, ho11 P, ho12 P, ho13 P, ho14 P, ho7 P, ho15 P, ho16 P, ho17 P, ho18 P, ho19 P, ho20 P, ho21 P, ho22 P, ho23 P, ho24 P, ho25 P, ho26 P, ho7 P, ho30 P, ho27 P, ho28 P, ho31 P, ho32 P, ho33 P, ho7 P, ho8 P, ho34 P, ho35 P, ho7 P, ho36 P, ho37 P, ho38 P, ho39 P, ho40 P, ho7 P, ho8 P, ho41 P, ho7 P, ho42 P, ho43 P, ho44 P, ho7 P, ho8 P, ho45 P, ho7 P, ho46 P, ho47 P, ho48 P, ho49 P, ho6 P, ho50 P, ho51 P, ho52 P, ho7 P, ho8 P, ho53 P, ho7 P, ho54 P, ho55 P, ho56 P, ho58 P, ho59 P, ho60 P, ho7 P, ho61 P].toArray, ⟨[], [], [], 0, [], [], false, [].toArray, [], 0, false, false, false, 0, [2000, 10, 10], false, 0, true, [], [], 0, false⟩⟩
noncomputable def hpe (P : Params) : Heap := ⟨[ho0 P, ho1 P, ho2 P, ho62 P, ho4 P, ho5 P, ho6 P, ho7 P, ho8 P, ho9 P, ho10 P, ho11 P, ho12 P, ho13 P, ho14 P, ho7 P, ho15 P, ho16 P, ho17 P, ho18 P, ho19 P, ho20 P, ho21 P, ho22 P, ho23 P, ho24 P, ho25 P, ho26 P, ho7 P, ho63 P, ho27 P, ho28 P, ho31 P, ho32 P, ho33 P, ho7 P, ho8 P, ho34 P, ho35 P, ho7 P, ho36 P, ho37 P, ho38 P, ho39 P, ho40 P, ho7 P, ho8 P, ho41 P, ho7 P, ho42 P, ho43 P, ho44 P, ho7 P, ho8 P, ho45 P, ho7 P, ho46 P, ho47 P, ho48 P, ho49 P, ho6 P, ho50 P, ho51 P, ho52 P, ho7 P, ho8 P, ho53 P, ho7 P, ho54 P, ho55 P, ho56 P, ho58 P, ho59 P, ho60 P, ho7 P, ho61 P, ho7 P, ho8 P, ho64 P, ho7 P, ho65 P, ho66 P, ho67 P, ho7 P, ho8 P, ho68 P, ho7 P, ho69 P, ho70 P, ho71 P, ho7 P, ho8 P, ho72 P, ho7 P, ho73 P, ho74 P, ho75 P, ho7 P, ho8 P, ho76 P, ho7 P, ho77 P, ho78 P, ho79 P, ho80 P, ho81 P, ho82 P, ho83 P, ho84 P, ho85 P, ho86 P, ho87 P, ho88 P, ho89 P, ho90 P, ho91 P, ho92 P, ho93 P, ho94 P, ho95 P, ho96 P, ho97 P, ho98 P, ho99 P, ho100 P, ho101 P, ho102 P, ho103 P, ho104 P, ho105 P, ho106 P, ho107 P, ho108 P, ho109 P, ho110 P, ho111 P, ho112 P, ho7 P, ho8 P, ho113 P, ho7 P, ho114 P, ho115 P, ho116 P, ho7 P, ho8 P, ho117 P, ho7 P, ho118 P, ho119 P, ho120 P, ho7 P, ho8 P, ho121 P, ho7 P, ho122 P, ho123 P, ho124 P, ho7 P, ho8 P, ho125 P, ho7 P, ho126 P, ho127 P, ho128 P, ho7 P, ho8 P, ho129 P, ho7 P, ho130 P, ho131 P, ho132 P, ho7 P, ho8 P, ho133 P, ho7 P, ho134 P, ho135 P, ho136 P, ho7 P, ho8 P, ho137 P, ho138 P, ho139 P, ho7 P, ho8 P, ho140 P, ho141 P, ho142 P, ho7 P, ho8 P, ho143 P, ho144 P, ho145 P].toArray, ⟨[], [], [], 0, [], [], false, [].toArray, [], 0, false, false, false, 0, [2000, 10, 10], false, 0, true, [], [], 0, false⟩⟩
noncomputable def hpf (P : Params) : Heap := ⟨[ho0 P, ho1 P, ho2 P, ho62 P, ho4 P, ho5 P, ho6 P, ho7 P, ho8 P, ho9 P, ho10 P, ho11 P, ho12 P, ho13 P, ho14 P, ho7 P, ho15 P, ho16 P, ho17 P, ho18 P, ho19 P, ho20 P, ho21 P, ho22 P, ho23 P, ho24 P, ho25 P, ho26 P, ho7 P, ho63 P, ho27 P, ho28 P, ho31 P, ho32 P, ho33 P, ho7 P, ho8 P, ho34 P, ho35 P, ho7 P, ho36 P, ho37 P, ho38 P, ho39 P, ho40 P, ho7 P, ho8 P, ho41 P, ho7 P, ho42 P, ho43 P, ho44 P, ho7 P, ho8 P, ho45 P, ho7 P, ho46 P, ho47 P, ho48 P, ho49 P, ho6 P, ho50 P, ho51 P, ho52 P, ho7 P, ho8 P, ho53 P, ho7 P, ho54 P, ho55 P, ho56 P, ho58 P, ho59 P, ho60 P, ho7 P, ho61 P, ho7 P, ho8 P, ho64 P, ho7 P, ho65 P, ho66 P, ho67 P, ho7 P, ho8 P, ho68 P, ho7 P, ho69 P, ho70 P, ho71 P, ho7 P, ho8 P, ho72 P, ho7 P, ho73 P, ho74 P, ho75 P, ho7 P, ho8 P, ho76 P, ho7 P, ho77 P, ho78 P, ho79 P, ho80 P, ho81 P, ho82 P, ho83 P, ho84 P, ho85 P, ho86 P, ho87 P, ho88 P, ho89 P, ho90 P, ho91 P, ho92 P, ho93 P, ho94 P, ho95 P, ho96 P, ho97 P, ho98 P, ho99 P, ho100 P, ho101 P, ho102 P, ho103 P, ho104 P, ho105 P, ho106 P, ho107 P, ho108 P, ho109 P, ho110 P, ho111 P, ho112 P, ho7 P, ho8 P, ho113 P, ho7 P, ho114 P, ho115 P, ho116 P, ho7 P, ho8 P, ho117 P, ho7 P, ho118 P, ho119 P, ho120 P, ho7 P, ho8 P, ho121 P, ho7 P, ho122 P, ho123 P, ho124 P, ho7 P, ho8 P, ho125 P, ho7 P, ho126 P, ho127 P, ho128 P, ho7 P, ho8 P, ho129 P, ho7 P, ho130 P, ho131 P, ho132 P, ho7 P, ho8 P, ho133 P, ho7 P, ho134 P, ho135 P, ho136 P, ho7 P, ho8 P, ho137 P, ho138 P, ho139 P, ho7 P, ho8 P, ho140 P, ho141 P, ho142 P, ho7 P, ho8 P, ho143 P, ho144 P, ho145 P].toArray, ⟨[], [], [], 0, [], [], false, [].toArray, [], 0, false, false, false, 0, [2000, 10, 10], false, 0, true, [], [], 0, false⟩⟩

end
-- part S1
section
open PySem PySem.W PyProof.Rows PySem.Calls
set_option maxRecDepth 100000
set_option maxHeartbeats 4000000
noncomputable abbrev bT : List Stmt := behindTheImports PW
noncomputable abbrev envT : Env := { scope := PW.main.scope, locals := mainNs, globals := mainNs, cells := [], code := .ref 30, frame := some 31 }
noncomputable abbrev cT : Code := .body bT envT
abbrev p0 : Pos := ⟨0, 0, 0, 0⟩
abbrev pA : Pos := ⟨26, 0, 26, 8⟩
abbrev pB : Pos := ⟨27, 0, 27, 18⟩
abbrev pC : Pos := ⟨208, 0, 234, 87⟩
abbrev annT : Option Value := some (.ref 6)
noncomputable abbrev sh (h : Params → Heap) (k : Nat) (w : World) (os : OsState) : Shared := ⟨h w.params, #[], ⟨0, 0, 0, 0⟩, k, os⟩
noncomputable abbrev stsA : List Stmt := bT.take 8
noncomputable abbrev stsB : List Stmt := (bT.drop 8).take 1
noncomputable abbrev stsC : List Stmt := bT.drop 9
theorem s_open (w : World) : (fencedOpening treeTable PW w 4980).map (fun s => (s.heap, s.gens, s.drawn, s.toks)) = some (hpz w.params, #[], ⟨0, 0, 0, 0⟩, 276) := by
  unfold fencedOpening
  rw [PySem.W.Fast.te10274390034422433532, PySem.W.Fast.te14289696077712309145, PySem.W.Fast.te1435165496053646825, PySem.W.Fast.te14364793385576792824]
  kernel_rfl
theorem s_size (w : World) : ((hpz w.params).isNs mainGlobals && (#[] : Array GenState).size == 0, (hpz w.params).objs.size, (hpz w.params).nsMap mainGlobals "__annotations__") = (true, 28, annT) := by
  rw [PySem.W.Fast.te8920871248978507458]
  kernel_rfl
theorem s_pre (w : World) (os : OsState) : topGo treeTable PW w 28 annT 12 (sh hpz 276 w os) (topStub PW) = some (sh hpa 282 w os, ⟨denote treeTable cT, cT, p0, [topFrame p0]⟩) := by
  unfold topStub
  rw [PySem.W.Fast.te15667345088766844465, PySem.W.Fast.te14364793385576792824, PySem.W.Fast.te11892475500146522536, PySem.W.Fast.te17154629097778926822, PySem.W.Fast.te12822647523644345616]
  kernel_rfl
theorem s_block (w : World) (os : OsState) : segRun treeTable PW w 28 annT 1 1 (sh hpa 282 w os) (blockOf bT envT cT p0 [topFrame p0]) = some (.next, sh hpb 282 w os, cT, p0) := by
  unfold blockOf
  rw [PySem.W.Fast.te14374325043358763698, PySem.W.Fast.te14364793385576792824, PySem.W.Fast.te1066825118222455980]
  kernel_rfl
theorem s_A (w : World) (os : OsState) : segRun treeTable PW w 28 annT 1 386 (sh hpb 282 w os) (piecesOf stsA envT cT p0 [topFrame p0]) = some (.next, sh hpc 369 w os, cT, pA) := by
  unfold piecesOf
  rw [PySem.W.Fast.te14374325043358763698, PySem.W.Fast.te14364793385576792824, PySem.W.Fast.te12563942051412417395]
  kernel_rfl
end
-- part S2
section
open PySem PySem.W PyProof.Rows PySem.Calls
set_option maxRecDepth 100000
set_option maxHeartbeats 4000000
theorem s_B_ff (w : World) : (fun os => segRun treeTable PW ((w.withFollow "special-get-raises" false).withFollow "comprehension-iter-twice" false) 28 annT 1 1253 (sh hpc 369 ((w.withFollow "special-get-raises" false).withFollow "comprehension-iter-twice" false) os) (piecesOf stsB envT cT pA [topFrame p0])) = fun os => some (.next, sh hpd 515 ((w.withFollow "special-get-raises" false).withFollow "comprehension-iter-twice" false) os, cT, pB) := by
  unfold piecesOf
  rw [PySem.W.Fast.te14374325043358763698, PySem.W.Fast.te14364793385576792824, PySem.W.Fast.te12563942051412417395]
  kernel_rfl
theorem s_B_ft (w : World) : (fun os => segRun treeTable PW ((w.withFollow "special-get-raises" false).withFollow "comprehension-iter-twice" true) 28 annT 1 1253 (sh hpc 369 ((w.withFollow "special-get-raises" false).withFollow "comprehension-iter-twice" true) os) (piecesOf stsB envT cT pA [topFrame p0])) = fun os => some (.next, sh hpd 515 ((w.withFollow "special-get-raises" false).withFollow "comprehension-iter-twice" true) os, cT, pB) := by
  unfold piecesOf
  rw [PySem.W.Fast.te14374325043358763698, PySem.W.Fast.te14364793385576792824, PySem.W.Fast.te12563942051412417395]
  kernel_rfl
theorem s_B_tf (w : World) : (fun os => segRun treeTable PW ((w.withFollow "special-get-raises" true).withFollow "comprehension-iter-twice" false) 28 annT 1 1253 (sh hpc 369 ((w.withFollow "special-get-raises" true).withFollow "comprehension-iter-twice" false) os) (piecesOf stsB envT cT pA [topFrame p0])) = fun os => some (.next, sh hpd 515 ((w.withFollow "special-get-raises" true).withFollow "comprehension-iter-twice" false) os, cT, pB) := by
  unfold piecesOf
  rw [PySem.W.Fast.te14374325043358763698, PySem.W.Fast.te14364793385576792824, PySem.W.Fast.te12563942051412417395]
  kernel_rfl
theorem s_B_tt (w : World) : (fun os => segRun treeTable PW ((w.withFollow "special-get-raises" true).withFollow "comprehension-iter-twice" true) 28 annT 1 1253 (sh hpc 369 ((w.withFollow "special-get-raises" true).withFollow "comprehension-iter-twice" true) os) (piecesOf stsB envT cT pA [topFrame p0])) = fun os => some (.next, sh hpd 515 ((w.withFollow "special-get-raises" true).withFollow "comprehension-iter-twice" true) os, cT, pB) := by
  unfold piecesOf
  rw [PySem.W.Fast.te14374325043358763698, PySem.W.Fast.te14364793385576792824, PySem.W.Fast.te12563942051412417395]
  kernel_rfl
end
-- part S3
section
open PySem PySem.W PyProof.Rows PySem.Calls
set_option maxRecDepth 100000
set_option maxHeartbeats 4000000
theorem s_C (w : World) (os : OsState) : segRun treeTable PW w 28 annT 1 791 (sh hpd 515 w os) (piecesOf stsC envT cT pB [topFrame p0]) = some (.next, sh hpe 715 w os, cT, pC) := by
  unfold piecesOf
  rw [PySem.W.Fast.te14374325043358763698, PySem.W.Fast.te14364793385576792824, PySem.W.Fast.te12563942051412417395]
  kernel_rfl
theorem s_fin (w : World) (os : OsState) : topRun treeTable PW w 28 annT 2 (sh hpe 715 w os) ⟨doneF .next, cT, pC, [topFrame p0]⟩ = some (sh hpf 715 w os) := by
  rw [PySem.W.Fast.te14082659384304107361, PySem.W.Fast.te14364793385576792824]
  kernel_rfl
end
-- part S4
section
open PySem PySem.W PyProof.Rows PySem.Calls
set_option maxRecDepth 100000
set_option maxHeartbeats 4000000
theorem s_look1 (w : World) (os : OsState) : (staticsOk (importedModules PW.main.body) (hpz w.params) (hpf w.params) && namesBound PW (hpf w.params) && gensDone ⟨hpf w.params, #[], ⟨0, 0, 0, 0⟩, 715, os⟩ && laidKept (hpz w.params) (hpf w.params)) = true := by
  rw [PySem.W.Fast.te5923862056798008813]
  kernel_rfl
theorem s_look2 (w : World) (os : OsState) : openSeen qv looseL (importedModules PW.main.body) xt true ⟨hpf w.params, #[], ⟨0, 0, 0, 0⟩, 715, os⟩ = openGood qv looseL := by
  rw [PySem.W.Fast.te4187177175401517315, PySem.W.Fast.te5923862056798008813]
  kernel_rfl
theorem s_look3 (w : World) (os : OsState) : yf ⟨hpf w.params, #[], ⟨0, 0, 0, 0⟩, 715, os⟩ = ya w := by
  kernel_rfl
end
-- part S5
section
open PySem PySem.W PyProof.Rows PySem.Calls
set_option maxRecDepth 100000
set_option maxHeartbeats 4000000
theorem s_B (w : World) : (fun os => segRun treeTable PW w 28 annT 1 1253 (sh hpc 369 w os) (piecesOf stsB envT cT pA [topFrame p0])) = fun os => some (.next, sh hpd 515 w os, cT, pB) :=
  byRow2 "comprehension-iter-twice" (P := fun w => (fun os => segRun treeTable PW w 28 annT 1 1253 (sh hpc 369 w os) (piecesOf stsB envT cT pA [topFrame p0])) = fun os => some (.next, sh hpd 515 w os, cT, pB))
    (byRow2 "special-get-raises" (P := fun w => (fun os => segRun treeTable PW (w.withFollow "comprehension-iter-twice" false) 28 annT 1 1253 (sh hpc 369 (w.withFollow "comprehension-iter-twice" false) os) (piecesOf stsB envT cT pA [topFrame p0])) = fun os => some (.next, sh hpd 515 (w.withFollow "comprehension-iter-twice" false) os, cT, pB)) s_B_ff s_B_tf)
    (byRow2 "special-get-raises" (P := fun w => (fun os => segRun treeTable PW (w.withFollow "comprehension-iter-twice" true) 28 annT 1 1253 (sh hpc 369 (w.withFollow "comprehension-iter-twice" true) os) (piecesOf stsB envT cT pA [topFrame p0])) = fun os => some (.next, sh hpd 515 (w.withFollow "comprehension-iter-twice" true) os, cT, pB)) s_B_ft s_B_tt) w
theorem take_three {α : Type} (l : List α) (i : Nat) : l.take i ++ ((l.drop i).take 1 ++ (l.drop (i + 1) ++ [])) = l := by
  have h : (l.drop i).take 1 ++ l.drop (i + 1) = l.drop i := by
    have := List.take_append_drop 1 (l.drop i)
    rwa [List.drop_drop] at this
  rw [List.append_nil, h, List.take_append_drop]
theorem s_rest (w : World) (os : OsState) : topRun treeTable PW w 28 annT (386 + (1253 + (791 + 2))) (sh hpb 282 w os) (restOf bT envT cT p0 [topFrame p0]) = some (sh hpf 715 w os) := by
  have h := piece_app (s_A w os) (piece_app (congrFun (s_B w) os) (piece_app (s_C w os) (piece_nil (s_fin w os))))
  rw [take_three bT 8] at h
  exact h
theorem s_run (w : World) (os : OsState) : topRun treeTable PW w 28 annT (12 + (1 + (386 + (1253 + (791 + 2))))) (sh hpz 276 w os) (topStub PW) = some (sh hpf 715 w os) :=
  go_top (s_pre w os) (piece_block (s_block w os) (s_rest w os))
theorem left_ok : LeftO PW qv looseL xt yf ya 4980 := LeftO.of_pieces (H₀ := hpz) (H₁ := hpf) s_open s_size s_run (by decide) fun w => funext fun os => by
  show (_, _, _) = (_, _, _)
  rw [s_look1 w os, s_look2 w os, s_look3 w os]
end
-- part L1
section
open PySem PySem.W PyProof.Rows PySem.Calls

abbrev Mem := Addr → Option Obj
def Kp (h h' : Heap) : Prop := ∀ b o, h.get? b = some o → h'.get? b = some o
theorem Kp.refl (h : Heap) : Kp h h := fun _ _ e => e
theorem Kp.trans {a b c : Heap} (x : Kp a b) (y : Kp b c) : Kp a c := fun _ _ e => y _ _ (x _ _ e)
theorem Kp.push (h : Heap) (o : Obj) : Kp h (h.push o) := fun _ _ e => Heap.get?_push_of_some _ e
def Le (m m' : Mem) : Prop := ∀ b o, m b = some o → m' b = some o
theorem Le.refl (m : Mem) : Le m m := fun _ _ e => e
theorem Le.trans {a b c : Mem} (x : Le a b) (y : Le b c) : Le a c := fun _ _ e => y _ _ (x _ _ e)
theorem Le.kp {m : Mem} {h h' : Heap} (x : Le m h.get?) (y : Kp h h') : Le m h'.get? := fun _ _ e => y _ _ (x _ _ e)

/-- every list and tuple stands as it stood -/
def Sq (h h' : Mem) : Prop := ∀ b c d xs n sl, h b = some ⟨c, d, .seq xs n, sl⟩ → h' b = some ⟨c, d, .seq xs n, sl⟩
theorem Le.sq {h h' : Mem} (k : Le h h') : Sq h h' := fun _ _ _ _ _ _ e => k _ _ e
theorem Sq.trans {a b c : Mem} (x : Sq a b) (y : Sq b c) : Sq a c := fun _ _ _ _ _ _ e => y _ _ _ _ _ _ (x _ _ _ _ _ _ e)
theorem Sq.refl (h : Mem) : Sq h h := fun _ _ _ _ _ _ e => e

/-- of what stood in g, what m shows; of what h has besides, all -/
def ext (m : Mem) (g h : Heap) : Mem := fun b => match g.get? b with | none => h.get? b | some _ => m b
theorem ext_none {m : Mem} {g h : Heap} {b : Addr} (e : g.get? b = none) : ext m g h b = h.get? b := by unfold ext; rw [e]
theorem ext_some {m : Mem} {g h : Heap} {b : Addr} {o : Obj} (e : g.get? b = some o) : ext m g h b = m b := by unfold ext; rw [e]
theorem ext_le {m : Mem} {g h : Heap} (x : Le m g.get?) (k : Kp g h) : Le (ext m g h) h.get? := by
  intro b o e
  cases q : g.get? b with
  | none => rw [ext_none q] at e; exact e
  | some o' => rw [ext_some q] at e; exact k _ _ (x _ _ e)
theorem le_ext {m : Mem} {g h : Heap} (x : Le m g.get?) : Le m (ext m g h) := fun b o e => by rw [ext_some (x _ _ e)]; exact e
theorem ext_refl {m : Mem} {g : Heap} (x : Le m g.get?) : ext m g g = m := by
  funext b
  cases q : g.get? b with
  | none =>
    rw [ext_none q, q]
    cases r : m b with
    | none => rfl
    | some o => rw [x _ _ r] at q; cases q
  | some o => exact ext_some q
theorem ext_trans {m : Mem} {g h₁ h₂ : Heap} (k₁ : Kp g h₁) (k₂ : Kp h₁ h₂) : ext (ext m g h₁) h₁ h₂ = ext m g h₂ := by
  funext b
  cases q : g.get? b with
  | none =>
    rw [ext_none (m := m) q]
    cases r : h₁.get? b with
    | none => exact ext_none r
    | some o => rw [ext_some r, ext_none q, r, k₂ _ _ r]
  | some o => rw [ext_some (k₁ _ _ q), ext_some q, ext_some q]
theorem ext_mono {m : Mem} {g h₁ h₂ : Heap} (k : Kp h₁ h₂) : Le (ext m g h₁) (ext m g h₂) := by
  intro b o e
  cases q : g.get? b with
  | none => rw [ext_none q] at e ⊢; exact k _ _ e
  | some o' => rw [ext_some q] at e ⊢; exact e
theorem ext_low {m : Mem} {g h₁ h₂ : Heap} (x : Le m g.get?) (k : Kp g h₁) : Le (ext m h₁ h₂) (ext m g h₂) := by
  intro b o e
  cases r : h₁.get? b with
  | none =>
    rw [ext_none r] at e
    cases q : g.get? b with
    | none => rw [ext_none q]; exact e
    | some o' => rw [k _ _ q] at r; cases r
  | some o' => rw [ext_some r] at e; rw [ext_some (x _ _ e)]; exact e

structure Rel (α : Type) where
  r : Mem → Value → α → Prop
  st : ∀ {h h' v x}, Sq h h' → r h v x → r h' v x
def intR : Rel Int := ⟨fun _ v i => ∃ t, v = .int i t, fun _ h => h⟩
def strR : Rel Str := ⟨fun _ v i => ∃ t, v = .str i t, fun _ h => h⟩
def boolR : Rel Bool := ⟨fun _ v i => v = .bool i, fun _ h => h⟩
/-- any value at all -/
def valR : Rel Value := ⟨fun _ v w => v = w, fun _ h => h⟩

theorem paired_mono {α β : Type} {F G : α → β → Prop} (hm : ∀ a b, F a b → G a b) : ∀ {l : List α} {l' : List β}, Paired F l l' → Paired G l l'
  | _, _, .nil => .nil
  | _, _, .cons a b => .cons (hm _ _ a) (paired_mono hm b)
theorem paired_get {α β : Type} {F : α → β → Prop} : ∀ {l : List α} {l' : List β}, Paired F l l' → ∀ (i : Nat) (b : β), l'[i]? = some b → ∃ a, l[i]? = some a ∧ F a b
  | _, _, .nil, i, b, e => by simp at e
  | _, _, .cons x y, 0, b, e => by simp at e; subst e; exact ⟨_, by simp, x⟩
  | _, _, .cons x y, i + 1, b, e => by
    simp at e
    obtain ⟨a, h1, h2⟩ := paired_get y i b e
    exact ⟨a, by simpa using h1, h2⟩
theorem paired_get' {α β : Type} {F : α → β → Prop} : ∀ {l : List α} {l' : List β}, Paired F l l' → ∀ (i : Nat) a, l[i]? = some a → ∃ b, l'[i]? = some b ∧ F a b
  | _, _, .nil, i, b, e => by simp at e
  | _, _, .cons x y, 0, b, e => by simp at e; subst e; exact ⟨_, by simp, x⟩
  | _, _, .cons x y, i + 1, b, e => by
    simp at e
    obtain ⟨a, h1, h2⟩ := paired_get' y i b e
    exact ⟨a, by simpa using h1, h2⟩
theorem paired_append {α β : Type} {F : α → β → Prop} : ∀ {l₁ : List α} {l₂ : List β} {m₁ : List α} {m₂ : List β}, Paired F l₁ l₂ → Paired F m₁ m₂ → Paired F (l₁ ++ m₁) (l₂ ++ m₂)
  | _, _, _, _, .nil, h => h
  | _, _, _, _, .cons a b, h => .cons a (paired_append b h)

abbrev seqO (c : String) (vs : List Value) (n : Nat) : Obj := { cls := .type c, data := .seq vs.toArray n }
def seqR {α : Type} (c : String) (R : Rel α) : Rel (List α) where
  r := fun h v xs => ∃ a vs n, v = .ref a ∧ h a = some (seqO c vs n) ∧ Paired (R.r h) vs xs
  st := fun hs ⟨a, vs, n, e, ho, hp⟩ => ⟨a, vs, n, e, hs _ _ _ _ _ _ ho, paired_mono (fun _ _ => R.st hs) hp⟩
abbrev listR {α : Type} (R : Rel α) : Rel (List α) := seqR "list" R
abbrev tupR {α : Type} (R : Rel α) : Rel (List α) := seqR "tuple" R

/-- the tree t, from any heap that shows m, gives x as R lays it, by m and what is new, and keeps all that stood -/
structure G (prog : Program) (w : World) (A : Around) (m : Mem) {α : Type} (t : Sem Value) (R : Rel α) (x : α) : Prop where
  run : ∀ (s : Shared), Le m s.heap.get? → ∀ (Q : Value → Shared → Prop) (E : Value → Shared → Prop),
    (∀ v h' tk, Kp s.heap h' → R.r (ext m s.heap h') v x → Q v { s with heap := h', toks := tk }) → wpAny (model prog w) A t Q E s

/-- the same of a test -/
structure GB (prog : Program) (w : World) (A : Around) (m : Mem) (t : Sem Bool) (b : Bool) : Prop where
  run : ∀ (s : Shared), Le m s.heap.get? → ∀ (Q : Bool → Shared → Prop) (E : Value → Shared → Prop),
    (∀ h' tk, Kp s.heap h' → Q b { s with heap := h', toks := tk }) → wpAny (model prog w) A t Q E s

section
variable {prog : Program} {w : World} {A : Around} {m : Mem} {env : Env} {α β γ : Type}

theorem G.keeps {t : Sem Value} {R : Rel α} {x : α} (g : G prog w A m t R x) {m' : Mem} (k : Le m m') : G prog w A m' t R x :=
  ⟨fun s k' Q E hq => g.run s (k.trans k') Q E fun v h' tk kk r => hq v h' tk kk (R.st (Le.sq fun b o e => by
    cases q : s.heap.get? b with
    | none => rw [ext_none q] at e ⊢; exact e
    | some o' => rw [ext_some q] at e ⊢; exact k _ _ e) r)⟩
theorem GB.keeps {t : Sem Bool} {b : Bool} (g : GB prog w A m t b) {m' : Mem} (k : Le m m') : GB prog w A m' t b :=
  ⟨fun s k' => g.run s (k.trans k')⟩
theorem G.to {t : Sem Value} {R : Rel α} {x y : α} (g : G prog w A m t R x) (e : x = y) : G prog w A m t R y := e ▸ g
theorem GB.to {t : Sem Bool} {x y : Bool} (g : GB prog w A m t x) (e : x = y) : GB prog w A m t y := e ▸ g
theorem G.weaken {t : Sem Value} {R : Rel α} {x : α} {R' : Rel β} {y : β} (g : G prog w A m t R x) (hm : ∀ m' v, Le m m' → R.r m' v x → R'.r m' v y) : G prog w A m t R' y :=
  ⟨fun s k Q E hq => g.run s k Q E fun v h' tk k' r => hq v h' tk k' (hm _ v (le_ext k) r)⟩

theorem G_of {t : Sem Value} {R : Rel α} {x : α} (hx : ∀ (s : Shared), Le m s.heap.get? → ∀ (Q : Value → Shared → Prop) (E : Value → Shared → Prop), (∀ v tk, R.r m v x → Q v { s with toks := tk }) → wpAny (model prog w) A t Q E s) : G prog w A m t R x :=
  ⟨fun s k Q E hq => hx s k Q E fun v tk r => hq v s.heap tk (Kp.refl _) (by rw [ext_refl k]; exact r)⟩

theorem J_int {i : Int} {k : Nat} {pos : Pos} : G prog w A m (eval (.Constant (.int i) k pos) env) intR i :=
  G_of fun _ _ _ _ hq => wpAny_Constant_int (hq _ _ ⟨_, rfl⟩)
theorem J_str {i : Str} {k : Nat} {pos : Pos} : G prog w A m (eval (.Constant (.str i) k pos) env) strR i :=
  G_of fun _ _ _ _ hq => Constant_str (hq _ _ ⟨_, rfl⟩)
theorem J_bool {i : Bool} {k : Nat} {pos : Pos} : G prog w A m (eval (.Constant (.bool i) k pos) env) boolR i :=
  G_of fun s _ _ _ hq => by
    rw [eval_Constant]
    exact wpAny_pure (hq (.bool i) s.toks rfl)

/-- what a name holds -/
def Nm (prog : Program) (w : World) (m : Mem) (env : Env) (x : Str) (v : Value) : Prop :=
  ∀ (A : Around) (Q : Value → Shared → Prop) (E : Value → Shared → Prop) (s : Shared), Le m s.heap.get? → Q v s → wpAny (model prog w) A (loadName env x) Q E s
theorem Nm.keeps {x : Str} {v : Value} (n : Nm prog w m env x v) {m' : Mem} (k : Le m m') : Nm prog w m' env x v := fun A Q E s k' => n A Q E s (k.trans k')

theorem J_name {x : Str} {pos : Pos} {v : Value} {R : Rel α} {a : α} (n : Nm prog w m env x v) (r : R.r m v a) (hd : (x == ("__debug__" : Str)) = false := by decide) :
    G prog w A m (eval (.Name x pos) env) R a :=
  G_of fun s k Q E hq => wpAny_Name (n A Q E s k (hq v s.toks r)) hd

theorem G_bind {t : Sem Value} {f : Value → Sem Value} {R : Rel α} {x : α} {R' : Rel β} {y : β} (g : G prog w A m t R x)
    (hf : ∀ m' v, Le m m' → R.r m' v x → G prog w A m' (f v) R' y) : G prog w A m (t >>= f) R' y :=
  ⟨fun s k Q E hq => wpAny_bind (g.run s k _ _ fun v h' tk k' r => (hf _ v (le_ext k) r).run _ (ext_le k k') _ _ fun v' h'' tk' k'' r' => hq v' h'' tk' (k'.trans k'') (by rw [ext_trans k' k''] at r'; exact r'))⟩

/-- two values, one behind the other -/
theorem two_vals {t₁ t₂ : Sem Value} {R₁ : Rel α} {R₂ : Rel β} {a : α} {b : β} (gl : G prog w A m t₁ R₁ a) (gr : G prog w A m t₂ R₂ b) {s : Shared} (k : Le m s.heap.get?) {Q : Value → Value → Shared → Prop} {E : Value → Shared → Prop}
    (hq : ∀ v₁ v₂ h tk, Kp s.heap h → R₁.r (ext m s.heap h) v₁ a → R₂.r (ext m s.heap h) v₂ b → Q v₁ v₂ { s with heap := h, toks := tk }) :
    wpAny (model prog w) A t₁ (fun v₁ s₁ => wpAny (model prog w) A t₂ (fun v₂ s₂ => Q v₁ v₂ s₂) E s₁) E s :=
  gl.run s k _ _ fun v h₁ tk k₁ r₁ => gr.run _ (k.kp k₁) _ _ fun v₂ h₂ tk₂ k₂ r₂ => hq v v₂ h₂ tk₂ (k₁.trans k₂) (R₁.st (ext_mono k₂).sq r₁) (R₂.st (ext_low k k₁).sq r₂)

theorem J_binop {l r : Expr} {op : Operator} {pos : Pos} {R₁ : Rel α} {R₂ : Rel β} {R : Rel γ} {a : α} {b : β} {c : γ}
    (gl : G prog w A m (eval l env) R₁ a) (gr : G prog w A m (eval r env) R₂ b)
    (go : ∀ m' v₁ v₂, Le m m' → R₁.r m' v₁ a → R₂.r m' v₂ b → G prog w A m' (binaryOp op v₁ v₂) R c) :
    G prog w A m (eval (.BinOp l op r pos) env) R c :=
  ⟨fun s k Q E hq => wpAny_BinOp (two_vals gl gr k fun v₁ v₂ h tk k' r₁ r₂ => (go _ v₁ v₂ (le_ext k) r₁ r₂).run _ (ext_le k k') _ _ fun v' h'' tk' k'' r' => hq v' h'' tk' (k'.trans k'') (by rw [ext_trans k' k''] at r'; exact r'))⟩

theorem J_cmp {l r : Expr} {op : CmpOp} {pos : Pos} {R₁ : Rel α} {R₂ : Rel β} {a : α} {b : β} {c : Bool}
    (gl : G prog w A m (eval l env) R₁ a) (gr : G prog w A m (eval r env) R₂ b)
    (go : ∀ m' v₁ v₂, Le m m' → R₁.r m' v₁ a → R₂.r m' v₂ b → G prog w A m' (compareOp op v₁ v₂) boolR c) (hm : behindInMarks op r = false := by with_unfolding_all rfl) :
    G prog w A m (eval (.Compare l [op] [r] pos) env) boolR c :=
  ⟨fun s k Q E hq => wpAny_Compare1 (two_vals gl gr k fun v₁ v₂ h tk k' r₁ r₂ => (go _ v₁ v₂ (le_ext k) r₁ r₂).run _ (ext_le k k') _ _ fun v' h'' tk' k'' r' => hq v' h'' tk' (k'.trans k'') r') hm⟩
theorem T_cmp {l r : Expr} {op : CmpOp} {pos : Pos} {whole : Sem Value} {R₁ : Rel α} {R₂ : Rel β} {a : α} {b : β} {c : Bool}
    (gl : G prog w A m (eval l env) R₁ a) (gr : G prog w A m (eval r env) R₂ b)
    (go : ∀ m' v₁ v₂, Le m m' → R₁.r m' v₁ a → R₂.r m' v₂ b → G prog w A m' (compareOp op v₁ v₂) boolR c) (hm : behindInMarks op r = false := by with_unfolding_all rfl) :
    GB prog w A m (isTrue (.Compare l [op] [r] pos) env whole) c :=
  ⟨fun s k Q E hq => wpAny_isTrue_Compare1 (two_vals gl gr k fun v₁ v₂ h tk k' r₁ r₂ => (go _ v₁ v₂ (le_ext k) r₁ r₂).run _ (ext_le k k') _ _ fun v' h'' tk' k'' r' => by
      have e : v' = .bool c := r'
      subst e
      exact wpAny_truthy_bool (hq h'' tk' (k'.trans k''))) hm⟩
theorem J_ifexp {test body orelse : Expr} {pos : Pos} {R : Rel α} {a : α} {b : Bool} (gt : GB prog w A m (isTrue test env (eval test env)) b)
    (g1 : b = true → G prog w A m (eval body env) R a) (g2 : b = false → G prog w A m (eval orelse env) R a) : G prog w A m (eval (.IfExp test body orelse pos) env) R a :=
  ⟨fun s k Q E hq => wpAny_IfExp (gt.run s k _ _ fun h₁ tk k₁ => by
    cases b with
    | true => exact (g1 rfl).run _ (k.kp k₁) _ _ fun v h' tk' k' r => hq v h' tk' (k₁.trans k') (R.st (ext_low k k₁).sq r)
    | false => exact (g2 rfl).run _ (k.kp k₁) _ _ fun v h' tk' k' r => hq v h' tk' (k₁.trans k') (R.st (ext_low k k₁).sq r))⟩

-- ints
theorem V_add {v₁ v₂ : Value} {a b : Int} (h1 : intR.r m v₁ a) (h2 : intR.r m v₂ b) : G prog w A m (binaryOp .Add v₁ v₂) intR (a + b) := by
  obtain ⟨t, rfl⟩ := h1; obtain ⟨u, rfl⟩ := h2
  exact G_of fun s _ Q E hq => PyProof.Rows.add_int (hq _ _ ⟨_, rfl⟩)
theorem V_sub {v₁ v₂ : Value} {a b : Int} (h1 : intR.r m v₁ a) (h2 : intR.r m v₂ b) : G prog w A m (binaryOp .Sub v₁ v₂) intR (a - b) := by
  obtain ⟨t, rfl⟩ := h1; obtain ⟨u, rfl⟩ := h2
  exact G_of fun s _ Q E hq => PyProof.Rows.sub_int (hq _ _ ⟨_, rfl⟩)
theorem V_mul {v₁ v₂ : Value} {a b : Int} (hm : IntMulOk a b) (h1 : intR.r m v₁ a) (h2 : intR.r m v₂ b) : G prog w A m (binaryOp .Mult v₁ v₂) intR (a * b) := by
  obtain ⟨t, rfl⟩ := h1; obtain ⟨u, rfl⟩ := h2
  exact G_of fun s _ Q E hq => PyProof.Rows.mul_int (hq _ _ ⟨_, rfl⟩) hm
theorem V_mod {v₁ v₂ : Value} {a b : Int} (hb : b ≠ 0) (h1 : intR.r m v₁ a) (h2 : intR.r m v₂ b) : G prog w A m (binaryOp .Mod v₁ v₂) intR (a.fmod b) := by
  obtain ⟨t, rfl⟩ := h1; obtain ⟨u, rfl⟩ := h2
  exact G_of fun s _ Q E hq => PyProof.Rows.mod_int' hb (hq _ _ ⟨_, rfl⟩)
theorem V_div {v₁ v₂ : Value} {a b : Int} (hb : b ≠ 0) (hp : Builtin.divisionGoesByPylong a b = false) (h1 : intR.r m v₁ a) (h2 : intR.r m v₂ b) : G prog w A m (binaryOp .FloorDiv v₁ v₂) intR (a.fdiv b) := by
  obtain ⟨t, rfl⟩ := h1; obtain ⟨u, rfl⟩ := h2
  exact G_of fun s _ Q E hq => PyProof.Rows.floordiv_int hb (hq _ _ ⟨_, rfl⟩) (.inl hp)
theorem V_and {v₁ v₂ : Value} {a b : Int} (h1 : intR.r m v₁ a) (h2 : intR.r m v₂ b) : G prog w A m (binaryOp .BitAnd v₁ v₂) intR (Builtin.bitAnd a b) := by
  obtain ⟨t, rfl⟩ := h1; obtain ⟨u, rfl⟩ := h2
  exact G_of fun s _ Q E hq => PyProof.Rows.and_int (hq _ _ ⟨_, rfl⟩)
theorem V_pow {v₁ v₂ : Value} {a n : Int} (hn : 0 ≤ n) (hn2 : n ≤ 1000000) (ha : a.natAbs < 2 ^ 64) (h1 : intR.r m v₁ a) (h2 : intR.r m v₂ n) : G prog w A m (binaryOp .Pow v₁ v₂) intR (a ^ n.toNat) := by
  obtain ⟨t, rfl⟩ := h1; obtain ⟨u, rfl⟩ := h2
  exact G_of fun s _ Q E hq => PyProof.Rows.pow_int_small hn hn2 ha (hq _ _ ⟨_, rfl⟩)
theorem V_eqI {v₁ v₂ : Value} {a b : Int} (h1 : intR.r m v₁ a) (h2 : intR.r m v₂ b) : G prog w A m (compareOp .Eq v₁ v₂) boolR (a == b) := by
  obtain ⟨t, rfl⟩ := h1; obtain ⟨u, rfl⟩ := h2
  exact G_of fun s _ Q E hq => PyProof.Rows.eq_int (hq _ s.toks rfl)
theorem V_neI {v₁ v₂ : Value} {a b : Int} (h1 : intR.r m v₁ a) (h2 : intR.r m v₂ b) : G prog w A m (compareOp .NotEq v₁ v₂) boolR (a != b) := by
  obtain ⟨t, rfl⟩ := h1; obtain ⟨u, rfl⟩ := h2
  exact G_of fun s _ Q E hq => PyProof.Rows.ne_int (hq _ s.toks rfl)
theorem V_ltI {v₁ v₂ : Value} {a b : Int} (h1 : intR.r m v₁ a) (h2 : intR.r m v₂ b) : G prog w A m (compareOp .Lt v₁ v₂) boolR (decide (a < b)) := by
  obtain ⟨t, rfl⟩ := h1; obtain ⟨u, rfl⟩ := h2
  exact G_of fun s _ Q E hq => PyProof.Rows.lt_int (hq _ s.toks rfl)
theorem V_geI {v₁ v₂ : Value} {a b : Int} (h1 : intR.r m v₁ a) (h2 : intR.r m v₂ b) : G prog w A m (compareOp .GtE v₁ v₂) boolR (decide (b ≤ a)) := by
  obtain ⟨t, rfl⟩ := h1; obtain ⟨u, rfl⟩ := h2
  exact G_of fun s _ Q E hq => PyProof.Rows.ge_int (hq _ s.toks rfl)
theorem V_eqS {v₁ v₂ : Value} {a b : Str} (h1 : strR.r m v₁ a) (h2 : strR.r m v₂ b) : G prog w A m (compareOp .Eq v₁ v₂) boolR (a == b) := by
  obtain ⟨t, rfl⟩ := h1; obtain ⟨u, rfl⟩ := h2
  exact G_of fun s _ Q E hq => PyProof.Rows.eq_str (hq _ s.toks rfl)
theorem V_neS {v₁ v₂ : Value} {a b : Str} (h1 : strR.r m v₁ a) (h2 : strR.r m v₂ b) : G prog w A m (compareOp .NotEq v₁ v₂) boolR (a != b) := by
  obtain ⟨t, rfl⟩ := h1; obtain ⟨u, rfl⟩ := h2
  exact G_of fun s _ Q E hq => PyProof.Rows.ne_str (hq _ s.toks rfl)
theorem V_addS {v₁ v₂ : Value} {a b : Str} (hsz : a.length + b.length ≤ sizeLine) (h1 : strR.r m v₁ a) (h2 : strR.r m v₂ b) : G prog w A m (binaryOp .Add v₁ v₂) strR (a ++ b) := by
  obtain ⟨t, rfl⟩ := h1; obtain ⟨u, rfl⟩ := h2
  exact G_of fun s _ Q E hq => PyProof.Rows.add_str (fun t tk => hq _ _ ⟨_, rfl⟩) hsz
end
end
-- part L2
section
open PySem PySem.W PyProof.Rows PySem.Calls

/-- a predicate of a value, that lists and tuples alone can turn -/
structure TP where
  p : Mem → Value → Prop
  st : ∀ {h h' v}, Sq h h' → p h v → p h' v
def Rel.at {α : Type} (R : Rel α) (x : α) : TP := ⟨fun h v => R.r h v x, fun hs => R.st hs⟩

def NsM (m : Mem) (a : Addr) (f : Str → Option Value) : Prop := ∃ o es ep, m a = some o ∧ o.data = .dict es ep ∧ StrKeys es ∧ ∀ name, nsFind es name = f name
def CellM (m : Mem) (c : Addr) (v : Option Value) : Prop := ∃ o, m c = some o ∧ o.data = .cell v
theorem NsM.at {m m' : Mem} {a : Addr} {f : Str → Option Value} (n : NsM m a f) (k : ∀ o, m a = some o → m' a = some o) : NsM m' a f := let ⟨o, es, ep, e, r⟩ := n; ⟨o, es, ep, k o e, r⟩
theorem CellM.at {m m' : Mem} {a : Addr} {f : Option Value} (n : CellM m a f) (k : ∀ o, m a = some o → m' a = some o) : CellM m' a f := let ⟨o, e, r⟩ := n; ⟨o, k o e, r⟩
theorem NsM.ns {m : Mem} {h : Heap} {a : Addr} {f : Str → Option Value} (n : NsM m a f) (k : Le m h.get?) : h.Ns a f := let ⟨o, es, ep, e, r⟩ := n; ⟨o, es, ep, k _ _ e, r⟩
theorem CellM.cell {m : Mem} {h : Heap} {a : Addr} {f : Option Value} (n : CellM m a f) (k : Le m h.get?) : h.IsCell a f := let ⟨o, e, r⟩ := n; ⟨o, k _ _ e, r⟩
theorem NsM.of {m : Mem} {h : Heap} {a : Addr} {f : Str → Option Value} (n : h.Ns a f) (k : ∀ o, h.get? a = some o → m a = some o) : NsM m a f := let ⟨o, es, ep, e, r⟩ := n; ⟨o, es, ep, k _ e, r⟩
theorem CellM.of {m : Mem} {h : Heap} {a : Addr} {f : Option Value} (n : h.IsCell a f) (k : ∀ o, h.get? a = some o → m a = some o) : CellM m a f := let ⟨o, e, r⟩ := n; ⟨o, k _ e, r⟩

section
variable {prog : Program} {w : World} {A : Around} {env : Env} {α β γ : Type}

/-- what a name holds, by its kind -/
def NmS (h : Mem) (env : Env) (x : Str) (v : Value) : Prop :=
  env.scope.kind = .function ∧
  ((env.kindOf x = some .local ∧ ∃ m, NsM h env.locals m ∧ m x = some v) ∨
   ((env.kindOf x = some .cell ∨ (env.kindOf x = some .free ∧ (x == ("__classdict__" : Str)) = false)) ∧ ∃ c, env.cells.lookup x = some c ∧ CellM h c (some v)))
theorem NmS.keeps {h h' : Mem} {x : Str} {v : Value} (n : NmS h env x v) (k : Le h h') : NmS h' env x v := by
  obtain ⟨hk, h1 | ⟨h2, c, h3, h4⟩⟩ := n
  · obtain ⟨h1, m, hm, e⟩ := h1
    exact ⟨hk, .inl ⟨h1, m, hm.at (k _), e⟩⟩
  · exact ⟨hk, .inr ⟨h2, c, h3, h4.at (k _)⟩⟩
theorem NmS.nm {h : Mem} {x : Str} {v : Value} (n : NmS h env x v) : Nm prog w h env x v := by
  obtain ⟨hk, h1 | ⟨h2, c, h3, h4⟩⟩ := n
  · obtain ⟨h1, m, hm, e⟩ := h1
    exact fun A Q E s k q => wpAny_loadName_local hk h1 (hm.ns k) e q
  · rcases h2 with h2 | ⟨h2, hn⟩
    · exact fun A Q E s k q => wpAny_loadName_cell hk h2 h3 (h4.cell k) q
    · exact fun A Q E s k q => wpAny_loadName_free hk h2 h3 (h4.cell k) q hn

/-- the ground: the text's own objects, the built-in names -/
structure Gr (K : Frag) (h : Mem) : Prop where
  kin : ∀ a o, K.lookup a = some o → h a = some o
  nolim : ∀ hp : Heap, Le h hp.get? → hp.NoLimit
  names : ∃ mg mb, NsM h mainGlobals mg ∧ NsM h builtinsNs mb ∧ ∀ x : Str, x ≠ "__name__" → mb x = bootBuiltins x
theorem Gr.keeps {K : Frag} {h h' : Mem} (g : Gr K h) (k : Le h h') : Gr K h' :=
  ⟨fun a o e => k _ _ (g.kin a o e), fun hp q => g.nolim hp (k.trans q), let ⟨mg, mb, a, b, c⟩ := g.names; ⟨mg, mb, a.at (k _), b.at (k _), c⟩⟩
theorem Gr.inK {K : Frag} {h : Mem} (g : Gr K h) {hp : Heap} (k : Le h hp.get?) : K.In hp := fun a o e => k _ _ (g.kin a o e)
theorem Gr.global {K : Frag} {h : Mem} (g : Gr K h) {x : Str} {v : Value} (hg : env.globals = mainGlobals) (hk : env.scope.kind = .function) (hx : env.kindOf x = some .globalImplicit)
    (e : nsIn K mainGlobals x = some (some v)) : Nm prog w h env x v := by
  obtain ⟨mg, mb, a, b, c⟩ := g.names
  intro A Q E s k q
  unfold loadName
  simp only [Env.blockKind, hk, hx, ScopeKind.isAnnotationScope, Bool.false_and, Bool.false_eq_true, if_false]
  exact loadGlobal_global (env := env) (mg := mg) (by rw [hg]; exact a.ns k) (mg_of (g.inK k) (a.ns k) e) q
theorem Gr.builtin {K : Frag} {h : Mem} (g : Gr K h) {x : Str} {v : Value} (hg : env.globals = mainGlobals) (hb : env.builtins = builtinsNs) (hk : env.scope.kind = .function) (hx : env.kindOf x = some .globalImplicit)
    (e : nsIn K mainGlobals x = some none) (hv : bootBuiltins x = some v) (hn : x ≠ "__name__") : Nm prog w h env x v := by
  obtain ⟨mg, mb, a, b, c⟩ := g.names
  intro A Q E s k q
  unfold loadName
  simp only [Env.blockKind, hk, hx, ScopeKind.isAnnotationScope, Bool.false_and, Bool.false_eq_true, if_false]
  exact loadGlobal_builtin (env := env) (mg := mg) (mb := mb) (by rw [hg]; exact a.ns k) (mg_none_of (g.inK k) (a.ns k) e) (by rw [hb]; exact b.ns k) ((c x hn).trans hv) q

/-- a name holds a datum -/
def Var (h : Mem) (env : Env) (x : Str) (P : TP) : Prop := ∃ v, NmS h env x v ∧ P.p h v
theorem Var.keeps {h h' : Mem} {x : Str} {P : TP} (n : Var h env x P) (k : Le h h') : Var h' env x P :=
  let ⟨v, a, b⟩ := n; ⟨v, a.keeps k, P.st k.sq b⟩
theorem J_var {h : Mem} {x : Str} {pos : Pos} {R : Rel α} {a : α} (n : Var h env x (R.at a)) (hd : (x == ("__debug__" : Str)) = false := by decide) :
    G prog w A h (eval (.Name x pos) env) R a := let ⟨_, n, r⟩ := n; J_name (NmS.nm n) r hd

/-- from s to s' only the addresses own have turned -/
def Stp (own : Addr → Prop) (s s' : Shared) : Prop := ∃ h tk, s' = { s with heap := h, toks := tk } ∧ ∀ b o, ¬ own b → s.heap.get? b = some o → h.get? b = some o
theorem Stp.refl (own : Addr → Prop) (s : Shared) : Stp own s s := ⟨s.heap, s.toks, rfl, fun _ _ _ e => e⟩
theorem Stp.trans {own : Addr → Prop} {a b c : Shared} (x : Stp own a b) (y : Stp own b c) : Stp own a c := by
  obtain ⟨h, tk, rfl, k⟩ := x
  obtain ⟨h', tk', rfl, k'⟩ := y
  exact ⟨h', tk', rfl, fun b o n e => k' b o n (k b o n e)⟩
theorem Stp.ofKp {own : Addr → Prop} {s : Shared} {h : Heap} {tk : Nat} (k : Kp s.heap h) : Stp own s { s with heap := h, toks := tk } := ⟨h, tk, rfl, fun b o _ e => k b o e⟩
theorem Stp.mono {own own' : Addr → Prop} {a b : Shared} (x : Stp own a b) (hs : ∀ c, own c → own' c) : Stp own' a b :=
  let ⟨h, tk, e, k⟩ := x; ⟨h, tk, e, fun b o n e => k b o (fun m => n (hs _ m)) e⟩

def ownOf (env : Env) : Addr → Prop := fun a => a = env.locals ∨ ∃ n, env.cells.lookup n = some a

/-- the frame at hand: its names (the newest first) and what they hold -/
structure Fm (env : Env) (Γ : List (Str × TP)) (m : Mem) : Prop where
  kind : env.scope.kind = .function
  frame : ∃ f cm : Str → Option Value, NsM m env.locals f ∧ (∀ n c, env.cells.lookup n = some c → CellM m c (cm n)) ∧
    ∀ x P, Γ.lookup x = some P → ∃ v, P.p m v ∧ ((env.kindOf x = some .local ∧ f x = some v) ∨ (env.kindOf x = some .cell ∧ (∃ c, env.cells.lookup x = some c) ∧ cm x = some v))
  apart : env.cells.Pairwise fun x y => x.2 ≠ y.2
  above : ∀ n c, (n, c) ∈ env.cells → env.locals < c

theorem Fm.var {Γ : List (Str × TP)} {m : Mem} (F : Fm env Γ m) {x : Str} {P : TP} (e : Γ.lookup x = some P) : Var m env x P := by
  obtain ⟨f, cm, hn, hc, hv⟩ := F.frame
  obtain ⟨v, hp, ⟨h1, h2⟩ | ⟨h1, ⟨c, h3⟩, h2⟩⟩ := hv x P e
  · exact ⟨v, ⟨F.kind, .inl ⟨h1, f, hn, h2⟩⟩, hp⟩
  · exact ⟨v, ⟨F.kind, .inr ⟨.inl h1, c, h3, h2 ▸ hc x c h3⟩⟩, hp⟩
/-- what is no part of the frame may turn, if no list or tuple does -/
theorem Fm.move {Γ : List (Str × TP)} {m m' : Mem} (F : Fm env Γ m) (hs : Sq m m') (k : ∀ b o, ownOf env b → m b = some o → m' b = some o) : Fm env Γ m' := by
  obtain ⟨f, cm, hn, hc, hv⟩ := F.frame
  refine ⟨F.kind, ⟨f, cm, hn.at fun o e => k _ o (.inl rfl) e, fun n c e => (hc n c e).at fun o e' => k _ o (.inr ⟨n, e⟩) e', fun x P e => ?_⟩, F.apart, F.above⟩
  obtain ⟨v, hp, r⟩ := hv x P e
  exact ⟨v, P.st hs hp, r⟩
theorem Fm.keeps {Γ : List (Str × TP)} {m m' : Mem} (F : Fm env Γ m) (k : Le m m') : Fm env Γ m' := F.move k.sq fun b o _ e => k b o e

theorem sq_of_local {h h' : Heap} {L : Addr} {m : Str → Option Value} (hn : h.Ns L m) (hs : Heap.SameBut L h h') : Sq h.get? h'.get? := by
  intro b c d xs n sl e
  by_cases hb : b = L
  · subst hb
    obtain ⟨o, es, ep, ho, hd, _⟩ := hn
    rw [e] at ho; cases ho; cases hd
  · exact (hs.2 b hb).trans e
theorem sq_of_cell {h h' : Heap} {L : Addr} {v : Option Value} (hn : h.IsCell L v) (hs : Heap.SameBut L h h') : Sq h.get? h'.get? := by
  intro b c d xs n sl e
  by_cases hb : b = L
  · subst hb
    obtain ⟨o, ho, hd⟩ := hn
    rw [e] at ho; cases ho; cases hd
  · exact (hs.2 b hb).trans e
theorem ext_sq {m : Mem} {g h h' : Heap} (s : Sq h.get? h'.get?) : Sq (ext m g h) (ext m g h') := by
  intro b c d xs n sl e
  cases q : g.get? b with
  | none => rw [ext_none q] at e ⊢; exact s _ _ _ _ _ _ e
  | some o' => rw [ext_some q] at e ⊢; exact e

/-- where a body stands: m₀ is what its caller shows of the heap g that it was called in, s₁ where this piece began, own what the piece may turn -/
structure At (m₀ : Mem) (g : Heap) (own : Addr → Prop) (s₁ s : Shared) (env : Env) (Γ : List (Str × TP)) : Prop where
  le : Le m₀ g.get?
  kp : Kp g s.heap
  stp : Stp own s₁ s
  new : ∀ a, own a → g.get? a = none
  mine : ∀ a, ownOf env a → own a
  fm : Fm env Γ (ext m₀ g s.heap)

section
variable {m₀ : Mem} {g : Heap} {own : Addr → Prop} {s₁ s : Shared} {Γ : List (Str × TP)}
theorem At.there (T : At m₀ g own s₁ s env Γ) {a : Addr} (ha : ownOf env a) : s.heap.get? a ≠ none := by
  obtain ⟨f, cm, hf, hc, _⟩ := T.fm.frame
  have lo := ext_le T.le T.kp
  rcases ha with rfl | ⟨n, e⟩
  · obtain ⟨o, _, _, e, _⟩ := hf.ns lo
    rw [e]; exact fun q => nomatch q
  · obtain ⟨o, e, _⟩ := (hc n a e).cell lo
    rw [e]; exact fun q => nomatch q
theorem At.low (T : At m₀ g own s₁ s env Γ) : Le (ext m₀ g s.heap) s.heap.get? := ext_le T.le T.kp
theorem At.base (T : At m₀ g own s₁ s env Γ) : Le m₀ (ext m₀ g s.heap) := le_ext T.le
theorem At.grow (T : At m₀ g own s₁ s env Γ) {h : Heap} {tk : Nat} (k : Kp s.heap h) : At m₀ g own s₁ { s with heap := h, toks := tk } env Γ :=
  ⟨T.le, T.kp.trans k, T.stp.trans (.ofKp k), T.new, T.mine, T.fm.keeps (ext_mono k)⟩
theorem At.var (T : At m₀ g own s₁ s env Γ) {x : Str} {P : TP} (e : Γ.lookup x = some P) : Var (ext m₀ g s.heap) env x P := T.fm.var e
theorem At.here (T : At m₀ g own s₁ s env Γ) : At m₀ g own s s env Γ := ⟨T.le, T.kp, .refl _ _, T.new, T.mine, T.fm⟩
theorem At.back {s₂ : Shared} {Γ' : List (Str × TP)} (T : At m₀ g own s₁ s env Γ) (T' : At m₀ g own s s₂ env Γ') : At m₀ g own s₁ s₂ env Γ' := ⟨T'.le, T'.kp, T.stp.trans T'.stp, T'.new, T'.mine, T'.fm⟩
theorem At.run {t : Sem Value} {R : Rel α} {a : α} (T : At m₀ g own s₁ s env Γ) (gt : G prog w A (ext m₀ g s.heap) t R a) {Q : Value → Shared → Prop} {E : Value → Shared → Prop}
    (hq : ∀ v s', At m₀ g own s₁ s' env Γ → Kp s.heap s'.heap → R.r (ext m₀ g s'.heap) v a → Q v s') : wpAny (model prog w) A t Q E s :=
  gt.run s T.low _ _ fun v h' tk k r => hq v _ (T.grow k) k (by rw [ext_trans T.kp k] at r; exact r)

theorem At.store (T : At m₀ g own s₁ s env Γ) {y : Str} {v : Value} {P : TP} {Q : Unit → Shared → Prop} {E : Value → Shared → Prop}
    (hy : env.kindOf y = some .local ∨ (env.kindOf y = some .cell ∧ (env.cells.lookup y).isSome = true)) (hp : P.p (ext m₀ g s.heap) v)
    (hq : ∀ s', At m₀ g own s₁ s' env ((y, P) :: Γ) → Sq (ext m₀ g s.heap) (ext m₀ g s'.heap) → Stp (ownOf env) s s' → Q () s') : wpAny (model prog w) A (storeName env y v) Q E s := by
  have F := T.fm
  obtain ⟨f, cm, hn, hc, hv⟩ := F.frame
  have gL : g.get? env.locals = none := T.new _ (T.mine _ (.inl rfl))
  have gC : ∀ n c, env.cells.lookup n = some c → g.get? c = none := fun n c e => T.new _ (T.mine _ (.inr ⟨n, e⟩))
  rcases hy with hy | ⟨hy, hyc⟩
  · have hn₀ := hn.ns T.low
    refine wpAny_storeName_local hy hn₀ (fun h' hn' hs' => ?_) (by rw [F.kind]; rfl)
    have sq := ext_sq (m := m₀) (g := g) (sq_of_local hn₀ hs')
    have out : ∀ b o, ¬ ownOf env b → s.heap.get? b = some o → h'.get? b = some o := fun b o hb e => (hs'.2 b fun q => hb (.inl q)).trans e
    refine hq { s with heap := h', toks := s.toks + 1 } ⟨T.le, fun b o e => (hs'.2 b fun q => by rw [q, gL] at e; cases e).trans (T.kp _ _ e), T.stp.trans ⟨h', _, rfl, fun b o hb e => out b o (fun q => hb (T.mine _ q)) e⟩, T.new, T.mine,
      ⟨F.kind, ⟨_, cm, NsM.of hn' fun o e => by rw [ext_none gL]; exact e, fun n c e => (hc n c e).at fun o e' => ?_, fun x P' e => ?_⟩, F.apart, F.above⟩⟩ sq ⟨h', _, rfl, out⟩
    · rw [ext_none (gC n c e)] at e' ⊢
      exact (hs'.2 c (Nat.ne_of_gt (F.above n c (mem_of_lookup e)))).trans e'
    · rw [List.lookup_cons] at e
      by_cases hxy : x = y
      · subst hxy
        simp at e
        subst e
        exact ⟨v, P.st sq hp, .inl ⟨hy, by simp⟩⟩
      · have hb : (x == y) = false := beq_eq_false_iff_ne.mpr hxy
        rw [hb] at e
        obtain ⟨u, hu, r⟩ := hv x P' e
        refine ⟨u, P'.st sq hu, ?_⟩
        rcases r with r | r
        · exact .inl ⟨r.1, by simp only [hxy, if_false]; exact r.2⟩
        · exact .inr r
  · obtain ⟨c, hyc⟩ := Option.isSome_iff_exists.mp hyc
    have hLc := F.above y c (mem_of_lookup hyc)
    have hc₀ := (hc y c hyc).cell T.low
    refine wpAny_storeName_cell F.kind hy hyc hc₀ fun h' hc' hs' => ?_
    have sq := ext_sq (m := m₀) (g := g) (sq_of_cell hc₀ hs')
    have out : ∀ b o, ¬ ownOf env b → s.heap.get? b = some o → h'.get? b = some o := fun b o hb e => (hs'.2 b fun q => hb (.inr ⟨y, by rw [q]; exact hyc⟩)).trans e
    refine hq { s with heap := h', toks := s.toks } ⟨T.le, fun b o e => (hs'.2 b fun q => by rw [q, gC y c hyc] at e; cases e).trans (T.kp _ _ e), T.stp.trans ⟨h', _, rfl, fun b o hb e => out b o (fun q => hb (T.mine _ q)) e⟩, T.new, T.mine,
      ⟨F.kind, ⟨f, fun z => if z = y then some v else cm z, hn.at fun o e => ?_, fun n c' e => ?_, fun x P' e => ?_⟩, F.apart, F.above⟩⟩ sq ⟨h', _, rfl, out⟩
    · rw [ext_none gL] at e ⊢
      exact (hs'.2 _ (Nat.ne_of_lt hLc)).trans e
    · by_cases hn' : n = y
      · subst hn'
        rw [hyc] at e; cases e
        simp only [if_true]
        exact CellM.of hc' fun o e => by rw [ext_none (gC n c hyc)]; exact e
      · show CellM (ext m₀ g h') c' (if n = y then some v else cm n)
        rw [if_neg hn']
        exact (hc n c' e).at fun o e' => by
          rw [ext_none (gC n c' e)] at e' ⊢
          exact (hs'.2 c' fun q => hn' (name_of_addr F.apart (mem_of_lookup e) (q ▸ mem_of_lookup hyc))).trans e'
    · rw [List.lookup_cons] at e
      by_cases hxy : x = y
      · subst hxy
        simp at e
        subst e
        exact ⟨v, P.st sq hp, .inr ⟨hy, ⟨c, hyc⟩, by simp⟩⟩
      · have hb : (x == y) = false := beq_eq_false_iff_ne.mpr hxy
        rw [hb] at e
        obtain ⟨u, hu, r⟩ := hv x P' e
        refine ⟨u, P'.st sq hu, ?_⟩
        rcases r with r | r
        · exact .inl r
        · exact .inr ⟨r.1, r.2.1, by simp only [hxy, if_false]; exact r.2.2⟩

-- statements
variable {Q : Flow → Shared → Prop} {E : Value → Shared → Prop}

theorem X_assign {y : Str} {p' pos : Pos} {e : Expr} {R : Rel α} {a : α} (T : At m₀ g own s₁ s env Γ)
    (hy : env.kindOf y = some .local ∨ (env.kindOf y = some .cell ∧ (env.cells.lookup y).isSome = true)) (hs : swapsWith e (some (.Name y p')) pos.line env = pure false)
    (ge : G prog w A (ext m₀ g s.heap) (eval e env) R a) (hq : ∀ s', At m₀ g own s₁ s' env ((y, R.at a) :: Γ) → Q .next s') :
    wpAny (model prog w) A (exec (.Assign [.Name y p'] e pos) env) Q E s :=
  wpAny_Assign_Name (T.run ge fun v s' T' k r => T'.store (P := R.at a) hy r fun s'' T'' sq st => hq s'' T'') hs

/-- what a body gives back -/
def Ret (m₀ : Mem) (g : Heap) (s₁ : Shared) {α : Type} (R : Rel α) (y : α) (f : Flow) (s' : Shared) : Prop :=
  ∃ v, f = .ret v ∧ R.r (ext m₀ g s'.heap) v y ∧ Kp g s'.heap ∧ ∃ h tk, s' = { s₁ with heap := h, toks := tk }

theorem X_return {e : Expr} {pos : Pos} {R : Rel α} {a : α} (T : At m₀ g own s₁ s env Γ) (ge : G prog w A (ext m₀ g s.heap) (eval e env) R a)
    (hq : ∀ v s', R.r (ext m₀ g s'.heap) v a → Kp g s'.heap → (∃ h tk, s' = { s₁ with heap := h, toks := tk }) → Q (.ret v) s') : wpAny (model prog w) A (exec (.Return (some e) pos) env) Q E s :=
  wpAny_Return_some (T.run ge fun v s' T' k r => hq v s' r T'.kp (let ⟨h, tk, e, _⟩ := T'.stp; ⟨h, tk, e⟩))
theorem X_ret {e : Expr} {pos : Pos} {rest : List Stmt} {R : Rel α} {a : α} (T : At m₀ g own s₁ s env Γ) (ge : G prog w A (ext m₀ g s.heap) (eval e env) R a) :
    wpAny (model prog w) A (execs (.Return (some e) pos :: rest) env) (Ret m₀ g s₁ R a) E s :=
  wpAny_execs_cons (X_return T ge fun v s' r k h => ⟨v, rfl, r, k, h⟩)

theorem X_if {test : Expr} {body orelse : List Stmt} {pos : Pos} {b : Bool} (T : At m₀ g own s₁ s env Γ) (gt : GB prog w A (ext m₀ g s.heap) (isTrue test env (eval test env)) b)
    (h1 : b = true → ∀ s', At m₀ g own s₁ s' env Γ → wpAny (model prog w) A (execs body env) Q E s')
    (h2 : b = false → ∀ s', At m₀ g own s₁ s' env Γ → wpAny (model prog w) A (execs orelse env) Q E s') : wpAny (model prog w) A (exec (.If test body orelse pos) env) Q E s :=
  wpAny_If (gt.run s T.low _ _ fun h' tk k => by
    cases b with
    | true => exact h1 rfl _ (T.grow k)
    | false => exact h2 rfl _ (T.grow k))
end

/-- room for n calls more -/
structure Rm (A : Around) (n : Nat) : Prop where
  handled : A.handled = none
  depth : A.depth + n < recursionLimit
  units : A.units + 8 * n + 8 < cLine
theorem Rm.deeper {n : Nat} (r : Rm A (n + 1)) : Rm (A.deeper env) n :=
  ⟨r.handled, by have := r.depth; show A.depth + 1 + n < _; omega, by have := r.units; show A.units + 3 + 8 * n + 8 < _; omega⟩
theorem Rm.less {n k : Nat} (r : Rm A n) (hk : k ≤ n) : Rm A k := ⟨r.handled, by have := r.depth; omega, by have := r.units; omega⟩

/-- the env of a call, what nothing asks left open -/
abbrev ev (sc : Scope) (L : Addr) (q : Str) (fn : Option Addr) (cd : Value) (fr : Option Addr) : Env :=
  { scope := sc, locals := L, globals := mainGlobals, cells := cellsFrom (L + 1) sc.names [], qual := q, func := fn, code := cd, frame := fr, builtins := builtinsNs }

/-- where each parameter lies -/
def Binds (sc : Scope) (binds : List (Str × Value)) (m : Mem) (Γ : List (Str × TP)) : Prop :=
  ∀ (L : Nat) q fn cd fr, ∀ x P, Γ.lookup x = some P → ∃ v, P.p m v ∧ (((ev sc L q fn cd fr).kindOf x = some .local ∧ bindL (ev sc L q fn cd fr).kindOf binds (fun _ => none) x = some v) ∨
      ((ev sc L q fn cd fr).kindOf x = some .cell ∧ (∃ c, (ev sc L q fn cd fr).cells.lookup x = some c) ∧ bindC (ev sc L q fn cd fr).kindOf binds (fun _ => none) x = some v))

/-- a def of the text's, as the written part bears it -/
structure Def (K : Frag) (a : Addr) (ps : List Str) (sc : Scope) (body : List Stmt) : Prop where
  what : ∃ oc od osl fd, K.lookup a = some ⟨oc, od, .func fd, osl⟩ ∧ codeIn K fd.code fd.qualname = true ∧ fd.body = .stmts body ∧ fd.scope = sc ∧ fd.closure = [] ∧ fd.globals = mainGlobals ∧ fd.builtins = builtinsNs ∧
    ∀ vals : List Value, vals.length = ps.length → bindArgs fd ⟨vals, []⟩ = pure (ps.zip vals)
  co : sc.isCoroutine = false
  gen : sc.isGenerator = false
  kind : sc.kind = .function
  par : ∀ N : Nat, ∀ x ∈ ps, sc.names.lookup x = some .local ∨ (sc.names.lookup x = some .cell ∧ ((cellsFrom N sc.names []).lookup x).isSome = true)

theorem bindL_out {kd : Str → Option NameKind} : ∀ (binds : List (Str × Value)) (f : Str → Option Value) (x : Str), x ∉ binds.map (·.1) → bindL kd binds f x = f x
  | [], _, _, _ => rfl
  | (n, w) :: r, f, x, h => by
    have h1 : x ≠ n := fun e => h (by rw [e]; exact List.mem_cons_self)
    have h2 : x ∉ r.map (·.1) := fun e => h (List.mem_cons_of_mem _ e)
    unfold bindL
    rw [bindL_out r _ x h2]
    split
    · simp [h1]
    · rfl
theorem bindC_out {kd : Str → Option NameKind} : ∀ (binds : List (Str × Value)) (f : Str → Option Value) (x : Str), x ∉ binds.map (·.1) → bindC kd binds f x = f x
  | [], _, _, _ => rfl
  | (n, w) :: r, f, x, h => by
    have h1 : x ≠ n := fun e => h (by rw [e]; exact List.mem_cons_self)
    have h2 : x ∉ r.map (·.1) := fun e => h (List.mem_cons_of_mem _ e)
    unfold bindC
    rw [bindC_out r _ x h2]
    split
    · rfl
    · simp [h1]
theorem bindL_in {kd : Str → Option NameKind} : ∀ (binds : List (Str × Value)) (f : Str → Option Value) (x : Str) (v : Value), (binds.map (·.1)).Nodup → (x, v) ∈ binds → kd x = some .local → bindL kd binds f x = some v
  | (n, w) :: r, f, x, v, hn, hm, hk => by
    rw [List.map_cons, List.nodup_cons] at hn
    unfold bindL
    rcases List.mem_cons.mp hm with e | hm
    · cases e
      rw [bindL_out r _ _ hn.1, if_pos hk]
      simp
    · exact bindL_in r _ x v hn.2 hm hk
theorem bindC_in {kd : Str → Option NameKind} : ∀ (binds : List (Str × Value)) (f : Str → Option Value) (x : Str) (v : Value), (binds.map (·.1)).Nodup → (x, v) ∈ binds → kd x = some .cell → bindC kd binds f x = some v
  | (n, w) :: r, f, x, v, hn, hm, hk => by
    rw [List.map_cons, List.nodup_cons] at hn
    unfold bindC
    rcases List.mem_cons.mp hm with e | hm
    · cases e
      rw [bindC_out r _ _ hn.1, if_neg (by rw [hk]; decide)]
      simp
    · exact bindC_in r _ x v hn.2 hm hk
theorem zip_both {m : Mem} : ∀ (ps : List Str) (tps : List TP) (vals : List Value), Paired (fun (P : TP) v => P.p m v) tps vals → ∀ x P, (ps.zip tps).lookup x = some P → ∃ v, P.p m v ∧ (x, v) ∈ ps.zip vals ∧ x ∈ ps
  | [], _, _, _, x, P, e => by simp at e
  | p :: ps, [], _, _, x, P, e => by simp at e
  | p :: ps, T :: tps, _, .cons (b := v) h hr, x, P, e => by
    rw [List.zip_cons_cons, List.lookup_cons] at e
    cases hb : x == p with
    | true =>
      rw [hb] at e
      cases e
      have : x = p := eq_of_beq hb
      subst this
      exact ⟨v, h, by simp, by simp⟩
    | false =>
      rw [hb] at e
      obtain ⟨u, h1, h2, h3⟩ := zip_both ps tps _ hr x P e
      exact ⟨u, h1, by rw [List.zip_cons_cons]; exact List.mem_cons_of_mem _ h2, List.mem_cons_of_mem _ h3⟩
theorem zip_names : ∀ (ps : List Str) (vals : List Value), vals.length = ps.length → (ps.zip vals).map (·.1) = ps
  | [], [], _ => rfl
  | _ :: ps, _ :: vals, h => by rw [List.zip_cons_cons, List.map_cons, zip_names ps vals (by simpa using h)]
  | [], _ :: _, h => by simp at h
  | _ :: _, [], h => by simp at h

/-- a call of a def of the text's -/
theorem call_fn {K : Frag} {m : Mem} {n : Nat} {a : Addr} {body : List Stmt} {sc : Scope} {ps : List Str} {vals : List Value} {Γ : List (Str × TP)} {R : Rel α} {y : α} (D : Def K a ps sc body)
    (g : Gr K m) (rm : Rm A (n + 1)) {tps : List TP} (hΓ : Γ = ps.zip tps) (hlen : vals.length = ps.length) (hP : Paired (fun (P : TP) v => P.p m v) tps vals) (hnd : ps.Nodup)
    (h1 : ∀ L q fn cd fr hp s₁ A' (E : Value → Shared → Prop), At m hp (ownOf (ev sc L q fn cd fr)) s₁ s₁ (ev sc L q fn cd fr) Γ → Rm A' n →
      wpAny (model prog w) A' (execs body (ev sc L q fn cd fr)) (Ret m hp s₁ R y) E s₁) :
    G prog w A m (call (.ref a) vals) R y := by
  obtain ⟨⟨oc, od, osl, fd, ho, hcd, hbody, rfl, hclo, hgl, hbi, hb⟩, hco, hgen, hk, hpar⟩ := D
  have hΓ' : Binds fd.scope (ps.zip vals) m Γ := by
    intro L q fn cd fr x P e
    rw [hΓ] at e
    obtain ⟨v, h1, h2, h3⟩ := zip_both ps tps vals hP x P e
    have hn : ((ps.zip vals).map (·.1)).Nodup := by rw [zip_names ps vals hlen]; exact hnd
    rcases hpar (L + 1) x h3 with hl | ⟨hl, hc⟩
    · exact ⟨v, h1, .inl ⟨hl, bindL_in _ _ x v hn h2 hl⟩⟩
    · exact ⟨v, h1, .inr ⟨hl, Option.isSome_iff_exists.mp hc, bindC_in _ _ x v hn h2 hl⟩⟩
  refine ⟨fun s k Q E hq => ?_⟩
  refine wpAny_call ?_
  have X := g.inK k
  have hkind : ∀ N : Nat, ∀ x ∈ ps.zip vals, fd.scope.names.lookup x.1 = some .local ∨ (fd.scope.names.lookup x.1 = some .cell ∧ ((cellsFrom N fd.scope.names []).lookup x.1).isSome = true) :=
    fun N x hx => hpar N x.1 (List.of_mem_zip hx).1
  refine codeAny_call_cells (by have := rm.depth; omega) (X _ _ ho) rfl (g.nolim _ k) (codeRec_of X hcd) hbody (hb vals hlen) hclo (hkind _) (fun s₂ x => ?_) hco hgen hk
  obtain ⟨⟨⟨h₂, tk₂, rfl⟩, hns, keep, fresh⟩, hcell, apart, above⟩ := x
  have he : callEnvC fd s.heap.objs.size a = ev fd.scope s.heap.objs.size (fd.qualname ++ ".<locals>.") (some a) fd.code (some s.heap.objs.size) := by
    unfold callEnvC newEnv ev
    rw [hgl, hbi]
  rw [he] at hns hcell apart above ⊢
  have hown : ∀ b, ownOf (ev fd.scope s.heap.objs.size (fd.qualname ++ ".<locals>.") (some a) fd.code (some s.heap.objs.size)) b → s.heap.get? b = none := fun b hm => by
    refine Heap.get?_none_of_le ?_
    rcases hm with hm | ⟨z, hz⟩
    · have this : b = s.heap.objs.size := hm
      rw [this]; exact Nat.le_refl _
    · have h3 : s.heap.objs.size < b := above z b (mem_of_lookup hz)
      exact Nat.le_of_lt h3
  refine wpAny_mono (h1 s.heap.objs.size _ _ _ _ s.heap _ _ (fun e s' => wpAny (model prog w) (A.deeper (ev fd.scope s.heap.objs.size (fd.qualname ++ ".<locals>.") (some a) fd.code (some s.heap.objs.size))) (leaving (ev fd.scope s.heap.objs.size (fd.qualname ++ ".<locals>.") (some a) fd.code (some s.heap.objs.size)) e) (fun _ s'' => E e s'') (fun e' s'' => E e' s'') s')
    ⟨k, keep, .refl _ _, hown, fun _ h => h, ⟨hk, ⟨_, _, NsM.of hns fun o e => ?_, fun n c e => CellM.of (hcell n c e) fun o e' => ?_, fun x P e => ?_⟩, apart, above⟩⟩ rm.deeper) (fun f s' hf => ?_) fun _ _ e => e
  · rw [ext_none (hown _ (.inl rfl))]; exact e
  · rw [ext_none (hown _ (.inr ⟨n, e⟩))]; exact e'
  · obtain ⟨v, hp, r⟩ := hΓ' s.heap.objs.size _ _ _ _ x P e
    exact ⟨v, P.st (le_ext k).sq hp, r⟩
  · obtain ⟨v, rfl, hr, kk, h', tk', rfl⟩ := hf
    exact hq v h' tk' kk hr
theorem Def.fn {K : Frag} {a : Addr} {ps : List Str} {sc : Scope} {body : List Stmt} (D : Def K a ps sc body) : ∃ oc od osl fd, K.lookup a = some ⟨oc, od, .func fd, osl⟩ := let ⟨oc, od, osl, fd, ho, _⟩ := D.what; ⟨oc, od, osl, fd, ho⟩
end
end
-- part L3
section
open PySem PySem.W PyProof.Rows PySem.Calls
section
variable {prog : Program} {w : World} {A : Around} {env : Env} {α β γ : Type}

/-- an iterator that stands ready over xs -/
structure ItOk (prog : Program) (w : World) (A : Around) {α : Type} (RA : Rel α) (xs : List α) (mx : Mem) (hx : Heap) (I : Addr) (fp : List Addr) (P : Nat → Value → Prop) (St : Nat → Heap → Prop) (h' : Heap) : Prop where
  walks : Walks prog w A I fp [I] xs.length P St
  start : St 0 h'
  inn : ∀ b ∈ fp, b < h'.objs.size
  up : Kp hx h'
  fresh : hx.get? I = none
  obj : ∀ i h, St i h → ∃ o, h.get? I = some o ∧ ∀ xs n, o.data ≠ .seq xs n
  item : ∀ i v, P i v → ∃ a, xs[i]? = some a ∧ RA.r mx v a
  fpseq : ∀ b ∈ fp, b ≠ I → ∃ o xs n, mx b = some o ∧ o.data = .seq xs n

structure GI (prog : Program) (w : World) (A : Around) (m : Mem) {α : Type} (t : Sem Value) (RA : Rel α) (xs : List α) : Prop where
  run : ∀ (s : Shared), Le m s.heap.get? → ∀ (Q : Value → Shared → Prop) (E : Value → Shared → Prop),
    (∀ hx I fp P St h' tk, Kp s.heap hx → ItOk prog w A RA xs (ext m s.heap hx) hx I fp P St h' → Q (.ref I) { s with heap := h', toks := tk }) →
    wpAny (model prog w) A t (fun x s₁ => wpAny (model prog w) A (pyIter x) Q E s₁) E s

theorem GI_list {m : Mem} {t : Sem Value} {RA : Rel α} {xs : List α} (hh : A.handled = none) (g : G prog w A m t (listR RA) xs) : GI prog w A m t RA xs := by
  refine ⟨fun s k Q E hq => ?_⟩
  refine g.run s k _ _ fun v h₁ tk k₁ r => ?_
  obtain ⟨a, vs, n, rfl, ho', hp⟩ := r
  have ho := ext_le k k₁ _ _ ho'
  have hl : h₁.IsList a vs.toArray := ⟨_, ho, rfl, n, rfl⟩
  have hlt := Heap.lt_size ho
  refine wpAny_pyIter_list (s := { s with heap := h₁, toks := tk }) hl (hq h₁ h₁.objs.size [h₁.objs.size, a] (fun i v => vs.toArray[i]? = some v) (fun i h => h.IsListIter h₁.objs.size a i ∧ h.IsList a vs.toArray) _ tk k₁ ⟨?_, ⟨⟨_, Heap.get?_push_size _ rfl, rfl, rfl⟩, hl.push _⟩, ?_, Kp.push _ _, ?_, ?_, ?_, ?_⟩)
  · have e9 : xs.length = vs.toArray.size := by rw [List.size_toArray]; exact hp.length.symm
    rw [e9]
    exact Walks.list (prog := prog) (w := w) hh h₁.objs.size a (Nat.ne_of_lt hlt) vs.toArray
  · intro b hb
    show b < (h₁.push _).objs.size
    rw [Heap.size_push]
    rcases List.mem_cons.mp hb with rfl | hb
    · exact Nat.lt_succ_self _
    · rw [List.mem_singleton.mp hb]; exact Nat.lt_succ_of_lt hlt
  · exact Heap.get?_none_of_le (Nat.le_refl _)
  · rintro i h ⟨⟨o, e, _, ed⟩, _⟩
    exact ⟨o, e, fun xs n => by rw [ed]; exact fun q => nomatch q⟩
  · intro i v e
    exact paired_get' hp i v (by simpa using e)
  · intro b hb hne
    rcases List.mem_cons.mp hb with rfl | hb
    · exact absurd rfl hne
    · rw [List.mem_singleton.mp hb]; exact ⟨_, _, _, ho', rfl⟩

theorem GI_tuple {m : Mem} {t : Sem Value} {RA : Rel α} {xs : List α} (hh : A.handled = none) (g : G prog w A m t (tupR RA) xs) : GI prog w A m t RA xs := by
  refine ⟨fun s k Q E hq => ?_⟩
  refine g.run s k _ _ fun v h₁ tk k₁ r => ?_
  obtain ⟨a, vs, n, rfl, ho', hp⟩ := r
  have ho := ext_le k k₁ _ _ ho'
  have hl : h₁.IsTuple a vs.toArray := ⟨_, ho, rfl, n, rfl⟩
  have hlt := Heap.lt_size ho
  refine wpAny_pyIter_tuple (s := { s with heap := h₁, toks := tk }) hl (hq h₁ h₁.objs.size [h₁.objs.size, a] (fun i v => vs.toArray[i]? = some v) (fun i h => h.IsTupleIter h₁.objs.size a i ∧ h.IsTuple a vs.toArray) _ tk k₁ ⟨?_, ⟨⟨_, Heap.get?_push_size _ rfl, rfl, rfl⟩, hl.push _⟩, ?_, Kp.push _ _, ?_, ?_, ?_, ?_⟩)
  · have e9 : xs.length = vs.toArray.size := by rw [List.size_toArray]; exact hp.length.symm
    rw [e9]
    exact Walks.tuple (prog := prog) (w := w) hh h₁.objs.size a (Nat.ne_of_lt hlt) vs.toArray
  · intro b hb
    show b < (h₁.push _).objs.size
    rw [Heap.size_push]
    rcases List.mem_cons.mp hb with rfl | hb
    · exact Nat.lt_succ_self _
    · rw [List.mem_singleton.mp hb]; exact Nat.lt_succ_of_lt hlt
  · exact Heap.get?_none_of_le (Nat.le_refl _)
  · rintro i h ⟨⟨o, e, _, ed⟩, _⟩
    exact ⟨o, e, fun xs n => by rw [ed]; exact fun q => nomatch q⟩
  · intro i v e
    exact paired_get' hp i v (by simpa using e)
  · intro b hb hne
    rcases List.mem_cons.mp hb with rfl | hb
    · exact absurd rfl hne
    · rw [List.mem_singleton.mp hb]; exact ⟨_, _, _, ho', rfl⟩

/-- the slot of a comprehension's letter -/
def LSlot (env : Env) (x : Str) (a : Addr) (h : Heap) : Prop :=
  env.scope.kind = .function ∧ ((env.kindOf x = some .local ∧ env.locals = a ∧ ∃ m, h.Ns a m) ∨ (env.kindOf x = some .cell ∧ env.cells.lookup x = some a ∧ ∃ v, h.IsCell a v))
/-- the slot holds v -/
def Held (env : Env) (x : Str) (a : Addr) (v : Value) (h : Heap) : Prop :=
  env.scope.kind = .function ∧ ((env.kindOf x = some .local ∧ env.locals = a ∧ ∃ m, h.Ns a m ∧ m x = some v) ∨ (env.kindOf x = some .cell ∧ env.cells.lookup x = some a ∧ h.IsCell a (some v)))
theorem Held.slot {x : Str} {a : Addr} {v : Value} {h : Heap} (H : Held env x a v h) : LSlot env x a h := by
  obtain ⟨hk, ⟨h1, h2, m, hn, _⟩ | ⟨h1, h2, hc⟩⟩ := H
  · exact ⟨hk, .inl ⟨h1, h2, m, hn⟩⟩
  · exact ⟨hk, .inr ⟨h1, h2, _, hc⟩⟩
theorem Held.nm {x : Str} {a : Addr} {v : Value} {h : Heap} {m' : Mem} (H : Held env x a v h) (k : ∀ o, h.get? a = some o → m' a = some o) : NmS m' env x v := by
  obtain ⟨hk, ⟨h1, rfl, m, hn, e⟩ | ⟨h1, h2, hc⟩⟩ := H
  · exact ⟨hk, .inl ⟨h1, m, NsM.of hn k, e⟩⟩
  · exact ⟨hk, .inr ⟨.inl h1, a, h2, CellM.of hc k⟩⟩
theorem Held.keeps {x : Str} {a : Addr} {v : Value} {h h' : Heap} (S : Held env x a v h) (k : ∀ o, h.get? a = some o → h'.get? a = some o) : Held env x a v h' := by
  obtain ⟨hk, ⟨h1, h2, m, hn, e⟩ | ⟨h1, h2, hc⟩⟩ := S
  · exact ⟨hk, .inl ⟨h1, h2, m, hn.at' k, e⟩⟩
  · obtain ⟨o, e, hd⟩ := hc
    exact ⟨hk, .inr ⟨h1, h2, ⟨o, k o e, hd⟩⟩⟩
theorem LSlot.store {x : Str} {a : Addr} {s : Shared} {v : Value} {Q : Unit → Shared → Prop} {E : Value → Shared → Prop} (S : LSlot env x a s.heap)
    (hq : ∀ h' tk, Held env x a v h' → Heap.SameBut a s.heap h' → Sq s.heap.get? h'.get? → Q () { s with heap := h', toks := tk }) : wpAny (model prog w) A (storeName env x v) Q E s := by
  obtain ⟨hk, ⟨h1, rfl, m, hn⟩ | ⟨h1, h2, u, hc⟩⟩ := S
  · exact wpAny_storeName_local h1 hn (fun h' hn' hs' => hq h' _ ⟨hk, .inl ⟨h1, rfl, _, hn', by simp⟩⟩ hs' (sq_of_local hn hs')) (by rw [hk]; rfl)
  · exact wpAny_storeName_cell hk h1 h2 hc fun h' hc' hs' => hq h' s.toks ⟨hk, .inr ⟨h1, h2, hc'⟩⟩ hs' (sq_of_cell hc hs')
theorem LSlot.keeps {x : Str} {a : Addr} {h h' : Heap} (S : LSlot env x a h) (k : ∀ o, h.get? a = some o → h'.get? a = some o) : LSlot env x a h' := by
  obtain ⟨hk, ⟨h1, h2, m, hn⟩ | ⟨h1, h2, u, hc⟩⟩ := S
  · exact ⟨hk, .inl ⟨h1, h2, m, hn.at' k⟩⟩
  · obtain ⟨o, e, hd⟩ := hc
    exact ⟨hk, .inr ⟨h1, h2, u, ⟨o, k o e, hd⟩⟩⟩

def compIfs (env : Env) (ifs : List Expr) : Sem Bool := forIn ifs true fun c r => if r = true then do let ok ← isTrue c env (eval c env); pure (ForInStep.yield ok) else pure (ForInStep.yield r)
theorem ifs_nil {m : Mem} : GB prog w A m (compIfs env []) true := ⟨fun s k Q E hq => wpAny_tests_nil (hq s.heap s.toks (Kp.refl _))⟩
theorem ifs_one {m : Mem} {c : Expr} {b : Bool} (g : GB prog w A m (isTrue c env (eval c env)) b) : GB prog w A m (compIfs env [c]) b := ⟨fun s k Q E hq => wpAny_tests_one (g.run s k Q E hq)⟩

theorem sq_but {h h' : Heap} {I : Addr} (hI : ∀ o, h.get? I = some o → ∀ xs n, o.data ≠ .seq xs n) (k : ∀ b o, b ≠ I → h.get? b = some o → h'.get? b = some o) : Sq h.get? h'.get? := by
  intro b c d xs n sl e
  by_cases hb : b = I
  · subst hb; exact absurd rfl (hI _ e xs n)
  · exact k b _ hb e

/-- all that m shows of g, all that is new in h, but for D -/
def offD (D : Addr) (m : Mem) (g h : Heap) : Mem := fun b => if b = D then none else ext m g h b
theorem offD_le {D : Addr} {m : Mem} {g h : Heap} : Le (offD D m g h) (ext m g h) := fun b o e => by
  unfold offD at e
  by_cases hb : b = D
  · rw [if_pos hb] at e; cases e
  · rw [if_neg hb] at e; exact e
theorem offD_ne {D b : Addr} {m : Mem} {g h : Heap} (hb : b ≠ D) : offD D m g h b = ext m g h b := if_neg hb
theorem offD_sq {D : Addr} {m : Mem} {g h h' : Heap} (s : Sq h.get? h'.get?) : Sq (offD D m g h) (offD D m g h') := by
  intro b c d xs n sl e
  by_cases hb : b = D
  · unfold offD at e; rw [if_pos hb] at e; cases e
  · rw [offD_ne hb] at e ⊢; exact ext_sq s _ _ _ _ _ _ e

/-- the loop of a comprehension, its env and list and iterator laid out -/
theorem comp_loop {elt iter : Expr} {x : Str} {px : Pos} {ifs : List Expr} {scope : Scope} {pos : Pos} {cenv : Env} {I D C a : Addr} {fp : List Addr} {P : Nat → Value → Prop} {St : Nat → Heap → Prop} {m : Mem} {g hx hb : Heap}
    {RA : Rel α} {RB : Rel β} {xs : List α} {p : α → Bool} {f : α → β} {R : Result → Shared → Prop} {s : Shared} (le : Le m g.get?) (kgx : Kp g hx)
    (T : ItOk prog w A RA xs (ext m g hx) hx I fp P St hb) (hkb : ∀ b o, b ≠ I → hb.get? b = some o → s.heap.get? b = some o) (hst : St 0 s.heap)
    (hD : s.heap.get? D = some (seqO "list" [] 0)) (hDn : hb.get? D = none) (hDfp : D ∉ fp) (hS : LSlot cenv x a s.heap) (han : hb.get? a = none) (hafp : a ∉ fp) (haD : a ≠ D)
    (hC : ∃ m, s.heap.Ns C m) (hCn : hb.get? C = none) (hCD : C ≠ D) (hCfp : C ∉ fp) (hlen : xs.length ≤ sizeLine)
    (gt : ∀ m' v y, Le m m' → y ∈ xs → RA.r m' v y → NmS m' cenv x v → GB prog w A m' (compIfs cenv ifs) (p y))
    (ge : ∀ m' v y, Le m m' → y ∈ xs → p y = true → RA.r m' v y → NmS m' cenv x v → G prog w A m' (eval elt cenv) RB (f y))
    (hR : ∀ h' tk, Kp g h' → (∃ m, h'.Ns C m) → h'.get? C ≠ none → (listR RB).r (ext m g h') (.ref D) ((xs.filter p).map f) → R (.ok .next) { s with heap := h', toks := tk }) :
    codeAny (model prog w) A (.compLoop (.ListComp elt [⟨.Name x px, iter, ifs, 0⟩] scope pos) 0 (.ref I) (.ref D) cenv) R s := by
  have hIfp : I ∈ fp := T.walks.sub I (List.mem_singleton.mpr rfl)
  have hDI : D ≠ I := fun e => hDfp (e ▸ hIfp)
  have haI : a ≠ I := fun e => hafp (e ▸ hIfp)
  have hCI : C ≠ I := fun e => hCfp (e ▸ hIfp)
  have old : ∀ b o, hx.get? b = some o → b ≠ I ∧ b ≠ D ∧ b ≠ a ∧ b ≠ C := fun b o e => by
    refine ⟨fun q => ?_, fun q => ?_, fun q => ?_, fun q => ?_⟩
    · rw [q, T.fresh] at e; cases e
    · have := T.up _ _ e; rw [q, hDn] at this; cases this
    · have := T.up _ _ e; rw [q, han] at this; cases this
    · have := T.up _ _ e; rw [q, hCn] at this; cases this
  have gD : g.get? D = none := by
    cases q : g.get? D with
    | none => rfl
    | some o => exact absurd rfl (old D o (kgx _ _ q)).2.1
  have ga : g.get? a = none := by
    cases q : g.get? a with
    | none => rfl
    | some o => exact absurd rfl (old a o (kgx _ _ q)).2.2.1
  -- what stood at hx is in view
  have lex : ∀ h : Heap, Kp hx h → Le (ext m g hx) (offD D m g h) := fun h k b o e => by
    have hb := ext_le le kgx _ _ e
    rw [offD_ne (old b o hb).2.1]
    exact ext_mono k _ _ e
  have lem : ∀ h : Heap, Kp hx h → Le m (offD D m g h) := fun h k => (le_ext le).trans (lex h k)
  refine codeAny_compLoop_tests
    (fun k s' => ∃ h' tk i vs n, s' = { s with heap := h', toks := tk } ∧ i ≤ xs.length ∧ k = xs.length + 1 - i ∧ St i h' ∧ Kp hx h' ∧ LSlot cenv x a h' ∧ (∃ m, h'.Ns C m) ∧
      h'.get? D = some (seqO "list" vs n) ∧ Paired (RB.r (offD D m g h')) vs (((xs.take i).filter p).map f)) ?_ (xs.length + 1)
    ⟨s.heap, s.toks, 0, [], 0, rfl, Nat.zero_le _, rfl, hst, fun b o e => hkb b o (old b o e).1 (T.up b o e), hS, hC, hD, by simpa using Paired.nil⟩
  rintro k s' ⟨h', tk, i, vs, n, rfl, hi, rfl, hst', hk', hS', hC', hD', hp'⟩
  have lens : vs.length ≤ i := by
    rw [hp'.length, List.length_map]
    exact Nat.le_trans (List.length_filter_le _ _) (by rw [List.length_take]; exact Nat.min_le_left _ _)
  by_cases hlt : i < xs.length
  · refine T.walks.item i _ _ _ hlt hst' fun v h₂ tk₂ hPv hst₂ hk₂ => ?_
    have hk2 : ∀ b o, b ≠ I → h'.get? b = some o → h₂.get? b = some o := fun b o hb e => hk₂ b o (by simpa using hb) e
    obtain ⟨oI, heI, hoI⟩ := T.obj i h' hst'
    have sq2 : Sq h'.get? h₂.get? := sq_but (fun o e => by rw [heI] at e; cases e; exact hoI) hk2
    obtain ⟨y, hy, hry⟩ := T.item i v hPv
    have hkx2 : Kp hx h₂ := fun b o e => hk2 b o (old b o e).1 (hk' b o e)
    refine wpAny_assign_Name ((hS'.keeps fun o e => hk2 a o haI e).store fun h₃ tk₃ hH₃ hs₃ sq3 => ?_)
    have hS₃ := hH₃.slot
    have hkx3 : Kp hx h₃ := fun b o e => (hs₃.2 b (old b o e).2.2.1).trans (hkx2 b o e)
    have hmem : y ∈ xs := List.mem_of_getElem? hy
    have hst₃ : St (i + 1) h₃ := T.walks.frame _ _ _ hst₂ fun b hb o e => (hs₃.2 b fun q => hafp (q ▸ hb)).trans e
    have hC₃ : ∃ m, h₃.Ns C m := by
      by_cases hCa : C = a
      · obtain ⟨hk0, ⟨h1, h2, m, hn⟩ | ⟨h1, h2, u, o, ho, hd⟩⟩ := hS₃
        · exact ⟨m, hCa ▸ hn⟩
        · obtain ⟨m, o', es, ep, ho', hd', _⟩ := hC'
          exfalso
          obtain ⟨hk0', ⟨h1', _⟩ | ⟨h1', h2', u', o'', ho'', hd''⟩⟩ := hS'
          · rw [h1] at h1'; cases h1'
          · rw [← hCa, ho'] at ho''; cases ho''; rw [hd'] at hd''; cases hd''
      · obtain ⟨m, hn⟩ := hC'
        exact ⟨m, (hn.at' fun o e => hk2 C o hCI e).sameBut hs₃ hCa⟩
    have hD₃ : h₃.get? D = some (seqO "list" vs n) := (hs₃.2 D (Ne.symm haD)).trans (hk2 D _ hDI hD')
    have view : ∀ h : Heap, Kp h₃ h → Kp hx h := fun h k => hkx3.trans k
    have low : ∀ h : Heap, Kp hx h → Le (offD D m g h) h.get? := fun h k => offD_le.trans (ext_le le (kgx.trans k))
    have nmv : ∀ h : Heap, Kp h₃ h → NmS (offD D m g h) cenv x v := fun h k => (hH₃.keeps fun o e => k _ o e).nm fun o e => by rw [offD_ne haD, ext_none ga]; exact e
    refine (gt (offD D m g h₃) v y (lem _ hkx3) hmem (RA.st (lex _ hkx3).sq hry) (nmv _ (Kp.refl _))).run { s with heap := h₃, toks := tk₃ } (low _ hkx3) _ _ fun h₄ tk₄ k₄ => ?_
    have htake : xs.take (i + 1) = xs.take i ++ [y] := by rw [List.take_add_one, hy]; rfl
    have hC₄ : ∃ m, h₄.Ns C m := let ⟨m, hn⟩ := hC₃; ⟨m, hn.keeps k₄⟩
    have hst₄ : St (i + 1) h₄ := T.walks.frame _ _ _ hst₃ fun b _ o e => k₄ b o e
    have hkx4 := view _ k₄
    cases hpy : p y with
    | false =>
      simp only [Bool.false_eq_true, if_false]
      refine ⟨xs.length + 1 - (i + 1), by omega, h₄, tk₄, i + 1, vs, n, rfl, hlt, rfl, hst₄, hkx4, hS₃.keeps fun o e => k₄ _ o e, hC₄, k₄ _ _ hD₃, ?_⟩
      rw [htake, List.filter_append, List.filter_cons_of_neg (by simp [hpy]), List.filter_nil, List.append_nil]
      exact paired_mono (fun _ _ q => RB.st (offD_sq (sq2.trans (sq3.trans (Le.sq k₄)))) q) hp'
    | true =>
      simp only [if_true]
      refine (ge (offD D m g h₄) v y (lem _ hkx4) hmem hpy (RA.st (lex _ hkx4).sq hry) (nmv _ k₄)).run { s with heap := h₄, toks := tk₄ } (low _ hkx4) _ _ fun u h₅ tk₅ k₅ ru => ?_
      have k45 := k₄.trans k₅
      have hkx5 := view _ k45
      have hD₄ : h₄.get? D = some (seqO "list" vs n) := k₄ _ _ hD₃
      have hD₅ : h₅.get? D = some (seqO "list" vs n) := k45 _ _ hD₃
      refine append_at (s := { s with heap := h₅, toks := tk₅ }) hD₅ (fun h₆ hs₆ hD₆ => ?_) (by show vs.toArray.size ≤ sizeLine; rw [List.size_toArray]; omega)
      have hst₅ : St (i + 1) h₅ := T.walks.frame _ _ _ hst₄ fun b _ o e => k₅ b o e
      have hst₆ : St (i + 1) h₆ := T.walks.frame _ _ _ hst₅ fun b hb o e => (hs₆.2 b fun q => hDfp (q ▸ hb)).trans e
      have hC₅ : ∃ m, h₅.Ns C m := let ⟨m, hn⟩ := hC₄; ⟨m, hn.keeps k₅⟩
      have hkx6 : Kp hx h₆ := fun b o e => (hs₆.2 b (old b o e).2.1).trans (hkx5 b o e)
      have off6 : Le (offD D m g h₅) (offD D m g h₆) := fun b o e => by
        by_cases hb : b = D
        · unfold offD at e; rw [if_pos hb] at e; cases e
        · rw [offD_ne hb] at e ⊢
          cases q : g.get? b with
          | none => rw [ext_none q] at e ⊢; exact (hs₆.2 b hb).trans e
          | some o' => rw [ext_some q] at e ⊢; exact e
      have ru5 : Le (ext (offD D m g h₄) h₄ h₅) (offD D m g h₅) := fun b o e => by
        cases q : h₄.get? b with
        | none =>
          rw [ext_none q] at e
          have hb : b ≠ D := fun z => by rw [z, hD₄] at q; cases q
          have gb : g.get? b = none := by
            cases z : g.get? b with
            | none => rfl
            | some o' => rw [hkx4 _ _ (kgx _ _ z)] at q; cases q
          rw [offD_ne hb, ext_none gb]; exact e
        | some o' =>
          rw [ext_some q] at e
          by_cases hb : b = D
          · unfold offD at e; rw [if_pos hb] at e; cases e
          · rw [offD_ne hb] at e ⊢; exact ext_mono k₅ _ _ e
      refine ⟨xs.length + 1 - (i + 1), by omega, h₆, tk₅, i + 1, vs ++ [u], n + 1, rfl, hlt, rfl, hst₆, hkx6,
        (hS₃.keeps fun o e => k45 _ o e).keeps fun o e => (hs₆.2 a haD).trans e, let ⟨m, hn⟩ := hC₅; ⟨m, hn.sameBut hs₆ hCD⟩, ?_, ?_⟩
      · rw [hD₆]; simp
      · rw [htake, List.filter_append, List.filter_cons_of_pos hpy, List.filter_nil, List.map_append, List.map_cons, List.map_nil]
        exact paired_append (paired_mono (fun _ _ q => RB.st ((offD_sq (sq2.trans (sq3.trans (Le.sq k45)))).trans off6.sq) q) hp') (.cons (RB.st (ru5.trans off6).sq ru) .nil)
  · obtain rfl : i = xs.length := Nat.le_antisymm hi (Nat.not_lt.mp hlt)
    refine T.walks.done _ _ _ hst' fun h₂ tk₂ hk₂ => ?_
    have hk2 : ∀ b o, b ≠ I → h'.get? b = some o → h₂.get? b = some o := fun b o hb e => hk₂ b o (by simpa using hb) e
    obtain ⟨oI, heI, hoI⟩ := T.obj _ h' hst'
    have sq2 : Sq h'.get? h₂.get? := sq_but (fun o e => by rw [heI] at e; cases e; exact hoI) hk2
    have hC2 : ∃ m, h₂.Ns C m := let ⟨m, hn⟩ := hC'; ⟨m, hn.at' fun o e => hk2 C o hCI e⟩
    refine hR h₂ tk₂ (fun b o e => hk2 b o (old b o (kgx _ _ e)).1 (hk' b o (kgx _ _ e))) hC2 (let ⟨m, o, es, ep, ho, _⟩ := hC2; by rw [ho]; exact fun q => nomatch q) ⟨D, vs, n, rfl, by rw [ext_none gD]; exact hk2 D _ hDI hD', ?_⟩
    rw [List.take_length] at hp'
    exact paired_mono (fun _ _ q => RB.st ((offD_sq sq2).trans offD_le.sq) q) hp'
end
end
-- part L4
section
open PySem PySem.W PyProof.Rows PySem.Calls
section
variable {prog : Program} {w : World} {A : Around} {env : Env} {α β γ : Type}

theorem newEnv_comp {M : Model} {E : Value → Shared → Prop} {s : Shared} {scope : Scope} {globals : Addr} {cl : List (Str × Addr)} {qual : Str} {Q : Env → Shared → Prop}
    (hQ : Q (newEnv scope s.heap.objs.size globals (cellsFrom (s.heap.objs.size + 1) scope.names cl) qual none .none (some env) builtinsNs)
      { s with heap := pushCells (s.heap.push { cls := .type "dict", data := .dict #[] }) scope.names }) :
    wpAny M A (newFunctionEnv scope globals cl [] qual none .none (some env)) Q E s := by
  simp only [newFunctionEnv, Option.isSome_some, if_true]
  simp only [newEnv] at hQ
  refine wpAny_bind (wpAny_alloc ?_)
  refine wpAny_bind (wpAny_layCells _ (fun name kind cells => by cases hkc : kind == NameKind.cell <;> simp [hkc]) _ _ _ _ ?_)
  rw [show ({ s with heap := s.heap.push { cls := .type "dict", data := .dict #[] } } : Shared).heap.objs.size = s.heap.objs.size + 1 from Heap.size_push ..]
  rw [List.forIn_nil]
  exact wpAny_bind (wpAny_pure (wpAny_pure hQ))

theorem lookup_relabel_cell {env : Env} : ∀ {names : List (Str × NameKind)} {x : Str}, names.lookup x = some .cell →
    (names.map fun (n, k) => if (k == NameKind.free && env.scope.kind == .function && env.kindOf n == some .cell) then (n, NameKind.cell) else (n, k)).lookup x = some .cell
  | [], _, h => by simp at h
  | (n, k) :: r, x, h => by
    have ih := @lookup_relabel_cell env r x
    show List.lookup x ((if (k == NameKind.free && env.scope.kind == .function && env.kindOf n == some .cell) = true then (n, NameKind.cell) else (n, k)) :: _) = _
    cases hx : x == n with
    | true =>
      simp only [List.lookup_cons, hx] at h
      cases h
      simp [List.lookup_cons, hx]
    | false =>
      simp only [List.lookup_cons, hx] at h
      by_cases hc : (k == NameKind.free && env.scope.kind == .function && env.kindOf n == some .cell) = true
      · rw [if_pos hc]; simp only [List.lookup_cons, hx]; exact ih h
      · rw [if_neg hc]; simp only [List.lookup_cons, hx]; exact ih h

/-- the letter of a comprehension is its own local, or its one cell -/
def LetterOk (scope : Scope) (x : Str) (cl : List (Str × Addr)) : Prop :=
  (scope.names.lookup x = some .local ∧ (∀ h, pushCells h scope.names = h)) ∨
  (scope.names.lookup x = some .cell ∧ (∀ h, pushCells h scope.names = h.push { cls := .type "cell", data := .cell none }) ∧ ∀ n, (cellsFrom n scope.names cl).lookup x = some n)

abbrev envC (scope : Scope) (cl : List (Str × Addr)) (C : Addr) (env : Env) : Env := compEnvC scope (cellsFrom (C + 1) scope.names cl) C env

theorem comp_core {m : Mem} {E : Value → Shared → Prop} {elt iter : Expr} {x : Str} {px : Pos} {ifs : List Expr} {scope : Scope} {pos : Pos} {cl : List (Str × Addr)}
    {RA : Rel α} {RB : Rel β} {xs : List α} {p : α → Bool} {f : α → β} {RR : Value → Addr → Result → Shared → Prop} {s : Shared} (le : Le m s.heap.get?)
    (gi : GI prog w A m (eval iter env) RA xs) (hkind : scope.kind = .function) (hx : LetterOk scope x cl) (hlen : xs.length ≤ sizeLine)
    (gt : ∀ C m' v y, Le m m' → y ∈ xs → RA.r m' v y → NmS m' (envC scope cl C env) x v → GB prog w A m' (compIfs (envC scope cl C env) ifs) (p y))
    (ge : ∀ C m' v y, Le m m' → y ∈ xs → p y = true → RA.r m' v y → NmS m' (envC scope cl C env) x v → G prog w A m' (eval elt (envC scope cl C env)) RB (f y))
    (hR : ∀ D C h' tk, Kp s.heap h' → (∃ mm, h'.Ns C mm) → s.heap.get? C = none → (listR RB).r (ext m s.heap h') (.ref D) ((xs.filter p).map f) → RR (.ref D) C (.ok .next) { s with heap := h', toks := tk }) :
    wpAny (model prog w) A (eval iter env) (fun xv s₁ => wpAny (model prog w) A (pyIter xv) (fun it s₂ => wpAny (model prog w) A (newList []) (fun acc s₃ =>
      wpAny (model prog w) A (newFunctionEnv scope env.globals cl [] env.qual none .none (some env)) (fun cenv s₄ =>
        codeAny (model prog w) A (.compStart (.ListComp elt [⟨.Name x px, iter, ifs, 0⟩] scope pos) 0 it acc { cenv with scope := relabel scope env }) (RR acc cenv.locals) s₄) E s₃) E s₂) E s₁) E s := by
  refine gi.run s le _ _ fun hx' I fp P St hb tk kx T => ?_
  refine wpAny_newObj_type (newEnv_comp ?_)
  dsimp only
  generalize hH2 : hb.push { cls := .type "list", dict := none, data := .seq ([] : List Value).toArray } = H2
  have hC : H2.objs.size = hb.objs.size + 1 := by rw [← hH2, Heap.size_push]
  have kH2 : Kp hb H2 := hH2 ▸ Kp.push _ _
  have hD : H2.get? hb.objs.size = some (seqO "list" [] 0) := by rw [← hH2]; exact Heap.get?_push_size _ rfl
  generalize hH3 : H2.push { cls := .type "dict", data := .dict #[] } = H3
  have kH3 : Kp H2 H3 := hH3 ▸ Kp.push _ _
  have hC3 : H3.get? H2.objs.size = some { cls := .type "dict", data := .dict #[] } := by rw [← hH3]; exact Heap.get?_push_size _ rfl
  have hs3 : H3.objs.size = H2.objs.size + 1 := by rw [← hH3, Heap.size_push]
  have hns : H3.Ns H2.objs.size (fun _ => none) := by
    rw [← hH3]
    simpa using (Heap.Ns.new H2 (.type "dict"))
  have hbfresh : ∀ b, hb.objs.size ≤ b → hb.get? b = none := fun b h => Heap.get?_none_of_le h
  have hfp : ∀ b, hb.objs.size ≤ b → b ∉ fp := fun b h hm => absurd (T.inn b hm) (Nat.not_lt.mpr h)
  have key : ∀ s₃ : Shared, (∃ H tk', s₃ = { s with heap := H, toks := tk' } ∧ Kp H3 H ∧ ∃ a, hb.objs.size + 1 ≤ a ∧ LSlot (envC scope cl H2.objs.size env) x a H) →
      codeAny (model prog w) A (.compLoop (.ListComp elt [⟨.Name x px, iter, ifs, 0⟩] scope pos) 0 (.ref I) (.ref hb.objs.size) (envC scope cl H2.objs.size env)) (RR (.ref hb.objs.size) H2.objs.size) s₃ := by
    rintro _ ⟨H, tk', rfl, kH, a, ha, hS⟩
    have kbH : Kp hb H := kH2.trans (kH3.trans kH)
    exact comp_loop (s := { s with heap := H, toks := tk' }) le kx T (fun b o _ e => kbH _ _ e) (T.walks.frame _ _ _ T.start fun b _ o e => kbH b o e) ((kH3.trans kH) _ _ hD) (hbfresh _ (Nat.le_refl _)) (hfp _ (Nat.le_refl _)) hS
      (hbfresh _ (by omega)) (hfp _ (by omega)) (fun e => by rw [e] at ha; exact Nat.lt_irrefl _ ha) ⟨_, hns.keeps kH⟩ (hbfresh _ (by rw [hC]; exact Nat.le_succ _)) (by rw [hC]; exact Nat.succ_ne_self _) (hfp _ (by rw [hC]; exact Nat.le_succ _)) hlen
      (fun m' v y => gt _ m' v y) (fun m' v y => ge _ m' v y) fun h' tk k hn hne r => hR _ _ h' tk k hn (by
        cases q : s.heap.get? H2.objs.size with
        | none => rfl
        | some o => have := T.up _ _ (kx _ _ q); rw [hbfresh _ (by rw [hC]; exact Nat.le_succ _)] at this; cases this) r
  have fin : ∀ H, Kp H3 H → (∃ a, hb.objs.size + 1 ≤ a ∧ LSlot (envC scope cl H2.objs.size env) x a H) →
      codeAny (model prog w) A (.compStart (.ListComp elt [⟨.Name x px, iter, ifs, 0⟩] scope pos) 0 (.ref I) (.ref hb.objs.size) (envC scope cl H2.objs.size env)) (RR (.ref hb.objs.size) H2.objs.size) { s with heap := H, toks := tk } := by
    intro H kH hS
    have kbH : Kp hb H := kH2.trans (kH3.trans kH)
    have z := key { s with heap := H, toks := tk } ⟨H, tk, rfl, kH, hS⟩
    exact codeAny_compStart_list z (T.walks.self 0 _ _ _ (T.walks.frame _ _ _ T.start fun b _ o e => kbH b o e) z)
  rcases hx with ⟨hx, hp⟩ | ⟨hx, hp, hl⟩
  · rw [hp]
    exact fin H3 (Kp.refl _) ⟨H2.objs.size, by rw [hC]; exact Nat.le_refl _, hkind, .inl ⟨lookup_relabel_local hx, rfl, _, hns⟩⟩
  · rw [hp]
    refine fin _ (Kp.push _ _) ⟨H3.objs.size, by rw [hs3, hC]; omega, hkind, .inr ⟨lookup_relabel_cell hx, ?_, none, ⟨_, Heap.get?_push_size _ rfl, rfl⟩⟩⟩
    show (cellsFrom (H2.objs.size + 1) scope.names cl).lookup x = _
    rw [hl, hs3]

theorem J_comp {m : Mem} {elt iter : Expr} {x : Str} {px : Pos} {ifs : List Expr} {scope : Scope} {pos : Pos} {cl : List (Str × Addr)} {RA : Rel α} {RB : Rel β} {xs : List α} (p : α → Bool) (f : α → β)
    (hclos : closureFor scope env = pure cl) (hkind : scope.kind = .function) (hnames : ∀ y ∈ scope.names, y.2 = .local → scope.names.lookup y.1 = some .local) (hx : LetterOk scope x cl)
    (gi : GI prog w A m (eval iter env) RA xs) (hlen : xs.length ≤ sizeLine)
    (gt : ∀ C m' v y, Le m m' → y ∈ xs → RA.r m' v y → NmS m' (envC scope cl C env) x v → GB prog w A m' (compIfs (envC scope cl C env) ifs) (p y))
    (ge : ∀ C m' v y, Le m m' → y ∈ xs → p y = true → RA.r m' v y → NmS m' (envC scope cl C env) x v → G prog w A m' (eval elt (envC scope cl C env)) RB (f y))
    (hs : ∀ x, foldedSetIterable iter env x = pure x := by intro _; rfl) :
    G prog w A m (eval (.ListComp elt [⟨.Name x px, iter, ifs, 0⟩] scope pos) env) (listR RB) ((xs.filter p).map f) := by
  refine ⟨fun s le Q E hq => ?_⟩
  rw [eval_ListComp]
  refine wpAny_comprehension_free (use := none) rfl hs hclos hkind hnames (comp_core (RR := fun acc C => compPost (model prog w) A E none Q acc C) le gi hkind hx hlen gt ge ?_)
  rintro D C h' tk k ⟨mm, hn⟩ hCn r
  refine ⟨mm, hn, fun h'' hs'' => ?_⟩
  have sq := sq_of_local hn hs''
  exact hq _ h'' tk (fun b o e => (hs''.2 b (fun q => by rw [q, hCn] at e; cases e)).trans (k b o e)) ((listR RB).st (ext_sq sq) r)

theorem filter_tt {xs : List α} : xs.filter (fun _ => true) = xs := List.filter_eq_self.mpr fun _ _ => rfl
/-- without a test -/
theorem J_map {m : Mem} {elt iter : Expr} {x : Str} {px : Pos} {scope : Scope} {pos : Pos} {cl : List (Str × Addr)} {RA : Rel α} {RB : Rel β} {xs : List α} (f : α → β)
    (hclos : closureFor scope env = pure cl) (hkind : scope.kind = .function) (hnames : ∀ y ∈ scope.names, y.2 = .local → scope.names.lookup y.1 = some .local) (hx : LetterOk scope x cl)
    (gi : GI prog w A m (eval iter env) RA xs) (hlen : xs.length ≤ sizeLine)
    (ge : ∀ C m' v y, Le m m' → y ∈ xs → RA.r m' v y → NmS m' (envC scope cl C env) x v → G prog w A m' (eval elt (envC scope cl C env)) RB (f y))
    (hs : ∀ x, foldedSetIterable iter env x = pure x := by intro _; rfl) :
    G prog w A m (eval (.ListComp elt [⟨.Name x px, iter, [], 0⟩] scope pos) env) (listR RB) (xs.map f) := by
  have z := J_comp (px := px) (pos := pos) (ifs := []) (fun _ => true) f hclos hkind hnames hx gi hlen (fun C m' v y _ _ _ _ => ifs_nil) (fun C m' v y a b _ c d => ge C m' v y a b c d) hs
  rw [filter_tt] at z
  exact z

section
variable {m₀ : Mem} {g : Heap} {own : Addr → Prop} {s₁ s : Shared} {Γ : List (Str × TP)} {Q : Flow → Shared → Prop} {E : Value → Shared → Prop}

theorem Fm.moveH {Γ : List (Str × TP)} {h h' : Heap} {C : Addr} {mm : Str → Option Value} (F : Fm env Γ (ext m₀ g h)) (hn : h.Ns C mm) (hs : Heap.SameBut C h h') (hC : ¬ ownOf env C) : Fm env Γ (ext m₀ g h') :=
  F.move (ext_sq (sq_of_local hn hs)) fun b o hb e => by
    have hbC : b ≠ C := fun q => hC (q ▸ hb)
    cases q : g.get? b with
    | none => rw [ext_none q] at e ⊢; exact (hs.2 b hbC).trans e
    | some o' => rw [ext_some q] at e ⊢; exact e

/-- y = [.. for ..] -/
theorem X_comp {elt iter : Expr} {x y : Str} {px py : Pos} {scope : Scope} {pos spos : Pos} {cl : List (Str × Addr)} {RA : Rel α} {RB : Rel β} {xs : List α} (f : α → β) (T : At m₀ g own s₁ s env Γ)
    (hy : env.kindOf y = some .local ∨ (env.kindOf y = some .cell ∧ (env.cells.lookup y).isSome = true))
    (hsw : swapsWith (.ListComp elt [⟨.Name x px, iter, [], 0⟩] scope pos) (some (.Name y py)) spos.line env = pure true)
    (hclos : closureFor scope env = pure cl) (hkind : scope.kind = .function) (hnames : ∀ y ∈ scope.names, y.2 = .local → scope.names.lookup y.1 = some .local) (hx : LetterOk scope x cl)
    (gi : GI prog w A (ext m₀ g s.heap) (eval iter env) RA xs) (hlen : xs.length ≤ sizeLine)
    (ge : ∀ C m' v y, Le (ext m₀ g s.heap) m' → y ∈ xs → RA.r m' v y → NmS m' (envC scope cl C env) x v → G prog w A m' (eval elt (envC scope cl C env)) RB (f y))
    (hq : ∀ s', At m₀ g own s₁ s' env ((y, (listR RB).at (xs.map f)) :: Γ) → Q .next s')
    (hs : ∀ x, foldedSetIterable iter env x = pure x := by intro _; rfl) :
    wpAny (model prog w) A (exec (.Assign [.Name y py] (.ListComp elt [⟨.Name x px, iter, [], 0⟩] scope pos) spos) env) Q E s := by
  rw [exec_Assign_Name_used _ _ _ _ hsw]
  refine wpAny_bind (wpAny_standAt (wpAny_bind ?_))
  show wpAny _ A (do let _ ← comprehension (.ListComp elt [⟨.Name x px, iter, [], 0⟩] scope pos) scope env _ (newList []) false (eval iter env) (some (assign (.Name y py) env))) _ _ s
  refine wpAny_bind (wpAny_mono (wpAny_comprehension_free (use := some (assign (.Name y py) env)) (Q := fun _ s' => Q .next s') rfl hs hclos hkind hnames
    (comp_core (RR := fun acc C => compPost (model prog w) A E (some (assign (.Name y py) env)) (fun _ s' => Q .next s') acc C) (p := fun _ => true) (f := f) T.low gi hkind hx hlen (fun C m' v y _ _ _ _ => ifs_nil) (fun C m' v y a b _ c d => ge C m' v y a b c d) ?_)) (fun _ s' hq => wpAny_pure (wpAny_pure hq)) fun _ _ e => e)
  rintro D C h' tk k ⟨mm, hn⟩ hCn r
  rw [filter_tt, ext_trans T.kp k] at r
  have T' := T.grow (tk := tk) k
  show wpAny _ A (assign (.Name y py) env (.ref D)) _ _ _
  have hCo : ¬ ownOf env C := fun hm => T.there hm hCn
  refine wpAny_assign_Name (T'.store (P := (listR RB).at (xs.map f)) hy r fun s'' T'' sq st => ?_)
  obtain ⟨h2, tk2, rfl, out⟩ := st
  have hn2 : h2.Ns C mm := hn.at' fun o e => out C o hCo e
  refine ⟨mm, hn2, fun h₃ hs₃ => hq _ ⟨T''.le, fun b o e => (hs₃.2 b fun q => ?_).trans (T''.kp _ _ e), T.stp.trans ⟨h₃, tk2, rfl, fun b o hb e => ?_⟩, T''.new, T''.mine, T''.fm.moveH hn2 hs₃ hCo⟩⟩
  · rw [q] at e
    have := T.kp _ _ e
    rw [hCn] at this; cases this
  · exact (hs₃.2 b fun q => by rw [q, hCn] at e; cases e).trans (out b o (fun q => hb (T.mine _ q)) (k _ _ e))
end
end
end
-- part L5
section
open PySem PySem.W PyProof.Rows PySem.Calls
/-- what a list of values lays -/
structure AP where
  p : Mem → List Value → Prop
  st : ∀ {h h' vs}, Sq h h' → p h vs → p h' vs
def AP.nil : AP := ⟨fun _ vs => vs = [], fun _ h => h⟩
def AP.cons {α : Type} (R : Rel α) (a : α) (P : AP) : AP := ⟨fun m vs => ∃ v vs', vs = v :: vs' ∧ R.r m v a ∧ P.p m vs', fun hs ⟨v, vs', e, r, q⟩ => ⟨v, vs', e, R.st hs r, P.st hs q⟩⟩
def AP.all {α : Type} (R : Rel α) (xs : List α) : AP := ⟨fun m vs => Paired (R.r m) vs xs, fun hs q => paired_mono (fun _ _ => R.st hs) q⟩

section
variable {prog : Program} {w : World} {A : Around} {env : Env} {α β γ : Type} {m : Mem}

structure GA (prog : Program) (w : World) (A : Around) (m : Mem) (ts : List (Bool × Sem Value)) (P : AP) : Prop where
  run : ∀ (s : Shared), Le m s.heap.get? → ∀ (Q : List Value → Shared → Prop) (E : Value → Shared → Prop),
    (∀ vs h' tk, Kp s.heap h' → P.p (ext m s.heap h') vs → Q vs { s with heap := h', toks := tk }) → wpAny (model prog w) A (spliced ts) Q E s
theorem GA.nil {pos : Pos} : GA prog w A m (backTo pos (starEach [] env)) .nil := ⟨fun s k Q E hq => spliced_nil (hq [] s.heap s.toks (Kp.refl _) rfl)⟩
theorem GA.cons {pos : Pos} {e : Expr} {es : List Expr} {R : Rel α} {a : α} {P : AP} (g : G prog w A m (eval e env) R a) (ga : GA prog w A m (backTo pos (starEach es env)) P) (he : starEach (e :: es) env = (false, eval e env) :: starEach es env := by rfl) :
    GA prog w A m (backTo pos (starEach (e :: es) env)) (.cons R a P) := by
  rw [he]
  exact ⟨fun s k Q E hq => spliced_cons (g.run s k _ _ fun v h₁ tk k₁ r => ga.run _ (k.kp k₁) _ _ fun vs h₂ tk₂ k₂ r₂ => hq _ h₂ tk₂ (k₁.trans k₂) ⟨v, vs, rfl, R.st (ext_mono k₂).sq r, P.st (ext_low k k₁).sq r₂⟩)⟩
theorem GA.allNil {pos : Pos} {R : Rel α} : GA prog w A m (backTo pos (starEach [] env)) (.all R []) := ⟨fun s k Q E hq => spliced_nil (hq [] s.heap s.toks (Kp.refl _) .nil)⟩
theorem GA.allCons {pos : Pos} {e : Expr} {es : List Expr} {R : Rel α} {a : α} {xs : List α} (g : G prog w A m (eval e env) R a) (ga : GA prog w A m (backTo pos (starEach es env)) (.all R xs)) (he : starEach (e :: es) env = (false, eval e env) :: starEach es env := by rfl) :
    GA prog w A m (backTo pos (starEach (e :: es) env)) (.all R (a :: xs)) := by
  rw [he]
  exact ⟨fun s k Q E hq => spliced_cons (g.run s k _ _ fun v h₁ tk k₁ r => ga.run _ (k.kp k₁) _ _ fun vs h₂ tk₂ k₂ r₂ => hq _ h₂ tk₂ (k₁.trans k₂) (.cons (R.st (ext_mono k₂).sq r) (paired_mono (fun _ _ => R.st (ext_low k k₁).sq) r₂)))⟩

theorem view_new {s : Shared} {h : Heap} {o : Obj} (k : Kp s.heap h) (hf : o.isFreed = false) : ext m s.heap (h.push o) h.objs.size = some o := by
  have e : s.heap.get? h.objs.size = none := by
    cases q : s.heap.get? h.objs.size with
    | none => rfl
    | some o' => exact absurd (Heap.lt_size (k _ _ q)) (Nat.lt_irrefl _)
  rw [ext_none e]
  exact Heap.get?_push_size _ hf

theorem J_list {elts : List Expr} {pos : Pos} {R : Rel α} {xs : List α} (ga : GA prog w A m (backTo pos (starEach elts env)) (.all R xs)) (hl : xs.length ≤ sizeLine) : G prog w A m (eval (.List elts pos) env) (listR R) xs :=
  ⟨fun s k Q E hq => List_ (ga.run s k _ _ fun vs h' tk k' r => wpAny_newObj_type (hq _ _ tk (k'.trans (Kp.push _ _)) ⟨_, vs, 0, rfl, view_new k' rfl, paired_mono (fun _ _ => R.st (ext_mono (Kp.push _ _)).sq) r⟩)
    (by show vs.toArray.size ≤ sizeLine; rw [List.size_toArray, Paired.length r]; exact hl))⟩
theorem J_tuple {elts : List Expr} {n : Nat} {pos : Pos} {R : Rel α} {xs : List α} (ga : GA prog w A m (backTo pos (starEach elts env)) (.all R xs)) (hl : xs.length ≤ sizeLine) : G prog w A m (eval (.Tuple elts n pos) env) (tupR R) xs :=
  ⟨fun s k Q E hq => Tuple_ (ga.run s k _ _ fun vs h' tk k' r => wpAny_newObj_type (hq _ _ tk (k'.trans (Kp.push _ _)) ⟨_, vs, 0, rfl, view_new k' rfl, paired_mono (fun _ _ => R.st (ext_mono (Kp.push _ _)).sq) r⟩)
    (by show vs.toArray.size ≤ sizeLine; rw [List.size_toArray, Paired.length r]; exact hl))⟩

/-- a call by a name: a def of the text's -/
theorem J_fn {K : Frag} {x : Str} {np pos : Pos} {e : Expr} {es : List Expr} {a : Addr} {ps : List Str} {sc : Scope} {body : List Stmt} {P : AP} {R : Rel β} {y : β} (D : Def K a ps sc body)
    (g : Gr K m) (hf : Nm prog w m env x (.ref a)) (ga : GA prog w A m (backTo pos (starEach (e :: es) env)) P)
    (hc : ∀ m' vs, Le m m' → P.p m' vs → G prog w A m' (call (.ref a) vs) R y) (hs : starEach (e :: es) env = (false, eval e env) :: starEach es env := by rfl) (hd : (x == ("__debug__" : Str)) = false := by decide) :
    G prog w A m (eval (.Call (.Name x np) (e :: es) [] pos) env) R y := by
  obtain ⟨oc, od, osl, fd, ho⟩ := D.fn
  have ht : backTo pos (starEach (e :: es) env) = (false, eval e env) :: backTo pos (starEach es env) := by rw [hs]; rfl
  rw [ht] at ga
  exact ⟨fun s k Q E hq => Call_Name ht (wpAny_Name (hf A _ _ s k (callWith_function (o := ⟨oc, od, .func fd, osl⟩) (fd := fd) (evalArgs_plain (ga.run s k _ _ fun vs h' tk k' r => ⟨⟨k' _ _ (g.inK k _ _ ho), rfl⟩,
    (hc _ vs (le_ext k) r).run _ (ext_le k k') _ _ fun v h'' tk' k'' r' => hq v h'' tk' (k'.trans k'') (by rw [ext_trans k' k''] at r'; exact r')⟩)))) hd)⟩
/-- a built-in function -/
theorem J_bf {x : Str} {np pos : Pos} {e : Expr} {es : List Expr} {id : String} {P : AP} {R : Rel β} {y : β}
    (hf : Nm prog w m env x (.builtin id)) (ga : GA prog w A m (backTo pos (starEach (e :: es) env)) P)
    (hc : ∀ m' vs, Le m m' → P.p m' vs → G prog w A m' (call (.builtin id) vs) R y) (hs : starEach (e :: es) env = (false, eval e env) :: starEach es env := by rfl)
    (hplain : (backTo pos (starEach es env)).any (·.1) = false := by rfl) (hd : (x == ("__debug__" : Str)) = false := by decide) :
    G prog w A m (eval (.Call (.Name x np) (e :: es) [] pos) env) R y := by
  have ht : backTo pos (starEach (e :: es) env) = (false, eval e env) :: backTo pos (starEach es env) := by rw [hs]; rfl
  rw [ht] at ga
  exact ⟨fun s k Q E hq => Call_Name ht (wpAny_Name (hf A _ _ s k (callWith_builtin (by simpa using hplain) (evalArgs_plain (ga.run s k _ _ fun vs h' tk k' r =>
    (hc _ vs (le_ext k) r).run _ (ext_le k k') _ _ fun v h'' tk' k'' r' => hq v h'' tk' (k'.trans k'') (by rw [ext_trans k' k''] at r'; exact r'))))) hd)⟩

/-- a method of a built-in type -/
theorem J_meth {o : Expr} {name : Str} {apos pos : Pos} {e : Expr} {es : List Expr} {T id : String} {pl : Sem Bool} {R₁ : Rel α} {a : α} {P : AP} {R : Rel β} {y : β}
    (go : G prog w A m (eval o env) R₁ a) (hT : ∀ m' v (s : Shared), R₁.r m' v a → Le m' s.heap.get? → s.TypeIs v T ∧ ∀ b, v = .ref b → ∃ o : Obj, s.heap.get? b = some o ∧ o.dict = none)
    (pa : PlainAttrs T) (slot : Slot T name id) (hty : typeOf (.builtin id) = pure (.type "method_descriptor")) (ga : GA prog w A m (backTo pos (starEach (e :: es) env)) P)
    (hc : ∀ m' v vs, Le m m' → R₁.r m' v a → P.p m' vs → G prog w A m' (call (.builtin id) (v :: vs)) R y)
    (he : eval (.Call (.Attribute o name apos) (e :: es) [] pos) env = (do
      let ov ← eval o env
      standAt apos.atName
      let (f, first) ← holding [ov] (getMethod ov name pl)
      callWith pos f first (backTo pos (starEach (e :: es) env)) (backToKw pos (keywordEach [] env))) := by rfl)
    (hs : starEach (e :: es) env = (false, eval e env) :: starEach es env := by rfl)
    (hplain : (backTo pos (starEach es env)).any (·.1) = false := by rfl) :
    G prog w A m (eval (.Call (.Attribute o name apos) (e :: es) [] pos) env) R y := by
  have ht : backTo pos (starEach (e :: es) env) = (false, eval e env) :: backTo pos (starEach es env) := by rw [hs]; rfl
  rw [ht] at ga
  exact ⟨fun s k Q E hq => methodCall_KW (go.run s k _ _ fun v h₁ tk₁ k₁ r₁ => getMethod_builtin (hT _ v _ r₁ (ext_le k k₁)).1 pa slot hty (hT _ v { s with heap := h₁, toks := tk₁ } r₁ (ext_le k k₁)).2 (by
    show wpAny _ A (callWith pos (.builtin id) [v] (backTo pos (starEach (e :: es) env)) []) _ _ _
    rw [ht]
    exact callWith_builtin (by simpa using hplain) (evalArgs_plain (ga.run _ (k.kp k₁) _ _ fun vs h₂ tk₂ k₂ r₂ =>
      (hc _ v vs (le_ext k) (R₁.st (ext_mono k₂).sq r₁) (P.st (ext_low k k₁).sq r₂)).run _ (ext_le k (k₁.trans k₂)) _ _ fun v' h'' tk' k'' r' => hq v' h'' tk' (k₁.trans (k₂.trans k'')) (by rw [ext_trans (k₁.trans k₂) k''] at r'; exact r'))))) he⟩

/-- range(e), looped over -/
theorem GI_range {x : Str} {np pos : Pos} {e : Expr} {n : Nat} (hh : A.handled = none) (hf : Nm prog w m env x (.type "range")) (hs : starEach [e] env = [(false, eval e env)]) (ge : G prog w A m (eval e env) intR (n : Int)) (hn : n < 2 ^ 62)
    (hd : (x == ("__debug__" : Str)) = false := by decide) : GI prog w A m (eval (.Call (.Name x np) [e] [] pos) env) intR ((List.range n).map fun (i : Nat) => (i : Int)) := by
  refine ⟨fun s k Q E hq => ?_⟩
  refine Call_Name1 (wpAny_Name (hf A _ _ s k ?_) hd) hs
  refine PySem.callWith_type rfl (evalArgs_plain (spliced_cons (ge.run s k _ _ fun v h₁ tk k₁ r => spliced_nil ?_)))
  obtain ⟨t, rfl⟩ := r
  refine call_range_1 ?_
  refine wpAny_pyIter_range (IsRange.new ..) (small_one (by decide) (by decide) (by omega) (by omega)) ?_
  have hsz : Builtin.Range.rangeSize 0 n 1 = (n : Int) := by rw [rangeSize_one]; split <;> omega
  have hlen : ((List.range n).map fun (i : Nat) => (i : Int)).length = n := by simp
  dsimp only
  generalize hH : h₁.push { cls := .type "range", data := .fields #[.int 0 tk, .int n t, .int 1 (tk + 1)] } = H
  have kH : Kp h₁ H := hH ▸ Kp.push _ _
  refine hq H H.objs.size [H.objs.size] (fun i v => i < n ∧ ∃ t, v = .int (0 + i * 1) t) (fun i h => IsRangeIter h H.objs.size (0 + (i : Nat) * 1) ((n : Int) - (i : Nat)) 1) _ _ (k₁.trans kH) ⟨by rw [hlen]; exact (Walks.range hh _ 0 1 n).bound, ?_, ?_, Kp.push _ _, Heap.get?_none_of_le (Nat.le_refl _), ?_, ?_, ?_⟩
  · have e1 : (0 + ((0 : Nat) : Int) * 1) = 0 := by simp
    have e2 : ((n : Int) - ((0 : Nat) : Int)) = Builtin.Range.rangeSize 0 n 1 := by rw [hsz]; simp
    rw [e1, e2]
    exact Heap.get?_push_size _ rfl
  · intro b hb
    rw [List.mem_singleton.mp hb]
    show H.objs.size < (H.push _).objs.size
    rw [Heap.size_push]; exact Nat.lt_succ_self _
  · intro i h st
    exact ⟨_, st, fun xs n q => nomatch q⟩
  · rintro i v ⟨hi, t', rfl⟩
    exact ⟨(i : Int), by simp [hi], t', by simp⟩
  · intro b hb hne
    exact absurd (List.mem_singleton.mp hb) hne
end
end
-- part L6
section
open PySem PySem.W PyProof.Rows PySem.Calls PySem.MeetsSeq PySem.SeqAt PySem.SeqRoads2
section
variable {prog : Program} {w : World} {A : Around} {env : Env} {α β γ : Type} {m : Mem}

theorem seqR_list {R : Rel α} {v : Value} {xs : List α} (r : (listR R).r m v xs) : ∃ a vs n, v = .ref a ∧ m a = some (seqO "list" vs n) ∧ Paired (R.r m) vs xs := r
theorem isList_of {h : Heap} {a : Addr} {vs : List Value} {n : Nat} (k : Le m h.get?) (e : m a = some (seqO "list" vs n)) : h.IsList a vs.toArray := ⟨_, k _ _ e, rfl, n, rfl⟩
theorem isTuple_of {h : Heap} {a : Addr} {vs : List Value} {n : Nat} (k : Le m h.get?) (e : m a = some (seqO "tuple" vs n)) : h.IsTuple a vs.toArray := ⟨_, k _ _ e, rfl, n, rfl⟩

theorem seqIdx {j : Int} {n : Nat} (h0 : 0 ≤ j) (h : j < n) : seqIndex? j n = some j.toNat := by
  unfold seqIndex?
  have h1 : ¬ j < 0 := by omega
  simp [h1, h0, h]
-- lists
theorem V_addL {R : Rel α} {v₁ v₂ : Value} {xs ys : List α} (hsz : xs.length + ys.length ≤ sizeLine) (r₁ : (listR R).r m v₁ xs) (r₂ : (listR R).r m v₂ ys) : G prog w A m (binaryOp .Add v₁ v₂) (listR R) (xs ++ ys) := by
  obtain ⟨l, vs, n, rfl, e₁, p₁⟩ := r₁
  obtain ⟨b, ws, n2, rfl, e₂, p₂⟩ := r₂
  refine ⟨fun s k Q E hq => ?_⟩
  have ho := k _ _ e₁
  have ho2 := k _ _ e₂
  have e : vs.toArray ++ ws.toArray = (vs ++ ws).toArray := by simp
  refine concat_meets ⟨_, ho, rfl⟩ ⟨_, ho2, rfl⟩ noFill_list_add seq_list_add PySem.F.slot_list_add PySem.F.entry_list_add (PySem.F.args_list_add_2 _ _) (list_addW l b vs.toArray ws.toArray n n2 none none #[] #[] (by
    simp only [List.size_toArray]; rw [p₁.length, p₂.length]; exact hsz)) ⟨ho, ho2, ?_⟩
  rw [e]
  refine hq (.ref s.heap.objs.size) (s.heap.push (seqO "list" (vs ++ ws) 0)) s.toks (Kp.push _ _) ⟨_, vs ++ ws, 0, rfl, view_new (Kp.refl _) rfl, ?_⟩
  have z := le_ext (h := s.heap.push (seqO "list" (vs ++ ws) 0)) k
  exact paired_append (paired_mono (fun _ _ => R.st z.sq) p₁) (paired_mono (fun _ _ => R.st z.sq) p₂)

theorem V_itemL {R : Rel α} {v i : Value} {xs : List α} {j : Int} {x : α} (h0 : 0 ≤ j) (hj : j < 2 ^ 63) (hx : xs[j.toNat]? = some x) (r : (listR R).r m v xs) (ri : intR.r m i j) : G prog w A m (getItem v i) R x := by
  obtain ⟨l, vs, n, rfl, e₁, p₁⟩ := r
  obtain ⟨t, rfl⟩ := ri
  obtain ⟨u, hu, ru⟩ := paired_get p₁ _ _ hx
  exact G_of fun s k Q E hq => wpAny_getItem_list (isList_of k e₁) h0 hj (by simpa using hu) (hq u s.toks ru)
theorem V_itemT {R : Rel α} {v i : Value} {xs : List α} {j : Int} {x : α} (h0 : 0 ≤ j) (hj : j < 2 ^ 63) (hx : xs[j.toNat]? = some x) (r : (tupR R).r m v xs) (ri : intR.r m i j) : G prog w A m (getItem v i) R x := by
  obtain ⟨l, vs, n, rfl, e₁, p₁⟩ := r
  obtain ⟨t, rfl⟩ := ri
  obtain ⟨u, hu, ru⟩ := paired_get p₁ _ _ hx
  have hlt : j.toNat < vs.length := (List.getElem?_eq_some_iff.mp hu).1
  refine G_of fun s k Q E hq => P.getItem_tuple (items := vs.toArray) (n := n) (k := j.toNat) (k _ _ e₁) (by omega) hj ?_ (by simpa using hu) (hq u s.toks ru)
  rw [List.size_toArray]
  exact seqIdx h0 (by omega)
/-- the sign of a text at a place -/
def chr1 (c : Nat) : Str := ⟨#[c]⟩
theorem V_itemS {v i : Value} {x : Str} {j : Int} {c : Nat} (h0 : 0 ≤ j) (hj : j < 2 ^ 63) (hx : x.cps[j.toNat]? = some c) (r : strR.r m v x) (ri : intR.r m i j) : G prog w A m (getItem v i) strR (chr1 c) := by
  obtain ⟨t, rfl⟩ := r
  obtain ⟨u, rfl⟩ := ri
  refine G_of fun s k Q E hq => P.getItem_str ?_ ?_ (hq _ _ ⟨_, rfl⟩)
  · simp only [Bool.or_eq_false_iff, decide_eq_false_iff_not]; omega
  · have hlt : j.toNat < x.cps.size := (Array.getElem?_eq_some_iff.mp hx).1
    have e : seqIndex? j x.length = some j.toNat := seqIdx h0 (by show j < (x.cps.size : Int); omega)
    rw [e]
    exact hx

theorem J_sub {value slice : Expr} {pos : Pos} {T id : String} {R₁ : Rel α} {R₂ : Rel β} {R : Rel γ} {a : α} {b : β} {c : γ} (g1 : G prog w A m (eval value env) R₁ a) (g2 : G prog w A m (eval slice env) R₂ b)
    (hT : ∀ m' v (s : Shared), R₁.r m' v a → Le m' s.heap.get? → s.TypeIs v T) (hl : typeLookup (.type T) "__getitem__" = pure (some (.builtin id)))
    (hs : ∀ o i, subscripted slice false o i = operate [o, i] (getItem o i)) (hg : ∀ m' v₁ v₂, Le m m' → R₁.r m' v₁ a → R₂.r m' v₂ b → G prog w A m' (getItem v₁ v₂) R c) : G prog w A m (eval (.Subscript value slice pos) env) R c :=
  ⟨fun s k Q E hq => Subscript_ (two_vals g1 g2 k fun v₁ v₂ h tk k' r₁ r₂ => tail_any (hT _ v₁ _ r₁ (ext_le k k')) hl
    ((hg _ v₁ v₂ (le_ext k) r₁ r₂).run _ (ext_le k k') _ _ fun v' h'' tk' k'' r' => hq v' h'' tk' (k'.trans k'') (by rw [ext_trans k' k''] at r'; exact r')) (hs v₁ v₂))⟩
theorem type_list {R : Rel α} {xs : List α} : ∀ m' v (s : Shared), (listR R).r m' v xs → Le m' s.heap.get? → s.TypeIs v "list" := fun m' v s ⟨a, vs, n, e, ho, _⟩ k => e ▸ ⟨_, k _ _ ho, rfl⟩
theorem type_tuple {R : Rel α} {xs : List α} : ∀ m' v (s : Shared), (tupR R).r m' v xs → Le m' s.heap.get? → s.TypeIs v "tuple" := fun m' v s ⟨a, vs, n, e, ho, _⟩ k => e ▸ ⟨_, k _ _ ho, rfl⟩
theorem type_str {x : Str} : ∀ m' v (s : Shared), strR.r m' v x → Le m' s.heap.get? → s.TypeIs v "str" := fun m' v s ⟨t, e⟩ _ => e ▸ typeIs_str s x t

theorem J_itemL {value slice : Expr} {pos : Pos} {R : Rel α} {xs : List α} {j : Int} {x : α} (h0 : 0 ≤ j) (hj : j < 2 ^ 63) (hx : xs[j.toNat]? = some x) (hs : ∀ o i, subscripted slice false o i = operate [o, i] (getItem o i))
    (g1 : G prog w A m (eval value env) (listR R) xs) (g2 : G prog w A m (eval slice env) intR j) : G prog w A m (eval (.Subscript value slice pos) env) R x :=
  J_sub g1 g2 type_list slot_list_getitem.lookup hs fun m' v₁ v₂ _ r₁ r₂ => V_itemL h0 hj hx r₁ r₂
theorem J_itemT {value slice : Expr} {pos : Pos} {R : Rel α} {xs : List α} {j : Int} {x : α} (h0 : 0 ≤ j) (hj : j < 2 ^ 63) (hx : xs[j.toNat]? = some x) (hs : ∀ o i, subscripted slice false o i = operate [o, i] (getItem o i))
    (g1 : G prog w A m (eval value env) (tupR R) xs) (g2 : G prog w A m (eval slice env) intR j) : G prog w A m (eval (.Subscript value slice pos) env) R x :=
  J_sub g1 g2 type_tuple F.slot_tuple_getitem.lookup hs fun m' v₁ v₂ _ r₁ r₂ => V_itemT h0 hj hx r₁ r₂
theorem J_itemS {value slice : Expr} {pos : Pos} {xs : Str} {j : Int} {x : Nat} (h0 : 0 ≤ j) (hj : j < 2 ^ 63) (hx : xs.cps[j.toNat]? = some x) (hs : ∀ o i, subscripted slice false o i = operate [o, i] (getItem o i))
    (g1 : G prog w A m (eval value env) strR xs) (g2 : G prog w A m (eval slice env) intR j) : G prog w A m (eval (.Subscript value slice pos) env) strR (chr1 x) :=
  J_sub g1 g2 type_str F.slot_str_getitem.lookup hs fun m' v₁ v₂ _ r₁ r₂ => V_itemS h0 hj hx r₁ r₂

/-- a part of a slice -/
structure GP (prog : Program) (w : World) (A : Around) (m : Mem) (e : Option Expr) (env : Env) (i : Option Int) : Prop where
  run : ∀ (s : Shared), Le m s.heap.get? → ∀ (Q : Value → Shared → Prop) (E : Value → Shared → Prop), (∀ v h' tk, Kp s.heap h' → IsPart v i → Q v { s with heap := h', toks := tk }) → wpAny (model prog w) A (evalPart e env) Q E s
theorem GP.none : GP prog w A m none env none := ⟨fun s k Q E hq => wpAny_pure (hq .none s.heap s.toks (Kp.refl _) .none)⟩
theorem GP.some {e : Expr} {i : Int} (g : G prog w A m (eval e env) intR i) : GP prog w A m (some e) env (some i) := ⟨fun s k Q E hq => g.run s k _ _ fun v h' tk k' ⟨t, e⟩ => hq v h' tk k' (e ▸ .int i t)⟩
theorem J_sliceL {value : Expr} {lo hi : Option Expr} {p pos : Pos} {R : Rel α} {xs ys : List α} {i j : Option Int} (g1 : G prog w A m (eval value env) (listR R) xs) (gl : GP prog w A m lo env i) (gh : GP prog w A m hi env j)
    (hsz : xs.length ≤ sizeLine) (hp : ∀ F : Heap → Value → Prop, ∀ vs : List Value, vs.length = xs.length → ∀ G : Value → α → Prop, Paired G vs xs → Paired G (slicePick vs.toArray i j none).toList ys)
    (hs : ∀ o i, subscripted (.Slice lo hi none p) false o i = operate [i, o] (getItem o i)) : G prog w A m (eval (.Subscript value (.Slice lo hi none p) pos) env) (listR R) ys := by
  refine ⟨fun s k Q E hq => ?_⟩
  refine Subscript_ (g1.run s k _ _ fun v h₁ tk₁ k₁ r₁ => wpAny_Slice (gl.run _ (k.kp k₁) _ _ fun vl h₂ tk₂ k₂ pl => gh.run _ ((k.kp k₁).kp k₂) _ _ fun vh h₃ tk₃ k₃ ph => wpAny_pure ?_))
  obtain ⟨a, vs, n, rfl, e₁, p₁⟩ := r₁
  have k13 := k₂.trans k₃
  have ho := (k₁.trans k13 |> ext_le k) _ _ (ext_mono k13 _ _ e₁)
  have hl : h₃.IsList a vs.toArray := ⟨_, ho, rfl, n, rfl⟩
  refine tail_any (T := "list") ⟨_, Heap.get?_push_of_some _ ho, rfl⟩ slot_list_getitem.lookup (wpAny_getItem_list_slice (hl.push _) (Heap.IsSliceOf.new ..) pl ph .none (by simp) ?_ (by rw [List.size_toArray, p₁.length]; exact hsz)) (hs _ _)
  have kk : Kp h₁ ((h₃.push { cls := .type "slice", data := .fields #[vl, vh, .none] }).push { cls := .type "list", data := .seq (slicePick vs.toArray i j none) }) := k13.trans ((Kp.push _ _).trans (Kp.push _ _))
  refine hq _ _ tk₃ (k₁.trans kk) ⟨_, (slicePick vs.toArray i j none).toList, 0, rfl, ?_, paired_mono (fun _ _ => R.st (ext_mono kk).sq) (hp (fun _ _ => True) vs p₁.length _ p₁)⟩
  have z := view_new (m := m) (s := s) (h := h₃.push { cls := .type "slice", data := .fields #[vl, vh, .none] }) (o := { cls := .type "list", data := .seq (slicePick vs.toArray i j none) }) (k₁.trans (k13.trans (Kp.push _ _))) rfl
  rw [z]
theorem paired_take {α β : Type} {F : α → β → Prop} : ∀ {l : List α} {l' : List β} (k : Nat), Paired F l l' → Paired F (l.take k) (l'.take k)
  | _, _, 0, _ => by simpa using Paired.nil
  | _, _, _ + 1, .nil => by simpa using Paired.nil
  | _, _, k + 1, .cons a b => by simpa using Paired.cons a (paired_take k b)
theorem paired_drop {α β : Type} {F : α → β → Prop} : ∀ {l : List α} {l' : List β} (k : Nat), Paired F l l' → Paired F (l.drop k) (l'.drop k)
  | _, _, 0, h => by simpa using h
  | _, _, _ + 1, .nil => by simpa using Paired.nil
  | _, _, k + 1, .cons a b => by simpa using paired_drop k b
theorem J_upto {value hi : Expr} {p pos : Pos} {R : Rel α} {xs : List α} {k : Nat} (g1 : G prog w A m (eval value env) (listR R) xs) (gh : G prog w A m (eval hi env) intR (k : Int)) (hsz : xs.length ≤ sizeLine)
    (hs : ∀ o i, subscripted (.Slice none (some hi) none p) false o i = operate [i, o] (getItem o i)) : G prog w A m (eval (.Subscript value (.Slice none (some hi) none p) pos) env) (listR R) (xs.take k) :=
  J_sliceL g1 .none (.some gh) hsz (fun _ vs _ G h => by rw [slicePick_upto']; simpa using paired_take k h) hs
theorem J_from {value lo : Expr} {p pos : Pos} {R : Rel α} {xs : List α} {k : Nat} (g1 : G prog w A m (eval value env) (listR R) xs) (gh : G prog w A m (eval lo env) intR (k : Int)) (hsz : xs.length ≤ sizeLine)
    (hs : ∀ o i, subscripted (.Slice (some lo) none none p) false o i = operate [i, o] (getItem o i)) : G prog w A m (eval (.Subscript value (.Slice (some lo) none none p) pos) env) (listR R) (xs.drop k) :=
  J_sliceL g1 (.some gh) .none hsz (fun _ vs _ G h => by rw [slicePick_from']; simpa using paired_drop k h) hs

-- equality
/-- how two values of R compare -/
def EqR (R : Rel α) (e : α → α → Bool) (d : Nat) : Prop := ∀ (A : Around) (s : Shared) (m : Mem) (v₁ v₂ : Value) (a b : α), Le m s.heap.get? → A.units + d < cLine → R.r m v₁ a → R.r m v₂ b → EqAt A s v₁ v₂ (e a b)
theorem eqR_int : EqR intR (· == ·) 0 := fun A s m v₁ v₂ a b _ _ ⟨t, e⟩ ⟨u, e'⟩ => by subst e e'; exact (EqGives.int a b t u).at A s
theorem eqR_str : EqR strR (· == ·) 0 := fun A s m v₁ v₂ a b _ _ ⟨t, e⟩ ⟨u, e'⟩ => by
  subst e e'
  have z := (EqGives.str a b t u).at A s
  rw [toList_beq] at z
  exact z
theorem all_range_paired {e : α → α → Bool} : ∀ (xs ys : List α), xs.length = ys.length → ∀ q : Nat → Bool, (∀ j (h1 : j < xs.length) (h2 : j < ys.length), q j = e xs[j] ys[j]) → (List.range xs.length).all q = (xs.zip ys).all fun p => e p.1 p.2 := by
  intro xs
  induction xs with
  | nil => intro ys h q _; cases ys <;> simp_all
  | cons x xs ih =>
    intro ys h q hq
    cases ys with
    | nil => simp at h
    | cons y ys =>
      rw [List.length_cons, List.range_succ_eq_map, List.all_cons, List.all_map, List.zip_cons_cons, List.all_cons, hq 0 (by simp) (by simp)]
      congr 1
      exact ih ys (by simpa using h) _ fun j h1 h2 => hq (j + 1) (by simpa using h1) (by simpa using h2)
def listEq (e : α → α → Bool) (xs ys : List α) : Bool := xs.length == ys.length && (xs.zip ys).all fun p => e p.1 p.2
theorem rcR_list {R : Rel α} {e : α → α → Bool} {d : Nat} (hR : EqR R e d) {A : Around} {s : Shared} {m : Mem} {a b : Addr} {vs ws : List Value} {n n' : Nat} {xs ys : List α} (k : Le m s.heap.get?) (hu : A.units + (d + 1) < cLine)
    (e₁ : m a = some (seqO "list" vs n)) (p₁ : Paired (R.r m) vs xs) (e₂ : m b = some (seqO "list" ws n')) (p₂ : Paired (R.r m) ws ys) : RcAt A s (.ref a) (.ref b) (listEq e xs ys) := by
  by_cases hl : xs.length = ys.length
  · have hsz : vs.toArray.size = ws.toArray.size := by rw [List.size_toArray, List.size_toArray, p₁.length, p₂.length, hl]
    have z := RcAt.lists (A := A) (e := fun j => match xs[j]?, ys[j]? with | some x, some y => e x y | _, _ => false) (isList_of k e₁) (isList_of k e₂) hsz (by omega) (fun j h1 h2 => by
      have h1' : j < vs.length := by simpa using h1
      have h2' : j < ws.length := by simpa using h2
      obtain ⟨x, hx, rx⟩ := paired_get' p₁ j vs[j] (List.getElem?_eq_getElem h1')
      obtain ⟨y, hy, ry⟩ := paired_get' p₂ j ws[j] (List.getElem?_eq_getElem h2')
      rw [hx, hy]
      simpa using hR A.in1 s m vs[j] ws[j] x y k (by show A.units + 1 + d < _; omega) rx ry)
    have hq : (List.range vs.toArray.size).all (fun j => match xs[j]?, ys[j]? with | some x, some y => e x y | _, _ => false) = listEq e xs ys := by
      rw [List.size_toArray, p₁.length]
      unfold listEq
      rw [all_range_paired (e := e) xs ys hl _ fun j h1 h2 => by rw [List.getElem?_eq_getElem h1, List.getElem?_eq_getElem h2]]
      simp [hl]
    rw [hq] at z
    exact z
  · have hsz : (vs.toArray.size != ws.toArray.size) = true := by rw [List.size_toArray, List.size_toArray, p₁.length, p₂.length]; simpa using hl
    have e0 : listEq e xs ys = false := by unfold listEq; simp [hl]
    rw [e0]
    exact RcAt.lists_lengths (isList_of k e₁) (isList_of k e₂) hsz (by omega)
theorem eqR_list {R : Rel α} {e : α → α → Bool} {d : Nat} (hR : EqR R e d) (hf : ∀ m v a b, R.r m v a → R.r m v b → e a b = true) : EqR (listR R) (listEq e) (d + 1) := by
  intro A s m v₁ v₂ xs ys k hu ⟨a, vs, n, h1, e₁, p₁⟩ ⟨b, ws, n', h2, e₂, p₂⟩
  subst h1 h2
  by_cases hab : a = b
  · subst hab
    rw [e₁] at e₂
    cases e₂
    have : ∀ (vs : List Value) (xs ys : List α), Paired (R.r m) vs xs → Paired (R.r m) vs ys → listEq e xs ys = true := by
      intro vs
      induction vs with
      | nil => intro xs ys p q; cases p; cases q; rfl
      | cons v vs ih =>
        intro xs ys p q
        cases p with
        | cons a1 a2 => cases q with
          | cons b1 b2 =>
            have z := ih _ _ a2 b2
            unfold listEq at z ⊢
            simp only [Bool.and_eq_true, beq_iff_eq, List.length_cons, List.zip_cons_cons, List.all_cons] at z ⊢
            exact ⟨by rw [z.1], hf _ _ _ _ a1 b1, z.2⟩
    rw [this _ _ _ p₁ p₂]
    exact EqAt.same _
  · exact EqAt.of_refs hab (rcR_list hR k hu e₁ p₁ e₂ p₂)
theorem rcNeR_list {R : Rel α} {e : α → α → Bool} {d : Nat} (hR : EqR R e d) {A : Around} {s : Shared} {m : Mem} {a b : Addr} {vs ws : List Value} {n n' : Nat} {xs ys : List α} (k : Le m s.heap.get?) (hu : A.units + (d + 1) < cLine)
    (e₁ : m a = some (seqO "list" vs n)) (p₁ : Paired (R.r m) vs xs) (e₂ : m b = some (seqO "list" ws n')) (p₂ : Paired (R.r m) ws ys) : RcNeAt A s (.ref a) (.ref b) (!listEq e xs ys) := by
  by_cases hl : xs.length = ys.length
  · have hsz : vs.toArray.size = ws.toArray.size := by rw [List.size_toArray, List.size_toArray, p₁.length, p₂.length, hl]
    have z := RcNeAt.lists (A := A) (e := fun j => match xs[j]?, ys[j]? with | some x, some y => e x y | _, _ => false) (isList_of k e₁) (isList_of k e₂) hsz (by omega) (fun j h1 h2 => by
      have h1' : j < vs.length := by simpa using h1
      have h2' : j < ws.length := by simpa using h2
      obtain ⟨x, hx, rx⟩ := paired_get' p₁ j vs[j] (List.getElem?_eq_getElem h1')
      obtain ⟨y, hy, ry⟩ := paired_get' p₂ j ws[j] (List.getElem?_eq_getElem h2')
      rw [hx, hy]
      simpa using hR A.in1 s m vs[j] ws[j] x y k (by show A.units + 1 + d < _; omega) rx ry)
    have hq : (List.range vs.toArray.size).all (fun j => match xs[j]?, ys[j]? with | some x, some y => e x y | _, _ => false) = listEq e xs ys := by
      rw [List.size_toArray, p₁.length]
      unfold listEq
      rw [all_range_paired (e := e) xs ys hl _ fun j h1 h2 => by rw [List.getElem?_eq_getElem h1, List.getElem?_eq_getElem h2]]
      simp [hl]
    rw [hq] at z
    exact z
  · have hsz : (vs.toArray.size != ws.toArray.size) = true := by rw [List.size_toArray, List.size_toArray, p₁.length, p₂.length]; simpa using hl
    have e0 : listEq e xs ys = false := by unfold listEq; simp [hl]
    rw [e0]
    exact RcNeAt.lists_lengths (isList_of k e₁) (isList_of k e₂) hsz (by omega)
theorem V_eqL {R : Rel α} {e : α → α → Bool} {d : Nat} (hR : EqR R e d) (hu : A.units + (d + 1) < cLine) {v₁ v₂ : Value} {xs ys : List α} (r₁ : (listR R).r m v₁ xs) (r₂ : (listR R).r m v₂ ys) : G prog w A m (compareOp .Eq v₁ v₂) boolR (listEq e xs ys) := by
  obtain ⟨a, vs, n, rfl, e₁, p₁⟩ := r₁
  obtain ⟨b, ws, n', rfl, e₂, p₂⟩ := r₂
  exact G_of fun s k Q E hq => rcR_list hR k hu e₁ p₁ e₂ p₂ prog w E Q (hq _ s.toks rfl)
theorem V_neL {R : Rel α} {e : α → α → Bool} {d : Nat} (hR : EqR R e d) (hu : A.units + (d + 1) < cLine) {v₁ v₂ : Value} {xs ys : List α} (r₁ : (listR R).r m v₁ xs) (r₂ : (listR R).r m v₂ ys) : G prog w A m (compareOp .NotEq v₁ v₂) boolR (!listEq e xs ys) := by
  obtain ⟨a, vs, n, rfl, e₁, p₁⟩ := r₁
  obtain ⟨b, ws, n', rfl, e₂, p₂⟩ := r₂
  exact G_of fun s k Q E hq => rcNeR_list hR k hu e₁ p₁ e₂ p₂ prog w E Q (hq _ s.toks rfl)
theorem listEq_beq [BEq α] [LawfulBEq α] : ∀ (xs ys : List α), listEq (· == ·) xs ys = (xs == ys)
  | [], [] => rfl
  | [], _ :: _ => rfl
  | _ :: _, [] => rfl
  | x :: xs, y :: ys => by
    have z := listEq_beq xs ys
    unfold listEq at z ⊢
    simp only [List.length_cons, List.zip_cons_cons, List.all_cons]
    rw [List.cons_beq_cons, ← z]
    cases x == y <;> simp

-- in a list of ints
theorem V_inI {v₁ v₂ : Value} {k : Int} {xs : List Int} (r₁ : intR.r m v₁ k) (r₂ : (listR intR).r m v₂ xs) : G prog w A m (compareOp .In v₁ v₂) boolR (xs.contains k) := by
  obtain ⟨t, rfl⟩ := r₁
  obtain ⟨b, ws, n', rfl, e₂, p₂⟩ := r₂
  refine G_of fun s kk Q E hq => in_listAt (fun y => match y with | .int i _ => i == k | _ => false) (isList_of kk e₂) (fun y hy => ?_) ?_
  · obtain ⟨i, hi, rfl⟩ := List.getElem_of_mem (by simpa using hy : y ∈ ws)
    obtain ⟨x, hx, u, e⟩ := paired_get' p₂ i _ (List.getElem?_eq_getElem hi)
    rw [e]
    exact (EqGives.int x k u t).at A.in1 s
  · have : (ws.toArray.any fun y => match y with | .int i _ => i == k | _ => false) = xs.contains k := by
      rw [List.any_toArray]
      have : ∀ (ws : List Value) (xs : List Int), Paired (intR.r m) ws xs → (ws.any fun y => match y with | .int i _ => i == k | _ => false) = xs.contains k := by
        intro ws
        induction ws with
        | nil => intro xs p; cases p; rfl
        | cons v vs ih =>
          intro xs p
          cases p with
          | cons a1 a2 =>
            obtain ⟨u, rfl⟩ := a1
            rw [List.any_cons, ih _ a2, List.contains_cons]
            dsimp only
            rw [Bool.beq_comm]
      exact this _ _ p₂
    rw [this]
    exact hq _ s.toks rfl

-- len, join, find, rstrip
theorem C_lenL {R : Rel α} {xs : List α} (hl : xs.length < 2 ^ 62) {vs : List Value} (h : (AP.cons (listR R) xs .nil).p m vs) : G prog w A m (call (.builtin "len") vs) intR (xs.length : Int) := by
  obtain ⟨v, _, rfl, ⟨a, us, n, rfl, e, p⟩, rfl⟩ := h
  refine G_of fun s k Q E hq => call_len_list (isList_of k e) (by rw [List.size_toArray, p.length]; omega) ?_
  rw [List.size_toArray, p.length]
  exact hq _ _ ⟨_, rfl⟩
theorem C_lenS {x : Str} (hl : x.length < 2 ^ 62) {vs : List Value} (h : (AP.cons strR x .nil).p m vs) : G prog w A m (call (.builtin "len") vs) intR (x.length : Int) := by
  obtain ⟨v, _, rfl, ⟨t, rfl⟩, rfl⟩ := h
  exact G_of fun s k Q E hq => P.len_str (by omega) (hq _ _ ⟨_, rfl⟩)
theorem C_find {x y : Str} {v : Value} {vs : List Value} (r : strR.r m v x) (h : (AP.cons strR y .nil).p m vs) : G prog w A m (call (.builtin "str.find") (v :: vs)) intR (Txt.find x y) := by
  obtain ⟨t, rfl⟩ := r
  obtain ⟨v, _, rfl, ⟨u, rfl⟩, rfl⟩ := h
  exact G_of fun s k Q E hq => SC.find (hq _ _ ⟨_, rfl⟩)
theorem C_rstrip {x y : Str} (hx : x.length ≤ sizeLine) {v : Value} {vs : List Value} (r : strR.r m v x) (h : (AP.cons strR y .nil).p m vs) : G prog w A m (call (.builtin "str.rstrip") (v :: vs)) strR (Txt.rstripChars x y) := by
  obtain ⟨t, rfl⟩ := r
  obtain ⟨v, _, rfl, ⟨u, rfl⟩, rfl⟩ := h
  exact G_of fun s k Q E hq => SC.rstripChars (fun t' tk => hq _ _ ⟨_, rfl⟩) hx
theorem strs_of {xs : List Str} : ∀ {vs : List Value}, Paired (strR.r m) vs xs → ∃ l : List (Str × Tok), vs = strValues l ∧ l.map (·.1) = xs := by
  induction xs with
  | nil => intro vs p; cases p; exact ⟨[], rfl, rfl⟩
  | cons x xs ih =>
    intro vs p
    cases p with
    | cons a b =>
      obtain ⟨t, rfl⟩ := a
      obtain ⟨l, rfl, e⟩ := ih b
      exact ⟨(x, t) :: l, rfl, by simp [e]⟩
theorem C_join {x : Str} {xs : List Str} (hok : JoinOk x xs = true) {v : Value} {vs : List Value} (r : strR.r m v x) (h : (AP.cons (listR strR) xs .nil).p m vs) : G prog w A m (call (.builtin "str.join") (v :: vs)) strR (Txt.join x xs) := by
  obtain ⟨t, rfl⟩ := r
  obtain ⟨v, _, rfl, ⟨a, us, n, rfl, e, p⟩, rfl⟩ := h
  obtain ⟨l, rfl, hl⟩ := strs_of p
  exact G_of fun s k Q E hq => SC.join (isList_of k e) hl hok fun t' tk => hq _ _ ⟨_, rfl⟩
end
end
-- part L7
section
open PySem PySem.W PyProof.Rows PySem.Calls PySem.MeetsSeq PySem.SeqAt PySem.SeqRoads2
set_option maxRecDepth 100000
section
variable {prog : Program} {w : World} {A : Around} {env : Env} {α β γ : Type} {m : Mem}

theorem strsAre_of {xs : List Str} : ∀ {vs : List Value}, Paired (strR.r m) vs xs → StrsAre vs xs := by
  induction xs with
  | nil => intro vs p; cases p; exact .nil
  | cons x xs ih => intro vs p; cases p with | cons a b => obtain ⟨t, rfl⟩ := a; exact .cons x t (ih b)
theorem paired_strs {xs : List Str} : ∀ {vs : List Value}, StrsAre vs xs → Paired (strR.r m) vs xs
  | _, .nil => .nil
  | _, .cons x t h => .cons ⟨t, rfl⟩ (paired_strs h)
theorem intsAre_of {xs : List Int} : ∀ {vs : List Value}, Paired (intR.r m) vs xs → IntsAre vs xs := by
  induction xs with
  | nil => intro vs p; cases p; exact .nil
  | cons x xs ih => intro vs p; cases p with | cons a b => obtain ⟨t, rfl⟩ := a; exact .cons x t (ih b)
theorem paired_ints {xs : List Int} : ∀ {vs : List Value}, IntsAre vs xs → Paired (intR.r m) vs xs
  | _, .nil => .nil
  | _, .cons x t h => .cons ⟨t, rfl⟩ (paired_ints h)

/-- sorted(xs): what it gives is a rising order of the same texts -/
theorem C_sorted {xs ys : List Str} (h64 : xs.length < 64) (hu : ∀ zs : List Str, zs.Perm xs → sortedS zs = true → zs = ys) {vs : List Value} (h : (AP.cons (listR strR) xs .nil).p m vs) : G prog w A m (call (.builtin "sorted") vs) (listR strR) ys := by
  obtain ⟨v, _, rfl, ⟨a, us, n, rfl, e, p⟩, rfl⟩ := h
  refine ⟨fun s k Q E hq => ?_⟩
  refine sorted_strs (isList_of k e) (strsAre_of p) (by rw [p.length]; exact h64) fun out ss a1 a2 a3 => ?_
  obtain ⟨ep, he⟩ := sortedAll_at s.heap us out
  have hz := hu ss a2 a3
  subst hz
  have gn : s.heap.get? (s.heap.objs.size + 1) = none := Heap.get?_none_of_le (Nat.le_succ _)
  exact hq _ _ s.toks (fun b o hb => sortedAll_old hb) ⟨_, out.toList, ep, rfl, by rw [ext_none gn, he], paired_strs a1⟩

/-- the order of the keys -/
theorem strs_down {vs : List Value} {ss : List Str} (hS : StrsAre vs ss) {xs : Array Keyed} (hp : xs.Perm (pairsOf vs)) (hs : SortedToK strKind xs (pairsOf vs).size) :
    ∃ zs, StrsAre ((xs.map (·.2)).reverse).toList zs.reverse ∧ zs.Perm ss ∧ sortedS zs = true := by
  obtain ⟨zs, h1, h2, h3⟩ := sorted_out_str hS hp hs
  refine ⟨zs, ?_, h2, h3⟩
  rw [Array.toList_reverse]
  have h4 := strsAre_map (xs.map (·.2)).toList.reverse (fun v hv => h1.all v (List.mem_reverse.mp hv))
  rwa [List.map_reverse, h1.strs] at h4

theorem rev_sort {a : Addr} {vs : List Value} {ss : List Str} {n : Nat} {P : Fin → Shared → Prop} {E : Value → Shared → Prop} {s : Shared} (ho : s.heap.get? a = some (seqObj "list" vs.toArray n)) (hS : StrsAre vs ss) (h64 : vs.length < 64)
    (h : ∀ (out : Array Value) (zs : List Str), StrsAre out.toList zs.reverse → zs.Perm ss → sortedS zs = true → P (.done (.ret .none)) { s with heap := sortedHeap s.heap a vs out }) :
    wpAny (model prog w) A (Builtin.«list.sort» ⟨[.ref a], [(Str.ofString "reverse", .bool true)]⟩) P E s := by
  have ha : a < s.heap.objs.size := Heap.lt_size ho
  obtain ⟨e1, ho1⟩ : ∃ e1, (s.heap.update a (Obj.mapSeq fun _ => #[])).get? a = some (seqObj "list" #[] e1) := ⟨_, get?_update_seq ho (fun _ => #[])⟩
  have up : ∀ (h : Heap) (o : Obj), a < h.objs.size → h.get? a = some (seqObj "list" #[] e1) → (h.push o).get? a = some (seqObj "list" #[] e1) := fun h o hlt e => Heap.get?_push_of_some _ e
  have ho6 : (((s.heap.update a (Obj.mapSeq fun _ => #[])).push (seqObj "tuple" vs.toArray 0)).push (seqObj "list" #[] 0)).get? a = some (seqObj "list" #[] e1) :=
    Heap.get?_push_of_some _ (Heap.get?_push_of_some _ ho1)
  have done : ∀ st : SortSt, (arrOf st).Perm (pairsOf vs) → SortedToK strKind (arrOf st) (pairsOf vs).size → P (.done (.ret .none)) { s with heap := sortedHeap s.heap a vs ((arrOf st).map (·.2)).reverse } := fun st hp hs => by
    obtain ⟨zs, h1, h2, h3⟩ := strs_down hS hp hs
    exact h _ zs h1 h2 h3
  have perm : ∀ ws : List Value, ((ws.toArray.zip ws.toArray).reverse).Perm (pairsOf ws) := fun ws => Array.perm_iff_toList_perm.mpr (by rw [Array.toList_reverse]; exact List.reverse_perm _)
  have line : ∀ zs : Array Keyed, zs.Perm (pairsOf vs) → ((zs.map (·.2)).reverse).size ≤ sizeLine + 1 := fun zs hp => by
    rw [Array.size_reverse, Array.size_map, hp.size_eq, pairsOf_size, sizeLine_eq]; omega
  rw [list_sort_rev]
  refine wpAny_bind (listItems_at ho rfl (wpAny_bind (listUpdate_at ho rfl (wpAny_bind (seqEpoch_at ho1 rfl (wpAny_bind (wpAny_newTuple (wpAny_bind (wpAny_newList (wpAny_holding ?_))))))))))
  show wpAny (model prog w) A _ P E { s with heap := ((s.heap.update a (Obj.mapSeq fun _ => #[])).push (seqObj "tuple" vs.toArray 0)).push (seqObj "list" #[] 0) }
  simp only [if_true]
  refine wpAny_bind (wpAny_rule ?_)
  match vs, hS, h64, done, line with
  | v₁ :: v₂ :: rest, hS, h64, done, line =>
    have h2 : ¬ (v₁ :: v₂ :: rest).toArray.size < 2 := by simp
    rw [if_neg h2, if_neg h2, keyKind_strs hS]
    refine wpAny_bind (wpAny_pure (wpAny_bind (wpAny_mono (wpS_sortRunsK (κ := strKind) strKind_oneLt (a₀ := pairsOf (v₁ :: v₂ :: rest)) (st := SortSt.mk' oneType' ((v₁ :: v₂ :: rest).toArray.zip (v₁ :: v₂ :: rest).toArray).reverse #[] 7 none)
      (Q := fun _ st' => (arrOf st').Perm (pairsOf (v₁ :: v₂ :: rest)) ∧ failedOf st' = none ∧ SortedToK strKind (arrOf st') (pairsOf (v₁ :: v₂ :: rest)).size)
      hS.keysOf ⟨perm _, rfl, rfl, rfl⟩ (by rw [pairsOf_size]; simp) (by rw [pairsOf_size]; exact h64) fun st' a1 a2 a3 => ⟨a1, a2, a3⟩) ?_ fun _ _ e => e)))
    rintro ⟨⟨⟩, st⟩ s' ⟨rfl, hp, hf, hs⟩
    refine wpAny_bind (seqEpoch_at ho6 rfl (wpAny_bind (listUpdate_at ho6 rfl ?_ (hsz2 := line _ hp))))
    rw [hf]
    simp only [bne_self_eq_false, Bool.false_eq_true, if_false]
    exact wpAny_pure (done st hp hs)
  | [], hS, h64, done, line =>
    have h2 : ([] : List Value).toArray.size < 2 := by simp
    rw [if_pos h2, if_pos h2]
    refine wpAny_bind (wpAny_pure ?_)
    rw [StateT.run_pure]
    refine wpAny_bind (wpAny_pure ?_)
    dsimp only
    refine wpAny_bind (seqEpoch_at ho6 rfl ?_)
    refine wpAny_bind (listUpdate_at ho6 rfl ?_ (hsz2 := line _ (perm [])))
    simp only [bne_self_eq_false, Bool.false_eq_true, if_false]
    exact wpAny_pure (done (SortSt.mk' general' _ #[] 7 none) (perm []) fun i j hij hj => by rw [pairsOf_size] at hj; simp at hj)
  | [v], hS, h64, done, line =>
    have h2 : [v].toArray.size < 2 := by simp
    rw [if_pos h2, if_pos h2]
    refine wpAny_bind (wpAny_pure ?_)
    rw [StateT.run_pure]
    refine wpAny_bind (wpAny_pure ?_)
    dsimp only
    refine wpAny_bind (seqEpoch_at ho6 rfl ?_)
    refine wpAny_bind (listUpdate_at ho6 rfl ?_ (hsz2 := line _ (perm [v])))
    simp only [bne_self_eq_false, Bool.false_eq_true, if_false]
    refine wpAny_pure (done (SortSt.mk' general' _ #[] 7 none) (perm [v]) fun i j hij hj => ?_)
    have : i = j := by rw [pairsOf_size] at hj; simp at hj; omega
    subst this; exact KeyOrd.kle_refl _

/-- sorted(xs, reverse=True) -/
theorem C_sortedDown {xs ys : List Str} (h64 : xs.length < 64) (hu : ∀ zs : List Str, zs.Perm xs → sortedS zs = true → zs.reverse = ys) {v : Value} (r : (listR strR).r m v xs) :
    G prog w A m (call (.builtin "sorted") [v] [(Str.ofString "reverse", .bool true)]) (listR strR) ys := by
  obtain ⟨a, us, n, rfl, e, p⟩ := r
  refine ⟨fun s k Q E hq => ?_⟩
  have hl := isList_of k e
  have hle : us.length ≤ sizeLine := by rw [p.length, sizeLine_eq]; omega
  have hle2 : us.toArray.size ≤ sizeLine := by rw [List.size_toArray]; exact hle
  refine call_function_entry_kw kind_sorted plain_sorted entry_sorted (args_sorted_rev _ _) ?_
  unfold Builtin.«sorted»
  refine wpAny_bind (m := checkCount "sorted" 1 1 _) (wpAny_pure (wpAny_bind (collect_list hl (wpAny_bind (wpAny_newList ?_ (by first | exact hle | exact hle2))) (by first | exact hle | exact hle2))))
  have hsz : ((s.heap.push (seqObj "list" #[] 0)).update s.heap.objs.size (Obj.mapSeq (· ++ us.toArray))).objs.size = s.heap.objs.size + 1 := by
    rw [Heap.size_update, size_push']
  have hoL : (((s.heap.push (seqObj "list" #[] 0)).update s.heap.objs.size (Obj.mapSeq (· ++ us.toArray))).push (seqObj "list" us.toArray 0)).get? (s.heap.objs.size + 1) = some (seqObj "list" us.toArray 0) := by
    rw [← hsz]; exact Heap.get?_push_size _ rfl
  show wpAny _ _ _ _ _ { s with heap := ((s.heap.push (seqObj "list" #[] 0)).update s.heap.objs.size (Obj.mapSeq (· ++ us.toArray))).push (seqObj "list" us.toArray 0) }
  rw [hsz]
  refine wpAny_bind (wpAny_holding (wpAny_call_entry_kw slot_list_sort ⟨_, hoL, rfl⟩ entry_list_sort (rev_sort hoL (strsAre_of p) (by rw [p.length]; exact h64) fun out zs a1 a2 a3 => ⟨_, rfl, ?_⟩) (args_list_sort_rev _ _)))
  refine wpAny_pure ⟨_, rfl, ?_⟩
  obtain ⟨ep, he⟩ := sortedAll_at s.heap us out
  have hz := hu zs a2 a3
  rw [hz] at a1
  have gn : s.heap.get? (s.heap.objs.size + 1) = none := Heap.get?_none_of_le (Nat.le_succ _)
  exact hq _ (sortedAll s.heap us out) s.toks (fun b o hb => sortedAll_old hb) ⟨_, out.toList, ep, rfl, by rw [ext_none gn, he], paired_strs a1⟩

theorem preSum_eq {xs : List Int} : ∀ n, n ≤ xs.length → preSum (fun i => xs.getD i 0) n = (xs.take n).sum := by
  intro n
  induction n with
  | zero => intro _; rfl
  | succ n ih =>
    intro hn
    show preSum _ n + xs.getD n 0 = _
    rw [ih (by omega), List.take_add_one, List.sum_append, List.getD_eq_getElem?_getD, List.getElem?_eq_getElem (by omega)]
    simp
theorem C_sum (hh : A.handled = none) {xs : List Int} {vs : List Value} (h : (AP.cons (listR intR) xs .nil).p m vs) : G prog w A m (call (.builtin "sum") vs) intR xs.sum := by
  obtain ⟨v, _, rfl, ⟨a, us, n, rfl, e, p⟩, rfl⟩ := h
  refine ⟨fun s k Q E hq => ?_⟩
  have hl := isList_of k e
  have hlt := Heap.lt_size (k _ _ e)
  refine call_sum_walkG (wpAny_pyIter_list hl ⟨_, _, _, _, _, _, fun i => xs.getD i 0, rfl, Walks.list (A := A.in1) hh s.heap.objs.size a (Nat.ne_of_lt hlt) us.toArray, ⟨⟨_, Heap.get?_push_size _ rfl, rfl, rfl⟩, hl.push _⟩, fun b hb => ?_, fun i v hv => ?_, fun h' tk t' hk => ?_⟩)
  · show b < (s.heap.push _).objs.size
    rw [Heap.size_push]
    rcases List.mem_cons.mp hb with rfl | hb
    · exact Nat.lt_succ_self _
    · rw [List.mem_singleton.mp hb]; exact Nat.lt_succ_of_lt hlt
  · obtain ⟨x, hx, t, rfl⟩ := paired_get' p i v (by simpa using hv)
    exact ⟨t, by simp [List.getD_eq_getElem?_getD, hx]⟩
  · have e1 : us.toArray.size = xs.length := by rw [List.size_toArray, p.length]
    rw [e1, preSum_eq _ (Nat.le_refl _), List.take_length]
    exact hq _ h' tk (fun b o eb => hk b o (by simpa using Nat.ne_of_lt (Heap.lt_size eb)) (Heap.get?_push_of_some _ eb)) ⟨t', rfl⟩

theorem C_min (hh : A.handled = none) {xs : List Int} (hne : 0 < xs.length) {y : Int} (hy : ∀ M, M ∈ xs → (∀ a, a ∈ xs → M ≤ a) → M = y) {vs : List Value} (h : (AP.cons (listR intR) xs .nil).p m vs) : G prog w A m (call (.builtin "min") vs) intR y := by
  obtain ⟨v, _, rfl, ⟨a, us, n, rfl, e, p⟩, rfl⟩ := h
  refine ⟨fun s k Q E hq => ?_⟩
  have hl := isList_of k e
  have hi := intsAre_of p
  obtain ⟨xs', e'⟩ := hi.allInts.items
  have hns : xs = xs'.toList.map (·.1) := by rw [← hi.numsOf, ← nums_intItems, ← e']
  have hsz : 0 < xs'.size := by
    have h3 := hne; rw [hns, List.length_map, Array.length_toList] at h3; exact h3
  rw [e'] at hl
  refine min_intList hh hl hsz fun v h' tk hv hk => ?_
  obtain ⟨t, rfl⟩ := intItems_at hv
  obtain ⟨h1, h2⟩ := argBest_lt (numAt xs') (xs'.size - 1)
  have hM := hy (numAt xs' (argBest (fun i j => decide (numAt xs' i < numAt xs' j)) (xs'.size - 1))) ?_ fun a ha => ?_
  · exact hq _ h' tk hk ⟨t, by rw [hM]⟩
  · rw [hns, numAt_eq]; exact getD_mem (by rw [List.length_map, Array.length_toList]; omega)
  · rw [hns] at ha
    obtain ⟨j, hj, rfl⟩ := mem_getD ha
    rw [List.length_map, Array.length_toList] at hj
    rw [← numAt_eq]; exact h2 j (by omega)

/-- [x] * k -/
theorem V_mulL {R : Rel α} {v₁ v₂ : Value} {x : α} {k : Int} (hlo : -(2 ^ 63 : Int) ≤ k) (hhi : k < 2 ^ 24) (r₁ : (listR R).r m v₁ [x]) (r₂ : intR.r m v₂ k) : G prog w A m (binaryOp .Mult v₁ v₂) (listR R) (List.replicate k.toNat x) := by
  obtain ⟨l, vs, n, rfl, e₁, p₁⟩ := r₁
  obtain ⟨u, rfl⟩ := r₂
  obtain ⟨v, rfl, rv⟩ : ∃ v, vs = [v] ∧ R.r m v x := by cases p₁ with | cons a b => cases b; exact ⟨_, rfl, a⟩
  refine ⟨fun s kk Q E hq => ?_⟩
  have hl := kk _ _ e₁
  refine wpAny_binaryOp_repeat_ref (T := "list") (U := "int") (by decide) ⟨_, hl, rfl⟩ (fun s' => typeIs_int s' k u) noFill_list_mul F.fills_int_mul F.slot_int_rmul repeat_list F.slot_int_index.lookup
    (call_meets F.slot_int_rmul (typeIs_int s k u) F.entry_int_rmul (F.args_int_rmul_2 _ _) (int___rmul___int_list k u l [v].toArray n)
      ⟨hl, rfl, ⟨_, hl, rfl⟩, call_meets F.slot_list_mul ⟨_, hl, rfl⟩ F.entry_list_mul (F.args_list_mul_2 _ _)
        (AutoListH.list___mul___list_int_3 l [v].toArray n k u (by simp [Builtin.List.listFitsIndex]; omega) (by have e1 : [v].toArray.size = 1 := rfl; rw [e1]; omega) (by have e1 : [v].toArray.size = 1 := rfl; rw [e1]; simp [Builtin.List.listTooLong, sizeLine]; omega))
        ⟨hl, ?_⟩⟩)
  have hfold : List.foldl (fun x1 x2 => x1 ++ x2) #[] (List.replicate (if ([v].toArray).isEmpty = true then 0 else k.toNat) [v].toArray) = (List.replicate k.toNat v).toArray := by
    have : ([v].toArray).isEmpty = false := rfl
    rw [this]
    simp only [Bool.false_eq_true, if_false]
    have : ∀ (n : Nat) (acc : Array Value), List.foldl (fun x1 x2 => x1 ++ x2) acc (List.replicate n [v].toArray) = acc ++ (List.replicate n v).toArray := by
      intro n
      induction n with
      | zero => intro acc; simp
      | succ n ih => intro acc; rw [List.replicate_succ, List.foldl_cons, ih, List.replicate_succ]; apply Array.ext'; simp
    rw [this]; simp
  rw [hfold]
  refine hq _ _ s.toks (Kp.push _ _) ⟨_, List.replicate k.toNat v, 0, rfl, view_new (Kp.refl _) rfl, ?_⟩
  have z := le_ext (h := s.heap.push (seqO "list" (List.replicate k.toNat v) 0)) kk
  have rep : ∀ n, Paired (R.r (ext m s.heap (s.heap.push (seqO "list" (List.replicate k.toNat v) 0)))) (List.replicate n v) (List.replicate n x) := fun n => by
    induction n with
    | zero => exact .nil
    | succ n ih => exact .cons (R.st z.sq rv) ih
  exact rep _
end
end
-- part L8
section
open PySem PySem.W PyProof.Rows PySem.Calls
set_option maxRecDepth 100000
/-- a block of statements -/
structure XB (prog : Program) (w : World) (A : Around) (body : List Stmt) (env : Env) (Q : Flow → Shared → Prop) (s : Shared) : Prop where
  run : ∀ E, wpAny (model prog w) A (execs body env) Q E s

section
variable {prog : Program} {w : World} {A : Around} {env : Env} {α β γ : Type}
variable {m₀ : Mem} {g : Heap} {own : Addr → Prop} {s₁ s : Shared} {Γ : List (Str × TP)} {Q : Flow → Shared → Prop}

/-- what comes behind a block's first statement -/
def Then (prog : Program) (w : World) (A : Around) (rest : List Stmt) (env : Env) (Q : Flow → Shared → Prop) (f : Flow) (s : Shared) : Prop := match f with
  | .next => XB prog w A rest env Q s
  | f => Q f s
theorem XB.cons {st : Stmt} {rest : List Stmt} (h : ∀ E, wpAny (model prog w) A (exec st env) (Then prog w A rest env Q) E s) : XB prog w A (st :: rest) env Q s :=
  ⟨fun E => wpAny_execs_cons (wpAny_mono (h E) (fun f s' q => by
    cases f with
    | next => exact XB.run (show XB prog w A rest env Q s' from q) E
    | brk => exact q
    | cont => exact q
    | ret v => exact q) fun _ _ e => e)⟩
theorem XB.nil (h : Q .next s) : XB prog w A [] env Q s := ⟨fun E => wpAny_execs_nil h⟩

theorem XB_assign {y : Str} {p' pos : Pos} {e : Expr} {rest : List Stmt} {R : Rel α} {a : α} (T : At m₀ g own s₁ s env Γ)
    (hy : env.kindOf y = some .local ∨ (env.kindOf y = some .cell ∧ (env.cells.lookup y).isSome = true)) (hs : swapsWith e (some (.Name y p')) pos.line env = pure false)
    (ge : G prog w A (ext m₀ g s.heap) (eval e env) R a) (hq : ∀ s', At m₀ g own s₁ s' env ((y, R.at a) :: Γ) → XB prog w A rest env Q s') :
    XB prog w A (.Assign [.Name y p'] e pos :: rest) env Q s := .cons fun E => X_assign T hy hs ge fun s' T' => hq s' T'
theorem XB_ret {e : Expr} {pos : Pos} {rest : List Stmt} {R : Rel α} {a : α} (T : At m₀ g own s₁ s env Γ) (ge : G prog w A (ext m₀ g s.heap) (eval e env) R a) :
    XB prog w A (.Return (some e) pos :: rest) env (Ret m₀ g s₁ R a) s := ⟨fun E => X_ret T ge⟩
theorem XB_comp {elt iter : Expr} {x y : Str} {px py : Pos} {scope : Scope} {pos spos : Pos} {rest : List Stmt} {cl : List (Str × Addr)} {RA : Rel α} {RB : Rel β} {xs : List α} (f : α → β) (T : At m₀ g own s₁ s env Γ)
    (hy : env.kindOf y = some .local ∨ (env.kindOf y = some .cell ∧ (env.cells.lookup y).isSome = true))
    (hsw : swapsWith (.ListComp elt [⟨.Name x px, iter, [], 0⟩] scope pos) (some (.Name y py)) spos.line env = pure true)
    (hclos : closureFor scope env = pure cl) (hkind : scope.kind = .function) (hnames : ∀ y ∈ scope.names, y.2 = .local → scope.names.lookup y.1 = some .local) (hx : LetterOk scope x cl)
    (gi : GI prog w A (ext m₀ g s.heap) (eval iter env) RA xs) (hlen : xs.length ≤ sizeLine)
    (ge : ∀ C m' v y, Le (ext m₀ g s.heap) m' → y ∈ xs → RA.r m' v y → NmS m' (envC scope cl C env) x v → G prog w A m' (eval elt (envC scope cl C env)) RB (f y))
    (hq : ∀ s', At m₀ g own s₁ s' env ((y, (listR RB).at (xs.map f)) :: Γ) → XB prog w A rest env Q s')
    (hs : ∀ x, foldedSetIterable iter env x = pure x := by intro _; rfl) :
    XB prog w A (.Assign [.Name y py] (.ListComp elt [⟨.Name x px, iter, [], 0⟩] scope pos) spos :: rest) env Q s :=
  .cons fun E => X_comp f T hy hsw hclos hkind hnames hx gi hlen ge (fun s' T' => hq s' T') hs

theorem XB_if {test : Expr} {body orelse rest : List Stmt} {pos : Pos} {b : Bool} (T : At m₀ g own s₁ s env Γ) (gt : GB prog w A (ext m₀ g s.heap) (isTrue test env (eval test env)) b)
    (h1 : b = true → ∀ s', At m₀ g own s₁ s' env Γ → Kp s.heap s'.heap → XB prog w A body env (Then prog w A rest env Q) s')
    (h2 : b = false → ∀ s', At m₀ g own s₁ s' env Γ → Kp s.heap s'.heap → XB prog w A orelse env (Then prog w A rest env Q) s') : XB prog w A (.If test body orelse pos :: rest) env Q s :=
  .cons fun E => wpAny_If (gt.run s T.low _ _ fun h' tk k => by
    cases b with
    | true => exact (h1 rfl _ (T.grow k) k).run E
    | false => exact (h2 rfl _ (T.grow k) k).run E)
/-- a test that fails, and nothing else -/
theorem XB_skip {test : Expr} {body rest : List Stmt} {pos : Pos} (T : At m₀ g own s₁ s env Γ) (gt : GB prog w A (ext m₀ g s.heap) (isTrue test env (eval test env)) false)
    (hq : ∀ s', At m₀ g own s₁ s' env Γ → XB prog w A rest env Q s') : XB prog w A (.If test body [] pos :: rest) env Q s :=
  XB_if T gt (fun e => nomatch e) fun _ s' T' _ => .nil (hq s' T')

theorem At.sub {Γ' : List (Str × TP)} (T : At m₀ g own s₁ s env Γ) (h : ∀ p ∈ Γ', Γ.lookup p.1 = some p.2) : At m₀ g own s₁ s env Γ' := by
  refine ⟨T.le, T.kp, T.stp, T.new, T.mine, ⟨T.fm.kind, ?_, T.fm.apart, T.fm.above⟩⟩
  obtain ⟨f, cm, hn, hc, hv⟩ := T.fm.frame
  exact ⟨f, cm, hn, hc, fun x P e => hv x P (h (x, P) (mem_of_lookup e))⟩
theorem At.moves {h : Heap} {tk : Nat} {I : Addr} (T : At m₀ g own s₁ s env Γ) (hI : ¬ own I) (hg : g.get? I = none) (hn : s₁.heap.get? I = none) (hs : Sq s.heap.get? h.get?) (k : ∀ b o, b ≠ I → s.heap.get? b = some o → h.get? b = some o) :
    At m₀ g own s₁ { s with heap := h, toks := tk } env Γ := by
  refine ⟨T.le, fun b o e => k b o (fun q => by rw [q, hg] at e; cases e) (T.kp _ _ e), ?_, T.new, T.mine, T.fm.move (ext_sq hs) fun b o hb e => ?_⟩
  · obtain ⟨h', tk', rfl, st⟩ := T.stp
    exact ⟨h, tk, rfl, fun b o hb e => k b o (fun q => by rw [q, hn] at e; cases e) (st b o hb e)⟩
  · cases q : g.get? b with
    | none => rw [ext_none q] at e ⊢; exact k b o (fun z => hI (z ▸ T.mine b hb)) e
    | some o' => rw [ext_some q] at e ⊢; exact e

/-- a call of a def of the text's, its body a block -/
theorem call_fnB {K : Frag} {m : Mem} {n : Nat} {a : Addr} {body : List Stmt} {sc : Scope} {ps : List Str} {vals : List Value} {Γ : List (Str × TP)} {R : Rel α} {y : α} (D : Def K a ps sc body)
    (gr : Gr K m) (rm : Rm A (n + 1)) {tps : List TP} (hΓ : Γ = ps.zip tps) (hlen : vals.length = ps.length) (hP : Paired (fun (P : TP) v => P.p m v) tps vals) (hnd : ps.Nodup)
    (h1 : ∀ L q fn cd fr hp s₁ A', At m hp (ownOf (ev sc L q fn cd fr)) s₁ s₁ (ev sc L q fn cd fr) Γ → Rm A' n →
      XB prog w A' body (ev sc L q fn cd fr) (Ret m hp s₁ R y) s₁) :
    G prog w A m (call (.ref a) vals) R y := call_fn D gr rm hΓ hlen hP hnd fun L q fn cd fr hp s₁ A' E T r => (h1 L q fn cd fr hp s₁ A' T r).run E

/-- for x in ..: -/
theorem XB_for {x : Str} {px pos : Pos} {iter : Expr} {body orelse rest : List Stmt} {RA : Rel α} {xs : List α} {mB : Mem} (Inv : Nat → Shared → Prop) (Brk : Shared → Prop)
    (hkg : Kp g s.heap) (hleg : Le m₀ g.get?) (hmB : Le mB (ext m₀ g s.heap)) (gi : GI prog w A mB (eval iter env) RA xs)
    (hown : ∀ b, own b → g.get? b = none ∧ ∃ o, s.heap.get? b = some o) (hB : ∀ b o ys n, own b → mB b = some o → o.data ≠ .seq ys n)
    (h0 : ∀ h tk, Kp s.heap h → Inv 0 { s with heap := h, toks := tk })
    (hI : ∀ i s' h tk I, s.heap.get? I = none → Stp own s s' → Inv i s' → Sq s'.heap.get? h.get? → (∀ b o, b ≠ I → s'.heap.get? b = some o → h.get? b = some o) → Inv i { s' with heap := h, toks := tk })
    (turn : ∀ i a v s' E', xs[i]? = some a → Inv i s' → RA.r (ext m₀ g s'.heap) v a →
      wpAny (model prog w) A (storeName env x v) (fun _ s2 => wpAny (model prog w) A (execs body env) (fun f s'' => Stp own s' s'' ∧ match f with | .next | .cont => Inv (i + 1) s'' | .brk => Brk s'' | .ret u => Q (.ret u) s'') E' s2) E' s')
    (hend : ∀ s', Inv xs.length s' → XB prog w A orelse env (Then prog w A rest env Q) s') (hbrk : ∀ s', Brk s' → XB prog w A rest env Q s')
    (hs : ∀ x, foldedSetIterable iter env x = pure x := by intro _; rfl) :
    XB prog w A (.For (.Name x px) iter body orelse pos :: rest) env Q s := by
  refine .cons fun E => wpAny_For ?_ hs
  have leB : Le mB s.heap.get? := hmB.trans (ext_le hleg hkg)
  refine gi.run s leB _ _ fun hx I fp P St hb tk kx T => ?_
  have kxb : Kp s.heap hb := kx.trans T.up
  have hIfp : I ∈ fp := T.walks.sub I (List.mem_singleton.mpr rfl)
  have hIs : s.heap.get? I = none := by
    cases q : s.heap.get? I with
    | none => rfl
    | some o => have := kx _ _ q; rw [T.fresh] at this; cases this
  have gI : g.get? I = none := by
    cases q : g.get? I with
    | none => rfl
    | some o => rw [hkg _ _ q] at hIs; cases hIs
  have hfpo : ∀ b ∈ fp, ¬ own b := fun b hb ho => by
    obtain ⟨h1, o, h2⟩ := hown b ho
    by_cases hbI : b = I
    · rw [hbI, hIs] at h2; cases h2
    · obtain ⟨o', ys, n, h3, h4⟩ := T.fpseq b hb hbI
      rw [ext_some h2] at h3
      exact hB b o' ys n ho h3 h4
  -- what stood ahead of the iterator is in view
  have vw : ∀ h : Heap, (∀ b o, ¬ own b → b ≠ I → hb.get? b = some o → h.get? b = some o) → Kp g h → Sq (ext mB s.heap hx) (ext m₀ g h) := fun h k kg b c d zs n sl e => by
    have hbI : b ≠ I := fun q => by
      have := ext_le leB kx _ _ e
      rw [q, T.fresh] at this; cases this
    cases q : s.heap.get? b with
    | none =>
      rw [ext_none q] at e
      have gb : g.get? b = none := by
        cases z : g.get? b with
        | none => rfl
        | some o' => rw [hkg _ _ z] at q; cases q
      rw [ext_none gb]
      exact k b _ (fun ho => by obtain ⟨_, o, h2⟩ := hown b ho; rw [q] at h2; cases h2) hbI (T.up _ _ e)
    | some o' =>
      rw [ext_some q] at e
      have z := hmB _ _ e
      cases gb : g.get? b with
      | none =>
        rw [ext_none gb] at z ⊢
        exact k b _ (fun ho => hB b _ zs n ho e rfl) hbI (kxb _ _ z)
      | some o'' => rw [ext_some gb] at z ⊢; exact z
  refine codeAny_forLoop
    (fun k s' => ∃ i, i ≤ xs.length ∧ k = xs.length + 1 - i ∧ St i s'.heap ∧ Inv i s' ∧ Stp own s s' ∧ Kp g s'.heap ∧ ∀ b o, ¬ own b → b ≠ I → hb.get? b = some o → s'.heap.get? b = some o) ?_ (xs.length + 1)
    ⟨0, Nat.zero_le _, rfl, T.start, h0 hb tk kxb, .ofKp kxb, hkg.trans kxb, fun b o _ _ e => e⟩
  rintro k s' ⟨i, hi, rfl, hst, hinv, hstp, hkg', hkb⟩
  by_cases hlt : i < xs.length
  · refine T.walks.item i _ _ _ hlt hst fun v h₂ tk₂ hPv hst₂ hk₂ => ?_
    have hk2 : ∀ b o, b ≠ I → s'.heap.get? b = some o → h₂.get? b = some o := fun b o hb e => hk₂ b o (by simpa using hb) e
    obtain ⟨oI, heI, hoI⟩ := T.obj i s'.heap hst
    have sq2 : Sq s'.heap.get? h₂.get? := sq_but (fun o e => by rw [heI] at e; cases e; exact hoI) hk2
    have inv2 := hI i s' h₂ tk₂ I hIs hstp hinv sq2 hk2
    obtain ⟨y, hy, hry⟩ := T.item i v hPv
    have kg2 : Kp g h₂ := fun b o e => hk2 b o (fun q => by rw [q, gI] at e; cases e) (hkg' _ _ e)
    have kb2 : ∀ b o, ¬ own b → b ≠ I → hb.get? b = some o → h₂.get? b = some o := fun b o h1 h2 e => hk2 b o h2 (hkb b o h1 h2 e)
    have stp2 : Stp own s { s' with heap := h₂, toks := tk₂ } := by
      obtain ⟨hh, tt, rfl, kk⟩ := hstp
      exact ⟨h₂, tk₂, rfl, fun b o hb e => hk2 b o (fun q => by rw [q, hIs] at e; cases e) (kk b o hb e)⟩
    refine wpAny_assign_Name (wpAny_mono (turn i y v { s' with heap := h₂, toks := tk₂ } _ hy inv2 (RA.st (vw h₂ kb2 kg2) hry)) (fun _ s2 hq => wpAny_mono hq (fun f s3 hf => ?_) fun _ _ e => e) fun _ _ e => e)
    obtain ⟨st, hf⟩ := hf
    obtain ⟨h₃, tk₃, rfl, kk⟩ := st
    have nxt : Inv (i + 1) { s' with heap := h₃, toks := tk₃ } → ∃ m, m < xs.length + 1 - i ∧ ∃ i, i ≤ xs.length ∧ m = xs.length + 1 - i ∧ St i h₃ ∧ Inv i { s' with heap := h₃, toks := tk₃ } ∧ Stp own s { s' with heap := h₃, toks := tk₃ } ∧ Kp g h₃ ∧
        ∀ b o, ¬ own b → b ≠ I → hb.get? b = some o → h₃.get? b = some o := fun hv =>
      ⟨xs.length + 1 - (i + 1), by omega, i + 1, hlt, rfl, T.walks.frame _ _ _ hst₂ (fun b hb o e => kk b o (hfpo b hb) e), hv, stp2.trans ⟨h₃, tk₃, rfl, kk⟩,
        fun b o e => kk b o (fun ho => by rw [(hown b ho).1] at e; cases e) (kg2 _ _ e), fun b o h1 h2 e => kk b o h1 (kb2 b o h1 h2 e)⟩
    cases f with
    | next => exact nxt hf
    | cont => exact nxt hf
    | brk => exact hbrk _ hf
    | ret u => exact hf
  · obtain rfl : i = xs.length := Nat.le_antisymm hi (Nat.not_lt.mp hlt)
    refine T.walks.done _ _ _ hst fun h₂ tk₂ hk₂ => ?_
    have hk2 : ∀ b o, b ≠ I → s'.heap.get? b = some o → h₂.get? b = some o := fun b o hb e => hk₂ b o (by simpa using hb) e
    obtain ⟨oI, heI, hoI⟩ := T.obj _ s'.heap hst
    have sq2 : Sq s'.heap.get? h₂.get? := sq_but (fun o e => by rw [heI] at e; cases e; exact hoI) hk2
    exact wpAny_mono ((hend _ (hI _ s' h₂ tk₂ I hIs hstp hinv sq2 hk2)).run _) (fun f s3 hf => by
      cases f with
      | next => exact hf
      | brk => exact hf
      | cont => exact hf
      | ret u => exact hf) fun _ _ e => e

/-- x op= e -/
theorem XB_aug {y : Str} {p' pos : Pos} {op : Operator} {e : Expr} {rest : List Stmt} {R₁ : Rel α} {R₂ : Rel β} {R : Rel γ} {a : α} {b : β} {c : γ} (T : At m₀ g own s₁ s env Γ)
    (hy : env.kindOf y = some .local ∨ (env.kindOf y = some .cell ∧ (env.cells.lookup y).isSome = true)) (hv : Γ.lookup y = some (R₁.at a)) (ge : G prog w A (ext m₀ g s.heap) (eval e env) R₂ b)
    (go : ∀ m' v₁ v₂, Le (ext m₀ g s.heap) m' → R₁.r m' v₁ a → R₂.r m' v₂ b → G prog w A m' (inplaceOp op v₁ v₂) R c)
    (hq : ∀ s', At m₀ g own s₁ s' env ((y, R.at c) :: Γ) → XB prog w A rest env Q s') : XB prog w A (.AugAssign (.Name y p') op e pos :: rest) env Q s :=
  .cons fun E => wpAny_AugAssign_Name (by
    obtain ⟨v, hn, hr⟩ := T.var hv
    refine (NmS.nm hn) A _ _ s T.low ?_
    refine ge.run s T.low _ _ fun v₂ h' tk k r₂ => ?_
    have T' := T.grow (tk := tk) k
    rw [ext_trans T.kp k] at r₂
    refine T'.run (go _ v v₂ (ext_mono k) (R₁.st (ext_mono k).sq hr) r₂) fun u s2 T2 k2 ru => ?_
    exact T2.store (P := R.at c) hy ru fun s3 T3 _ _ => hq s3 T3)
theorem U_add {m : Mem} {v₁ v₂ : Value} {a b : Int} (h1 : intR.r m v₁ a) (h2 : intR.r m v₂ b) : G prog w A m (inplaceOp .Add v₁ v₂) intR (a + b) := by
  obtain ⟨t, rfl⟩ := h1; obtain ⟨u, rfl⟩ := h2
  exact G_of fun s _ Q E hq => PyProof.Rows.iadd_int (hq _ _ ⟨_, rfl⟩)
end
end
-- part C1
section
open PySem PySem.W PyProof.Rows PySem.Calls
set_option maxRecDepth 100000
set_option maxHeartbeats 4000000
noncomputable abbrev KK (w : World) : Frag := KF w.params
abbrev PP : Program := PySem.Challenge.rw_in0253_01.row.prog
section
variable {prog : Program} {w : World} {A : Around} {m : Mem} {α : Type}

theorem F_number (g : Gr (KK w) m) (rm : Rm A 3) {k u l : Int} {vs : List Value} (h : (AP.cons intR k (AP.cons intR u (AP.cons intR l .nil))).p m vs) (q : Int) (hq : [(1 : Int), 2, 4, 6, 8, 10, 12][(k.fmod 7).toNat]? = some q) (h0 : 0 ≤ k.fmod 7) (h7 : k.fmod 7 < 7) :
    G PP w A m (call (.ref 150) vs) intR (q * 4096 + u * 64 + l) := by
  obtain ⟨v1, _, rfl, r1, v2, _, rfl, r2, v3, _, rfl, r3, rfl⟩ := h
  refine' call_fnB (ps := ["kind", "upper", "lower"]) (Γ := [("kind", intR.at k), ("upper", intR.at u), ("lower", intR.at l)]) (sc := ?sc) (body := ?body) (n := 2)
    ⟨⟨?oc, ?od, ?osl, ?fd, ?ho, ?hcd, ?hb, ?hsc, ?hcl, ?hgl, ?hbi, ?hbind⟩, ?hco, ?hgen, ?hk, ?hpar⟩ g rm rfl rfl (.cons r1 (.cons r2 (.cons r3 .nil))) ?hnd ?h1
  case ho => rfl
  case hcd => rfl
  case hb => rfl
  case hsc => dsimp only
  case hcl => rfl
  case hgl => rfl
  case hbi => rfl
  case hco => rfl
  case hgen => rfl
  case hk => rfl
  case hnd => decide
  case hbind =>
    intro vals h
    match vals, h with
    | [a, b, c], _ => rfl
  case hpar =>
    intro N
    repeat (first | exact List.forall_mem_nil _ | refine List.forall_mem_cons.mpr ⟨by first | exact .inl rfl | exact .inr ⟨rfl, rfl⟩, ?_⟩)
  case h1 =>
    intro L q' fn cd fr hp s₁ A' T r
    refine XB_ret T ?_
    refine J_binop (J_binop (J_binop (J_itemT h0 (by omega) hq (fun _ _ => rfl) (J_tuple ?_ (by decide)) ?_) J_int fun _ _ _ _ => V_mul ?_) (J_binop (J_var (T.var rfl)) J_int fun _ _ _ _ => V_mul ?_) fun _ _ _ _ => V_add) (J_var (T.var rfl)) fun _ _ _ _ => V_add
    · exact GA.allCons J_int (GA.allCons J_int (GA.allCons J_int (GA.allCons J_int (GA.allCons J_int (GA.allCons J_int (GA.allCons J_int GA.allNil))))))
    · exact J_binop (J_var (T.var rfl)) J_int fun _ _ _ _ => V_mod (by decide)
    · exact IntMulOk.of_right (by decide)
    · exact IntMulOk.of_right (by decide)
end
end
-- part C2
section
open PySem PySem.W PyProof.Rows PySem.Calls
set_option maxRecDepth 100000
set_option maxHeartbeats 4000000
theorem bb_sorted : bootBuiltins "sorted" = some (.builtin "sorted") := by decide +kernel
theorem bb_len : bootBuiltins "len" = some (.builtin "len") := by decide +kernel
theorem bb_sum : bootBuiltins "sum" = some (.builtin "sum") := by decide +kernel
theorem bb_min : bootBuiltins "min" = some (.builtin "min") := by decide +kernel
theorem bb_range : bootBuiltins "range" = some (.type "range") := by decide +kernel
theorem bb_enumerate : bootBuiltins "enumerate" = some (.type "enumerate") := by decide +kernel
section
variable {prog : Program} {w : World} {A : Around} {m : Mem} {α : Type}
theorem D_number : ∃ sc body, Def (KK w) 150 ["kind", "upper", "lower"] sc body := by
  refine' ⟨?sc, ?body, ⟨?oc, ?od, ?osl, ?fd, ?ho, ?hcd, ?hb, ?hsc, ?hcl, ?hgl, ?hbi, ?hbind⟩, ?hco, ?hgen, ?hk, ?hpar⟩
  case ho => rfl
  case hcd => rfl
  case hb => rfl
  case hsc => dsimp only
  case hcl => rfl
  case hgl => rfl
  case hbi => rfl
  case hco => rfl
  case hgen => rfl
  case hk => rfl
  case hbind =>
    intro vals h
    match vals, h with
    | [a0, a1, a2], _ => rfl
  case hpar =>
    intro N
    repeat (first | exact List.forall_mem_nil _ | refine List.forall_mem_cons.mpr ⟨by first | exact .inl rfl | exact .inr ⟨rfl, rfl⟩, ?_⟩)
theorem D_fmt : ∃ sc body, Def (KK w) 103 ["mode"] sc body := by
  refine' ⟨?sc, ?body, ⟨?oc, ?od, ?osl, ?fd, ?ho, ?hcd, ?hb, ?hsc, ?hcl, ?hgl, ?hbi, ?hbind⟩, ?hco, ?hgen, ?hk, ?hpar⟩
  case ho => rfl
  case hcd => rfl
  case hb => rfl
  case hsc => dsimp only
  case hcl => rfl
  case hgl => rfl
  case hbi => rfl
  case hco => rfl
  case hgen => rfl
  case hk => rfl
  case hbind =>
    intro vals h
    match vals, h with
    | [a0], _ => rfl
  case hpar =>
    intro N
    repeat (first | exact List.forall_mem_nil _ | refine List.forall_mem_cons.mpr ⟨by first | exact .inl rfl | exact .inr ⟨rfl, rfl⟩, ?_⟩)
theorem D_high : ∃ sc body, Def (KK w) 58 ["data"] sc body := by
  refine' ⟨?sc, ?body, ⟨?oc, ?od, ?osl, ?fd, ?ho, ?hcd, ?hb, ?hsc, ?hcl, ?hgl, ?hbi, ?hbind⟩, ?hco, ?hgen, ?hk, ?hpar⟩
  case ho => rfl
  case hcd => rfl
  case hb => rfl
  case hsc => dsimp only
  case hcl => rfl
  case hgl => rfl
  case hbi => rfl
  case hco => rfl
  case hgen => rfl
  case hk => rfl
  case hbind =>
    intro vals h
    match vals, h with
    | [a0], _ => rfl
  case hpar =>
    intro N
    repeat (first | exact List.forall_mem_nil _ | refine List.forall_mem_cons.mpr ⟨by first | exact .inl rfl | exact .inr ⟨rfl, rfl⟩, ?_⟩)
theorem D_low : ∃ sc body, Def (KK w) 51 ["data"] sc body := by
  refine' ⟨?sc, ?body, ⟨?oc, ?od, ?osl, ?fd, ?ho, ?hcd, ?hb, ?hsc, ?hcl, ?hgl, ?hbi, ?hbind⟩, ?hco, ?hgen, ?hk, ?hpar⟩
  case ho => rfl
  case hcd => rfl
  case hb => rfl
  case hsc => dsimp only
  case hcl => rfl
  case hgl => rfl
  case hbi => rfl
  case hco => rfl
  case hgen => rfl
  case hk => rfl
  case hbind =>
    intro vals h
    match vals, h with
    | [a0], _ => rfl
  case hpar =>
    intro N
    repeat (first | exact List.forall_mem_nil _ | refine List.forall_mem_cons.mpr ⟨by first | exact .inl rfl | exact .inr ⟨rfl, rfl⟩, ?_⟩)
theorem D_pads : ∃ sc body, Def (KK w) 178 ["size", "k", "lowest", "highest"] sc body := by
  refine' ⟨?sc, ?body, ⟨?oc, ?od, ?osl, ?fd, ?ho, ?hcd, ?hb, ?hsc, ?hcl, ?hgl, ?hbi, ?hbind⟩, ?hco, ?hgen, ?hk, ?hpar⟩
  case ho => rfl
  case hcd => rfl
  case hb => rfl
  case hsc => dsimp only
  case hcl => rfl
  case hgl => rfl
  case hbi => rfl
  case hco => rfl
  case hgen => rfl
  case hk => rfl
  case hbind =>
    intro vals h
    match vals, h with
    | [a0, a1, a2, a3], _ => rfl
  case hpar =>
    intro N
    repeat (first | exact List.forall_mem_nil _ | refine List.forall_mem_cons.mpr ⟨by first | exact .inl rfl | exact .inr ⟨rfl, rfl⟩, ?_⟩)
theorem D_signs : ∃ sc body, Def (KK w) 183 ["places"] sc body := by
  refine' ⟨?sc, ?body, ⟨?oc, ?od, ?osl, ?fd, ?ho, ?hcd, ?hb, ?hsc, ?hcl, ?hgl, ?hbi, ?hbind⟩, ?hco, ?hgen, ?hk, ?hpar⟩
  case ho => rfl
  case hcd => rfl
  case hb => rfl
  case hsc => dsimp only
  case hcl => rfl
  case hgl => rfl
  case hbi => rfl
  case hco => rfl
  case hgen => rfl
  case hk => rfl
  case hbind =>
    intro vals h
    match vals, h with
    | [a0], _ => rfl
  case hpar =>
    intro N
    repeat (first | exact List.forall_mem_nil _ | refine List.forall_mem_cons.mpr ⟨by first | exact .inl rfl | exact .inr ⟨rfl, rfl⟩, ?_⟩)
theorem D_taken : ∃ sc body, Def (KK w) 188 ["signs", "listings"] sc body := by
  refine' ⟨?sc, ?body, ⟨?oc, ?od, ?osl, ?fd, ?ho, ?hcd, ?hb, ?hsc, ?hcl, ?hgl, ?hbi, ?hbind⟩, ?hco, ?hgen, ?hk, ?hpar⟩
  case ho => rfl
  case hcd => rfl
  case hb => rfl
  case hsc => dsimp only
  case hcl => rfl
  case hgl => rfl
  case hbi => rfl
  case hco => rfl
  case hgen => rfl
  case hk => rfl
  case hbind =>
    intro vals h
    match vals, h with
    | [a0, a1], _ => rfl
  case hpar =>
    intro N
    repeat (first | exact List.forall_mem_nil _ | refine List.forall_mem_cons.mpr ⟨by first | exact .inl rfl | exact .inr ⟨rfl, rfl⟩, ?_⟩)
theorem D_back : ∃ sc body, Def (KK w) 157 ["row"] sc body := by
  refine' ⟨?sc, ?body, ⟨?oc, ?od, ?osl, ?fd, ?ho, ?hcd, ?hb, ?hsc, ?hcl, ?hgl, ?hbi, ?hbind⟩, ?hco, ?hgen, ?hk, ?hpar⟩
  case ho => rfl
  case hcd => rfl
  case hb => rfl
  case hsc => dsimp only
  case hcl => rfl
  case hgl => rfl
  case hbi => rfl
  case hco => rfl
  case hgen => rfl
  case hk => rfl
  case hbind =>
    intro vals h
    match vals, h with
    | [a0], _ => rfl
  case hpar =>
    intro N
    repeat (first | exact List.forall_mem_nil _ | refine List.forall_mem_cons.mpr ⟨by first | exact .inl rfl | exact .inr ⟨rfl, rfl⟩, ?_⟩)
theorem D_filemode : ∃ sc body, Def (KK w) 143 ["mode"] sc body := by
  refine' ⟨?sc, ?body, ⟨?oc, ?od, ?osl, ?fd, ?ho, ?hcd, ?hb, ?hsc, ?hcl, ?hgl, ?hbi, ?hbind⟩, ?hco, ?hgen, ?hk, ?hpar⟩
  case ho => rfl
  case hcd => rfl
  case hb => rfl
  case hsc => dsimp only
  case hcl => rfl
  case hgl => rfl
  case hbi => rfl
  case hco => rfl
  case hgen => rfl
  case hk => rfl
  case hbind =>
    intro vals h
    match vals, h with
    | [a0], _ => rfl
  case hpar =>
    intro N
    repeat (first | exact List.forall_mem_nil _ | refine List.forall_mem_cons.mpr ⟨by first | exact .inl rfl | exact .inr ⟨rfl, rfl⟩, ?_⟩)
theorem D_pattern : ∃ sc body, Def (KK w) 164 ["signs"] sc body := by
  refine' ⟨?sc, ?body, ⟨?oc, ?od, ?osl, ?fd, ?ho, ?hcd, ?hb, ?hsc, ?hcl, ?hgl, ?hbi, ?hbind⟩, ?hco, ?hgen, ?hk, ?hpar⟩
  case ho => rfl
  case hcd => rfl
  case hb => rfl
  case hsc => dsimp only
  case hcl => rfl
  case hgl => rfl
  case hbi => rfl
  case hco => rfl
  case hgen => rfl
  case hk => rfl
  case hbind =>
    intro vals h
    match vals, h with
    | [a0], _ => rfl
  case hpar =>
    intro N
    repeat (first | exact List.forall_mem_nil _ | refine List.forall_mem_cons.mpr ⟨by first | exact .inl rfl | exact .inr ⟨rfl, rfl⟩, ?_⟩)
theorem D_read : ∃ sc body, Def (KK w) 171 ["text"] sc body := by
  refine' ⟨?sc, ?body, ⟨?oc, ?od, ?osl, ?fd, ?ho, ?hcd, ?hb, ?hsc, ?hcl, ?hgl, ?hbi, ?hbind⟩, ?hco, ?hgen, ?hk, ?hpar⟩
  case ho => rfl
  case hcd => rfl
  case hb => rfl
  case hsc => dsimp only
  case hcl => rfl
  case hgl => rfl
  case hbi => rfl
  case hco => rfl
  case hgen => rfl
  case hk => rfl
  case hbind =>
    intro vals h
    match vals, h with
    | [a0], _ => rfl
  case hpar =>
    intro N
    repeat (first | exact List.forall_mem_nil _ | refine List.forall_mem_cons.mpr ⟨by first | exact .inl rfl | exact .inr ⟨rfl, rfl⟩, ?_⟩)
theorem D_translate : ∃ sc body, Def (KK w) 70 ["pat"] sc body := by
  refine' ⟨?sc, ?body, ⟨?oc, ?od, ?osl, ?fd, ?ho, ?hcd, ?hb, ?hsc, ?hcl, ?hgl, ?hbi, ?hbind⟩, ?hco, ?hgen, ?hk, ?hpar⟩
  case ho => rfl
  case hcd => rfl
  case hb => rfl
  case hsc => dsimp only
  case hcl => rfl
  case hgl => rfl
  case hbi => rfl
  case hco => rfl
  case hgen => rfl
  case hk => rfl
  case hbind =>
    intro vals h
    match vals, h with
    | [a0], _ => rfl
  case hpar =>
    intro N
    repeat (first | exact List.forall_mem_nil _ | refine List.forall_mem_cons.mpr ⟨by first | exact .inl rfl | exact .inr ⟨rfl, rfl⟩, ?_⟩)
theorem D_tr : ∃ sc body, Def (KK w) 89 ["pat", "STAR", "QUESTION_MARK"] sc body := by
  refine' ⟨?sc, ?body, ⟨?oc, ?od, ?osl, ?fd, ?ho, ?hcd, ?hb, ?hsc, ?hcl, ?hgl, ?hbi, ?hbind⟩, ?hco, ?hgen, ?hk, ?hpar⟩
  case ho => rfl
  case hcd => rfl
  case hb => rfl
  case hsc => dsimp only
  case hcl => rfl
  case hgl => rfl
  case hbi => rfl
  case hco => rfl
  case hgen => rfl
  case hk => rfl
  case hbind =>
    intro vals h
    match vals, h with
    | [a0, a1, a2], _ => rfl
  case hpar =>
    intro N
    repeat (first | exact List.forall_mem_nil _ | refine List.forall_mem_cons.mpr ⟨by first | exact .inl rfl | exact .inr ⟨rfl, rfl⟩, ?_⟩)
theorem D_joinp : ∃ sc body, Def (KK w) 96 ["inp", "STAR"] sc body := by
  refine' ⟨?sc, ?body, ⟨?oc, ?od, ?osl, ?fd, ?ho, ?hcd, ?hb, ?hsc, ?hcl, ?hgl, ?hbi, ?hbind⟩, ?hco, ?hgen, ?hk, ?hpar⟩
  case ho => rfl
  case hcd => rfl
  case hb => rfl
  case hsc => dsimp only
  case hcl => rfl
  case hgl => rfl
  case hbi => rfl
  case hco => rfl
  case hgen => rfl
  case hk => rfl
  case hbind =>
    intro vals h
    match vals, h with
    | [a0, a1], _ => rfl
  case hpar =>
    intro N
    repeat (first | exact List.forall_mem_nil _ | refine List.forall_mem_cons.mpr ⟨by first | exact .inl rfl | exact .inr ⟨rfl, rfl⟩, ?_⟩)
theorem D_escape : ∃ sc body, Def (KK w) 82 ["pattern"] sc body := by
  refine' ⟨?sc, ?body, ⟨?oc, ?od, ?osl, ?fd, ?ho, ?hcd, ?hb, ?hsc, ?hcl, ?hgl, ?hbi, ?hbind⟩, ?hco, ?hgen, ?hk, ?hpar⟩
  case ho => rfl
  case hcd => rfl
  case hb => rfl
  case hsc => dsimp only
  case hcl => rfl
  case hgl => rfl
  case hbi => rfl
  case hco => rfl
  case hgen => rfl
  case hk => rfl
  case hbind =>
    intro vals h
    match vals, h with
    | [a0], _ => rfl
  case hpar =>
    intro N
    repeat (first | exact List.forall_mem_nil _ | refine List.forall_mem_cons.mpr ⟨by first | exact .inl rfl | exact .inr ⟨rfl, rfl⟩, ?_⟩)

theorem F_fmt (g : Gr (KK w) m) {n : Nat} (rm : Rm A (n + 1)) {k : Int} {vs : List Value} (h : (AP.cons intR k .nil).p m vs) : G PP w A m (call (.ref 103) vs) intR (Builtin.bitAnd k 61440) := by
  obtain ⟨v1, _, rfl, r1, rfl⟩ := h
  refine' call_fnB (ps := ["mode"]) (Γ := [("mode", intR.at k)]) (sc := ?sc) (body := ?body) (n := n)
    ⟨⟨?oc, ?od, ?osl, ?fd, ?ho, ?hcd, ?hb, ?hsc, ?hcl, ?hgl, ?hbi, ?hbind⟩, ?hco, ?hgen, ?hk, ?hpar⟩ g rm rfl rfl (.cons r1 .nil) ?hnd ?h1
  case ho => rfl
  case hcd => rfl
  case hb => rfl
  case hsc => dsimp only
  case hcl => rfl
  case hgl => rfl
  case hbi => rfl
  case hco => rfl
  case hgen => rfl
  case hk => rfl
  case hnd => decide
  case hbind =>
    intro vals h
    match vals, h with
    | [a0], _ => rfl
  case hpar =>
    intro N
    repeat (first | exact List.forall_mem_nil _ | refine List.forall_mem_cons.mpr ⟨by first | exact .inl rfl | exact .inr ⟨rfl, rfl⟩, ?_⟩)
  case h1 =>
    intro L q' fn cd fr hp s₁ A' T r
    exact XB_ret T (J_binop (J_var (T.var rfl)) J_int fun _ _ _ _ => V_and)

theorem half_int (n : Nat) : ((n : Int).fdiv 2) = ((n / 2 : Nat) : Int) := by
  have := fdiv_fmod_facts (n : Int) 2
  omega
theorem half_mod (n : Nat) : ((n : Int).fmod 2) = ((n % 2 : Nat) : Int) := by
  have := fdiv_fmod_facts (n : Int) 2
  omega

/-- median_high: the upper one of the two in the middle, in rising order -/
theorem F_high (g : Gr (KK w) m) {n : Nat} (rm : Rm A (n + 1)) {xs ys : List Str} {x : Str} (h64 : xs.length < 64) (hu : ∀ zs : List Str, zs.Perm xs → sortedS zs = true → zs = ys) (h0 : 0 < ys.length) (h9 : ys.length < 64) (hx : ys[ys.length / 2]? = some x)
    {vs : List Value} (h : (AP.cons (listR strR) xs .nil).p m vs) : G PP w A m (call (.ref 58) vs) strR x := by
  obtain ⟨v1, _, rfl, r1, rfl⟩ := h
  refine' call_fnB (ps := ["data"]) (Γ := [("data", (listR strR).at xs)]) (sc := ?sc) (body := ?body) (n := n)
    ⟨⟨?oc, ?od, ?osl, ?fd, ?ho, ?hcd, ?hb, ?hsc, ?hcl, ?hgl, ?hbi, ?hbind⟩, ?hco, ?hgen, ?hk, ?hpar⟩ g rm rfl rfl (.cons r1 .nil) ?hnd ?h1
  case ho => rfl
  case hcd => rfl
  case hb => rfl
  case hsc => dsimp only
  case hcl => rfl
  case hgl => rfl
  case hbi => rfl
  case hco => rfl
  case hgen => rfl
  case hk => rfl
  case hnd => decide
  case hbind =>
    intro vals h
    match vals, h with
    | [a0], _ => rfl
  case hpar =>
    intro N
    repeat (first | exact List.forall_mem_nil _ | refine List.forall_mem_cons.mpr ⟨by first | exact .inl rfl | exact .inr ⟨rfl, rfl⟩, ?_⟩)
  case h1 =>
    intro L q' fn cd fr hp s₁ A' T r
    refine XB_assign T (.inl rfl) rfl (J_bf ((g.keeps T.base).builtin rfl rfl rfl rfl rfl bb_sorted (by decide)) (.cons (J_var (T.var rfl)) .nil) fun _ _ _ => C_sorted h64 hu) fun s T => ?_
    refine XB_assign T (.inl rfl) rfl (J_bf ((g.keeps T.base).builtin rfl rfl rfl rfl rfl bb_len (by decide)) (.cons (J_var (T.var rfl)) .nil) fun _ _ _ => C_lenL (by omega)) fun s T => ?_
    refine XB_skip T ((T_cmp (J_var (T.var rfl)) J_int fun _ _ _ _ => V_eqI).to (beq_eq_false_iff_ne.mpr (by omega))) fun s T => ?_
    refine XB_ret T (J_itemL (j := ((ys.length / 2 : Nat) : Int)) (by omega) (by omega) (by rw [Int.toNat_natCast]; exact hx) (fun _ _ => rfl) (J_var (T.var rfl)) ((J_binop (J_var (T.var rfl)) J_int fun _ _ _ _ => V_div (by decide) (PyProof.noPylong_small (by omega))).to (half_int _)))

theorem F_low (g : Gr (KK w) m) {n : Nat} (rm : Rm A (n + 1)) {xs ys : List Str} {x : Str} (h64 : xs.length < 64) (hu : ∀ zs : List Str, zs.Perm xs → sortedS zs = true → zs = ys) (h0 : 0 < ys.length) (he : ys.length % 2 = 0) (h9 : ys.length < 64) (hx : ys[ys.length / 2 - 1]? = some x)
    {vs : List Value} (h : (AP.cons (listR strR) xs .nil).p m vs) : G PP w A m (call (.ref 51) vs) strR x := by
  obtain ⟨v1, _, rfl, r1, rfl⟩ := h
  refine' call_fnB (ps := ["data"]) (Γ := [("data", (listR strR).at xs)]) (sc := ?sc) (body := ?body) (n := n)
    ⟨⟨?oc, ?od, ?osl, ?fd, ?ho, ?hcd, ?hb, ?hsc, ?hcl, ?hgl, ?hbi, ?hbind⟩, ?hco, ?hgen, ?hk, ?hpar⟩ g rm rfl rfl (.cons r1 .nil) ?hnd ?h1
  case ho => rfl
  case hcd => rfl
  case hb => rfl
  case hsc => dsimp only
  case hcl => rfl
  case hgl => rfl
  case hbi => rfl
  case hco => rfl
  case hgen => rfl
  case hk => rfl
  case hnd => decide
  case hbind =>
    intro vals h
    match vals, h with
    | [a0], _ => rfl
  case hpar =>
    intro N
    repeat (first | exact List.forall_mem_nil _ | refine List.forall_mem_cons.mpr ⟨by first | exact .inl rfl | exact .inr ⟨rfl, rfl⟩, ?_⟩)
  case h1 =>
    intro L q' fn cd fr hp s₁ A' T r
    refine XB_assign T (.inl rfl) rfl (J_bf ((g.keeps T.base).builtin rfl rfl rfl rfl rfl bb_sorted (by decide)) (.cons (J_var (T.var rfl)) .nil) fun _ _ _ => C_sorted h64 hu) fun s T => ?_
    refine XB_assign T (.inl rfl) rfl (J_bf ((g.keeps T.base).builtin rfl rfl rfl rfl rfl bb_len (by decide)) (.cons (J_var (T.var rfl)) .nil) fun _ _ _ => C_lenL (by omega)) fun s T => ?_
    refine XB_skip T ((T_cmp (J_var (T.var rfl)) J_int fun _ _ _ _ => V_eqI).to (beq_eq_false_iff_ne.mpr (by omega))) fun s T => ?_
    refine XB_if T (T_cmp (J_binop (J_var (T.var rfl)) J_int fun _ _ _ _ => V_mod (by decide)) J_int fun _ _ _ _ => V_eqI) (fun e => ?_) (fun _ s T _ => ?_)
    · rw [half_mod, he] at e; simp at e
    · refine ⟨fun E => wpAny_mono ((XB_ret T (J_itemL (j := ((ys.length / 2 - 1 : Nat) : Int)) (by omega) (by omega) (by rw [Int.toNat_natCast]; exact hx) (fun _ _ => rfl) (J_var (T.var rfl)) ?_)).run E) (fun f s' h => ?_) fun _ _ e => e⟩
      · exact (J_binop (J_binop (J_var (T.var rfl)) J_int fun _ _ _ _ => V_div (by decide) (PyProof.noPylong_small (by omega))) J_int fun _ _ _ _ => V_sub).to (by rw [half_int]; omega)
      · obtain ⟨v, rfl, q⟩ := h
        exact ⟨v, rfl, q⟩

theorem F_pads (g : Gr (KK w) m) {n : Nat} (rm : Rm A (n + 1)) {size k : Int} {lo hi : Str} (h0 : 0 ≤ size ∧ size < 1000) (h1 : 0 ≤ k ∧ k < 1000)
    {vs : List Value} (h : (AP.cons intR size (AP.cons intR k (AP.cons strR lo (AP.cons strR hi .nil)))).p m vs) :
    G PP w A m (call (.ref 178) vs) (listR strR) (if size ≤ 2 * k then List.replicate (2 * k - size).toNat lo else List.replicate (size - 2 * k).toNat hi) := by
  obtain ⟨v1, _, rfl, r1, v2, _, rfl, r2, v3, _, rfl, r3, v4, _, rfl, r4, rfl⟩ := h
  refine' call_fnB (ps := ["size", "k", "lowest", "highest"]) (Γ := [("size", intR.at size), ("k", intR.at k), ("lowest", strR.at lo), ("highest", strR.at hi)]) (sc := ?sc) (body := ?body) (n := n)
    ⟨⟨?oc, ?od, ?osl, ?fd, ?ho, ?hcd, ?hb, ?hsc, ?hcl, ?hgl, ?hbi, ?hbind⟩, ?hco, ?hgen, ?hk, ?hpar⟩ g rm rfl rfl (.cons r1 (.cons r2 (.cons r3 (.cons r4 .nil)))) ?hnd ?h1
  case ho => rfl
  case hcd => rfl
  case hb => rfl
  case hsc => dsimp only
  case hcl => rfl
  case hgl => rfl
  case hbi => rfl
  case hco => rfl
  case hgen => rfl
  case hk => rfl
  case hnd => decide
  case hbind =>
    intro vals h
    match vals, h with
    | [a0, a1, a2, a3], _ => rfl
  case hpar =>
    intro N
    repeat (first | exact List.forall_mem_nil _ | refine List.forall_mem_cons.mpr ⟨by first | exact .inl rfl | exact .inr ⟨rfl, rfl⟩, ?_⟩)
  case h1 =>
    intro L q' fn cd fr hp s₁ A' T r
    refine XB_ret T (J_ifexp (T_cmp (J_binop J_int (J_var (T.var rfl)) fun _ _ _ _ => V_mul (IntMulOk.of_left (by decide))) (J_var (T.var rfl)) fun _ _ _ _ => V_geI) (fun e => ?_) (fun e => ?_))
    · rw [if_pos (of_decide_eq_true e)]
      exact J_binop (J_list (.allCons (J_var (T.var rfl)) .allNil) (by show 1 ≤ sizeLine; decide)) (J_binop (J_binop J_int (J_var (T.var rfl)) fun _ _ _ _ => V_mul (IntMulOk.of_left (by decide))) (J_var (T.var rfl)) fun _ _ _ _ => V_sub) fun _ _ _ _ => V_mulL (by omega) (by omega)
    · rw [if_neg (of_decide_eq_false e)]
      exact J_binop (J_list (.allCons (J_var (T.var rfl)) .allNil) (by show 1 ≤ sizeLine; decide)) (J_binop (J_var (T.var rfl)) (J_binop J_int (J_var (T.var rfl)) fun _ _ _ _ => V_mul (IntMulOk.of_left (by decide))) fun _ _ _ _ => V_sub) fun _ _ _ _ => V_mulL (by omega) (by omega)
end
end
-- part C3
section
open PySem PySem.W PyProof.Rows PySem.Calls
set_option maxRecDepth 100000
set_option maxHeartbeats 4000000
section
variable {prog : Program} {w : World} {A : Around} {env : Env} {m : Mem} {α β : Type}
theorem T_and2 {e₁ e₂ : Expr} {pos : Pos} {whole : Sem Value} {b₁ b₂ : Bool} (g1 : GB prog w A m (isTrue e₁ env (eval e₁ env)) b₁) (g2 : b₁ = true → GB prog w A m (isTrue e₂ env (eval e₂ env)) b₂) :
    GB prog w A m (isTrue (.BoolOp .And [e₁, e₂] pos) env whole) (b₁ && b₂) := by
  refine ⟨fun s k Q E hq => ?_⟩
  rw [arm_isTrue_BoolOp, arm_allTrue_cons]
  refine wpAny_bind (g1.run s k _ _ fun h' tk k' => ?_)
  cases b₁ with
  | false => exact wpAny_pure (hq h' tk k')
  | true =>
    rw [arm_allTrue_cons]
    refine wpAny_bind ((g2 rfl).run _ (k.kp k') _ _ fun h'' tk' k'' => ?_)
    cases b₂ with
    | false => exact wpAny_pure (hq h'' tk' (k'.trans k''))
    | true => exact wpAny_pure (hq h'' tk' (k'.trans k''))
theorem T_or2 {e₁ e₂ : Expr} {pos : Pos} {whole : Sem Value} {b₁ b₂ : Bool} (g1 : GB prog w A m (isTrue e₁ env (eval e₁ env)) b₁) (g2 : b₁ = false → GB prog w A m (isTrue e₂ env (eval e₂ env)) b₂) :
    GB prog w A m (isTrue (.BoolOp .Or [e₁, e₂] pos) env whole) (b₁ || b₂) := by
  refine ⟨fun s k Q E hq => ?_⟩
  rw [arm_isTrue_BoolOp, arm_allTrue_cons]
  refine wpAny_bind (g1.run s k _ _ fun h' tk k' => ?_)
  cases b₁ with
  | true => exact wpAny_pure (hq h' tk k')
  | false =>
    rw [arm_allTrue_cons]
    refine wpAny_bind ((g2 rfl).run _ (k.kp k') _ _ fun h'' tk' k'' => ?_)
    cases b₂ with
    | false => exact wpAny_pure (hq h'' tk' (k'.trans k''))
    | true => exact wpAny_pure (hq h'' tk' (k'.trans k''))

/-- a captured name, seen from a comprehension -/
theorem Var.comp {cenv : Env} {m' : Mem} {y : Str} {P : TP} (n : Var m env y P) (k : Le m m') (h1 : env.kindOf y = some .cell) (h2 : cenv.kindOf y = some .cell) (h3 : cenv.cells.lookup y = env.cells.lookup y) (hk : cenv.scope.kind = .function) : Var m' cenv y P := by
  obtain ⟨v, ⟨hk', ⟨h4, _⟩ | ⟨_, c, h5, h6⟩⟩, hp⟩ := n
  · rw [h1] at h4; cases h4
  · exact ⟨v, ⟨hk, .inr ⟨.inl h2, c, h3.trans h5, h6.at (k _)⟩⟩, P.st k.sq hp⟩
/-- a name of an outer comprehension or def, seen from within (its cell handed on as free) -/
theorem Var.free {cenv : Env} {m' : Mem} {y : Str} {P : TP} (n : Var m env y P) (k : Le m m') (h1 : env.kindOf y = some .cell ∨ env.kindOf y = some .free) (h2 : cenv.kindOf y = some .cell ∨ cenv.kindOf y = some .free) (h3 : cenv.cells.lookup y = env.cells.lookup y) (hk : cenv.scope.kind = .function)
    (hn : (y == ("__classdict__" : Str)) = false := by decide) : Var m' cenv y P := by
  obtain ⟨v, ⟨hk', ⟨h4, _⟩ | ⟨_, c, h5, h6⟩⟩, hp⟩ := n
  · rcases h1 with h1 | h1 <;> (rw [h1] at h4; cases h4)
  · exact ⟨v, ⟨hk, .inr ⟨h2.imp id fun e => ⟨e, hn⟩, c, h3.trans h5, h6.at (k _)⟩⟩, P.st k.sq hp⟩
theorem Var.of_nm {m : Mem} {x : Str} {v : Value} {R : Rel α} {a : α} (n : NmS m env x v) (r : R.r m v a) : Var m env x (R.at a) := ⟨v, n, r⟩

abbrev upto (n : Nat) : List Int := (List.range n).map fun (i : Nat) => (i : Int)
theorem mem_upto' {n : Nat} {k : Int} (h : k ∈ upto n) : 0 ≤ k ∧ k < n := by
  obtain ⟨i, hi, rfl⟩ := List.mem_map.mp h
  rw [List.mem_range] at hi
  omega
theorem getD_some {α : Type} {l : List α} {i : Nat} {d : α} (h : i < l.length) : l[i]? = some (l.getD i d) := by simp [List.getD_eq_getElem?_getD, h]
theorem cps_some {x : Str} {i : Nat} (h : i < x.cps.size) : x.cps[i]? = some (x.cps.getD i 0) := by
  rw [Array.getElem?_eq_getElem h]; simp [Array.getD, h]
def signOf (places : List Int) (k : Int) : Str := if places.contains k = true then chr1 ((Str.ofString "-rw-rw-rw-").cps.getD k.toNat 0) else "?"
theorem F_signs (g : Gr (KK w) m) {n : Nat} (rm : Rm A (n + 1)) {places : List Int} {vs : List Value} (h : (AP.cons (listR intR) places .nil).p m vs) :
    G PP w A m (call (.ref 183) vs) (listR strR) ((upto 10).map (signOf places)) := by
  obtain ⟨v1, _, rfl, r1, rfl⟩ := h
  refine' call_fnB (ps := ["places"]) (Γ := [("places", (listR intR).at places)]) (sc := ?sc) (body := ?body) (n := n)
    ⟨⟨?oc, ?od, ?osl, ?fd, ?ho, ?hcd, ?hb, ?hsc, ?hcl, ?hgl, ?hbi, ?hbind⟩, ?hco, ?hgen, ?hk, ?hpar⟩ g rm rfl rfl (.cons r1 .nil) ?hnd ?h1
  case ho => rfl
  case hcd => rfl
  case hb => rfl
  case hsc => dsimp only
  case hcl => rfl
  case hgl => rfl
  case hbi => rfl
  case hco => rfl
  case hgen => rfl
  case hk => rfl
  case hnd => decide
  case hbind =>
    intro vals h
    match vals, h with
    | [a0], _ => rfl
  case hpar =>
    intro N
    repeat (first | exact List.forall_mem_nil _ | refine List.forall_mem_cons.mpr ⟨by first | exact .inl rfl | exact .inr ⟨rfl, rfl⟩, ?_⟩)
  case h1 =>
    intro L q' fn cd fr hp s₁ A' T r
    refine XB_ret T (J_map (signOf places) rfl rfl (by decide) (.inl ⟨rfl, fun _ => rfl⟩) (GI_range (n := 10) r.handled ((g.keeps T.base).builtin rfl rfl rfl rfl rfl bb_range (by decide)) rfl J_int (by decide)) (by decide) fun C m' v k kk hk rk nk => ?_)
    have hb := mem_upto' hk
    refine J_ifexp (T_cmp (J_name nk.nm rk) (J_var ((T.var rfl).comp kk rfl rfl rfl rfl)) fun _ _ _ _ => V_inI) (fun e => ?_) (fun e => ?_)
    · unfold signOf
      rw [if_pos e]
      exact J_itemS hb.1 (by omega) (cps_some (by have : (Str.ofString "-rw-rw-rw-").cps.size = 10 := by decide
                                                  omega)) (fun _ _ => rfl) J_str (J_name nk.nm rk)
    · unfold signOf
      rw [if_neg (by rw [e]; decide)]
      exact J_str

def mism (signs : List Str) (row : Str) : List Int := (upto 10).filter fun k => signs.getD k.toNat "" != "?" && signs.getD k.toNat "" != chr1 (row.cps.getD k.toNat 0)
def taken (signs rows : List Str) : Nat := (rows.filter fun row => listEq (· == ·) (mism signs row) []).length
theorem F_taken (g : Gr (KK w) m) {n : Nat} (rm : Rm A (n + 1)) {signs rows : List Str} (h1 : signs.length = 10) (h2 : ∀ row ∈ rows, row.cps.size = 10) (h3 : rows.length < 1000) {vs : List Value} (h : (AP.cons (listR strR) signs (AP.cons (listR strR) rows .nil)).p m vs) :
    G PP w A m (call (.ref 188) vs) intR (taken signs rows : Int) := by
  obtain ⟨v1, _, rfl, r1, v2, _, rfl, r2, rfl⟩ := h
  refine' call_fnB (ps := ["signs", "listings"]) (Γ := [("signs", (listR strR).at signs), ("listings", (listR strR).at rows)]) (sc := ?sc) (body := ?body) (n := n)
    ⟨⟨?oc, ?od, ?osl, ?fd, ?ho, ?hcd, ?hb, ?hsc, ?hcl, ?hgl, ?hbi, ?hbind⟩, ?hco, ?hgen, ?hk, ?hpar⟩ g rm rfl rfl (.cons r1 (.cons r2 .nil)) ?hnd ?h1
  case ho => rfl
  case hcd => rfl
  case hb => rfl
  case hsc => dsimp only
  case hcl => rfl
  case hgl => rfl
  case hbi => rfl
  case hco => rfl
  case hgen => rfl
  case hk => rfl
  case hnd => decide
  case hbind =>
    intro vals h
    match vals, h with
    | [a0, a1], _ => rfl
  case hpar =>
    intro N
    repeat (first | exact List.forall_mem_nil _ | refine List.forall_mem_cons.mpr ⟨by first | exact .inl rfl | exact .inr ⟨rfl, rfl⟩, ?_⟩)
  case h1 =>
    intro L q' fn cd fr hp s₁ A' T r
    have hlen : rows.length ≤ sizeLine := by rw [sizeLine_eq]; omega
    refine XB_ret T (J_bf ((g.keeps T.base).builtin rfl rfl rfl rfl rfl bb_len (by decide)) (.cons (J_comp (fun row => listEq (· == ·) (mism signs row) []) id rfl rfl (by decide) (.inr ⟨rfl, fun _ => rfl, fun _ => rfl⟩) (GI_list r.handled (J_var (T.var rfl))) hlen (fun C m' v row kk hr rr nr => ?_) (fun C m' v row kk hr _ rr nr => J_name nr.nm rr)) .nil) fun m' vs _ hv => ?_)
    · have hw := Var.of_nm nr rr
      have hu : A'.units + (0 + 1) < cLine := by have := r.units; omega
      refine ifs_one (T_cmp (R₁ := listR intR) (R₂ := listR intR) (b := []) (J_comp (fun k => signs.getD k.toNat "" != "?" && signs.getD k.toNat "" != chr1 (row.cps.getD k.toNat 0)) id rfl rfl (by decide) (.inl ⟨rfl, fun _ => rfl⟩) (GI_range (n := 10) r.handled ((g.keeps (T.base.trans kk)).builtin rfl rfl rfl rfl rfl bb_range (by decide)) rfl J_int (by decide)) (by decide)
        (fun C2 m2 v2 k k2 hk rk nk => ?_) (fun C2 m2 v2 k k2 hk _ rk nk => J_name nk.nm rk)) (J_list .allNil (by decide)) fun _ _ _ _ a b => (V_eqL eqR_int hu a b).to (by simp [mism]))
      have hb := mem_upto' hk
      refine ifs_one (T_and2 (T_cmp (J_itemL hb.1 (by omega) (getD_some (by omega)) (fun _ _ => rfl) (J_var ((T.var rfl).comp (kk.trans k2) rfl rfl rfl rfl)) (J_name nk.nm rk)) J_str fun _ _ _ _ => V_neS) fun _ => T_cmp (J_itemL hb.1 (by omega) (getD_some (by omega)) (fun _ _ => rfl) (J_var ((T.var rfl).comp (kk.trans k2) rfl rfl rfl rfl)) (J_name nk.nm rk)) (J_itemS hb.1 (by omega) (cps_some (by rw [h2 row hr]; omega)) (fun _ _ => rfl) (J_var (hw.free k2 (.inl rfl) (.inl rfl) rfl rfl)) (J_name nk.nm rk)) fun _ _ _ _ => V_neS)
    · refine (C_lenL ?_ hv).to ?_
      · rw [List.length_map]; have := List.length_filter_le (fun row => listEq (· == ·) (mism signs row) []) rows; omega
      · simp [taken]
end
end
-- part C4
section
open PySem PySem.W PyProof.Rows PySem.Calls
set_option maxRecDepth 100000
set_option maxHeartbeats 4000000
section
variable {prog : Program} {w : World} {A : Around} {env : Env} {m : Mem} {α β γ : Type}
variable {m₀ : Mem} {g : Heap} {own : Addr → Prop} {s₁ s : Shared} {Γ : List (Str × TP)} {Q : Flow → Shared → Prop}
theorem At.noSeq (T : At m₀ g own s₁ s env Γ) {b : Addr} {o : Obj} (hb : ownOf env b) (e : ext m₀ g s.heap b = some o) : ∀ ys n, o.data ≠ .seq ys n := by
  obtain ⟨f, cm, hn, hc, _⟩ := T.fm.frame
  rcases hb with rfl | ⟨n, hl⟩
  · obtain ⟨o', es, ep, e', hd, _⟩ := hn
    rw [e] at e'; cases e'
    intro ys n; rw [hd]; exact fun q => nomatch q
  · obtain ⟨o', e', hd⟩ := hc n b hl
    rw [e] at e'; cases e'
    intro ys n; rw [hd]; exact fun q => nomatch q

/-- a loop that turns names alone -/
theorem XB_forAt {x : Str} {px pos : Pos} {iter : Expr} {body rest : List Stmt} {RA : Rel α} {xs : List α} (T : At m₀ g (ownOf env) s₁ s env Γ) (Γi : Nat → List (Str × TP)) (hsub : ∀ p ∈ Γi 0, Γ.lookup p.1 = some p.2)
    (gi : GI prog w A (ext m₀ g s.heap) (eval iter env) RA xs) (hx : env.kindOf x = some .local ∨ (env.kindOf x = some .cell ∧ (env.cells.lookup x).isSome = true))
    (turn : ∀ i a s0 s', xs[i]? = some a → At m₀ g (ownOf env) s0 s' env ((x, RA.at a) :: Γi i) → XB prog w A body env (fun f s'' => (f = .next ∨ f = .cont) ∧ At m₀ g (ownOf env) s0 s'' env (Γi (i + 1))) s')
    (hend : ∀ s', At m₀ g (ownOf env) s₁ s' env (Γi xs.length) → XB prog w A rest env Q s')
    (hs : ∀ x, foldedSetIterable iter env x = pure x := by intro _; rfl) : XB prog w A (.For (.Name x px) iter body [] pos :: rest) env Q s := by
  refine XB_for (m₀ := m₀) (g := g) (own := ownOf env) (mB := ext m₀ g s.heap) (fun i s' => At m₀ g (ownOf env) s s' env (Γi i)) (fun _ => False) T.kp T.le (Le.refl _) gi (fun b hb => ⟨T.new b hb, ?_⟩) (fun b o ys n hb e => T.noSeq hb e ys n)
    (fun h tk k => (T.here.sub hsub).grow k) (fun i s' h tk I hI _ T' sq k => T'.moves (fun ho => T.there ho hI) ?_ hI sq k) (fun i a v s' E' ha T' r => ?_) (fun s' T' => .nil (hend s' (T.back T'))) (fun _ h => h.elim) hs
  · cases e : s.heap.get? b with
    | none => exact absurd e (T.there hb)
    | some o => exact ⟨o, rfl⟩
  · cases q : g.get? I with
    | none => rfl
    | some o => rw [T.kp _ _ q] at hI; cases hI
  · refine T'.here.store (P := RA.at a) hx r fun s2 T2 _ _ => wpAny_mono ((turn i a s' s2 ha T2).run E') (fun f s3 hf => ?_) fun _ _ e => e
    obtain ⟨hf, T3⟩ := hf
    refine ⟨T3.stp, ?_⟩
    rcases hf with rfl | rfl
    · exact T'.back T3
    · exact T'.back T3

theorem typeM_str {x : Str} : ∀ m' v (s : Shared), strR.r m' v x → Le m' s.heap.get? → s.TypeIs v "str" ∧ ∀ b, v = .ref b → ∃ o : Obj, s.heap.get? b = some o ∧ o.dict = none := fun m' v s ⟨t, e⟩ k => by
  subst e
  exact ⟨typeIs_str s x t, fun b e => nomatch e⟩
theorem J_find {o e : Expr} {apos pos : Pos} {x y : Str} {pl : Sem Bool} (go : G prog w A m (eval o env) strR x) (ge : G prog w A m (eval e env) strR y)
    (he : eval (.Call (.Attribute o "find" apos) [e] [] pos) env = (do
      let ov ← eval o env
      standAt apos.atName
      let (f, first) ← holding [ov] (getMethod ov "find" pl)
      callWith pos f first (backTo pos (starEach [e] env)) (backToKw pos (keywordEach [] env))) := by rfl)
    (hs : starEach [e] env = (false, eval e env) :: starEach [] env := by rfl) : G prog w A m (eval (.Call (.Attribute o "find" apos) [e] [] pos) env) intR (Txt.find x y) :=
  J_meth (T := "str") (id := "str.find") go typeM_str F.plainAttrs_str F.slot_str_find F.type_str_find (.cons ge .nil hs) (fun _ _ _ _ a b => C_find a b) he hs
theorem J_join {o e : Expr} {apos pos : Pos} {x : Str} {ys : List Str} {pl : Sem Bool} (hok : JoinOk x ys = true) (go : G prog w A m (eval o env) strR x) (ge : G prog w A m (eval e env) (listR strR) ys)
    (he : eval (.Call (.Attribute o "join" apos) [e] [] pos) env = (do
      let ov ← eval o env
      standAt apos.atName
      let (f, first) ← holding [ov] (getMethod ov "join" pl)
      callWith pos f first (backTo pos (starEach [e] env)) (backToKw pos (keywordEach [] env))) := by rfl)
    (hs : starEach [e] env = (false, eval e env) :: starEach [] env := by rfl) : G prog w A m (eval (.Call (.Attribute o "join" apos) [e] [] pos) env) strR (Txt.join x ys) :=
  J_meth (T := "str") (id := "str.join") go typeM_str F.plainAttrs_str F.slot_str_join F.type_str_join (.cons ge .nil hs) (fun _ _ _ _ a b => C_join hok a b) he hs
theorem J_rstrip {o e : Expr} {apos pos : Pos} {x y : Str} {pl : Sem Bool} (hx : x.length ≤ sizeLine) (go : G prog w A m (eval o env) strR x) (ge : G prog w A m (eval e env) strR y)
    (he : eval (.Call (.Attribute o "rstrip" apos) [e] [] pos) env = (do
      let ov ← eval o env
      standAt apos.atName
      let (f, first) ← holding [ov] (getMethod ov "rstrip" pl)
      callWith pos f first (backTo pos (starEach [e] env)) (backToKw pos (keywordEach [] env))) := by rfl)
    (hs : starEach [e] env = (false, eval e env) :: starEach [] env := by rfl) : G prog w A m (eval (.Call (.Attribute o "rstrip" apos) [e] [] pos) env) strR (Txt.rstripChars x y) :=
  J_meth (T := "str") (id := "str.rstrip") go typeM_str F.plainAttrs_str F.slot_str_rstrip F.type_str_rstrip (.cons ge .nil hs) (fun _ _ _ _ a b => C_rstrip hx a b) he hs
theorem bits_small {a : Int} (h1 : -(2 ^ 63) < a) (h2 : a < 2 ^ 63) : Builtin.Int.intBits a ≤ 64 := intBits_le_64 (by omega) (by omega)
theorem find_ge (x y : Str) : -1 ≤ Txt.find x y := by
  unfold Txt.find
  split <;> omega

def back1 (x : Str) (k : Int) : Int := Txt.find ("-" ++ chr1 ((Str.ofString "-rw-rw-rw-").cps.getD k.toNat 0)) (chr1 (x.cps.getD k.toNat 0)) * 2 ^ (9 - k).toNat
def place2 (x : Str) (k : Int) : Int := Txt.find (if k < 9 then "-xSs" else "-xTt") (chr1 (x.cps.getD k.toNat 0))
def back2 (x : Str) (k : Int) : Int := (place2 x k).fmod 2 * 2 ^ (9 - k).toNat + (place2 x k).fdiv 2 * 2 ^ (12 - k.fdiv 3).toNat
def back0 (x : Str) : Int := Txt.find "?pc?d?b?-?l?s" (chr1 (x.cps.getD 0 0)) * 4096
def ks1 : List Int := [1, 2, 4, 5, 7, 8]
def ks2 : List Int := [3, 6, 9]
def backOf (x : Str) : Int := back0 x + (ks1.map (back1 x)).sum + (ks2.map (back2 x)).sum
def acc (a : Int) (f : Int → Int) (ks : List Int) (i : Nat) : Int := a + ((ks.take i).map f).sum
theorem acc_succ {a : Int} {f : Int → Int} {ks : List Int} {i : Nat} {k : Int} (h : ks[i]? = some k) : acc a f ks (i + 1) = acc a f ks i + f k := by
  unfold acc
  rw [List.take_add_one, h]
  simp [Int.add_assoc]
theorem ks_in {ks : List Int} {i : Nat} {k : Int} (h : ks[i]? = some k) : k ∈ ks := List.mem_of_getElem? h
theorem pow_small {n : Nat} (h : n ≤ 20) : (0 : Int) < 2 ^ n ∧ (2 : Int) ^ n ≤ 2 ^ 20 := by
  refine ⟨Int.pow_pos (by decide), ?_⟩
  have : ∀ n : Nat, n ≤ 20 → (2 : Int) ^ n ≤ 2 ^ 20 := by decide
  exact this n h
theorem F_back (g : Gr (KK w) m) {n : Nat} (rm : Rm A (n + 1)) {x : Str} (hx : x.cps.size = 10) {vs : List Value} (h : (AP.cons strR x .nil).p m vs) : G PP w A m (call (.ref 157) vs) intR (backOf x) := by
  obtain ⟨v1, _, rfl, r1, rfl⟩ := h
  refine' call_fnB (ps := ["row"]) (Γ := [("row", strR.at x)]) (sc := ?sc) (body := ?body) (n := n)
    ⟨⟨?oc, ?od, ?osl, ?fd, ?ho, ?hcd, ?hb, ?hsc, ?hcl, ?hgl, ?hbi, ?hbind⟩, ?hco, ?hgen, ?hk, ?hpar⟩ g rm rfl rfl (.cons r1 .nil) ?hnd ?h1
  case ho => rfl
  case hcd => rfl
  case hb => rfl
  case hsc => dsimp only
  case hcl => rfl
  case hgl => rfl
  case hbi => rfl
  case hco => rfl
  case hgen => rfl
  case hk => rfl
  case hnd => decide
  case hbind =>
    intro vals h
    match vals, h with
    | [a0], _ => rfl
  case hpar =>
    intro N
    repeat (first | exact List.forall_mem_nil _ | refine List.forall_mem_cons.mpr ⟨by first | exact .inl rfl | exact .inr ⟨rfl, rfl⟩, ?_⟩)
  case h1 =>
    intro L q' fn cd fr hp s₁ A' T r
    refine XB_skip T ((T_cmp (J_bf ((g.keeps T.base).builtin rfl rfl rfl rfl rfl bb_len (by decide)) (.cons (J_var (T.var rfl)) .nil) fun _ _ _ => C_lenS (x := x) (by show x.cps.size < _; omega)) J_int fun _ _ _ _ => V_neI).to ?_) fun s T => ?_
    · have : x.length = 10 := hx
      rw [this]; rfl
    refine XB_assign (R := intR) (a := back0 x) T (.inl rfl) rfl (J_binop (J_find J_str (J_itemS (j := 0) (by decide) (by decide) (cps_some (by rw [hx]; decide)) (fun _ _ => rfl) (J_var (T.var rfl)) J_int)) J_int fun _ _ _ _ => V_mul (IntMulOk.of_right (by decide))) fun s T => ?_
    have hpat : (Str.ofString "-rw-rw-rw-").cps.size = 10 := by decide
    refine XB_forAt T (fun i => [("number", intR.at (acc (back0 x) (back1 x) ks1 i)), ("row", strR.at x)]) (by intro p hp; simp only [List.mem_cons, List.not_mem_nil, or_false] at hp; rcases hp with rfl | rfl <;> first | rfl | (simp [acc])) (GI_tuple (xs := ks1) r.handled (J_tuple (.allCons J_int (.allCons J_int (.allCons J_int (.allCons J_int (.allCons J_int (.allCons J_int .allNil)))))) (by decide))) (.inl rfl)
      (fun i k s0 s hk T => ?_) fun s T => ?_
    · have hb : 1 ≤ k ∧ k ≤ 9 := by have := ks_in hk; simp [ks1] at this; omega
      refine XB_aug (R := intR) (R₂ := intR) (b := back1 x k) (c := acc (back0 x) (back1 x) ks1 (i + 1)) T (.inl rfl) rfl ?_ (fun _ _ _ _ a b => (U_add a b).to (acc_succ hk).symm) fun s T => .nil ⟨.inl rfl, T.sub ?_⟩
      · refine J_binop (J_find (J_binop J_str (J_itemS (by omega) (by omega) (cps_some (by rw [hpat]; omega)) (fun _ _ => rfl) J_str (J_var (T.var rfl))) fun _ _ _ _ => V_addS ?_) (J_itemS (by omega) (by omega) (cps_some (by rw [hx]; omega)) (fun _ _ => rfl) (J_var (T.var rfl)) (J_var (T.var rfl)))) (J_binop J_int (J_binop J_int (J_var (T.var rfl)) fun _ _ _ _ => V_sub) fun _ _ _ _ => V_pow (by omega) (by omega) (by decide)) fun _ _ _ _ => V_mul (IntMulOk.of_right (bits_small ?_ ?_))
        · rw [sizeLine_eq]; show 1 + 1 ≤ _; decide
        · have := (pow_small (n := (9 - k).toNat) (by omega)).1; omega
        · have := (pow_small (n := (9 - k).toNat) (by omega)).2; omega
      · intro p hp; simp only [List.mem_cons, List.not_mem_nil, or_false] at hp; rcases hp with rfl | rfl <;> rfl
    refine XB_forAt T (fun i => [("number", intR.at (acc (acc (back0 x) (back1 x) ks1 ks1.length) (back2 x) ks2 i)), ("row", strR.at x)]) (by intro p hp; simp only [List.mem_cons, List.not_mem_nil, or_false] at hp; rcases hp with rfl | rfl <;> first | rfl | (simp [acc])) (GI_tuple (xs := ks2) r.handled (J_tuple (.allCons J_int (.allCons J_int (.allCons J_int .allNil))) (by decide))) (.inl rfl)
      (fun i k s0 s hk T => ?_) fun s T => ?_
    · have hb : 3 ≤ k ∧ k ≤ 9 := by have := ks_in hk; simp [ks2] at this; omega
      have hf := fdiv_fmod_facts k 3
      have p1 := pow_small (n := (9 - k).toNat) (by omega)
      have p2 := pow_small (n := (12 - k.fdiv 3).toNat) (by omega)
      refine XB_assign (R := intR) (a := place2 x k) T (.inl rfl) rfl (J_find (J_ifexp (T_cmp (J_var (T.var rfl)) J_int fun _ _ _ _ => V_ltI) (fun e => ?_) (fun e => ?_)) (J_itemS (by omega) (by omega) (cps_some (by rw [hx]; omega)) (fun _ _ => rfl) (J_var (T.var rfl)) (J_var (T.var rfl)))) fun s T => ?_
      · rw [if_pos (of_decide_eq_true e)]; exact J_str
      · rw [if_neg (of_decide_eq_false e)]; exact J_str
      refine XB_aug (R := intR) (R₂ := intR) (b := back2 x k) (c := acc (acc (back0 x) (back1 x) ks1 ks1.length) (back2 x) ks2 (i + 1)) T (.inl rfl) rfl ?_ (fun _ _ _ _ a b => (U_add a b).to (acc_succ hk).symm) fun s T => .nil ⟨.inl rfl, T.sub ?_⟩
      · refine J_binop (J_binop (J_binop (J_var (T.var rfl)) J_int fun _ _ _ _ => V_mod (by decide)) (J_binop J_int (J_binop J_int (J_var (T.var rfl)) fun _ _ _ _ => V_sub) fun _ _ _ _ => V_pow (by omega) (by omega) (by decide)) fun _ _ _ _ => V_mul (IntMulOk.of_right (bits_small (by omega) (by omega))))
          (J_binop (J_binop (J_var (T.var rfl)) J_int fun _ _ _ _ => V_div (by decide) (PyProof.noPylong_small (by omega))) (J_binop J_int (J_binop J_int (J_binop (J_var (T.var rfl)) J_int fun _ _ _ _ => V_div (by decide) (PyProof.noPylong_small (by omega))) fun _ _ _ _ => V_sub) fun _ _ _ _ => V_pow (by omega) (by omega) (by decide)) fun _ _ _ _ => V_mul (IntMulOk.of_right (bits_small (by omega) (by omega)))) fun _ _ _ _ => V_add
      · intro p hp; simp only [List.mem_cons, List.not_mem_nil, or_false] at hp; rcases hp with rfl | rfl <;> rfl
    refine XB_ret T ((J_var (T.var rfl)).to ?_)
    simp [acc, backOf, ks1, ks2]
end
end
-- part L9
section
open PySem PySem.W PyProof.Rows PySem.Calls
set_option maxRecDepth 100000
/-- what no heap can turn -/
def Free (Γ : List (Str × TP)) : Prop := ∀ p ∈ Γ, ∀ h h' v, p.2.p h v → p.2.p h' v
theorem Free.nil : Free [] := fun p hp => nomatch hp
theorem Free.cons {x : Str} {P : TP} {Γ : List (Str × TP)} (h : ∀ h h' v, P.p h v → P.p h' v) (hf : Free Γ) : Free ((x, P) :: Γ) := fun p hp => by
  rcases List.mem_cons.mp hp with rfl | hp
  · exact h
  · exact hf p hp
structure FreeR {α : Type} (R : Rel α) : Prop where
  go : ∀ h h' v x, R.r h v x → R.r h' v x
theorem free_int : FreeR intR := ⟨fun _ _ _ _ h => h⟩
theorem free_str : FreeR strR := ⟨fun _ _ _ _ h => h⟩
theorem free_val : FreeR valR := ⟨fun _ _ _ _ h => h⟩
theorem Free.rel {α : Type} {R : Rel α} {a : α} {x : Str} {Γ : List (Str × TP)} (hR : FreeR R) (hf : Free Γ) : Free ((x, R.at a) :: Γ) := .cons (fun h h' v r => hR.go h h' v a r) hf

section
variable {prog : Program} {w : World} {A : Around} {env : Env} {α β γ : Type}
theorem Fm.moveF {Γ : List (Str × TP)} {m m' : Mem} (F : Fm env Γ m) (hf : Free Γ) (k : ∀ b o, ownOf env b → m b = some o → m' b = some o) : Fm env Γ m' := by
  obtain ⟨f, cm, hn, hc, hv⟩ := F.frame
  refine ⟨F.kind, ⟨f, cm, hn.at fun o e => k _ o (.inl rfl) e, fun n c e => (hc n c e).at fun o e' => k _ o (.inr ⟨n, e⟩) e', fun x P e => ?_⟩, F.apart, F.above⟩
  obtain ⟨v, hp, r⟩ := hv x P e
  exact ⟨v, hf (x, P) (mem_of_lookup e) _ _ _ hp, r⟩

variable {m₀ : Mem} {g : Heap} {own : Addr → Prop} {s₁ s : Shared} {Γ : List (Str × TP)} {Q : Flow → Shared → Prop} {E : Value → Shared → Prop}

theorem At.turn {h : Heap} {tk : Nat} (T : At m₀ g own s₁ s env Γ) (hf : Free Γ) (W : Addr → Prop) (k : ∀ b o, ¬ W b → s.heap.get? b = some o → h.get? b = some o) (h1 : ∀ b, W b → ¬ ownOf env b) (h2 : ∀ b, W b → g.get? b = none)
    (h3 : ∀ b, W b → own b ∨ s₁.heap.get? b = none) : At m₀ g own s₁ { s with heap := h, toks := tk } env Γ := by
  refine ⟨T.le, fun b o e => k b o (fun q => by rw [h2 b q] at e; cases e) (T.kp _ _ e), ?_, T.new, T.mine, T.fm.moveF hf fun b o hb e => ?_⟩
  · obtain ⟨h', tk', rfl, st⟩ := T.stp
    exact ⟨h, tk, rfl, fun b o hb e => k b o (fun q => (h3 b q).elim hb (fun z => by rw [z] at e; cases e)) (st b o hb e)⟩
  · cases q : g.get? b with
    | none => rw [ext_none q] at e ⊢; exact k b o (fun z => h1 b z hb) e
    | some o' => rw [ext_some q] at e ⊢; exact e
theorem At.more {own' : Addr → Prop} (T : At m₀ g own s₁ s env Γ) (h : ∀ b, own b → own' b) (hn : ∀ b, own' b → g.get? b = none) : At m₀ g own' s₁ s env Γ :=
  ⟨T.le, T.kp, T.stp.mono h, hn, fun a ha => h a (T.mine a ha), T.fm⟩

/-- x, y = a tuple of two -/
theorem At.pair {x y : Str} {px py pt : Pos} {k : Nat} {t : Addr} {v0 v1 : Value} {P0 P1 : TP} {Q : Unit → Shared → Prop} (T : At m₀ g own s₁ s env Γ) (hh : A.handled = none) (ht : s.heap.IsTuple t #[v0, v1])
    (hx : env.kindOf x = some .local ∨ (env.kindOf x = some .cell ∧ (env.cells.lookup x).isSome = true)) (hy : env.kindOf y = some .local ∨ (env.kindOf y = some .cell ∧ (env.cells.lookup y).isSome = true))
    (h0 : P0.p (ext m₀ g s.heap) v0) (h1 : P1.p (ext m₀ g s.heap) v1) (hq : ∀ s', At m₀ g own s₁ s' env ((y, P1) :: (x, P0) :: Γ) → Stp (ownOf env) s s' → Q () s') :
    wpAny (model prog w) A (assign (.Tuple [.Name x px, .Name y py] k pt) env (.ref t)) Q E s := by
  refine wpAny_assign_Tuple hh ht rfl rfl fun h' hx' => ?_
  have kk : Kp s.heap h' := fun b o e => hx' b o (Nat.ne_of_lt (Heap.lt_size e)) e
  have T' := T.grow (tk := s.toks) kk
  show wpAny _ A (do holding [v1] (assign (.Name x px) env v0); do holding [] (assign (.Name y py) env v1); pure ()) _ _ _
  refine wpAny_bind (wpAny_holding (wpAny_assign_Name (T'.store (P := P0) hx (P0.st (ext_mono kk).sq h0) fun s2 T2 sq2 st2 => ?_)))
  refine wpAny_bind (wpAny_holding (wpAny_assign_Name (T2.store (P := P1) hy (P1.st sq2 (P1.st (ext_mono kk).sq h1)) fun s3 T3 sq3 st3 => wpAny_pure (hq _ T3 ?_))))
  exact (Stp.ofKp (tk := s.toks) kk).trans (st2.trans st3)

/-- a list that a name holds and the body turns -/
def Lst (p : Addr) (R : Rel α) (xs : List α) (h : Heap) : Prop := ∃ vs n, h.get? p = some (seqO "list" vs n) ∧ Paired (R.r h.get?) vs xs
theorem Lst.keeps {p : Addr} {R : Rel α} {xs : List α} {h h' : Heap} (L : Lst p R xs h) (hR : FreeR R) (k : ∀ o, h.get? p = some o → h'.get? p = some o) : Lst p R xs h' :=
  let ⟨vs, n, e, r⟩ := L; ⟨vs, n, k _ e, paired_mono (fun a b q => hR.go _ _ a b q) r⟩
theorem Lst.rel {p : Addr} {R : Rel α} {xs : List α} {h : Heap} (L : Lst p R xs h) (hR : FreeR R) (hg : g.get? p = none) : (listR R).r (ext m₀ g h) (.ref p) xs :=
  let ⟨vs, n, e, r⟩ := L; ⟨p, vs, n, rfl, by rw [ext_none hg]; exact e, paired_mono (fun a b q => hR.go _ _ a b q) r⟩

/-- y = [] -/
theorem XB_empty {y : Str} {p' lp pos : Pos} {rest : List Stmt} (R : Rel α) (T : At m₀ g own s₁ s env Γ) (hkg : Kp g s₁.heap)
    (hy : env.kindOf y = some .local ∨ (env.kindOf y = some .cell ∧ (env.cells.lookup y).isSome = true)) (hs : swapsWith (.List [] lp) (some (.Name y p')) pos.line env = pure false)
    (hq : ∀ p s', At m₀ g (fun b => own b ∨ b = p) s₁ s' env ((y, valR.at (.ref p)) :: Γ) → ¬ ownOf env p → s'.heap.get? p ≠ none → Lst p R [] s'.heap → XB prog w A rest env Q s') :
    XB prog w A (.Assign [.Name y p'] (.List [] lp) pos :: rest) env Q s := by
  refine .cons fun E => wpAny_Assign_Name (List_ (spliced_nil (wpAny_newObj_type ?_ (Nat.zero_le _)))) hs
  have kk : Kp s.heap (s.heap.push { cls := .type "list", data := .seq ([] : List Value).toArray }) := Kp.push _ _
  have hn : s.heap.get? s.heap.objs.size = none := Heap.get?_none_of_le (Nat.le_refl _)
  have ng : g.get? s.heap.objs.size = none := by
    cases q : g.get? s.heap.objs.size with
    | none => rfl
    | some o => rw [T.kp _ _ q] at hn; cases hn
  have T' := T.grow (tk := s.toks) kk
  have ho : ¬ ownOf env s.heap.objs.size := fun h => T.there h hn
  refine T'.store (P := valR.at (.ref s.heap.objs.size)) hy rfl fun s2 T2 _ st => ?_
  obtain ⟨h2, tk2, rfl, out⟩ := st
  have e2 := out s.heap.objs.size _ ho (Heap.get?_push_size _ rfl)
  exact hq s.heap.objs.size _ (T2.more (fun b h => .inl h) (fun b h => h.elim (T2.new b) fun e => e ▸ ng)) ho (by rw [e2]; exact fun q => nomatch q) ⟨[], 0, e2, .nil⟩

/-- y.append(e) -/
theorem XB_append {y : Str} {np ap pos spos : Pos} {e : Expr} {rest : List Stmt} {R : Rel α} {a : α} {xs : List α} {p : Addr} {pl : Sem Bool} (T : At m₀ g own s₁ s env Γ) (hf : Free Γ) (hR : FreeR R) (hp : own p) (hpe : ¬ ownOf env p)
    (hy : Γ.lookup y = some (valR.at (.ref p))) (L : Lst p R xs s.heap) (hl : xs.length ≤ sizeLine) (ge : G prog w A (ext m₀ g s.heap) (eval e env) R a)
    (hq : ∀ s', At m₀ g own s₁ s' env Γ → Lst p R (xs ++ [a]) s'.heap → (∀ b o, b ≠ p → s.heap.get? b = some o → s'.heap.get? b = some o) → XB prog w A rest env Q s')
    (he : eval (.Call (.Attribute (.Name y np) "append" ap) [e] [] pos) env = (do
      let ov ← eval (.Name y np) env
      standAt ap.atName
      let (f, first) ← holding [ov] (getMethod ov "append" pl)
      callWith pos f first (backTo pos (starEach [e] env)) (backToKw pos (keywordEach [] env))) := by rfl)
    (hs : starEach [e] env = (false, eval e env) :: starEach [] env := by rfl)
    (hi : interactive env = false := by rfl) (hsw : swapsWith (.Call (.Attribute (.Name y np) "append" ap) [e] [] pos) none spos.line env = pure false := by rfl) (hd : (y == ("__debug__" : Str)) = false := by decide) :
    XB prog w A (.Expr (.Call (.Attribute (.Name y np) "append" ap) [e] [] pos) spos :: rest) env Q s := by
  refine .cons fun E => wpAny_Expr ?_ hi hsw
  obtain ⟨v, hn, hr⟩ := T.var hy
  replace hr : v = .ref p := hr
  subst hr
  obtain ⟨vs, n, ho, hP⟩ := L
  refine methodCall_KW (wpAny_Name (NmS.nm hn A _ _ s T.low ?_) hd) he
  refine getMethod_list_append ho rfl rfl ?_
  show wpAny _ A (callWith pos (.builtin "list.append") [.ref p] (backTo pos (starEach [e] env)) []) _ _ _
  have ht : backTo pos (starEach [e] env) = (false, eval e env) :: backTo pos (starEach [] env) := by rw [hs]; rfl
  rw [ht]
  refine callWith_builtin (by rfl) (evalArgs_plain (spliced_cons (ge.run s T.low _ _ fun v h₁ tk₁ k₁ r₁ => spliced_nil ?_)))
  have T1 := T.grow (tk := tk₁) k₁
  rw [ext_trans T.kp k₁] at r₁
  refine append_at (s := { s with heap := h₁, toks := tk₁ }) (k₁ _ _ ho) (fun h₂ sb e2 => ?_) (by rw [List.size_toArray, Paired.length hP]; exact hl)
  have T2 := T1.turn (h := h₂) (tk := tk₁) hf (fun b => b = p) (fun b o hb e => (sb.2 b hb).trans e) (fun b hb => hb ▸ hpe) (fun b hb => hb ▸ T.new p hp) (fun b hb => .inl (hb ▸ hp))
  refine hq _ T2 ⟨vs ++ [v], n + 1, by rw [e2]; simp [seqO], ?_⟩ fun b o hb e => (sb.2 b hb).trans (k₁ _ _ e)
  exact paired_append (paired_mono (fun a b q => hR.go _ _ a b q) hP) (.cons (hR.go _ _ _ _ r₁) .nil)

/-- for x, y in ..: -/
theorem XB_forU {tgt : List Expr} {kt : Nat} {pt pos : Pos} {iter : Expr} {body orelse rest : List Stmt} {n : Nat} (D : Nat → Value → Value → Prop) (Inv : Nat → Shared → Prop) (Brk : Shared → Prop)
    (gi : ∀ (Q' : Value → Shared → Prop) (E' : Value → Shared → Prop), (∀ I fp wr Pt St Mid h tk, Kp s.heap h → WalksU prog w A I fp wr n Pt St Mid → St 0 h → (∀ b ∈ fp, ¬ own b) → (∀ b ∈ wr, s.heap.get? b = none) →
      (∀ i vals, i < n → Pt i vals → ∃ v0 v1, vals = #[v0, v1] ∧ D i v0 v1) → Q' (.ref I) { s with heap := h, toks := tk }) → wpAny (model prog w) A (eval iter env) (fun x s1 => wpAny (model prog w) A (pyIter x) Q' E' s1) E' s)
    (h0 : ∀ h tk, Kp s.heap h → Inv 0 { s with heap := h, toks := tk })
    (move : ∀ i s' h tk, Inv i s' → Stp own s s' → (∀ b o, (s.heap.get? b ≠ none ∨ own b) → s'.heap.get? b = some o → h.get? b = some o) → Inv i { s' with heap := h, toks := tk })
    (turn : ∀ i v0 v1 s' t E', i < n → D i v0 v1 → Inv i s' → s'.heap.IsTuple t #[v0, v1] →
      wpAny (model prog w) A (assign (.Tuple tgt kt pt) env (.ref t)) (fun _ s2 => wpAny (model prog w) A (execs body env) (fun f s'' => Stp own s' s'' ∧ match f with | .next | .cont => Inv (i + 1) s'' | .brk => Brk s'' | .ret u => Q (.ret u) s'') E' s2) E' s')
    (hend : ∀ s', Inv n s' → XB prog w A orelse env (Then prog w A rest env Q) s') (hbrk : ∀ s', Brk s' → XB prog w A rest env Q s')
    (hs : ∀ x, foldedSetIterable iter env x = pure x := by intro _; rfl) :
    XB prog w A (.For (.Tuple tgt kt pt) iter body orelse pos :: rest) env Q s := by
  refine .cons fun E => wpAny_For (gi _ _ fun I fp wr Pt St Mid hb tk kb W st0 hfp hwr hD => ?_) hs
  refine codeAny_forLoop_any
    (fun k s' => ∃ i, i ≤ n ∧ k = n + 1 - i ∧ St i s'.heap ∧ Inv i s' ∧ Stp own s s') ?_ (n + 1) ⟨0, Nat.zero_le _, rfl, st0, h0 hb tk kb, .ofKp kb⟩
  rintro k s' ⟨i, hi, rfl, hst, hinv, hstp⟩
  have wrk : ∀ b, s.heap.get? b ≠ none ∨ own b → b ∉ wr := fun b h hb => h.elim (fun z => z (hwr b hb)) (hfp b (W.sub b hb))
  have stpk : ∀ (h : Heap) (tk : Nat), (∀ b o, b ∉ wr → s'.heap.get? b = some o → h.get? b = some o) → Stp own s { s' with heap := h, toks := tk } := fun h tk k => by
    obtain ⟨hh, tt, rfl, kk⟩ := hstp
    exact ⟨h, tk, rfl, fun b o hb e => k b o (wrk b (.inl (by rw [e]; exact fun q => nomatch q))) (kk b o hb e)⟩
  by_cases hlt : i < n
  · refine W.item i _ _ _ hlt hst fun t vals h₂ tk₂ hP hT hm hk => ?_
    obtain ⟨v0, v1, rfl, hd⟩ := hD i vals hlt hP
    refine W.go _ _ _ i t _ _ _ hm fun h₃ st3 hk3 => ?_
    have k3 : ∀ b o, b ∉ wr → s'.heap.get? b = some o → h₃.get? b = some o := fun b o hb e => hk3 b o hb (hk b o hb e)
    have inv3 := move i s' h₃ tk₂ hinv hstp fun b o hb e => k3 b o (wrk b hb) e
    have stp3 := stpk h₃ tk₂ k3
    have ht3 : h₃.IsTuple t #[v0, v1] := by
      obtain ⟨o, e, r⟩ := hT
      exact ⟨o, hk3 t o (W.apart i t _ hm) e, r⟩
    refine wpAny_mono (turn i v0 v1 { s' with heap := h₃, toks := tk₂ } t _ hlt hd inv3 ht3) (fun _ s2 hq => wpAny_mono hq (fun f s3 hf => ?_) fun _ _ e => e) fun _ _ e => e
    obtain ⟨stp, hf⟩ := hf
    have nxt : Inv (i + 1) s3 → ∃ m, m < n + 1 - i ∧ ∃ i, i ≤ n ∧ m = n + 1 - i ∧ St i s3.heap ∧ Inv i s3 ∧ Stp own s s3 := fun hv => by
      refine ⟨n + 1 - (i + 1), by omega, i + 1, hlt, rfl, ?_, hv, stp3.trans stp⟩
      obtain ⟨h4, tk4, rfl, kk⟩ := stp
      exact W.frame _ _ _ st3 fun b hb o e => kk b o (hfp b hb) e
    cases f with
    | next => exact nxt hf
    | cont => exact nxt hf
    | brk => exact hbrk _ hf
    | ret u => exact hf
  · obtain rfl : i = n := Nat.le_antisymm hi (Nat.not_lt.mp hlt)
    refine W.done _ _ _ hst fun h₂ tk₂ hk₂ => ?_
    exact wpAny_mono ((hend _ (move _ s' h₂ tk₂ hinv hstp fun b o hb e => hk₂ b o (wrk b hb) e)).run _) (fun f s3 hf => by
      cases f with
      | next => exact hf
      | brk => exact hf
      | cont => exact hf
      | ret u => exact hf) fun _ _ e => e
end
end
-- part L10
section
open PySem PySem.W PyProof.Rows PySem.Calls
open PySem.AutoSeq1 (wpAny_loadPart')
set_option maxRecDepth 100000
set_option maxHeartbeats 4000000
section
variable {prog : Program} {w : World} {A : Around} {env : Env} {α β γ : Type} {E : Value → Shared → Prop} {s : Shared}

theorem nextT_item {it t : Addr} {i : Nat} {items : Array Value} {x : Value} {Q : Value → Shared → Prop} (hit : s.heap.IsTupleIter it t i)
    (ht : s.heap.IsTuple t items) (hx : items[i]? = some x) (hQ : ∀ h', h'.IsTupleIter it t (i + 1) → Heap.SameBut it s.heap h' → Q x { s with heap := h' }) :
    wpAny (model prog w) A (Builtin.SmallTypes.nextOf (.ref it)) Q E s := by
  obtain ⟨o, ho, hc, hd⟩ := id hit
  obtain ⟨ol, hol, _, nl, hdl⟩ := ht
  unfold Builtin.SmallTypes.nextOf
  refine wpAny_bind (wpAny_callSpecial?_slot (name := Str.ofString "__next__") hit.typeIs F.slot_tuple_iterator_next
    (wpAny_call_entry F.slot_tuple_iterator_next hit.typeIs F.entry_tuple_iterator_next ?_ (F.args_tuple_iterator_next_1 _)))
  show wpAny _ _ (field (.ref it) 0 >>= _) _ _ s
  refine wpAny_bind (wpAny_field ho hd (x := .ref t) rfl ?_)
  show wpAny _ _ (if (Value.ref t == Value.none) = true then _ else _) _ _ s
  rw [if_neg (show ¬ ((Value.ref t == Value.none) = true) from Bool.false_ne_true)]
  show wpAny _ _ (field (.ref it) 1 >>= _) _ _ s
  refine wpAny_bind (wpAny_field ho hd (x := .int i 0) rfl ?_)
  show wpAny _ _ (seqItems? (.ref t) >>= _) _ _ s
  refine wpAny_bind (wpAny_seqItems hol hdl ?_)
  simp only [Int.toNat_natCast, hx]
  refine wpAny_bind (wpAny_setField ho hd (by simp) (wpAny_pure ⟨x, rfl, wpAny_pure (hQ _ ?_ (Heap.SameBut.update ..))⟩))
  exact ⟨_, Heap.get?_update_self _ ho (Obj.isFreed_of_fields (Obj.data_mapFields hd _)), (Obj.cls_mapFields ..).trans hc, by
    rw [Obj.data_mapFields hd]; simp [rawInt]⟩
theorem nextT_end {it t : Addr} {i : Nat} {items : Array Value} {Q : Value → Shared → Prop} (hh : A.handled = none)
    (hit : s.heap.IsTupleIter it t i) (ht : s.heap.IsTuple t items) (hx : items[i]? = none)
    (hE : ∀ h' e, Heap.ExtBut it s.heap h' → (∃ o, h'.get? e = some o ∧ o.cls = .type "StopIteration") → E (.ref e) { s with heap := h' }) :
    wpAny (model prog w) A (Builtin.SmallTypes.nextOf (.ref it)) Q E s := by
  obtain ⟨o, ho, hc, hd⟩ := id hit
  obtain ⟨ol, hol, _, nl, hdl⟩ := ht
  unfold Builtin.SmallTypes.nextOf
  refine wpAny_bind (wpAny_callSpecial?_slot (name := Str.ofString "__next__") hit.typeIs F.slot_tuple_iterator_next
    (wpAny_call_entry F.slot_tuple_iterator_next hit.typeIs F.entry_tuple_iterator_next ?_ (F.args_tuple_iterator_next_1 _)))
  show wpAny _ _ (field (.ref it) 0 >>= _) _ _ s
  refine wpAny_bind (wpAny_field ho hd (x := .ref t) rfl ?_)
  show wpAny _ _ (if (Value.ref t == Value.none) = true then _ else _) _ _ s
  rw [if_neg (show ¬ ((Value.ref t == Value.none) = true) from Bool.false_ne_true)]
  show wpAny _ _ (field (.ref it) 1 >>= _) _ _ s
  refine wpAny_bind (wpAny_field ho hd (x := .int i 0) rfl ?_)
  show wpAny _ _ (seqItems? (.ref t) >>= _) _ _ s
  refine wpAny_bind (wpAny_seqItems hol hdl ?_)
  simp only [Int.toNat_natCast, hx]
  refine wpAny_bind (wpAny_rule (wpAny_bind (wpAny_setField ho hd (by simp) ?_)))
  show wpAny _ _ (newExc (.type "StopIteration") [] >>= _) _ _ _
  refine wpAny_bind ?_
  simp only [newExc, newTuple]
  refine wpAny_bind (wpAny_newObj_type ?_ (by size_fits))
  refine wpAny_bind (m := firstArgMember _ _) (wpAny_of_eq (a := Value.none) (by first | rfl | (simp only [firstArgMember]; rfl)) ?_)
  refine wpAny_newObj_type ?_ (by size_fits)
  simp only [raiseNew]
  refine wpAny_bind (wpAny_handled ?_)
  first | rw [show A.in1.handled = none from hh] | rw [hh]
  refine wpAny_bind (wpAny_pure (wpAny_throw ?_))
  exact hE _ _ (((Heap.SameBut.update ..).extBut.push _).push _) ⟨_, Heap.get?_push_size _ rfl, rfl⟩
theorem draws_tuple (hh : A.handled = none) (it l : Addr) (hne : l ≠ it) (items : Array Value) :
    Draws prog w A it [it, l] items.size (fun i v => items[i]? = some v) (fun i h => h.IsTupleIter it l i ∧ h.IsTuple l items) where
  live := fun _ _ st => let ⟨o, ho, _⟩ := st.1; ⟨o, ho⟩
  frame := fun _ _ _ st hk => ⟨st.1.at fun o e => hk it (by simp) o e, st.2.at fun o e => hk l (by simp) o e⟩
  item := fun i s Q E hi st hQ => by
    refine nextT_item st.1 st.2 (x := items[i]) (by simp [hi]) fun h' hit' hs' => ?_
    exact hQ _ h' s.toks (by simp [hi]) ⟨hit', st.2.extBut hs'.extBut hne⟩ hs'
  done := fun s Q E st hE => nextT_end hh st.1 st.2 (by simp) hE

theorem newT (l : Addr) (items : Array Value) (n : Nat) :
    Meets (Builtin.«enumerate.__new__» ⟨[.type "enumerate", .ref l], []⟩) (fun _ R s => s.heap.get? l = some { cls := .type "tuple", data := .seq items n } ∧
      R (.ok (.ret (.ref (s.heap.push { cls := .type "tuple_iterator", data := .fields #[.ref l, .int 0 0] }).objs.size)))
        { s with heap := (s.heap.push { cls := .type "tuple_iterator", data := .fields #[.ref l, .int 0 0] }).push { cls := .type "enumerate", data := .fields #[.none, .bool false, .ref s.heap.objs.size, rawInt 0, .none, .none] } }) :=
  .of_wp fun prog w A R s h => by
    obtain ⟨hp, g, d, tk, os⟩ := s; obtain ⟨hl, h⟩ := h
    have hsub := sub_enumerate
    have hL : Heap.IsTuple (Shared.heap ⟨hp, g, d, tk, os⟩) l items := ⟨_, hl, rfl, n, rfl⟩
    wp_walk using wpAny_loadPart' hl
    refine wpAny_stack_any fun st => wpAny_pure ?_
    split
    · rename_i c _ _ _ _ _
      cases (c == Value.type "enumerate")
      · wp_walk using wpAny_loadPart' hl, wpAny_pyIter_tuple hL
        exact ⟨_, rfl, h⟩
      · wp_walk using wpAny_loadPart' hl, wpAny_pyIter_tuple hL
        exact ⟨_, rfl, h⟩
    · wp_walk using wpAny_loadPart' hl, wpAny_pyIter_tuple hL
      exact ⟨_, rfl, h⟩
theorem call_enumT {l : Addr} {items : List Value} {n : Nat} {Q : Value → Shared → Prop} (hl : s.heap.get? l = some (seqO "tuple" items n))
    (h : ∀ h', IsEnum h' (s.heap.objs.size + 1) s.heap.objs.size 0 .none → h'.IsTupleIter s.heap.objs.size l 0 → Kp s.heap h' → Q (.ref (s.heap.objs.size + 1)) { s with heap := h' }) :
    wpAny (model prog w) A (call (.type "enumerate") [.ref l]) Q E s := by
  refine callType_new F.called_enumerate (by decide) (F.typeCall_enumerate_1 _) (F.newCall_enumerate_1 _) (fun obj => F.args_object_init_2 obj _) F.entry_enumerate_new
    (newT l items.toArray n) ⟨hl, ?_⟩
  have hz : (s.heap.push { cls := .type "tuple_iterator", data := .fields #[.ref l, .int 0 0] }).objs.size = s.heap.objs.size + 1 := Heap.size_push ..
  show _ ∧ _
  rw [hz]
  have he : IsEnum ((s.heap.push { cls := .type "tuple_iterator", data := .fields #[.ref l, .int 0 0] }).push
      { cls := .type "enumerate", data := .fields #[.none, .bool false, .ref s.heap.objs.size, rawInt 0, .none, .none] }) (s.heap.objs.size + 1) s.heap.objs.size 0 .none := by
    have := Heap.get?_push_size (s.heap.push { cls := .type "tuple_iterator", data := .fields #[.ref l, .int 0 0] })
      (o := { cls := .type "enumerate", data := .fields #[.none, .bool false, .ref s.heap.objs.size, rawInt 0, .none, .none] }) rfl
    rw [hz] at this; exact this
  exact ⟨⟨_, he, rfl⟩, h _ he ⟨_, Heap.get?_push_of_some _ (Heap.get?_push_size _ rfl), rfl, rfl⟩ fun b o x => Heap.get?_push_of_some _ (Heap.get?_push_of_some _ x)⟩

theorem goT {elts : List Expr} {x1} {pos : Pos} {I l T : Addr} {i : Nat} {Q : Unit → Shared → Prop} (hit : s.heap.IsTupleIter I l i) (hQ : Q () s) :
    wpAny (model prog w) A (letOwnedTupleGo (.Tuple elts x1 pos) (.ref I) (.ref T)) Q E s := by
  obtain ⟨o, ho, hc, hd⟩ := hit
  unfold letOwnedTupleGo
  refine wpAny_bind (wpAny_load ho ?_)
  rw [hc, hd]
  show wpAny _ A (if (["enumerate", "zip", "dict_itemiterator", "dict_reverseitemiterator", "odict_iterator", "itertools.zip_longest", "itertools.pairwise"].contains "tuple_iterator" &&
      (#[.ref l, .int i 0] : Array Value)[0]? == some (rawInt T)) = true then _ else _) Q E s
  rw [if_neg (by
    intro h
    rw [show (["enumerate", "zip", "dict_itemiterator", "dict_reverseitemiterator", "odict_iterator", "itertools.zip_longest", "itertools.pairwise"].contains "tuple_iterator") = false from by decide, Bool.false_and] at h
    cases h)]
  exact wpAny_pure hQ

/-- a tuple of tuples, walked -/
theorem walksTT (hh : A.handled = none) (I ax : Addr) (hne : ax ≠ I) (items : Array Value) (Ts : Nat → Addr) (vals : Nat → Array Value)
    (hit : ∀ j, j < items.size → items[j]? = some (.ref (Ts j))) (hTI : ∀ j, j < items.size → Ts j ≠ I) :
    WalksU prog w A I (I :: ax :: (List.range items.size).map Ts) [I] items.size (fun j v => v = vals j)
      (fun j h => h.IsTupleIter I ax j ∧ h.IsTuple ax items ∧ ∀ k, k < items.size → h.IsTuple (Ts k) (vals k))
      (fun j T h => (j < items.size ∧ T = Ts j) ∧ h.IsTupleIter I ax (j + 1) ∧ h.IsTuple ax items ∧ ∀ k, k < items.size → h.IsTuple (Ts k) (vals k)) where
  sub := fun b hb => by simp at hb; simp [hb]
  frame := fun _ _ _ st hk => ⟨st.1.at fun o e => hk I (by simp) o e, st.2.1.at fun o e => hk ax (by simp) o e,
    fun k hk' => (st.2.2 k hk').at fun o e => hk (Ts k) (List.mem_cons_of_mem _ (List.mem_cons_of_mem _ (List.mem_map.mpr ⟨k, List.mem_range.mpr hk', rfl⟩))) o e⟩
  item := fun i s Q E hi st hQ => by
    refine wpAny_pyNext_tuple_item st.1 st.2.1 (x := .ref (Ts i)) (hit i hi) fun h' hit' hs' => ?_
    have tup : ∀ k, k < items.size → h'.IsTuple (Ts k) (vals k) := fun k hk' => (st.2.2 k hk').extBut hs'.extBut (hTI k hk')
    exact hQ (Ts i) (vals i) h' s.toks rfl (tup i hi) ⟨⟨hi, rfl⟩, hit', st.2.1.extBut hs'.extBut hne, tup⟩ fun b o hb e => hs'.extBut b o (fun h => hb (by simp [h])) e
  go := fun _ _ _ _ _ s Q _ hm hQ => goT hm.2.1 (hQ s.heap hm.2 fun _ _ _ e => e)
  apart := fun j T _ hm hmem => by
    rcases List.mem_cons.mp hmem with e | e
    · exact hTI j hm.1.1 (hm.1.2 ▸ e)
    · cases e
  done := fun s Q E st hQ => wpAny_pyNext_tuple_end hh st.1 st.2.1 (by simp) fun h' he' => hQ h' s.toks fun b o hb e => he' b o (fun h => hb (by simp [h])) e
  self := fun _ _ _ _ st hQ => wpAny_pyIter_tupleiter st.1 hQ
end
end
-- part L11
section
open PySem PySem.W PyProof.Rows PySem.Calls
set_option maxRecDepth 100000
set_option maxHeartbeats 4000000
theorem slot_md_get : Slot "method_descriptor" "__get__" "method_descriptor.__get__" :=
  .of (owner := "method_descriptor") (n := "__get__") (by rw [typeLookup_type, builtinLookup_eq_fast]; kernel_rfl) (by decide +kernel) (by decide +kernel) (by decide +kernel)
    (by first | exact .inl (by decide +kernel) | exact .inr (by decide +kernel)) (by rw [isSubtype_type]; kernel_rfl)
theorem entry_md_get : entryFor table "method_descriptor.__get__" = some Builtin.«method_descriptor.__get__» := entryFor_of_tree (by kernel_rfl)
theorem args_md_get (a b c : Value) : argsOk "method_descriptor.__get__" ⟨[a, b, c], []⟩ := by unfold argsOk; kernel_rfl
theorem md_set : typeLookup (.type "method_descriptor") "__set__" = pure none := by rw [typeLookup_type, builtinLookup_eq_fast]; kernel_rfl
theorem md_del : typeLookup (.type "method_descriptor") "__delete__" = pure none := by rw [typeLookup_type, builtinLookup_eq_fast]; kernel_rfl
theorem type_append : typeOf (.builtin "list.append") = pure (.type "method_descriptor") := type_list_append
theorem sub_list_list : isSubtype (.type "list") (.type (".".intercalate ("list.append".cutAt '.').dropLast)) = pure true := by
  have e0 : "list.append".cutAt '.' = ["list", "append"] := by first | rfl | decide +kernel
  rw [e0]
  show isSubtype (.type "list") (.type (".".intercalate ["list"])) = _
  have e1 : ".".intercalate ["list"] = "list" := by decide +kernel
  rw [e1, isSubtype_type]; kernel_rfl
theorem lk_append : typeLookup (.type "list") "append" = pure (some (.builtin "list.append")) := slot_list_append.lookup
theorem told_append : Manifest.toldItsClass.contains "list.append" = false := by decide +kernel

section
variable {prog : Program} {w : World} {A : Around} {E : Value → Shared → Prop} {h : Heap} {g : Array GenState} {d : Drawn} {t : Nat} {os : OsState} {a : Addr} {xs : Array Value} {n : Nat}
abbrev bmO (a : Addr) : Obj := { cls := .type "builtin_function_or_method", data := .fields #[.builtin "list.append", .ref a] }
theorem md_get_append {R : Result → Shared → Prop} (hx : h.get? a = some { cls := .type "list", data := .seq xs n }) (hq : R (.ok (.ret (.ref h.objs.size))) ⟨h.push (bmO a), g, d, t, os⟩) :
    codeAny (model prog w) A (.call (.builtin "method_descriptor.__get__") ⟨[.builtin "list.append", .ref a, .type "list"], []⟩) R ⟨h, g, d, t, os⟩ := by
  have hT : (⟨h, g, d, t, os⟩ : Shared).TypeIs (.ref a) "list" := ⟨_, hx, rfl⟩
  have hT5 : (⟨h, g, d, t, os⟩ : Shared).TypeIs (.builtin "list.append") "method_descriptor" := type_append
  have f8 := sub_list_list
  have f9 := told_append
  refine codeAny_call_builtin slot_md_get.plain entry_md_get (slot_md_get.check _ _ _ _ _ _ _ _ hT5 (args_md_get _ _ _) ?_)
  repeat (any_goals (first | assumption | wp_step))

theorem entry_append {tk : Tok} {Q : Fin → Shared → Prop} (hx : h.get? a = some { cls := .type "list", data := .seq xs n }) (hq : Q (.done (.ret (.ref h.objs.size))) ⟨h.push (bmO a), g, d, t, os⟩) :
    wpAny (model prog w) A (Builtin.«object.__getattribute__» ⟨[.ref a, .str "append" tk], []⟩) Q E ⟨h, g, d, t, os⟩ := by
  have hT : (⟨h, g, d, t, os⟩ : Shared).TypeIs (.ref a) "list" := ⟨_, hx, rfl⟩
  have hT5 : (⟨h, g, d, t, os⟩ : Shared).TypeIs (.builtin "list.append") "method_descriptor" := type_append
  have f4 := lk_append
  have f5 := type_append
  have f6 := slot_md_get.lookup
  have f7 := md_set
  have f8 := md_del
  repeat (any_goals (first | assumption | wp_step))
  refine md_get_append hx ?_
  repeat (any_goals (first | assumption | wp_step))
theorem call_append_get {tk : Tok} {R : Result → Shared → Prop} (hx : h.get? a = some { cls := .type "list", data := .seq xs n }) (hq : R (.ok (.ret (.ref h.objs.size))) ⟨h.push (bmO a), g, d, t, os⟩) :
    codeAny (model prog w) A (.call (.builtin "list.__getattribute__") ⟨[.ref a, .str "append" tk], []⟩) R ⟨h, g, d, t, os⟩ :=
  codeAny_call_builtin F.slot_list_getattribute.plain F.entry_list_ga (F.slot_list_getattribute.check _ _ _ _ _ _ _ _ (show (⟨h, g, d, t, os⟩ : Shared).TypeIs (.ref a) "list" from ⟨_, hx, rfl⟩) (F.args_list_getattribute_2 _ _) (entry_append hx hq))
theorem attr_append {Q : Value → Shared → Prop} (hx : h.get? a = some { cls := .type "list", data := .seq xs n }) (hq : Q (.ref h.objs.size) ⟨h.push (bmO a), g, d, t + 1, os⟩) :
    wpAny (model prog w) A (getAttr (.ref a) "append" true) Q E ⟨h, g, d, t, os⟩ := by
  have hT : ∀ t, (⟨h, g, d, t, os⟩ : Shared).TypeIs (.ref a) "list" := fun _ => ⟨_, hx, rfl⟩
  have f2 := F.slot_list_getattribute.lookup
  have f3 := F.slot_list_getattribute.bind (.ref a)
  unfold getAttr getAttrBy
  repeat (any_goals (first | assumption | exact hT _ | wp_step))
  refine call_append_get hx ?_
  repeat (any_goals (first | assumption | wp_step))
end
end
-- part L12
section
open PySem PySem.W PyProof.Rows PySem.Calls
set_option maxRecDepth 100000
set_option maxHeartbeats 4000000
section
variable {prog : Program} {w : World} {A : Around} {E : Value → Shared → Prop} {s : Shared} {α β : Type} {env : Env}
theorem sig_append : Manifest.signature? "list.append" = some ⟨.oneArg, "list.append", "append", .self, [⟨"object", .posOnly, true⟩]⟩ := by kernel_rfl
theorem args_append (a : Addr) (x : Value) : Bind.checkArgs "list.append" { (⟨.oneArg, "list.append", "append", .self, [⟨"object", .posOnly, true⟩]⟩ : Manifest.Signature) with full := s!"{Bind.lastOf "list"}.{Bind.lastOf "list.append"}" } ⟨[.ref a, x], []⟩ = pure () := by kernel_rfl
theorem kind_append : builtinKind "list.append" = some .method := by decide +kernel
theorem sub_list_module : isSubtype (.type "list") (.type "module") = pure false := by rw [isSubtype_type]; kernel_rfl
theorem va_append : Manifest.varargsMethods.contains "list.append" = false := by decide +kernel
theorem check_bm {M : Model} {a : Addr} {x : Value} {xs : Array Value} {n : Nat} {Q : Unit → Shared → Prop} (ho : s.heap.get? a = some { cls := .type "list", data := .seq xs n }) (hq : Q () s) : wpAny M A (checkBoundCall "list.append" ⟨[.ref a, x], []⟩) Q E s := by
  have hT : s.TypeIs (.ref a) "list" := ⟨_, ho, rfl⟩
  have f1 := kind_append
  have f2 := sub_list_module
  have f3 := va_append
  have f4 := args_append a x
  unfold checkBoundCall
  simp only [sig_append, f1]
  repeat (any_goals (first | assumption | wp_step))
/-- the bound method called -/
theorem call_bm {a b : Addr} {its : Array Value} {n : Nat} {x : Value} {Q : Value → Shared → Prop} (hb : s.heap.get? b = some (bmO a)) (ho : s.heap.get? a = some { cls := .type "list", data := .seq its n })
    (h : ∀ h', Heap.SameBut a s.heap h' → h'.get? a = some { cls := .type "list", data := .seq (its.push x) (n + 1) } → Q .none { s with heap := h' }) (hsz : its.size ≤ sizeLine) :
    wpAny (model prog w) A (call (.ref b) [x]) Q E s := by
  refine wpAny_call (codeAny_of_tree ?_)
  show wpAny _ _ (callAny (.ref b) ⟨[x], []⟩) _ _ _
  simp only [callAny]
  refine wpAny_bind (wpAny_load hb ?_)
  show wpAny _ _ (do checkBoundCall "list.append" ⟨[.ref a, x], []⟩; again (.builtin "list.append" ⟨[.ref a, x], []⟩)) _ _ _
  refine wpAny_bind (check_bm ho (wpAny_pure ?_))
  refine ⟨Code.quiet_builtin _ (by decide +kernel), codeAny_builtin entry_list_append ?_⟩
  show wpAny _ _ (updateSeq a (·.push x) >>= fun _ => ret .none) _ _ s
  refine wpAny_bind ?_
  refine wpAny_updateSeq ho rfl (wpAny_pure (h _ (Heap.SameBut.update ..) ?_))
  rw [Heap.get?_update_self _ ho (by rw [mapSeq_push]; rfl), mapSeq_push]

theorem callWith_bm {pos : Pos} {a b : Addr} {x : Sem Value} {Q : Value → Shared → Prop}
    (h : wpAny (model prog w) A x (fun v s₁ => s₁.heap.get? b = some (bmO a) ∧ wpAny (model prog w) A (call (.ref b) [v]) Q E s₁) E s) :
    wpAny (model prog w) A (callWith pos (.ref b) [] [(false, x)] []) Q E s := by
  unfold callWith
  refine wpAny_bind (wpAny_holding (evalArgs_plain (spliced_cons (wpAny_mono h (fun v s₁ h₁ => spliced_nil ?_) fun _ _ e => e))))
  refine wpAny_bind (wpAny_standAt ?_)
  refine wpAny_bind (m := keeperOf (.ref b)) ?_
  unfold keeperOf
  refine wpAny_bind (wpAny_load h₁.1 ?_)
  show wpAny _ _ (pure Keeper.machine) _ _ _
  refine wpAny_pure ?_
  show wpAny _ A (call (.ref b) [v] >>= fun r => holding [r] point >>= fun _ => pure r) _ _ _
  exact wpAny_bind (wpAny_mono h₁.2 (fun r s₂ hr => wpAny_bind (wpAny_holding (wpAny_point (wpAny_pure hr)))) fun _ _ x => x)

variable {m₀ : Mem} {g : Heap} {own : Addr → Prop} {s₁ : Shared} {Γ : List (Str × TP)} {Q : Flow → Shared → Prop}
/-- add = y.append -/
theorem XB_bind {x y : Str} {px np ap pos : Pos} {rest : List Stmt} {R : Rel α} {xs : List α} {p : Addr} (T : At m₀ g own s₁ s env Γ) (hR : FreeR R) (hpe : ¬ ownOf env p) (hown : ∀ b, own b → s.heap.get? b ≠ none)
    (hx : env.kindOf x = some .local ∨ (env.kindOf x = some .cell ∧ (env.cells.lookup x).isSome = true))
    (hy : Γ.lookup y = some (valR.at (.ref p))) (L : Lst p R xs s.heap)
    (hq : ∀ b s', At m₀ g own s₁ s' env ((x, valR.at (.ref b)) :: Γ) → Lst p R xs s'.heap → s'.heap.get? b = some (bmO p) → ¬ own b → XB prog w A rest env Q s')
    (hs : swapsWith (.Attribute (.Name y np) "append" ap) (some (.Name x px)) pos.line env = pure false := by rfl)
    (hbase : attributeBase (.Name y np) "append" env (eval (.Name y np) env) = eval (.Name y np) env := by rfl) (hd : (y == ("__debug__" : Str)) = false := by decide) :
    XB prog w A (.Assign [.Name x px] (.Attribute (.Name y np) "append" ap) pos :: rest) env Q s := by
  refine .cons fun E => wpAny_Assign_Name ?_ hs
  obtain ⟨v, hn, hr⟩ := T.var hy
  replace hr : v = .ref p := hr
  subst hr
  obtain ⟨vs, n, ho, hP⟩ := L
  rw [arm_eval_Attribute, hbase]
  refine wpAny_bind (wpAny_Name (NmS.nm hn A _ _ s T.low ?_) hd)
  refine wpAny_bind (wpAny_standAt ?_)
  refine wpAny_bind (wpAny_holding ?_)
  obtain ⟨h, gn, d, t, os⟩ := s
  refine attr_append (n := n) (xs := vs.toArray) ho ?_
  show wpAny _ A (do pure (); pure (Value.ref h.objs.size)) _ _ _
  refine wpAny_bind (wpAny_pure (wpAny_pure ?_))
  have kk : Kp h (h.push (bmO p)) := Kp.push _ _
  have T' := T.grow (tk := t + 1) kk
  have hb := Heap.get?_push_size h (o := bmO p) rfl
  have hbn : ¬ own h.objs.size := fun ho' => hown _ ho' (Heap.get?_none_of_le (Nat.le_refl _))
  refine T'.store (P := valR.at (.ref h.objs.size)) hx rfl fun s2 T2 _ st => ?_
  obtain ⟨h2, tk2, rfl, out⟩ := st
  exact hq h.objs.size _ T2 ⟨vs, n, out p _ hpe (kk _ _ ho), paired_mono (fun a b q => hR.go _ _ a b q) hP⟩ (out _ _ (fun q => hbn (T.mine _ q)) hb) hbn

/-- add(e) -/
theorem XB_add {y : Str} {np pos spos : Pos} {e : Expr} {rest : List Stmt} {R : Rel α} {a : α} {xs : List α} {p b : Addr} (T : At m₀ g own s₁ s env Γ) (hf : Free Γ) (hR : FreeR R) (hp : own p) (hpe : ¬ ownOf env p)
    (hy : Γ.lookup y = some (valR.at (.ref b))) (hb : s.heap.get? b = some (bmO p)) (hbo : ¬ own b) (L : Lst p R xs s.heap) (hl : xs.length ≤ sizeLine) (ge : G prog w A (ext m₀ g s.heap) (eval e env) R a)
    (hq : ∀ s', At m₀ g own s₁ s' env Γ → Lst p R (xs ++ [a]) s'.heap → s'.heap.get? b = some (bmO p) → XB prog w A rest env Q s')
    (hs : starEach [e] env = (false, eval e env) :: starEach [] env := by rfl)
    (hi : interactive env = false := by rfl) (hsw : swapsWith (.Call (.Name y np) [e] [] pos) none spos.line env = pure false := by rfl) (hd : (y == ("__debug__" : Str)) = false := by decide) :
    XB prog w A (.Expr (.Call (.Name y np) [e] [] pos) spos :: rest) env Q s := by
  refine .cons fun E => wpAny_Expr ?_ hi hsw
  obtain ⟨v, hn, hr⟩ := T.var hy
  replace hr : v = .ref b := hr
  subst hr
  obtain ⟨vs, n, ho, hP⟩ := L
  refine Call_Name1 (wpAny_Name (NmS.nm hn A _ _ s T.low ?_) hd) hs
  refine callWith_bm (a := p) (ge.run s T.low _ _ fun v h₁ tk₁ k₁ r₁ => ⟨k₁ _ _ hb, ?_⟩)
  have T1 := T.grow (tk := tk₁) k₁
  rw [ext_trans T.kp k₁] at r₁
  refine call_bm (s := { s with heap := h₁, toks := tk₁ }) (k₁ _ _ hb) (k₁ _ _ ho) (fun h₂ sb e2 => ?_) (by rw [List.size_toArray, Paired.length hP]; exact hl)
  have T2 := T1.turn (h := h₂) (tk := tk₁) hf (fun b => b = p) (fun b o hb e => (sb.2 b hb).trans e) (fun b hb => hb ▸ hpe) (fun b hb => hb ▸ T.new p hp) (fun b hb => .inl (hb ▸ hp))
  have hbp : b ≠ p := fun q => hbo (q ▸ hp)
  refine hq _ T2 ⟨vs ++ [v], n + 1, by rw [e2]; simp [seqO], ?_⟩ ((sb.2 b hbp).trans (k₁ _ _ hb))
  exact paired_append (paired_mono (fun a b q => hR.go _ _ a b q) hP) (.cons (hR.go _ _ _ _ r₁) .nil)

/-- while t: .. (Inv n: at most n turns are left) -/
theorem XB_while {test : Expr} {body orelse rest : List Stmt} {pos : Pos} (Inv : Nat → Shared → Prop) (n : Nat) (h0 : Inv n s)
    (turn : ∀ n s, Inv n s → ∃ b, (∀ (Q' : Bool → Shared → Prop) (E' : Value → Shared → Prop), (∀ s', (b = true → XB prog w A body env (fun f s'' => match f with | .next | .cont => ∃ k, k < n ∧ Inv k s'' | .brk => XB prog w A rest env Q s'' | .ret v => Q (.ret v) s'') s') →
        (b = false → XB prog w A orelse env (Then prog w A rest env Q) s') → Q' b s') → wpAny (model prog w) A (isTrue test env (eval test env)) Q' E' s)) :
    XB prog w A (.While test body orelse pos :: rest) env Q s := by
  refine .cons fun E => wpAny_While (codeAny_whileLoop Inv (fun n s hI => ?_) n h0)
  obtain ⟨b, hb⟩ := turn n s hI
  refine hb _ _ fun s' h1 h2 => ?_
  cases b with
  | true =>
    simp only [if_true]
    refine wpAny_mono ((h1 rfl).run _) (fun f s3 hf => ?_) fun _ _ e => e
    cases f with
    | next => exact hf
    | cont => exact hf
    | brk => exact hf
    | ret u => exact hf
  | false =>
    simp only [Bool.false_eq_true, if_false]
    refine wpAny_mono ((h2 rfl).run _) (fun f s3 hf => ?_) fun _ _ e => e
    cases f with
    | next => exact hf
    | cont => exact hf
    | brk => exact hf
    | ret u => exact hf
end
end
-- part L13
section
open PySem PySem.W PyProof.Rows PySem.Calls
set_option maxRecDepth 100000
set_option maxHeartbeats 4000000
theorem obj_mro : mroOf (.type "object") = pure [.type "object"] := by kernel_rfl
theorem obj_new : typeLookup (.type "object") "__new__" = pure (some (.builtin "object.__new__")) := by rw [typeLookup_type, builtinLookup_eq_fast]; kernel_rfl
theorem obj_called : TypeCalled "object" "object.__new__" "object.__init__" :=
  ⟨by decide +kernel, by decide +kernel, ⟨_, _, obj_mro⟩, madeBy_type obj_mro obj_new (by decide +kernel), by decide +kernel, by rw [isSubtype_type]; kernel_rfl, 
   .of (owner := "object") (n := "__init__") (by rw [typeLookup_type, builtinLookup_eq_fast]; kernel_rfl) (by decide +kernel) (by decide +kernel) (by decide +kernel)
    (by first | exact .inl (by decide +kernel) | exact .inr (by decide +kernel)) (by rw [isSubtype_type]; kernel_rfl)⟩
theorem obj_ct : checkTypeCall "object" ⟨[], []⟩ = pure () := by kernel_rfl
theorem obj_cn : checkBuiltinCall "object.__new__" ⟨[.type "object"], []⟩ = pure () := by kernel_rfl
abbrev plainO : Obj := { cls := .type "object", data := .plain }
theorem obj_made : Meets (Builtin.«object.__new__» ⟨[.type "object"], []⟩) (fun _ R s => R (.ok (.ret (.ref s.heap.objs.size))) { s with heap := s.heap.push plainO }) :=
  .of_wp fun prog w A R s h => by
    obtain ⟨hp, g, d, tk, os⟩ := s
    have f1 := madeBy_type obj_mro obj_new (by decide +kernel)
    have f2 := obj_mro
    unfold Builtin.«object.__new__»
    repeat (any_goals (first | assumption | wp_step))
    exact ⟨_, rfl, h⟩

section
variable {prog : Program} {w : World} {A : Around} {E : Value → Shared → Prop} {s : Shared} {α β : Type} {env : Env}
theorem call_object {Q : Value → Shared → Prop} (h : Q (.ref s.heap.objs.size) { s with heap := s.heap.push plainO }) : wpAny (model prog w) A (call (.type "object") []) Q E s := by
  refine callType_meets (Q₁ := fun obj s₁ => obj = .ref s.heap.objs.size ∧ s₁ = { s with heap := s.heap.push plainO }) obj_called obj_ct obj_cn PySem.F.entry_object_new PySem.F.entry_object_init obj_made ?_ ?_
  · exact ⟨rfl, rfl⟩
  · rintro obj s₁ ⟨rfl, rfl⟩
    refine ⟨⟨_, Heap.get?_push_size _ rfl, rfl⟩, PySem.F.args_object_init_1 _, (fun _ R s => R (.ok (.ret .none)) s), .of_wp fun prog w A R s hs => wpAny_pure ⟨_, rfl, hs⟩, rfl, h⟩

theorem sub_key_lookup : isSubtype (.type "KeyError") (.type "LookupError") = pure true := by rw [isSubtype_type]; kernel_rfl
theorem look_keep {d : Addr} {f : Int → Option Value} {c : Nat} {Q : Builtin.Str.Mapped → Shared → Prop} (hh : A.handled = none) (hm : s.heap.MapOf (intKind prog w) d f) (hd : (d == sysModules) = false) (hv : f c = none)
    (h : ∀ h' tk, Kp s.heap h' → Q .keep { s with heap := h', toks := tk }) : wpAny (model prog w) A (Builtin.Str.tableLookup (.ref d) c) Q E s := by
  unfold Builtin.Str.tableLookup
  refine wpAny_bind (wpAny_attempt (wpAny_bind (wpAny_mkInt (wpAny_getItem_missing_of (k := (c : Int)) (intKind_is prog w _ _) hd hh hm hv fun h' e X => ?_))))
  obtain ⟨o, t, ho, hc, _⟩ := X.there
  refine wpAny_bind (wpAny_isInstance (T := "KeyError") (b := true) ⟨o, ho, hc⟩ sub_key_lookup ?_)
  exact wpAny_bind (wpAny_rule (wpAny_pure (h _ _ X.keeps)))

theorem translate_keep {d : Addr} {f : Int → Option Value} {c : Nat} {u : Tok} {Q : Fin → Shared → Prop} (hh : A.handled = none) (hm : s.heap.MapOf (intKind prog w) d f) (hd : (d == sysModules) = false) (hc : c < 128) (hv : f c = none)
    (h : ∀ h' t tk, Kp s.heap h' → Q (.done (.ret (.str (chr1 c) t))) { s with heap := h', toks := tk }) : wpAny (model prog w) A (Builtin.«str.translate» ⟨[.str (chr1 c) u, .ref d], []⟩) Q E s := by
  unfold Builtin.«str.translate»
  have hT : ∀ s : Shared, s.TypeIs (.str (chr1 c) u) "str" := fun s => typeIs_str s _ _
  have ha : (chr1 c).cps.all (· < 128) = true := by simp [chr1, hc]
  have e0 : ((chr1 c).length == 0) = false := rfl
  obtain ⟨hp, g, dr, tk, os⟩ := s
  repeat (any_goals (first | assumption | ((with_reducible show wpAny _ _ (Builtin.Str.tableLookup _ _) _ _ _); refine look_keep (c := c) hh hm hd hv fun h' tk k => ?_) | wp_step))
  exact h h' tk (tk + 1) k
end
end
-- part C5
section
open PySem PySem.W PyProof.Rows PySem.Calls
set_option maxRecDepth 100000
set_option maxHeartbeats 4000000
section
variable {prog : Program} {w : World} {A : Around} {env : Env} {m : Mem} {α β γ : Type}
variable {m₀ : Mem} {g : Heap} {own : Addr → Prop} {s₁ s : Shared} {Γ : List (Str × TP)} {Q : Flow → Shared → Prop}
theorem XB_brk {pos : Pos} {rest : List Stmt} (h : Q .brk s) : XB prog w A (.Break pos :: rest) env Q s := .cons fun E => wpAny_Break h
theorem joinOk1 {ys : List Str} (h : ∀ y ∈ ys, y.length ≤ 1) (hn : ys.length ≤ 1000) : JoinOk "" ys = true := by
  refine joinOk_of ?_
  have : (ys.map (·.length)).sum ≤ ys.length := by
    clear hn
    induction ys with
    | nil => exact Nat.le_refl _
    | cons y ys ih =>
      have h1 := h y (List.mem_cons_self ..)
      have h2 := ih fun z hz => h z (List.mem_cons_of_mem _ hz)
      simp only [List.map_cons, List.sum_cons, List.length_cons]
      omega
  have e : (("" : Str)).length = 0 := rfl
  rw [e]
  omega

theorem gi_enumT {x : Str} {np pos : Pos} {e : Expr} {a : Addr} {items : List Value} {n : Nat} {D : Nat → Value → Value → Prop} (hh : A.handled = none) (hf : Nm prog w m env x (.type "enumerate")) (ge : G prog w A m (eval e env) valR (.ref a))
    (ho : m a = some (seqO "tuple" items n)) (k : Le m s.heap.get?) (hown : ∀ b, own b → s.heap.get? b ≠ none) (ha : ¬ own a) (hD : ∀ i v t, items[i]? = some v → D i (.int i t) v)
    (hs : starEach [e] env = [(false, eval e env)]) (hd : (x == ("__debug__" : Str)) = false := by decide) :
    ∀ (Q' : Value → Shared → Prop) (E' : Value → Shared → Prop), (∀ I fp wr Pt St Mid h tk, Kp s.heap h → WalksU prog w A I fp wr items.length Pt St Mid → St 0 h → (∀ b ∈ fp, ¬ own b) → (∀ b ∈ wr, s.heap.get? b = none) →
      (∀ i vals, i < items.length → Pt i vals → ∃ v0 v1, vals = #[v0, v1] ∧ D i v0 v1) → Q' (.ref I) { s with heap := h, toks := tk }) →
      wpAny (model prog w) A (eval (.Call (.Name x np) [e] [] pos) env) (fun x s1 => wpAny (model prog w) A (pyIter x) Q' E' s1) E' s := by
  intro Q' E' hq
  refine Call_Name1 (wpAny_Name (hf A _ _ s k ?_) hd) hs
  refine PySem.callWith_type rfl (evalArgs_plain (spliced_cons (ge.run s k _ _ fun v h₁ tk k₁ r => spliced_nil ?_)))
  replace r : v = .ref a := r
  subst r
  have e1 := k₁ _ _ (k _ _ ho)
  refine call_enumT (s := { s with heap := h₁, toks := tk }) e1 fun h' he hit k' => ?_
  refine wpAny_pyIter_enum he ?_
  have hlt : a < h₁.objs.size := Heap.lt_size e1
  have hn0 : s.heap.get? h₁.objs.size = none := by
    cases q : s.heap.get? h₁.objs.size with
    | none => rfl
    | some o => exact absurd (Heap.lt_size (k₁ _ _ q)) (Nat.lt_irrefl _)
  have hn1 : s.heap.get? (h₁.objs.size + 1) = none := by
    cases q : s.heap.get? (h₁.objs.size + 1) with
    | none => rfl
    | some o => exact absurd (Heap.lt_size (k₁ _ _ q)) (Nat.not_lt_of_le (Nat.le_succ _))
  have W := WalksT.enumerateD (draws_tuple (prog := prog) (w := w) (A := A.in1) hh h₁.objs.size a (Nat.ne_of_lt hlt) items.toArray) (h₁.objs.size + 1) (Nat.succ_ne_self _) (by
    intro hm
    rcases List.mem_cons.mp hm with e | hm
    · exact Nat.succ_ne_self _ e
    · exact Nat.ne_of_gt (Nat.lt_succ_of_lt hlt) (List.mem_singleton.mp hm)) (by simp)
  have hsz : items.toArray.size = items.length := by simp
  rw [hsz] at W
  refine hq _ _ _ _ _ _ h' tk (k₁.trans k') W.toU ⟨⟨_, he⟩, hit, ⟨_, k' _ _ e1, rfl, n, rfl⟩⟩ ?_ ?_ ?_
  · intro b hb ho'
    rcases List.mem_cons.mp hb with rfl | hb
    · exact hown _ ho' hn1
    · rcases List.mem_cons.mp hb with rfl | hb
      · exact hown _ ho' hn0
      · rw [List.mem_singleton.mp hb] at ho'; exact ha ho'
  · intro b hb
    rcases List.mem_cons.mp hb with rfl | hb
    · exact hn1
    · rw [List.mem_singleton.mp hb]; exact hn0
  · rintro i vals hi ⟨t, y, hy, rfl⟩
    exact ⟨_, _, rfl, hD i y t (by simpa using hy)⟩

theorem gi_TT {e : Expr} {a : Addr} {bs : List Addr} {n : Nat} {D : Nat → Value → Value → Prop} (hh : A.handled = none) (ge : G prog w A m (eval e env) valR (.ref a))
    (ho : m a = some (seqO "tuple" (bs.map .ref) n)) (hb : ∀ i b, bs[i]? = some b → ∃ v0 v1 n, m b = some (seqO "tuple" [v0, v1] n) ∧ D i v0 v1) (k : Le m s.heap.get?) (hown : ∀ b, own b → s.heap.get? b ≠ none) (ha : ¬ own a) (hbo : ∀ b ∈ bs, ¬ own b) :
    ∀ (Q' : Value → Shared → Prop) (E' : Value → Shared → Prop), (∀ I fp wr Pt St Mid h tk, Kp s.heap h → WalksU prog w A I fp wr bs.length Pt St Mid → St 0 h → (∀ b ∈ fp, ¬ own b) → (∀ b ∈ wr, s.heap.get? b = none) →
      (∀ i vals, i < bs.length → Pt i vals → ∃ v0 v1, vals = #[v0, v1] ∧ D i v0 v1) → Q' (.ref I) { s with heap := h, toks := tk }) →
      wpAny (model prog w) A (eval e env) (fun x s1 => wpAny (model prog w) A (pyIter x) Q' E' s1) E' s := by
  intro Q' E' hq
  refine ge.run s k _ _ fun v h₁ tk k₁ r => ?_
  replace r : v = .ref a := r
  subst r
  have e1 := k₁ _ _ (k _ _ ho)
  have hlt : a < h₁.objs.size := Heap.lt_size e1
  have hn0 : s.heap.get? h₁.objs.size = none := by
    cases q : s.heap.get? h₁.objs.size with
    | none => rfl
    | some o => exact absurd (Heap.lt_size (k₁ _ _ q)) (Nat.lt_irrefl _)
  have hT : h₁.IsTuple a ((bs.map Value.ref).toArray) := ⟨_, e1, rfl, n, rfl⟩
  have hb' : ∀ i, i < bs.length → ∃ v0 v1 n, m (bs.getD i 0) = some (seqO "tuple" [v0, v1] n) ∧ D i v0 v1 := fun i hi => by
    refine hb i _ ?_
    rw [List.getD_eq_getElem?_getD, List.getElem?_eq_getElem hi]; rfl
  have W := walksTT (prog := prog) (w := w) hh h₁.objs.size a (Nat.ne_of_lt hlt) ((bs.map Value.ref).toArray) (fun i => bs.getD i 0) (fun i => match m (bs.getD i 0) with | some ⟨_, _, .seq xs _, _⟩ => xs | _ => #[]) (fun j hj => by
    have hj' : j < bs.length := by simpa using hj
    simp [hj']) (fun j hj => by
    have hj' : j < bs.length := by simpa using hj
    obtain ⟨v0, v1, n, e2, _⟩ := hb' j hj'
    exact Nat.ne_of_lt (Heap.lt_size (k₁ _ _ (k _ _ e2))))
  have hsz : (bs.map Value.ref).toArray.size = bs.length := by simp
  rw [hsz] at W
  refine wpAny_pyIter_tuple (s := { s with heap := h₁, toks := tk }) hT ?_
  refine hq _ _ _ _ _ _ _ tk (k₁.trans (Kp.push _ _)) W ⟨⟨_, Heap.get?_push_size _ rfl, rfl, rfl⟩, hT.push _, fun j hj => ?_⟩ ?_ ?_ ?_
  · have hj' : j < bs.length := by simpa using hj
    obtain ⟨v0, v1, n, e2, _⟩ := hb' j hj'
    simp only [e2]
    exact ⟨_, Heap.get?_push_of_some _ (k₁ _ _ (k _ _ e2)), rfl, n, rfl⟩
  · intro b hb ho'
    rcases List.mem_cons.mp hb with rfl | hb
    · exact hown _ ho' hn0
    · rcases List.mem_cons.mp hb with rfl | hb
      · exact ha ho'
      · obtain ⟨j, hj, rfl⟩ := List.mem_map.mp hb
        have hj' : j < bs.length := by simpa using hj
        refine hbo _ ?_ ho'
        rw [List.getD_eq_getElem?_getD, List.getElem?_eq_getElem hj']
        exact List.getElem_mem hj'
  · intro b hb
    rw [List.mem_singleton.mp hb]; exact hn0
  · rintro i vals hi rfl
    obtain ⟨v0, v1, n, e2, d⟩ := hb' i hi
    exact ⟨v0, v1, by rw [e2], d⟩
end
end
-- part C6
section
open PySem PySem.W PyProof.Rows PySem.Calls
set_option maxRecDepth 100000
set_option maxHeartbeats 4000000

def colA : List Addr := [111, 113, 115, 119, 121, 123, 127, 129, 131, 135]
def tab : Nat → List (Int × Str)
  | 0 => [(40960, "l"), (49152, "s"), (32768, "-"), (24576, "b"), (16384, "d"), (8192, "c"), (4096, "p")]
  | 1 => [(256, "r")]
  | 2 => [(128, "w")]
  | 3 => [(2112, "s"), (2048, "S"), (64, "x")]
  | 4 => [(32, "r")]
  | 5 => [(16, "w")]
  | 6 => [(1032, "s"), (1024, "S"), (8, "x")]
  | 7 => [(4, "r")]
  | 8 => [(2, "w")]
  | 9 => [(513, "t"), (512, "T"), (1, "x")]
  | _ => []
def colOk (w : World) (a : Addr) (xs : List (Int × Str)) : Prop :=
  ∃ (bs : List Addr) (n : Nat), (KK w).lookup a = some (seqO "tuple" (bs.map .ref) n) ∧ Paired (fun b (p : Int × Str) => ∃ t u n, (KK w).lookup b = some (seqO "tuple" [.int p.1 t, .str p.2 u] n)) bs xs
theorem tab_ok (w : World) : ∃ n, (KK w).lookup 136 = some (seqO "tuple" (colA.map .ref) n) := ⟨0, rfl⟩
theorem col0 (w : World) : colOk w 111 (tab 0) := by
  refine' ⟨[104, 105, 106, 107, 108, 109, 110], 0, rfl, ?_⟩
  refine' .cons ⟨?t104, ?u104, ?n104, ?h104⟩ ?_
  case h104 => rfl
  refine' .cons ⟨?t105, ?u105, ?n105, ?h105⟩ ?_
  case h105 => rfl
  refine' .cons ⟨?t106, ?u106, ?n106, ?h106⟩ ?_
  case h106 => rfl
  refine' .cons ⟨?t107, ?u107, ?n107, ?h107⟩ ?_
  case h107 => rfl
  refine' .cons ⟨?t108, ?u108, ?n108, ?h108⟩ ?_
  case h108 => rfl
  refine' .cons ⟨?t109, ?u109, ?n109, ?h109⟩ ?_
  case h109 => rfl
  refine' .cons ⟨?t110, ?u110, ?n110, ?h110⟩ ?_
  case h110 => rfl
  exact .nil
theorem col1 (w : World) : colOk w 113 (tab 1) := by
  refine' ⟨[112], 0, rfl, ?_⟩
  refine' .cons ⟨?t112, ?u112, ?n112, ?h112⟩ ?_
  case h112 => rfl
  exact .nil
theorem col2 (w : World) : colOk w 115 (tab 2) := by
  refine' ⟨[114], 0, rfl, ?_⟩
  refine' .cons ⟨?t114, ?u114, ?n114, ?h114⟩ ?_
  case h114 => rfl
  exact .nil
theorem col3 (w : World) : colOk w 119 (tab 3) := by
  refine' ⟨[116, 117, 118], 0, rfl, ?_⟩
  refine' .cons ⟨?t116, ?u116, ?n116, ?h116⟩ ?_
  case h116 => rfl
  refine' .cons ⟨?t117, ?u117, ?n117, ?h117⟩ ?_
  case h117 => rfl
  refine' .cons ⟨?t118, ?u118, ?n118, ?h118⟩ ?_
  case h118 => rfl
  exact .nil
theorem col4 (w : World) : colOk w 121 (tab 4) := by
  refine' ⟨[120], 0, rfl, ?_⟩
  refine' .cons ⟨?t120, ?u120, ?n120, ?h120⟩ ?_
  case h120 => rfl
  exact .nil
theorem col5 (w : World) : colOk w 123 (tab 5) := by
  refine' ⟨[122], 0, rfl, ?_⟩
  refine' .cons ⟨?t122, ?u122, ?n122, ?h122⟩ ?_
  case h122 => rfl
  exact .nil
theorem col6 (w : World) : colOk w 127 (tab 6) := by
  refine' ⟨[124, 125, 126], 0, rfl, ?_⟩
  refine' .cons ⟨?t124, ?u124, ?n124, ?h124⟩ ?_
  case h124 => rfl
  refine' .cons ⟨?t125, ?u125, ?n125, ?h125⟩ ?_
  case h125 => rfl
  refine' .cons ⟨?t126, ?u126, ?n126, ?h126⟩ ?_
  case h126 => rfl
  exact .nil
theorem col7 (w : World) : colOk w 129 (tab 7) := by
  refine' ⟨[128], 0, rfl, ?_⟩
  refine' .cons ⟨?t128, ?u128, ?n128, ?h128⟩ ?_
  case h128 => rfl
  exact .nil
theorem col8 (w : World) : colOk w 131 (tab 8) := by
  refine' ⟨[130], 0, rfl, ?_⟩
  refine' .cons ⟨?t130, ?u130, ?n130, ?h130⟩ ?_
  case h130 => rfl
  exact .nil
theorem col9 (w : World) : colOk w 135 (tab 9) := by
  refine' ⟨[132, 133, 134], 0, rfl, ?_⟩
  refine' .cons ⟨?t132, ?u132, ?n132, ?h132⟩ ?_
  case h132 => rfl
  refine' .cons ⟨?t133, ?u133, ?n133, ?h133⟩ ?_
  case h133 => rfl
  refine' .cons ⟨?t134, ?u134, ?n134, ?h134⟩ ?_
  case h134 => rfl
  exact .nil
theorem col_ok (w : World) : ∀ i, i < 10 → colOk w (colA.getD i 0) (tab i)
  | 0, _ => col0 w
  | 1, _ => col1 w
  | 2, _ => col2 w
  | 3, _ => col3 w
  | 4, _ => col4 w
  | 5, _ => col5 w
  | 6, _ => col6 w
  | 7, _ => col7 w
  | 8, _ => col8 w
  | 9, _ => col9 w
  | n + 10, h => absurd h (by omega)
def fmHit (k : Int) (i : Nat) (p : Int × Str) : Bool := if i = 0 then Builtin.bitAnd k 61440 == p.1 else Builtin.bitAnd k p.1 == p.1
def fmCh (k : Int) (i : Nat) : Str := match (tab i).find? (fmHit k i) with | some p => p.2 | none => if i = 0 then "?" else "-"
def fmL (k : Int) : List Str := (List.range 10).map (fmCh k)
def fmOf (k : Int) : Str := Txt.join "" (fmL k)
theorem tab_one : ∀ i, ∀ p ∈ tab i, p.2.length = 1 := by
  intro i
  match i with
  | 0 | 1 | 2 | 3 | 4 | 5 | 6 | 7 | 8 | 9 => decide
  | n + 10 => intro p hp; cases hp
theorem fmCh_one (k : Int) (i : Nat) : (fmCh k i).length = 1 := by
  unfold fmCh
  split
  · rename_i p e; exact tab_one i p (List.mem_of_find?_eq_some e)
  · split <;> rfl
theorem fmL_take {k : Int} {i : Nat} (h : i < 10) : (fmL k).take i ++ [fmCh k i] = (fmL k).take (i + 1) := by
  rw [List.take_add_one]
  have : (fmL k)[i]? = some (fmCh k i) := by simp [fmL, h]
  rw [this]; rfl
theorem fmL_len {k : Int} {i : Nat} : ((fmL k).take i).length ≤ sizeLine := by
  have h1 : ((fmL k).take i).length ≤ (fmL k).length := by rw [List.length_take]; omega
  have h2 : (fmL k).length = 10 := by simp [fmL]
  rw [sizeLine_eq]; omega
section
variable {prog : Program} {w : World} {A : Around} {env : Env} {m : Mem} {α β γ : Type}
variable {m₀ : Mem} {g : Heap} {own : Addr → Prop} {s₁ s : Shared} {Γ : List (Str × TP)} {Q : Flow → Shared → Prop}
theorem At.held {R : Rel α} {xs : List α} {p : Addr} (T : At m₀ g own s₁ s env Γ) (hO : ∀ b, own b → ownOf env b ∨ b = p) (L : Lst p R xs s.heap) : ∀ b, own b → s.heap.get? b ≠ none := fun b hb => by
  rcases hO b hb with h | rfl
  · exact T.there h
  · obtain ⟨vs, n, e, _⟩ := L
    rw [e]; exact fun q => nomatch q

theorem XB_forUL {x y : Str} {px py pt pos : Pos} {kt : Nat} {iter : Expr} {body orelse rest : List Stmt} {n : Nat} {P0 P1 : Nat → TP} {R : Rel α} {p : Addr} (Γi : List (Str × TP)) (xs ys : Nat → List α) (Ext Fin : Nat → Prop)
    (T : At m₀ g own s₁ s env Γ) (hh : A.handled = none) (hO : ∀ b, own b → ownOf env b ∨ b = p) (hp : own p) (hpe : ¬ ownOf env p) (hf : Free Γi) (hsub : ∀ q ∈ Γi, Γ.lookup q.1 = some q.2) (hR : FreeR R) (L : Lst p R (xs 0) s.heap) (e0 : Ext 0)
    (hx : env.kindOf x = some .local ∨ (env.kindOf x = some .cell ∧ (env.cells.lookup x).isSome = true)) (hy : env.kindOf y = some .local ∨ (env.kindOf y = some .cell ∧ (env.cells.lookup y).isSome = true))
    (gi : ∀ (Q' : Value → Shared → Prop) (E' : Value → Shared → Prop), (∀ I fp wr Pt St Mid h tk, Kp s.heap h → WalksU prog w A I fp wr n Pt St Mid → St 0 h → (∀ b ∈ fp, ¬ own b) → (∀ b ∈ wr, s.heap.get? b = none) →
      (∀ i vals, i < n → Pt i vals → ∃ v0 v1, vals = #[v0, v1] ∧ ∀ h, (P0 i).p h v0 ∧ (P1 i).p h v1) → Q' (.ref I) { s with heap := h, toks := tk }) → wpAny (model prog w) A (eval iter env) (fun x s1 => wpAny (model prog w) A (pyIter x) Q' E' s1) E' s)
    (turn : ∀ i s0 s', i < n → Ext i → At m₀ g own s0 s' env ((y, P1 i) :: (x, P0 i) :: Γi) → Lst p R (xs i) s'.heap →
      XB prog w A body env (fun f s'' => At m₀ g own s0 s'' env Γi ∧ match f with | .next => Ext (i + 1) ∧ Lst p R (xs (i + 1)) s''.heap | .brk => Fin i ∧ Lst p R (ys i) s''.heap | _ => False) s')
    (hend : ∀ s', At m₀ g own s₁ s' env Γi → Ext n → Lst p R (xs n) s'.heap → XB prog w A orelse env (Then prog w A rest env Q) s')
    (hbrk : ∀ i s', At m₀ g own s₁ s' env Γi → Fin i → Lst p R (ys i) s'.heap → XB prog w A rest env Q s')
    (hs : ∀ x, foldedSetIterable iter env x = pure x := by intro _; rfl) :
    XB prog w A (.For (.Tuple [.Name x px, .Name y py] kt pt) iter body orelse pos :: rest) env Q s := by
  refine XB_forU (own := own) (fun i v0 v1 => ∀ h, (P0 i).p h v0 ∧ (P1 i).p h v1) (fun i s' => Ext i ∧ At m₀ g own s s' env Γi ∧ Lst p R (xs i) s'.heap) (fun s' => ∃ i, Fin i ∧ At m₀ g own s s' env Γi ∧ Lst p R (ys i) s'.heap)
    gi ?_ ?_ ?_ ?_ ?_ hs
  · exact fun h tk k => ⟨e0, (T.here.sub hsub).grow k, L.keeps hR (k _)⟩
  · rintro i s' h tk ⟨e, T', L'⟩ st k
    refine ⟨e, T'.turn hf (fun b => ¬ (s.heap.get? b ≠ none ∨ own b)) (fun b o hb e => k b o (Classical.not_not.mp hb) e) (fun b hb ho => hb (.inr (T.mine b ho))) (fun b hb => ?_) (fun b hb => .inr ?_), L'.keeps hR fun o e => k p o (.inr hp) e⟩
    · cases q : g.get? b with
      | none => rfl
      | some o => exact absurd (.inl (by rw [T.kp _ _ q]; exact fun z => nomatch z)) hb
    · cases q : s.heap.get? b with
      | none => rfl
      | some o => exact absurd (.inl (by rw [q]; exact fun z => nomatch z)) hb
  · rintro i v0 v1 s' t E' hi hd ⟨e, T', L'⟩ ht
    refine T'.here.pair (P0 := P0 i) (P1 := P1 i) hh ht hx hy (hd _).1 (hd _).2 fun s2 T2 st2 => ?_
    have L2 : Lst p R (xs i) s2.heap := by
      obtain ⟨h, tk, rfl, out⟩ := st2
      exact L'.keeps hR fun o e => out p o hpe e
    refine wpAny_mono ((turn i s' s2 hi e T2 L2).run E') (fun f s3 hf => ?_) fun _ _ e => e
    obtain ⟨T3, hf⟩ := hf
    refine ⟨T3.stp, ?_⟩
    cases f with
    | next => exact ⟨hf.1, T'.back T3, hf.2⟩
    | brk => exact ⟨i, hf.1, T'.back T3, hf.2⟩
    | cont => exact hf.elim
    | ret v => exact hf.elim
  · rintro s' ⟨e, T', L'⟩
    exact hend s' (T.back T') e L'
  · rintro s' ⟨i, hF, T', L'⟩
    exact hbrk i s' (T.back T') hF L'
end
section
variable {prog : Program} {w : World} {A : Around} {m : Mem} {α : Type}

theorem F_filemode (g : Gr (KK w) m) {n : Nat} (rm : Rm A (n + 2)) {k : Int} {vs : List Value} (h : (AP.cons intR k .nil).p m vs) : G PP w A m (call (.ref 143) vs) strR (fmOf k) := by
  obtain ⟨v1, _, rfl, r1, rfl⟩ := h
  refine' call_fnB (ps := ["mode"]) (Γ := [("mode", intR.at k)]) (sc := ?sc) (body := ?body) (n := n + 1)
    ⟨⟨?oc, ?od, ?osl, ?fd, ?ho, ?hcd, ?hb, ?hsc, ?hcl, ?hgl, ?hbi, ?hbind⟩, ?hco, ?hgen, ?hk, ?hpar⟩ g rm rfl rfl (.cons r1 .nil) ?hnd ?h1
  case ho => rfl
  case hcd => rfl
  case hb => rfl
  case hsc => dsimp only
  case hcl => rfl
  case hgl => rfl
  case hbi => rfl
  case hco => rfl
  case hgen => rfl
  case hk => rfl
  case hnd => decide
  case hbind =>
    intro vals h
    match vals, h with
    | [a0], _ => rfl
  case hpar =>
    intro N
    repeat (first | exact List.forall_mem_nil _ | refine List.forall_mem_cons.mpr ⟨by first | exact .inl rfl | exact .inr ⟨rfl, rfl⟩, ?_⟩)
  case h1 =>
    intro L q' fn cd fr hp s₁ A' T r
    have D9 := D_fmt (w := w)
    obtain ⟨scF, bodyF, D9⟩ := D9
    have hm0 : Le m hp.get? := T.le
    refine XB_empty strR T T.kp (.inl rfl) rfl fun p s T hpe hpn L => ?_
    have hnew : ∀ b, (ownOf _ b ∨ b = p) → m b = none := fun b hb => by
      cases e : m b with
      | none => rfl
      | some o => have := hm0 _ _ e; rw [T.new b hb] at this; cases this
    obtain ⟨nT, hT⟩ := tab_ok w
    have hT' : m 136 = some (seqO "tuple" (colA.map .ref) nT) := g.kin _ _ hT
    have fr0 : Free [("perm", valR.at (.ref p)), ("mode", intR.at k)] := .rel free_val (.rel free_int .nil)
    refine XB_forUL (n := 10) (P0 := fun i => intR.at (i : Int)) (P1 := fun i => valR.at (.ref (colA.getD i 0))) (R := strR) [("perm", valR.at (.ref p)), ("mode", intR.at k)] (fun i => (fmL k).take i) (fun _ => []) (fun _ => True) (fun _ => False)
      T r.handled (fun b h => h) (.inr rfl) hpe fr0 (by intro q hq; simp only [List.mem_cons, List.not_mem_nil, or_false] at hq; rcases hq with rfl | rfl <;> rfl) free_str L trivial (.inl rfl) (.inl rfl)
      (gi_enumT (m := ext m hp s.heap) (items := colA.map .ref) r.handled ((g.keeps T.base).builtin rfl rfl rfl rfl rfl bb_enumerate (by decide)) (J_name ((g.keeps T.base).global rfl rfl rfl rfl) rfl) (T.base _ _ hT') T.low (T.held (fun b h => h) L) (fun ho => by rw [hnew _ ho] at hT'; cases hT') ?_ rfl) ?_ ?_ ?_
    · intro i v t hv h
      refine ⟨⟨t, rfl⟩, ?_⟩
      show v = _
      rw [List.getElem?_map] at hv
      cases e : colA[i]? with
      | none => rw [e] at hv; cases hv
      | some a =>
        rw [e] at hv
        cases hv
        rw [List.getD_eq_getElem?_getD, e]; rfl
    · intro i s0 s hi _ T L
      obtain ⟨bs, nb, hcol, hps⟩ := col_ok w i hi
      have hlen : bs.length = (tab i).length := hps.length
      have fr1 : Free [("table", valR.at (.ref (colA.getD i 0))), ("index", intR.at (i : Int)), ("perm", valR.at (.ref p)), ("mode", intR.at k)] := .rel free_val (.rel free_int fr0)
      have hcol' : m (colA.getD i 0) = some (seqO "tuple" (bs.map .ref) nb) := g.kin _ _ hcol
      refine XB_forUL (n := bs.length) (P0 := fun j => intR.at ((tab i).getD j (0, "")).1) (P1 := fun j => strR.at ((tab i).getD j (0, "")).2) (R := strR) [("table", valR.at (.ref (colA.getD i 0))), ("index", intR.at (i : Int)), ("perm", valR.at (.ref p)), ("mode", intR.at k)]
        (fun _ => (fmL k).take i) (fun _ => (fmL k).take (i + 1)) (fun j => ((tab i).take j).find? (fmHit k i) = none) (fun _ => True)
        T r.handled (fun b h => h) (.inr rfl) hpe fr1 (by intro q hq; simp only [List.mem_cons, List.not_mem_nil, or_false] at hq; rcases hq with rfl | rfl | rfl | rfl <;> rfl) free_str L rfl (.inl rfl) (.inl rfl)
        (gi_TT (m := ext m hp s.heap) (bs := bs) r.handled (J_var (T.var rfl)) (T.base _ _ hcol') (fun j b hb => ?_) T.low (T.held (fun b h => h) L) (fun ho => by rw [hnew _ ho] at hcol'; cases hcol') fun b hb ho => ?_) ?_ ?_ ?_
      · obtain ⟨pr, hpr, t, u, n, hk⟩ := paired_get' hps j b hb
        have e : (tab i).getD j (0, "") = pr := by rw [List.getD_eq_getElem?_getD, hpr]; rfl
        rw [e]
        exact ⟨_, _, n, T.base _ _ (g.kin _ _ hk), fun _ => ⟨⟨t, rfl⟩, ⟨u, rfl⟩⟩⟩
      · obtain ⟨j, hj, e⟩ := List.getElem_of_mem hb
        obtain ⟨pr, hpr, t, u, n, hk⟩ := paired_get' hps j b (by rw [List.getElem?_eq_getElem hj, e])
        have := g.kin _ _ hk
        rw [hnew _ ho] at this; cases this
      · intro j s0 s hj hE T L
        have hjt : j < (tab i).length := by omega
        have hpr : (tab i)[j]? = some ((tab i).getD j (0, "")) := by rw [List.getD_eq_getElem?_getD, List.getElem?_eq_getElem hjt]; rfl
        generalize (tab i).getD j (0, "") = pr at hpr T
        have hit : fmHit k i pr = true → (fmL k).take i ++ [pr.2] = (fmL k).take (i + 1) := fun h => by
          rw [← fmL_take hi]
          have : (tab i).find? (fmHit k i) = some pr := by
            rw [← List.take_append_drop j (tab i), List.find?_append, hE, List.drop_eq_getElem_cons hjt]
            rw [List.getElem?_eq_getElem hjt] at hpr
            cases hpr
            rw [List.find?_cons, h]; rfl
          unfold fmCh
          rw [this]
        have mis : fmHit k i pr = false → ((tab i).take (j + 1)).find? (fmHit k i) = none := fun h => by
          rw [List.take_add_one, hpr, List.find?_append, hE]
          simp [h]
        refine XB_if T (T_cmp (J_var (T.var rfl)) J_int fun _ _ _ _ => V_eqI) (fun eb s T kk1 => ?_) (fun eb s T kk1 => ?_)
        · have hi0 : i = 0 := by have : (i : Int) = 0 := eq_of_beq eb; omega
          refine XB_if T (T_cmp (J_fn D9 (g.keeps T.base) ((g.keeps T.base).global rfl rfl rfl rfl) (.cons (J_var (T.var rfl)) .nil) fun _ _ kk hv => F_fmt ((g.keeps T.base).keeps kk) r hv) (J_var (T.var rfl)) fun _ _ _ _ => V_eqI) (fun ec s T kk2 => ?_) (fun ec s T kk2 => ?_)
          · refine XB_append T (.rel free_str (.rel free_int fr1)) free_str (.inr rfl) hpe rfl (L.keeps free_str fun o e => kk2 _ _ (kk1 _ _ e)) fmL_len (J_var (T.var rfl)) fun s T L _ => XB_brk ?_
            refine And.intro (T.sub (by intro q hq; simp only [List.mem_cons, List.not_mem_nil, or_false] at hq; rcases hq with rfl | rfl | rfl | rfl <;> rfl)) ⟨trivial, ?_⟩
            rw [hit (by unfold fmHit; rw [if_pos hi0]; exact ec)] at L
            exact L
          · refine .nil (.nil (.nil (And.intro (T.sub (by intro q hq; simp only [List.mem_cons, List.not_mem_nil, or_false] at hq; rcases hq with rfl | rfl | rfl | rfl <;> rfl)) ⟨mis (by unfold fmHit; rw [if_pos hi0]; exact ec), L.keeps free_str fun o e => kk2 _ _ (kk1 _ _ e)⟩)))
        · have hi0 : i ≠ 0 := by intro e; rw [e] at eb; exact absurd eb (by decide)
          refine XB_if T (T_cmp (J_binop (J_var (T.var rfl)) (J_var (T.var rfl)) fun _ _ _ _ => V_and) (J_var (T.var rfl)) fun _ _ _ _ => V_eqI) (fun ec s T kk2 => ?_) (fun ec s T kk2 => ?_)
          · refine XB_append T (.rel free_str (.rel free_int fr1)) free_str (.inr rfl) hpe rfl (L.keeps free_str fun o e => kk2 _ _ (kk1 _ _ e)) fmL_len (J_var (T.var rfl)) fun s T L _ => XB_brk ?_
            refine And.intro (T.sub (by intro q hq; simp only [List.mem_cons, List.not_mem_nil, or_false] at hq; rcases hq with rfl | rfl | rfl | rfl <;> rfl)) ⟨trivial, ?_⟩
            rw [hit (by unfold fmHit; rw [if_neg hi0]; exact ec)] at L
            exact L
          · refine .nil (.nil (.nil (And.intro (T.sub (by intro q hq; simp only [List.mem_cons, List.not_mem_nil, or_false] at hq; rcases hq with rfl | rfl | rfl | rfl <;> rfl)) ⟨mis (by unfold fmHit; rw [if_neg hi0]; exact ec), L.keeps free_str fun o e => kk2 _ _ (kk1 _ _ e)⟩)))
      · intro s T hE L
        have hE' : (tab i).find? (fmHit k i) = none := by rw [List.take_of_length_le (by omega)] at hE; exact hE
        have hch : fmCh k i = (if i = 0 then ("?" : Str) else ("-" : Str)) := by unfold fmCh; simp [hE']
        refine XB_if T (T_cmp (J_var (T.var rfl)) J_int fun _ _ _ _ => V_eqI) (fun eb s T kk1 => ?_) (fun eb s T kk1 => ?_)
        · have hi0 : i = 0 := by have : (i : Int) = 0 := eq_of_beq eb; omega
          refine XB_append T fr1 free_str (.inr rfl) hpe rfl (L.keeps free_str fun o e => kk1 _ _ e) fmL_len J_str fun s T L _ => ?_
          refine .nil (.nil (.nil (And.intro (T.sub (by intro q hq; simp only [List.mem_cons, List.not_mem_nil, or_false] at hq; rcases hq with rfl | rfl <;> rfl)) ⟨trivial, ?_⟩)))
          rw [if_pos hi0] at hch
          rw [← hch, fmL_take hi] at L
          exact L
        · have hi0 : i ≠ 0 := by intro e; rw [e] at eb; exact absurd eb (by decide)
          refine XB_append T fr1 free_str (.inr rfl) hpe rfl (L.keeps free_str fun o e => kk1 _ _ e) fmL_len J_str fun s T L _ => ?_
          refine .nil (.nil (.nil (And.intro (T.sub (by intro q hq; simp only [List.mem_cons, List.not_mem_nil, or_false] at hq; rcases hq with rfl | rfl <;> rfl)) ⟨trivial, ?_⟩)))
          rw [if_neg hi0] at hch
          rw [← hch, fmL_take hi] at L
          exact L
      · intro j s T _ L
        exact .nil (And.intro (T.sub (by intro q hq; simp only [List.mem_cons, List.not_mem_nil, or_false] at hq; rcases hq with rfl | rfl <;> rfl)) ⟨trivial, L⟩)
    · intro s T _ L
      have e10 : (fmL k).take 10 = fmL k := List.take_of_length_le (by simp [fmL])
      rw [e10] at L
      obtain ⟨v, hn, hr⟩ := T.var (x := "perm") rfl
      replace hr : v = .ref p := hr
      subst hr
      refine XB.nil ?_
      show XB _ _ _ _ _ _ _
      refine XB_ret T (J_join (ys := fmL k) ?_ J_str (J_name (NmS.nm hn) (L.rel free_str (T.new _ (.inr rfl)))))
      refine joinOk1 (fun y hy => ?_) (by simp [fmL])
      obtain ⟨i, _, rfl⟩ := List.mem_map.mp hy
      rw [fmCh_one]; exact Nat.le_refl _
    · intro i s T h
      exact h.elim
end
end
-- part P2
section
open PySem PySem.W PyProof.Rows PySem.Calls
set_option maxRecDepth 100000
set_option maxHeartbeats 4000000

/-- the one sign of a text of one sign -/
def cpOf (x : Str) : Nat := x.cps.getD 0 0
theorem chr1_of {x : Str} (h : x.length = 1) : x = chr1 (cpOf x) := by
  obtain ⟨⟨l⟩⟩ := x
  match l, h with
  | [a], _ => rfl
theorem join_chr1 (cs : List Nat) : Txt.join "" (cs.map chr1) = ⟨cs.toArray⟩ := by
  show Builtin.Str.glued "" _ = _
  rw [PySem.StrLaws.glued_eq_join]
  exact join_nil_signs ⟨cs.toArray⟩
/-- the sign that filemode writes at place i -/
def fmC (k : Int) (i : Nat) : Nat := cpOf (fmCh k i)
theorem fmOf_codes (k : Int) : fmOf k = ⟨((List.range 10).map (fmC k)).toArray⟩ := by
  rw [fmOf, ← join_chr1, fmL, List.map_map]
  congr 1
  exact List.map_congr_left fun i _ => chr1_of (fmCh_one k i)
theorem fmOf_size (k : Int) : (fmOf k).cps.size = 10 := by
  rw [fmOf_codes]; simp

-- the signs of a row, by the kind and the bits
def e0 (K : Nat) : Nat := if K = 1 then 112 else if K = 2 then 99 else if K = 4 then 100 else if K = 6 then 98 else if K = 8 then 45 else if K = 10 then 108 else if K = 12 then 115 else 63
def er (b : Nat) : Nat := if b = 1 then 114 else 45
def ew (b : Nat) : Nat := if b = 1 then 119 else 45
def ex (x s : Nat) : Nat := if x = 1 then (if s = 1 then 115 else 120) else (if s = 1 then 83 else 45)
def et (x s : Nat) : Nat := if x = 1 then (if s = 1 then 116 else 120) else (if s = 1 then 84 else 45)
def rowK (K : Nat) (b : Nat → Nat) : List Nat := [e0 K, er (b 8), ew (b 7), ex (b 6) (b 11), er (b 5), ew (b 4), ex (b 3) (b 10), er (b 2), ew (b 1), et (b 0) (b 9)]

theorem and_pow (z j : Nat) : (z &&& 2 ^ j = 2 ^ j) ↔ z / 2 ^ j % 2 = 1 := by
  have e : z.testBit j = decide (z / 2 ^ j % 2 = 1) := Nat.testBit_eq_decide_div_mod_eq
  constructor
  · intro h
    have h2 : (z &&& 2 ^ j).testBit j = true := by rw [h]; exact Nat.testBit_two_pow_self
    rw [Nat.testBit_and, Nat.testBit_two_pow_self, Bool.and_true, e] at h2
    exact of_decide_eq_true h2
  · intro h
    refine Nat.eq_of_testBit_eq fun i => ?_
    rw [Nat.testBit_and]
    by_cases hi : j = i
    · subst hi
      rw [e, decide_eq_true h, Bool.true_and]
    · rw [Nat.testBit_two_pow_of_ne hi, Bool.and_false]
theorem and_or2 (z a b : Nat) : (z &&& (a ||| b) = a ||| b) ↔ (z &&& a = a ∧ z &&& b = b) := by
  constructor
  · intro h
    have ha : (a ||| b) &&& a = a := by
      refine Nat.eq_of_testBit_eq fun i => ?_
      rw [Nat.testBit_and, Nat.testBit_or]
      cases a.testBit i <;> cases b.testBit i <;> rfl
    have hb : (a ||| b) &&& b = b := by
      refine Nat.eq_of_testBit_eq fun i => ?_
      rw [Nat.testBit_and, Nat.testBit_or]
      cases a.testBit i <;> cases b.testBit i <;> rfl
    constructor
    · have : z &&& ((a ||| b) &&& a) = (a ||| b) &&& a := by rw [← Nat.and_assoc, h]
      rwa [ha] at this
    · have : z &&& ((a ||| b) &&& b) = (a ||| b) &&& b := by rw [← Nat.and_assoc, h]
      rwa [hb] at this
  · rintro ⟨h1, h2⟩
    rw [Nat.and_or_distrib_left, h1, h2]
theorem and_kind (z : Nat) (hz : z < 65536) : z &&& 61440 = z / 4096 * 4096 := by
  have h : z = 2 ^ 12 * (z / 4096) ||| (z % 4096) := by
    rw [← Nat.two_pow_add_eq_or_of_lt (by omega)]; omega
  have h0 : (z % 4096) &&& 61440 = 0 := by
    have e : z % 4096 = z &&& (2 ^ 12 - 1) := (Nat.and_two_pow_sub_one_eq_mod z 12).symm
    rw [e, Nat.and_assoc]
    have : (2 ^ 12 - 1) &&& 61440 = 0 := by decide
    rw [this, Nat.and_zero]
  have h1 : ∀ K : Fin 16, 2 ^ 12 * K.val &&& 61440 = K.val * 4096 := by decide
  have h2 := h1 ⟨z / 4096, by omega⟩
  conv => lhs; rw [h]
  rw [Nat.and_or_distrib_right, h0, Nat.or_zero]
  exact h2
theorem bitAnd_nat (z y : Nat) : Builtin.bitAnd (z : Int) (y : Int) = ((z &&& y : Nat) : Int) := by
  unfold Builtin.bitAnd
  have h1 : decide ((0 : Int) ≤ (z : Int)) = true := decide_eq_true (Int.natCast_nonneg z)
  have h2 : decide ((0 : Int) ≤ (y : Int)) = true := decide_eq_true (Int.natCast_nonneg y)
  rw [h1, h2]
  rfl
theorem hit_pow (z j : Nat) : (Builtin.bitAnd (z : Int) ((2 ^ j : Nat) : Int) == ((2 ^ j : Nat) : Int)) = decide (z / 2 ^ j % 2 = 1) := by
  rw [bitAnd_nat, Bool.eq_iff_iff, beq_iff_eq, decide_eq_true_iff, Int.natCast_inj]
  exact and_pow z j
theorem hit_two (z i j : Nat) : (Builtin.bitAnd (z : Int) ((2 ^ i ||| 2 ^ j : Nat) : Int) == ((2 ^ i ||| 2 ^ j : Nat) : Int)) = (decide (z / 2 ^ i % 2 = 1) && decide (z / 2 ^ j % 2 = 1)) := by
  rw [bitAnd_nat, Bool.eq_iff_iff, beq_iff_eq, Bool.and_eq_true, decide_eq_true_iff, decide_eq_true_iff, Int.natCast_inj, and_or2, and_pow, and_pow]

theorem fm_r (z i j : Nat) (c : String) (ht : tab i = [(((2 ^ j : Nat) : Int), Str.ofString c)]) (hi : i ≠ 0) : fmC (z : Int) i = if z / 2 ^ j % 2 = 1 then cpOf (Str.ofString c) else 45 := by
  unfold fmC fmCh
  rw [ht, List.find?_cons]
  have e : fmHit (z : Int) i (((2 ^ j : Nat) : Int), Str.ofString c) = decide (z / 2 ^ j % 2 = 1) := by
    unfold fmHit
    rw [if_neg hi]
    exact hit_pow z j
  rw [e]
  by_cases h : z / 2 ^ j % 2 = 1
  · simp [h]
  · simp [h, hi]; rfl
theorem fm_x (z i j k : Nat) (c d f : String) (ht : tab i = [(((2 ^ j ||| 2 ^ k : Nat) : Int), Str.ofString c), (((2 ^ k : Nat) : Int), Str.ofString d), (((2 ^ j : Nat) : Int), Str.ofString f)]) (hi : i ≠ 0) :
    fmC (z : Int) i = if z / 2 ^ j % 2 = 1 then (if z / 2 ^ k % 2 = 1 then cpOf (Str.ofString c) else cpOf (Str.ofString f)) else (if z / 2 ^ k % 2 = 1 then cpOf (Str.ofString d) else 45) := by
  unfold fmC fmCh
  have e1 : fmHit (z : Int) i (((2 ^ j ||| 2 ^ k : Nat) : Int), Str.ofString c) = (decide (z / 2 ^ j % 2 = 1) && decide (z / 2 ^ k % 2 = 1)) := by
    unfold fmHit
    rw [if_neg hi]
    exact hit_two z j k
  have e2 : fmHit (z : Int) i (((2 ^ k : Nat) : Int), Str.ofString d) = decide (z / 2 ^ k % 2 = 1) := by
    unfold fmHit
    rw [if_neg hi]
    exact hit_pow z k
  have e3 : fmHit (z : Int) i (((2 ^ j : Nat) : Int), Str.ofString f) = decide (z / 2 ^ j % 2 = 1) := by
    unfold fmHit
    rw [if_neg hi]
    exact hit_pow z j
  rw [ht, List.find?_cons, List.find?_cons, List.find?_cons, e1, e2, e3]
  by_cases h1 : z / 2 ^ j % 2 = 1 <;> by_cases h2 : z / 2 ^ k % 2 = 1 <;> simp [h1, h2, hi] <;> rfl
theorem fm_0 (z : Nat) (hz : z < 65536) : fmC (z : Int) 0 = e0 (z / 4096) := by
  unfold fmC fmCh
  have e : ∀ p : Int × Str, fmHit (z : Int) 0 p = (((z / 4096 * 4096 : Nat) : Int) == p.1) := fun p => by
    unfold fmHit
    rw [if_pos rfl]
    have := bitAnd_nat z 61440
    rw [and_kind z hz] at this
    rw [← this]; rfl
  have e' : fmHit (z : Int) 0 = fun p : Int × Str => (((z / 4096 * 4096 : Nat) : Int) == p.1) := funext e
  rw [e']
  have h : ∀ K : Fin 16, cpOf (match (tab 0).find? (fun p : Int × Str => (((K.val * 4096 : Nat) : Int) == p.1)) with | some p => p.2 | none => if 0 = 0 then "?" else "-") = e0 K.val := by decide
  exact h ⟨z / 4096, by omega⟩
theorem fm_row (z : Nat) (hz : z < 65536) : fmOf (z : Int) = ⟨(rowK (z / 4096) (fun j => z / 2 ^ j % 2)).toArray⟩ := by
  rw [fmOf_codes]
  congr 2
  show [fmC z 0, fmC z 1, fmC z 2, fmC z 3, fmC z 4, fmC z 5, fmC z 6, fmC z 7, fmC z 8, fmC z 9] = _
  rw [fm_0 z hz, fm_r z 1 8 "r" rfl (by decide), fm_r z 2 7 "w" rfl (by decide), fm_x z 3 6 11 "s" "S" "x" rfl (by decide), fm_r z 4 5 "r" rfl (by decide), fm_r z 5 4 "w" rfl (by decide),
    fm_x z 6 3 10 "s" "S" "x" rfl (by decide), fm_r z 7 2 "r" rfl (by decide), fm_r z 8 1 "w" rfl (by decide), fm_x z 9 0 9 "t" "T" "x" rfl (by decide)]
  rfl
end
-- part L14
section
open PySem PySem.W PyProof.Rows PySem.Calls
set_option maxRecDepth 100000
set_option maxHeartbeats 400000
/-- a str, or the one object S -/
def starR (S : Addr) : Rel (Option Str) := ⟨fun _ v o => match o with | none => v = .ref S | some x => ∃ t, v = .str x t, fun _ h => h⟩
theorem free_star {S : Addr} : FreeR (starR S) := ⟨fun _ _ _ _ h => h⟩
section
variable {prog : Program} {w : World} {A : Around} {E : Value → Shared → Prop} {s : Shared} {α β : Type} {env : Env} {m : Mem}
theorem two_le : 2 ≤ sizeLine := by rw [sizeLine_eq]; omega
theorem bb_object : bootBuiltins "object" = some (.type "object") := by decide +kernel
theorem bb_isinstance : bootBuiltins "isinstance" = some (.builtin "isinstance") := by decide +kernel
theorem bb_str : bootBuiltins "str" = some (.type "str") := by decide +kernel

theorem V_isNotStar {S : Addr} {v₁ v₂ : Value} {o : Option Str} (h1 : (starR S).r m v₁ o) (h2 : valR.r m v₂ (.ref S)) : G prog w A m (compareOp .IsNot v₁ v₂) boolR o.isSome := by
  replace h2 : v₂ = .ref S := h2
  subst h2
  refine G_of fun s k Q E hq => ?_
  cases o with
  | none =>
    replace h1 : v₁ = .ref S := h1
    subst h1
    exact wpAny_isNot_ref_self (hq _ s.toks rfl)
  | some x =>
    obtain ⟨t, rfl⟩ := h1
    exact wpAny_isNot_plain rfl (hq _ s.toks rfl)
theorem V_isStar {S : Addr} {v₁ v₂ : Value} {o : Option Str} (h1 : (starR S).r m v₁ o) (h2 : valR.r m v₂ (.ref S)) : G prog w A m (compareOp .Is v₁ v₂) boolR (!o.isSome) := by
  replace h2 : v₂ = .ref S := h2
  subst h2
  refine G_of fun s k Q E hq => ?_
  cases o with
  | none =>
    replace h1 : v₁ = .ref S := h1
    subst h1
    exact wpAny_is_ref_self (hq _ s.toks rfl)
  | some x =>
    obtain ⟨t, rfl⟩ := h1
    exact wpAny_is_plain rfl (hq _ s.toks rfl)
theorem T_not {x : Expr} {pos : Pos} {whole : Sem Value} {b : Bool} (g : GB prog w A m (isTrue x env (eval x env)) b) : GB prog w A m (isTrue (.UnaryOp .Not x pos) env whole) (!b) :=
  ⟨fun s k Q E hq => wpAny_isTrue_Not (g.run s k _ _ fun h' tk k' => hq h' tk k')⟩
/-- a list's own truth, by its name -/
theorem T_list {y : Str} {pos : Pos} {R : Rel α} {xs : List α} (g : G prog w A m (eval (.Name y pos) env) (listR R) xs) (hl : xs.length < 2 ^ 62) : GB prog w A m (isTrue (.Name y pos) env (eval (.Name y pos) env)) (!xs.isEmpty) :=
  ⟨fun s k Q E hq => by
    show wpAny _ A (do let v ← eval (.Name y pos) env; standAt pos; holding [v] (truthy v)) Q E s
    refine wpAny_bind (g.run s k _ _ fun v h' tk k' r => ?_)
    obtain ⟨a, vs, n, rfl, e, p⟩ := r
    refine wpAny_bind (wpAny_standAt (wpAny_holding ?_))
    have e' := ext_le k k' _ _ e
    have hn := Paired.length p
    refine wpAny_truthy_list (s := { s with heap := h', toks := tk }) (items := vs.toArray) ⟨_, e', rfl, n, rfl⟩ (by rw [List.size_toArray]; omega) ?_
    have : (!vs.toArray.isEmpty) = (!xs.isEmpty) := by
      cases vs with
      | nil => cases p; rfl
      | cons v vs => cases p; rfl
    rw [this]
    exact hq _ _ k'⟩
theorem T_call {f : Expr} {es : List Expr} {kws : List Keyword} {pos : Pos} {b : Bool} (g : G prog w A m (eval (.Call f es kws pos) env) boolR b) : GB prog w A m (isTrue (.Call f es kws pos) env (eval (.Call f es kws pos) env)) b :=
  ⟨fun s k Q E hq => by
    show wpAny _ A (do let v ← eval (.Call f es kws pos) env; standAt _; holding [v] (truthy v)) Q E s
    refine wpAny_bind (g.run s k _ _ fun v h' tk k' r => ?_)
    replace r : v = .bool b := r
    subst r
    exact wpAny_bind (wpAny_standAt (wpAny_holding (wpAny_truthy_bool (hq _ _ k'))))⟩
theorem J_neg {e : Expr} {pos : Pos} {i : Int} (g : G prog w A m (eval e env) intR i) : G prog w A m (eval (.UnaryOp .USub e pos) env) intR (-i) :=
  ⟨fun s k Q E hq => wpAny_UnaryOp (g.run s k _ _ fun v h' tk k' ⟨t, r⟩ => by
    subst r
    exact PyProof.Rows.neg_int (hq _ _ _ k' ⟨_, rfl⟩))⟩
theorem V_lastL {R : Rel α} {v i : Value} {xs : List α} {x : α} (hx : xs.getLast? = some x) (r : (listR R).r m v xs) (ri : intR.r m i (-1)) : G prog w A m (getItem v i) R x := by
  obtain ⟨l, vs, n, rfl, e₁, p₁⟩ := r
  obtain ⟨t, rfl⟩ := ri
  have hx' : xs[xs.length - 1]? = some x := by rw [← List.getLast?_eq_getElem?]; exact hx
  obtain ⟨u, hu, ru⟩ := paired_get p₁ _ _ hx'
  have hlt := (List.getElem?_eq_some_iff.mp hx').1
  have hn := Paired.length p₁
  refine G_of fun s k Q E hq => wpAny_getItem_list_neg (isList_of k e₁) (by decide) (by rw [List.size_toArray]; omega) (by decide) ?_ (hq u s.toks ru)
  rw [List.size_toArray, hn]
  have : (-1 + (xs.length : Int)).toNat = xs.length - 1 := by omega
  rw [this]
  simpa using hu
theorem J_lastL {value slice : Expr} {pos : Pos} {R : Rel α} {xs : List α} {x : α} (hx : xs.getLast? = some x) (hs : ∀ o i, subscripted slice false o i = operate [o, i] (getItem o i))
    (g1 : G prog w A m (eval value env) (listR R) xs) (g2 : G prog w A m (eval slice env) intR (-1)) : G prog w A m (eval (.Subscript value slice pos) env) R x :=
  J_sub g1 g2 type_list slot_list_getitem.lookup hs fun m' v₁ v₂ _ r₁ r₂ => V_lastL hx r₁ r₂
/-- x[i:j] of a text -/
theorem partInt {v : Value} {i : Option Int} (h : IsPart v i) : ∃ l : Option (Int × Tok), v = partValue l ∧ l.map (·.1) = i := by
  cases h with
  | none => exact ⟨none, rfl, rfl⟩
  | int i t => exact ⟨some (i, t), rfl, rfl⟩
theorem J_sliceS {value : Expr} {lo hi : Option Expr} {p pos : Pos} {x : Str} {i j : Option Int} (g1 : G prog w A m (eval value env) strR x) (gl : GP prog w A m lo env i) (gh : GP prog w A m hi env j) (hsz : x.length ≤ sizeLine)
    (ht : ∀ o r, letTemporaryGo value o r = pure () := by intro _ _; rfl) :
    G prog w A m (eval (.Subscript value (.Slice lo hi none p) pos) env) strR (Txt.slice x i j) := by
  refine ⟨fun s k Q E hq => ?_⟩
  refine wpAny_Subscript_str_slice (g1.run s k _ _ fun v h₁ tk₁ k₁ r₁ => gl.run _ (k.kp k₁) _ _ fun vl h₂ tk₂ k₂ pl => gh.run _ ((k.kp k₁).kp k₂) _ _ fun vh h₃ tk₃ k₃ ph => ?_) ht
  obtain ⟨t, rfl⟩ := r₁
  obtain ⟨l, rfl, rfl⟩ := partInt pl
  obtain ⟨u, rfl, rfl⟩ := partInt ph
  refine ⟨x, t, l, u, rfl, rfl, rfl, post_val_or_str ⟨Nat.le_trans (Txt.slice_le x _ _) hsz, fun t' tk => ?_⟩⟩
  exact hq _ _ tk ((k₁.trans (k₂.trans k₃)).trans (Kp.push _ _)) ⟨_, rfl⟩
/-- f'a{e}b' -/
theorem J_fstr3 {a b : Str} {ka kb : Nat} {pa pb pv pos : Pos} {e : Expr} {x : Str} (g : G prog w A m (eval e env) strR x) (hsz : a.length + x.length + b.length ≤ sizeLine) :
    G prog w A m (eval (.JoinedStr [.Constant (.str a) ka pa, .FormattedValue e (-1) none pv, .Constant (.str b) kb pb] pos) env) strR (a ++ x ++ b) := by
  have h1 : (Str.empty ++ a : Str) = a := by
    show (⟨#[] ++ a.cps⟩ : Str) = a
    simp
  have hl : ∀ y z : Str, (y ++ z).length = y.length + z.length := fun y z => Str.length_append y z
  refine ⟨fun s k Q E hq => JoinedStr_many (joinParts_cons (Constant_str ?_))⟩
  dsimp only
  rw [h1]
  refine ⟨by omega, joinParts_cons (FormattedValue_plain (g.run { s with toks := s.toks + 1 } k _ _ fun v h' tk k' r => ?_))⟩
  obtain ⟨t, rfl⟩ := r
  have fin : ∀ tk', (a ++ x).length ≤ sizeLine ∧ wpAny (model prog w) A (joinParts (a ++ x) (eval (.Constant (.str b) kb pb) env :: evalEach [] env)) Q E { s with heap := h', toks := tk' }   := fun tk' => by
    refine ⟨by rw [hl]; omega, joinParts_cons (Constant_str ?_)⟩
    exact ⟨by rw [hl, hl]; omega, joinParts_nil (hq _ _ _ k' ⟨_, rfl⟩) (by rw [hl, hl]; omega)⟩
  exact wpAny_formatField_str (fin _) (fin _) (by omega)
theorem C_isinstance {x : Str} {vs : List Value} (h : (AP.cons strR x (AP.cons valR (.type "str") .nil)).p m vs) : G prog w A m (call (.builtin "isinstance") vs) boolR true := by
  obtain ⟨v, _, rfl, ⟨t, rfl⟩, v2, _, rfl, h2, rfl⟩ := h
  replace h2 : v2 = .type "str" := h2
  subst h2
  exact G_of fun s k Q E hq => call_isinstance_yes (typeIs_str s x t) (by kernel_rfl) (by rw [isSubtype_type]; kernel_rfl) (hq _ s.toks rfl)

theorem C_translate {d : Addr} {f : Int → Option Value} {c : Nat} (hh : A.handled = none) (hm : ∀ h : Heap, Le m h.get? → h.MapOf (intKind prog w) d f) (hd : (d == sysModules) = false) (hc : c < 128) (hv : f c = none)
    {v : Value} {vs : List Value} (r : strR.r m v (chr1 c)) (h : (AP.cons valR (.ref d) .nil).p m vs) : G prog w A m (call (.builtin "str.translate") (v :: vs)) strR (chr1 c) := by
  obtain ⟨t, rfl⟩ := r
  obtain ⟨v2, _, rfl, h2, rfl⟩ := h
  replace h2 : v2 = .ref d := h2
  subst h2
  refine ⟨fun s k Q E hq => wpAny_call_entry PySem.F.slot_str_translate (typeIs_str s _ _) PySem.F.entry_str_translate (translate_keep (A := A.in1) hh (hm _ k) hd hc hv fun h' t tk k' => ⟨_, rfl, ?_⟩) (PySem.F.args_str_translate_2 _ _)⟩
  exact hq _ h' tk k' ⟨_, rfl⟩
variable {m₀ : Mem} {g : Heap} {own : Addr → Prop} {s₁ : Shared} {Γ : List (Str × TP)} {Q : Flow → Shared → Prop}
/-- y = object() -/
theorem XB_object {y x : Str} {p' np cp pos : Pos} {rest : List Stmt} (T : At m₀ g own s₁ s env Γ)
    (hy : env.kindOf y = some .local ∨ (env.kindOf y = some .cell ∧ (env.cells.lookup y).isSome = true)) (hf : Nm prog w (ext m₀ g s.heap) env x (.type "object"))
    (hq : ∀ S s', At m₀ g own s₁ s' env ((y, valR.at (.ref S)) :: Γ) → XB prog w A rest env Q s')
    (hs : swapsWith (.Call (.Name x np) [] [] cp) (some (.Name y p')) pos.line env = pure false := by rfl) (hd : (x == ("__debug__" : Str)) = false := by decide) :
    XB prog w A (.Assign [.Name y p'] (.Call (.Name x np) [] [] cp) pos :: rest) env Q s := by
  refine .cons fun E => wpAny_Assign_Name ?_ hs
  refine wpAny_Call_Name_kw (wpAny_Name (hf A _ _ s T.low ?_) hd)
  show wpAny _ A (callWith cp (.type "object") [] [] []) _ _ _
  refine callWith_type0 (env := env) (call_object ?_)
  have T' := T.grow (tk := s.toks) (Kp.push s.heap plainO)
  exact T'.store (P := valR.at (.ref s.heap.objs.size)) hy rfl fun s2 T2 _ _ => hq _ s2 T2
/-- assert t -/
theorem XB_assert {test : Expr} {msg : Option Expr} {pos : Pos} {rest : List Stmt} (T : At m₀ g own s₁ s env Γ) (gt : GB prog w A (ext m₀ g s.heap) (isTrue test env (eval test env)) true)
    (hq : ∀ s', At m₀ g own s₁ s' env Γ → Kp s.heap s'.heap → XB prog w A rest env Q s') : XB prog w A (.Assert test msg pos :: rest) env Q s :=
  .cons fun E => wpAny_Assert_holds (gt.run s T.low _ _ fun h' tk k => ⟨rfl, hq _ (T.grow k) k⟩)
/-- x, y = (a, b) -/
theorem XB_two {x y : Str} {px py pt pv pos : Pos} {k k' : Nat} {e₁ e₂ : Expr} {rest : List Stmt} {R₁ : Rel α} {R₂ : Rel β} {a : α} {b : β} (T : At m₀ g own s₁ s env Γ) (hh : A.handled = none)
    (hx : env.kindOf x = some .local) (hy : env.kindOf y = some .local)
    (g1 : G prog w A (ext m₀ g s.heap) (eval e₁ env) R₁ a) (g2 : G prog w A (ext m₀ g s.heap) (eval e₂ env) R₂ b)
    (hq : ∀ s', At m₀ g own s₁ s' env ((x, R₁.at a) :: (y, R₂.at b) :: Γ) → Stp (ownOf env) s s' → XB prog w A rest env Q s')
    (hw : swappedStores [.Tuple [.Name x px, .Name y py] k pt] (.Tuple [e₁, e₂] k' pv) env = pure (some [x, y])) 
    (hsw : swapsWithSole [.Tuple [.Name x px, .Name y py] k pt] (.Tuple [e₁, e₂] k' pv) pos.line env = pure false := by rfl)
    (h1 : starEach [e₁, e₂] env = (false, eval e₁ env) :: starEach [e₂] env := by rfl) (h2 : starEach [e₂] env = (false, eval e₂ env) :: starEach [] env := by rfl) :
    XB prog w A (.Assign [.Tuple [.Name x px, .Name y py] k pt] (.Tuple [e₁, e₂] k' pv) pos :: rest) env Q s := by
  refine .cons fun E => Assign_Tuple_swapped (names := [x, y]) ?_ hsw hw
  refine Tuple_ ((GA.cons g1 (GA.cons g2 GA.nil h2) h1).run s T.low _ _ fun vs h' tk kk r => ?_)
  obtain ⟨v1, _, rfl, r1, v2, _, rfl, r2, rfl⟩ := r
  refine wpAny_newObj_type ?_ (show ([v1, v2] : List Value).toArray.size ≤ sizeLine from two_le)
  have ht : (h'.push { cls := .type "tuple", data := .seq [v1, v2].toArray }).IsTuple h'.objs.size #[v1, v2] := ⟨_, Heap.get?_push_size _ rfl, rfl, 0, rfl⟩
  have U := fun Q hq => wpAny_unpackItems_tuple (prog := prog) (w := w) (A := A) (E := E) (s := { s with heap := h'.push { cls := .type "tuple", data := .seq [v1, v2].toArray }, toks := tk }) (t := h'.objs.size) (items := #[v1, v2]) (Q := Q) hh ht hq
  refine U _ fun h2 hx2 => ?_
  have k2 : Kp (h'.push { cls := .type "tuple", data := .seq [v1, v2].toArray }) h2 := fun b o e => hx2 b o (Nat.ne_of_lt (Heap.lt_size e)) e
  have k3 : Kp s.heap h2 := (kk.trans (Kp.push _ _)).trans k2
  have T' := T.grow (tk := tk) k3
  have e1 : R₁.r (ext m₀ g h2) v1 a := by rw [← ext_trans T.kp k3]; exact R₁.st (ext_mono ((Kp.push _ _).trans k2)).sq r1
  have e2 : R₂.r (ext m₀ g h2) v2 b := by rw [← ext_trans T.kp k3]; exact R₂.st (ext_mono ((Kp.push _ _).trans k2)).sq r2
  show wpAny _ A (do holding [v1] (bindName env y v2); do holding [] (bindName env x v1); pure ()) _ _ _
  refine wpAny_bind (wpAny_holding (wpAny_bindName (T'.store (P := R₂.at b) (.inl hy) e2 fun s2 T2 sq2 st2 => ?_)))
  refine wpAny_bind (wpAny_holding (wpAny_bindName (T2.store (P := R₁.at a) (.inl hx) (R₁.st sq2 e1) fun s3 T3 sq3 st3 => wpAny_pure (hq _ T3 ?_))))
  exact (Stp.ofKp (tk := tk) k3).trans (st2.trans st3)
end
end
-- part C7
section
open PySem PySem.W PyProof.Rows PySem.Calls
set_option maxRecDepth 100000
set_option maxHeartbeats 4000000

def escKeys : List Nat := [40, 41, 91, 93, 123, 125, 63, 42, 43, 45, 124, 94, 36, 92, 46, 38, 126, 35, 32, 9, 10, 13, 11, 12]
def escEs : Array DictEntry := (escKeys.zipIdx.map fun p => ⟨(p.1 : Int), .int (p.1 : Int) (370 + 6 * p.2), .str ⟨#[92, p.1]⟩ (374 + 6 * p.2)⟩).toArray
theorem esc_at (w : World) : (KK w).lookup 72 = some { cls := .type "dict", data := .dict escEs 24 } := by rfl
section
variable {prog : Program} {w : World} {A : Around} {m : Mem} {α : Type}
theorem esc_map (g : Gr (KK w) m) : ∀ h : Heap, Le m h.get? → h.MapOf (intKind prog w) 72 (fun k => findBy (intKind prog w).is escEs k) := fun h k => by
  refine ⟨_, escEs, 24, k _ _ (g.kin _ _ (esc_at w)), ⟨rfl, rfl, rfl⟩, rfl, fun e he => ?_, fun _ => rfl⟩
  have he' : e ∈ escKeys.zipIdx.map fun p => (⟨(p.1 : Int), .int (p.1 : Int) (370 + 6 * p.2), .str ⟨#[92, p.1]⟩ (374 + 6 * p.2)⟩ : DictEntry) := by simpa [escEs] using he
  obtain ⟨p, hp, rfl⟩ := List.mem_map.mp he'
  have hk : p.1 ∈ escKeys := List.fst_mem_of_mem_zipIdx hp
  refine ⟨(p.1 : Int), by simp [intKind, Value.isInt], ?_⟩
  show (p.1 : Int) = hashInt (p.1 : Int)
  have : ∀ k ∈ escKeys, (k : Int) = hashInt (k : Int) := by decide
  exact this _ hk

theorem XB_ret' {env : Env} {m₀ : Mem} {g : Heap} {own : Addr → Prop} {s₁ s : Shared} {Γ : List (Str × TP)} {Q : Flow → Shared → Prop} {e : Expr} {pos : Pos} {rest : List Stmt} {R : Rel α} {a : α} (T : At m₀ g own s₁ s env Γ) (ge : G prog w A (ext m₀ g s.heap) (eval e env) R a)
    (hQ : ∀ v s', Ret m₀ g s₁ R a (.ret v) s' → Q (.ret v) s') : XB prog w A (.Return (some e) pos :: rest) env Q s :=
  ⟨fun E => wpAny_mono ((XB_ret (rest := rest) (pos := pos) T ge).run E) (fun f s' h => by
    obtain ⟨v, rfl, r⟩ := h
    exact hQ v s' ⟨v, rfl, r⟩) fun _ _ e => e⟩
theorem F_escape (g : Gr (KK w) m) {n : Nat} (rm : Rm A (n + 1)) {c : Nat} (hc : c < 128) (hv : findBy (intKind PP w).is escEs c = none) {vs : List Value} (h : (AP.cons strR (chr1 c) .nil).p m vs) : G PP w A m (call (.ref 82) vs) strR (chr1 c) := by
  obtain ⟨v1, _, rfl, r1, rfl⟩ := h
  refine' call_fnB (ps := ["pattern"]) (Γ := [("pattern", strR.at (chr1 c))]) (sc := ?sc) (body := ?body) (n := n)
    ⟨⟨?oc, ?od, ?osl, ?fd, ?ho, ?hcd, ?hb, ?hsc, ?hcl, ?hgl, ?hbi, ?hbind⟩, ?hco, ?hgen, ?hk, ?hpar⟩ g rm rfl rfl (.cons r1 .nil) ?hnd ?h1
  case ho => rfl
  case hcd => rfl
  case hb => rfl
  case hsc => dsimp only
  case hcl => rfl
  case hgl => rfl
  case hbi => rfl
  case hco => rfl
  case hgen => rfl
  case hk => rfl
  case hnd => decide
  case hbind =>
    intro vals h
    match vals, h with
    | [a0], _ => rfl
  case hpar =>
    intro N
    repeat (first | exact List.forall_mem_nil _ | refine List.forall_mem_cons.mpr ⟨by first | exact .inl rfl | exact .inr ⟨rfl, rfl⟩, ?_⟩)
  case h1 =>
    intro L q' fn cd fr hp s₁ A' T r
    refine XB_if (b := true) T (T_call (J_bf ((g.keeps T.base).builtin rfl rfl rfl rfl rfl bb_isinstance (by decide)) (.cons (J_var (T.var rfl)) (.cons (J_name ((g.keeps T.base).builtin rfl rfl rfl rfl rfl bb_str (by decide)) rfl) .nil)) fun _ _ _ => C_isinstance (x := chr1 c))) (fun _ s T kk => ?_) (fun e => nomatch e)
    refine XB_ret' (R := strR) (a := chr1 c) T (J_meth (T := "str") (id := "str.translate") (J_var (T.var rfl)) typeM_str F.plainAttrs_str F.slot_str_translate F.type_str_translate (.cons (R := valR) (a := .ref 72) (J_name ((g.keeps T.base).global rfl rfl rfl rfl) rfl) .nil) (fun _ _ _ kk a b => C_translate r.handled (esc_map ((g.keeps T.base).keeps kk)) rfl hc hv a b) (by rfl) (by rfl)) fun _ _ h => h

def patOf (signs : List Str) : Str := if Txt.rstripChars (Txt.join "" signs) "?" == Txt.join "" signs then Txt.rstripChars (Txt.join "" signs) "?" else Txt.rstripChars (Txt.join "" signs) "?" ++ "*"
theorem F_pattern (g : Gr (KK w) m) {n : Nat} (rm : Rm A (n + 1)) {xs : List Str} (h1 : ∀ y ∈ xs, y.length ≤ 1) (h2 : xs.length ≤ 1000) (h3 : (Txt.rstripChars (Txt.join "" xs) "?").length ≤ 1000) {vs : List Value} (h : (AP.cons (listR strR) xs .nil).p m vs) :
    G PP w A m (call (.ref 164) vs) strR (patOf xs) := by
  obtain ⟨v1, _, rfl, r1, rfl⟩ := h
  have hj := joinOk1 h1 h2
  refine' call_fnB (ps := ["signs"]) (Γ := [("signs", (listR strR).at xs)]) (sc := ?sc) (body := ?body) (n := n)
    ⟨⟨?oc, ?od, ?osl, ?fd, ?ho, ?hcd, ?hb, ?hsc, ?hcl, ?hgl, ?hbi, ?hbind⟩, ?hco, ?hgen, ?hk, ?hpar⟩ g rm rfl rfl (.cons r1 .nil) ?hnd ?h1
  case ho => rfl
  case hcd => rfl
  case hb => rfl
  case hsc => dsimp only
  case hcl => rfl
  case hgl => rfl
  case hbi => rfl
  case hco => rfl
  case hgen => rfl
  case hk => rfl
  case hnd => decide
  case hbind =>
    intro vals h
    match vals, h with
    | [a0], _ => rfl
  case hpar =>
    intro N
    repeat (first | exact List.forall_mem_nil _ | refine List.forall_mem_cons.mpr ⟨by first | exact .inl rfl | exact .inr ⟨rfl, rfl⟩, ?_⟩)
  case h1 =>
    intro L q' fn cd fr hp s₁ A' T r
    refine XB_assign (R := strR) (a := Txt.join "" xs) T (.inl rfl) rfl (J_join hj J_str (J_var (T.var rfl))) fun s T => ?_
    refine XB_assign (R := strR) (a := Txt.rstripChars (Txt.join "" xs) "?") T (.inl rfl) rfl (J_rstrip (joinOk_length hj) (J_var (T.var rfl)) J_str) fun s T => ?_
    refine XB_ret T (J_ifexp (T_cmp (J_var (T.var rfl)) (J_var (T.var rfl)) fun _ _ _ _ => V_eqS) (fun e => ?_) (fun e => ?_))
    · exact (J_var (T.var rfl)).to (by unfold patOf; rw [if_pos e])
    · refine (J_binop (J_var (T.var rfl)) J_str fun _ _ _ _ => V_addS ?_).to (by unfold patOf; rw [if_neg (by rw [e]; decide)])
      rw [sizeLine_eq]
      have : (("*" : Str)).length = 1 := rfl
      omega
end
end
-- part C8
section
open PySem PySem.W PyProof.Rows PySem.Calls
set_option maxRecDepth 100000
set_option maxHeartbeats 4000000

def AtOf {env : Env} {m₀ : Mem} {g : Heap} {own : Addr → Prop} {s₁ s : Shared} {Γ : List (Str × TP)} (T : At m₀ g own s₁ s env Γ) (Γ' : List (Str × TP)) (s' : Shared) : Prop := At m₀ g own s₁ s' env Γ'
def trOne (c : Nat) : Option Str := some (if c = 63 then "." else chr1 c)
def trOf (b : List Nat) : List (Option Str) := b.map trOne ++ [none]
def Signs (b : List Nat) : Prop := ∀ c ∈ b, c = 63 ∨ c = 114 ∨ c = 119
section
variable {prog : Program} {w : World} {A : Around} {m : Mem} {α : Type}
section
variable {env : Env} {β γ : Type} {m₀ : Mem} {g : Heap} {own : Addr → Prop} {s₁ s : Shared} {Γ : List (Str × TP)} {Q : Flow → Shared → Prop}
theorem XB_assignK {y : Str} {p' pos : Pos} {e : Expr} {rest : List Stmt} {R : Rel α} {a : α} (T : At m₀ g own s₁ s env Γ)
    (hy : env.kindOf y = some .local ∨ (env.kindOf y = some .cell ∧ (env.cells.lookup y).isSome = true)) (hs : swapsWith e (some (.Name y p')) pos.line env = pure false)
    (ge : G prog w A (ext m₀ g s.heap) (eval e env) R a) (hq : ∀ s', At m₀ g own s₁ s' env ((y, R.at a) :: Γ) → (∀ b o, ¬ ownOf env b → s.heap.get? b = some o → s'.heap.get? b = some o) → XB prog w A rest env Q s') :
    XB prog w A (.Assign [.Name y p'] e pos :: rest) env Q s :=
  .cons fun E => wpAny_Assign_Name (T.run ge fun v s' T' k r => T'.store (P := R.at a) hy r fun s'' T'' sq st => hq s'' T'' (by
    obtain ⟨h, tk, rfl, out⟩ := st
    exact fun b o hb e => out b o hb (k _ _ e))) hs
theorem XB_augK {y : Str} {p' pos : Pos} {op : Operator} {e : Expr} {rest : List Stmt} {R₁ : Rel α} {R₂ : Rel β} {R : Rel γ} {a : α} {b : β} {c : γ} (T : At m₀ g own s₁ s env Γ)
    (hy : env.kindOf y = some .local ∨ (env.kindOf y = some .cell ∧ (env.cells.lookup y).isSome = true)) (hv : Γ.lookup y = some (R₁.at a)) (ge : G prog w A (ext m₀ g s.heap) (eval e env) R₂ b)
    (go : ∀ m' v₁ v₂, Le (ext m₀ g s.heap) m' → R₁.r m' v₁ a → R₂.r m' v₂ b → G prog w A m' (inplaceOp op v₁ v₂) R c)
    (hq : ∀ s', At m₀ g own s₁ s' env ((y, R.at c) :: Γ) → (∀ b o, ¬ ownOf env b → s.heap.get? b = some o → s'.heap.get? b = some o) → XB prog w A rest env Q s') : XB prog w A (.AugAssign (.Name y p') op e pos :: rest) env Q s :=
  .cons fun E => wpAny_AugAssign_Name (by
    obtain ⟨v, hn, hr⟩ := T.var hv
    refine (NmS.nm hn) A _ _ s T.low ?_
    refine ge.run s T.low _ _ fun v₂ h' tk k r₂ => ?_
    have T' := T.grow (tk := tk) k
    rw [ext_trans T.kp k] at r₂
    refine T'.run (go _ v v₂ (ext_mono k) (R₁.st (ext_mono k).sq hr) r₂) fun u s2 T2 k2 ru => ?_
    refine T2.store (P := R.at c) hy ru fun s3 T3 _ st => hq s3 T3 ?_
    obtain ⟨h, tk, rfl, out⟩ := st
    exact fun b o hb e => out b o hb (k2 _ _ (k _ _ e)))
end
theorem star_some {S : Addr} {t : Sem Value} {x : Str} (g : G prog w A m t strR x) : G prog w A m t (starR S) (some x) := g.weaken fun _ _ _ r => r
theorem esc_none {c : Nat} (h : c = 114 ∨ c = 119) : findBy (intKind PP w).is escEs c = none := by
  rcases h with rfl | rfl <;> rfl

theorem F_tr (g : Gr (KK w) m) {n : Nat} (rm : Rm A (n + 2)) {b : List Nat} {S : Addr} (hb : Signs b) (hl : b.length ≤ 1000) {vs : List Value} (h : (AP.cons strR ⟨(b ++ [42]).toArray⟩ (AP.cons valR (.ref S) (AP.cons strR "." .nil))).p m vs) :
    G PP w A m (call (.ref 89) vs) (listR (starR S)) (trOf b) := by
  obtain ⟨v1, _, rfl, r1, v2, _, rfl, r2, v3, _, rfl, r3, rfl⟩ := h
  refine' call_fnB (ps := ["pat", "STAR", "QUESTION_MARK"]) (Γ := [("pat", strR.at ⟨(b ++ [42]).toArray⟩), ("STAR", valR.at (.ref S)), ("QUESTION_MARK", strR.at ".")]) (sc := ?sc) (body := ?body) (n := n + 1)
    ⟨⟨?oc, ?od, ?osl, ?fd, ?ho, ?hcd, ?hb, ?hsc, ?hcl, ?hgl, ?hbi, ?hbind⟩, ?hco, ?hgen, ?hk, ?hpar⟩ g rm rfl rfl (.cons r1 (.cons r2 (.cons r3 .nil))) ?hnd ?h1
  case ho => rfl
  case hcd => rfl
  case hb => rfl
  case hsc => dsimp only
  case hcl => rfl
  case hgl => rfl
  case hbi => rfl
  case hco => rfl
  case hgen => rfl
  case hk => rfl
  case hnd => decide
  case hbind =>
    intro vals h
    match vals, h with
    | [a0, a1, a2], _ => rfl
  case hpar =>
    intro N
    repeat (first | exact List.forall_mem_nil _ | refine List.forall_mem_cons.mpr ⟨by first | exact .inl rfl | exact .inr ⟨rfl, rfl⟩, ?_⟩)
  case h1 =>
    intro L q' fn cd fr hp s₁ A' T r
    obtain ⟨scE, bodyE, DE⟩ := D_escape (w := w)
    have sl := sizeLine_eq
    have hlen : (trOf b).length = b.length + 1 := by simp [trOf]
    have hx : ((⟨(b ++ [42]).toArray⟩ : Str)).length = b.length + 1 := by show (b ++ [42]).toArray.size = _; simp
    have hN : ((b.length + 1 : Nat) : Int) = (b.length : Int) + 1 := by omega
    refine XB_empty (starR S) T T.kp (.inl rfl) rfl fun p s T hpe hpn L => ?_
    refine XB_bind T free_star hpe (T.held (fun b h => h) L) (.inl rfl) rfl L fun bm s T L hbm hbo => ?_
    have gr : Gr (KK w) (ext m hp s.heap) := g.keeps T.base
    refine XB_two (R₁ := intR) (R₂ := intR) (a := 0) (b := ((b.length + 1 : Nat) : Int)) T r.handled rfl rfl J_int (J_bf (gr.builtin rfl rfl rfl rfl rfl bb_len (by decide)) (.cons (J_var (T.var rfl)) .nil) fun _ _ _ h => hx ▸ C_lenS (x := ⟨(b ++ [42]).toArray⟩) (by rw [hx]; omega) h) (fun s T st => ?_) (by rfl)
    obtain ⟨h0, tk0, rfl, out0⟩ := st
    have L := L.keeps free_star fun o e => out0 p o hpe e
    have hbm := out0 bm _ (fun ho => hbo (.inl ho)) hbm
    let Gk : Nat → List (Str × TP) := fun k => [("i", intR.at (k : Int)), ("n", intR.at ((b.length + 1 : Nat) : Int)), ("add", valR.at (.ref bm)), ("res", valR.at (.ref p)), ("pat", strR.at ⟨(b ++ [42]).toArray⟩), ("STAR", valR.at (.ref S)), ("QUESTION_MARK", strR.at ".")]
    have frG : ∀ k, Free (Gk k) := fun k => .rel free_int (.rel free_int (.rel free_val (.rel free_val (.rel free_str (.rel free_val (.rel free_str .nil))))))
    refine XB_while (fun j s' => ∃ k, k ≤ b.length + 1 ∧ j = b.length + 1 - k ∧ AtOf T (Gk k) s' ∧ Lst p (starR S) ((trOf b).take k) s'.heap ∧ s'.heap.get? bm = some (bmO p)) (b.length + 1) ⟨0, Nat.zero_le _, by omega, T.sub (by intro q hq; simp only [Gk, List.mem_cons, List.not_mem_nil, or_false] at hq; rcases hq with rfl | rfl | rfl | rfl | rfl | rfl | rfl <;> rfl), L, hbm⟩ ?_
    rintro j s ⟨k, hk, rfl, T, L, hbm⟩
    replace T := show At _ _ _ _ _ _ _ from T
    refine ⟨decide ((k : Int) < ((b.length + 1 : Nat) : Int)), fun Q' E' hq => (T_cmp (J_var (T.var rfl)) (J_var (T.var rfl)) fun _ _ _ _ => V_ltI).run s T.low _ _ fun h' tk kk => hq _ (fun eb => ?_) (fun eb => ?_)⟩
    · have hkl : k < b.length + 1 := by have := of_decide_eq_true eb; omega
      have T := T.grow (tk := tk) kk
      have L := L.keeps free_star fun o e => kk p o e
      have hbm := kk bm _ hbm
      obtain ⟨c, hc⟩ : ∃ c, (b ++ [42])[k]? = some c := ⟨_, List.getElem?_eq_getElem (by simp; omega)⟩
      refine XB_assignK (R := strR) (a := chr1 c) T (.inl rfl) rfl (J_itemS (j := (k : Int)) (by omega) (by omega) (by simpa using hc) (fun _ _ => rfl) (J_var (T.var rfl)) (J_var (T.var rfl))) fun s T out => ?_
      have L := L.keeps free_star fun o e => out p o hpe e
      have hbm := out bm _ (fun ho => hbo (.inl ho)) hbm
      refine XB_assignK (R := intR) (a := ((k + 1 : Nat) : Int)) T (.inl rfl) rfl ((J_binop (J_var (T.var rfl)) J_int fun _ _ _ _ => V_add).to (by omega)) fun s T out => ?_
      have L := L.keeps free_star fun o e => out p o hpe e
      have hbm := out bm _ (fun ho => hbo (.inl ho)) hbm
      have frT : Free (("i", intR.at ((k + 1 : Nat) : Int)) :: ("c", strR.at (chr1 c)) :: Gk k) := .rel free_int (.rel free_str (frG k))
      have kend : ∀ (s' : Shared) (o : Option Str), At m hp _ s₁ s' _ (("i", intR.at ((k + 1 : Nat) : Int)) :: ("c", strR.at (chr1 c)) :: Gk k) → (trOf b)[k]? = some o → Lst p (starR S) ((trOf b).take k ++ [o]) s'.heap → s'.heap.get? bm = some (bmO p) →
          ∃ j, j < b.length + 1 - k ∧ ∃ k, k ≤ b.length + 1 ∧ j = b.length + 1 - k ∧ AtOf T (Gk k) s' ∧ Lst p (starR S) ((trOf b).take k) s'.heap ∧ s'.heap.get? bm = some (bmO p) := fun s' o T ho L hbm =>
        ⟨b.length + 1 - (k + 1), by omega, k + 1, by omega, rfl, T.sub (by intro q hq; simp only [Gk, List.mem_cons, List.not_mem_nil, or_false] at hq; rcases hq with rfl | rfl | rfl | rfl | rfl | rfl | rfl <;> rfl), by rw [List.take_add_one, ho]; exact L, hbm⟩
      have fl : ((trOf b).take k).length ≤ sizeLine := by rw [List.length_take]; omega
      have hcase : (k = b.length ∧ c = 42 ∧ (trOf b)[k]? = some none) ∨ (k < b.length ∧ (c = 63 ∨ c = 114 ∨ c = 119) ∧ (trOf b)[k]? = some (trOne c)) := by
        by_cases hkb : k < b.length
        · right
          rw [List.getElem?_append_left hkb] at hc
          refine ⟨hkb, hb c (List.mem_of_getElem? hc), ?_⟩
          rw [trOf, List.getElem?_append_left (by simpa using hkb), List.getElem?_map, hc]; rfl
        · left
          have : k = b.length := by omega
          subst this
          simp at hc
          exact ⟨rfl, hc.symm, by simp [trOf]⟩
      rcases hcase with ⟨hkb, rfl, ht⟩ | ⟨hkb, hcc, ht⟩
      · refine XB_if (b := true) T ((T_cmp (J_var (T.var rfl)) J_str fun _ _ _ _ => V_eqS).to (by rfl)) (fun _ s T kk => ?_) (fun e => nomatch e)
        have L := L.keeps free_star fun o e => kk p o e
        have hbm := kk bm _ hbm
        obtain ⟨vr, hnr, hr⟩ := T.var (x := "res") rfl
        replace hr : vr = .ref p := hr
        subst hr
        obtain ⟨vS, hnS, hrS⟩ := T.var (x := "STAR") rfl
        replace hrS : vS = .ref S := hrS
        subst hrS
        have rl := L.rel (m₀ := m) free_star (T.new p (.inr rfl))
        have htk : (trOf b).take k = b.map trOne := by rw [hkb, trOf, List.take_left' (by simp)]
        refine XB_if (b := true) T ((T_or2 (b₂ := true) (T_not (T_list (J_name (NmS.nm hnr) rl) (by omega))) fun e => ?_).to (by simp)) (fun _ s T kk => ?_) (fun e => nomatch e)
        · rw [htk] at rl e
          obtain ⟨y, hy⟩ : ∃ y, (b.map trOne).getLast? = some (some y) := by
            rcases List.eq_nil_or_concat b with rfl | ⟨b', c', rfl⟩
            · simp at e
            · exact ⟨_, by simp [trOne]; rfl⟩
          exact (T_cmp (J_lastL hy (fun _ _ => rfl) (J_name (NmS.nm hnr) rl) (J_neg J_int)) (J_var (T.var rfl)) fun _ _ _ _ => V_isNotStar).to rfl
        · have L := L.keeps free_star fun o e => kk p o e
          have hbm := kk bm _ hbm
          refine XB_add (a := none) T frT free_star (.inr rfl) hpe rfl hbm hbo L fl (J_name (NmS.nm (hnS.keeps (ext_mono kk))) rfl) fun s T L hbm => ?_
          exact .nil (.nil (.nil (kend s none T ht L hbm)))
      · refine XB_if (b := false) T ((T_cmp (J_var (T.var rfl)) J_str fun _ _ _ _ => V_eqS).to (by rcases hcc with rfl | rfl | rfl <;> rfl)) (fun e => nomatch e) (fun _ s T kk => ?_)
        have L := L.keeps free_star fun o e => kk p o e
        have hbm := kk bm _ hbm
        rcases hcc with rfl | hcc
        · refine XB_if (b := true) T ((T_cmp (J_var (T.var rfl)) J_str fun _ _ _ _ => V_eqS).to (by rfl)) (fun _ s T kk => ?_) (fun e => nomatch e)
          have L := L.keeps free_star fun o e => kk p o e
          have hbm := kk bm _ hbm
          refine XB_add (a := (some ("." : Str) : Option Str)) T frT free_star (.inr rfl) hpe rfl hbm hbo L fl (star_some (J_var (T.var rfl))) fun s T L hbm => ?_
          exact .nil (.nil (.nil (kend s _ T ht L hbm)))
        · refine XB_if (b := false) T ((T_cmp (J_var (T.var rfl)) J_str fun _ _ _ _ => V_eqS).to (by rcases hcc with rfl | rfl <;> rfl)) (fun e => nomatch e) (fun _ s T kk => ?_)
          have L := L.keeps free_star fun o e => kk p o e
          have hbm := kk bm _ hbm
          refine XB_if (b := false) T ((T_cmp (J_var (T.var rfl)) J_str fun _ _ _ _ => V_eqS).to (by rcases hcc with rfl | rfl <;> rfl)) (fun e => nomatch e) (fun _ s T kk => ?_)
          have L := L.keeps free_star fun o e => kk p o e
          have hbm := kk bm _ hbm
          have h63 : trOne c = some (chr1 c) := by rcases hcc with rfl | rfl <;> rfl
          refine XB_add (a := some (chr1 c)) T frT free_star (.inr rfl) hpe rfl hbm hbo L fl (star_some (J_fn DE (g.keeps T.base) ((g.keeps T.base).global rfl rfl rfl rfl) (.cons (J_var (T.var rfl)) .nil) fun _ _ kk hv => F_escape ((g.keeps T.base).keeps kk) r (by omega) (esc_none hcc) hv)) fun s T L hbm => ?_
          exact .nil (.nil (.nil (.nil (kend s _ T (h63 ▸ ht) L hbm))))
    · have hkl : k = b.length + 1 := by have := of_decide_eq_false eb; omega
      have T := T.grow (tk := tk) kk
      have L := L.keeps free_star fun o e => kk p o e
      subst hkl
      refine XB.nil ?_
      show XB _ _ _ _ _ _ _
      refine XB_assert T ((T_cmp (J_var (T.var rfl)) (J_var (T.var rfl)) fun _ _ _ _ => V_eqI).to (by simp)) fun s T kk => ?_
      have L := L.keeps free_star fun o e => kk p o e
      obtain ⟨vr, hnr, hr⟩ := T.var (x := "res") rfl
      replace hr : vr = .ref p := hr
      subst hr
      rw [List.take_of_length_le (by omega)] at L
      exact XB_ret T (J_name (NmS.nm hnr) (L.rel free_star (T.new p (.inr rfl))))
end
end
-- part C9
section
open PySem PySem.W PyProof.Rows PySem.Calls
set_option maxRecDepth 100000
set_option maxHeartbeats 4000000

def trStr (c : Nat) : Str := if c = 63 then "." else chr1 c
theorem trOne_str (c : Nat) : trOne c = some (trStr c) := rfl
theorem trStr_len (c : Nat) : (trStr c).length = 1 := by unfold trStr; split <;> rfl
def jnOf (b : List Nat) : Str := "(?s:" ++ Txt.join "" (b.map trStr ++ [(".*" : Str)]) ++ ")\\Z"
theorem joinOk2 {ys : List Str} (h : ∀ y ∈ ys, y.length ≤ 2) (hn : ys.length ≤ 10000) : JoinOk "" ys = true ∧ (Txt.join "" ys).length ≤ 20000 := by
  have hs : (ys.map (·.length)).sum ≤ 2 * ys.length := by
    clear hn
    induction ys with
    | nil => exact Nat.le_refl _
    | cons y ys ih =>
      have h1 := h y (List.mem_cons_self ..)
      have h2 := ih fun z hz => h z (List.mem_cons_of_mem _ hz)
      simp only [List.map_cons, List.sum_cons, List.length_cons]
      omega
  have e : (("" : Str)).length = 0 := rfl
  refine ⟨joinOk_of (by rw [e]; omega), ?_⟩
  have h3 := StrLaws.join_length_le "" ys
  rw [e] at h3
  show (Builtin.Str.glued "" ys).length ≤ _
  rw [StrLaws.glued_eq_join]
  omega
section
variable {prog : Program} {w : World} {A : Around} {m : Mem} {α : Type}
theorem F_joinp (g : Gr (KK w) m) {n : Nat} (rm : Rm A (n + 1)) {b : List Nat} {S : Addr} (hl : b.length ≤ 1000) {vs : List Value} (h : (AP.cons (listR (starR S)) (trOf b) (AP.cons valR (.ref S) .nil)).p m vs) :
    G PP w A m (call (.ref 96) vs) strR (jnOf b) := by
  obtain ⟨v1, _, rfl, r1, v2, _, rfl, r2, rfl⟩ := h
  refine' call_fnB (ps := ["inp", "STAR"]) (Γ := [("inp", valR.at v1), ("STAR", valR.at (.ref S))]) (sc := ?sc) (body := ?body) (n := n)
    ⟨⟨?oc, ?od, ?osl, ?fd, ?ho, ?hcd, ?hb, ?hsc, ?hcl, ?hgl, ?hbi, ?hbind⟩, ?hco, ?hgen, ?hk, ?hpar⟩ g rm rfl rfl (.cons rfl (.cons r2 .nil)) ?hnd ?h1
  case ho => rfl
  case hcd => rfl
  case hb => rfl
  case hsc => dsimp only
  case hcl => rfl
  case hgl => rfl
  case hbi => rfl
  case hco => rfl
  case hgen => rfl
  case hk => rfl
  case hnd => decide
  case hbind =>
    intro vals h
    match vals, h with
    | [a0, a1], _ => rfl
  case hpar =>
    intro N
    repeat (first | exact List.forall_mem_nil _ | refine List.forall_mem_cons.mpr ⟨by first | exact .inl rfl | exact .inr ⟨rfl, rfl⟩, ?_⟩)
  case h1 =>
    intro L q' fn cd fr hp s₁ A' T r
    have sl := sizeLine_eq
    have hlen : (trOf b).length = b.length + 1 := by simp [trOf]
    have hm0 : Le m hp.get? := T.le
    refine XB_empty strR T T.kp (.inl rfl) rfl fun p s T hpe hpn L => ?_
    refine XB_bind T free_str hpe (T.held (fun b h => h) L) (.inl rfl) rfl L fun bm s T L hbm hbo => ?_
    have gr : Gr (KK w) (ext m hp s.heap) := g.keeps T.base
    have inp : ∀ (s : Shared) (v : Value), v = v1 → (listR (starR S)).r (ext m hp s.heap) v (trOf b) := fun s v e => e ▸ (listR (starR S)).st (le_ext hm0).sq r1
    obtain ⟨vi, hni, hri⟩ := T.var (x := "inp") rfl
    refine XB_two (R₁ := intR) (R₂ := intR) (a := 0) (b := ((b.length + 1 : Nat) : Int)) T r.handled rfl rfl J_int (J_bf (gr.builtin rfl rfl rfl rfl rfl bb_len (by decide)) (.cons (J_name (NmS.nm hni) (inp s vi hri)) .nil) fun _ _ _ h => hlen ▸ C_lenL (xs := trOf b) (by omega) h) (fun s T st => ?_) (by rfl)
    obtain ⟨h0, tk0, rfl, out0⟩ := st
    have L := L.keeps free_str fun o e => out0 p o hpe e
    have hbm := out0 bm _ (fun ho => hbo (.inl ho)) hbm
    let Gk : Nat → List (Str × TP) := fun k => [("i", intR.at (k : Int)), ("n", intR.at ((b.length + 1 : Nat) : Int)), ("add", valR.at (.ref bm)), ("res", valR.at (.ref p)), ("inp", valR.at v1), ("STAR", valR.at (.ref S))]
    have frG : ∀ k, Free (Gk k) := fun k => .rel free_int (.rel free_int (.rel free_val (.rel free_val (.rel free_val (.rel free_val .nil)))))
    refine XB_while (fun j s' => ∃ k, k ≤ b.length ∧ j = b.length - k ∧ AtOf T (Gk k) s' ∧ Lst p strR ((b.map trStr).take k) s'.heap ∧ s'.heap.get? bm = some (bmO p)) b.length ⟨0, Nat.zero_le _, by omega, T.sub (by intro q hq; simp only [Gk, List.mem_cons, List.not_mem_nil, or_false] at hq; rcases hq with rfl | rfl | rfl | rfl | rfl | rfl <;> rfl), L, hbm⟩ ?_
    rintro j s ⟨k, hk, rfl, T, L, hbm⟩
    replace T := show At _ _ _ _ _ _ _ from T
    obtain ⟨o, ho, hoS⟩ : ∃ o, (trOf b)[k]? = some o ∧ (o.isSome = decide (k < b.length)) := by
      by_cases hkb : k < b.length
      · refine ⟨trOne b[k], ?_, by simp [trOne, hkb]⟩
        rw [trOf, List.getElem?_append_left (by simpa using hkb), List.getElem?_map, List.getElem?_eq_getElem hkb]; rfl
      · have : k = b.length := by omega
        subst this
        exact ⟨none, by simp [trOf], by simp⟩
    obtain ⟨vi, hni, hri⟩ := T.var (x := "inp") rfl
    refine ⟨decide (k < b.length), fun Q' E' hq => ((T_and2 (b₁ := true) (b₂ := decide (k < b.length)) ((T_cmp (J_var (T.var rfl)) (J_var (T.var rfl)) fun _ _ _ _ => V_ltI).to (by simp; omega)) fun _ => (T_cmp (J_itemL (j := (k : Int)) (by omega) (by omega) (by simpa using ho) (fun _ _ => rfl) (J_name (NmS.nm hni) (inp s vi hri)) (J_var (T.var rfl))) (J_var (T.var rfl)) fun _ _ _ _ => V_isNotStar).to hoS).to (by simp)).run s T.low _ _ fun h' tk kk => hq _ (fun eb => ?_) (fun eb => ?_)⟩
    · have hkl : k < b.length := of_decide_eq_true eb
      have T := T.grow (tk := tk) kk
      have L := L.keeps free_str fun o e => kk p o e
      have hbm := kk bm _ hbm
      have ho' : o = some (trStr b[k]) := by
        rw [trOf, List.getElem?_append_left (by simpa using hkl), List.getElem?_map, List.getElem?_eq_getElem hkl] at ho
        cases ho; rfl
      subst ho'
      obtain ⟨vi, hni, hri⟩ := T.var (x := "inp") rfl
      refine XB_add (a := trStr b[k]) T (frG k) free_str (.inr rfl) hpe rfl hbm hbo L (by rw [List.length_take]; omega) ((J_itemL (R := starR S) (x := some (trStr b[k])) (j := (k : Int)) (by omega) (by omega) (by simpa using ho) (fun _ _ => rfl) (J_name (NmS.nm hni) (inp _ vi hri)) (J_var (T.var rfl))).weaken fun _ _ _ r => r) fun s T L hbm => ?_
      refine XB_augK (R := intR) (R₁ := intR) (R₂ := intR) (c := ((k + 1 : Nat) : Int)) T (.inl rfl) rfl J_int (fun _ _ _ _ a b => (U_add a b).to (by omega)) fun s T out => ?_
      have L := L.keeps free_str fun o e => out p o hpe e
      have hbm := out bm _ (fun ho => hbo (.inl ho)) hbm
      refine .nil ⟨b.length - (k + 1), by omega, k + 1, by omega, rfl, T.sub (by intro q hq; simp only [Gk, List.mem_cons, List.not_mem_nil, or_false] at hq; rcases hq with rfl | rfl | rfl | rfl | rfl | rfl <;> rfl), ?_, hbm⟩
      rw [List.take_add_one, List.getElem?_map, List.getElem?_eq_getElem hkl]
      exact L
    · have hkl : k = b.length := by have := of_decide_eq_false eb; omega
      have T := T.grow (tk := tk) kk
      have L := L.keeps free_str fun o e => kk p o e
      have hbm := kk bm _ hbm
      subst hkl
      have hn : o = none := by simpa using hoS
      subst hn
      refine XB.nil ?_
      show XB _ _ _ _ _ _ _
      refine XB_while (fun j s' => j = 1 ∧ AtOf T (Gk b.length) s' ∧ Lst p strR ((b.map trStr).take b.length) s'.heap ∧ s'.heap.get? bm = some (bmO p)) 1 ⟨rfl, T, L, hbm⟩ ?_
      rintro j s ⟨rfl, T, L, hbm⟩
      replace T := show At _ _ _ _ _ _ _ from T
      refine ⟨true, fun Q' E' hq => ((T_cmp (J_var (T.var rfl)) (J_var (T.var rfl)) fun _ _ _ _ => V_ltI).to (by simp; omega)).run s T.low _ _ fun h' tk kk => hq _ (fun _ => ?_) (fun e => nomatch e)⟩
      have T := T.grow (tk := tk) kk
      have L := L.keeps free_str fun o e => kk p o e
      have hbm := kk bm _ hbm
      obtain ⟨vi, hni, hri⟩ := T.var (x := "inp") rfl
      refine XB_assert T ((T_cmp (J_itemL (j := (b.length : Int)) (by omega) (by omega) (by simpa using ho) (fun _ _ => rfl) (J_name (NmS.nm hni) (inp _ vi hri)) (J_var (T.var rfl))) (J_var (T.var rfl)) fun _ _ _ _ => V_isStar).to rfl) fun s T kk => ?_
      have L := L.keeps free_str fun o e => kk p o e
      have hbm := kk bm _ hbm
      refine XB_augK (R := intR) (R₁ := intR) (R₂ := intR) (c := ((b.length + 1 : Nat) : Int)) T (.inl rfl) rfl J_int (fun _ _ _ _ a b => (U_add a b).to (by omega)) fun s T out => ?_
      have L := L.keeps free_str fun o e => out p o hpe e
      have hbm := out bm _ (fun ho => hbo (.inl ho)) hbm
      refine XB_if (b := true) T ((T_cmp (J_var (T.var rfl)) (J_var (T.var rfl)) fun _ _ _ _ => V_eqI).to (by simp)) (fun _ s T kk => ?_) (fun e => nomatch e)
      have L := L.keeps free_str fun o e => kk p o e
      have hbm := kk bm _ hbm
      refine XB_add (a := (".*" : Str)) T (.rel free_int (frG _)) free_str (.inr rfl) hpe rfl hbm hbo L (by rw [List.length_take]; omega) J_str fun s T L hbm => XB_brk ?_
      show XB _ _ _ _ _ _ _
      refine XB_assert T ((T_cmp (J_var (T.var rfl)) (J_var (T.var rfl)) fun _ _ _ _ => V_eqI).to (by simp)) fun s T kk => ?_
      have L := L.keeps free_str fun o e => kk p o e
      rw [List.take_of_length_le (by simp)] at L
      obtain ⟨vr, hnr, hr⟩ := T.var (x := "res") rfl
      replace hr : vr = .ref p := hr
      subst hr
      have J2 := joinOk2 (ys := b.map trStr ++ [(".*" : Str)]) (fun y hy => by
        rcases List.mem_append.mp hy with hy | hy
        · obtain ⟨c, _, rfl⟩ := List.mem_map.mp hy
          rw [trStr_len]; omega
        · rw [List.mem_singleton.mp hy]; exact Nat.le_refl 2) (by rw [List.length_append, List.length_map, List.length_singleton]; omega)
      refine XB_assign (R := strR) (a := Txt.join "" (b.map trStr ++ [(".*" : Str)])) T (.inl rfl) rfl (J_join J2.1 J_str (J_name (NmS.nm hnr) (L.rel free_str (T.new p (.inr rfl))))) fun s T => ?_
      refine XB_ret T (J_fstr3 (J_var (T.var rfl)) ?_)
      have e1 : (("(?s:" : Str)).length = 4 := rfl
      have e2 : ((")\\Z" : Str)).length = 3 := rfl
      omega
end
end
-- part C10
section
open PySem PySem.W PyProof.Rows PySem.Calls
set_option maxRecDepth 100000
set_option maxHeartbeats 4000000

section
variable {prog : Program} {w : World} {A : Around} {m : Mem} {α : Type}
theorem F_translate (g : Gr (KK w) m) {n : Nat} (rm : Rm A (n + 3)) {b : List Nat} (hb : Signs b) (hl : b.length ≤ 1000) {vs : List Value} (h : (AP.cons strR ⟨(b ++ [42]).toArray⟩ .nil).p m vs) :
    G PP w A m (call (.ref 70) vs) strR (jnOf b) := by
  obtain ⟨v1, _, rfl, r1, rfl⟩ := h
  refine' call_fnB (ps := ["pat"]) (Γ := [("pat", strR.at ⟨(b ++ [42]).toArray⟩)]) (sc := ?sc) (body := ?body) (n := n + 2)
    ⟨⟨?oc, ?od, ?osl, ?fd, ?ho, ?hcd, ?hb, ?hsc, ?hcl, ?hgl, ?hbi, ?hbind⟩, ?hco, ?hgen, ?hk, ?hpar⟩ g rm rfl rfl (.cons r1 .nil) ?hnd ?h1
  case ho => rfl
  case hcd => rfl
  case hb => rfl
  case hsc => dsimp only
  case hcl => rfl
  case hgl => rfl
  case hbi => rfl
  case hco => rfl
  case hgen => rfl
  case hk => rfl
  case hnd => decide
  case hbind =>
    intro vals h
    match vals, h with
    | [a0], _ => rfl
  case hpar =>
    intro N
    repeat (first | exact List.forall_mem_nil _ | refine List.forall_mem_cons.mpr ⟨by first | exact .inl rfl | exact .inr ⟨rfl, rfl⟩, ?_⟩)
  case h1 =>
    intro L q' fn cd fr hp s₁ A' T r
    obtain ⟨sc1, body1, D1⟩ := D_tr (w := w)
    obtain ⟨sc2, body2, D2⟩ := D_joinp (w := w)
    refine XB_object T (.inl rfl) ((g.keeps T.base).builtin rfl rfl rfl rfl rfl bb_object (by decide)) fun S s T => ?_
    refine XB_assign (R := listR (starR S)) (a := trOf b) T (.inl rfl) rfl (J_fn D1 (g.keeps T.base) ((g.keeps T.base).global rfl rfl rfl rfl) (.cons (J_var (T.var rfl)) (.cons (J_var (T.var rfl)) (.cons J_str .nil))) fun _ _ kk hv => F_tr ((g.keeps T.base).keeps kk) r hb hl hv) fun s T => ?_
    exact XB_ret T (J_fn D2 (g.keeps T.base) ((g.keeps T.base).global rfl rfl rfl rfl) (.cons (J_var (T.var rfl)) (.cons (J_var (T.var rfl)) .nil)) fun _ _ kk hv => F_joinp (n := n + 1) ((g.keeps T.base).keeps kk) r hl hv)
end
end
-- part C11
section
open PySem PySem.W PyProof.Rows PySem.Calls
set_option maxRecDepth 100000
set_option maxHeartbeats 4000000

def code (c : Nat) : Nat := if c = 63 then 46 else c
def bodyOf (b : List Nat) : Str := ⟨(b.map code ++ [46, 42]).toArray⟩
def backS (c : Nat) : Str := if c = 63 then "?" else chr1 c
structure Cuts (t : Str) (b : List Nat) : Prop where
  len : t.length ≤ 10000
  head : Txt.slice t none (some 4) = "(?s:"
  tail : Txt.slice t (some (-3)) none = ")\\Z"
  body : Txt.slice t (some 4) (some (-3)) = bodyOf b
  not : ∀ k : Nat, k < b.length → (Txt.slice (bodyOf b) (some (k : Int)) none == (".*" : Str)) = false
  here : (Txt.slice (bodyOf b) (some (b.length : Int)) none == (".*" : Str)) = true
section
variable {prog : Program} {w : World} {A : Around} {m : Mem} {α : Type}
theorem F_read (g : Gr (KK w) m) {n : Nat} (rm : Rm A (n + 1)) {b : List Nat} {t : Str} (hb : Signs b) (hl : b.length ≤ 10) (C : Cuts t b) {vs : List Value} (h : (AP.cons strR t .nil).p m vs) :
    G PP w A m (call (.ref 171) vs) (listR strR) (b.map backS ++ List.replicate (10 - b.length) ("?" : Str)) := by
  obtain ⟨v1, _, rfl, r1, rfl⟩ := h
  refine' call_fnB (ps := ["text"]) (Γ := [("text", strR.at t)]) (sc := ?sc) (body := ?body) (n := n)
    ⟨⟨?oc, ?od, ?osl, ?fd, ?ho, ?hcd, ?hb, ?hsc, ?hcl, ?hgl, ?hbi, ?hbind⟩, ?hco, ?hgen, ?hk, ?hpar⟩ g rm rfl rfl (.cons r1 .nil) ?hnd ?h1
  case ho => rfl
  case hcd => rfl
  case hb => rfl
  case hsc => dsimp only
  case hcl => rfl
  case hgl => rfl
  case hbi => rfl
  case hco => rfl
  case hgen => rfl
  case hk => rfl
  case hnd => decide
  case hbind =>
    intro vals h
    match vals, h with
    | [a0], _ => rfl
  case hpar =>
    intro N
    repeat (first | exact List.forall_mem_nil _ | refine List.forall_mem_cons.mpr ⟨by first | exact .inl rfl | exact .inr ⟨rfl, rfl⟩, ?_⟩)
  case h1 =>
    intro L q' fn cd fr hp s₁ A' T r
    have kp0 : Kp hp s₁.heap := T.kp
    have sl := sizeLine_eq
    have C1 := C.len
    have hbl : (bodyOf b).length = b.length + 2 := by show (b.map code ++ [46, 42]).toArray.size = _; simp
    refine XB_skip T ((T_or2 (b₁ := false) (b₂ := false) ((T_cmp (J_sliceS (J_var (T.var rfl)) .none (.some J_int) (by omega)) J_str fun _ _ _ _ => V_neS).to (by rw [C.head]; rfl)) fun _ => (T_cmp (J_sliceS (J_var (T.var rfl)) (.some (J_neg J_int)) .none (by omega)) J_str fun _ _ _ _ => V_neS).to (by rw [C.tail]; rfl)).to rfl) fun s T => ?_
    refine XB_assign (R := strR) (a := bodyOf b) T (.inl rfl) rfl ((J_sliceS (J_var (T.var rfl)) (.some J_int) (.some (J_neg J_int)) (by omega)).to C.body) fun s T => ?_
    refine XB_empty strR T kp0 (.inl rfl) rfl fun p s T hpe hpn L => ?_
    refine XB_assignK (R := intR) (a := ((0 : Nat) : Int)) T (.inl rfl) rfl J_int fun s T out => ?_
    have L := L.keeps free_str fun o e => out p o hpe e
    let Gk : Nat → List (Str × TP) := fun k => [("k", intR.at (k : Int)), ("signs", valR.at (.ref p)), ("body", strR.at (bodyOf b))]
    have frG : ∀ k, Free (Gk k) := fun k => .rel free_int (.rel free_val (.rel free_str .nil))
    refine XB_while (fun j s' => ∃ k, k ≤ b.length ∧ j = b.length + 1 - k ∧ AtOf T (Gk k) s' ∧ Lst p strR ((b.map backS).take k) s'.heap) (b.length + 1) ⟨0, Nat.zero_le _, by omega, T.sub (by intro q hq; simp only [Gk, List.mem_cons, List.not_mem_nil, or_false] at hq; rcases hq with rfl | rfl | rfl <;> rfl), L⟩ ?_
    rintro j s ⟨k, hk, rfl, T, L⟩
    replace T := show At _ _ _ _ _ _ _ from T
    refine ⟨true, fun Q' E' hq => ((T_cmp (J_var (T.var rfl)) (J_bf ((g.keeps T.base).builtin rfl rfl rfl rfl rfl bb_len (by decide)) (.cons (J_var (T.var rfl)) .nil) fun _ _ _ h => C_lenS (x := bodyOf b) (by omega) h) fun _ _ _ _ => V_ltI).to (by rw [hbl]; simp; omega)).run s T.low _ _ fun h' tk kk => hq _ (fun _ => ?_) (fun e => nomatch e)⟩
    have T := T.grow (tk := tk) kk
    have L := L.keeps free_str fun o e => kk p o e
    have fl : ((b.map backS).take k).length ≤ sizeLine := by rw [List.length_take, List.length_map]; omega
    by_cases hkb : k < b.length
    · refine XB_if (b := false) T ((T_cmp (J_sliceS (J_var (T.var rfl)) (.some (J_var (T.var rfl))) .none (by omega)) J_str fun _ _ _ _ => V_eqS).to (C.not k hkb)) (fun e => nomatch e) (fun _ s T kk => .nil ?_)
      show XB _ _ _ _ _ _ _
      have L := L.keeps free_str fun o e => kk p o e
      have hc : (bodyOf b).cps[k]? = some (code b[k]) := by
        show (b.map code ++ [46, 42]).toArray[k]? = _
        rw [List.getElem?_toArray, List.getElem?_append_left (by simpa using hkb), List.getElem?_map, List.getElem?_eq_getElem hkb]; rfl
      have ht : (b.map backS)[k]? = some (backS b[k]) := by rw [List.getElem?_map, List.getElem?_eq_getElem hkb]; rfl
      have hcc := hb b[k] (List.getElem_mem hkb)
      generalize b[k] = c at hc ht hcc
      rcases hcc with rfl | hcc
      · refine XB_if (b := true) T ((T_cmp (J_itemS (j := (k : Int)) (by omega) (by omega) (by simpa using hc) (fun _ _ => rfl) (J_var (T.var rfl)) (J_var (T.var rfl))) J_str fun _ _ _ _ => V_eqS).to (by rfl)) (fun _ s T kk => ?_) (fun e => nomatch e)
        have L := L.keeps free_str fun o e => kk p o e
        refine XB_append (a := ("?" : Str)) T (frG k) free_str (.inr rfl) hpe rfl L fl J_str fun s T L _ => .nil ?_
        · show XB _ _ _ _ _ _ _
          refine XB_augK (R := intR) (R₁ := intR) (R₂ := intR) (c := ((k + 1 : Nat) : Int)) T (.inl rfl) rfl J_int (fun _ _ _ _ a b => (U_add a b).to (by omega)) fun s T out => .nil ?_
          have L := L.keeps free_str fun o e => out p o hpe e
          refine ⟨b.length + 1 - (k + 1), by omega, k + 1, by omega, rfl, T.sub (by intro q hq; simp only [Gk, List.mem_cons, List.not_mem_nil, or_false] at hq; rcases hq with rfl | rfl | rfl <;> rfl), ?_⟩
          rw [List.take_add_one, ht]
          exact L
      · have h1 : code c = c := by rcases hcc with rfl | rfl <;> rfl
        have h2 : backS c = chr1 c := by rcases hcc with rfl | rfl <;> rfl
        rw [h1] at hc
        rw [h2] at ht
        refine XB_if (b := false) T ((T_cmp (J_itemS (j := (k : Int)) (by omega) (by omega) (by simpa using hc) (fun _ _ => rfl) (J_var (T.var rfl)) (J_var (T.var rfl))) J_str fun _ _ _ _ => V_eqS).to (by rcases hcc with rfl | rfl <;> rfl)) (fun e => nomatch e) (fun _ s T kk => ?_)
        have L := L.keeps free_str fun o e => kk p o e
        refine XB_if (b := false) T ((T_cmp (J_itemS (j := (k : Int)) (by omega) (by omega) (by simpa using hc) (fun _ _ => rfl) (J_var (T.var rfl)) (J_var (T.var rfl))) J_str fun _ _ _ _ => V_eqS).to (by rcases hcc with rfl | rfl <;> rfl)) (fun e => nomatch e) (fun _ s T kk => ?_)
        have L := L.keeps free_str fun o e => kk p o e
        refine XB_append (a := chr1 c) T (frG k) free_str (.inr rfl) hpe rfl L fl (J_itemS (j := (k : Int)) (by omega) (by omega) (by simpa using hc) (fun _ _ => rfl) (J_var (T.var rfl)) (J_var (T.var rfl))) fun s T L _ => .nil (.nil ?_)
        · show XB _ _ _ _ _ _ _
          refine XB_augK (R := intR) (R₁ := intR) (R₂ := intR) (c := ((k + 1 : Nat) : Int)) T (.inl rfl) rfl J_int (fun _ _ _ _ a b => (U_add a b).to (by omega)) fun s T out => .nil ?_
          have L := L.keeps free_str fun o e => out p o hpe e
          refine ⟨b.length + 1 - (k + 1), by omega, k + 1, by omega, rfl, T.sub (by intro q hq; simp only [Gk, List.mem_cons, List.not_mem_nil, or_false] at hq; rcases hq with rfl | rfl | rfl <;> rfl), ?_⟩
          rw [List.take_add_one, ht]
          exact L
    · have hkb : k = b.length := by omega
      subst hkb
      refine XB_if (b := true) T ((T_cmp (J_sliceS (J_var (T.var rfl)) (.some (J_var (T.var rfl))) .none (by omega)) J_str fun _ _ _ _ => V_eqS).to C.here) (fun _ s T kk => ?_) (fun e => nomatch e)
      have L := L.keeps free_str fun o e => kk p o e
      rw [List.take_of_length_le (by simp)] at L
      obtain ⟨vr, hnr, hr⟩ := T.var (x := "signs") rfl
      replace hr : vr = .ref p := hr
      subst hr
      have rl := L.rel (m₀ := m) free_str (T.new p (.inr rfl))
      refine XB_ret' (R := listR strR) T (J_binop (J_name (NmS.nm hnr) rl) (J_binop (J_list (.allCons J_str .allNil) (by show 1 ≤ sizeLine; omega)) (J_binop J_int (J_bf ((g.keeps T.base).builtin rfl rfl rfl rfl rfl bb_len (by decide)) (.cons (J_name (NmS.nm hnr) rl) .nil) fun _ _ _ h => C_lenL (xs := b.map backS) (by rw [List.length_map]; omega) h) fun _ _ _ _ => V_sub) fun _ _ _ _ => V_mulL (by rw [List.length_map]; omega) (by rw [List.length_map]; omega)) fun _ _ _ _ => V_addL (by simp only [List.length_map, List.length_replicate]; omega)) fun v s' h => ?_
      have e : ((10 : Int) - ((b.map backS).length : Int)).toNat = 10 - b.length := by rw [List.length_map]; omega
      rw [e] at h
      exact h
end
end
-- part L15
section
open PySem PySem.W PyProof.Rows PySem.Calls PySem.MeetsSeq PySem.SeqAt PySem.SeqRoads2
set_option maxRecDepth 100000
set_option maxHeartbeats 400000
/-- a list, whatever hangs on it besides -/
def scriptR : Rel (List Int) := ⟨fun h v xs => ∃ a c d vs n sl, v = .ref a ∧ c = Value.type "list" ∧ h a = some ⟨c, d, .seq vs n, sl⟩ ∧ Paired (intR.r h) vs.toList xs,
  fun hs ⟨a, c, d, vs, n, sl, e, hc, ho, hp⟩ => ⟨a, c, d, vs, n, sl, e, hc, hs _ _ _ _ _ _ ho, paired_mono (fun _ _ q => q) hp⟩⟩
section
variable {prog : Program} {w : World} {A : Around} {env : Env} {α β γ : Type} {m : Mem}
theorem J_script {value hi : Expr} {p pos : Pos} {xs : List Int} {k : Nat} (g1 : G prog w A m (eval value env) scriptR xs) (g2 : G prog w A m (eval hi env) intR (k : Int)) (hsz : xs.length ≤ sizeLine)
    (hs : ∀ o i, subscripted (.Slice none (some hi) none p) false o i = operate [i, o] (getItem o i)) : G prog w A m (eval (.Subscript value (.Slice none (some hi) none p) pos) env) (listR intR) (xs.take k) := by
  refine ⟨fun s kk Q E hq => ?_⟩
  refine Subscript_ (g1.run s kk _ _ fun v h₁ tk₁ k₁ r₁ => wpAny_Slice ((GP.none (env := env)).run _ (kk.kp k₁) _ _ fun vl h₂ tk₂ k₂ pl => (GP.some g2).run _ ((kk.kp k₁).kp k₂) _ _ fun vh h₃ tk₃ k₃ ph => wpAny_pure ?_))
  obtain ⟨a, c, d, vs, n, sl, rfl, rfl, e₁, p₁⟩ := r₁
  have k13 := k₂.trans k₃
  have ho := (k₁.trans k13 |> ext_le kk) _ _ (ext_mono k13 _ _ e₁)
  have hl : h₃.IsList a vs := ⟨_, ho, rfl, n, rfl⟩
  have hn : vs.size = xs.length := by have := Paired.length p₁; simpa using this
  refine tail_any (T := "list") ⟨_, Heap.get?_push_of_some _ ho, rfl⟩ slot_list_getitem.lookup (wpAny_getItem_list_slice (hl.push _) (Heap.IsSliceOf.new ..) pl ph .none (by simp) ?_ (by rw [hn]; exact hsz)) (hs _ _)
  have kx : Kp h₁ ((h₃.push { cls := .type "slice", data := .fields #[vl, vh, .none] }).push { cls := .type "list", data := .seq (slicePick vs none (some (k : Int)) none) }) := k13.trans ((Kp.push _ _).trans (Kp.push _ _))
  refine hq _ _ tk₃ (k₁.trans kx) ⟨_, (slicePick vs none (some (k : Int)) none).toList, 0, rfl, ?_, ?_⟩
  · have z := view_new (m := m) (s := s) (h := h₃.push { cls := .type "slice", data := .fields #[vl, vh, .none] }) (o := { cls := .type "list", data := .seq (slicePick vs none (some (k : Int)) none) }) (k₁.trans (k13.trans (Kp.push _ _))) rfl
    rw [z]
  · have e : slicePick vs none (some (k : Int)) none = slicePick vs.toList.toArray none (some (k : Int)) none := by simp
    rw [e, slicePick_upto']
    have z : ∀ m' : Mem, Paired (intR.r m') (vs.toList.take k) (xs.take k) := fun _ => paired_mono (fun _ _ q => q) (paired_take k p₁)
    simpa using z _
/-- sorted(e, reverse=True) -/
theorem J_down {np kp cp pos : Pos} {kc : Nat} {e : Expr} {xs ys : List Str} (hf : Nm prog w m env "sorted" (.builtin "sorted")) (ge : G prog w A m (eval e env) (listR strR) xs) (h64 : xs.length < 64) (hu : ∀ zs : List Str, zs.Perm xs → sortedS zs = true → zs.reverse = ys)
    (hs : starEach [e] env = (false, eval e env) :: starEach [] env) :
    G prog w A m (eval (.Call (.Name "sorted" np) [e] [⟨some "reverse", .Constant (.bool true) kc cp, kp⟩] pos) env) (listR strR) ys := by
  refine ⟨fun s k Q E hq => ?_⟩
  have ht : backTo pos (starEach [e] env) = (false, eval e env) :: backTo pos (starEach [] env) := by rw [hs]; rfl
  refine wpAny_Call_Name_kw (wpAny_Name (hf A _ _ s k (callWith_kw ?_ ht (by rw [ht]; rfl) (by rfl) (by rfl))) (by decide))
  rw [ht]
  refine spliced_cons (ge.run s k _ _ fun v h₁ tk k₁ r => spliced_nil ?_)
  have C := C_sortedDown (prog := prog) (w := w) (A := A) h64 hu r
  show wpAny _ A (evalAll [_]) _ _ _
  refine wpAny_evalAll_cons ?_
  show wpAny _ A (do let v ← eval (.Constant (.bool true) kc cp) env; standAt pos; pure v) _ _ _
  refine wpAny_bind ((J_bool (prog := prog) (w := w) (A := A) (m := m) (i := true) (k := kc) (pos := cp) (env := env)).run { s with heap := h₁, toks := tk } (k.kp k₁) _ _ fun v2 h₂ tk₂ k₂ r2 => wpAny_bind (wpAny_standAt (wpAny_pure ?_)))
  replace r2 : v2 = .bool true := r2
  subst r2
  refine wpAny_evalAll_nil ?_
  refine (C.keeps (ext_mono k₂)).run { s with heap := h₂, toks := tk₂ } (ext_le k (k₁.trans k₂)) _ _ fun v' h₃ tk₃ k₃ r₃ => ?_
  exact hq v' h₃ tk₃ ((k₁.trans k₂).trans k₃) (by rw [ext_trans (k₁.trans k₂) k₃] at r₃; exact r₃)
end
end
-- part P1
section
open PySem PySem.W PyProof.Rows PySem.Calls
set_option maxRecDepth 100000
set_option maxHeartbeats 400000
def insN (a : Nat) : List Nat → List Nat
  | [] => [a]
  | b :: r => if a ≤ b then a :: b :: r else b :: insN a r
def isort : List Nat → List Nat
  | [] => []
  | a :: r => insN a (isort r)
theorem insN_perm (a : Nat) : ∀ l, (insN a l).Perm (a :: l)
  | [] => .refl _
  | b :: r => by
    unfold insN
    split
    · exact .refl _
    · exact ((insN_perm a r).cons b).trans (.swap a b r)
theorem isort_perm : ∀ l, (isort l).Perm l
  | [] => .refl _
  | a :: r => (insN_perm a (isort r)).trans ((isort_perm r).cons a)
theorem insN_sorted (a : Nat) : ∀ l : List Nat, l.Pairwise (· ≤ ·) → (insN a l).Pairwise (· ≤ ·)
  | [], _ => by simp [insN]
  | b :: r, h => by
    unfold insN
    rw [List.pairwise_cons] at h
    split
    · rename_i hab
      rw [List.pairwise_cons, List.pairwise_cons]
      exact ⟨fun x hx => by rcases List.mem_cons.mp hx with rfl | hx; exact hab; exact Nat.le_trans hab (h.1 x hx), h⟩
    · rename_i hab
      rw [List.pairwise_cons]
      refine ⟨fun x hx => ?_, insN_sorted a r h.2⟩
      have := (insN_perm a r).mem_iff.mp hx
      rcases List.mem_cons.mp this with rfl | hx
      · omega
      · exact h.1 x hx
theorem isort_sorted : ∀ l : List Nat, (isort l).Pairwise (· ≤ ·)
  | [] => .nil
  | a :: r => insN_sorted a _ (isort_sorted r)
theorem sorted_eq : ∀ l l' : List Nat, l.Pairwise (· ≤ ·) → l'.Pairwise (· ≤ ·) → l.Perm l' → l = l'
  | [], l', _, _, h => by rw [List.nil_perm.mp h]
  | a :: r, [], _, _, h => by have := h.length_eq; simp at this
  | a :: r, b :: r', h, h', p => by
    rw [List.pairwise_cons] at h h'
    have ha : a = b := by
      have h1 := p.mem_iff.mp (List.mem_cons_self (a := a) (l := r))
      have h2 := p.mem_iff.mpr (List.mem_cons_self (a := b) (l := r'))
      have e1 : b ≤ a := by rcases List.mem_cons.mp h1 with e | e; omega; exact h'.1 _ e
      have e2 : a ≤ b := by rcases List.mem_cons.mp h2 with e | e; omega; exact h.1 _ e
      omega
    subst ha
    rw [sorted_eq r r' h.2 h'.2 ((List.perm_cons a).mp p)]
theorem lt_one (a b : Nat) : PySem.Spec.ltCps (chr1 a).cps.toList (chr1 b).cps.toList = decide (a < b) := by
  show PySem.Spec.ltCps [a] [b] = _
  simp [PySem.Spec.ltCps]
theorem rising_one : ∀ (a : Nat) (ds : List Nat), risingS (chr1 a) (ds.map chr1) = true → (∀ d ∈ ds, a ≤ d) ∧ ds.Pairwise (· ≤ ·)
  | a, [], _ => ⟨fun d hd => (nomatch hd), .nil⟩
  | a, d :: ds, h => by
    rw [List.map_cons, risingS, lt_one] at h
    simp only [Bool.and_eq_true, Bool.not_eq_true', decide_eq_false_iff_not] at h
    obtain ⟨h1, h2⟩ := rising_one d ds h.2
    refine ⟨fun x hx => ?_, List.pairwise_cons.mpr ⟨h1, h2⟩⟩
    rcases List.mem_cons.mp hx with rfl | hx
    · omega
    · have := h1 x hx; omega
theorem chr1_inj {a b : Nat} (h : chr1 a = chr1 b) : a = b := by
  have : (#[a] : Array Nat) = #[b] := congrArg Str.cps h
  simpa using this
theorem sorted_one {cs : List Nat} {zs : List Str} (hp : zs.Perm (cs.map chr1)) (hs : sortedS zs = true) : zs = (isort cs).map chr1 := by
  have hz : zs = (zs.map fun z => z.cps.getD 0 0).map chr1 := by
    rw [List.map_map]
    conv => lhs; rw [← List.map_id zs]
    refine List.map_congr_left fun z hz => ?_
    obtain ⟨c, _, rfl⟩ := List.mem_map.mp (hp.mem_iff.mp hz)
    rfl
  have hd : (zs.map fun z => z.cps.getD 0 0).Perm cs := by
    have := hp.map fun z : Str => z.cps.getD 0 0
    rw [List.map_map] at this
    have e : cs.map ((fun z : Str => z.cps.getD 0 0) ∘ chr1) = cs := by
      conv => rhs; rw [← List.map_id cs]
      exact List.map_congr_left fun c _ => rfl
    rwa [e] at this
  generalize (zs.map fun z => z.cps.getD 0 0) = ds at hz hd
  subst hz
  have hr : ds.Pairwise (· ≤ ·) := by
    cases ds with
    | nil => exact .nil
    | cons d ds => exact List.pairwise_cons.mpr (rising_one d ds hs)
  rw [sorted_eq ds (isort cs) hr (isort_sorted cs) (hd.trans (isort_perm cs).symm)]
end
-- part D12
section
open PySem PySem.W PyProof.Rows PySem.Calls
set_option maxRecDepth 100000
set_option maxHeartbeats 4000000

def asked0 : List Int := [1, 18, 4, 39, 41, 2, 10, 52, 5, 23, 16, 0, 7, 63]
def numsOf (xs : List Int) : List Int := (xs.take 14).map (fun x => x.fmod 64) ++ asked0.drop ((xs.take 14).map fun x => x.fmod 64).length
def kinds : List Int := [1, 2, 4, 6, 8, 10, 12]
theorem kinds_get {z : Int} (h0 : 0 ≤ z) (h1 : z < 7) : kinds[z.toNat]? = some (kinds.getD z.toNat 0) := by
  have hl : z.toNat < kinds.length := by show z.toNat < 7; omega
  rw [List.getD_eq_getElem?_getD, List.getElem?_eq_getElem hl]; rfl
/-- the i-th mode -/
def modeOf (ns : List Int) (i : Int) : Int := kinds.getD ((ns.getD (2 + 3 * i).toNat 0).fmod 7).toNat 0 * 4096 + ns.getD (3 + 3 * i).toNat 0 * 64 + ns.getD (4 + 3 * i).toNat 0
def sizeOf' (ns : List Int) : Int := 2 + (ns.getD 0 0).fmod 3
def givenOf (ns : List Int) (N : Nat) : List Int := (upto N).map (modeOf ns)
def lowS : Str := fmOf 32768
def highS : Str := fmOf (49152 + 448 + 56 + 7)
def padsOf (N : Nat) (k : Int) : List Str := if (N : Int) ≤ 2 * k then List.replicate (2 * k - N).toNat lowS else List.replicate (N - 2 * k).toNat highS
def filesOf (ns : List Int) (N : Nat) : List Str := (givenOf ns N).map fmOf
def rowsOf (ns : List Int) (N : Nat) (k : Int) : List Str := filesOf ns N ++ padsOf N k
theorem pads_len {N : Nat} {k : Int} (h0 : 0 ≤ k) (h1 : k ≤ N) (hN : N ≤ 4) : (padsOf N k).length ≤ 4 := by
  unfold padsOf
  split <;> rw [List.length_replicate] <;> omega
/-- the signs of column c -/
def colC (rows : List Str) (c : Int) : List Nat := rows.map fun row => row.cps.getD c.toNat 0
def hiC (cs : List Nat) : Nat := (isort cs).getD ((isort cs).length / 2) 0
def loC (cs : List Nat) : Nat := (isort cs).getD ((isort cs).length / 2 - 1) 0
def upOf (rows : List Str) : Str := Txt.join "" ((upto 10).map fun c => chr1 (hiC (colC rows c)))
def dnOf (rows : List Str) : Str := Txt.join "" ((upto 10).map fun c => chr1 (loC (colC rows c)))
/-- the signs of column c, from above -/
def colS (fs : List Str) (c : Int) : List Str := ((isort (colC fs c)).map chr1).reverse
def colsOf (fs : List Str) : List (List Str) := (upto 10).map (colS fs)
def dueAt (fs : List Str) (k : Int) : Str := Txt.join "" ((colsOf fs).map fun column => column.getD k.toNat "")
def placeA (ns : List Int) : Int := ks1.getD ((ns.getD 1 0).fmod 6).toNat 0
def placeB (ns : List Int) : Int := ks1.getD (((ns.getD 1 0).fdiv 6).fmod 6).toNat 0
theorem ks1_get {z : Int} (h0 : 0 ≤ z) (h1 : z < 6) : ks1[z.toNat]? = some (ks1.getD z.toNat 0) := by
  have hl : z.toNat < ks1.length := by show z.toNat < 6; omega
  rw [List.getD_eq_getElem?_getD, List.getElem?_eq_getElem hl]; rfl
def sg (ps : List Int) : List Str := (upto 10).map (signOf ps)
def askedOf (ns : List Int) : List (List Str) := [sg [placeA ns], sg [placeB ns], sg [placeA ns, placeB ns]]
/-- what of a row of signs goes through translate and back -/
structure ReadOk (signs : List Str) : Prop where
  one : ∀ y ∈ signs, y.length ≤ 1
  few : signs.length ≤ 1000
  ex : ∃ b : List Nat, Signs b ∧ b.length ≤ 10 ∧ (Txt.rstripChars (Txt.join "" signs) "?").length ≤ 1000 ∧ patOf signs = ⟨(b ++ [42]).toArray⟩ ∧ Cuts (jnOf b) b ∧ b.map backS ++ List.replicate (10 - b.length) ("?" : Str) = signs
theorem listEq_refl {α : Type} {e : α → α → Bool} (h : ∀ x, e x x = true) : ∀ xs : List α, listEq e xs xs = true := fun xs => by
  unfold listEq
  simp only [beq_self_eq_true, Bool.true_and, List.all_eq_true]
  intro p hp
  have : p.1 = p.2 := by
    induction xs with
    | nil => simp at hp
    | cons x xs ih =>
      rw [List.zip_cons_cons] at hp
      rcases List.mem_cons.mp hp with rfl | hp
      · rfl
      · exact ih hp
  rw [this]; exact h _
theorem eqR_strs : EqR (listR strR) (listEq (· == ·)) 1 := eqR_list eqR_str fun m v a b h1 h2 => by
  obtain ⟨t, rfl⟩ := h1
  obtain ⟨u, e⟩ := h2
  cases e
  simp
structure LawOk (ns : List Int) (N : Nat) : Prop where
  dsz : ∀ z ∈ (upto N).map (dueAt (filesOf ns N)), z.cps.size = 10
  msum : (((upto N).map (dueAt (filesOf ns N))).map backOf).sum = (givenOf ns N).sum
  mfm : (((upto N).map (dueAt (filesOf ns N))).map backOf).map fmOf = (upto N).map (dueAt (filesOf ns N))
  rd : ∀ signs ∈ askedOf ns, ReadOk signs
  back : ((givenOf ns N).map fmOf).map backOf = givenOf ns N
  ups : ((upto (N + 1)).map (rowsOf ns N)).map upOf = [("srwxrwxrwx" : Str)] ++ (upto N).map (dueAt (filesOf ns N))
  dns : ((upto (N + 1)).map (rowsOf ns N)).map dnOf = (upto N).map (dueAt (filesOf ns N)) ++ [("----------" : Str)]
  hoef : (askedOf ns).map (fun signs => (taken signs ((upto N).map (dueAt (filesOf ns N))) : Int)) =
    [(taken (sg [placeA ns]) (filesOf ns N) : Int), (taken (sg [placeB ns]) (filesOf ns N) : Int), min (taken (sg [placeA ns]) (filesOf ns N) : Int) (taken (sg [placeB ns]) (filesOf ns N) : Int)]
structure Nums (ns : List Int) : Prop where
  len : ns.length = 14
  low : ∀ x ∈ ns, 0 ≤ x ∧ x < 64
theorem rows_size {ns : List Int} {N : Nat} {k : Int} : ∀ row ∈ rowsOf ns N k, row.cps.size = 10 := fun row h => by
  rcases List.mem_append.mp h with h | h
  · obtain ⟨z, _, rfl⟩ := List.mem_map.mp h
    exact fmOf_size z
  · unfold padsOf at h
    split at h
    · rw [(List.mem_replicate.mp h).2]; exact fmOf_size _
    · rw [(List.mem_replicate.mp h).2]; exact fmOf_size _
theorem sort_get {cs : List Nat} {j : Nat} (h : j < cs.length) : ((isort cs).map chr1)[j]? = some (chr1 ((isort cs).getD j 0)) := by
  have hl : j < (isort cs).length := by rw [(isort_perm cs).length_eq]; exact h
  rw [List.getElem?_map, List.getD_eq_getElem?_getD, List.getElem?_eq_getElem hl]; rfl
theorem nums_ok (xs : List Int) : Nums (numsOf xs) := by
  refine ⟨?_, fun x hx => ?_⟩
  · simp only [numsOf, List.length_append, List.length_drop, List.length_map, List.length_take]
    have : asked0.length = 14 := rfl
    omega
  · rcases List.mem_append.mp hx with hx | hx
    · obtain ⟨y, _, rfl⟩ := List.mem_map.mp hx
      have := fdiv_fmod_facts y 64
      omega
    · have := List.mem_of_mem_drop hx
      simp only [asked0, List.mem_cons, List.not_mem_nil, or_false] at this
      omega
theorem Nums.get {ns : List Int} (h : Nums ns) {j : Int} (h0 : 0 ≤ j) (h1 : j < 14) : ns[j.toNat]? = some (ns.getD j.toNat 0) ∧ 0 ≤ ns.getD j.toNat 0 ∧ ns.getD j.toNat 0 < 64 := by
  have hl : j.toNat < ns.length := by rw [h.len]; omega
  have e : ns[j.toNat]? = some (ns.getD j.toNat 0) := by rw [List.getD_eq_getElem?_getD, List.getElem?_eq_getElem hl]; rfl
  exact ⟨e, h.low _ (List.mem_of_getElem? e)⟩
end
-- part C12
section
open PySem PySem.W PyProof.Rows PySem.Calls
set_option maxRecDepth 100000
set_option maxHeartbeats 4000000
section
variable {prog : Program} {w : World} {A : Around} {m : Mem} {α : Type}
theorem F_law (g : Gr (KK w) m) {n : Nat} (rm : Rm A (n + 5)) {xs : List Int} (hxs : xs.length ≤ 63) (OK : ∀ N : Nat, 2 ≤ N → N ≤ 4 → LawOk (numsOf xs) N) {vs : List Value} (h : (AP.cons scriptR xs .nil).p m vs) :
    G PP w A m (call (.ref 193) vs) boolR true := by
  obtain ⟨v1, _, rfl, r1, rfl⟩ := h
  obtain ⟨scN, boN, DN⟩ := D_number (w := w)
  obtain ⟨scF, boF, DF⟩ := D_filemode (w := w)
  obtain ⟨scB, boB, DB⟩ := D_back (w := w)
  have sl := sizeLine_eq
  have N0 := nums_ok xs
  have hN : ∃ N : Nat, 2 + ((numsOf xs).getD 0 0).fmod 3 = (N : Int) ∧ 2 ≤ N ∧ N ≤ 4 := by
    have := fdiv_fmod_facts ((numsOf xs).getD 0 0) 3
    exact ⟨(2 + ((numsOf xs).getD 0 0).fmod 3).toNat, by omega, by omega, by omega⟩
  obtain ⟨N, hN, hN2, hN4⟩ := hN
  have OK := OK N hN2 hN4
  have gl : (givenOf (numsOf xs) N).length = N := by simp [givenOf]
  refine' call_fnB (ps := ["script"]) (Γ := [("script", scriptR.at xs)]) (sc := ?sc) (body := ?body) (n := n + 4)
    ⟨⟨?oc, ?od, ?osl, ?fd, ?ho, ?hcd, ?hb, ?hsc, ?hcl, ?hgl, ?hbi, ?hbind⟩, ?hco, ?hgen, ?hk, ?hpar⟩ g rm rfl rfl (.cons r1 .nil) ?hnd ?h1
  case ho => rfl
  case hcd => rfl
  case hb => rfl
  case hsc => dsimp only
  case hcl => rfl
  case hgl => rfl
  case hbi => rfl
  case hco => rfl
  case hgen => rfl
  case hk => rfl
  case hnd => decide
  case hbind =>
    intro vals h
    match vals, h with
    | [a0], _ => rfl
  case hpar =>
    intro N
    repeat (first | exact List.forall_mem_nil _ | refine List.forall_mem_cons.mpr ⟨by first | exact .inl rfl | exact .inr ⟨rfl, rfl⟩, ?_⟩)
  case h1 =>
    intro L q' fn cd fr hp s₁ A' T r
    refine XB_comp (RB := intR) (fun x : Int => x.fmod 64) T (.inl rfl) rfl rfl rfl (by decide) (.inl ⟨rfl, fun _ => rfl⟩) (GI_list r.handled (J_script (k := 14) (J_var (T.var rfl)) J_int (by omega) fun _ _ => rfl)) (by rw [List.length_take]; omega) (fun C m' v y k hk rk nk => ?_) fun s T => ?_
    · exact J_binop (J_name (NmS.nm nk) rk) J_int fun _ _ _ _ => V_mod (by decide)
    have l14 : ((xs.take 14).map fun x => x.fmod 64).length ≤ 14 := by rw [List.length_map, List.length_take]; omega
    refine XB_assign (R := listR intR) (a := numsOf xs) T (.inr ⟨rfl, rfl⟩) rfl (J_binop (J_var (T.var rfl)) (J_from (xs := asked0) (k := ((xs.take 14).map fun x => x.fmod 64).length) (J_list ?_ (by show 14 ≤ sizeLine; omega)) (J_bf ((g.keeps T.base).builtin rfl rfl rfl rfl rfl bb_len (by decide)) (.cons (J_var (T.var rfl)) .nil) fun _ _ _ h => C_lenL (by omega) h) (by show 14 ≤ sizeLine; omega) fun _ _ => rfl) fun _ _ _ _ => V_addL ?_) fun s T => ?_
    · exact GA.allCons J_int (GA.allCons J_int (GA.allCons J_int (GA.allCons J_int (GA.allCons J_int (GA.allCons J_int (GA.allCons J_int (GA.allCons J_int (GA.allCons J_int (GA.allCons J_int (GA.allCons J_int (GA.allCons J_int (GA.allCons J_int (GA.allCons J_int GA.allNil)))))))))))))
    · rw [List.length_drop]
      have : asked0.length = 14 := rfl
      omega
    refine XB_assign (R := intR) (a := (N : Int)) T (.inr ⟨rfl, rfl⟩) rfl ((J_binop J_int (J_binop (J_itemL (j := 0) (by omega) (by omega) (N0.get (j := 0) (by omega) (by omega)).1 (fun _ _ => rfl) (J_var (T.var rfl)) J_int) J_int fun _ _ _ _ => V_mod (by decide)) fun _ _ _ _ => V_add).to hN) fun s T => ?_
    have gr : Gr (KK w) (ext m hp s.heap) := g.keeps T.base
    refine XB_comp (RB := intR) (modeOf (numsOf xs)) T (.inl rfl) rfl rfl rfl (by decide) (.inl ⟨rfl, fun _ => rfl⟩) (GI_range r.handled (gr.builtin rfl rfl rfl rfl rfl bb_range (by decide)) rfl (J_var (T.var rfl)) (by omega)) (by simp; omega) (fun C m' v y k hk rk nk => ?_) fun s T => ?_
    · have hy := mem_upto' hk
      have item : ∀ c : Int, 2 ≤ c → c ≤ 4 → (numsOf xs)[(c + 3 * y).toNat]? = some ((numsOf xs).getD (c + 3 * y).toNat 0) ∧ 0 ≤ (numsOf xs).getD (c + 3 * y).toNat 0 ∧ (numsOf xs).getD (c + 3 * y).toNat 0 < 64 := fun c h1 h2 => N0.get (by omega) (by omega)
      have hkd := fdiv_fmod_facts ((numsOf xs).getD (2 + 3 * y).toNat 0) 7
      refine J_fn DN (gr.keeps k) ((gr.keeps k).global rfl rfl rfl rfl) (.cons (J_itemL (j := 2 + 3 * y) (by omega) (by omega) (item 2 (by omega) (by omega)).1 (fun _ _ => rfl) (J_var ((T.var rfl).comp k rfl rfl rfl rfl)) (J_binop J_int (J_binop J_int (J_name (NmS.nm nk) rk) fun _ _ _ _ => V_mul (IntMulOk.of_left (by decide))) fun _ _ _ _ => V_add)) (.cons (J_itemL (j := 3 + 3 * y) (by omega) (by omega) (item 3 (by omega) (by omega)).1 (fun _ _ => rfl) (J_var ((T.var rfl).comp k rfl rfl rfl rfl)) (J_binop J_int (J_binop J_int (J_name (NmS.nm nk) rk) fun _ _ _ _ => V_mul (IntMulOk.of_left (by decide))) fun _ _ _ _ => V_add)) (.cons (J_itemL (j := 4 + 3 * y) (by omega) (by omega) (item 4 (by omega) (by omega)).1 (fun _ _ => rfl) (J_var ((T.var rfl).comp k rfl rfl rfl rfl)) (J_binop J_int (J_binop J_int (J_name (NmS.nm nk) rk) fun _ _ _ _ => V_mul (IntMulOk.of_left (by decide))) fun _ _ _ _ => V_add)) .nil))) fun _ _ kk hv => F_number ((gr.keeps k).keeps kk) (r.less (by omega)) hv _ ?_ (by omega) (by omega)
      exact kinds_get (by omega) (by omega)
    change At m hp _ _ _ _ (("given", (listR intR).at (givenOf (numsOf xs) N)) :: _) at T
    have gr : Gr (KK w) (ext m hp s.heap) := g.keeps T.base
    have hu : A'.units + 30 < cLine := by have := r.units; omega
    refine XB_assign (R := listR strR) (a := (givenOf (numsOf xs) N).map fmOf) T (.inr ⟨rfl, rfl⟩) rfl (J_map fmOf rfl rfl (by decide) (.inl ⟨rfl, fun _ => rfl⟩) (GI_list r.handled (J_var (T.var rfl))) (by omega) fun C m' v y k hk rk nk => J_fn DF (gr.keeps k) ((gr.keeps k).global rfl rfl rfl rfl) (.cons (J_name (NmS.nm nk) rk) .nil) fun _ _ kk hv => F_filemode ((gr.keeps k).keeps kk) (n := n + 2) r hv) fun s T => ?_
    have gr : Gr (KK w) (ext m hp s.heap) := g.keeps T.base
    refine XB_skip T ((T_cmp (J_map backOf rfl rfl (by decide) (.inl ⟨rfl, fun _ => rfl⟩) (GI_list r.handled (J_var (T.var rfl))) (by rw [List.length_map]; omega) fun C m' v y k hk rk nk => J_fn DB (gr.keeps k) ((gr.keeps k).global rfl rfl rfl rfl) (.cons (J_name (NmS.nm nk) rk) .nil) fun _ _ kk hv => F_back ((gr.keeps k).keeps kk) (n := n + 3) r (by
        obtain ⟨z, _, rfl⟩ := List.mem_map.mp hk
        exact fmOf_size z) hv) (J_var (T.var rfl)) fun _ _ _ _ => V_neL eqR_int (by omega)).to (by rw [OK.back, listEq_beq]; simp)) fun s T => ?_
    obtain ⟨scP, boP, DP⟩ := D_pads (w := w)
    refine XB_assign (R := strR) (a := lowS) T (.inr ⟨rfl, rfl⟩) rfl (J_fn DF (g.keeps T.base) ((g.keeps T.base).global rfl rfl rfl rfl) (.cons (R := intR) (a := 32768) (J_name (R := intR) ((g.keeps T.base).global rfl rfl rfl rfl) ⟨_, rfl⟩) .nil) fun _ _ kk hv => F_filemode ((g.keeps T.base).keeps kk) (n := n + 2) r hv) fun s T => ?_
    refine XB_assign (R := strR) (a := highS) T (.inr ⟨rfl, rfl⟩) rfl (J_fn DF (g.keeps T.base) ((g.keeps T.base).global rfl rfl rfl rfl) (.cons (R := intR) (a := 49152 + 448 + 56 + 7) (J_binop (J_binop (J_binop (J_name (R := intR) ((g.keeps T.base).global rfl rfl rfl rfl) ⟨_, rfl⟩) (J_name (R := intR) ((g.keeps T.base).global rfl rfl rfl rfl) ⟨_, rfl⟩) fun _ _ _ _ => V_add) (J_name (R := intR) ((g.keeps T.base).global rfl rfl rfl rfl) ⟨_, rfl⟩) fun _ _ _ _ => V_add) (J_name (R := intR) ((g.keeps T.base).global rfl rfl rfl rfl) ⟨_, rfl⟩) fun _ _ _ _ => V_add) .nil) fun _ _ kk hv => F_filemode ((g.keeps T.base).keeps kk) (n := n + 2) r hv) fun s T => ?_
    have gr : Gr (KK w) (ext m hp s.heap) := g.keeps T.base
    have fll : (filesOf (numsOf xs) N).length = N := by simp [filesOf, gl]
    refine XB_comp (RB := listR strR) (rowsOf (numsOf xs) N) T (.inl rfl) rfl rfl rfl (by decide) (.inl ⟨rfl, fun _ => rfl⟩) (GI_range (n := N + 1) r.handled (gr.builtin rfl rfl rfl rfl rfl bb_range (by decide)) rfl ((J_binop (J_var (T.var rfl)) J_int fun _ _ _ _ => V_add).to (by omega)) (by omega)) (by simp; omega) (fun C m' v y k hk rk nk => ?_) fun s T => ?_
    · have hy := mem_upto' hk
      refine J_binop (a := filesOf (numsOf xs) N) (J_var ((T.var rfl).comp k rfl rfl rfl rfl)) (J_fn DP (gr.keeps k) ((gr.keeps k).global rfl rfl rfl rfl) (.cons (J_var ((T.var rfl).comp k rfl rfl rfl rfl)) (.cons (J_name (NmS.nm nk) rk) (.cons (J_var ((T.var rfl).comp k rfl rfl rfl rfl)) (.cons (J_var ((T.var rfl).comp k rfl rfl rfl rfl)) .nil)))) fun _ _ kk hv => F_pads ((gr.keeps k).keeps kk) (n := n + 3) r (by omega) (by omega) hv) fun _ _ _ _ => V_addL ?_
      have := pads_len (N := N) (k := y) (by omega) (by omega) hN4
      unfold padsOf at this
      omega
    obtain ⟨scH, boH, DH⟩ := D_high (w := w)
    obtain ⟨scL, boL, DL⟩ := D_low (w := w)
    have ten : ∀ f : Int → Nat, JoinOk "" ((upto 10).map fun c => chr1 (f c)) = true := fun f => joinOk1 (fun y hy => by
      obtain ⟨c, _, rfl⟩ := List.mem_map.mp hy
      exact Nat.le_refl 1) (by simp)
    have gr : Gr (KK w) (ext m hp s.heap) := g.keeps T.base
    refine XB_comp (RB := strR) upOf T (.inl rfl) rfl rfl rfl (by decide) (.inr ⟨rfl, fun _ => rfl, fun _ => rfl⟩) (GI_list r.handled (J_var (T.var rfl))) (by simp; omega) (fun C m' v rows k hk rk nk => ?_) fun s T => ?_
    · refine J_join (ten _) J_str (J_map (RA := intR) (fun c => chr1 (hiC (colC rows c))) rfl rfl (by decide) (.inr ⟨rfl, fun _ => rfl, fun _ => rfl⟩) (GI_range (n := 10) r.handled ((gr.keeps k).builtin rfl rfl rfl rfl rfl bb_range (by decide)) rfl J_int (by decide)) (by decide) fun C2 m2 v2 c k2 hc rc nc => ?_)
      have hcb := mem_upto' hc
      obtain ⟨y, hy, rfl⟩ := List.mem_map.mp hk
      have hyb := mem_upto' hy
      have rl : (rowsOf (numsOf xs) N y).length ≤ 8 ∧ 2 ≤ (rowsOf (numsOf xs) N y).length := by
        have := pads_len (N := N) (k := y) (by omega) (by omega) hN4
        rw [rowsOf, List.length_append, fll]; omega
      have cl : (colC (rowsOf (numsOf xs) N y) c).length = (rowsOf (numsOf xs) N y).length := by simp [colC]
      have il : (isort (colC (rowsOf (numsOf xs) N y) c)).length = (rowsOf (numsOf xs) N y).length := by rw [(isort_perm _).length_eq, cl]
      refine J_fn DH ((gr.keeps k).keeps k2) (((gr.keeps k).keeps k2).global rfl rfl rfl rfl) (.cons (J_map (RA := strR) (fun row : Str => chr1 (row.cps.getD c.toNat 0)) rfl rfl (by decide) (.inl ⟨rfl, fun _ => rfl⟩) (GI_list r.handled (J_var ((Var.of_nm nk rk).free k2 (.inl rfl) (.inl rfl) rfl rfl))) (by omega) fun C3 m3 v3 row k3 hr rr nr =>
        J_itemS hcb.1 (by omega) (cps_some (by rw [rows_size row hr]; omega)) (fun _ _ => rfl) (J_name (NmS.nm nr) rr) (J_var ((Var.of_nm nc rc).free k3 (.inl rfl) (.inl rfl) rfl rfl))) .nil) fun _ _ kk hv => F_high (((gr.keeps k).keeps k2).keeps kk) (n := n + 3) r (by rw [List.length_map]; omega) (fun zs hp hs => sorted_one (cs := colC (rowsOf (numsOf xs) N y) c) (by rw [colC, List.map_map]; exact hp) hs) (by rw [List.length_map]; omega) (by rw [List.length_map]; omega) ?_ hv
      rw [List.length_map, sort_get (by omega)]; rfl
    have gr : Gr (KK w) (ext m hp s.heap) := g.keeps T.base
    refine XB_assign (R := listR strR) (a := ((upto (N + 1)).map (rowsOf (numsOf xs) N)).map dnOf) T (.inr ⟨rfl, rfl⟩) rfl (J_map (RA := listR strR) dnOf rfl rfl (by decide) (.inr ⟨rfl, fun _ => rfl, fun _ => rfl⟩) (GI_list r.handled (J_var (T.var rfl))) (by simp; omega) fun C m' v rows k hk rk nk => ?_) fun s T => ?_
    · refine J_join (ten _) J_str (J_map (RA := intR) (fun c => chr1 (loC (colC rows c))) rfl rfl (by decide) (.inr ⟨rfl, fun _ => rfl, fun _ => rfl⟩) (GI_range (n := 10) r.handled ((gr.keeps k).builtin rfl rfl rfl rfl rfl bb_range (by decide)) rfl J_int (by decide)) (by decide) fun C2 m2 v2 c k2 hc rc nc => ?_)
      have hcb := mem_upto' hc
      obtain ⟨y, hy, rfl⟩ := List.mem_map.mp hk
      have hyb := mem_upto' hy
      have rl : (rowsOf (numsOf xs) N y).length ≤ 8 ∧ 2 ≤ (rowsOf (numsOf xs) N y).length := by
        have := pads_len (N := N) (k := y) (by omega) (by omega) hN4
        rw [rowsOf, List.length_append, fll]; omega
      have ev : (rowsOf (numsOf xs) N y).length % 2 = 0 := by
        rw [rowsOf, List.length_append, fll]
        unfold padsOf
        split <;> rw [List.length_replicate] <;> omega
      have cl : (colC (rowsOf (numsOf xs) N y) c).length = (rowsOf (numsOf xs) N y).length := by simp [colC]
      have il : (isort (colC (rowsOf (numsOf xs) N y) c)).length = (rowsOf (numsOf xs) N y).length := by rw [(isort_perm _).length_eq, cl]
      refine J_fn DL ((gr.keeps k).keeps k2) (((gr.keeps k).keeps k2).global rfl rfl rfl rfl) (.cons (J_map (RA := strR) (fun row : Str => chr1 (row.cps.getD c.toNat 0)) rfl rfl (by decide) (.inl ⟨rfl, fun _ => rfl⟩) (GI_list r.handled (J_var ((Var.of_nm nk rk).free k2 (.inl rfl) (.inl rfl) rfl rfl))) (by omega) fun C3 m3 v3 row k3 hr rr nr =>
        J_itemS hcb.1 (by omega) (cps_some (by rw [rows_size row hr]; omega)) (fun _ _ => rfl) (J_name (NmS.nm nr) rr) (J_var ((Var.of_nm nc rc).free k3 (.inl rfl) (.inl rfl) rfl rfl))) .nil) fun _ _ kk hv => F_low (((gr.keeps k).keeps k2).keeps kk) (n := n + 3) r (by rw [List.length_map]; omega) (fun zs hp hs => sorted_one (cs := colC (rowsOf (numsOf xs) N y) c) (by rw [colC, List.map_map]; exact hp) hs) (by rw [List.length_map]; omega) (by rw [List.length_map, il]; exact ev) (by rw [List.length_map]; omega) ?_ hv
      rw [List.length_map, sort_get (by omega)]; rfl
    have fsz : ∀ row ∈ filesOf (numsOf xs) N, row.cps.size = 10 := fun row h => by
      obtain ⟨z, _, rfl⟩ := List.mem_map.mp h
      exact fmOf_size z
    have gr : Gr (KK w) (ext m hp s.heap) := g.keeps T.base
    refine XB_assign (R := listR (listR strR)) (a := colsOf (filesOf (numsOf xs) N)) T (.inr ⟨rfl, rfl⟩) rfl (J_map (RA := intR) (colS (filesOf (numsOf xs) N)) rfl rfl (by decide) (.inr ⟨rfl, fun _ => rfl, fun _ => rfl⟩) (GI_range (n := 10) r.handled (gr.builtin rfl rfl rfl rfl rfl bb_range (by decide)) rfl J_int (by decide)) (by decide) fun C m' v c k hc rc nc => ?_) fun s T => ?_
    · have hcb := mem_upto' hc
      refine J_down ((gr.keeps k).builtin rfl rfl rfl rfl rfl bb_sorted (by decide)) (J_map (RA := strR) (xs := filesOf (numsOf xs) N) (fun row : Str => chr1 (row.cps.getD c.toNat 0)) rfl rfl (by decide) (.inl ⟨rfl, fun _ => rfl⟩) (GI_list r.handled (J_var ((T.var rfl).comp k rfl rfl rfl rfl))) (by omega) fun C3 m3 v3 row k3 hr rr nr =>
        J_itemS hcb.1 (by omega) (cps_some (by rw [fsz row hr]; omega)) (fun _ _ => rfl) (J_name (NmS.nm nr) rr) (J_var ((Var.of_nm nc rc).free k3 (.inl rfl) (.inl rfl) rfl rfl))) (by rw [List.length_map]; omega) (fun zs hp hs => by
          rw [sorted_one (cs := colC (filesOf (numsOf xs) N) c) (by rw [colC, List.map_map]; exact hp) hs]; rfl) rfl
    have gr : Gr (KK w) (ext m hp s.heap) := g.keeps T.base
    have clen : ∀ column ∈ colsOf (filesOf (numsOf xs) N), column.length = N := fun column h => by
      obtain ⟨c, _, rfl⟩ := List.mem_map.mp h
      simp [colS, (isort_perm _).length_eq, colC, fll]
    refine XB_comp (RB := strR) (dueAt (filesOf (numsOf xs) N)) T (.inl rfl) rfl rfl rfl (by decide) (.inr ⟨rfl, fun _ => rfl, fun _ => rfl⟩) (GI_range (n := N) r.handled (gr.builtin rfl rfl rfl rfl rfl bb_range (by decide)) rfl (J_var (T.var rfl)) (by omega)) (by simp; omega) (fun C m' v k kk hk rk nk => ?_) fun s T => ?_
    · have hkb := mem_upto' hk
      refine J_join ?_ J_str (J_map (RA := listR strR) (fun column : List Str => column.getD k.toNat "") rfl rfl (by decide) (.inl ⟨rfl, fun _ => rfl⟩) (GI_list r.handled (J_var ((T.var rfl).comp kk rfl rfl rfl rfl))) (by simp [colsOf]; omega) fun C3 m3 v3 column k3 hr rr nr =>
        J_itemL hkb.1 (by omega) (getD_some (by rw [clen column hr]; omega)) (fun _ _ => rfl) (J_name (NmS.nm nr) rr) (J_var ((Var.of_nm nk rk).free k3 (.inl rfl) (.inl rfl) rfl rfl)))
      refine joinOk1 (fun y hy => ?_) (by simp [colsOf])
      obtain ⟨column, hcol, rfl⟩ := List.mem_map.mp hy
      have hl := clen column hcol
      obtain ⟨c, _, rfl⟩ := List.mem_map.mp hcol
      have hm : (colS (filesOf (numsOf xs) N) c).getD k.toNat "" ∈ colS (filesOf (numsOf xs) N) c := by
        rw [List.getD_eq_getElem?_getD, List.getElem?_eq_getElem (by omega)]
        exact List.getElem_mem _
      obtain ⟨z, _, e⟩ := List.mem_map.mp (List.mem_reverse.mp hm)
      rw [← e]; exact Nat.le_refl 1
    refine XB_skip T ((T_or2 (b₁ := false) (b₂ := false) ((T_cmp (J_var (T.var rfl)) (J_binop (J_list (.allCons J_str .allNil) (by show 1 ≤ sizeLine; omega)) (J_var (T.var rfl)) fun _ _ _ _ => V_addL (by simp; omega)) fun _ _ _ _ => V_neL eqR_str (by omega)).to (by rw [OK.ups, listEq_beq]; simp)) fun _ => (T_cmp (J_var (T.var rfl)) (J_binop (J_var (T.var rfl)) (J_list (.allCons J_str .allNil) (by show 1 ≤ sizeLine; omega)) fun _ _ _ _ => V_addL (by simp; omega)) fun _ _ _ _ => V_neL eqR_str (by omega)).to (by rw [OK.dns, listEq_beq]; simp)).to rfl) fun s T => ?_
    have gr : Gr (KK w) (ext m hp s.heap) := g.keeps T.base
    refine XB_comp (RB := intR) backOf T (.inl rfl) rfl rfl rfl (by decide) (.inl ⟨rfl, fun _ => rfl⟩) (GI_list r.handled (J_var (T.var rfl))) (by simp; omega) (fun C m' v y k hk rk nk => J_fn DB (gr.keeps k) ((gr.keeps k).global rfl rfl rfl rfl) (.cons (J_name (NmS.nm nk) rk) .nil) fun _ _ kk hv => F_back ((gr.keeps k).keeps kk) (n := n + 3) r (OK.dsz y hk) hv) fun s T => ?_
    have gr : Gr (KK w) (ext m hp s.heap) := g.keeps T.base
    refine XB_skip T ((T_or2 (b₁ := false) (b₂ := false) ((T_cmp (J_bf (gr.builtin rfl rfl rfl rfl rfl bb_sum (by decide)) (.cons (J_var (T.var rfl)) .nil) fun _ _ _ h => C_sum r.handled h) (J_bf (gr.builtin rfl rfl rfl rfl rfl bb_sum (by decide)) (.cons (J_var (T.var rfl)) .nil) fun _ _ _ h => C_sum (xs := givenOf (numsOf xs) N) r.handled h) fun _ _ _ _ => V_neI).to (by rw [OK.msum]; simp)) fun _ => (T_cmp (J_map (RA := intR) fmOf rfl rfl (by decide) (.inl ⟨rfl, fun _ => rfl⟩) (GI_list r.handled (J_var (T.var rfl))) (by simp; omega) fun C m' v y k hk rk nk => J_fn DF (gr.keeps k) ((gr.keeps k).global rfl rfl rfl rfl) (.cons (J_name (NmS.nm nk) rk) .nil) fun _ _ kk hv => F_filemode ((gr.keeps k).keeps kk) (n := n + 2) r hv) (J_var (T.var rfl)) fun _ _ _ _ => V_neL eqR_str (by omega)).to (by rw [OK.mfm, listEq_beq]; simp)).to rfl) fun s T => ?_
    have n1 := (N0.get (j := 1) (by omega) (by omega)).2
    have f1 := fdiv_fmod_facts ((numsOf xs).getD 1 0) 6
    have f2 := fdiv_fmod_facts (((numsOf xs).getD 1 0).fdiv 6) 6
    refine XB_assign (R := listR intR) (a := [placeA (numsOf xs), placeB (numsOf xs)]) T (.inl rfl) rfl (J_list (.allCons (J_itemT (j := ((numsOf xs).getD 1 0).fmod 6) (by omega) (by omega) (ks1_get (by omega) (by omega)) (fun _ _ => rfl) (J_tuple (xs := ks1) (.allCons J_int (.allCons J_int (.allCons J_int (.allCons J_int (.allCons J_int (.allCons J_int .allNil)))))) (by show 6 ≤ sizeLine; omega)) (J_binop (J_itemL (j := 1) (by omega) (by omega) (N0.get (j := 1) (by omega) (by omega)).1 (fun _ _ => rfl) (J_var (T.var rfl)) J_int) J_int fun _ _ _ _ => V_mod (by decide))) (.allCons (J_itemT (j := (((numsOf xs).getD 1 0).fdiv 6).fmod 6) (by omega) (by omega) (ks1_get (by omega) (by omega)) (fun _ _ => rfl) (J_tuple (xs := ks1) (.allCons J_int (.allCons J_int (.allCons J_int (.allCons J_int (.allCons J_int (.allCons J_int .allNil)))))) (by show 6 ≤ sizeLine; omega)) (J_binop (J_binop (J_itemL (j := 1) (by omega) (by omega) (N0.get (j := 1) (by omega) (by omega)).1 (fun _ _ => rfl) (J_var (T.var rfl)) J_int) J_int fun _ _ _ _ => V_div (by decide) (PyProof.noPylong_small (by
        have : ((1 : Int)).toNat = 1 := rfl
        omega))) J_int fun _ _ _ _ => V_mod (by decide))) .allNil)) (by show 2 ≤ sizeLine; omega)) fun s T => ?_
    obtain ⟨scS, boS, DS⟩ := D_signs (w := w)
    have gr : Gr (KK w) (ext m hp s.heap) := g.keeps T.base
    refine XB_assign (R := listR (listR strR)) (a := askedOf (numsOf xs)) T (.inl rfl) rfl (J_list (.allCons (J_fn DS gr (gr.global rfl rfl rfl rfl) (.cons (J_upto (xs := [placeA (numsOf xs), placeB (numsOf xs)]) (k := 1) (J_var (T.var rfl)) J_int (by show 2 ≤ sizeLine; omega) fun _ _ => rfl) .nil) fun _ _ kk hv => F_signs (gr.keeps kk) (n := n + 3) r hv) (.allCons (J_fn DS gr (gr.global rfl rfl rfl rfl) (.cons (J_from (xs := [placeA (numsOf xs), placeB (numsOf xs)]) (k := 1) (J_var (T.var rfl)) J_int (by show 2 ≤ sizeLine; omega) fun _ _ => rfl) .nil) fun _ _ kk hv => F_signs (gr.keeps kk) (n := n + 3) r hv) (.allCons (J_fn DS gr (gr.global rfl rfl rfl rfl) (.cons (J_var (T.var rfl)) .nil) fun _ _ kk hv => F_signs (gr.keeps kk) (n := n + 3) r hv) .allNil))) (by show 3 ≤ sizeLine; omega)) fun s T => ?_
    obtain ⟨scT, boT, DT⟩ := D_translate (w := w)
    obtain ⟨scP2, boP2, DP2⟩ := D_pattern (w := w)
    obtain ⟨scR, boR, DR⟩ := D_read (w := w)
    have gr : Gr (KK w) (ext m hp s.heap) := g.keeps T.base
    refine XB_comp (RB := listR strR) id T (.inl rfl) rfl rfl rfl (by decide) (.inl ⟨rfl, fun _ => rfl⟩) (GI_list r.handled (J_var (T.var rfl))) (by show 3 ≤ sizeLine; omega) (fun C m' v y k hk rk nk => ?_) fun s T => ?_
    · obtain ⟨o1, o2, b, hb, hbl, hr, hp, hc, he⟩ := OK.rd y hk
      refine (J_fn DR (gr.keeps k) ((gr.keeps k).global rfl rfl rfl rfl) (.cons (R := strR) (a := jnOf b) (J_fn DT (gr.keeps k) ((gr.keeps k).global rfl rfl rfl rfl) (.cons (R := strR) (a := ⟨(b ++ [42]).toArray⟩) ((J_fn DP2 (gr.keeps k) ((gr.keeps k).global rfl rfl rfl rfl) (.cons (J_name (NmS.nm nk) rk) .nil) fun _ _ kk hv => F_pattern ((gr.keeps k).keeps kk) (n := n + 3) r o1 o2 hr hv).to hp) .nil) fun _ _ kk hv => F_translate ((gr.keeps k).keeps kk) (n := n + 1) r hb (by omega) hv) .nil) fun _ _ kk hv => F_read ((gr.keeps k).keeps kk) (n := n + 3) r hb hbl hc hv).to he
    rw [List.map_id] at T
    refine XB_skip T ((T_cmp (J_var (T.var rfl)) (J_var (T.var rfl)) fun _ _ _ _ => V_neL eqR_strs (by omega)).to (by rw [listEq_refl (listEq_refl fun x => by simp)]; rfl)) fun s T => ?_
    obtain ⟨scK, boK, DK⟩ := D_taken (w := w)
    have gr : Gr (KK w) (ext m hp s.heap) := g.keeps T.base
    have fsz : ∀ row ∈ filesOf (numsOf xs) N, row.cps.size = 10 := fsz
    have ask10 : ∀ signs ∈ askedOf (numsOf xs), signs.length = 10 := fun signs h => by
      simp only [askedOf, List.mem_cons, List.not_mem_nil, or_false] at h
      rcases h with rfl | rfl | rfl <;> simp [sg]
    refine XB_comp (RB := intR) (fun signs => (taken signs (filesOf (numsOf xs) N) : Int)) T (.inl rfl) rfl rfl rfl (by decide) (.inl ⟨rfl, fun _ => rfl⟩) (GI_list r.handled (J_upto (xs := askedOf (numsOf xs)) (k := 2) (J_var (T.var rfl)) J_int (by show 3 ≤ sizeLine; omega) fun _ _ => rfl)) (by show 2 ≤ sizeLine; omega) (fun C m' v y k hk rk nk => ?_) fun s T => ?_
    · exact J_fn DK (gr.keeps k) ((gr.keeps k).global rfl rfl rfl rfl) (.cons (J_name (NmS.nm nk) rk) (.cons (J_var ((T.var rfl).comp k rfl rfl rfl rfl)) .nil)) fun _ _ kk hv => F_taken ((gr.keeps k).keeps kk) (n := n + 3) r (ask10 y (List.mem_of_mem_take hk)) fsz (by omega) hv
    have gr : Gr (KK w) (ext m hp s.heap) := g.keeps T.base
    have dl : (((upto (N + 1)).map (rowsOf (numsOf xs) N)).map dnOf).take N = (upto N).map (dueAt (filesOf (numsOf xs) N)) := by
      rw [OK.dns, List.take_append_of_le_length (by simp), List.take_of_length_le (by simp)]
    refine XB_ret T ((J_cmp (J_map (RA := listR strR) (fun signs => (taken signs ((upto N).map (dueAt (filesOf (numsOf xs) N))) : Int)) rfl rfl (by decide) (.inl ⟨rfl, fun _ => rfl⟩) (GI_list r.handled (J_var (T.var rfl))) (by show 3 ≤ sizeLine; omega) fun C m' v y k hk rk nk => ?_) (J_binop (J_var (T.var rfl)) (J_list (xs := [min (taken (sg [placeA (numsOf xs)]) (filesOf (numsOf xs) N) : Int) (taken (sg [placeB (numsOf xs)]) (filesOf (numsOf xs) N) : Int)]) (.allCons (J_bf (gr.builtin rfl rfl rfl rfl rfl bb_min (by decide)) (.cons (J_var (T.var rfl)) .nil) fun _ _ _ h => C_min r.handled (by show 0 < 2; omega) ?_ h) .allNil) (by show 1 ≤ sizeLine; omega)) fun _ _ _ _ => V_addL (by show 2 + 1 ≤ sizeLine; omega)) fun _ _ _ _ => V_eqL eqR_int (by omega)).to ?_)
    · exact J_fn DK (gr.keeps k) ((gr.keeps k).global rfl rfl rfl rfl) (.cons (J_name (NmS.nm nk) rk) (.cons ((J_upto (k := N) (J_var ((T.var rfl).comp k rfl rfl rfl rfl)) (J_var ((T.var rfl).comp k rfl rfl rfl rfl)) (by simp; omega) fun _ _ => rfl).to dl) .nil)) fun _ _ kk hv => F_taken ((gr.keeps k).keeps kk) (n := n + 3) r (ask10 y hk) OK.dsz (by simp; omega) hv
    · intro M hM hle
      simp only [askedOf, List.take, List.map_cons, List.map_nil, List.mem_cons, List.not_mem_nil, or_false] at hM hle
      have h1 := hle _ (.inl rfl)
      have h2 := hle _ (.inr rfl)
      omega
    · rw [OK.hoef, listEq_beq]
      simp [askedOf]
end
end
-- part P3
section
open PySem PySem.W PyProof.Rows PySem.Calls
set_option maxRecDepth 100000
set_option maxHeartbeats 4000000

/-- the number that a kind and the bits make -/
def numK (K : Nat) (b : Nat → Nat) : Nat := K * 4096 + b 11 * 2048 + b 10 * 1024 + b 9 * 512 + b 8 * 256 + b 7 * 128 + b 6 * 64 + b 5 * 32 + b 4 * 16 + b 3 * 8 + b 2 * 4 + b 1 * 2 + b 0
def kindsN : List Nat := [1, 2, 4, 6, 8, 10, 12]
theorem f_r : ∀ b : Fin 2, Txt.find ("-" ++ chr1 ((Str.ofString "-rw-rw-rw-").cps.getD 1 0)) (chr1 (er b.val)) = b.val := by decide +kernel
theorem f_w : ∀ b : Fin 2, Txt.find ("-" ++ chr1 ((Str.ofString "-rw-rw-rw-").cps.getD 2 0)) (chr1 (ew b.val)) = b.val := by decide +kernel
theorem f_x : ∀ x s : Fin 2, Txt.find "-xSs" (chr1 (ex x.val s.val)) = x.val + 2 * s.val := by decide +kernel
theorem f_t : ∀ x s : Fin 2, Txt.find "-xTt" (chr1 (et x.val s.val)) = x.val + 2 * s.val := by decide +kernel
theorem f_0 : ∀ K ∈ kindsN, Txt.find "?pc?d?b?-?l?s" (chr1 (e0 K)) = K := by decide +kernel
section
variable {K : Nat} {b : Nat → Nat}
theorem back_x (x : Str) (k : Int) (u s : Fin 2) (n : Str) (hn : (if k < 9 then ("-xSs" : Str) else "-xTt") = n) (c : Nat) (hc : x.cps.getD k.toNat 0 = c) (hf : Txt.find n (chr1 c) = u.val + 2 * s.val) (p q : Int) (hp : (2 : Int) ^ (9 - k).toNat = p) (hq : (2 : Int) ^ (12 - k.fdiv 3).toNat = q) :
    back2 x k = u.val * p + s.val * q := by
  have e : place2 x k = u.val + 2 * s.val := by
    unfold place2
    rw [hn, hc, hf]
  unfold back2
  rw [e, hp, hq]
  have e1 : ((u.val : Int) + 2 * s.val).fmod 2 = u.val := by
    rw [Int.fmod_eq_emod_of_nonneg _ (by decide)]; omega
  have e2 : ((u.val : Int) + 2 * s.val).fdiv 2 = s.val := by
    rw [Int.fdiv_eq_ediv_of_nonneg _ (by decide)]; omega
  rw [e1, e2]
theorem back_row (hK : K ∈ kindsN) (hb : ∀ j, b j < 2) : backOf ⟨(rowK K b).toArray⟩ = (numK K b : Int) := by
  have h0 : back0 ⟨(rowK K b).toArray⟩ = K * 4096 := by
    show Txt.find "?pc?d?b?-?l?s" (chr1 (e0 K)) * 4096 = _
    rw [f_0 K hK]
  have r1 : back1 ⟨(rowK K b).toArray⟩ 1 = b 8 * 256 := by
    have := f_r ⟨b 8, hb 8⟩
    show Txt.find ("-" ++ chr1 ((Str.ofString "-rw-rw-rw-").cps.getD 1 0)) (chr1 (er (b 8))) * 256 = _
    rw [this]
  have r4 : back1 ⟨(rowK K b).toArray⟩ 4 = b 5 * 32 := by
    have := f_r ⟨b 5, hb 5⟩
    show Txt.find ("-" ++ chr1 ((Str.ofString "-rw-rw-rw-").cps.getD 1 0)) (chr1 (er (b 5))) * 32 = _
    rw [this]
  have r7 : back1 ⟨(rowK K b).toArray⟩ 7 = b 2 * 4 := by
    have := f_r ⟨b 2, hb 2⟩
    show Txt.find ("-" ++ chr1 ((Str.ofString "-rw-rw-rw-").cps.getD 1 0)) (chr1 (er (b 2))) * 4 = _
    rw [this]
  have w2 : back1 ⟨(rowK K b).toArray⟩ 2 = b 7 * 128 := by
    have := f_w ⟨b 7, hb 7⟩
    show Txt.find ("-" ++ chr1 ((Str.ofString "-rw-rw-rw-").cps.getD 2 0)) (chr1 (ew (b 7))) * 128 = _
    rw [this]
  have w5 : back1 ⟨(rowK K b).toArray⟩ 5 = b 4 * 16 := by
    have := f_w ⟨b 4, hb 4⟩
    show Txt.find ("-" ++ chr1 ((Str.ofString "-rw-rw-rw-").cps.getD 2 0)) (chr1 (ew (b 4))) * 16 = _
    rw [this]
  have w8 : back1 ⟨(rowK K b).toArray⟩ 8 = b 1 * 2 := by
    have := f_w ⟨b 1, hb 1⟩
    show Txt.find ("-" ++ chr1 ((Str.ofString "-rw-rw-rw-").cps.getD 2 0)) (chr1 (ew (b 1))) * 2 = _
    rw [this]
  have x3 := back_x ⟨(rowK K b).toArray⟩ 3 ⟨b 6, hb 6⟩ ⟨b 11, hb 11⟩ "-xSs" rfl _ rfl (f_x ⟨b 6, hb 6⟩ ⟨b 11, hb 11⟩) 64 2048 (by decide) (by decide)
  have x6 := back_x ⟨(rowK K b).toArray⟩ 6 ⟨b 3, hb 3⟩ ⟨b 10, hb 10⟩ "-xSs" rfl _ rfl (f_x ⟨b 3, hb 3⟩ ⟨b 10, hb 10⟩) 8 1024 (by decide) (by decide)
  have x9 := back_x ⟨(rowK K b).toArray⟩ 9 ⟨b 0, hb 0⟩ ⟨b 9, hb 9⟩ "-xTt" rfl _ rfl (f_t ⟨b 0, hb 0⟩ ⟨b 9, hb 9⟩) 1 512 (by decide) (by decide)
  unfold backOf
  simp only [ks1, ks2, List.map_cons, List.map_nil, List.sum_cons, List.sum_nil, h0, r1, w2, r4, w5, r7, w8, x3, x6, x9, numK]
  omega
theorem num_bits (hb : ∀ j, b j < 2) : numK K b / 4096 = K ∧ ∀ j : Nat, j < 12 → numK K b / 2 ^ j % 2 = b j := by
  have h0 := hb 0; have h1 := hb 1; have h2 := hb 2; have h3 := hb 3; have h4 := hb 4; have h5 := hb 5
  have h6 := hb 6; have h7 := hb 7; have h8 := hb 8; have h9 := hb 9; have h10 := hb 10; have h11 := hb 11
  unfold numK
  refine ⟨by omega, fun j hj => ?_⟩
  match j, hj with
  | 0, _ => show _ / 1 % 2 = _; omega
  | 1, _ => show _ / 2 % 2 = _; omega
  | 2, _ => show _ / 4 % 2 = _; omega
  | 3, _ => show _ / 8 % 2 = _; omega
  | 4, _ => show _ / 16 % 2 = _; omega
  | 5, _ => show _ / 32 % 2 = _; omega
  | 6, _ => show _ / 64 % 2 = _; omega
  | 7, _ => show _ / 128 % 2 = _; omega
  | 8, _ => show _ / 256 % 2 = _; omega
  | 9, _ => show _ / 512 % 2 = _; omega
  | 10, _ => show _ / 1024 % 2 = _; omega
  | 11, _ => show _ / 2048 % 2 = _; omega
  | n + 12, h => exact absurd h (by omega)
theorem kinds_lt (hK : K ∈ kindsN) : K < 16 := by
  have : ∀ K ∈ kindsN, K < 16 := by decide
  exact this K hK
theorem fm_num (hK : K ∈ kindsN) (hb : ∀ j, b j < 2) : fmOf (numK K b : Int) = ⟨(rowK K b).toArray⟩ := by
  obtain ⟨h1, h2⟩ := num_bits (K := K) hb
  have hlt := kinds_lt hK
  rw [fm_row _ (by omega), h1]
  unfold rowK
  simp only [h2 0 (by omega), h2 1 (by omega), h2 2 (by omega), h2 3 (by omega), h2 4 (by omega), h2 5 (by omega), h2 6 (by omega), h2 7 (by omega), h2 8 (by omega), h2 9 (by omega), h2 10 (by omega), h2 11 (by omega)]
theorem two_step (z a : Nat) : z / a = 2 * (z / (a * 2)) + z / a % 2 := by
  rw [← Nat.div_div_eq_div_mul]; omega
theorem num_of (z : Nat) : z = numK (z / 4096) (fun j => z / 2 ^ j % 2) := by
  unfold numK
  show z = _ + z / 2048 % 2 * 2048 + z / 1024 % 2 * 1024 + z / 512 % 2 * 512 + z / 256 % 2 * 256 + z / 128 % 2 * 128 + z / 64 % 2 * 64 + z / 32 % 2 * 32 + z / 16 % 2 * 16 + z / 8 % 2 * 8 + z / 4 % 2 * 4 + z / 2 % 2 * 2 + z / 1 % 2
  have h0 := two_step z 1
  have h1 := two_step z 2
  have h2 := two_step z 4
  have h3 := two_step z 8
  have h4 := two_step z 16
  have h5 := two_step z 32
  have h6 := two_step z 64
  have h7 := two_step z 128
  have h8 := two_step z 256
  have h9 := two_step z 512
  have h10 := two_step z 1024
  have h11 := two_step z 2048
  have hz : z = z / 1 := (Nat.div_one z).symm
  simp only [Nat.reduceMul] at h0 h1 h2 h3 h4 h5 h6 h7 h8 h9 h10 h11
  generalize z / 2048 % 2 = r11 at *
  generalize z / 1024 % 2 = r10 at *
  generalize z / 512 % 2 = r9 at *
  generalize z / 256 % 2 = r8 at *
  generalize z / 128 % 2 = r7 at *
  generalize z / 64 % 2 = r6 at *
  generalize z / 32 % 2 = r5 at *
  generalize z / 16 % 2 = r4 at *
  generalize z / 8 % 2 = r3 at *
  generalize z / 4 % 2 = r2 at *
  generalize z / 2 % 2 = r1 at *
  generalize z / 1 % 2 = r0 at *
  generalize z / 4096 = q12 at *
  generalize z / 2048 = q11 at *
  generalize z / 1024 = q10 at *
  generalize z / 512 = q9 at *
  generalize z / 256 = q8 at *
  generalize z / 128 = q7 at *
  generalize z / 64 = q6 at *
  generalize z / 32 = q5 at *
  generalize z / 16 = q4 at *
  generalize z / 8 = q3 at *
  generalize z / 4 = q2 at *
  generalize z / 2 = q1 at *
  generalize z / 1 = q0 at *
  omega
end
/-- the text is a listing of a mode of a known kind -/
def Row (x : Str) : Prop := ∃ K b, K ∈ kindsN ∧ (∀ j, b j < 2) ∧ x = ⟨(rowK K b).toArray⟩
theorem Row.fm {x : Str} (h : Row x) : fmOf (backOf x) = x := by
  obtain ⟨K, b, hK, hb, rfl⟩ := h
  rw [back_row hK hb, fm_num hK hb]
theorem Row.size {x : Str} (h : Row x) : x.cps.size = 10 := by
  obtain ⟨K, b, hK, hb, rfl⟩ := h
  rfl
theorem mode_row {z : Nat} (h : z / 4096 ∈ kindsN) : Row (fmOf z) ∧ backOf (fmOf z) = z := by
  have hb : ∀ j, (fun j => z / 2 ^ j % 2) j < 2 := fun j => Nat.mod_lt _ (by decide)
  have hz := num_of z
  generalize (fun j => z / 2 ^ j % 2) = b at hb hz
  have e := fm_num h hb
  rw [← hz] at e
  refine ⟨⟨_, b, h, hb, e⟩, ?_⟩
  rw [e, back_row h hb, ← hz]

/-- the signs that may stand in column c -/
def V (c : Nat) : List Nat := if c = 0 then [112, 99, 100, 98, 45, 108, 115] else if c % 3 = 1 then [45, 114] else if c % 3 = 2 then [45, 119] else if c = 9 then [45, 120, 84, 116] else [45, 120, 83, 115]
def hs : List Nat := [115, 114, 119, 120, 114, 119, 120, 114, 119, 120]
theorem V_bd : ∀ c : Fin 10, ∀ v ∈ V c.val, 45 ≤ v ∧ v ≤ hs.getD c.val 0 := by decide
def dk (v : Nat) : Nat := if v = 112 then 1 else if v = 99 then 2 else if v = 100 then 4 else if v = 98 then 6 else if v = 45 then 8 else if v = 108 then 10 else 12
def db (v : Nat) : Nat := if v = 45 then 0 else 1
def dx (v : Nat) : Nat := if v = 120 ∨ v = 115 ∨ v = 116 then 1 else 0
def ds (v : Nat) : Nat := if v = 83 ∨ v = 115 ∨ v = 84 ∨ v = 116 then 1 else 0
theorem in_V : ∀ (K : Nat), K ∈ kindsN → ∀ b : Nat → Nat, ∀ c : Nat, c < 10 → (rowK K b).getD c 0 ∈ V c := by
  intro K hK b c hc
  have h0 : ∀ K ∈ kindsN, e0 K ∈ V 0 := by decide
  have hr : ∀ n, er n ∈ [45, 114] := fun n => by unfold er; split <;> simp
  have hw : ∀ n, ew n ∈ [45, 119] := fun n => by unfold ew; split <;> simp
  have hx : ∀ n m, ex n m ∈ [45, 120, 83, 115] := fun n m => by unfold ex; split <;> split <;> simp
  have ht : ∀ n m, et n m ∈ [45, 120, 84, 116] := fun n m => by unfold et; split <;> split <;> simp
  match c, hc with
  | 0, _ => exact h0 K hK
  | 1, _ => exact hr _
  | 2, _ => exact hw _
  | 3, _ => exact hx _ _
  | 4, _ => exact hr _
  | 5, _ => exact hw _
  | 6, _ => exact hx _ _
  | 7, _ => exact hr _
  | 8, _ => exact hw _
  | 9, _ => exact ht _ _
  | n + 10, h => exact absurd h (by omega)
theorem Row.inV {x : Str} (h : Row x) (c : Nat) (hc : c < 10) : x.cps.getD c 0 ∈ V c := by
  obtain ⟨K, b, hK, hb, rfl⟩ := h
  have e : (⟨(rowK K b).toArray⟩ : Str).cps.getD c 0 = (rowK K b).getD c 0 := by simp [Array.getD_eq_getD_getElem?, List.getD_eq_getElem?_getD]
  rw [e]
  exact in_V K hK b c hc
theorem row_of (f : Nat → Nat) (h : ∀ c, c < 10 → f c ∈ V c) : Row ⟨((List.range 10).map f).toArray⟩ := by
  have h0 : ∀ v ∈ V 0, dk v ∈ kindsN ∧ e0 (dk v) = v := by decide
  have hr : ∀ v ∈ [45, 114], er (db v) = v := by decide
  have hw : ∀ v ∈ [45, 119], ew (db v) = v := by decide
  have hx : ∀ v ∈ [45, 120, 83, 115], ex (dx v) (ds v) = v := by decide
  have ht : ∀ v ∈ [45, 120, 84, 116], et (dx v) (ds v) = v := by decide
  have lb : ∀ v, db v < 2 := fun v => by unfold db; split <;> omega
  have lx : ∀ v, dx v < 2 := fun v => by unfold dx; split <;> omega
  have ls : ∀ v, ds v < 2 := fun v => by unfold ds; split <;> omega
  refine ⟨dk (f 0), fun j => match j with | 8 => db (f 1) | 7 => db (f 2) | 6 => dx (f 3) | 11 => ds (f 3) | 5 => db (f 4) | 4 => db (f 5) | 3 => dx (f 6) | 10 => ds (f 6) | 2 => db (f 7) | 1 => db (f 8) | 0 => dx (f 9) | 9 => ds (f 9) | _ => 0, (h0 _ (h 0 (by omega))).1, fun j => ?_, ?_⟩
  · dsimp only; split <;> first | exact lb _ | exact lx _ | exact ls _ | omega
  · show (⟨[f 0, f 1, f 2, f 3, f 4, f 5, f 6, f 7, f 8, f 9].toArray⟩ : Str) = ⟨[e0 (dk (f 0)), er (db (f 1)), ew (db (f 2)), ex (dx (f 3)) (ds (f 3)), er (db (f 4)), ew (db (f 5)), ex (dx (f 6)) (ds (f 6)), er (db (f 7)), ew (db (f 8)), et (dx (f 9)) (ds (f 9))].toArray⟩
    rw [(h0 _ (h 0 (by omega))).2, hr _ (h 1 (by omega)), hw _ (h 2 (by omega)), hx _ (h 3 (by omega)), hr _ (h 4 (by omega)), hw _ (h 5 (by omega)), hx _ (h 6 (by omega)), hr _ (h 7 (by omega)), hw _ (h 8 (by omega)), ht _ (h 9 (by omega))]
end
-- part P4
section
open PySem PySem.W PyProof.Rows PySem.Calls
set_option maxRecDepth 100000
set_option maxHeartbeats 400000

/-- column c, from above -/
def dsc (fs : List Str) (c j : Nat) : Nat := (isort (colC fs c)).reverse.getD j 0
theorem colC_len (fs : List Str) (c : Int) : (isort (colC fs c)).length = fs.length := by rw [(isort_perm _).length_eq]; simp [colC]
theorem due_codes {fs : List Str} {k : Nat} (h : k < fs.length) : dueAt fs (k : Int) = ⟨((List.range 10).map fun c => dsc fs c k).toArray⟩ := by
  rw [← join_chr1]
  unfold dueAt colsOf upto
  rw [List.map_map, List.map_map, List.map_map]
  congr 1
  refine List.map_congr_left fun c _ => ?_
  show (((isort (colC fs (c : Int))).map chr1).reverse).getD k "" = chr1 (dsc fs c k)
  have hl : k < (isort (colC fs (c : Int))).reverse.length := by rw [List.length_reverse, colC_len]; exact h
  rw [← List.map_reverse, List.getD_eq_getElem?_getD, List.getElem?_map, List.getElem?_eq_getElem hl]
  unfold dsc
  rw [List.getD_eq_getElem?_getD, List.getElem?_eq_getElem hl]
  rfl
theorem up_codes (rows : List Str) : upOf rows = ⟨((List.range 10).map fun c : Nat => hiC (colC rows (c : Int))).toArray⟩ := by
  rw [← join_chr1]
  unfold upOf upto
  rw [List.map_map, List.map_map]
  rfl
theorem dn_codes (rows : List Str) : dnOf rows = ⟨((List.range 10).map fun c : Nat => loC (colC rows (c : Int))).toArray⟩ := by
  rw [← join_chr1]
  unfold dnOf upto
  rw [List.map_map, List.map_map]
  rfl
theorem codes_at (f : Nat → Nat) {c : Nat} (h : c < 10) : (⟨((List.range 10).map f).toArray⟩ : Str).cps.getD c 0 = f c := by
  have : c < ((List.range 10).map f).length := by simp; omega
  simp [Array.getD_eq_getD_getElem?, h]
theorem range_getD (l : List Nat) : (List.range l.length).map (fun j => l.getD j 0) = l := by
  refine List.ext_getElem (by simp) fun i h1 h2 => ?_
  simp [List.getD_eq_getElem?_getD, h2]
/-- the due rows' column c -/
theorem due_col {fs : List Str} {c : Nat} (h : c < 10) : colC ((upto fs.length).map (dueAt fs)) (c : Int) = (isort (colC fs (c : Int))).reverse := by
  unfold colC upto
  rw [List.map_map, List.map_map]
  have e := range_getD (isort (colC fs (c : Int))).reverse
  rw [List.length_reverse, colC_len] at e
  conv => rhs; rw [show (List.map (fun row : Str => row.cps.getD ((c : Int)).toNat 0) fs) = colC fs (c : Int) from rfl, ← e]
  refine List.map_congr_left fun k hk => ?_
  show (dueAt fs (k : Int)).cps.getD c 0 = dsc fs c k
  rw [due_codes (List.mem_range.mp hk), codes_at _ h]
theorem due_row {fs : List Str} (hf : ∀ x ∈ fs, Row x) : ∀ x ∈ (upto fs.length).map (dueAt fs), Row x := by
  intro x hx
  obtain ⟨k, hk, rfl⟩ := List.mem_map.mp hx
  obtain ⟨k, hk', rfl⟩ := List.mem_map.mp hk
  have hk := List.mem_range.mp hk'
  rw [due_codes hk]
  refine row_of _ fun c hc => ?_
  have hl : k < (isort (colC fs (c : Int))).reverse.length := by rw [List.length_reverse, colC_len]; exact hk
  have hm : dsc fs c k ∈ isort (colC fs (c : Int)) := by
    unfold dsc
    rw [List.getD_eq_getElem?_getD, List.getElem?_eq_getElem hl]
    exact List.mem_reverse.mp (List.getElem_mem hl)
  have hm := (isort_perm _).mem_iff.mp hm
  obtain ⟨row, hr, e⟩ := List.mem_map.mp hm
  rw [← e]
  exact (hf row hr).inV c hc

-- sums
theorem perm_sum {l l' : List Int} (h : l.Perm l') : l.sum = l'.sum := by
  induction h with
  | nil => rfl
  | cons x _ ih => simp [ih]
  | swap x y l => simp; omega
  | trans _ _ a b => exact a.trans b
theorem sum_add {α : Type} (f g : α → Int) : ∀ l : List α, (l.map fun x => f x + g x).sum = (l.map f).sum + (l.map g).sum
  | [] => rfl
  | x :: l => by
    have := sum_add f g l
    simp only [List.map_cons, List.sum_cons, this]; omega
theorem sum_swap {α β : Type} (f : α → β → Int) (xs : List α) : ∀ ks : List β, (xs.map fun x => (ks.map (f x)).sum).sum = (ks.map fun k => (xs.map fun x => f x k).sum).sum
  | [] => by
    simp only [List.map_nil, List.sum_nil]
    induction xs with
    | nil => rfl
    | cons x xs ih => simp only [List.map_cons, List.sum_cons, ih]; rfl
  | k :: ks => by
    simp only [List.map_cons, List.sum_cons]
    rw [sum_add, sum_swap f xs ks]
theorem col_sum {xs ys : List Str} {c : Int} (h : (colC xs c).Perm (colC ys c)) (g : Str → Int) (g' : Nat → Int) (hg : ∀ x : Str, g x = g' (x.cps.getD c.toNat 0)) : (xs.map g).sum = (ys.map g).sum := by
  have e : ∀ zs : List Str, zs.map g = (colC zs c).map g' := fun zs => by
    unfold colC
    rw [List.map_map]
    exact List.map_congr_left fun x _ => hg x
  rw [e, e]
  exact perm_sum (h.map g')
theorem back_sum {xs ys : List Str} (h : ∀ c : Nat, c < 10 → (colC xs (c : Int)).Perm (colC ys (c : Int))) : (xs.map backOf).sum = (ys.map backOf).sum := by
  have e : ∀ zs : List Str, (zs.map backOf).sum = (zs.map back0).sum + (ks1.map fun k => (zs.map fun x => back1 x k).sum).sum + (ks2.map fun k => (zs.map fun x => back2 x k).sum).sum := fun zs => by
    show (zs.map fun x => (back0 x + (ks1.map (back1 x)).sum) + (ks2.map (back2 x)).sum).sum = _
    rw [sum_add, sum_add, sum_swap back1, sum_swap back2]
  rw [e, e]
  have hk : ∀ k : Int, 0 ≤ k → k < 10 → (colC xs k).Perm (colC ys k) := fun k h0 h1 => by
    have := h k.toNat (by omega)
    rwa [Int.toNat_of_nonneg h0] at this
  have h0 : (xs.map back0).sum = (ys.map back0).sum := col_sum (c := 0) (hk 0 (by omega) (by omega)) back0 (fun v => Txt.find "?pc?d?b?-?l?s" (chr1 v) * 4096) fun x => rfl
  have h1 : (ks1.map fun k => (xs.map fun x => back1 x k).sum) = (ks1.map fun k => (ys.map fun x => back1 x k).sum) := by
    refine List.map_congr_left fun k hkm => ?_
    have hb : ∀ k ∈ ks1, 0 ≤ k ∧ k < 10 := by decide
    exact col_sum (c := k) (hk k (hb k hkm).1 (hb k hkm).2) _ (fun v => Txt.find ("-" ++ chr1 ((Str.ofString "-rw-rw-rw-").cps.getD k.toNat 0)) (chr1 v) * 2 ^ (9 - k).toNat) fun x => rfl
  have h2 : (ks2.map fun k => (xs.map fun x => back2 x k).sum) = (ks2.map fun k => (ys.map fun x => back2 x k).sum) := by
    refine List.map_congr_left fun k hkm => ?_
    have hb : ∀ k ∈ ks2, 0 ≤ k ∧ k < 10 := by decide
    exact col_sum (c := k) (hk k (hb k hkm).1 (hb k hkm).2) _ (fun v => (Txt.find (if k < 9 then "-xSs" else "-xTt") (chr1 v)).fmod 2 * 2 ^ (9 - k).toNat + (Txt.find (if k < 9 then "-xSs" else "-xTt") (chr1 v)).fdiv 2 * 2 ^ (12 - k.fdiv 3).toNat) fun x => rfl
  rw [h0, h1, h2]

-- medians
theorem isort_low {cs : List Nat} {m : Nat} (h : ∀ v ∈ cs, 45 ≤ v) : isort (cs ++ List.replicate m 45) = List.replicate m 45 ++ isort cs := by
  refine sorted_eq _ _ (isort_sorted _) ?_ ?_
  · rw [List.pairwise_append]
    refine ⟨?_, isort_sorted _, fun a ha b hb => ?_⟩
    · rw [List.pairwise_replicate]; exact .inr (Nat.le_refl _)
    · rw [(List.mem_replicate.mp ha).2]
      exact h b ((isort_perm cs).mem_iff.mp hb)
  · exact (isort_perm _).trans (List.perm_append_comm.trans ((isort_perm cs).symm.append_left _))
theorem isort_high {cs : List Nat} {m t : Nat} (h : ∀ v ∈ cs, v ≤ t) : isort (cs ++ List.replicate m t) = isort cs ++ List.replicate m t := by
  refine sorted_eq _ _ (isort_sorted _) ?_ ?_
  · rw [List.pairwise_append]
    refine ⟨isort_sorted _, ?_, fun a ha b hb => ?_⟩
    · rw [List.pairwise_replicate]; exact .inr (Nat.le_refl _)
    · rw [(List.mem_replicate.mp hb).2]
      exact h a ((isort_perm cs).mem_iff.mp ha)
  · exact (isort_perm _).trans ((isort_perm cs).symm.append_right _)
theorem getD_app_left {l r : List Nat} {i : Nat} (h : i < l.length) : (l ++ r).getD i 0 = l.getD i 0 := by
  rw [List.getD_eq_getElem?_getD, List.getElem?_append_left h, List.getD_eq_getElem?_getD]
theorem getD_app_right {l r : List Nat} {i : Nat} (h : l.length ≤ i) : (l ++ r).getD i 0 = r.getD (i - l.length) 0 := by
  rw [List.getD_eq_getElem?_getD, List.getElem?_append_right h, List.getD_eq_getElem?_getD]
theorem getD_rep {m t i : Nat} (h : i < m) : (List.replicate m t).getD i 0 = t := by
  rw [List.getD_eq_getElem?_getD, List.getElem?_replicate, if_pos h]; rfl
theorem getD_rev {l : List Nat} {j : Nat} (h : j < l.length) : l.reverse.getD j 0 = l.getD (l.length - 1 - j) 0 := by
  rw [List.getD_eq_getElem?_getD, List.getElem?_reverse h, List.getD_eq_getElem?_getD]
/-- a padded column -/
def padC (N k t : Nat) : List Nat := if N ≤ 2 * k then List.replicate (2 * k - N) 45 else List.replicate (N - 2 * k) t
section
variable {cs : List Nat} {N k t : Nat}
theorem hi_pad (hl : cs.length = N) (h1 : ∀ v ∈ cs, 45 ≤ v ∧ v ≤ t) (hN : 0 < N) (hk : k ≤ N) : hiC (cs ++ padC N k t) = if k = 0 then t else (isort cs).reverse.getD (k - 1) 0 := by
  have il : (isort cs).length = N := by rw [(isort_perm cs).length_eq, hl]
  unfold hiC padC
  split
  · rename_i h
    rw [isort_low fun v hv => (h1 v hv).1]
    rw [if_neg (by omega), getD_rev (by omega), getD_app_right (by simp only [List.length_append, List.length_replicate, il]; omega)]
    congr 1
    simp only [List.length_append, List.length_replicate, il]; omega
  · rename_i h
    rw [isort_high fun v hv => (h1 v hv).2]
    split
    · subst k
      rw [getD_app_right (by simp only [List.length_append, List.length_replicate, il]; omega), getD_rep (by simp only [List.length_append, List.length_replicate, il]; omega)]
    · rw [getD_rev (by omega), getD_app_left (by simp only [List.length_append, List.length_replicate, il]; omega)]
      congr 1
      simp only [List.length_append, List.length_replicate, il]; omega
theorem lo_pad (hl : cs.length = N) (h1 : ∀ v ∈ cs, 45 ≤ v ∧ v ≤ t) (hN : 0 < N) (hk : k ≤ N) : loC (cs ++ padC N k t) = if k = N then 45 else (isort cs).reverse.getD k 0 := by
  have il : (isort cs).length = N := by rw [(isort_perm cs).length_eq, hl]
  unfold loC padC
  split
  · rename_i h
    rw [isort_low fun v hv => (h1 v hv).1]
    split
    · rw [getD_app_left (by simp only [List.length_append, List.length_replicate, il]; omega), getD_rep (by simp only [List.length_append, List.length_replicate, il]; omega)]
    · rw [getD_rev (by omega), getD_app_right (by simp only [List.length_append, List.length_replicate, il]; omega)]
      congr 1
      simp only [List.length_append, List.length_replicate, il]; omega
  · rename_i h
    rw [isort_high fun v hv => (h1 v hv).2]
    rw [if_neg (by omega), getD_rev (by omega), getD_app_left (by simp only [List.length_append, List.length_replicate, il]; omega)]
    congr 1
    simp only [List.length_append, List.length_replicate, il]; omega
end
theorem low_eq : lowS = ⟨((List.range 10).map fun _ => 45).toArray⟩ := by
  have h := fm_num (K := 8) (b := fun _ => 0) (by decide) (fun _ => by decide)
  exact h
theorem high_eq : highS = ⟨((List.range 10).map fun c => hs.getD c 0).toArray⟩ := by
  have h := fm_num (K := 12) (b := fun j => if j < 9 then 1 else 0) (by decide) (fun j => by split <;> decide)
  exact h
theorem col_app (xs ys : List Str) (c : Int) : colC (xs ++ ys) c = colC xs c ++ colC ys c := List.map_append
theorem pads_col {N : Nat} {k : Nat} {c : Nat} (hc : c < 10) : colC (padsOf N (k : Int)) (c : Int) = padC N k (hs.getD c 0) := by
  unfold padsOf padC colC
  by_cases h : N ≤ 2 * k
  · rw [if_pos (by omega), if_pos h, List.map_replicate, low_eq]
    show List.replicate _ ((⟨((List.range 10).map fun _ => 45).toArray⟩ : Str).cps.getD c 0) = _
    rw [codes_at _ hc]
    congr 1; omega
  · rw [if_neg (by omega), if_neg h, List.map_replicate, high_eq]
    show List.replicate _ ((⟨((List.range 10).map fun c => hs.getD c 0).toArray⟩ : Str).cps.getD c 0) = _
    rw [codes_at _ hc]
    congr 1; omega
theorem col_bd {fs : List Str} (hf : ∀ x ∈ fs, Row x) {c : Nat} (hc : c < 10) : ∀ v ∈ colC fs (c : Int), 45 ≤ v ∧ v ≤ hs.getD c 0 := fun v hv => by
  obtain ⟨x, hx, rfl⟩ := List.mem_map.mp hv
  exact V_bd ⟨c, hc⟩ _ ((hf x hx).inV c hc)
theorem up_pad {fs : List Str} (hf : ∀ x ∈ fs, Row x) (hN : 0 < fs.length) {k : Nat} (hk : k ≤ fs.length) : upOf (fs ++ padsOf fs.length (k : Int)) = if k = 0 then ("srwxrwxrwx" : Str) else dueAt fs ((k - 1 : Nat) : Int) := by
  have hcol : ∀ c ∈ List.range 10, hiC (colC (fs ++ padsOf fs.length (k : Int)) (c : Int)) = if k = 0 then hs.getD c 0 else dsc fs c (k - 1) := fun c hc => by
    have hc := List.mem_range.mp hc
    rw [col_app, pads_col hc, hi_pad (by simp [colC]) (col_bd hf hc) hN hk]
    rfl
  rw [up_codes, List.map_congr_left hcol]
  by_cases h : k = 0
  · subst h; rfl
  · simp only [h, if_false]
    rw [due_codes (by omega)]
theorem dn_pad {fs : List Str} (hf : ∀ x ∈ fs, Row x) (hN : 0 < fs.length) {k : Nat} (hk : k ≤ fs.length) : dnOf (fs ++ padsOf fs.length (k : Int)) = if k = fs.length then ("----------" : Str) else dueAt fs (k : Int) := by
  have hcol : ∀ c ∈ List.range 10, loC (colC (fs ++ padsOf fs.length (k : Int)) (c : Int)) = if k = fs.length then 45 else dsc fs c k := fun c hc => by
    have hc := List.mem_range.mp hc
    rw [col_app, pads_col hc, lo_pad (by simp [colC]) (col_bd hf hc) hN hk]
    rfl
  rw [dn_codes, List.map_congr_left hcol]
  by_cases h : k = fs.length
  · simp only [h, if_true]; rfl
  · simp only [h, if_false]
    rw [due_codes (by omega)]
end
-- part P5
section
open PySem PySem.W PyProof.Rows PySem.Calls
set_option maxRecDepth 100000
set_option maxHeartbeats 400000

/-- the letter of place p -/
def lt (p : Int) : Nat := (Str.ofString "-rw-rw-rw-").cps.getD p.toNat 0
theorem ks1_bd : ∀ p ∈ ks1, 0 ≤ p ∧ p < 10 ∧ (chr1 (lt p) == ("?" : Str)) = false ∧ 45 < lt p ∧ ∀ v ∈ V p.toNat, v = 45 ∨ v = lt p := by decide +kernel
theorem sg_at (ps : List Int) {k : Int} (hk : k ∈ upto 10) : (sg ps).getD k.toNat "" = signOf ps k := by
  obtain ⟨j, hj, rfl⟩ := List.mem_map.mp hk
  have hj := List.mem_range.mp hj
  unfold sg upto
  show ((List.map (signOf ps) (List.map (fun (i : Nat) => (i : Int)) (List.range 10))).getD j "") = _
  rw [List.map_map, List.getD_eq_getElem?_getD, List.getElem?_map, List.getElem?_range hj]
  rfl
theorem in_upto {p : Int} {n : Nat} (h0 : 0 ≤ p) (h1 : p < n) : p ∈ upto n := List.mem_map.mpr ⟨p.toNat, List.mem_range.mpr (by omega), Int.toNat_of_nonneg h0⟩
theorem mism_all {ps : List Int} (hps : ∀ p ∈ ps, p ∈ ks1) (row : Str) : listEq (· == ·) (mism (sg ps) row) [] = ps.all fun p => row.cps.getD p.toNat 0 == lt p := by
  rw [listEq_beq, Bool.eq_iff_iff, beq_iff_eq]
  unfold mism
  rw [List.filter_eq_nil_iff, List.all_eq_true]
  constructor
  · intro h p hp
    obtain ⟨h0, h1, h2, _⟩ := ks1_bd p (hps p hp)
    have := h p (in_upto h0 h1)
    rw [sg_at ps (in_upto h0 h1)] at this
    have e : signOf ps p = chr1 (lt p) := by
      unfold signOf
      rw [if_pos (by rw [List.contains_iff_mem]; exact hp)]; rfl
    rw [e] at this
    have e2 : (chr1 (lt p) != ("?" : Str)) = true := by rw [bne, h2]; rfl
    rw [e2, Bool.true_and, bne_iff_ne, ne_eq, Classical.not_not] at this
    rw [beq_iff_eq]
    exact (chr1_inj this).symm
  · intro h k hk hc
    rw [sg_at ps hk] at hc
    unfold signOf at hc
    split at hc
    · rename_i hm
      have := h k (List.contains_iff_mem.mp hm)
      rw [beq_iff_eq] at this
      rw [this] at hc
      simp [lt] at hc
    · simp at hc
theorem taken_eq {ps : List Int} (hps : ∀ p ∈ ps, p ∈ ks1) (rows : List Str) : taken (sg ps) rows = (rows.filter fun row => ps.all fun p => row.cps.getD p.toNat 0 == lt p).length := by
  unfold taken
  congr 1
  exact List.filter_congr fun row _ => mism_all hps row
def cnt (l : List Nat) (L : Nat) : Nat := (l.filter (· == L)).length
theorem cnt_perm {l l' : List Nat} (h : l.Perm l') (L : Nat) : cnt l L = cnt l' L := (h.filter _).length_eq
theorem taken_one {a : Int} (ha : a ∈ ks1) (rows : List Str) : taken (sg [a]) rows = cnt (colC rows a) (lt a) := by
  rw [taken_eq (by simpa using ha), cnt, colC, List.filter_map, List.length_map]
  congr 1
  refine List.filter_congr fun row _ => ?_
  simp
theorem desc_cnt {L : Nat} (hL : 45 < L) : ∀ l : List Nat, l.Pairwise (fun a b => b ≤ a) → (∀ v ∈ l, v = 45 ∨ v = L) → ∀ k, k < l.length → (l.getD k 0 == L) = decide (k < cnt l L)
  | [], _, _, k, h => by simp at h
  | v :: r, hp, hv, k, h => by
    rw [List.pairwise_cons] at hp
    have ih := desc_cnt hL r hp.2 (fun x hx => hv x (List.mem_cons_of_mem _ hx))
    rcases hv v List.mem_cons_self with e | e
    · have hz : cnt r L = 0 := by
        unfold cnt
        rw [List.length_eq_zero_iff, List.filter_eq_nil_iff]
        intro x hx hc
        have := hp.1 x hx
        rw [beq_iff_eq] at hc
        omega
      have hz' : cnt (v :: r) L = 0 := by
        have : (v == L) = false := by rw [beq_eq_false_iff_ne]; omega
        unfold cnt at hz ⊢
        rw [List.filter_cons, this]
        exact hz
      rw [hz']
      cases k with
      | zero =>
        show (v == L) = _
        have : (v == L) = false := by rw [beq_eq_false_iff_ne]; omega
        rw [this]; rfl
      | succ k =>
        show (r.getD k 0 == L) = _
        rw [ih k (by simpa using h), hz]
        simp
    · have hz' : cnt (v :: r) L = cnt r L + 1 := by
        have : (v == L) = true := by rw [beq_iff_eq]; exact e
        unfold cnt
        rw [List.filter_cons, this]
        rfl
      rw [hz']
      cases k with
      | zero =>
        show (v == L) = _
        have : (v == L) = true := by rw [beq_iff_eq]; exact e
        rw [this]; simp
      | succ k =>
        show (r.getD k 0 == L) = _
        rw [ih k (by simpa using h)]
        simp
theorem range_lt (m : Nat) : ∀ N : Nat, ((List.range N).filter fun k => decide (k < m)).length = min N m
  | 0 => by simp
  | N + 1 => by
    rw [List.range_succ, List.filter_append, List.length_append, range_lt m N]
    by_cases h : N < m
    · simp [h]; omega
    · simp [h]; omega
theorem due_place {fs : List Str} (hf : ∀ x ∈ fs, Row x) {a : Int} (ha : a ∈ ks1) {k : Nat} (hk : k < fs.length) : ((dueAt fs (k : Int)).cps.getD a.toNat 0 == lt a) = decide (k < cnt (colC fs a) (lt a)) := by
  obtain ⟨h0, h1, _, hL, hV⟩ := ks1_bd a ha
  have e : ((a.toNat : Nat) : Int) = a := Int.toNat_of_nonneg h0
  rw [due_codes hk, codes_at _ (by omega)]
  unfold dsc
  rw [e, ← cnt_perm ((List.reverse_perm _).trans (isort_perm (colC fs a)))]
  refine desc_cnt hL _ ?_ (fun v hv => ?_) k (by rw [List.length_reverse, colC_len]; exact hk)
  · rw [List.pairwise_reverse]
    exact isort_sorted _
  · have hm := (isort_perm _).mem_iff.mp (List.mem_reverse.mp hv)
    obtain ⟨row, hr, e'⟩ := List.mem_map.mp hm
    rw [← e']
    exact hV _ ((hf row hr).inV a.toNat (by omega))
theorem due_perm {fs : List Str} {a : Int} (ha : a ∈ ks1) : (colC ((upto fs.length).map (dueAt fs)) a).Perm (colC fs a) := by
  obtain ⟨h0, h1, _⟩ := ks1_bd a ha
  have e : ((a.toNat : Nat) : Int) = a := Int.toNat_of_nonneg h0
  have := due_col (fs := fs) (c := a.toNat) (by omega)
  rw [e] at this
  rw [this]
  exact (List.reverse_perm _).trans (isort_perm _)
theorem taken_due {fs : List Str} {a : Int} (ha : a ∈ ks1) : taken (sg [a]) ((upto fs.length).map (dueAt fs)) = taken (sg [a]) fs := by
  rw [taken_one ha, taken_one ha]
  exact cnt_perm (due_perm ha) _
theorem taken_two {fs : List Str} (hf : ∀ x ∈ fs, Row x) {a b : Int} (ha : a ∈ ks1) (hb : b ∈ ks1) : taken (sg [a, b]) ((upto fs.length).map (dueAt fs)) = min (taken (sg [a]) fs) (taken (sg [b]) fs) := by
  rw [taken_one ha, taken_one hb, taken_eq (by intro p hp; simp at hp; rcases hp with rfl | rfl; exact ha; exact hb)]
  unfold upto
  rw [List.map_map, List.filter_map, List.length_map]
  have e : (List.range fs.length).filter ((fun row : Str => [a, b].all fun p => row.cps.getD p.toNat 0 == lt p) ∘ (dueAt fs ∘ fun (i : Nat) => (i : Int))) = (List.range fs.length).filter fun k => decide (k < min (cnt (colC fs a) (lt a)) (cnt (colC fs b) (lt b))) := by
    refine List.filter_congr fun k hk => ?_
    have hk := List.mem_range.mp hk
    show ([a, b].all fun p => (dueAt fs (k : Int)).cps.getD p.toNat 0 == lt p) = _
    rw [List.all_cons, List.all_cons, List.all_nil, due_place hf ha hk, due_place hf hb hk, Bool.and_true, Bool.eq_iff_iff]
    simp only [Bool.and_eq_true, decide_eq_true_eq]
    omega
  rw [e, range_lt]
  have h1 : cnt (colC fs a) (lt a) ≤ fs.length := by
    have := List.length_filter_le (· == lt a) (colC fs a)
    unfold cnt
    simpa [colC] using this
  omega

-- what is read out of the patterns
def codesOf (ps : List Int) : List Nat := (Txt.rstripChars (Txt.join "" (sg ps)) "?").cps.toList
def readB (signs : List Str) (b : List Nat) : Bool :=
  (signs.all fun y => decide (y.length ≤ 1)) && decide (signs.length ≤ 1000) && (b.all fun c => c == 63 || c == 114 || c == 119) && decide (b.length ≤ 10) && decide ((Txt.rstripChars (Txt.join "" signs) "?").length ≤ 1000) &&
  decide (patOf signs = ⟨(b ++ [42]).toArray⟩) && decide ((jnOf b).length ≤ 10000) && decide (Txt.slice (jnOf b) none (some 4) = "(?s:") && decide (Txt.slice (jnOf b) (some (-3)) none = ")\\Z") &&
  decide (Txt.slice (jnOf b) (some 4) (some (-3)) = bodyOf b) && ((List.range b.length).all fun k => !(Txt.slice (bodyOf b) (some (k : Int)) none == (".*" : Str))) && (Txt.slice (bodyOf b) (some (b.length : Int)) none == (".*" : Str)) &&
  decide (b.map backS ++ List.replicate (10 - b.length) ("?" : Str) = signs)
theorem readB_ok {signs : List Str} {b : List Nat} (h : readB signs b = true) : ReadOk signs := by
  unfold readB at h
  simp only [Bool.and_eq_true, decide_eq_true_eq, List.all_eq_true] at h
  obtain ⟨⟨⟨⟨⟨⟨⟨⟨⟨⟨⟨⟨h1, h2⟩, h3⟩, h4⟩, h5⟩, h6⟩, h7⟩, h8⟩, h9⟩, h10⟩, h11⟩, h12⟩, h13⟩ := h
  refine ⟨h1, h2, b, fun c hc => ?_, h4, h5, h6, ⟨h7, h8, h9, h10, fun k hk => ?_, h12⟩, h13⟩
  · have := h3 c hc
    simpa [or_assoc] using this
  · have := h11 k (List.mem_range.mpr hk)
    simpa using this
theorem read_one : ∀ a ∈ ks1, readB (sg [a]) (codesOf [a]) = true := by decide +kernel
theorem read_two : ∀ a ∈ ks1, ∀ b ∈ ks1, readB (sg [a, b]) (codesOf [a, b]) = true := by decide +kernel
end
-- part P6
section
open PySem PySem.W PyProof.Rows PySem.Calls
set_option maxRecDepth 100000
set_option maxHeartbeats 400000

theorem getD_low {ns : List Int} (h : Nums ns) (j : Nat) : 0 ≤ ns.getD j 0 ∧ ns.getD j 0 < 64 := by
  by_cases hj : j < ns.length
  · rw [List.getD_eq_getElem?_getD, List.getElem?_eq_getElem hj]
    exact h.low _ (List.getElem_mem hj)
  · rw [List.getD_eq_getElem?_getD, List.getElem?_eq_none (by omega)]
    exact ⟨by decide, by decide⟩
theorem kinds_in {z : Int} (h0 : 0 ≤ z) (h1 : z < 7) : ∃ K : Nat, K ∈ kindsN ∧ kinds.getD z.toNat 0 = (K : Int) := by
  have h : ∀ j : Fin 7, (kindsN.getD j.val 0) ∈ kindsN ∧ kinds.getD j.val 0 = ((kindsN.getD j.val 0 : Nat) : Int) := by decide
  exact ⟨_, h ⟨z.toNat, by omega⟩⟩
theorem mode_nat {ns : List Int} (h : Nums ns) (i : Int) : ∃ z : Nat, modeOf ns i = (z : Int) ∧ z / 4096 ∈ kindsN := by
  have hk := fdiv_fmod_facts (ns.getD (2 + 3 * i).toNat 0) 7
  obtain ⟨K, hK, e⟩ := kinds_in (z := (ns.getD (2 + 3 * i).toNat 0).fmod 7) (by omega) (by omega)
  have h1 := getD_low h (3 + 3 * i).toNat
  have h2 := getD_low h (4 + 3 * i).toNat
  unfold modeOf
  rw [e]
  generalize ns.getD (3 + 3 * i).toNat 0 = u at *
  generalize ns.getD (4 + 3 * i).toNat 0 = l at *
  refine ⟨K * 4096 + u.toNat * 64 + l.toNat, by omega, ?_⟩
  have : (K * 4096 + u.toNat * 64 + l.toNat) / 4096 = K := by omega
  rw [this]; exact hK
theorem law_ok {ns : List Int} (h : Nums ns) (N : Nat) (h2 : 2 ≤ N) : LawOk ns N := by
  have gl : (givenOf ns N).length = N := by simp [givenOf]
  have gz : ∀ g ∈ givenOf ns N, Row (fmOf g) ∧ backOf (fmOf g) = g := fun g hg => by
    obtain ⟨i, _, rfl⟩ := List.mem_map.mp hg
    obtain ⟨z, e, hz⟩ := mode_nat h i
    rw [e]
    exact mode_row hz
  have fl : (filesOf ns N).length = N := by simp [filesOf, gl]
  have fr : ∀ x ∈ filesOf ns N, Row x := fun x hx => by
    obtain ⟨g, hg, rfl⟩ := List.mem_map.mp hx
    exact (gz g hg).1
  have gb : ((givenOf ns N).map fmOf).map backOf = givenOf ns N := by
    rw [List.map_map]
    conv => rhs; rw [← List.map_id (givenOf ns N)]
    exact List.map_congr_left fun g hg => (gz g hg).2
  have dr : ∀ x ∈ (upto N).map (dueAt (filesOf ns N)), Row x := by
    have := due_row fr
    rwa [fl] at this
  have n1 := getD_low h 1
  have f1 := fdiv_fmod_facts (ns.getD 1 0) 6
  have f2 := fdiv_fmod_facts ((ns.getD 1 0).fdiv 6) 6
  have pA : placeA ns ∈ ks1 := List.mem_of_getElem? (ks1_get (by omega) (by omega))
  have pB : placeB ns ∈ ks1 := List.mem_of_getElem? (ks1_get (by omega) (by omega))
  refine ⟨fun z hz => (dr z hz).size, ?_, ?_, ?_, gb, ?_, ?_, ?_⟩
  · have e := back_sum (xs := (upto (filesOf ns N).length).map (dueAt (filesOf ns N))) (ys := filesOf ns N) fun c hc => by
      rw [due_col hc]
      exact (List.reverse_perm _).trans (isort_perm _)
    rw [fl] at e
    rw [e]
    show (((givenOf ns N).map fmOf).map backOf).sum = _
    rw [gb]
  · rw [List.map_map]
    conv => rhs; rw [← List.map_id ((upto N).map (dueAt (filesOf ns N)))]
    exact List.map_congr_left fun x hx => (dr x hx).fm
  · intro signs hs
    simp only [askedOf, List.mem_cons, List.not_mem_nil, or_false] at hs
    rcases hs with rfl | rfl | rfl
    · exact readB_ok (read_one _ pA)
    · exact readB_ok (read_one _ pB)
    · exact readB_ok (read_two _ pA _ pB)
  · have e : ∀ k, k ≤ N → upOf (rowsOf ns N (k : Int)) = if k = 0 then ("srwxrwxrwx" : Str) else dueAt (filesOf ns N) ((k - 1 : Nat) : Int) := fun k hk => by
      have := up_pad fr (by omega) (k := k) (by omega)
      rw [fl] at this
      exact this
    unfold upto
    rw [List.map_map, List.map_map, List.map_map, List.range_succ_eq_map, List.map_cons, List.map_map]
    refine List.cons_eq_cons.mpr ⟨(e 0 (by omega)).trans (if_pos rfl), List.map_congr_left fun k hk => ?_⟩
    have hk := List.mem_range.mp hk
    exact (e (k + 1) (by omega)).trans (if_neg (by omega))
  · have e : ∀ k, k ≤ N → dnOf (rowsOf ns N (k : Int)) = if k = N then ("----------" : Str) else dueAt (filesOf ns N) (k : Int) := fun k hk => by
      have := dn_pad fr (by omega) (k := k) (by omega)
      rw [fl] at this
      exact this
    unfold upto
    rw [List.map_map, List.map_map, List.map_map, List.range_succ, List.map_append]
    have l1 : (List.range N).map (dnOf ∘ (rowsOf ns N ∘ fun (i : Nat) => (i : Int))) = (List.range N).map (dueAt (filesOf ns N) ∘ fun (i : Nat) => (i : Int)) := by
      refine List.map_congr_left fun k hk => ?_
      have hk := List.mem_range.mp hk
      exact (e k (by omega)).trans (if_neg (by omega))
    have l2 : [N].map (dnOf ∘ (rowsOf ns N ∘ fun (i : Nat) => (i : Int))) = [("----------" : Str)] := List.cons_eq_cons.mpr ⟨(e N (by omega)).trans (if_pos rfl), rfl⟩
    rw [← l1, ← l2]
    rfl
  · have t1 := taken_due (fs := filesOf ns N) pA
    have t2 := taken_due (fs := filesOf ns N) pB
    have t3 := taken_two fr pA pB
    rw [fl] at t1 t2 t3
    simp only [askedOf, List.map_cons, List.map_nil, t1, t2, t3]
    have : ((min (taken (sg [placeA ns]) (filesOf ns N)) (taken (sg [placeB ns]) (filesOf ns N)) : Nat) : Int) = min (taken (sg [placeA ns]) (filesOf ns N) : Int) (taken (sg [placeB ns]) (filesOf ns N) : Int) := by omega
    rw [this]
end
end Mine
open PySem PySem.W PyProof.Rows
namespace Mine
section
set_option maxRecDepth 100000
/-- the law's def -/
noncomputable def lawD : DefRec := ((defOf qv "law").map (·.1)).getD ⟨"", fp48, [], fs48, default⟩
theorem def_ok : defOf qv "law" = some (lawD, []) := by kernel_rfl
theorem the_ok : PW.theDef "law" = some (lawD.params, lawD.body, lawD.scope) := by kernel_rfl
theorem kw_ok : kwWritten? lawD.params.kwonlyargs lawD.params.kw_defaults = some [] := by kernel_rfl
theorem open_ok : (chainsOk qv && opensWell PySem.Challenge.rw_in0253_01.row.prog && (frees PySem.Challenge.rw_in0253_01.row.toRowW && PySem.Challenge.rw_in0253_01.row.within.isEmpty)) = true := by decide +kernel
theorem bare_ok : PySem.Challenge.rw_in0253_01.row.prog.bare := ⟨rfl, rfl, rfl, rfl, rfl, by decide +kernel⟩
theorem ref_inj {a b : Addr} (h : some (Value.ref a) = some (Value.ref b)) : a = b := by
  injection h with h; injection h
theorem prom_ok : PySem.Challenge.rw_in0253_01.row.toRowW.promised := by w_witness2
end
end Mine
set_option maxRecDepth 100000 in
set_option maxHeartbeats 4000000 in
theorem PySem.Challenge.cw_in0253_01_holds : PySem.Challenge.rw_in0253_01.Holds := by
  w_on
  o_law
  refine holds_open (q := Mine.qv) (loose := Mine.looseL) (Xt := Mine.xt) (XP := XL Mine.qv []) (Yf := Mine.yf) (Ya := Mine.ya) (YP := InK Mine.KF) (N := 4980) Mine.left_ok
    (fun w s e => InK.of (fun _ => rfl) w s e) InK.keeps (fun s e => xl_of s (Bool.and_eq_true_iff.mp e).1) XL.keeps Mine.def_ok Mine.the_ok Mine.kw_ok (fun s e => recFacts_of (Bool.and_eq_true_iff.mp e).2) rfl (by assumption) Mine.open_ok Mine.bare_ok Mine.prom_ok ?_
  intro w s₀ s₁ mg mb G Y fa o pm cd doc dV kV ho hd hcd hD hmg hg args vals as' hpre hlay hrd hwl hlo
  have KX : (Mine.KF w.params).In s₁.heap := Y
  clear hd hcd hD Y
  refine Ground.open G ?_
  intro T B D TE TW
  have h := mg_of KX T.g (n := "law") (v := .ref 193) (by rfl)
  have hn : Mine.lawD.name = "law" := defOf_name Mine.def_ok
  rw [hn] at hmg
  have e : 193 = fa := Mine.ref_inj (h.symm.trans hmg)
  subst e
  clear hmg ho hn h
  have gr : Mine.Gr (Mine.KK w) s₁.heap.get? := ⟨fun a o e => KX a o e, fun hp k => T.nolimit.keeps k, mg, mb, Mine.NsM.of T.g fun _ e => e, Mine.NsM.of T.b fun _ e => e, T.builtins⟩
  wrow_args hpre hlay hrd hwl hlo
  clear G B D TE TW KX
  rename_i ns _ _ _ _ _ _ _ a vs _ hL _ _ _ hI _ hc _
  have hlen : ns.length ≤ 63 := by
    have : ¬ ((63 : Int) < (ns.length : Int)) := hc
    omega
  have hr : Mine.scriptR.r s₁.heap.get? (.ref a) ns := by
    obtain ⟨o, h1, h2, n, h3⟩ := hL
    obtain ⟨c, d, dt, sl⟩ := o
    subst h2 h3
    exact ⟨a, _, d, vs.toArray, n, sl, rfl, rfl, h1, by simpa using Mine.paired_ints hI⟩
  have g := Mine.F_law (w := w) (A := callerA) gr (n := 0) ⟨rfl, by decide, by decide⟩ hlen (fun N h2 _ => Mine.law_ok (Mine.nums_ok ns) N h2) (vs := [.ref a]) ⟨_, [], rfl, hr, rfl⟩
  refine g.run s₁ (Mine.Le.refl _) _ _ fun v h' tk k r => ?_
  have ev : v = .bool true := r
  subst ev
  refine GoodW.toG ⟨.inl ⟨_, _, [], rfl, raisesW_false (fun _ h => nomatch h), .bool true, ?_, unshared_nil⟩, k, rfl, hg⟩
  wrow_post
